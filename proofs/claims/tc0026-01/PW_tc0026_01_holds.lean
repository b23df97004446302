import PyProof.Rows.All
import Wide.All
import OpenK.AllK
import Wide.FinOn
import PyProof.PureCalls
import PySem.Challenge.RW_tc0026_01
set_option Elab.async false

section
open PySem PySem.W PyProof.Rows
namespace Mine
set_option maxRecDepth 100000 in
set_option maxHeartbeats 8000000 in
open_top hd for PySem.Challenge.rw_tc0026_01
end Mine
end

section
theorem Mine.reset1 : True := by
  w_top off
  k_with_none
  trivial
open PySem PySem.W PyProof.Rows
set_option maxRecDepth 100000
namespace Mine
/-- a goal that the walker leaves alone -/
def Held (P : Prop) : Prop := P
theorem Held.of {P : Prop} (h : Held P) : P := h
theorem Held.out {P : Prop} (h : P) : Held P := h

theorem fill : Challenge.rw_tc0026_01.name = Challenge.rw_tc0026_01.name ∧ Mine.hd.heap_39 = Mine.hd.heap_39 := by
  k_fill
  exact ⟨rfl, rfl⟩
end Mine
end

section
theorem Mine.reset2 : True := by
  w_top off
  k_with_none
  trivial
open PySem PySem.W PyProof.Rows PySem.Calls PyProof.V PySem.Spec
set_option maxRecDepth 100000
namespace Mine
section
variable {prog : Program} {w : World} {A : Around} {E : Value → Shared → Prop} {s : Shared} {env : Env} {h₀ : Heap} {x : Str} {body : List Stmt} {Q : Flow → Shared → Prop}

/-- a for over a range by ones, by any word J of the turn's number, the frame's map and the ledger -/
theorem range_J {r : Addr} {a₀ b₀ : Int} {t₀ u₀ v₀ : Tok} {n : Nat} {m₀ : Str → Option Value} {news : List (Addr × Obj)} (J : Nat → (Str → Option Value) → List (Addr × Obj) → Prop)
    (hh : A.handled = none) (hr : IsRange s.heap r a₀ b₀ 1 t₀ u₀ v₀) (hsmall : Builtin.Range.small a₀ b₀ 1 = true) (hsz : Builtin.Range.rangeSize a₀ b₀ 1 = (n : Int))
    (F : Fr h₀ env.locals s.heap m₀) (N : News h₀ env.locals s.heap news) (hj : J 0 m₀ news)
    (turn : ∀ i t m₁ nx h tk own, i < n → OwnOff own (nx.map (·.1)) → J i m₁ nx →
      Fr h₀ env.locals h (fun y => if y = x then some (.int (a₀ + (i : Int)) t) else m₁ y) → News h₀ env.locals h (nx ++ own) →
      wpAny (model prog w) A (execs body env) (InvPostG h₀ env.locals (J (i + 1)) own { s with heap := h, toks := tk } Q) E { s with heap := h, toks := tk })
    (done : ∀ m₁ nx h tk, J n m₁ nx → Fr h₀ env.locals h m₁ → News h₀ env.locals h nx → Q .next { s with heap := h, toks := tk }) :
    wpAny (model prog w) A (pyIter (.ref r)) (fun it s₂ => LoopAtV prog w A h₀ env x body Q E it s₂) E s := by
  refine wpAny_pyIter_range hr hsmall ?_
  have W : Walks prog w A s.heap.objs.size [s.heap.objs.size] [s.heap.objs.size] n (fun i v => i < n ∧ ∃ t, v = .int (a₀ + i * 1) t)
      (fun i h => IsRangeIter h s.heap.objs.size (a₀ + (i : Nat) * 1) ((n : Int) - (i : Nat)) 1) := (Walks.range hh _ a₀ 1 n).bound
  refine kdr_loop J W (fun _ h => h) (fun _ h => h) ?_ ?_ ?_ ?_ (by show IsRangeIter _ _ _ _ _; rw [hsz]; simpa using Heap.get?_push_size _ rfl) (F.push _) (fun p hp => ⟨Heap.get?_push_of_some _ (N p hp).1, (N p hp).2⟩) hj ?_ ?_
  · intro i h hi b hb
    rw [List.mem_singleton.mp hb]
    exact ⟨_, hi⟩
  · intro hm
    exact absurd F.ns.lt ((List.mem_singleton.mp hm) ▸ Nat.lt_irrefl _)
  · intro b hb
    rw [List.mem_singleton.mp hb]
    exact next_is_new F
  · intro p hp hI
    exact absurd (Heap.lt_size (N p hp).1) ((List.mem_singleton.mp hI) ▸ Nat.lt_irrefl _)
  · rintro i v m₁ nx h tk own hi ⟨_, t, rfl⟩ hoff hJ F₁ N₁
    have e1 : a₀ + (i : Int) * 1 = a₀ + (i : Int) := by omega
    rw [e1] at F₁
    exact turn i t m₁ nx h tk own hi hoff hJ F₁ N₁
  · rintro m₁ nx h tk hJ F₁ N₁
    exact done m₁ nx h tk hJ F₁ N₁

/-- names of the frame, known: written out -/
theorem known_eq {m : Str → Option Value} {ps : List (Str × Value)} (h : ∀ p ∈ ps, m p.1 = some p.2) : kstB m ps = m := by
  funext z
  exact kstB_eq h fun _ => rfl
theorem fr_known {h : Heap} {L : Addr} {m : Str → Option Value} {ps : List (Str × Value)} (hk : ∀ p ∈ ps, m p.1 = some p.2) (F : Fr h₀ L h m) : Fr h₀ L h (kstB m ps) := by
  rw [known_eq hk]; exact F
theorem fr_knownX {h : Heap} {L : Addr} {m : Str → Option Value} {v : Value} {ps : List (Str × Value)} (hk : ∀ p ∈ ps, m p.1 = some p.2) (F : Fr h₀ L h (fun z => if z = x then some v else m z)) :
    Fr h₀ L h (fun z => if z = x then some v else kstB m ps z) := by
  rw [known_eq hk]; exact F
end
end Mine
end

section
theorem Mine.reset3 : True := by
  w_top off
  k_with_none
  trivial
open PySem PySem.W PyProof.Rows PySem.Calls PyProof.V PySem.Spec
open PySem.Builtin PySem.Builtin.Str PySem.StrLaws
set_option maxRecDepth 100000
namespace Mine
abbrev dots : Str := Str.ofString "..."
theorem dots_eq : dots = ⟨#[46, 46, 46]⟩ := by decide +kernel
theorem dots_len : dots.length = 3 := by decide +kernel

theorem at_dots {R : Str} (hR : ∀ c ∈ R.cps.toList, c ≠ 46) {c : Nat} : At (R ++ dots) dots (R ++ dots).length c ↔ c = R.length := by
  have hl : (R ++ dots).length = R.length + 3 := by rw [Str.length_append, dots_len]
  have hcps : (R ++ dots).cps.toList = R.cps.toList ++ [46, 46, 46] := by rw [Str.cps_append, dots_eq]; simp
  have hRl : R.cps.toList.length = R.length := by simp [Str.length]
  unfold At
  rw [hl, dots_len, subAt_eq, hcps]
  constructor
  · rintro ⟨h1, h2⟩
    rw [dots_eq] at h2
    have h3 := of_decide_eq_true (p := _ = _) (by simpa using h2)
    by_cases h : c = R.length
    · exact h
    · exfalso
      have hc : c < R.cps.toList.length := by omega
      have h4 : ((R.cps.toList ++ [46, 46, 46]).drop c).head? = some 46 := by
        have h5 : (((R.cps.toList ++ [46, 46, 46]).drop c).take 3).head? = some 46 := by
          have : (⟨#[46, 46, 46]⟩ : Str).length = 3 := rfl
          rw [this] at h3
          rw [h3]; rfl
        cases hd : (R.cps.toList ++ [46, 46, 46]).drop c with
        | nil => rw [hd] at h5; cases h5
        | cons a r => rw [hd] at h5; exact h5
      rw [List.head?_drop, List.getElem?_append_left hc, List.getElem?_eq_getElem hc] at h4
      exact hR _ (List.getElem_mem hc) (Option.some.inj h4)
  · rintro rfl
    refine ⟨Nat.le_refl _, ?_⟩
    rw [← hRl, List.drop_left]
    rw [dots_eq]
    rfl

theorem occ_dots {R : Str} (hR : ∀ c ∈ R.cps.toList, c ≠ 46) : occurrences (R ++ dots) dots 0 (R ++ dots).length ((R ++ dots).length + 1) = [R.length] := by
  have hl : (R ++ dots).length = R.length + 3 := by rw [Str.length_append, dots_len]
  obtain ⟨f, h1, h2⟩ := occ_tight (R ++ dots) dots (by rw [dots_len]; decide)
  cases hc : occurrences (R ++ dots) dots 0 (R ++ dots).length ((R ++ dots).length + 1) with
  | nil =>
    rw [hc] at h1
    have hf : f = 0 := h1
    exact absurd ((at_dots hR).mpr rfl) (h2 R.length (by omega))
  | cons c r =>
    rw [hc] at h1
    obtain ⟨_, ha, _, hr⟩ := h1
    have hcR := (at_dots hR).mp ha
    subst hcR
    cases r with
    | nil => rfl
    | cons c' r =>
      obtain ⟨h3, h4, _, _⟩ := hr
      have := (at_dots hR).mp h4
      rw [dots_len] at h3
      omega
theorem occ1_dots {R : Str} (hR : ∀ c ∈ R.cps.toList, c ≠ 46) : (occurrences (R ++ dots) dots 0 (R ++ dots).length 1).isEmpty = false := by
  have h := (found_iff (R ++ dots) dots).mpr ⟨R.length, (at_dots hR).mpr rfl⟩
  simpa using h
theorem parts_dots {R : Str} (hR : ∀ c ∈ R.cps.toList, c ≠ 46) : partsBetween (R ++ dots) (occurrences (R ++ dots) dots 0 (R ++ dots).length ((R ++ dots).length + 1)) dots.length = [R, ⟨#[]⟩] := by
  have hl : (R ++ dots).length = R.length + 3 := by rw [Str.length_append, dots_len]
  rw [occ_dots hR, partsBetween]
  simp only [List.map_cons, List.map_nil, List.cons_append, List.nil_append, List.zip_cons_cons, List.zip_nil_right]
  have e1 : strSub (R ++ dots) 0 R.length = R := by
    refine Str.ext' ?_
    apply Array.ext'
    rw [strSub_toList, Str.cps_append]
    simp [Str.length]
  have e2 : strSub (R ++ dots) (R.length + dots.length) (R ++ dots).length = ⟨#[]⟩ := by
    refine Str.ext' ?_
    apply Array.ext'
    rw [strSub_toList, hl, dots_len]
    simp
  rw [e1, e2]

section
variable {prog : Program} {w : World} {A : Around} {E : Value → Shared → Prop} {s : Shared} {Q : Value → Shared → Prop} {h₀ : Heap} {L : Addr} {m : Str → Option Value} {news : List (Addr × Obj)}
theorem split_dots {x R : Str} {t u : Tok} (hx : x = R ++ dots) (hR : ∀ c ∈ R.cps.toList, c ≠ 46) (hlen : R.length ≤ 1000) (F : Fr h₀ L s.heap m) (N : News h₀ L s.heap news)
    (h : ∀ D h' t1 t2 k, Fr h₀ L h' m → News h₀ L h' ((D, W.listOf [.str R t1, .str ⟨#[]⟩ t2].toArray 0) :: news) → (∀ p ∈ news, p.1 < D) → Q (.ref D) { s with heap := h', toks := k }) :
    wpAny (model prog w) A (call (.builtin "str.split") [.str x t, .str dots u]) Q E s := by
  subst hx
  have hl : (R ++ dots).length = R.length + 3 := by rw [Str.length_append, dots_len]
  have h1 : (decide ((R ++ dots).length < dots.length) || decide (PySem.Builtin.Str.strKind (R ++ dots) < PySem.Builtin.Str.strKind dots)) = false := by
    rw [hl, dots_len]
    have e1 : PySem.Builtin.Str.strKind dots = 1 := by decide +kernel
    rw [e1]
    have e2 : ¬ PySem.Builtin.Str.strKind (R ++ dots) < 1 := by
      unfold PySem.Builtin.Str.strKind
      split
      · decide
      · split <;> decide
    simp only [Bool.or_eq_false_iff, decide_eq_false_iff_not]
    exact ⟨by omega, e2⟩
  have hf : (occurrences (R ++ dots) dots 0 (R ++ dots).length ((R ++ dots).length + 1)).isEmpty = false := by rw [occ_dots hR]; rfl
  refine call_meets PySem.F.slot_str_split (typeIs_str _ _ _) PySem.F.entry_str_split (PySem.F.args_str_split_2 _ _) (meets_str_split_sep (R ++ dots) dots t u h1 (by decide +kernel) hf (by rw [hl, sizeLine_eq]; omega) (by rw [parts_dots hR, sizeLine_eq]; exact Nat.le_of_ble_eq_true rfl)) ?_
  rw [parts_dots hR]
  exact h _ _ _ _ _ (F.push _) (N.push F _) (fun p hp => Heap.lt_size (N p hp).1)
end

theorem gives_find4 (x y : Str) (i j : Int) (t u v v' : Tok) : Gives (Builtin.«str.find» ⟨[.str x t, .str y u, .int i v, .int j v'], []⟩)
    (.int (match occurrences x y (PySem.fromIndex x.length i) (min (PySem.fromIndex x.length j) x.length) 1 with | k :: _ => (k : Int) | [] => -1)) := by
  show Gives (match occurrences x y (PySem.fromIndex x.length i) (min (PySem.fromIndex x.length j) x.length) 1 with | k :: _ => retInt k | [] => (do rule "str.find.not-found"; retInt (-1))) _
  cases occurrences x y (PySem.fromIndex x.length i) (min (PySem.fromIndex x.length j) x.length) 1 with
  | nil => exact .rule (.of_eq rfl)
  | cons k _ => exact .of_eq rfl
theorem at_nil {x : Str} {i : Nat} (h : i ≤ x.length) : At x ⟨#[]⟩ x.length i := by
  refine ⟨h, ?_⟩
  rw [subAt_eq]; rfl
theorem occ_nil {x : Str} {lo : Nat} (h : lo ≤ x.length) : ∃ r, occurrences x ⟨#[]⟩ lo x.length 1 = lo :: r := by
  rcases occ_head_from x ⟨#[]⟩ lo 1 (Nat.le_refl _) with ⟨_, h1⟩ | ⟨i, r, h1, h2, _, h3⟩
  · exact absurd (at_nil h) (h1 lo (Nat.le_refl _))
  · have : i = lo := by
      by_cases e : lo < i
      · exact absurd (at_nil h) (h3 lo (Nat.le_refl _) e)
      · omega
    subst this
    exact ⟨r, h1⟩
section
variable {prog : Program} {w : World} {A : Around} {E : Value → Shared → Prop} {s : Shared} {Q : Value → Shared → Prop}
theorem find4_nil {x : Str} {i : Int} {t u v v' : Tok} (h0 : 0 ≤ i) (h1 : i ≤ (x.length : Int)) (hq : Q (.int i s.toks) { s with toks := s.toks + 1 }) :
    wpAny (model prog w) A (call (.builtin "str.find") [.str x t, .str (Str.ofString "") u, .int i v, .int (x.length : Int) v']) Q E s := by
  rw [show Str.ofString "" = ⟨#[]⟩ by decide +kernel]
  refine call_gives PySem.F.slot_str_find (typeIs_str _ _ _) PySem.F.entry_str_find (PySem.F.args_str_find_4 _ _ _ _) (gives_find4 x ⟨#[]⟩ i (x.length : Int) t u v v') ?_
  have e1 : PySem.fromIndex x.length (x.length : Int) = x.length := by unfold PySem.fromIndex; rw [if_neg (by omega)]; omega
  have e2 : PySem.fromIndex x.length i = i.toNat := by unfold PySem.fromIndex; rw [if_neg (by omega)]; omega
  rw [e1, e2, Nat.min_self]
  obtain ⟨r, hr⟩ := occ_nil (x := x) (lo := i.toNat) (by omega)
  rw [hr]
  have e3 : ((i.toNat : Nat) : Int) = i := by omega
  show Q (.int ((i.toNat : Nat) : Int) s.toks) _
  rw [e3]
  exact hq
end
end Mine
end

section
theorem Mine.reset4 : True := by
  w_top off
  k_with_none
  trivial
open PySem PySem.W PyProof.Rows PySem.Calls PyProof.V PySem.Spec
set_option maxRecDepth 100000
namespace Mine
theorem fillEll : Challenge.rw_tc0026_01.name = Challenge.rw_tc0026_01.name ∧ Mine.hd.heap_39 = Mine.hd.heap_39 := by
  k_fill
  exact ⟨rfl, rfl⟩
local macro_rules | `(tactic| walk_at "exec For Name Name cons nil") => `(tactic| (k_here; (rename Fr _ _ _ _ => lF'); (with_unfolding_all refine' For_invVF lF' ?k1 ?k2 ?_; (case k1 => exact rfl); (case k2 => exact rfl); k_whole)))
local macro_rules | `(tactic| walk_at "call builtin:str.find") => `(tactic| ((with_reducible show wpAny _ _ (call (Value.builtin "str.find") [Value.str _ _, Value.str _ _, Value.int _ _, Value.int _ _]) _ _ _); (refine find4_nil (by omega) (by omega) ?_)))
local macro_rules | `(tactic| walk_at "call builtin:str.split") => `(tactic| ((rename (∀ c ∈ _, c ≠ 46) => hR'); (refine' split_dots rfl hR' (by assumption) ?F ?N ?_; (case F => k_asm); (case N => k_asm); k_whole; intro D' h' t1' t2' k' F' N' l1; (try k_lt l1); (try k_sweep))))

set_option maxHeartbeats 4000000 in
theorem ell_ok {prog : Program} {w : World} {p : Program} {loose : List Str} {mean : ExcName → Option Value} {mg mb : Str → Option Value} {news : List (Addr × Obj)} {R got : Str} {t1 t2 : Tok}
   (hR : ∀ c ∈ R.cps.toList, c ≠ 46) (hlen : R.length ≤ 1000) (hne : 0 < R.length) (hgot : got.length ≤ 1000) :
   CbClaim prog w (Mine.hd.heap_39 w.params) p loose mean mg mb 182 news [] True [.str (R ++ dots) t1, .str got t2] (fun _ => .bool (Txt.startswith got R)) := by
  unfold CbClaim
  dsimp only [CbLists, CbRet]
  intros
  rename_i hret
  k_with "pyIter ref" => refine Held.of ?_
  refine wpAny_call ?_
  cell_enter
  k_steps
  · rename_i h _ _ _ _
    rw [occ1_dots hR] at h; cases h
  · rename_i hs _ _ _ _ _ _ h _ _ _ _
    exfalso
    unfold Txt.startswith at hs
    simp only [Bool.and_eq_true, decide_eq_true_eq] at hs
    omega
  · rename_i D' _ t1' t2' _ _ _ _ _ _ _ _ _ _ _ _ _ hs _ _ _ F' N' _ h
    refine Held.out (kdl_iter (fun i m nx => (∀ p ∈ news, p ∈ nx) ∧ (i = 0 → ∃ ta tb, m (Str.ofString "startpos") = some (.int (R.length : Int) ta) ∧ m (Str.ofString "endpos") = some (.int (got.length : Int) tb) ∧ m (Str.ofString "got") = some (.str got t2))) rfl (by k_mem) F' N' ?_ ?_ ?_)
    · exact ⟨fun p hp => .tail _ (.tail _ hp), fun _ => ⟨_, _, rfl, rfl, rfl⟩⟩
    · rintro i v m₁ nx h tk own hv hoff hl ⟨hk, hm⟩ F₁ N₁
      have hi : i = 0 := by
        have := (List.getElem?_eq_some_iff.mp hv).1
        simp at this; omega
      subst hi
      have hv' := Option.some.inj hv
      rw [show (⟨#[]⟩ : Str) = Str.ofString "" by decide +kernel] at hv'
      subst hv'
      obtain ⟨ta, tb, m1, m2, m3⟩ := hm rfl
      have F₂ := fr_knownX (ps := [(Str.ofString "startpos", .int (R.length : Int) ta), (Str.ofString "endpos", .int (got.length : Int) tb), (Str.ofString "got", .str got t2)]) (fun p hp => by
        simp only [List.mem_cons, List.not_mem_nil, or_false] at hp
        rcases hp with rfl | rfl | rfl <;> assumption) F₁
      clear F₁ m1 m2 m3 hm hv
      k_steps
      exact InvEndG.intro (nx := nx) (by assumption) (by assumption) ⟨hl, hk, fun e => absurd e (by decide)⟩ hoff (fun p hp => List.mem_append.mpr (.inl hp)) (fun p hp => List.mem_append.mpr (.inr hp))
    · rintro m₁ nx h tk ⟨hk, _⟩ F₁ N₁
      dsimp only
      k_steps
      rw [hs] at hret
      exact hret 0 _ _ (by assumption) (cb_drop (by assumption) hk)
  · rename_i h _ _ _ _
    rw [← h]
    exact hret 0 _ _ (by assumption) (cb_drop (by assumption) (fun p hp => .tail _ (.tail _ hp)))
  · rename_i h _ _ _ _ _ _ _ _ _
    exfalso; omega
end Mine
end

section
theorem Mine.reset5 : True := by
  w_top off
  k_with_none
  trivial
open PySem PySem.W PyProof.Rows PySem.Calls PyProof.V PySem.Spec
set_option maxRecDepth 100000
namespace Mine
section
variable {prog : Program} {w : World} {p : Program} {loose : List Str} {mean : ExcName → Option Value} {mg mb : Str → Option Value} {news : List (Addr × Obj)}
  {dp un : Nat} {gd : Option (List Code)} {cn : Str} {cs : Scope} {a : Addr} {ccd : Value} {cl : List (Str × Addr)} {outer : List Env} {A₀ : Around} {base h₀ : Heap} {L : Addr} {m : Str → Option Value} {s : Shared} {Q E : Value → Shared → Prop}
theorem ell_call {R got : Str} {t1 t2 : Tok} (B : Below A₀ base outer h₀) (F : Fr h₀ L s.heap m) (X : (Mine.hd.heap_39 w.params).In h₀) (N : News h₀ L s.heap news) (T : Top p loose mean mg mb h₀) (hk : cs.kind = .function)
    (hR : ∀ c ∈ R.cps.toList, c ≠ 46) (hlen : R.length ≤ 1000) (hne : 0 < R.length) (hgot : got.length ≤ 1000) (hd : dp + 1 < recursionLimit) (hu : un + 8 < cLine)
    (h : ∀ h' tk', Fr h₀ L h' m → News h₀ L h' news → Q (.bool (Txt.startswith got R)) { s with heap := h', toks := tk' }) :
    wpAny (model prog w) (ktrTop dp un gd cn cs L a ccd cl outer) (call (.ref 182) [.str (R ++ dots) t1, .str got t2]) Q E s :=
  ell_ok hR hlen hne hgot _ _ _ _ _ _ _ _ _ _ _ _ _ _ _ _ _ B F X N T hk trivial hd hu (fun _ h' tk' F' N' => h h' tk' F' N')
end
end Mine
end

section
theorem Mine.reset6 : True := by
  w_top off
  k_with_none
  trivial
/-! the plain side: what the law reckons, over lists of signs' numbers -/
namespace Mine
/-- p signs from place i on -/
def sub (w : List Nat) (i p : Nat) : List Nat := (w.drop i).take p
/-- does a root of p signs stand twice at place i -/
def sqB (w : List Nat) (p i : Nat) : Bool := sub w i p == sub w (i + p) p
def toldIn (w : List Nat) (p j : Nat) : List (Nat × Nat) := ((List.range j).filter (sqB w p)).map fun i => (p, i)
def toldOut (w : List Nat) (i : Nat) : List (Nat × Nat) := (List.range i).flatMap fun k => toldIn w (k + 1) (11 - 2 * k)
/-- the squares of a text of twelve signs, by size and place -/
def squares (w : List Nat) : List (Nat × Nat) := toldOut w 6
def rot (u : List Nat) (d : Nat) : List Nat := u.drop d ++ u.take d
def primB (u : List Nat) : Bool := (List.range (u.length - 1)).all fun k => rot u (k + 1) != u

/-- one more square in the runs under way -/
def runStep (w : List Nat) (acc : List (Nat × Nat × Nat)) (x : Nat × Nat) : List (Nat × Nat × Nat) :=
  if primB (sub w x.2 x.1) then
    match acc.getLast? with
    | some r => if r.2.2 = x.1 ∧ r.2.1 + 1 = x.2 + 2 * x.1 then acc.dropLast ++ [(r.1, x.2 + 2 * x.1, x.1)] else acc ++ [(x.2, x.2 + 2 * x.1, x.1)]
    | none => acc ++ [(x.2, x.2 + 2 * x.1, x.1)]
  else acc
def runsOf (w : List Nat) (sq : List (Nat × Nat)) : List (Nat × Nat × Nat) := sq.foldl (runStep w) []
theorem runStep_nil {w : List Nat} {p j : Nat} (h : primB (sub w j p) = true) : runStep w [] (p, j) = [] ++ [(j, j + 2 * p, p)] := by
  unfold runStep
  rw [if_pos h]; rfl
theorem runStep_skip {w : List Nat} {R : List (Nat × Nat × Nat)} {p j : Nat} (h : primB (sub w j p) = false) : runStep w R (p, j) = R := by
  unfold runStep
  rw [if_neg (by rw [h]; decide)]
theorem runStep_ext {w : List Nat} {R : List (Nat × Nat × Nat)} {p j f e q : Nat} (h : primB (sub w j p) = true) (h1 : q = p) (h2 : e + 1 = j + 2 * p) : runStep w (R ++ [(f, e, q)]) (p, j) = R ++ [(f, j + 2 * p, p)] := by
  unfold runStep
  rw [if_pos h, List.getLast?_append]
  simp [h1, h2]
theorem runStep_new {w : List Nat} {R : List (Nat × Nat × Nat)} {p j f e q : Nat} (h : primB (sub w j p) = true) (h1 : ¬ (q = p ∧ e + 1 = j + 2 * p)) : runStep w (R ++ [(f, e, q)]) (p, j) = (R ++ [(f, e, q)]) ++ [(j, j + 2 * p, p)] := by
  unfold runStep
  rw [if_pos h, List.getLast?_append]
  simp only [List.getLast?_singleton, Option.some_or]
  rw [if_neg h1]
theorem runsOf_succ (w : List Nat) (sq : List (Nat × Nat)) (i : Nat) (h : i < sq.length) : runsOf w (sq.take (i + 1)) = runStep w (runsOf w (sq.take i)) sq[i] := by
  unfold runsOf
  rw [List.take_add_one, List.getElem?_eq_getElem h, List.foldl_append]
  rfl
theorem runStep_len (w : List Nat) (acc : List (Nat × Nat × Nat)) (x : Nat × Nat) : (runStep w acc x).length ≤ acc.length + 1 := by
  unfold runStep
  split
  · split
    · rename_i r hr
      split
      · rw [List.length_append, List.length_dropLast]
        simp only [List.length_cons, List.length_nil]
        omega
      · rw [List.length_append]; exact Nat.le_refl _
    · rw [List.length_append]; exact Nat.le_refl _
  · omega
theorem runsOf_len (w : List Nat) (sq : List (Nat × Nat)) : ∀ i, (runsOf w (sq.take i)).length ≤ i
  | 0 => by rw [List.take_zero]; exact Nat.le_refl _
  | i + 1 => by
    by_cases h : i < sq.length
    · rw [runsOf_succ w sq i h]
      have h1 := runStep_len w (runsOf w (sq.take i)) sq[i]
      have h2 := runsOf_len w sq i
      omega
    · have e : sq.take (i + 1) = sq.take i := by rw [List.take_of_length_le (by omega), List.take_of_length_le (by omega)]
      rw [e]
      have h2 := runsOf_len w sq i
      omega
theorem toldIn_zero (w : List Nat) (p : Nat) : toldIn w p 0 = [] := rfl
theorem toldIn_succ (w : List Nat) (p j : Nat) : toldIn w p (j + 1) = toldIn w p j ++ (if sqB w p j then [(p, j)] else []) := by
  unfold toldIn
  rw [List.range_succ, List.filter_append, List.map_append]
  cases h : sqB w p j <;> simp [h]
theorem toldOut_succ (w : List Nat) (i : Nat) : toldOut w (i + 1) = toldOut w i ++ toldIn w (i + 1) (11 - 2 * i) := by
  unfold toldOut
  rw [List.range_succ, List.flatMap_append]
  simp
theorem toldIn_len (w : List Nat) (p j : Nat) : (toldIn w p j).length ≤ j := by
  unfold toldIn
  rw [List.length_map]
  exact Nat.le_trans (List.length_filter_le _ _) (by rw [List.length_range]; exact Nat.le_refl _)
theorem toldOut_len (w : List Nat) (i : Nat) : (toldOut w i).length ≤ 11 * i := by
  induction i with
  | zero => exact Nat.le_refl _
  | succ i ih =>
    rw [toldOut_succ, List.length_append]
    have := toldIn_len w (i + 1) (11 - 2 * i)
    omega
theorem sub_length {w : List Nat} {i p : Nat} (h : i + p ≤ w.length) : (sub w i p).length = p := by
  unfold sub
  rw [List.length_take, List.length_drop]; omega
end Mine
end

section
theorem Mine.reset7 : True := by
  w_top off
  k_with_none
  trivial
open PySem PySem.W PyProof.Rows PySem.Calls PyProof.V PySem.Spec
open PySem.Builtin PySem.Builtin.Str PySem.StrLaws
set_option maxRecDepth 100000
namespace Mine
/-- a text by its signs' numbers -/
def str (l : List Nat) : Str := ⟨l.toArray⟩
theorem str_length (l : List Nat) : (str l).length = l.length := by simp [str, Str.length]
theorem str_toList (l : List Nat) : (str l).cps.toList = l := rfl
theorem str_append (a b : List Nat) : str a ++ str b = str (a ++ b) := Str.ext' (by rw [Str.cps_append]; simp [str])
theorem str_inj {a b : List Nat} : str a = str b ↔ a = b := ⟨fun h => by have := congrArg (fun x : Str => x.cps.toList) h; exact this, fun h => by rw [h]⟩
theorem str_of (x : Str) : str x.cps.toList = x := rfl
theorem slice_ss {w : List Nat} {a b : Nat} (hab : a ≤ b) (hb : b ≤ w.length) : Txt.slice (str w) (some (a : Int)) (some (b : Int)) = str (sub w a (b - a)) :=
  sliceText_nat (str w) hab (by rw [str_length]; exact hb)
theorem slice_sn {w : List Nat} {a : Nat} (ha : a ≤ w.length) : Txt.slice (str w) (some (a : Int)) none = str (w.drop a) := by
  have h := sliceText_from (x := str w) (i := (a : Int)) ⟨by omega, by rw [str_toList]; omega⟩
  refine h.trans ?_
  rw [str_toList]
  unfold str
  rw [show ((a : Int)).toNat = a by omega, List.take_of_length_le (by rw [List.length_drop]; omega)]
theorem slice_ns {w : List Nat} {b : Nat} (hb : b ≤ w.length) : Txt.slice (str w) none (some (b : Int)) = str (w.take b) := by
  have h := sliceText_to (x := str w) (j := (b : Int)) ⟨by omega, by rw [str_toList]; omega⟩
  refine h.trans ?_
  rw [str_toList]
  unfold str
  rw [List.drop_zero, show ((b : Int) - 0).toNat = b by omega]
theorem starts_sq {w : List Nat} {p i : Nat} (h : i + 2 * p ≤ w.length) : Txt.startswith (str (w.drop i)) (str (sub w i p) ++ str (sub w i p)) = sqB w p i := by
  have l1 := sub_length (w := w) (i := i) (p := p) (by omega)
  have l2 := sub_length (w := w) (i := i + p) (p := p) (by omega)
  unfold Txt.startswith
  rw [subAt_eq, str_append, str_length, str_length, str_toList, str_toList, List.length_append, l1, List.drop_zero]
  have e : (w.drop i).take (p + p) = sub w i p ++ sub w (i + p) p := by
    unfold sub
    rw [List.take_add, List.drop_drop]
  rw [e, List.length_drop]
  have h1 : (0 + (p + p) ≤ w.length - i) = True := by simp; omega
  unfold sqB
  simp only [h1, decide_true, Bool.true_and]
  by_cases hq : sub w i p = sub w (i + p) p
  · rw [hq]; simp
  · have h2 : ¬ (sub w i p ++ sub w (i + p) p = sub w i p ++ sub w i p) := fun e => hq (List.append_cancel_left e).symm
    simp [hq, beq_eq_false_iff_ne.mpr h2]
/-- signs that are a, b or c -/
def abc (w : List Nat) : Prop := ∀ c ∈ w, 97 ≤ c ∧ c ≤ 99
theorem abc.sub {w : List Nat} (h : abc w) (i p : Nat) : abc (sub w i p) := fun c hc => h c (List.mem_of_mem_drop (List.mem_of_mem_take hc))
theorem abc.append {u v : List Nat} (h : abc u) (k : abc v) : abc (u ++ v) := fun c hc => (List.mem_append.mp hc).elim (h c) (k c)
theorem abc.nodot {w : List Nat} (h : abc w) : ∀ c ∈ (str w).cps.toList, c ≠ 46 := fun c hc => by have := h c hc; omega
end Mine
end

section
theorem Mine.reset8 : True := by
  w_top off
  k_with_none
  trivial
open PySem PySem.W PyProof.Rows PySem.Calls PyProof.V PySem.Spec
set_option maxRecDepth 100000
namespace Mine
section
variable {prog : Program} {w : World} {A : Around} {E : Value → Shared → Prop} {s : Shared} {env : Env} {h₀ : Heap} {x : Str} {body : List Stmt} {Q : Flow → Shared → Prop}
/-- a for over range(a, b), numbers from a natural a on -/
theorem range_N {r : Addr} {b₀ : Int} {t₀ u₀ v₀ : Tok} (a n : Nat) {m₀ : Str → Option Value} {news : List (Addr × Obj)} (J : Nat → (Str → Option Value) → List (Addr × Obj) → Prop)
    (hh : A.handled = none) (hr : IsRange s.heap r (a : Int) b₀ 1 t₀ u₀ v₀) (hb : b₀ = ((a + n : Nat) : Int)) (hn : n ≤ 1000) (ha : a ≤ 1000)
    (F : Fr h₀ env.locals s.heap m₀) (N : News h₀ env.locals s.heap news) (hj : J 0 m₀ news)
    (turn : ∀ i t m₁ nx h tk own, i < n → OwnOff own (nx.map (·.1)) → J i m₁ nx →
      Fr h₀ env.locals h (fun y => if y = x then some (.int ((a + i : Nat) : Int) t) else m₁ y) → News h₀ env.locals h (nx ++ own) →
      wpAny (model prog w) A (execs body env) (InvPostG h₀ env.locals (J (i + 1)) own { s with heap := h, toks := tk } Q) E { s with heap := h, toks := tk })
    (done : ∀ m₁ nx h tk, J n m₁ nx → Fr h₀ env.locals h m₁ → News h₀ env.locals h nx → Q .next { s with heap := h, toks := tk }) :
    wpAny (model prog w) A (pyIter (.ref r)) (fun it s₂ => LoopAtV prog w A h₀ env x body Q E it s₂) E s := by
  subst hb
  refine range_J (n := n) J hh hr ?_ ?_ F N hj (fun i t m₁ nx h tk own hi ho hJ F₁ N₁ => ?_) done
  · unfold Builtin.Range.small
    have hz : Builtin.Range.rangeSize (a : Int) ((a + n : Nat) : Int) 1 = (n : Int) := by
      unfold Builtin.Range.rangeSize
      rw [if_pos (by decide)]
      split <;> omega
    rw [hz]
    have f : ∀ z : Int, -5000 ≤ z → z ≤ 5000 → Builtin.Range.rangeFitsLong z = true := fun z h1 h2 => by
      unfold Builtin.Range.rangeFitsLong
      simp
      omega
    rw [f _ (by omega) (by omega), f _ (by omega) (by omega), f 1 (by omega) (by omega), f _ (by omega) (by omega), if_pos (by decide), f _ (by omega) (by omega)]
    simp
  · unfold Builtin.Range.rangeSize
    rw [if_pos (by decide)]
    split <;> omega
  · have e : ((a : Int) + (i : Int)) = ((a + i : Nat) : Int) := by omega
    rw [e] at F₁
    exact turn i t m₁ nx h tk own hi ho hJ F₁ N₁
end
end Mine
end

section
theorem Mine.reset9 : True := by
  w_top off
  k_with_none
  trivial
open PySem PySem.W PyProof.Rows PySem.Calls PyProof.V PySem.Spec
set_option maxRecDepth 100000
namespace Mine
/-- a pair of naturals as data -/
def pr (x : Nat × Nat) : Dat := .tuple [.int (x.1 : Int), .int (x.2 : Int)]
/-- what a builder's loops keep: the list l under way, what it holds, the elder ledger (keep) and a loop's own things (ex), the names -/
def JB (l : Addr) (keep ex : List (Addr × Obj)) (ps : List (Str × Value)) (ds : List Dat) (m : Str → Option Value) (nx : List (Addr × Obj)) : Prop :=
  ∃ (vs : List Value) (k : Nat) (tl V : List (Addr × Obj)), nx = (l, W.listOf vs.toArray k) :: V ∧ OwnOff V [l] ∧ (∀ p ∈ tl, p ∈ V) ∧ (∀ p ∈ keep, p ∈ V) ∧ (∀ p ∈ ex, p ∈ V) ∧ OwnOff tl ((keep ++ ex).map (·.1)) ∧ DatAll tl vs ds ∧ (∀ p ∈ ps, m p.1 = some p.2)
theorem allLt_iff {d : Addr} {l : List (Addr × Obj)} (h : AllLt d l) : ∀ p ∈ l, p.1 < d := by
  induction l with
  | nil => exact fun _ hq => nomatch hq
  | cons q l ih =>
    intro r hr
    cases hr with
    | head => exact h.1
    | tail _ hr => exact ih h.2 r hr
theorem off_one {V : List (Addr × Obj)} {l : Addr} (h : ∀ p ∈ V, p.1 < l) : OwnOff V [l] := fun p hp b hb => by rw [List.mem_singleton.mp hb]; exact Nat.ne_of_lt (h p hp)
theorem off_app {a b : List (Addr × Obj)} {l : List Addr} (h : OwnOff a l) (k : OwnOff b l) : OwnOff (a ++ b) l := fun p hp => (List.mem_append.mp hp).elim (h p) (k p)
theorem off_nil {l : List Addr} : OwnOff [] l := fun _ h => nomatch h
theorem off_cons {p : Addr × Obj} {a : List (Addr × Obj)} {l : List Addr} (h : ∀ b ∈ l, p.1 ≠ b) (k : OwnOff a l) : OwnOff (p :: a) l := fun q hq => by
  rcases List.mem_cons.mp hq with rfl | hq
  · exact h
  · exact k q hq
theorem off_sub {a : List (Addr × Obj)} {l l' : List Addr} (h : OwnOff a l) (s : ∀ b ∈ l', b ∈ l) : OwnOff a l' := fun p hp b hb => h p hp b (s b hb)
theorem off_fst {a : List (Addr × Obj)} {p : Addr × Obj} {l : List (Addr × Obj)} (h : OwnOff a ((p :: l).map (·.1))) : OwnOff a [p.1] := off_sub h (fun b hb => by rw [List.mem_singleton.mp hb]; exact .head _)
theorem mem_fst {l : List (Addr × Obj)} {b : Addr} (h : b ∈ l.map (·.1)) : ∃ o, (b, o) ∈ l := by
  obtain ⟨p, hp, rfl⟩ := List.mem_map.mp h
  exact ⟨p.2, hp⟩
section
variable {h₀ h : Heap} {L : Addr} {m' : Str → Option Value} {keep ex own tl V : List (Addr × Obj)} {l D : Addr} {o : Obj} {vs : List Value} {k : Nat} {ps : List (Str × Value)} {ds : List Dat} {d : Dat} {s₁ : Shared} {tk : Nat}
/-- a turn that has appended one new thing -/
theorem JB_push (F : Fr h₀ L h m') (N : News h₀ L h ((D, o) :: (l, W.listOf (vs.toArray.push (.ref D)) (k + 1)) :: (V ++ own))) (hlt : l < D ∧ AllLt D (V ++ own)) (hV : OwnOff V [l]) (hown : OwnOff own [l]) (hoV : OwnOff own (V.map (·.1)))
    (htV : ∀ p ∈ tl, p ∈ V) (hkV : ∀ p ∈ keep, p ∈ V) (hxV : ∀ p ∈ ex, p ∈ V) (htk : OwnOff tl ((keep ++ ex).map (·.1))) (hd : DatAll tl vs ds) (hn : DatIn [(D, o)] (.ref D) d) (hps : ∀ p ∈ ps, m' p.1 = some p.2) :
    InvEndG h₀ L (JB l keep ex ps (ds ++ [d])) own s₁ { s₁ with heap := h, toks := tk } := by
  have hD : ∀ p ∈ V ++ own, p.1 < D := allLt_iff hlt.2
  rw [List.push_toArray] at N
  refine InvEndG.intro (nx := (l, W.listOf (vs ++ [Value.ref D]).toArray (k + 1)) :: (D, o) :: V) F N ⟨vs ++ [Value.ref D], k + 1, (D, o) :: tl, (D, o) :: V, rfl, ?_, ?_, fun p hp => .tail _ (hkV p hp), fun p hp => .tail _ (hxV p hp), ?_, ?_, hps⟩ ?_ ?_ ?_
  · exact off_cons (fun b hb => by rw [List.mem_singleton.mp hb]; exact Nat.ne_of_gt hlt.1) hV
  · intro p hp
    rcases List.mem_cons.mp hp with rfl | hp
    · exact .head _
    · exact .tail _ (htV p hp)
  · refine off_cons (fun b hb => ?_) htk
    obtain ⟨ob, hb⟩ := mem_fst hb
    exact Nat.ne_of_gt (hD _ (List.mem_append.mpr (.inl ((List.mem_append.mp hb).elim (hkV _) (hxV _)))))
  · exact DatAll.append (hd.mono fun p hp => .tail _ hp) (.one (hn.mono fun p hp => by rw [List.mem_singleton.mp hp]; exact .head _))
  · intro p hp b hb
    simp only [List.map_cons, List.mem_cons] at hb
    rcases hb with rfl | rfl | hb
    · exact hown p hp _ (.head _)
    · exact Nat.ne_of_lt (hD p (List.mem_append.mpr (.inr hp)))
    · exact hoV p hp b hb
  · intro p hp
    rcases List.mem_cons.mp hp with rfl | hp
    · exact .tail _ (.head _)
    · rcases List.mem_cons.mp hp with rfl | hp
      · exact .head _
      · exact .tail _ (.tail _ (List.mem_append.mpr (.inl hp)))
  · exact fun p hp => .tail _ (.tail _ (List.mem_append.mpr (.inr hp)))
/-- a turn that has appended nothing -/
theorem JB_skip (F : Fr h₀ L h m') (N : News h₀ L h ((l, W.listOf vs.toArray k) :: (V ++ own))) (hV : OwnOff V [l]) (hown : OwnOff own ((l, W.listOf vs.toArray k) :: V |>.map (·.1)))
    (htV : ∀ p ∈ tl, p ∈ V) (hkV : ∀ p ∈ keep, p ∈ V) (hxV : ∀ p ∈ ex, p ∈ V) (htk : OwnOff tl ((keep ++ ex).map (·.1))) (hd : DatAll tl vs ds) (hps : ∀ p ∈ ps, m' p.1 = some p.2) :
    InvEndG h₀ L (JB l keep ex ps ds) own s₁ { s₁ with heap := h, toks := tk } :=
  InvEndG.intro (nx := (l, W.listOf vs.toArray k) :: V) F N ⟨vs, k, tl, V, rfl, hV, htV, hkV, hxV, htk, hd, hps⟩ hown
    (fun p hp => by
      rcases List.mem_cons.mp hp with rfl | hp
      · exact .head _
      · exact .tail _ (List.mem_append.mpr (.inl hp)))
    (fun p hp => .tail _ (List.mem_append.mpr (.inr hp)))
/-- a turn that has put one new thing in the last one's place -/
theorem JB_last {D : Addr} {o : Obj} {rs : List Value} {ds : List Dat} {d : Dat} (F : Fr h₀ L h m') (N : News h₀ L h ((D, o) :: (l, W.listOf (rs ++ [Value.ref D]).toArray k) :: (V ++ own))) (hlt : l < D ∧ AllLt D (V ++ own)) (hV : OwnOff V [l]) (hown : OwnOff own [l]) (hoV : OwnOff own (V.map (·.1)))
    (htV : ∀ p ∈ tl, p ∈ V) (hkV : ∀ p ∈ keep, p ∈ V) (hxV : ∀ p ∈ ex, p ∈ V) (htk : OwnOff tl ((keep ++ ex).map (·.1))) (hd : DatAll tl rs ds) (hn : DatIn [(D, o)] (.ref D) d) (hps : ∀ p ∈ ps, m' p.1 = some p.2) :
    InvEndG h₀ L (JB l keep ex ps (ds ++ [d])) own s₁ { s₁ with heap := h, toks := tk } := by
  have hD : ∀ p ∈ V ++ own, p.1 < D := allLt_iff hlt.2
  refine InvEndG.intro (nx := (l, W.listOf (rs ++ [Value.ref D]).toArray k) :: (D, o) :: V) F N ⟨rs ++ [Value.ref D], k, (D, o) :: tl, (D, o) :: V, rfl, ?_, ?_, fun p hp => .tail _ (hkV p hp), fun p hp => .tail _ (hxV p hp), ?_, ?_, hps⟩ ?_ ?_ ?_
  · exact off_cons (fun b hb => by rw [List.mem_singleton.mp hb]; exact Nat.ne_of_gt hlt.1) hV
  · intro p hp
    rcases List.mem_cons.mp hp with rfl | hp
    · exact .head _
    · exact .tail _ (htV p hp)
  · refine off_cons (fun b hb => ?_) htk
    obtain ⟨ob, hb⟩ := mem_fst hb
    exact Nat.ne_of_gt (hD _ (List.mem_append.mpr (.inl ((List.mem_append.mp hb).elim (hkV _) (hxV _)))))
  · exact DatAll.append (hd.mono fun p hp => .tail _ hp) (.one (hn.mono fun p hp => by rw [List.mem_singleton.mp hp]; exact .head _))
  · intro p hp b hb
    simp only [List.map_cons, List.mem_cons] at hb
    rcases hb with rfl | rfl | hb
    · exact hown p hp _ (.head _)
    · exact Nat.ne_of_lt (hD p (List.mem_append.mpr (.inr hp)))
    · exact hoV p hp b hb
  · intro p hp
    rcases List.mem_cons.mp hp with rfl | hp
    · exact .tail _ (.head _)
    · rcases List.mem_cons.mp hp with rfl | hp
      · exact .head _
      · exact .tail _ (.tail _ (List.mem_append.mpr (.inl hp)))
  · exact fun p hp => .tail _ (.tail _ (List.mem_append.mpr (.inr hp)))
theorem off_swap {a b : List (Addr × Obj)} (h : OwnOff a (b.map (·.1))) : OwnOff b (a.map (·.1)) := fun p hp c hc => by
  obtain ⟨o, ho⟩ := mem_fst hc
  exact fun e => h _ ho p.1 (List.mem_map.mpr ⟨p, hp, rfl⟩) e.symm
theorem off_map_app {a b c : List (Addr × Obj)} (h : OwnOff a (b.map (·.1))) (k : OwnOff a (c.map (·.1))) : OwnOff a ((b ++ c).map (·.1)) := fun p hp d hd => by
  rw [List.map_append] at hd
  exact (List.mem_append.mp hd).elim (h p hp d) (k p hp d)
theorem off_left {a b c : List (Addr × Obj)} (h : OwnOff a ((b ++ c).map (·.1))) : OwnOff a (b.map (·.1)) := off_sub h fun d hd => by rw [List.map_append]; exact List.mem_append.mpr (.inl hd)
theorem off_right {a b c : List (Addr × Obj)} (h : OwnOff a ((b ++ c).map (·.1))) : OwnOff a (c.map (·.1)) := off_sub h fun d hd => by rw [List.map_append]; exact List.mem_append.mpr (.inr hd)
theorem off_of_sub {a b c : List (Addr × Obj)} (h : OwnOff a (b.map (·.1))) (s : ∀ p ∈ c, p ∈ b) : OwnOff a (c.map (·.1)) := off_sub h fun d hd => by
  obtain ⟨o, ho⟩ := mem_fst hd
  exact List.mem_map.mpr ⟨_, s _ ho, rfl⟩
theorem off_mem {a b : List (Addr × Obj)} {l : List Addr} (h : OwnOff a l) (s : ∀ p ∈ b, p ∈ a) : OwnOff b l := fun p hp => h p (s p hp)
theorem off_tail {a : List (Addr × Obj)} {p : Addr × Obj} {l : List (Addr × Obj)} (h : OwnOff a ((p :: l).map (·.1))) : OwnOff a (l.map (·.1)) := off_sub h (fun b hb => .tail _ hb)
end
end Mine
end

section
theorem Mine.reset10 : True := by
  w_top off
  k_with_none
  trivial
open PySem PySem.W PyProof.Rows PySem.Calls PyProof.V PySem.Spec
set_option maxRecDepth 100000
namespace Mine
theorem fillTold : Challenge.rw_tc0026_01.name = Challenge.rw_tc0026_01.name ∧ Mine.hd.heap_39 = Mine.hd.heap_39 := by
  k_fill
  exact ⟨rfl, rfl⟩
local macro_rules | `(tactic| walk_at "call ref") => `(tactic| ((with_reducible show wpAny _ _ (call (Value.ref 182) _ _) _ _ _); refine Held.of ?_))
local macro_rules | `(tactic| size_fits) => `(tactic| with_reducible assumption)
section
variable {prog : Program} {w : World} {p : Program} {loose : List Str} {mean : ExcName → Option Value} {mg mb : Str → Option Value} {news : List (Addr × Obj)}
  {dp un : Nat} {gd : Option (List Code)} {cn : Str} {cs : Scope} {a : Addr} {ccd : Value} {cl : List (Str × Addr)} {outer : List Env} {A₀ : Around} {base h₀ : Heap} {L : Addr} {m : Str → Option Value} {s : Shared} {Q E : Value → Shared → Prop}
set_option maxHeartbeats 4000000 in
theorem told_call {wd : List Nat} {t1 : Tok} (B : Below A₀ base outer h₀) (F : Fr h₀ L s.heap m) (X : (Mine.hd.heap_39 w.params).In h₀) (N : News h₀ L s.heap news) (T : Top p loose mean mg mb h₀) (hk : cs.kind = .function)
    (hw : wd.length = 12) (ha : abc wd) (hd : dp + 2 < recursionLimit) (hu : un + 16 < cLine)
    (hret : ∀ l vs k tl h' tk', Fr h₀ L h' m → News h₀ L h' ((l, W.listOf vs.toArray k) :: (tl ++ news)) → OwnOff tl (l :: news.map (·.1)) → (∀ b ∈ news.map (·.1), l ≠ b) → DatAll tl vs ((squares wd).map pr) → Q (.ref l) { s with heap := h', toks := tk' }) :
    wpAny (model prog w) (ktrTop dp un gd cn cs L a ccd cl outer) (call (.ref 203) [.str (str wd) t1]) Q E s := by
  k_with "pyIter ref" => refine Held.of ?_
  have hT : (str wd).length = 12 := by rw [str_length, hw]
  refine wpAny_call ?_
  cell_enter
  k_steps
  rename_i l' _ l1 _ _ _ _ _ _ _ _ hR F N _
  have hoff : OwnOff news [l'] := off_one l1
  refine Held.out (range_N 1 6 (fun i => JB l' news [] [(Str.ofString "text", .str (str wd) t1), (Str.ofString "told", .ref l')] ((toldOut wd i).map pr)) rfl hR (by rw [hT]; rfl) (by decide) (by decide) F N ?_ ?_ ?_)
  · exact ⟨[], 0, [], news, rfl, hoff, (fun _ h => nomatch h), fun _ h => h, (fun _ h => nomatch h), (fun _ h => nomatch h), .nil, fun p hp => by
      simp only [List.mem_cons, List.not_mem_nil, or_false] at hp
      rcases hp with rfl | rfl <;> rfl⟩
  · rintro i t m₁ nx h tk own hi hoff2 ⟨vs, k, tl, V, rfl, hV, htV, hkV, _, htk, hd, hm⟩ F₁ N₁
    have F₂ := fr_knownX hm F₁
    clear F₁
    have N₂ : News _ _ h ((l', W.listOf vs.toArray k) :: (V ++ own)) := N₁
    clear N₁ hR F N
    k_steps
    rename_i _ _ _ _ _ hR F N _
    have hoff3 : OwnOff (V ++ own) [l'] := off_app hV (off_fst hoff2)
    refine Held.out (range_N 0 (11 - 2 * i) (fun j => JB l' news own [(Str.ofString "text", .str (str wd) t1), (Str.ofString "told", .ref l'), (Str.ofString "size", .int ((1 + i : Nat) : Int) t)] ((toldOut wd i ++ toldIn wd (i + 1) j).map pr)) rfl hR (by rw [hT]; omega) (by omega) (by omega) F N ?_ ?_ ?_)
    · refine ⟨vs, k, tl, V ++ own, rfl, hoff3, fun p hp => List.mem_append.mpr (.inl (htV p hp)), fun p hp => List.mem_append.mpr (.inl (hkV p hp)), fun p hp => List.mem_append.mpr (.inr hp), off_map_app (off_left htk) (off_swap (off_of_sub (off_tail hoff2) htV)), ?_, fun p hp => ?_⟩
      · rw [toldIn_zero, List.append_nil]; exact hd
      · simp only [List.mem_cons, List.not_mem_nil, or_false] at hp
        rcases hp with rfl | rfl | rfl <;> rfl
    · rintro j t' m₂ nx' h' tk' own' hj hoff4 ⟨vs', k', tl', V', rfl, hV', htV', hkV', hxV', htk', hd', hm'⟩ F₁ N₁
      have F₂ := fr_knownX hm' F₁
      clear F₁
      have N₂ : News _ _ h' ((l', W.listOf vs'.toArray k') :: (V' ++ own')) := N₁
      clear N₁ hR F N
      have hoff5 : OwnOff (V' ++ own') [l'] := off_app hV' (off_fst hoff4)
      have hvl : vs'.toArray.size ≤ sizeLine := by
        rw [List.size_toArray, hd'.length, List.length_map, List.length_append, sizeLine_eq]
        have h1 := toldOut_len wd i
        have h2 := toldIn_len wd (i + 1) j
        omega
      k_steps
      refine Held.out ?_
      have e1 : Txt.slice (str wd) (some ((0 + j : Nat) : Int)) (some (((0 + j : Nat) : Int) + ((1 + i : Nat) : Int))) = str (sub wd j (i + 1)) := by
        have h9 := slice_ss (w := wd) (a := j) (b := j + (i + 1)) (by omega) (by omega)
        rw [show j + (i + 1) - j = i + 1 by omega] at h9
        rw [← h9]
        congr 2 <;> omega
      have e2 : Txt.slice (str wd) (some ((0 + j : Nat) : Int)) none = str (wd.drop j) := by
        rw [show 0 + j = j by omega]
        exact slice_sn (by omega)
      rw [e1, e2, str_append]
      refine ell_call (by assumption) (by assumption) (by assumption) (by assumption) (by assumption) rfl (((ha.sub _ _).append (ha.sub _ _)).nodot) ?_ ?_ ?_ ?_ ?_ (fun h₉ tk₉ F₉ N₉ => ?_)
      · rw [str_length, List.length_append, sub_length (by omega)]; omega
      · rw [str_length, List.length_append, sub_length (by omega)]; omega
      · rw [str_length, List.length_drop]; omega
      · ktr_room
      · ktr_units
      rw [← str_append, starts_sq (by omega)]
      k_steps
      · rename (sqB _ _ _ = true) => hq
        rw [toldIn_succ, hq, if_pos rfl, ← List.append_assoc, List.map_append]
        refine JB_push (by assumption) (by assumption) (by assumption) hV' (off_fst hoff4) (off_tail hoff4) htV' hkV' hxV' htk' hd' ?_ ?_
        · rw [show 0 + j = j by omega, show 1 + i = i + 1 by omega]
          exact .tuple (List.mem_singleton.mpr rfl) (.cons (.int _ _) (.cons (.int _ _) .nil))
        · intro p hp
          simp only [List.mem_cons, List.not_mem_nil, or_false] at hp
          rcases hp with rfl | rfl | rfl <;> rfl
      · rename (sqB _ _ _ = false) => hq
        rw [toldIn_succ, hq, if_neg (by decide), List.append_nil]
        refine JB_skip (by assumption) (by assumption) hV' hoff4 htV' hkV' hxV' htk' hd' ?_
        intro p hp
        simp only [List.mem_cons, List.not_mem_nil, or_false] at hp
        rcases hp with rfl | rfl | rfl <;> rfl
    · rintro m₂ nx' h' tk' ⟨vs', k', tl', V', rfl, hV', htV', hkV', hxV', htk', hd', hm'⟩ F₁ N₁
      dsimp only
      k_steps
      have hownl : OwnOff own [l'] := off_fst hoff2
      refine InvEndG.intro (nx := (l', W.listOf vs'.toArray k') :: (tl' ++ news)) F₁ N₁ ⟨vs', k', tl', tl' ++ news, rfl, off_app (off_mem hV' htV') hoff, fun p hp => List.mem_append.mpr (.inl hp), fun p hp => List.mem_append.mpr (.inr hp), (fun _ h => nomatch h), ?_, ?_, fun p hp => ?_⟩ ?_ ?_ ?_
      · rw [List.append_nil]; exact off_left htk'
      · rw [toldOut_succ]; exact hd'
      · simp only [List.mem_cons, List.not_mem_nil, or_false] at hp
        rcases hp with rfl | rfl
        · exact hm' _ (.head _)
        · exact hm' _ (.tail _ (.head _))
      · intro p hp b hb
        rw [List.map_cons] at hb
        rcases List.mem_cons.mp hb with rfl | hb
        · exact hownl p hp _ (.head _)
        · exact off_map_app (off_swap (off_right htk')) (off_of_sub (off_tail hoff2) hkV) p hp b hb
      · intro p hp
        rcases List.mem_cons.mp hp with rfl | hp
        · exact .head _
        · exact .tail _ ((List.mem_append.mp hp).elim (htV' p) (hkV' p))
      · exact fun p hp => .tail _ (hxV' p hp)
  · rintro m₂ nx' h' tk' ⟨vs', k', tl', V', rfl, hV', htV', hkV', hxV', htk', hd', hm'⟩ F₁ N₁
    dsimp only
    have F₂ := fr_known hm' F₁
    clear F₁
    k_steps
    rw [List.append_nil] at htk'
    refine hret l' vs' k' tl' _ _ (by assumption) (cb_drop (by assumption) fun p hp => ?_) (fun p hp b hb => ?_) (fun b hb => ?_) hd'
    · rcases List.mem_cons.mp hp with rfl | hp
      · exact .head _
      · exact .tail _ ((List.mem_append.mp hp).elim (htV' p) (hkV' p))
    · rcases List.mem_cons.mp hb with rfl | hb
      · exact hV' p (htV' p hp) _ (.head _)
      · exact htk' p hp b hb
    · obtain ⟨o, ho⟩ := mem_fst hb
      exact Nat.ne_of_gt (l1 _ ho)
end
end Mine
end

section
theorem Mine.reset11 : True := by
  w_top off
  k_with_none
  trivial
open PySem PySem.W PyProof.Rows PySem.Calls PyProof.V PySem.Spec
set_option maxRecDepth 100000
namespace Mine
theorem fillPlain : Challenge.rw_tc0026_01.name = Challenge.rw_tc0026_01.name ∧ Mine.hd.heap_39 = Mine.hd.heap_39 := by
  k_fill
  exact ⟨rfl, rfl⟩
local macro_rules | `(tactic| size_fits) => `(tactic| with_reducible assumption)
section
variable {prog : Program} {w : World} {p : Program} {loose : List Str} {mean : ExcName → Option Value} {mg mb : Str → Option Value} {news : List (Addr × Obj)}
  {dp un : Nat} {gd : Option (List Code)} {cn : Str} {cs : Scope} {a : Addr} {ccd : Value} {cl : List (Str × Addr)} {outer : List Env} {A₀ : Around} {base h₀ : Heap} {L : Addr} {m : Str → Option Value} {s : Shared} {Q E : Value → Shared → Prop}
set_option maxHeartbeats 4000000 in
theorem plain_call {wd : List Nat} {t1 : Tok} (B : Below A₀ base outer h₀) (F : Fr h₀ L s.heap m) (X : (Mine.hd.heap_39 w.params).In h₀) (N : News h₀ L s.heap news) (T : Top p loose mean mg mb h₀) (hk : cs.kind = .function)
    (hw : wd.length = 12) (ha : abc wd) (hd : dp + 2 < recursionLimit) (hu : un + 16 < cLine)
    (hret : ∀ l vs k tl h' tk', Fr h₀ L h' m → News h₀ L h' ((l, W.listOf vs.toArray k) :: (tl ++ news)) → OwnOff tl (l :: news.map (·.1)) → (∀ b ∈ news.map (·.1), l ≠ b) → DatAll tl vs ((squares wd).map pr) → Q (.ref l) { s with heap := h', toks := tk' }) :
    wpAny (model prog w) (ktrTop dp un gd cn cs L a ccd cl outer) (call (.ref 210) [.str (str wd) t1]) Q E s := by
  k_with "pyIter ref" => refine Held.of ?_
  have hT : (str wd).length = 12 := by rw [str_length, hw]
  refine wpAny_call ?_
  cell_enter
  k_steps
  rename_i l' _ l1 _ _ _ _ _ _ _ _ hR F N _
  have hoff : OwnOff news [l'] := off_one l1
  refine Held.out (range_N 1 6 (fun i => JB l' news [] [(Str.ofString "text", .str (str wd) t1), (Str.ofString "plain", .ref l')] ((toldOut wd i).map pr)) rfl hR (by rw [hT]; rfl) (by decide) (by decide) F N ?_ ?_ ?_)
  · exact ⟨[], 0, [], news, rfl, hoff, (fun _ h => nomatch h), fun _ h => h, (fun _ h => nomatch h), (fun _ h => nomatch h), .nil, fun p hp => by
      simp only [List.mem_cons, List.not_mem_nil, or_false] at hp
      rcases hp with rfl | rfl <;> rfl⟩
  · rintro i t m₁ nx h tk own hi hoff2 ⟨vs, k, tl, V, rfl, hV, htV, hkV, _, htk, hd, hm⟩ F₁ N₁
    have F₂ := fr_knownX hm F₁
    clear F₁
    have N₂ : News _ _ h ((l', W.listOf vs.toArray k) :: (V ++ own)) := N₁
    clear N₁ hR F N
    k_steps
    rename_i _ _ _ _ _ hR F N _
    have hoff3 : OwnOff (V ++ own) [l'] := off_app hV (off_fst hoff2)
    refine Held.out (range_N 0 (11 - 2 * i) (fun j => JB l' news own [(Str.ofString "text", .str (str wd) t1), (Str.ofString "plain", .ref l'), (Str.ofString "size", .int ((1 + i : Nat) : Int) t)] ((toldOut wd i ++ toldIn wd (i + 1) j).map pr)) rfl hR (by rw [hT]; omega) (by omega) (by omega) F N ?_ ?_ ?_)
    · refine ⟨vs, k, tl, V ++ own, rfl, hoff3, fun p hp => List.mem_append.mpr (.inl (htV p hp)), fun p hp => List.mem_append.mpr (.inl (hkV p hp)), fun p hp => List.mem_append.mpr (.inr hp), off_map_app (off_left htk) (off_swap (off_of_sub (off_tail hoff2) htV)), ?_, fun p hp => ?_⟩
      · rw [toldIn_zero, List.append_nil]; exact hd
      · simp only [List.mem_cons, List.not_mem_nil, or_false] at hp
        rcases hp with rfl | rfl | rfl <;> rfl
    · rintro j t' m₂ nx' h' tk' own' hj hoff4 ⟨vs', k', tl', V', rfl, hV', htV', hkV', hxV', htk', hd', hm'⟩ F₁ N₁
      have F₂ := fr_knownX hm' F₁
      clear F₁
      have N₂ : News _ _ h' ((l', W.listOf vs'.toArray k') :: (V' ++ own')) := N₁
      clear N₁ hR F N
      have hoff5 : OwnOff (V' ++ own') [l'] := off_app hV' (off_fst hoff4)
      have hvl : vs'.toArray.size ≤ sizeLine := by
        rw [List.size_toArray, hd'.length, List.length_map, List.length_append, sizeLine_eq]
        have h1 := toldOut_len wd i
        have h2 := toldIn_len wd (i + 1) j
        omega
      have e1 : Txt.slice (str wd) (some ((0 + j : Nat) : Int)) (some (((0 + j : Nat) : Int) + ((1 + i : Nat) : Int))) = str (sub wd j (i + 1)) := by
        have h9 := slice_ss (w := wd) (a := j) (b := j + (i + 1)) (by omega) (by omega)
        rw [show j + (i + 1) - j = i + 1 by omega] at h9
        rw [← h9]
        congr 2 <;> omega
      have e2 : Txt.slice (str wd) (some (((0 + j : Nat) : Int) + ((1 + i : Nat) : Int))) (some (((0 + j : Nat) : Int) + 2 * ((1 + i : Nat) : Int))) = str (sub wd (j + (i + 1)) (i + 1)) := by
        have h9 := slice_ss (w := wd) (a := j + (i + 1)) (b := j + 2 * (i + 1)) (by omega) (by omega)
        rw [show j + 2 * (i + 1) - (j + (i + 1)) = i + 1 by omega] at h9
        rw [← h9]
        congr 2 <;> omega
      have e3 : (Txt.slice (str wd) (some ((0 + j : Nat) : Int)) (some (((0 + j : Nat) : Int) + ((1 + i : Nat) : Int))) == Txt.slice (str wd) (some (((0 + j : Nat) : Int) + ((1 + i : Nat) : Int))) (some (((0 + j : Nat) : Int) + 2 * ((1 + i : Nat) : Int)))) = sqB wd (i + 1) j := by
        rw [e1, e2]
        unfold sqB
        by_cases h : sub wd j (i + 1) = sub wd (j + (i + 1)) (i + 1)
        · rw [h]; simp
        · rw [beq_eq_false_iff_ne.mpr h, beq_eq_false_iff_ne.mpr (fun e => h (str_inj.mp e))]
      k_steps
      · rename ((_ == _) = true) => hq
        rw [e3] at hq
        rw [toldIn_succ, hq, if_pos rfl, ← List.append_assoc, List.map_append]
        refine JB_push (by assumption) (by assumption) (by assumption) hV' (off_fst hoff4) (off_tail hoff4) htV' hkV' hxV' htk' hd' ?_ ?_
        · rw [show 0 + j = j by omega, show 1 + i = i + 1 by omega]
          exact .tuple (List.mem_singleton.mpr rfl) (.cons (.int _ _) (.cons (.int _ _) .nil))
        · intro p hp
          simp only [List.mem_cons, List.not_mem_nil, or_false] at hp
          rcases hp with rfl | rfl | rfl <;> rfl
      · rename ((_ == _) = false) => hq
        rw [e3] at hq
        rw [toldIn_succ, hq, if_neg (by decide), List.append_nil]
        refine JB_skip (by assumption) (by assumption) hV' hoff4 htV' hkV' hxV' htk' hd' ?_
        intro p hp
        simp only [List.mem_cons, List.not_mem_nil, or_false] at hp
        rcases hp with rfl | rfl | rfl <;> rfl
    · rintro m₂ nx' h' tk' ⟨vs', k', tl', V', rfl, hV', htV', hkV', hxV', htk', hd', hm'⟩ F₁ N₁
      dsimp only
      k_steps
      have hownl : OwnOff own [l'] := off_fst hoff2
      refine InvEndG.intro (nx := (l', W.listOf vs'.toArray k') :: (tl' ++ news)) F₁ N₁ ⟨vs', k', tl', tl' ++ news, rfl, off_app (off_mem hV' htV') hoff, fun p hp => List.mem_append.mpr (.inl hp), fun p hp => List.mem_append.mpr (.inr hp), (fun _ h => nomatch h), ?_, ?_, fun p hp => ?_⟩ ?_ ?_ ?_
      · rw [List.append_nil]; exact off_left htk'
      · rw [toldOut_succ]; exact hd'
      · simp only [List.mem_cons, List.not_mem_nil, or_false] at hp
        rcases hp with rfl | rfl
        · exact hm' _ (.head _)
        · exact hm' _ (.tail _ (.head _))
      · intro p hp b hb
        rw [List.map_cons] at hb
        rcases List.mem_cons.mp hb with rfl | hb
        · exact hownl p hp _ (.head _)
        · exact off_map_app (off_swap (off_right htk')) (off_of_sub (off_tail hoff2) hkV) p hp b hb
      · intro p hp
        rcases List.mem_cons.mp hp with rfl | hp
        · exact .head _
        · exact .tail _ ((List.mem_append.mp hp).elim (htV' p) (hkV' p))
      · exact fun p hp => .tail _ (hxV' p hp)
  · rintro m₂ nx' h' tk' ⟨vs', k', tl', V', rfl, hV', htV', hkV', hxV', htk', hd', hm'⟩ F₁ N₁
    dsimp only
    have F₂ := fr_known hm' F₁
    clear F₁
    k_steps
    rw [List.append_nil] at htk'
    refine hret l' vs' k' tl' _ _ (by assumption) (cb_drop (by assumption) fun p hp => ?_) (fun p hp b hb => ?_) (fun b hb => ?_) hd'
    · rcases List.mem_cons.mp hp with rfl | hp
      · exact .head _
      · exact .tail _ ((List.mem_append.mp hp).elim (htV' p) (hkV' p))
    · rcases List.mem_cons.mp hb with rfl | hb
      · exact hV' p (htV' p hp) _ (.head _)
      · exact htk' p hp b hb
    · obtain ⟨o, ho⟩ := mem_fst hb
      exact Nat.ne_of_gt (l1 _ ho)
end
end Mine
end

section
theorem Mine.reset12 : True := by
  w_top off
  k_with_none
  trivial
open PySem PySem.W PyProof.Rows PySem.Calls PyProof.V PySem.Spec
set_option maxRecDepth 100000
namespace Mine
section
variable {prog : Program} {w : World} {A : Around} {E : Value → Shared → Prop} {s : Shared} {env : Env} {h₀ : Heap} {target : Expr} {body : List Stmt} {Q : Flow → Shared → Prop}
/-- a for over a list of the ledger, any target, by any word J of the turn's number, the frame's map and the ledger -/
theorem list_turns {l : Addr} {vs : List Value} {nn : Nat} {m₀ : Str → Option Value} {news : List (Addr × Obj)} (J : Nat → (Str → Option Value) → List (Addr × Obj) → Prop)
    (hh : A.handled = none) (hl : (l, W.listOf vs.toArray nn) ∈ news) (F : Fr h₀ env.locals s.heap m₀) (N : News h₀ env.locals s.heap news) (hj : J 0 m₀ news)
    (turn : ∀ i v m₁ news₁ h tk own, vs[i]? = some v → OwnOff own (news₁.map (·.1)) → (l, W.listOf vs.toArray nn) ∈ news₁ → J i m₁ news₁ → Fr h₀ env.locals h m₁ → News h₀ env.locals h (news₁ ++ own) →
      wpAny (model prog w) A (assign target env v) (fun _ s₂ => wpAny (model prog w) A (execs body env) (InvPostG h₀ env.locals (fun m' nx => (l, W.listOf vs.toArray nn) ∈ nx ∧ J (i + 1) m' nx) own { s with heap := h, toks := tk } Q) E s₂) E { s with heap := h, toks := tk })
    (done : ∀ m₁ news₁ h tk, J vs.length m₁ news₁ → Fr h₀ env.locals h m₁ → News h₀ env.locals h news₁ → Q .next { s with heap := h, toks := tk }) :
    wpAny (model prog w) A (pyIter (.ref l)) (fun it s₂ => TurnsAt prog w A h₀ env target body Q E it s₂) E s := by
  have hol : s.heap.get? l = some (W.listOf vs.toArray nn) := (N _ hl).1
  have hls : s.heap.IsList l vs.toArray := ⟨_, hol, rfl, nn, rfl⟩
  have hne : l ≠ s.heap.objs.size := Nat.ne_of_lt (Heap.lt_size hol)
  refine wpAny_pyIter_list hls ?_
  have WW := KTurns.ofWalks (target := target) (Walks.list (prog := prog) (w := w) hh s.heap.objs.size l hne vs.toArray) fun i v s Q E st q => letGo_listiter st.1 q
  have hlen : vs.toArray.size = vs.length := by simp
  rw [hlen] at WW
  refine ⟨_, _, _, vs.length, _, _, _, m₀, news, (fun i m nx => (l, W.listOf vs.toArray nn) ∈ nx ∧ J i m nx), rfl, WW, ?_, ?_, ?_, ⟨⟨_, Heap.get?_push_size _ rfl, rfl, rfl⟩, hls.at fun o e => Heap.get?_push_of_some _ e⟩, F.push _, (fun p hp => ⟨Heap.get?_push_of_some _ (N p hp).1, (N p hp).2⟩), ⟨hl, hj⟩, ?_, ?_⟩
  · intro hm
    rcases List.mem_cons.mp hm with e | hm
    · exact absurd F.ns.lt (e ▸ Nat.lt_irrefl _)
    · exact (N _ hl).2.1 ((List.mem_singleton.mp hm).symm)
  · intro b hb
    rw [List.mem_singleton.mp hb]
    exact next_is_new F
  · intro p hp hI
    exact absurd (Heap.lt_size (N p hp).1) ((List.mem_singleton.mp hI) ▸ Nat.lt_irrefl _)
  · rintro i v m₁ news₁ hh' tk' own hin hP ⟨hl₁, hJ⟩ hoff hown hget hfp hst F₁ N₁
    have hP' : vs[i]? = some v := by
      have hp' : vs.toArray[i]? = some v := hP
      simpa using hp'
    have hI0 : h₀.get? s.heap.objs.size = none := next_is_new F
    obtain ⟨⟨oI, hoI, _⟩, _⟩ := id hst
    have hIown : (s.heap.objs.size, oI) ∈ own.filter fun p => decide (p.1 = s.heap.objs.size) := List.mem_filter.mpr ⟨hfp _ (List.mem_cons.mpr (.inl rfl)) hI0 _ hoI, by simp⟩
    have hsep : OwnOff (own.filter fun p => decide (p.1 = s.heap.objs.size)) (news₁.map (·.1)) := by
      intro p hp b hb e
      obtain ⟨q, hq, rfl⟩ := List.mem_map.mp hb
      have h1 : p.1 = s.heap.objs.size := by simpa using (List.mem_filter.mp hp).2
      exact hoff q hq (List.mem_singleton.mpr (e ▸ h1))
    have N₂ : News h₀ env.locals hh' (news₁ ++ own.filter fun p => decide (p.1 = s.heap.objs.size)) := fun p hp => N₁ p ((List.mem_append.mp hp).elim (fun h => List.mem_append.mpr (.inr h)) fun h => List.mem_append.mpr (.inl ((List.mem_filter.mp h).1)))
    have hlo : hh'.get? l = some (W.listOf vs.toArray nn) := (N₁ _ (List.mem_append.mpr (.inr hl₁))).1
    refine wpAny_mono (turn i v m₁ news₁ hh' tk' _ hP' hsep hl₁ hJ F₁ N₂) (fun _ s₂ p₂ => wpAny_mono p₂ (fun f s₂ p => ?_) fun _ _ e => e) fun _ _ e => e
    have fin : InvEndG h₀ env.locals (fun m' nx => (l, W.listOf vs.toArray nn) ∈ nx ∧ J (i + 1) m' nx) (own.filter fun p => decide (p.1 = s.heap.objs.size)) { s with heap := hh', toks := tk' } s₂ →
        LoopStepU h₀ env.locals [s.heap.objs.size] own (fun m nx => (l, W.listOf vs.toArray nn) ∈ nx ∧ J (i + 1) m nx) { s with heap := hh', toks := tk' } .next s₂ := by
      rintro ⟨h', tk, m', news', nx, e, F', N', hn, ho, ha, hm⟩
      refine ⟨rfl, h', tk, m', nx, e, F', fun p hp => ?_, fun p hp hq => ?_, hm⟩
      · rcases List.mem_append.mp hp with h | h
        · by_cases hI : p.1 = s.heap.objs.size
          · exact N' p (ho p (List.mem_filter.mpr ⟨h, by simpa using hI⟩))
          · have h1 : p.1 = l := by
              rcases List.mem_cons.mp (hown p h) with h2 | h2
              · exact absurd h2 hI
              · exact List.mem_singleton.mp h2
            have h2 : hh'.get? p.1 = some p.2 := hget p h
            rw [h1, hlo] at h2
            have h3 : p = (l, W.listOf vs.toArray nn) := Prod.ext h1 (Option.some.inj h2).symm
            rw [h3]
            exact N' _ (hn _ hm.1)
        · exact N' p (hn p h)
      · exact ha _ hIown p.1 (List.mem_map.mpr ⟨p, hp, rfl⟩) (List.mem_singleton.mp hq).symm
    cases f with
    | ret v => exact .ret p
    | brk => exact .brk p
    | next => exact .next (fin p)
    | cont => exact .cont (fin p)
  · rintro h' tk m' news' F' N' _ ⟨_, hJ⟩
    exact done m' news' h' tk hJ F' N'
end
end Mine
end

section
theorem Mine.reset13 : True := by
  w_top off
  k_with_none
  trivial
open PySem PySem.W PyProof.Rows PySem.Calls PyProof.V PySem.Spec
open PySem.Builtin PySem.Builtin.Str PySem.StrLaws
set_option maxRecDepth 100000
namespace Mine
section
variable {prog : Program} {w : World} {A : Around} {E : Value → Shared → Prop} {s : Shared} {h₀ : Heap} {L D : Addr} {m : Str → Option Value} {news news' : List (Addr × Obj)} {rs : List Value} {rv : Value} {k : Nat}
theorem truthy_snoc {Q : Bool → Shared → Prop} (N : News h₀ L s.heap news) (hm : (D, W.listOf (rs ++ [rv]).toArray k) ∈ news) (hz : rs.length ≤ 1000)
    (h : Q true { s with toks := s.toks + 1 + 1 }) : wpAny (model prog w) A (truthy (.ref D)) Q E s := by
  have hl : s.heap.IsList D (rs ++ [rv]).toArray := ⟨_, (N _ hm).1, rfl, k, rfl⟩
  refine wpAny_truthy_list hl ?_ ?_
  · rw [List.size_toArray, List.length_append]
    simp only [List.length_cons, List.length_nil]
    omega
  · have e : (!(rs ++ [rv]).toArray.isEmpty) = true := by simp
    rw [e]
    exact h
theorem last_at : (rs ++ [rv]).toArray[((-1 : Int) + ((rs ++ [rv]).toArray.size : Int)).toNat]? = some rv := by
  have e : ((-1 : Int) + ((rs ++ [rv]).toArray.size : Int)).toNat = rs.length := by
    rw [List.size_toArray, List.length_append]
    simp only [List.length_cons, List.length_nil]
    omega
  rw [e]
  simp
theorem last_item {value slice : Expr} {t : Tok} {Q : Value → Shared → Prop} (N : News h₀ L s.heap news) (hm : (D, W.listOf (rs ++ [rv]).toArray k) ∈ news) (h : Q rv s)
    (hs : subscripted slice false (.ref D) (.int (-1) t) = operate [.ref D, .int (-1) t] (getItem (.ref D) (.int (-1) t)) := by with_unfolding_all rfl) :
    wpAny (model prog w) A (subscriptTail value slice (.ref D) (.int (-1) t)) Q E s := by
  have hl : s.heap.IsList D (rs ++ [rv]).toArray := ⟨_, (N _ hm).1, rfl, k, rfl⟩
  refine tail_any hl.typeIs slot_list_getitem.lookup (wpAny_getItem_list_neg hl (by decide) ?_ (by decide) last_at h) hs
  rw [List.size_toArray, List.length_append]
  simp only [List.length_cons, List.length_nil]
  omega
theorem set_last {t : Tok} {v : Value} {Q : Unit → Shared → Prop} (F : Fr h₀ L s.heap m) (N : News h₀ L s.heap news) (U : Upd D (W.listOf (rs ++ [rv]).toArray k) (W.listOf (rs ++ [v]).toArray k) news news')
    (h : ∀ h', Fr h₀ L h' m → News h₀ L h' news' → Q () { s with heap := h' }) : wpAny (model prog w) A (setItem (.ref D) (.int (-1) t) v) Q E s := by
  obtain ⟨pre, post, rfl, rfl, a, b⟩ := U.split
  have z := N (D, W.listOf (rs ++ [rv]).toArray k) (List.mem_append.mpr (.inr (.head _)))
  have e : ((-1 : Int) + ((rs ++ [rv]).toArray.size : Int)).toNat = rs.length := by
    rw [List.size_toArray, List.length_append]
    simp only [List.length_cons, List.length_nil]
    omega
  refine ki_setBack z.1 (by decide) ?_ (by decide) (h _ (F.change (Heap.SameBut.update ..) z.2.1 z.2.2) (ki_turn _ N a b ?_ ?_))
  · rw [List.size_toArray, List.length_append]
    simp only [List.length_cons, List.length_nil]
    omega
  · show (rs ++ [rv]).toArray.setIfInBounds ((-1 : Int) + ((rs ++ [rv]).toArray.size : Int)).toNat v = (rs ++ [v]).toArray
    rw [e]
    apply Array.toList_inj.mp
    simp
  · simp
end

theorem rot_length (u : List Nat) (d : Nat) (h : d ≤ u.length) : (rot u d).length = u.length := by
  unfold rot
  rw [List.length_append, List.length_drop, List.length_take]; omega
/-- the twice told text less its first and last sign -/
theorem slice_mid {u : List Nat} (h : 1 ≤ u.length) : Txt.slice (str u ++ str u) (some 1) (some (-1)) = str (sub (u ++ u) 1 (2 * u.length - 2)) := by
  have hl : (u ++ u).length = 2 * u.length := by rw [List.length_append]; omega
  rw [str_append]
  have h1 := sliceText_neg_hi (str (u ++ u)) (some 1) (j := -1) (by decide) (by rw [str_length, hl]; omega)
  refine h1.trans ?_
  have e : (-1 : Int) + ((str (u ++ u)).length : Int) = ((2 * u.length - 1 : Nat) : Int) := by rw [str_length, hl]; omega
  rw [e]
  have h2 := slice_ss (w := u ++ u) (a := 1) (b := 2 * u.length - 1) (by omega) (by omega)
  rw [show 2 * u.length - 1 - 1 = 2 * u.length - 2 by omega] at h2
  exact h2
theorem sub_mid {u : List Nat} {k : Nat} (h : k + 1 < u.length) : ((sub (u ++ u) 1 (2 * u.length - 2)).drop k).take u.length = rot u (k + 1) := by
  unfold sub rot
  rw [List.drop_take, List.drop_drop, List.take_take]
  rw [Nat.min_eq_left (by omega), List.drop_append_of_le_length (by omega), List.take_append]
  rw [List.take_of_length_le (by rw [List.length_drop]; omega), List.length_drop]
  have e1 : 1 + k = k + 1 := by omega
  have e2 : u.length - (u.length - (1 + k)) = k + 1 := by omega
  rw [e2, e1]
theorem prim_in {u : List Nat} (h : 1 ≤ u.length) : (occurrences (str (sub (u ++ u) 1 (2 * u.length - 2))) (str u) 0 (str (sub (u ++ u) 1 (2 * u.length - 2))).length 1).isEmpty = primB u := by
  have hm : (sub (u ++ u) 1 (2 * u.length - 2)).length = 2 * u.length - 2 := by
    rw [sub_length]; rw [List.length_append]; omega
  have hf := found_iff (str (sub (u ++ u) 1 (2 * u.length - 2))) (str u)
  cases hp : primB u with
  | true =>
    cases ho : (occurrences (str (sub (u ++ u) 1 (2 * u.length - 2))) (str u) 0 (str (sub (u ++ u) 1 (2 * u.length - 2))).length 1).isEmpty with
    | true => rfl
    | false =>
      rw [ho] at hf
      obtain ⟨i, h1, h2⟩ := hf.mp rfl
      rw [str_length, str_length, hm] at h1
      rw [subAt_eq, str_length, str_toList, str_toList] at h2
      have hi : i + 1 < u.length := by omega
      rw [sub_mid hi] at h2
      unfold primB at hp
      have := List.all_eq_true.mp hp i (List.mem_range.mpr (by omega))
      rw [bne_iff_ne] at this
      exact absurd (beq_iff_eq.mp h2) this
  | false =>
    cases ho : (occurrences (str (sub (u ++ u) 1 (2 * u.length - 2))) (str u) 0 (str (sub (u ++ u) 1 (2 * u.length - 2))).length 1).isEmpty with
    | false => rfl
    | true =>
      exfalso
      unfold primB at hp
      obtain ⟨i, hi, h2⟩ := List.all_eq_false.mp hp
      have hi' := List.mem_range.mp hi
      rw [ho] at hf
      have := hf.mpr ⟨i, by rw [str_length, str_length, hm]; omega, by
        rw [subAt_eq, str_length, str_toList, str_toList, sub_mid (by omega)]
        simpa using h2⟩
      cases this
theorem prim_all {wd : List Nat} {j p : Nat} (h1 : 1 ≤ p) (h2 : j + p ≤ wd.length) :
    (occurrences (Txt.slice (Txt.slice (str wd) (some (j : Int)) (some ((j : Int) + (p : Int))) ++ Txt.slice (str wd) (some (j : Int)) (some ((j : Int) + (p : Int)))) (some 1) (some (-1)))
      (Txt.slice (str wd) (some (j : Int)) (some ((j : Int) + (p : Int)))) 0
      (Txt.slice (Txt.slice (str wd) (some (j : Int)) (some ((j : Int) + (p : Int))) ++ Txt.slice (str wd) (some (j : Int)) (some ((j : Int) + (p : Int)))) (some 1) (some (-1))).length 1).isEmpty = primB (sub wd j p) := by
  have e1 : Txt.slice (str wd) (some (j : Int)) (some ((j : Int) + (p : Int))) = str (sub wd j p) := by
    have h9 := slice_ss (w := wd) (a := j) (b := j + p) (by omega) (by omega)
    rw [show j + p - j = p by omega] at h9
    rw [← h9]
    congr 2
  have hul : (sub wd j p).length = p := sub_length (by omega)
  rw [e1, slice_mid (by omega), prim_in (by omega)]
theorem inv_imp {h₀ : Heap} {L : Addr} {J J' : (Str → Option Value) → List (Addr × Obj) → Prop} {own : List (Addr × Obj)} {s₁ s₂ : Shared} (h : InvEndG h₀ L J own s₁ s₂) (hj : ∀ m n, J m n → J' m n) : InvEndG h₀ L J' own s₁ s₂ := by
  obtain ⟨h', tk, m', news', nx, e, F, N, h1, h2, h3, h4⟩ := h
  exact ⟨h', tk, m', news', nx, e, F, N, h1, h2, h3, hj _ _ h4⟩
theorem JB_keep {l : Addr} {keep ex : List (Addr × Obj)} {ps : List (Str × Value)} {ds : List Dat} {m : Str → Option Value} {nx : List (Addr × Obj)} (h : JB l keep ex ps ds m nx) : ∀ p ∈ keep, p ∈ nx := by
  obtain ⟨vs, k, tl, V, rfl, _, _, h1, _⟩ := h
  exact fun p hp => .tail _ (h1 p hp)
end Mine
end

section
theorem Mine.reset14 : True := by
  w_top off
  k_with_none
  trivial
open PySem PySem.W PyProof.Rows PySem.Calls PyProof.V PySem.Spec
set_option maxRecDepth 100000
namespace Mine
theorem fillRuns : Challenge.rw_tc0026_01.name = Challenge.rw_tc0026_01.name ∧ Mine.hd.heap_39 = Mine.hd.heap_39 := by
  k_fill
  exact ⟨rfl, rfl⟩
/-- three naturals as data -/
def tr (x : Nat × Nat × Nat) : Dat := .tuple [.int (x.1 : Int), .int (x.2.1 : Int), .int (x.2.2 : Int)]
theorem pr_open {news : List (Addr × Obj)} {v : Value} {x : Nat × Nat} (h : DatIn news v (pr x)) : ∃ a n t t', v = .ref a ∧ (a, ({ cls := .type "tuple", data := .seq #[.int (x.1 : Int) t, .int (x.2 : Int) t'] n } : Obj)) ∈ news := by
  cases h with
  | tuple hm hd =>
    cases hd with
    | cons h1 hd =>
      cases hd with
      | cons h2 hd =>
        cases hd
        cases h1
        cases h2
        exact ⟨_, _, _, _, rfl, hm⟩
theorem tr_open {news : List (Addr × Obj)} {v : Value} {x : Nat × Nat × Nat} (h : DatIn news v (tr x)) : ∃ a n t t' t'', v = .ref a ∧ (a, ({ cls := .type "tuple", data := .seq #[.int (x.1 : Int) t, .int (x.2.1 : Int) t', .int (x.2.2 : Int) t''] n } : Obj)) ∈ news := by
  cases h with
  | tuple hm hd =>
    cases hd with
    | cons h1 hd =>
      cases hd with
      | cons h2 hd =>
        cases hd with
        | cons h3 hd =>
          cases hd
          cases h1
          cases h2
          cases h3
          exact ⟨_, _, _, _, _, rfl, hm⟩
theorem drop3 {α : Type} {x y z : α} {l : List α} : ∀ p ∈ x :: y :: l, p ∈ x :: y :: z :: l := fun p hp => by
  rcases List.mem_cons.mp hp with rfl | hp
  · exact .head _
  · rcases List.mem_cons.mp hp with rfl | hp
    · exact .tail _ (.head _)
    · exact .tail _ (.tail _ (.tail _ hp))
theorem drop4 {α : Type} {x y z t : α} {l : List α} : ∀ p ∈ x :: y :: l, p ∈ x :: y :: z :: t :: l := fun p hp => by
  rcases List.mem_cons.mp hp with rfl | hp
  · exact .head _
  · rcases List.mem_cons.mp hp with rfl | hp
    · exact .tail _ (.head _)
    · exact .tail _ (.tail _ (.tail _ (.tail _ hp)))
theorem drop2 {α : Type} {x y : α} {l : List α} : ∀ p ∈ x :: l, p ∈ x :: y :: l := fun p hp => by
  rcases List.mem_cons.mp hp with rfl | hp
  · exact .head _
  · exact .tail _ (.tail _ hp)
theorem drop2b {α : Type} {x y z : α} {l : List α} : ∀ p ∈ x :: l, p ∈ x :: y :: z :: l := fun p hp => by
  rcases List.mem_cons.mp hp with rfl | hp
  · exact .head _
  · exact .tail _ (.tail _ (.tail _ hp))
theorem dat_int {news : List (Addr × Obj)} {i j : Int} {t : Tok} (e : i = j) : DatIn news (.int i t) (.int j) := by subst e; exact .int _ _
local macro_rules | `(tactic| size_fits) => `(tactic| with_reducible assumption)
local macro_rules | `(tactic| walk_at "exec For Tuple Name cons nil") => `(tactic| (k_here; (rename Fr _ _ _ _ => lF'); (with_unfolding_all refine' For_turns lF' ?_ ?hs; (case hs => (intro _; with_unfolding_all rfl)); k_whole)))
local macro_rules | `(tactic| walk_at "truthy ref") => `(tactic| (k_here; (with_reducible show wpAny _ _ (truthy (Value.ref _)) _ _ _); k_dflt (refine' truthy_snoc ?N ?m ?z ?_; (case N => k_asm); (case m => k_mem); (case z => with_reducible assumption); k_whole)))
local macro_rules | `(tactic| walk_at "subscriptTail") => `(tactic| (k_here; (with_reducible show wpAny _ _ (subscriptTail _ _ (Value.ref _) (Value.int (-1) _)) _ _ _); k_dflt (refine' last_item ?N ?m ?_; (case N => k_asm); (case m => k_mem); k_whole)))
local macro_rules | `(tactic| walk_at "setItem ref int") => `(tactic| (k_here; (with_reducible show wpAny _ _ (setItem (Value.ref _) (Value.int (-1) _) _) _ _ _); k_dflt (refine' set_last ?F ?N ?U ?_; (case F => k_asm); (case N => k_asm); (case U => k_upd); k_whole); intro h' F' N'; (try k_sweep)))
local macro_rules | `(tactic| walk_at "isTrue BoolOp") => `(tactic| (dsimp only; (try k_gentoks)))
local macro_rules | `(tactic| walk_at "eval Subscript") => `(tactic| (dsimp only; (try k_gentoks)))
section
variable {prog : Program} {w : World} {p : Program} {loose : List Str} {mean : ExcName → Option Value} {mg mb : Str → Option Value} {news : List (Addr × Obj)}
  {dp un : Nat} {gd : Option (List Code)} {cn : Str} {cs : Scope} {a : Addr} {ccd : Value} {cl : List (Str × Addr)} {outer : List Env} {A₀ : Around} {base h₀ : Heap} {L : Addr} {m : Str → Option Value} {s : Shared} {Q E : Value → Shared → Prop}
set_option maxHeartbeats 4000000 in
theorem runs_call {wd : List Nat} {t1 : Tok} {l : Addr} {vs : List Value} {k : Nat} {sq : List (Nat × Nat)} (B : Below A₀ base outer h₀) (F : Fr h₀ L s.heap m) (X : (Mine.hd.heap_39 w.params).In h₀) (N : News h₀ L s.heap news) (T : Top p loose mean mg mb h₀) (hk : cs.kind = .function)
    (hw : wd.length = 12) (hl : (l, W.listOf vs.toArray k) ∈ news) (hds : DatAll news vs (sq.map pr)) (hsq : ∀ x ∈ sq, 1 ≤ x.1 ∧ x.2 + 2 * x.1 ≤ 12) (hsl : sq.length ≤ 1000) (hd : dp + 2 < recursionLimit) (hu : un + 16 < cLine)
    (hret : ∀ l vs k tl h' tk', Fr h₀ L h' m → News h₀ L h' ((l, W.listOf vs.toArray k) :: (tl ++ news)) → OwnOff tl (l :: news.map (·.1)) → (∀ b ∈ news.map (·.1), l ≠ b) → DatAll tl vs ((runsOf wd sq).map tr) → Q (.ref l) { s with heap := h', toks := tk' }) :
    wpAny (model prog w) (ktrTop dp un gd cn cs L a ccd cl outer) (call (.ref 217) [.str (str wd) t1, .ref l]) Q E s := by
  k_with "pyIter ref" => refine Held.of ?_
  have hT : (str wd).length = 12 := by rw [str_length, hw]
  refine wpAny_call ?_
  cell_enter
  k_steps
  rename_i l' _ l1 _ _ _
  rename Fr _ _ _ _ => F
  rename News _ _ _ _ => N
  have hoff : OwnOff news [l'] := off_one l1
  refine Held.out (list_turns (fun i => JB l' news [] [(Str.ofString "text", .str (str wd) t1), (Str.ofString "runs", .ref l')] ((runsOf wd (sq.take i)).map tr)) rfl (by exact .tail _ hl) F N ?_ ?_ ?_)
  · exact ⟨[], 0, [], news, rfl, hoff, (fun _ h => nomatch h), fun _ h => h, (fun _ h => nomatch h), (fun _ h => nomatch h), .nil, fun p hp => by
      simp only [List.mem_cons, List.not_mem_nil, or_false] at hp
      rcases hp with rfl | rfl <;> rfl⟩
  · rintro i v m₁ nx h tk own hv hoff2 hl2 ⟨rs, k, tl, V, rfl, hV, htV, hkV, _, htk, hdr, hm⟩ F₁ N₁
    have F₂ := fr_known hm F₁
    clear F₁
    dsimp only [kstB] at F₂
    have hi : i < sq.length := by
      have h1 := (List.getElem?_eq_some_iff.mp hv).1
      have h2 := hds.length
      rw [List.length_map] at h2
      omega
    obtain ⟨v', hv', hD⟩ := hds.get (k := i) (by rw [List.length_map]; exact hi)
    rw [hv] at hv'
    cases hv'
    rw [List.getElem_map] at hD
    obtain ⟨a, n, ta, tb, rfl, ham⟩ := pr_open hD
    obtain ⟨hp1, hp2⟩ := hsq _ (List.getElem_mem hi)
    generalize hx : sq[i] = x at *
    obtain ⟨p, j⟩ := x
    dsimp only at *
    have N₂ : News _ _ h ((l', W.listOf rs.toArray k) :: (a, ({ cls := .type "tuple", data := .seq #[.int (p : Int) ta, .int (j : Int) tb] n } : Obj)) :: (V ++ own)) := fun q hq => by
      rcases List.mem_cons.mp hq with rfl | hq
      · exact N₁ _ (.head _)
      · rcases List.mem_cons.mp hq with rfl | hq
        · exact N₁ _ (.tail _ (List.mem_append.mpr (.inl (hkV _ ham))))
        · exact N₁ _ (.tail _ hq)
    have hne : a ≠ l' := hoff _ ham _ (.head _)
    clear N₁ F N
    have hoff5 : OwnOff (V ++ own) [l'] := off_app hV (off_fst hoff2)
    have hrl : rs.length ≤ 1000 := by
      rw [hdr.length, List.length_map]
      have := runsOf_len wd sq i
      omega
    have hvl : rs.toArray.size ≤ sizeLine := by rw [List.size_toArray, sizeLine_eq]; omega
    have hsucc := runsOf_succ wd sq i hi
    rw [hx] at hsucc
    generalize hR : runsOf wd (sq.take i) = R at *
    rcases List.eq_nil_or_concat rs with rfl | ⟨rs, rv, rfl⟩
    · have hR0 : R = [] := by
        have := hdr.length
        rw [List.length_map] at this
        exact List.length_eq_zero_iff.mp this.symm
      subst hR0
      k_steps
      · rename (List.isEmpty _ = true) => hq
        rw [prim_all hp1 (by omega)] at hq
        rw [hsucc, runStep_nil hq, List.map_append]
        rename (_ ∧ _ ∧ AllLt _ _) => hlt
        refine inv_imp (JB_push (by assumption) (cb_drop (by assumption) drop3) ⟨hlt.1, hlt.2.2⟩ hV (off_fst hoff2) (off_tail hoff2) htV hkV (List.forall_mem_nil _) htk hdr ?_ ?_) (fun m n hJ => ⟨JB_keep hJ _ hl, hJ⟩)
        · refine .tuple (List.mem_singleton.mpr rfl) (.cons (.int _ _) (.cons ?_ (.cons (.int _ _) .nil)))
          exact dat_int (by dsimp only; omega)
        · intro p hp
          simp only [List.mem_cons, List.not_mem_nil, or_false] at hp
          rcases hp with rfl | rfl <;> rfl
      · rename (List.isEmpty _ = false) => hq
        rw [prim_all hp1 (by omega)] at hq
        rw [hsucc, runStep_skip hq]
        refine inv_imp (JB_skip (by assumption) (cb_drop (by assumption) drop2) hV hoff2 htV hkV (List.forall_mem_nil _) htk hdr ?_) (fun m n hJ => ⟨JB_keep hJ _ hl, hJ⟩)
        intro p hp
        simp only [List.mem_cons, List.not_mem_nil, or_false] at hp
        rcases hp with rfl | rfl <;> rfl
    · rw [List.concat_eq_append] at *
      have hrl' : rs.length ≤ 1000 := by rw [List.length_append] at hrl; omega
      obtain ⟨es, d, hes, hde, hdd⟩ := hdr.snoc
      obtain ⟨R0, r0, rfl, rfl, rfl⟩ : ∃ R0 r0, R = R0 ++ [r0] ∧ es = R0.map tr ∧ d = tr r0 := by
        obtain ⟨R0, R1, h1, h2, h3⟩ := List.map_eq_append_iff.mp hes
        cases R1 with
        | nil => cases h3
        | cons r0 R1 =>
          simp only [List.map_cons, List.cons.injEq] at h3
          have : R1 = [] := List.map_eq_nil_iff.mp h3.2
          subst this
          exact ⟨R0, r0, h1, h2.symm, h3.1.symm⟩
      obtain ⟨b, nb, tx, ty, tz, rfl, hbm⟩ := tr_open hdd
      obtain ⟨f, e, q⟩ := r0
      dsimp only at *
      have N₃ : News _ _ h ((l', W.listOf (rs ++ [Value.ref b]).toArray k) :: (b, ({ cls := .type "tuple", data := .seq #[.int (f : Int) tx, .int (e : Int) ty, .int (q : Int) tz] nb } : Obj)) :: (a, ({ cls := .type "tuple", data := .seq #[.int (p : Int) ta, .int (j : Int) tb] n } : Obj)) :: (V ++ own)) := fun q hq => by
        rcases List.mem_cons.mp hq with rfl | hq
        · exact N₂ _ (.head _)
        · rcases List.mem_cons.mp hq with rfl | hq
          · exact N₂ _ (.tail _ (.tail _ (List.mem_append.mpr (.inl (htV _ hbm)))))
          · exact N₂ _ (.tail _ hq)
      have hne2 : b ≠ l' := hV _ (htV _ hbm) _ (.head _)
      clear N₂
      k_steps
      · rename (List.isEmpty _ = true) => hq
        rw [prim_all hp1 (by omega)] at hq
        rw [hsucc, runStep_ext hq (by omega) (by omega), List.map_append]
        rename (_ ∧ _ ∧ _ ∧ AllLt _ _) => hlt
        refine inv_imp (JB_last (by assumption) (cb_drop (by assumption) drop4) ⟨hlt.1, hlt.2.2.2⟩ hV (off_fst hoff2) (off_tail hoff2) htV hkV (List.forall_mem_nil _) htk hde ?_ ?_) (fun m n hJ => ⟨JB_keep hJ _ hl, hJ⟩)
        · refine .tuple (List.mem_singleton.mpr rfl) (.cons (.int _ _) (.cons ?_ (.cons (.int _ _) .nil)))
          exact dat_int (by dsimp only; omega)
        · intro p hp
          simp only [List.mem_cons, List.not_mem_nil, or_false] at hp
          rcases hp with rfl | rfl <;> rfl
      · rename (List.isEmpty _ = true) => hq
        rw [prim_all hp1 (by omega)] at hq
        rw [hsucc, runStep_new hq (by omega), List.map_append]
        rename (_ ∧ _ ∧ _ ∧ AllLt _ _) => hlt
        refine inv_imp (JB_push (by assumption) (cb_drop (by assumption) drop4) ⟨hlt.1, hlt.2.2.2⟩ hV (off_fst hoff2) (off_tail hoff2) htV hkV (List.forall_mem_nil _) htk hdr ?_ ?_) (fun m n hJ => ⟨JB_keep hJ _ hl, hJ⟩)
        · refine .tuple (List.mem_singleton.mpr rfl) (.cons (.int _ _) (.cons ?_ (.cons (.int _ _) .nil)))
          exact dat_int (by dsimp only; omega)
        · intro p hp
          simp only [List.mem_cons, List.not_mem_nil, or_false] at hp
          rcases hp with rfl | rfl <;> rfl
      · rename (List.isEmpty _ = true) => hq
        rw [prim_all hp1 (by omega)] at hq
        rw [hsucc, runStep_new hq (by omega), List.map_append]
        rename (_ ∧ _ ∧ _ ∧ AllLt _ _) => hlt
        refine inv_imp (JB_push (by assumption) (cb_drop (by assumption) drop4) ⟨hlt.1, hlt.2.2.2⟩ hV (off_fst hoff2) (off_tail hoff2) htV hkV (List.forall_mem_nil _) htk hdr ?_ ?_) (fun m n hJ => ⟨JB_keep hJ _ hl, hJ⟩)
        · refine .tuple (List.mem_singleton.mpr rfl) (.cons (.int _ _) (.cons ?_ (.cons (.int _ _) .nil)))
          exact dat_int (by dsimp only; omega)
        · intro p hp
          simp only [List.mem_cons, List.not_mem_nil, or_false] at hp
          rcases hp with rfl | rfl <;> rfl
      · rename (List.isEmpty _ = false) => hq
        rw [prim_all hp1 (by omega)] at hq
        rw [hsucc, runStep_skip hq]
        refine inv_imp (JB_skip (by assumption) (cb_drop (by assumption) drop2b) hV hoff2 htV hkV (List.forall_mem_nil _) htk hdr ?_) (fun m n hJ => ⟨JB_keep hJ _ hl, hJ⟩)
        intro p hp
        simp only [List.mem_cons, List.not_mem_nil, or_false] at hp
        rcases hp with rfl | rfl <;> rfl
  · rintro m₂ nx' h' tk' ⟨vs', k', tl', V', rfl, hV', htV', hkV', hxV', htk', hd', hm'⟩ F₁ N₁
    dsimp only
    have F₂ := fr_known hm' F₁
    clear F₁
    dsimp only [kstB] at F₂
    k_steps
    rw [List.append_nil] at htk'
    have hln : vs.length = sq.length := by have := hds.length; rw [List.length_map] at this; exact this
    rw [hln, List.take_length] at hd'
    refine hret l' vs' k' tl' _ _ (by assumption) (cb_drop (by assumption) fun p hp => ?_) (fun p hp b hb => ?_) (fun b hb => ?_) hd'
    · rcases List.mem_cons.mp hp with rfl | hp
      · exact .head _
      · exact .tail _ ((List.mem_append.mp hp).elim (htV' p) (hkV' p))
    · rcases List.mem_cons.mp hb with rfl | hb
      · exact hV' p (htV' p hp) _ (.head _)
      · exact htk' p hp b hb
    · obtain ⟨o, ho⟩ := mem_fst hb
      exact Nat.ne_of_gt (l1 _ ho)
end
end Mine
end

section
theorem Mine.reset15 : True := by
  w_top off
  k_with_none
  trivial
open PySem PySem.W PyProof.Rows PySem.Calls PyProof.V PySem.Spec
set_option maxRecDepth 100000
namespace Mine
theorem fillOrd : Challenge.rw_tc0026_01.name = Challenge.rw_tc0026_01.name ∧ Mine.hd.heap_39 = Mine.hd.heap_39 := by
  k_fill
  exact ⟨rfl, rfl⟩
section
variable {prog : Program} {w : World} {p : Program} {loose : List Str} {mean : ExcName → Option Value} {mg mb : Str → Option Value} {news : List (Addr × Obj)}
  {dp un : Nat} {gd : Option (List Code)} {cn : Str} {cs : Scope} {a : Addr} {ccd : Value} {cl : List (Str × Addr)} {outer : List Env} {A₀ : Around} {base h₀ : Heap} {L : Addr} {m : Str → Option Value} {s : Shared} {Q E : Value → Shared → Prop}
set_option maxHeartbeats 4000000 in
theorem lt_call {x y : Str} {t1 t2 : Tok} (B : Below A₀ base outer h₀) (F : Fr h₀ L s.heap m) (X : (Mine.hd.heap_39 w.params).In h₀) (N : News h₀ L s.heap news) (T : Top p loose mean mg mb h₀) (hk : cs.kind = .function)
    (hd : dp + 1 < recursionLimit) (hu : un + 8 < cLine)
    (hret : ∀ h' tk', Fr h₀ L h' m → News h₀ L h' news → Q (.bool (decide (x.cps.toList < y.cps.toList))) { s with heap := h', toks := tk' }) :
    wpAny (model prog w) (ktrTop dp un gd cn cs L a ccd cl outer) (call (.ref 189) [.str x t1, .str y t2]) Q E s := by
  refine wpAny_call ?_
  cell_enter
  k_steps
  exact hret _ _ (by assumption) (by assumption)
set_option maxHeartbeats 4000000 in
theorem gt_call {x y : Str} {t1 t2 : Tok} (B : Below A₀ base outer h₀) (F : Fr h₀ L s.heap m) (X : (Mine.hd.heap_39 w.params).In h₀) (N : News h₀ L s.heap news) (T : Top p loose mean mg mb h₀) (hk : cs.kind = .function)
    (hd : dp + 1 < recursionLimit) (hu : un + 8 < cLine)
    (hret : ∀ h' tk', Fr h₀ L h' m → News h₀ L h' news → Q (.bool (decide (y.cps.toList < x.cps.toList))) { s with heap := h', toks := tk' }) :
    wpAny (model prog w) (ktrTop dp un gd cn cs L a ccd cl outer) (call (.ref 196) [.str x t1, .str y t2]) Q E s := by
  refine wpAny_call ?_
  cell_enter
  k_steps
  exact hret _ _ (by assumption) (by assumption)
end
end Mine
end

section
theorem Mine.reset16 : True := by
  w_top off
  k_with_none
  trivial
open PySem PySem.W PyProof.Rows PySem.Calls PyProof.V PySem.Spec
set_option maxRecDepth 100000
namespace Mine
/-- an element that leaves the ledger as it was, and what is said of it -/
def CEl (news : List (Addr × Obj)) (R : Value → Prop) (y : Value) (news' : List (Addr × Obj)) : Prop := news' = news ∧ R y
inductive RelAll {α : Type} (R : α → Value → Prop) : List α → List Value → Prop
  | nil : RelAll R [] []
  | cons {a : α} {as : List α} {v : Value} {vs : List Value} : R a v → RelAll R as vs → RelAll R (a :: as) (v :: vs)
theorem RelAll.length {α : Type} {R : α → Value → Prop} {as : List α} {vs : List Value} (h : RelAll R as vs) : vs.length = as.length := by
  induction h with
  | nil => rfl
  | cons _ _ ih => rw [List.length_cons, List.length_cons, ih]
theorem RelAll.snoc {α : Type} {R : α → Value → Prop} {as : List α} {vs : List Value} {a : α} {v : Value} (h : RelAll R as vs) (k : R a v) : RelAll R (as ++ [a]) (vs ++ [v]) := by
  induction h with
  | nil => exact .cons k .nil
  | cons h _ ih => exact .cons h ih
theorem RelAll.mono {α : Type} {R R' : α → Value → Prop} {as : List α} {vs : List Value} (h : RelAll R as vs) (k : ∀ a v, R a v → R' a v) : RelAll R' as vs := by
  induction h with
  | nil => exact .nil
  | cons h _ ih => exact .cons (k _ _ h) ih
section
variable {prog : Program} {w : World} {A : Around} {h₀ : Heap} {L : Addr} {m : Str → Option Value} {env : Env} {elt : Expr} {x : Str} {scope : Scope} {cl : List (Str × Addr)} {s : Shared} {S : List (Addr × Obj) → Prop} {P : Nat → Value → Prop} {Fin : List Value → List (Addr × Obj) → Prop} {news : List (Addr × Obj)}
/-- a comprehension over things of a kind: each source value stands for one of as -/
theorem comp_rest {α : Type} {n : Nat} {as : List α} (V : α → Value → Prop) (R : α → Value → Prop) (hks : as.length = n) (hP : ∀ i v, i < n → P i v → ∃ k, as[i]? = some k ∧ V k v)
    (turn : ∀ k v I oI C oC D m₂ ys h tk (E' : Value → Shared → Prop), k ∈ as → V k v → LCg.NsObj oC m₂ → m₂ x = some v → Fr h₀ L h m → News h₀ L h ((I, oI) :: (C, oC) :: (D, LCg.lst ys) :: news) → LCg.Off3 I C D news → ((@Ne Nat I C) ∧ (@Ne Nat I D) ∧ (@Ne Nat C D)) →
      wpAny (model prog w) A (eval elt (compEnvC scope cl C env)) (LCg.CompEnd h₀ L m { s with heap := h, toks := tk } I oI C oC D (LCg.lst ys) S (fun y news' => CEl news (R k) y news')) E' { s with heap := h, toks := tk })
    (fin : ∀ ys, RelAll R as ys → Fin ys news) : LCg.CompRest prog w A h₀ L m env elt x scope cl s S P Fin n 0 [] news := by
  have key : ∀ (j i : Nat) (ys : List Value), i + j = n → RelAll R (as.take i) ys → LCg.CompRest prog w A h₀ L m env elt x scope cl s S P Fin j i ys news := by
    intro j
    induction j with
    | zero =>
      intro i ys hi hy
      have e : i = as.length := by omega
      subst e
      rw [List.take_length] at hy
      exact LCg.CompRest.zero (fin ys hy)
    | succ j ih =>
      intro i ys hi hy
      refine LCg.CompRest.succ ?_
      intro v I oI C oC D m₂ h tk E' hv hC hx F N off ne
      obtain ⟨k, hk, hv'⟩ := hP i v (by omega) hv
      refine wpAny_mono (turn k v I oI C oC D m₂ ys h tk E' (List.mem_of_getElem? hk) hv' hC hx F N off ne) (fun y s₂ hq => ?_) fun _ _ e => e
      obtain ⟨h', tk', nw, e, F', N', off', hS, hn, hy'⟩ := hq
      rw [hn] at N' off' hS
      refine ⟨h', tk', news, e, F', N', off', hS, ?_⟩
      refine ih (i + 1) _ (by omega) ?_
      rw [List.take_add_one, hk]
      exact hy.snoc hy'
  exact key n 0 [] (by omega) (by rw [List.take_zero]; exact .nil)
theorem comp_range {n : Nat} {a : Nat} (R : Nat → Value → Prop)
    (turn : ∀ (k : Nat) t I oI C oC D m₂ ys h tk (E' : Value → Shared → Prop), a ≤ k → k < a + n → LCg.NsObj oC m₂ → m₂ x = some (.int (k : Int) t) → Fr h₀ L h m → News h₀ L h ((I, oI) :: (C, oC) :: (D, LCg.lst ys) :: news) → LCg.Off3 I C D news → ((@Ne Nat I C) ∧ (@Ne Nat I D) ∧ (@Ne Nat C D)) →
      wpAny (model prog w) A (eval elt (compEnvC scope cl C env)) (LCg.CompEnd h₀ L m { s with heap := h, toks := tk } I oI C oC D (LCg.lst ys) S (fun y news' => CEl news (R k) y news')) E' { s with heap := h, toks := tk })
    (fin : ∀ ys, RelAll R (List.range' a n) ys → Fin ys news) : LCg.CompRest prog w A h₀ L m env elt x scope cl s S (fun i v => ∃ t, v = .int ((a : Int) + (i : Int)) t) Fin n 0 [] news :=
  comp_rest (as := List.range' a n) (fun k v => ∃ t, v = .int (k : Int) t) R (by simp) (fun i v hi hv => by
    obtain ⟨t, e⟩ := hv
    exact ⟨a + i, by simp [hi], t, by rw [e]; congr 1⟩)
    (fun k v I oI C oC D m₂ ys h tk E' hk hv hC hx F N off ne => by
      obtain ⟨t, rfl⟩ := hv
      have := List.mem_range'_1.mp hk
      exact turn k t I oI C oC D m₂ ys h tk E' this.1 this.2 hC hx F N off ne) fin
end
section
variable {prog : Program} {w : World} {A : Around} {E : Value → Shared → Prop} {s : Shared} {h₀ : Heap} {L a : Addr} {news : List (Addr × Obj)} {oa : Obj} {ka : Nat} {Q : Value → Shared → Prop}
theorem reads_bools (h : Heap) : ∀ bs : List Bool, ∃ as, ReadsAll h (bs.map Value.bool) (bs.map PyData.bool) as
  | [] => ⟨_, .nil⟩
  | b :: bs => by
    obtain ⟨as, q⟩ := reads_bools h bs
    exact ⟨_, .cons (.bool b) q⟩
theorem lay_bools : ∀ bs : List Bool, PyData.canLayAll0 (bs.map PyData.bool) = true ∧ PyData.depthAll (bs.map PyData.bool) ≤ 8
  | [] => by simp [PyData.canLayAll0, PyData.depthAll]
  | b :: bs => by
    have := lay_bools bs
    simp [PyData.canLayAll0, PyData.depthAll, PyData.canLay0, PyData.depth, this]
theorem any_bools : ∀ bs : List Bool, (!(bs.map PyData.bool).any fun y => PyData.eqv y (PyData.bool false)) = bs.all fun b => b
  | [] => rfl
  | b :: bs => by
    have ih := any_bools bs
    simp only [List.map_cons, List.any_cons, List.all_cons, Bool.not_or, ih]
    cases b <;> simp [PyData.eqv]
theorem notin_bools {bs : List Bool} (N : News h₀ L s.heap news) (ma : (a, oa) ∈ news) (ca : oa.cls = .type "list") (da : oa.data = .seq (bs.map Value.bool).toArray ka)
    (hu : A.units + 16 < cLine) (h : Q (.bool (bs.all fun b => b)) s) : wpAny (model prog w) A (compareOp .NotIn (.bool false) (.ref a)) Q E s := by
  obtain ⟨as, ra⟩ := reads_bools s.heap bs
  have l := lay_bools bs
  refine SeqAt.notIn_list_reads (reads_list_at (N.get ma) ca da (by simpa using ra)) (.bool false) l.1 (by simp [PyData.canLay0]) ?_ (by rw [any_bools]; exact h)
  have := l.2
  have := Nat.min_le_left (PyData.depthAll (bs.map PyData.bool)) (PyData.bool false).depth
  omega
end
theorem rel_bools {f : Nat → Bool} : ∀ {ks : List Nat} {ys : List Value}, RelAll (fun k v => v = .bool (f k)) ks ys → ys = (ks.map f).map Value.bool
  | _, _, .nil => rfl
  | _, _, .cons h r => by rw [h, rel_bools r]; rfl
end Mine
end

section
theorem Mine.reset17 : True := by
  w_top off
  k_with_none
  trivial
open PySem PySem.W PyProof.Rows PySem.Calls PyProof.V PySem.Spec
set_option maxRecDepth 100000
namespace Mine
theorem fillTak : Challenge.rw_tc0026_01.name = Challenge.rw_tc0026_01.name ∧ Mine.hd.heap_39 = Mine.hd.heap_39 := by
  k_fill
  exact ⟨rfl, rfl⟩
/-- ints that a loop gathers, one cell turned besides -/
def JT (l c : Addr) (keep : List (Addr × Obj)) (ps : List (Str × Value)) (ns : List Int) (m : Str → Option Value) (nx : List (Addr × Obj)) : Prop :=
  ∃ (vs : List Value) (k : Nat) (oc : Obj) (V : List (Addr × Obj)), nx = (l, W.listOf vs.toArray k) :: (c, oc) :: V ∧ OwnOff V [l, c] ∧ (∃ x, oc.data = .cell x) ∧ (∀ p ∈ keep, p ∈ V) ∧ IntsAre vs ns ∧ (∀ p ∈ ps, m p.1 = some p.2)
section
variable {h₀ h : Heap} {L : Addr} {m' : Str → Option Value} {keep own V : List (Addr × Obj)} {l c : Addr} {oc : Obj} {vs : List Value} {k : Nat} {ps : List (Str × Value)} {ns : List Int} {s₁ : Shared} {tk : Nat}
theorem JT_end (F : Fr h₀ L h m') (N : News h₀ L h ((l, W.listOf vs.toArray k) :: (c, oc) :: (V ++ own))) (hV : OwnOff V [l, c]) (ho : OwnOff own (l :: c :: V.map (·.1))) (hc : ∃ x, oc.data = .cell x) (hk : ∀ p ∈ keep, p ∈ V)
    (hi : IntsAre vs ns) (hps : ∀ p ∈ ps, m' p.1 = some p.2) : InvEndG h₀ L (JT l c keep ps ns) own s₁ { s₁ with heap := h, toks := tk } :=
  InvEndG.intro (nx := (l, W.listOf vs.toArray k) :: (c, oc) :: V) F N ⟨vs, k, oc, V, rfl, hV, hc, hk, hi, hps⟩ ho
    (fun p hp => by
      rcases List.mem_cons.mp hp with rfl | hp
      · exact .head _
      · rcases List.mem_cons.mp hp with rfl | hp
        · exact .tail _ (.head _)
        · exact .tail _ (.tail _ (List.mem_append.mpr (.inl hp))))
    (fun p hp => .tail _ (.tail _ (List.mem_append.mpr (.inr hp))))
end
/-- is a text before another: up, or down -/
def before (dn : Bool) (u v : List Nat) : Bool := if dn then decide (v < u) else decide (u < v)
/-- is the root less than its other turns -/
def leastB (dn : Bool) (u : List Nat) : Bool := (List.range (u.length - 1)).all fun k => before dn u (rot u (k + 1))
def takenTo (w : List Nat) (p : Nat) (dn : Bool) (a i : Nat) : List Nat := ((List.range i).map (a + ·)).filter fun x => leastB dn (sub w x p)
local macro_rules | `(tactic| walk_at "call ref") => `(tactic| ((with_reducible show wpAny _ _ (call (Value.ref 189) _ _) _ _ _); k_dflt (refine' lt_call ?kB ?kF ?kX ?kN ?kT ?kK ?hd ?hu ?_; (case kB => k_asm); (case kF => k_asm); (case kX => k_asm); (case kN => k_asm); (case kT => k_asm); (case kK => first | exact rfl | assumption); (case hd => ktr_room); (case hu => ktr_units)); intro h9 tk9 F9 N9))
local macro_rules | `(tactic| walk_at "call ref") => `(tactic| ((with_reducible show wpAny _ _ (call (Value.ref 196) _ _) _ _ _); k_dflt (refine' gt_call ?kB ?kF ?kX ?kN ?kT ?kK ?hd ?hu ?_; (case kB => k_asm); (case kF => k_asm); (case kX => k_asm); (case kN => k_asm); (case kT => k_asm); (case kK => first | exact rfl | assumption); (case hd => ktr_room); (case hu => ktr_units)); intro h9 tk9 F9 N9))
theorem turn_txt {wd : List Nat} {x p k : Nat} (h : x + p ≤ wd.length) (hk : k ≤ p) :
    Txt.slice (Txt.slice (str wd) (some (x : Int)) (some ((x : Int) + (p : Int)))) (some (k : Int)) none ++ Txt.slice (Txt.slice (str wd) (some (x : Int)) (some ((x : Int) + (p : Int)))) none (some (k : Int)) = str (rot (sub wd x p) k) := by
  have e1 : Txt.slice (str wd) (some (x : Int)) (some ((x : Int) + (p : Int))) = str (sub wd x p) := by
    have h9 := slice_ss (w := wd) (a := x) (b := x + p) (by omega) (by omega)
    rw [show x + p - x = p by omega] at h9
    rw [← h9]
    congr 2
  have hl := sub_length (w := wd) (i := x) (p := p) h
  rw [e1, slice_sn (by omega), slice_ns (by omega), str_append]
  rfl
theorem root_txt {wd : List Nat} {x p : Nat} (h : x + p ≤ wd.length) : Txt.slice (str wd) (some (x : Int)) (some ((x : Int) + (p : Int))) = str (sub wd x p) := by
  have h9 := slice_ss (w := wd) (a := x) (b := x + p) (by omega) (by omega)
  rw [show x + p - x = p by omega] at h9
  rw [← h9]
  congr 2
theorem all_range' {f : Nat → Bool} (n : Nat) : ((List.range' 1 n).map f).all (fun b => b) = (List.range n).all fun k => f (k + 1) := by
  rw [List.range'_eq_map_range, List.map_map, List.all_map]
  congr 1
  funext k
  show f (1 + k) = f (k + 1)
  rw [Nat.add_comm]
theorem ints_snoc {vs : List Value} {ns : List Int} {v : Int} {t : Tok} (h : IntsAre vs ns) : IntsAre (vs ++ [.int v t]) (ns ++ [v]) := h.append (.cons v t .nil)
theorem drop13 {α : Type} {x y z u : α} {l : List α} : ∀ p ∈ y :: z :: l, p ∈ x :: y :: z :: u :: l := fun p hp => by
  rcases List.mem_cons.mp hp with rfl | hp
  · exact .tail _ (.head _)
  · rcases List.mem_cons.mp hp with rfl | hp
    · exact .tail _ (.tail _ (.head _))
    · exact .tail _ (.tail _ (.tail _ (.tail _ hp)))
local macro_rules | `(tactic| walk_at "CompSrc") => `(tactic| refine Held.of ?_)
local macro_rules | `(tactic| walk_at "CompEnd") => `(tactic| refine Held.of ?_)
theorem takenTo_succ (w : List Nat) (p : Nat) (dn : Bool) (a i : Nat) : takenTo w p dn a (i + 1) = takenTo w p dn a i ++ (if leastB dn (sub w (a + i) p) then [a + i] else []) := by
  unfold takenTo
  rw [List.range_succ, List.map_append, List.filter_append]
  cases h : leastB dn (sub w (a + i) p) <;> simp [h]
theorem takenTo_len (w : List Nat) (p : Nat) (dn : Bool) (a i : Nat) : (takenTo w p dn a i).length ≤ i := by
  unfold takenTo
  exact Nat.le_trans (List.length_filter_le _ _) (by rw [List.length_map, List.length_range]; exact Nat.le_refl _)
local macro_rules | `(tactic| size_fits) => `(tactic| with_reducible assumption)
section
variable {prog : Program} {w : World} {p : Program} {loose : List Str} {mean : ExcName → Option Value} {mg mb : Str → Option Value} {news : List (Addr × Obj)}
  {dp un : Nat} {gd : Option (List Code)} {cn : Str} {cs : Scope} {a : Addr} {ccd : Value} {cl : List (Str × Addr)} {outer : List Env} {A₀ : Around} {base h₀ : Heap} {L : Addr} {m : Str → Option Value} {s : Shared} {Q E : Value → Shared → Prop}
set_option maxHeartbeats 4000000 in
theorem taken_up {wd : List Nat} {t1 : Tok} {r : Addr} {n f e q : Nat} {ta tb tc : Tok} (B : Below A₀ base outer h₀) (F : Fr h₀ L s.heap m) (X : (Mine.hd.heap_39 w.params).In h₀) (T : Top p loose mean mg mb h₀) (hk : cs.kind = .function)
    (N : News h₀ L s.heap ((r, ({ cls := .type "tuple", data := .seq #[.int (f : Int) ta, .int (e : Int) tb, .int (q : Int) tc] n } : Obj)) :: news))
    (hw : wd.length = 12) (hfe : f + 2 * q ≤ e) (he : e ≤ 12) (hq1 : 1 ≤ q) (hd : dp + 4 < recursionLimit) (hu : un + 64 < cLine)
    (hret : ∀ l vs k h' tk', Fr h₀ L h' m → News h₀ L h' ((l, W.listOf vs.toArray k) :: (r, ({ cls := .type "tuple", data := .seq #[.int (f : Int) ta, .int (e : Int) tb, .int (q : Int) tc] n } : Obj)) :: news) → (∀ b ∈ r :: news.map (·.1), l ≠ b) → IntsAre vs ((takenTo wd q false (f + 1) (e - q - f)).map fun (x : Nat) => (x : Int)) → Q (.ref l) { s with heap := h', toks := tk' }) :
    wpAny (model prog w) (ktrTop dp un gd cn cs L a ccd cl outer) (call (.ref 222) [.str (str wd) t1, .ref r, .ref 189]) Q E s := by
  k_with "pyIter ref" => refine Held.of ?_
  have hT : (str wd).length = 12 := by rw [str_length, hw]
  have hsz : (str wd).length ≤ sizeLine := by rw [hT, sizeLine_eq]; decide
  refine wpAny_call ?_
  (refine' code_defC ?k1 ?k2 ?k3 ?k4 ?k5 ?kA ?kF ?kK ?k6 ?k7 ?k8 ?k9 ?kB ?kD ?_ ?c2 ?c3 ?c4; (case kA => exact rfl); (case kF => exact rfl); (case kK => assumption); (case k1 => k_asm); (case k2 => k_asm); (case k3 => k_asm); (case k4 => k_asm); (case k5 => k_asm); (case k6 => k_is); (case k7 => k_is); (case k8 => ktr_room); (case k9 => exact BindsTo.of_eq rfl); (case kB => exact rfl); (case kD => decide +kernel); (case c2 => exact rfl); (case c3 => exact rfl); (case c4 => exact rfl); k_whole; intro g' L' h' tk' cells' FG' F' N' Y' B' X' T' lL; (try k_lt lL); k_cells Y'; (try simp only [List.cons_append, List.nil_append] at N'); (try dsimp only); (try k_lift B'); (try k_fold))
  rename_i oC oO dC dO
  k_steps
  rename (_ ∧ _ ∧ _ ∧ AllLt _ _) => l1
  rename Fr _ _ _ _ => F
  rename News _ _ _ _ => N
  rename IsRange _ _ _ _ _ _ _ _ => hR
  revert l1 F N hR
  rename_i l' _ _ _ _ _ _ _ _ _ _
  intro l1 hR F N
  have hoff : OwnOff ((L' + 1, oO) :: (r, ({ cls := .type "tuple", data := .seq #[.int (f : Int) ta, .int (e : Int) tb, .int (q : Int) tc] n } : Obj)) :: news) [l', L' + 1 + 1] := by
    intro p hp b hb
    have h2 := allLt_iff l1.2.2.2
    have h3 := allLt_iff lL.2
    simp only [List.mem_cons, List.not_mem_nil, or_false] at hb
    rcases List.mem_cons.mp hp with rfl | hp
    · rcases hb with rfl | rfl
      · exact Nat.ne_of_lt l1.2.1
      · exact Nat.ne_of_lt (Nat.lt_succ_self _)
    · rcases List.mem_cons.mp hp with rfl | hp
      · rcases hb with rfl | rfl
        · exact Nat.ne_of_lt l1.2.2.1
        · exact Nat.ne_of_lt (Nat.lt_succ_of_lt (Nat.lt_succ_of_lt lL.1))
      · rcases hb with rfl | rfl
        · exact Nat.ne_of_lt (h2 p hp)
        · exact Nat.ne_of_lt (Nat.lt_succ_of_lt (Nat.lt_succ_of_lt (h3 p hp)))
  have e0 : (e : Int) - (q : Int) + 1 = ((f + 1 + (e - q - f) : Nat) : Int) := by omega
  have e1 : (f : Int) + 1 = ((f + 1 : Nat) : Int) := by omega
  rw [e1] at hR
  refine Held.out (range_N (f + 1) (e - q - f) (fun i => JT l' (L' + 1 + 1) ((L' + 1, oO) :: (r, ({ cls := .type "tuple", data := .seq #[.int (f : Int) ta, .int (e : Int) tb, .int (q : Int) tc] n } : Obj)) :: news) [(Str.ofString "text", .str (str wd) t1), (Str.ofString "taken", .ref l'), (Str.ofString "size", .int (q : Int) tc)] ((takenTo wd q false (f + 1) i).map fun (x : Nat) => (x : Int))) rfl hR e0 (by omega) (by omega) F N ?_ ?_ ?_)
  · refine ⟨[], 0, oC, (L' + 1, oO) :: (r, ({ cls := .type "tuple", data := .seq #[.int (f : Int) ta, .int (e : Int) tb, .int (q : Int) tc] n } : Obj)) :: news, rfl, hoff, ⟨_, dC⟩, fun p hp => hp, .nil, fun p hp => ?_⟩
    simp only [List.mem_cons, List.not_mem_nil, or_false] at hp
    rcases hp with rfl | rfl | rfl <;> rfl
  · rintro i t m₁ nx h tk own hi hoff2 ⟨vs, k, oc, V, rfl, hV, ⟨cc, hcc⟩, hkV, hvs, hm⟩ F₁ N₁
    have F₂ := fr_knownX hm F₁
    clear F₁
    dsimp only [kstB] at F₂
    have N₂ : News _ _ h ((l', W.listOf vs.toArray k) :: (L' + 1 + 1, oc) :: (L' + 1, oO) :: (V ++ own)) := fun p hp => by
      rcases List.mem_cons.mp hp with rfl | hp
      · exact N₁ _ (.head _)
      · rcases List.mem_cons.mp hp with rfl | hp
        · exact N₁ _ (.tail _ (.head _))
        · rcases List.mem_cons.mp hp with rfl | hp
          · exact N₁ _ (.tail _ (.tail _ (List.mem_append.mpr (.inl (hkV _ (.head _))))))
          · exact N₁ _ (.tail _ (.tail _ hp))
    have hoff5 : OwnOff (V ++ own) [l', L' + 1 + 1] := off_app hV (off_sub hoff2 fun b hb => by
      simp only [List.mem_cons, List.not_mem_nil, or_false] at hb
      rcases hb with rfl | rfl
      · exact .head _
      · exact .tail _ (.head _))
    have hlr : L' + 1 + 1 < l' := l1.1
    clear N₁ hR F N
    have hvl : vs.toArray.size ≤ sizeLine := by
      have h1 := hvs.length
      rw [List.length_map] at h1
      have h2 := takenTo_len wd q false (f + 1) i
      rw [List.size_toArray, sizeLine_eq]; omega
    k_steps
    rename Fr _ _ _ _ => F
    rename News _ _ _ _ => N
    rename IsRange _ _ _ _ _ _ _ _ => hR
    have hlq : (sub wd (f + 1 + i) q).length = q := sub_length (by omega)
    refine Held.out (LCg.CompSrc.range (a := ((1 : Nat) : Int)) (n := q - 1) rfl F N hR ?_ ?_ ?_ (fun g => comp_range (a := 1) (fun k v => v = .bool (before false (sub wd (f + 1 + i) q) (rot (sub wd (f + 1 + i) q) k))) ?_ ?_))
    · exact small_one (by omega) (by omega) (by omega) (by omega)
    · unfold Builtin.Range.rangeSize
      rw [if_pos (by decide)]
      split <;> omega
    · rw [sizeLine_eq]; omega
    · intro k t I oI C oC D m₂ ys h tk E' hk1 hk2 hC hx F N off ne
      have offS := off
      simp only [LCg.Off3, and_true] at off
      k_steps
      refine Held.out (LCg.CompEnd.intro (by assumption) (by assumption) _ (fun p hp => hp) offS trivial ⟨rfl, ?_⟩)
      rw [turn_txt (by omega) (by omega), root_txt (by omega)]
      rfl
    · intro ys hys
      k_steps
      have hyb := rel_bools (f := fun k => before false (sub wd (f + 1 + i) q) (rot (sub wd (f + 1 + i) q) k)) hys
      subst hyb
      refine notin_bools (by assumption) (.head _) rfl rfl (by ktr_units) ?_
      rw [all_range' (f := fun k => before false (sub wd (f + 1 + i) q) (rot (sub wd (f + 1 + i) q) k))]
      have hlb : ((List.range (q - 1)).all fun k => before false (sub wd (f + 1 + i) q) (rot (sub wd (f + 1 + i) q) (k + 1))) = leastB false (sub wd (f + 1 + i) q) := by
        unfold leastB
        rw [hlq]
      rw [hlb]
      cases hlo : leastB false (sub wd (f + 1 + i) q) with
      | true =>
        k_steps
        rename News _ _ _ _ => N9
        rw [List.push_toArray] at N9
        rw [takenTo_succ, hlo, if_pos rfl, List.map_append]
        refine JT_end (vs := vs ++ [.int ((f + 1 + i : Nat) : Int) t]) (k := k + 1) (by assumption) (cb_drop N9 drop13) hV hoff2 ⟨_, by assumption⟩ hkV (ints_snoc hvs) ?_
        intro p hp
        simp only [List.mem_cons, List.not_mem_nil, or_false] at hp
        rcases hp with rfl | rfl | rfl <;> rfl
      | false =>
        k_steps
        rename News _ _ _ _ => N9
        rw [takenTo_succ, hlo, if_neg (by decide), List.append_nil]
        refine JT_end (by assumption) (cb_drop N9 drop13) hV hoff2 ⟨_, by assumption⟩ hkV hvs ?_
        intro p hp
        simp only [List.mem_cons, List.not_mem_nil, or_false] at hp
        rcases hp with rfl | rfl | rfl <;> rfl
  · rintro m₂ nx' h' tk' ⟨vs', k', oc, V', rfl, hV', _, hkV', hvs', hm'⟩ F₁ N₁
    dsimp only
    have F₂ := fr_known hm' F₁
    clear F₁
    dsimp only [kstB] at F₂
    k_steps
    refine hret l' vs' k' _ _ (by assumption) (cb_drop (by assumption) fun p hp => ?_) (fun b hb => ?_) hvs'
    · rcases List.mem_cons.mp hp with rfl | hp
      · exact .head _
      · exact .tail _ (.tail _ (hkV' _ (.tail _ hp)))
    · rcases List.mem_cons.mp hb with rfl | hb
      · exact Nat.ne_of_gt l1.2.2.1
      · obtain ⟨o, ho⟩ := mem_fst hb
        exact Nat.ne_of_gt (allLt_iff l1.2.2.2 _ ho)
set_option maxHeartbeats 4000000 in
theorem taken_down {wd : List Nat} {t1 : Tok} {r : Addr} {n f e q : Nat} {ta tb tc : Tok} (B : Below A₀ base outer h₀) (F : Fr h₀ L s.heap m) (X : (Mine.hd.heap_39 w.params).In h₀) (T : Top p loose mean mg mb h₀) (hk : cs.kind = .function)
    (N : News h₀ L s.heap ((r, ({ cls := .type "tuple", data := .seq #[.int (f : Int) ta, .int (e : Int) tb, .int (q : Int) tc] n } : Obj)) :: news))
    (hw : wd.length = 12) (hfe : f + 2 * q ≤ e) (he : e ≤ 12) (hq1 : 1 ≤ q) (hd : dp + 4 < recursionLimit) (hu : un + 64 < cLine)
    (hret : ∀ l vs k h' tk', Fr h₀ L h' m → News h₀ L h' ((l, W.listOf vs.toArray k) :: (r, ({ cls := .type "tuple", data := .seq #[.int (f : Int) ta, .int (e : Int) tb, .int (q : Int) tc] n } : Obj)) :: news) → (∀ b ∈ r :: news.map (·.1), l ≠ b) → IntsAre vs ((takenTo wd q true (f + 1) (e - q - f)).map fun (x : Nat) => (x : Int)) → Q (.ref l) { s with heap := h', toks := tk' }) :
    wpAny (model prog w) (ktrTop dp un gd cn cs L a ccd cl outer) (call (.ref 222) [.str (str wd) t1, .ref r, .ref 196]) Q E s := by
  k_with "pyIter ref" => refine Held.of ?_
  have hT : (str wd).length = 12 := by rw [str_length, hw]
  have hsz : (str wd).length ≤ sizeLine := by rw [hT, sizeLine_eq]; decide
  refine wpAny_call ?_
  (refine' code_defC ?k1 ?k2 ?k3 ?k4 ?k5 ?kA ?kF ?kK ?k6 ?k7 ?k8 ?k9 ?kB ?kD ?_ ?c2 ?c3 ?c4; (case kA => exact rfl); (case kF => exact rfl); (case kK => assumption); (case k1 => k_asm); (case k2 => k_asm); (case k3 => k_asm); (case k4 => k_asm); (case k5 => k_asm); (case k6 => k_is); (case k7 => k_is); (case k8 => ktr_room); (case k9 => exact BindsTo.of_eq rfl); (case kB => exact rfl); (case kD => decide +kernel); (case c2 => exact rfl); (case c3 => exact rfl); (case c4 => exact rfl); k_whole; intro g' L' h' tk' cells' FG' F' N' Y' B' X' T' lL; (try k_lt lL); k_cells Y'; (try simp only [List.cons_append, List.nil_append] at N'); (try dsimp only); (try k_lift B'); (try k_fold))
  rename_i oC oO dC dO
  k_steps
  rename (_ ∧ _ ∧ _ ∧ AllLt _ _) => l1
  rename Fr _ _ _ _ => F
  rename News _ _ _ _ => N
  rename IsRange _ _ _ _ _ _ _ _ => hR
  revert l1 F N hR
  rename_i l' _ _ _ _ _ _ _ _ _ _
  intro l1 hR F N
  have hoff : OwnOff ((L' + 1, oO) :: (r, ({ cls := .type "tuple", data := .seq #[.int (f : Int) ta, .int (e : Int) tb, .int (q : Int) tc] n } : Obj)) :: news) [l', L' + 1 + 1] := by
    intro p hp b hb
    have h2 := allLt_iff l1.2.2.2
    have h3 := allLt_iff lL.2
    simp only [List.mem_cons, List.not_mem_nil, or_false] at hb
    rcases List.mem_cons.mp hp with rfl | hp
    · rcases hb with rfl | rfl
      · exact Nat.ne_of_lt l1.2.1
      · exact Nat.ne_of_lt (Nat.lt_succ_self _)
    · rcases List.mem_cons.mp hp with rfl | hp
      · rcases hb with rfl | rfl
        · exact Nat.ne_of_lt l1.2.2.1
        · exact Nat.ne_of_lt (Nat.lt_succ_of_lt (Nat.lt_succ_of_lt lL.1))
      · rcases hb with rfl | rfl
        · exact Nat.ne_of_lt (h2 p hp)
        · exact Nat.ne_of_lt (Nat.lt_succ_of_lt (Nat.lt_succ_of_lt (h3 p hp)))
  have e0 : (e : Int) - (q : Int) + 1 = ((f + 1 + (e - q - f) : Nat) : Int) := by omega
  have e1 : (f : Int) + 1 = ((f + 1 : Nat) : Int) := by omega
  rw [e1] at hR
  refine Held.out (range_N (f + 1) (e - q - f) (fun i => JT l' (L' + 1 + 1) ((L' + 1, oO) :: (r, ({ cls := .type "tuple", data := .seq #[.int (f : Int) ta, .int (e : Int) tb, .int (q : Int) tc] n } : Obj)) :: news) [(Str.ofString "text", .str (str wd) t1), (Str.ofString "taken", .ref l'), (Str.ofString "size", .int (q : Int) tc)] ((takenTo wd q true (f + 1) i).map fun (x : Nat) => (x : Int))) rfl hR e0 (by omega) (by omega) F N ?_ ?_ ?_)
  · refine ⟨[], 0, oC, (L' + 1, oO) :: (r, ({ cls := .type "tuple", data := .seq #[.int (f : Int) ta, .int (e : Int) tb, .int (q : Int) tc] n } : Obj)) :: news, rfl, hoff, ⟨_, dC⟩, fun p hp => hp, .nil, fun p hp => ?_⟩
    simp only [List.mem_cons, List.not_mem_nil, or_false] at hp
    rcases hp with rfl | rfl | rfl <;> rfl
  · rintro i t m₁ nx h tk own hi hoff2 ⟨vs, k, oc, V, rfl, hV, ⟨cc, hcc⟩, hkV, hvs, hm⟩ F₁ N₁
    have F₂ := fr_knownX hm F₁
    clear F₁
    dsimp only [kstB] at F₂
    have N₂ : News _ _ h ((l', W.listOf vs.toArray k) :: (L' + 1 + 1, oc) :: (L' + 1, oO) :: (V ++ own)) := fun p hp => by
      rcases List.mem_cons.mp hp with rfl | hp
      · exact N₁ _ (.head _)
      · rcases List.mem_cons.mp hp with rfl | hp
        · exact N₁ _ (.tail _ (.head _))
        · rcases List.mem_cons.mp hp with rfl | hp
          · exact N₁ _ (.tail _ (.tail _ (List.mem_append.mpr (.inl (hkV _ (.head _))))))
          · exact N₁ _ (.tail _ (.tail _ hp))
    have hoff5 : OwnOff (V ++ own) [l', L' + 1 + 1] := off_app hV (off_sub hoff2 fun b hb => by
      simp only [List.mem_cons, List.not_mem_nil, or_false] at hb
      rcases hb with rfl | rfl
      · exact .head _
      · exact .tail _ (.head _))
    have hlr : L' + 1 + 1 < l' := l1.1
    clear N₁ hR F N
    have hvl : vs.toArray.size ≤ sizeLine := by
      have h1 := hvs.length
      rw [List.length_map] at h1
      have h2 := takenTo_len wd q true (f + 1) i
      rw [List.size_toArray, sizeLine_eq]; omega
    k_steps
    rename Fr _ _ _ _ => F
    rename News _ _ _ _ => N
    rename IsRange _ _ _ _ _ _ _ _ => hR
    have hlq : (sub wd (f + 1 + i) q).length = q := sub_length (by omega)
    refine Held.out (LCg.CompSrc.range (a := ((1 : Nat) : Int)) (n := q - 1) rfl F N hR ?_ ?_ ?_ (fun g => comp_range (a := 1) (fun k v => v = .bool (before true (sub wd (f + 1 + i) q) (rot (sub wd (f + 1 + i) q) k))) ?_ ?_))
    · exact small_one (by omega) (by omega) (by omega) (by omega)
    · unfold Builtin.Range.rangeSize
      rw [if_pos (by decide)]
      split <;> omega
    · rw [sizeLine_eq]; omega
    · intro k t I oI C oC D m₂ ys h tk E' hk1 hk2 hC hx F N off ne
      have offS := off
      simp only [LCg.Off3, and_true] at off
      k_steps
      refine Held.out (LCg.CompEnd.intro (by assumption) (by assumption) _ (fun p hp => hp) offS trivial ⟨rfl, ?_⟩)
      rw [turn_txt (by omega) (by omega), root_txt (by omega)]
      rfl
    · intro ys hys
      k_steps
      have hyb := rel_bools (f := fun k => before true (sub wd (f + 1 + i) q) (rot (sub wd (f + 1 + i) q) k)) hys
      subst hyb
      refine notin_bools (by assumption) (.head _) rfl rfl (by ktr_units) ?_
      rw [all_range' (f := fun k => before true (sub wd (f + 1 + i) q) (rot (sub wd (f + 1 + i) q) k))]
      have hlb : ((List.range (q - 1)).all fun k => before true (sub wd (f + 1 + i) q) (rot (sub wd (f + 1 + i) q) (k + 1))) = leastB true (sub wd (f + 1 + i) q) := by
        unfold leastB
        rw [hlq]
      rw [hlb]
      cases hlo : leastB true (sub wd (f + 1 + i) q) with
      | true =>
        k_steps
        rename News _ _ _ _ => N9
        rw [List.push_toArray] at N9
        rw [takenTo_succ, hlo, if_pos rfl, List.map_append]
        refine JT_end (vs := vs ++ [.int ((f + 1 + i : Nat) : Int) t]) (k := k + 1) (by assumption) (cb_drop N9 drop13) hV hoff2 ⟨_, by assumption⟩ hkV (ints_snoc hvs) ?_
        intro p hp
        simp only [List.mem_cons, List.not_mem_nil, or_false] at hp
        rcases hp with rfl | rfl | rfl <;> rfl
      | false =>
        k_steps
        rename News _ _ _ _ => N9
        rw [takenTo_succ, hlo, if_neg (by decide), List.append_nil]
        refine JT_end (by assumption) (cb_drop N9 drop13) hV hoff2 ⟨_, by assumption⟩ hkV hvs ?_
        intro p hp
        simp only [List.mem_cons, List.not_mem_nil, or_false] at hp
        rcases hp with rfl | rfl | rfl <;> rfl
  · rintro m₂ nx' h' tk' ⟨vs', k', oc, V', rfl, hV', _, hkV', hvs', hm'⟩ F₁ N₁
    dsimp only
    have F₂ := fr_known hm' F₁
    clear F₁
    dsimp only [kstB] at F₂
    k_steps
    refine hret l' vs' k' _ _ (by assumption) (cb_drop (by assumption) fun p hp => ?_) (fun b hb => ?_) hvs'
    · rcases List.mem_cons.mp hp with rfl | hp
      · exact .head _
      · exact .tail _ (.tail _ (hkV' _ (.tail _ hp)))
    · rcases List.mem_cons.mp hb with rfl | hb
      · exact Nat.ne_of_gt l1.2.2.1
      · obtain ⟨o, ho⟩ := mem_fst hb
        exact Nat.ne_of_gt (allLt_iff l1.2.2.2 _ ho)
end
end Mine
end

section
theorem Mine.reset18 : True := by
  w_top off
  k_with_none
  trivial
open PySem PySem.W PyProof.Rows PySem.Calls PyProof.V PySem.Spec
set_option maxRecDepth 100000
namespace Mine
section
variable {prog : Program} {w : World} {A : Around} {h₀ : Heap} {L : Addr} {m : Str → Option Value} {env : Env} {ct elt : Expr} {x : Str} {scope : Scope} {cl : List (Str × Addr)} {s : Shared} {S : List (Addr × Obj) → Prop} {Fin : List Value → List (Addr × Obj) → Prop} {news : List (Addr × Obj)}
/-- a comprehension with a test, over a range -/
theorem compT_range {n : Nat} {a : Nat} (f : Nat → Bool) (R : Nat → Value → Prop)
    (turn : ∀ (k : Nat) t I oI C oC D m₂ ys h tk (E' : Value → Shared → Prop), a ≤ k → k < a + n → LCg.NsObj oC m₂ → m₂ x = some (.int (k : Int) t) → Fr h₀ L h m → News h₀ L h ((I, oI) :: (C, oC) :: (D, LCg.lst ys) :: news) → LCg.Off3 I C D news → ((@Ne Nat I C) ∧ (@Ne Nat I D) ∧ (@Ne Nat C D)) →
      wpAny (model prog w) A (isTrue ct (compEnvC scope cl C env) (eval ct (compEnvC scope cl C env))) (fun ok s' => if ok = true then
        wpAny (model prog w) A (eval elt (compEnvC scope cl C env)) (LCg.CompEnd h₀ L m { s with heap := h, toks := tk } I oI C oC D (LCg.lst ys) S (fun y news' => f k = true ∧ CEl news (R k) y news')) E' s'
        else LCg.CompEnd h₀ L m { s with heap := h, toks := tk } I oI C oC D (LCg.lst ys) S (fun _ news' => f k = false ∧ news' = news) Value.none s') E' { s with heap := h, toks := tk })
    (fin : ∀ ys, RelAll R ((List.range' a n).filter f) ys → Fin ys news) : LCt.CompRestT prog w A h₀ L m env ct elt x scope cl s S (fun i v => ∃ t, v = .int ((a : Int) + (i : Int)) t) Fin n 0 [] news := by
  have key : ∀ (j i : Nat) (ys : List Value), i + j = n → RelAll R ((List.range' a i).filter f) ys → LCt.CompRestT prog w A h₀ L m env ct elt x scope cl s S (fun i v => ∃ t, v = .int ((a : Int) + (i : Int)) t) Fin j i ys news := by
    intro j
    induction j with
    | zero =>
      intro i ys hi hy
      have e : i = n := by omega
      subst e
      exact LCt.CompRestT.zero (fin ys hy)
    | succ j ih =>
      intro i ys hi hy
      refine LCt.CompRestT.succ ?_
      intro v I oI C oC D m₂ h tk E' hv hC hx F N off ne
      obtain ⟨t, rfl⟩ := hv
      have e1 : (a : Int) + (i : Int) = ((a + i : Nat) : Int) := by omega
      rw [e1] at hx
      have hs : List.range' a (i + 1) = List.range' a i ++ [a + i] := by rw [List.range'_concat]; simp
      refine wpAny_mono (turn (a + i) t I oI C oC D m₂ ys h tk E' (by omega) (by omega) hC hx F N off ne) (fun ok s₁ h₁ => ?_) fun _ _ e => e
      split
      · rename_i ho
        rw [if_pos ho] at h₁
        refine wpAny_mono h₁ (fun y s₂ hq => ?_) fun _ _ e => e
        obtain ⟨h', tk', nw, e, F', N', off', hS, hf, hn, hy'⟩ := hq
        rw [hn] at N' off' hS
        refine ⟨h', tk', news, e, F', N', off', hS, ?_⟩
        refine ih (i + 1) _ (by omega) ?_
        rw [hs, List.filter_append]
        simp only [List.filter_cons, hf, if_true, List.filter_nil]
        exact hy.snoc hy'
      · rename_i ho
        rw [if_neg ho] at h₁
        obtain ⟨h', tk', nw, e, F', N', off', hS, hf, hn⟩ := h₁
        rw [hn] at N' off' hS
        refine ⟨h', tk', news, e, F', N', off', hS, ?_⟩
        refine ih (i + 1) _ (by omega) ?_
        rw [hs, List.filter_append]
        simp only [List.filter_cons, hf, Bool.false_eq_true, if_false, List.filter_nil, List.append_nil]
        exact hy
  exact key n 0 [] (by omega) .nil
end
theorem rel_ints : ∀ {ks : List Nat} {ys : List Value}, RelAll (fun (k : Nat) v => ∃ t, v = .int (k : Int) t) ks ys → IntsAre ys (ks.map fun (k : Nat) => (k : Int))
  | _, _, .nil => .nil
  | _, _, .cons h r => by
    obtain ⟨t, rfl⟩ := h
    exact .cons _ _ (rel_ints r)
section
variable {prog : Program} {w : World} {A : Around} {E : Value → Shared → Prop} {s : Shared} {h₀ : Heap} {L D : Addr} {m : Str → Option Value} {news : List (Addr × Obj)} {rs : List Value} {rv : Value} {o : Obj} {k : Nat}
theorem first_item {value slice : Expr} {t : Tok} {Q : Value → Shared → Prop} (N : News h₀ L s.heap news) (hm : (D, o) ∈ news) (hc : o.cls = .type "list") (ho : o.data = .seq (rv :: rs).toArray k) (h : Q rv s)
    (hs : subscripted slice false (.ref D) (.int 0 t) = operate [.ref D, .int 0 t] (getItem (.ref D) (.int 0 t)) := by with_unfolding_all rfl) :
    wpAny (model prog w) A (subscriptTail value slice (.ref D) (.int 0 t)) Q E s := by
  have hl : s.heap.IsList D (rv :: rs).toArray := ⟨_, (N _ hm).1, hc, k, ho⟩
  exact tail_any hl.typeIs slot_list_getitem.lookup (wpAny_getItem_list hl (by decide) (by decide) (by rfl) h) hs
end
end Mine
end

section
theorem Mine.reset19 : True := by
  w_top off
  k_with_none
  trivial
open PySem PySem.W PyProof.Rows PySem.Calls PyProof.V PySem.Spec
set_option maxRecDepth 100000
namespace Mine
theorem fillReach : Challenge.rw_tc0026_01.name = Challenge.rw_tc0026_01.name ∧ Mine.hd.heap_39 = Mine.hd.heap_39 := by
  k_fill
  exact ⟨rfl, rfl⟩
local macro_rules | `(tactic| walk_at "CompSrc") => `(tactic| refine Held.of ?_)
local macro_rules | `(tactic| walk_at "CompSrcT") => `(tactic| refine Held.of ?_)
local macro_rules | `(tactic| walk_at "CompEnd") => `(tactic| refine Held.of ?_)
local macro_rules | `(tactic| size_fits) => `(tactic| with_reducible assumption)
/-- the places behind i from which the text's rest is less than from i -/
def laterOf (w : List Nat) (i : Nat) : List Nat := (List.range' (i + 1) (w.length - (i + 1))).filter fun k => decide (w.drop k < w.drop i)
def reachOf (w : List Nat) (i : Nat) : Nat := (laterOf w i ++ [w.length]).headD 0
section
variable {prog : Program} {w : World} {p : Program} {loose : List Str} {mean : ExcName → Option Value} {mg mb : Str → Option Value} {news : List (Addr × Obj)}
  {dp un : Nat} {gd : Option (List Code)} {cn : Str} {cs : Scope} {a : Addr} {ccd : Value} {cl : List (Str × Addr)} {outer : List Env} {A₀ : Around} {base h₀ : Heap} {L : Addr} {m : Str → Option Value} {s : Shared} {Q E : Value → Shared → Prop}
set_option maxHeartbeats 4000000 in
theorem reach_call {wd : List Nat} {t1 t2 : Tok} {i : Nat} (B : Below A₀ base outer h₀) (F : Fr h₀ L s.heap m) (X : (Mine.hd.heap_39 w.params).In h₀) (T : Top p loose mean mg mb h₀) (hk : cs.kind = .function)
    (N : News h₀ L s.heap news) (hw : wd.length = 12) (hi : i < 12) (hd : dp + 4 < recursionLimit) (hu : un + 64 < cLine)
    (hret : ∀ t h' tk', Fr h₀ L h' m → News h₀ L h' news → Q (.int (reachOf wd i : Int) t) { s with heap := h', toks := tk' }) :
    wpAny (model prog w) (ktrTop dp un gd cn cs L a ccd cl outer) (call (.ref 227) [.str (str wd) t1, .int (i : Int) t2]) Q E s := by
  have hT : (str wd).length = 12 := by rw [str_length, hw]
  have hsz : (str wd).length ≤ sizeLine := by rw [hT, sizeLine_eq]; decide
  refine wpAny_call ?_
  (refine' code_defC ?k1 ?k2 ?k3 ?k4 ?k5 ?kA ?kF ?kK ?k6 ?k7 ?k8 ?k9 ?kB ?kD ?_ ?c2 ?c3 ?c4; (case kA => exact rfl); (case kF => exact rfl); (case kK => assumption); (case k1 => k_asm); (case k2 => k_asm); (case k3 => k_asm); (case k4 => k_asm); (case k5 => k_asm); (case k6 => k_is); (case k7 => k_is); (case k8 => ktr_room); (case k9 => exact BindsTo.of_eq rfl); (case kB => exact rfl); (case kD => decide +kernel); (case c2 => exact rfl); (case c3 => exact rfl); (case c4 => exact rfl); k_whole; intro g' L' h' tk' cells' FG' F' N' Y' B' X' T' lL; (try k_lt lL); k_cells Y'; (try simp only [List.cons_append, List.nil_append] at N'); (try dsimp only); (try k_lift B'); (try k_fold))
  k_steps
  rename Fr _ _ _ _ => F
  rename News _ _ _ _ => N
  rename IsRange _ _ _ _ _ _ _ _ => hR
  have e1 : (i : Int) + 1 = ((i + 1 : Nat) : Int) := by omega
  rw [e1, hT] at hR
  refine Held.out (LCt.CompSrcT.range (n := 12 - (i + 1)) rfl F N hR ?_ ?_ ?_ (fun g => compT_range (a := i + 1) (fun k => decide (wd.drop k < wd.drop i)) (fun k v => ∃ t, v = .int (k : Int) t) ?_ ?_))
  · exact small_one (by omega) (by omega) (by omega) (by omega)
  · unfold Builtin.Range.rangeSize
    rw [if_pos (by decide)]
    split <;> omega
  · rw [sizeLine_eq]; omega
  · intro k t I oI C oC D m₂ ys h tk E' hk1 hk2 hC hx F N off ne
    have offS := off
    simp only [LCg.Off3, and_true] at off
    k_steps
    · rename ((Txt.slice _ _ _).cps.toList < _) => hq
      rw [slice_sn (by omega), slice_sn (by omega), str_toList, str_toList] at hq
      exact Held.out (LCg.CompEnd.intro (by assumption) (by assumption) _ (fun p hp => hp) offS trivial ⟨decide_eq_true hq, rfl, _, rfl⟩)
    · rename (¬ (Txt.slice _ _ _).cps.toList < _) => hq
      rw [slice_sn (by omega), slice_sn (by omega), str_toList, str_toList] at hq
      exact Held.out (LCg.CompEnd.intro (by assumption) (by assumption) _ (fun p hp => hp) offS trivial ⟨decide_eq_false hq, rfl⟩)
  · intro ys hys
    k_steps
    rename News _ _ _ _ => N9
    have hys' := rel_ints hys
    have hlen : ys.length ≤ 12 := by
      have h1 := hys.length
      have h2 := List.length_filter_le (fun k => decide (wd.drop k < wd.drop i)) (List.range' (i + 1) (12 - (i + 1)))
      rw [List.length_range'] at h2
      omega
    refine add_lists (vs := ys) (ws := [_]) (hsz := ?_) (by assumption) N9 ⟨_, (N9 _ (.tail _ (.head _))).1, rfl, _, rfl⟩ ⟨_, (N9 _ (.head _)).1, rfl, _, rfl⟩ ?_
    rotate_left
    · rw [sizeLine_eq]; simp only [List.length_cons, List.length_nil]; omega
    intro h9 F9 N9'
    k_steps
    have hval : ((((List.range' (i + 1) (12 - (i + 1))).filter fun k => decide (wd.drop k < wd.drop i)).map fun (k : Nat) => (k : Int)) ++ [((str wd).length : Int)]).getD (Int.toNat 0) 0 = ((reachOf wd i : Nat) : Int) := by
      unfold reachOf laterOf
      rw [hT, hw]
      cases (List.range' (i + 1) (12 - (i + 1))).filter fun k => decide (wd.drop k < wd.drop i) <;> rfl
    rw [hval]
    exact hret _ _ _ (by assumption) (cb_drop (by assumption) fun p hp => .tail _ (.tail _ (.tail _ (.tail _ (.tail _ hp)))))
end
end Mine
end

section
theorem Mine.reset20 : True := by
  w_top off
  k_with_none
  trivial
open PySem PySem.W PyProof.Rows PySem.Calls PyProof.V PySem.Spec
set_option maxRecDepth 100000
namespace Mine
theorem plainAttrs_pat : PlainAttrs "re.Pattern" :=
  ⟨⟨"object.__getattribute__", by rw [typeLookup_type, builtinLookup_eq_fast]; kernel_rfl, by decide +kernel⟩, by rw [typeLookup_type, builtinLookup_eq_fast]; kernel_rfl⟩
theorem slot_search : Slot "re.Pattern" "search" "re.Pattern.search" :=
  .of (owner := "re.Pattern") (n := "search") (by rw [typeLookup_type, builtinLookup_eq_fast]; kernel_rfl) (by decide +kernel) (by decide +kernel) (by decide +kernel)
    (by first | exact .inl (by decide +kernel) | exact .inr (by decide +kernel)) (by rw [isSubtype_type]; kernel_rfl)
theorem type_search : typeOf (.builtin "re.Pattern.search") = pure (.type "method_descriptor") := by show builtinType _ = _; rw [builtinType_eq_fast]; kernel_rfl
theorem entry_search : entryFor table "re.Pattern.search" = some Builtin.«re.Pattern.search» := entryFor_of_tree (by kernel_rfl)
theorem owner_pat : Manifest.owners.lookup (String.ofList ['n','r','e','t','t','a','P','.','e','r'].reverse) = some Manifest.sig_re_Pattern := by kernel_rfl
theorem args_search (a b : Value) : argsOk "re.Pattern.search" ⟨[a, b], []⟩ := by
  unfold argsOk; rw [signature?_of (id := "re.Pattern.search") (n := ['h','c','r','a','e','s']) (o := ['n','r','e','t','t','a','P','.','e','r']) (by kernel_rfl) owner_pat]; kernel_rfl

def nameCode : Array Nat := #[14, 10, 4, 1, 1, 22, 0, 31, 16, 127, 0, 13, 7, 22, 0, 31, 16, 127, 0, 1]
def valCode : Array Nat := #[14, 14, 4, 1, 1, 9, 4294966783, 0, 0, 2147483648, 0, 0, 0, 0, 0, 13, 11, 9, 4294966783, 0, 0, 2147483648, 0, 0, 0, 0, 0, 1]
theorem inSet_name {c : Nat} (h1 : 32 ≤ c) (h2 : c < 127) (seen : Sre.Seen) : ∃ s', Sre.inSet nameCode c 20 5 true seen = .ok (false, s') := by
  refine ⟨((seen.add 22).add 16).add 0, ?_⟩
  show (if (decide (0 ≤ c) && decide (c ≤ 31)) = true then _ else Sre.inSet nameCode c 19 8 true _) = _
  rw [if_neg (by simp; omega)]
  show (if (c == 127) = true then _ else Sre.inSet nameCode c 18 10 true _) = _
  rw [if_neg (by simp; omega)]
  rfl
theorem val_bits : ∀ c : Fin 127, 32 ≤ c.val → (valCode.getD (5 + (1 + c.val / 32)) 0).testBit (c.val % 32) = false := by decide +kernel
theorem inSet_val {c : Nat} (h1 : 32 ≤ c) (h2 : c < 127) (seen : Sre.Seen) : ∃ s', Sre.inSet valCode c 28 5 true seen = .ok (false, s') := by
  refine ⟨(seen.add 9).add 0, ?_⟩
  show (if (decide (c < 256) && (valCode.getD (5 + (1 + c / 32)) 0).testBit (c % 32)) = true then _ else Sre.inSet valCode c 27 14 true _) = _
  rw [if_neg (by rw [val_bits ⟨c, h2⟩ h1]; simp)]
  rfl
theorem admitted_none {M : Sre.M} (hset : ∀ c ∈ M.text.toList, ∀ seen, ∃ s', Sre.inSet M.code c M.code.size 5 true seen = .ok (false, s')) (hl : M.lim = M.text.size) :
    ∀ (fuel k : Nat) (seen : Sre.Seen), ∃ s', Sre.M.admitted M fuel k seen = .ok (none, s') := by
  intro fuel
  induction fuel with
  | zero => intro k seen; exact ⟨_, rfl⟩
  | succ f ih =>
    intro k seen
    unfold Sre.M.admitted
    by_cases hk : k ≥ M.lim
    · rw [if_pos hk]; exact ⟨_, rfl⟩
    · rw [if_neg hk]
      have hk' : k < M.text.size := by omega
      have : M.text.getD k 0 ∈ M.text.toList := by
        rw [Array.getD, dif_pos hk']; exact Array.mem_toList_iff.mpr (Array.getElem_mem hk')
      obtain ⟨s', e⟩ := hset _ this seen
      rw [e]
      exact ih _ _
theorem say_failed {M : Sre.M} (hf : M.frames = []) (ho : M.outcome = none) : ((M.say false).runFor 4).outcome = some .failed := by
  cases M
  dsimp only at hf ho
  subst hf ho
  rfl
theorem from_failed {M : Sre.M} (hf : M.frames = []) (ho : M.outcome = none) (hfs : M.hasFirstSet = true) (hl : M.lim = M.text.size)
    (hset : ∀ c ∈ M.text.toList, ∀ seen, ∃ s', Sre.inSet M.code c M.code.size 5 true seen = .ok (false, s')) : ((M.attemptFrom 0 true).runFor 4).outcome = some .failed := by
  obtain ⟨s', e⟩ := admitted_none hset hl (M.lim + 1 - 0) 0 M.seen
  unfold Sre.M.attemptFrom
  rw [hfs, e]
  exact say_failed (M := { M with seen := s' }) hf ho
theorem no_find {code : Array Nat} {text : Array Nat} (hset : ∀ c ∈ text.toList, ∀ seen, ∃ s', Sre.inSet code c code.size 5 true seen = .ok (false, s'))
    (hi : code = nameCode ∨ code = valCode) :
    ((Sre.forSearch code text 0 0 text.size false).runFor 4).outcome = some .failed := by
  unfold Sre.forSearch
  dsimp only
  split
  · rcases hi with rfl | rfl <;> exact say_failed rfl rfl
  · rcases hi with rfl | rfl
    · exact from_failed rfl rfl rfl rfl hset
    · exact from_failed rfl rfl rfl rfl hset
section
variable {M : Model} {A : Around} {E : Value → Shared → Prop} {s : Shared}
theorem end_none {m : Sre.M} {Q : Option Sre.M → Shared → Prop} (ho : (m.runFor 4).outcome = some .failed) (h : Q none s) : wpAny M A (Builtin.Re.reRunToEnd m) Q E s := by
  unfold Builtin.Re.reRunToEnd
  have e : Builtin.Re.reDrive (2 ^ 64) m = pure (m.runFor 4) := by
    show Builtin.Re.reDrive ((2 ^ 64 - 1) + 1) m = _
    unfold Builtin.Re.reDrive
    show (if (m.runFor 4).outcome.isSome = true then _ else _) = _
    rw [ho]; rfl
  rw [e]
  refine wpAny_bind (wpAny_pure (wpAny_bind ?_))
  refine wpAny_forIn_list _ (fun _ _ s' => s' = s) _ ?_ ?_ _ _ rfl
  · intro x rest b s₁ hs
    subst hs
    split
    · exact wpAny_bind (wpAny_rule (wpAny_pure rfl))
    · exact wpAny_pure rfl
  · intro b s₁ hs
    subst hs
    rw [ho]
    exact wpAny_pure h
theorem search_run {p c : Addr} {op oc : Obj} {fs cs : Array Value} {n : Nat} {x : Str} {t t0 : Tok} {Q : Fin → Shared → Prop}
    (hp : s.heap.get? p = some op) (hpd : op.data = .fields fs) (hf6 : fs.getD 6 .none = .int 0 t0) (hf5 : fs.getD 5 .none = .ref c)
    (hc : s.heap.get? c = some oc) (hcd : oc.data = .seq cs n) (hg : Builtin.Re.reRawNat (fs.getD 2 .none) = 0)
    (hx : x.cps.size ≤ 1000)
    (hno : ((Sre.forSearch ((cs.map Builtin.Re.reRawOf).map (·.toNat)) x.cps 0 0 x.cps.size false).runFor 4).outcome = some .failed)
    (h : Q (.done (.ret .none)) s) : wpAny M A (Builtin.«re.Pattern.search» ⟨[.ref p, .str x t], []⟩) Q E s := by
  unfold Builtin.«re.Pattern.search» Builtin.Re.reTarget
  refine wpAny_bind ?_
  have e1 : Builtin.Re.reNamed "re.Pattern.search" "search" ["string", "pos", "endpos"] 1 [.str x t] [] = pure [some (.str x t), none, none] := by kernel_rfl
  dsimp only
  rw [e1]
  refine wpAny_bind (wpAny_pure ?_)
  dsimp only
  refine wpAny_bind (wpAny_pure (wpAny_bind (wpAny_pure (wpAny_bind (wpAny_fieldsOf hp hpd (wpAny_bind ?_))))))
  have e2 : Builtin.Re.reTextOf (.str x t) = pure (x.cps, 0) := rfl
  rw [e2]
  refine wpAny_pure ?_
  rw [hf6, hf5]
  have e3 : Builtin.Re.reRawNat (.int 0 t0) = 0 := rfl
  rw [e3]
  show wpAny M A (do let z ← Builtin.Re.reNoCollectionInside (.str x t) 0; _) _ _ _
  refine wpAny_bind ?_
  have e4 : Builtin.Re.reNoCollectionInside (.str x t) 0 = pure () := rfl
  rw [e4]
  refine wpAny_pure (wpAny_bind ?_)
  unfold Builtin.Re.reRawItems
  refine wpAny_bind (wpAny_seqItems hc hcd (wpAny_pure (wpAny_pure ?_)))
  unfold Builtin.Re.reAnswer
  refine wpAny_bind ?_
  have e5 : min (Int.toNat (2 ^ 63 - 1)) x.cps.size = x.cps.size := by
    have : Int.toNat (2 ^ 63 - 1) = 9223372036854775807 := rfl
    omega
  dsimp only
  rw [e5, hg]
  exact end_none hno (wpAny_pure h)
theorem wpAny_search {prog : Program} {w : World} {p c : Addr} {op oc : Obj} {fs cs : Array Value} {n : Nat} {x : Str} {t t0 : Tok} {Q : Value → Shared → Prop}
    (hp : s.heap.get? p = some op) (hpc : op.cls = .type "re.Pattern") (hpd : op.data = .fields fs) (hf6 : fs.getD 6 .none = .int 0 t0) (hf5 : fs.getD 5 .none = .ref c)
    (hc : s.heap.get? c = some oc) (hcd : oc.data = .seq cs n) (hg : Builtin.Re.reRawNat (fs.getD 2 .none) = 0)
    (hx : x.cps.size ≤ 1000) {code : Array Nat} (hcode : (cs.map Builtin.Re.reRawOf).map (·.toNat) = code)
    (hno : ((Sre.forSearch code x.cps 0 0 x.cps.size false).runFor 4).outcome = some .failed)
    (h : Q .none s) : wpAny (model prog w) A (call (.builtin "re.Pattern.search") [.ref p, .str x t]) Q E s :=
  wpAny_call (codeAny_call_builtin slot_search.plain entry_search (slot_search.check _ _ _ _ _ _ _ _ ⟨op, hp, hpc⟩ (args_search _ _) (search_run hp hpd hf6 hf5 hc hcd hg hx (by rw [hcode]; exact hno) h)))
/-- signs that are no control characters -/
def Tame (x : Str) : Prop := (∀ c ∈ x.cps.toList, 32 ≤ c ∧ c < 127) ∧ x.cps.size ≤ 1000
theorem search_name {prog : Program} {w : World} {x : Str} {t : Tok} {Q : Value → Shared → Prop} (X : (Mine.hd.heap_39 w.params).In s.heap) (hx : Tame x) (h : Q .none s) :
    wpAny (model prog w) A (call (.builtin "re.Pattern.search") [.ref 43, .str x t]) Q E s :=
  wpAny_search (X 43 _ rfl) rfl rfl rfl rfl (X 42 _ rfl) rfl rfl hx.2 (by kernel_rfl) (no_find (fun c hc seen => inSet_name (hx.1 c hc).1 (hx.1 c hc).2 seen) (.inl rfl)) h
theorem search_val {prog : Program} {w : World} {x : Str} {t : Tok} {Q : Value → Shared → Prop} (X : (Mine.hd.heap_39 w.params).In s.heap) (hx : Tame x) (h : Q .none s) :
    wpAny (model prog w) A (call (.builtin "re.Pattern.search") [.ref 48, .str x t]) Q E s :=
  wpAny_search (X 48 _ rfl) rfl rfl rfl rfl (X 47 _ rfl) rfl rfl hx.2 (by kernel_rfl) (no_find (fun c hc seen => inSet_val (hx.1 c hc).1 (hx.1 c hc).2 seen) (.inr rfl)) h
theorem meth_search {p : Addr} {op : Obj} {pl : Sem Bool} {Q : Value × List Value → Shared → Prop} (hp : s.heap.get? p = some op) (hpc : op.cls = .type "re.Pattern") (hd : op.dict = none)
    (h : Q (.builtin "re.Pattern.search", [.ref p]) s) : wpAny M A (getMethod (.ref p) "search" pl) Q E s :=
  getMethod_builtin ⟨op, hp, hpc⟩ plainAttrs_pat slot_search type_search (fun a e => by cases e; exact ⟨_, hp, hd⟩) h
theorem meth_43 {w : World} {pl : Sem Bool} {Q : Value × List Value → Shared → Prop} (X : (Mine.hd.heap_39 w.params).In s.heap)
    (h : Q (.builtin "re.Pattern.search", [.ref 43]) s) : wpAny M A (getMethod (.ref 43) "search" pl) Q E s :=
  meth_search (X 43 _ rfl) rfl rfl h
theorem meth_48 {w : World} {pl : Sem Bool} {Q : Value × List Value → Shared → Prop} (X : (Mine.hd.heap_39 w.params).In s.heap)
    (h : Q (.builtin "re.Pattern.search", [.ref 48]) s) : wpAny M A (getMethod (.ref 48) "search" pl) Q E s :=
  meth_search (X 48 _ rfl) rfl rfl h
end
end Mine
end

section
theorem Mine.reset21 : True := by
  w_top off
  k_with_none
  trivial
open PySem PySem.W PyProof.Rows PySem.Calls PyProof.V PySem.Spec
set_option maxRecDepth 100000
namespace Mine
theorem fillHead : Challenge.rw_tc0026_01.name = Challenge.rw_tc0026_01.name ∧ Mine.hd.heap_39 = Mine.hd.heap_39 := by
  k_fill
  exact ⟨rfl, rfl⟩
local macro_rules | `(tactic| walk_at "getMethod ref") => `(tactic| (k_here; (with_reducible show wpAny _ _ (getMethod (Value.ref 43) _ _) _ _ _); k_dflt (refine' meth_43 ?k1 ?_; (case k1 => k_in); k_whole)))
local macro_rules | `(tactic| walk_at "getMethod ref") => `(tactic| (k_here; (with_reducible show wpAny _ _ (getMethod (Value.ref 48) _ _) _ _ _); k_dflt (refine' meth_48 ?k1 ?_; (case k1 => k_in); k_whole)))
local macro_rules | `(tactic| walk_at "call builtin:re.Pattern.search") => `(tactic| (k_here; (with_reducible show wpAny _ _ (call _ [Value.ref 43, _]) _ _ _); k_dflt (refine' search_name ?k1 ?k2 ?_; (case k1 => k_in); (case k2 => with_reducible assumption))))
local macro_rules | `(tactic| walk_at "call builtin:re.Pattern.search") => `(tactic| (k_here; (with_reducible show wpAny _ _ (call _ [Value.ref 48, _]) _ _ _); k_dflt (refine' search_val ?k1 ?k2 ?_; (case k1 => k_in); (case k2 => with_reducible assumption))))
local macro_rules | `(tactic| walk_at "exec For Tuple Name cons nil") => `(tactic| (k_here; (rename Fr _ _ _ _ => lF'); (with_unfolding_all refine' For_turns lF' ?_ ?hs; (case hs => (intro _; with_unfolding_all rfl)); k_whole)))
section
variable {prog : Program} {w : World} {p : Program} {loose : List Str} {mean : ExcName → Option Value} {mg mb : Str → Option Value} {news : List (Addr × Obj)}
  {dp un : Nat} {gd : Option (List Code)} {cn : Str} {cs : Scope} {a : Addr} {ccd : Value} {cl : List (Str × Addr)} {outer : List Env} {A₀ : Around} {base h₀ : Heap} {L : Addr} {m : Str → Option Value} {s : Shared} {Q E : Value → Shared → Prop}
set_option maxHeartbeats 4000000 in
theorem conv_name {x : Addr} {t : Str} {tk : Tok} {kw : List (Str × Value)} (hkw : kw = [(("name" : Str), Value.bool true)]) (B : Below A₀ base outer h₀) (F : Fr h₀ L s.heap m) (X : (Mine.hd.heap_39 w.params).In h₀) (N : News h₀ L s.heap news) (T : Top p loose mean mg mb h₀) (hk : cs.kind = .function)
    (ht : Tame t) (hd : dp + 1 < recursionLimit) (hu : un + 8 < cLine)
    (hret : ∀ h' tk', Fr h₀ L h' m → News h₀ L h' news → Q (.str t tk) { s with heap := h', toks := tk' }) :
    wpAny (model prog w) (ktrTop dp un gd cn cs L a ccd cl outer) (call (.ref 70) [.ref x, .str t tk] kw) Q E s := by
  subst hkw
  refine wpAny_call ?_
  cell_enter
  k_steps
  exact hret _ _ (by assumption) (by assumption)
set_option maxHeartbeats 4000000 in
theorem conv_val {x : Addr} {t : Str} {tk : Tok} {kw : List (Str × Value)} (hkw : kw = [(("name" : Str), Value.bool false)]) (B : Below A₀ base outer h₀) (F : Fr h₀ L s.heap m) (X : (Mine.hd.heap_39 w.params).In h₀) (N : News h₀ L s.heap news) (T : Top p loose mean mg mb h₀) (hk : cs.kind = .function)
    (ht : Tame t) (hd : dp + 1 < recursionLimit) (hu : un + 8 < cLine)
    (hret : ∀ h' tk', Fr h₀ L h' m → News h₀ L h' news → Q (.str t tk) { s with heap := h', toks := tk' }) :
    wpAny (model prog w) (ktrTop dp un gd cn cs L a ccd cl outer) (call (.ref 70) [.ref x, .str t tk] kw) Q E s := by
  subst hkw
  refine wpAny_call ?_
  cell_enter
  k_steps
  exact hret _ _ (by assumption) (by assumption)
set_option maxHeartbeats 4000000 in
theorem made_call (B : Below A₀ base outer h₀) (F : Fr h₀ L s.heap m) (X : (Mine.hd.heap_39 w.params).In h₀) (N : News h₀ L s.heap news) (T : Top p loose mean mg mb h₀) (hk : cs.kind = .function)
    (hd : dp + 6 < recursionLimit) (hu : un + 64 < cLine)
    (hret : ∀ x dx l tk h' tk', Fr h₀ L h' m → News h₀ L h' ((l, W.listOf #[] 0) :: (x, instObj 171 dx) :: (dx, dictOf [{ hash := PyData.keyHash w.params "_headers", key := .str "_headers" tk, val := .ref l }] 1) :: news) →
      (∀ p ∈ news, p.1 < dx) → dx < x → x < l → Q (.ref x) { s with heap := h', toks := tk' }) :
    wpAny (model prog w) (ktrTop dp un gd cn cs L a ccd cl outer) (call (.ref 171) []) Q E s := by
  k_with "pyIter ref" => refine Held.of ?_
  refine' call_cls ?k1 ?k2 ?k3 ?k4 ?k5 ?k6 ?_; (case k1 => k_asm); (case k2 => k_asm); (case k3 => k_asm); (case k4 => k_is); (case k5 => k_is); (case k6 => k_is); k_whole; intro x' d' h' F' N' l1 l2; (try k_lt l1); (try k_lt2 l2)
  (refine' code_def ?k1 ?k2 ?k3 ?k4 ?k5 ?kA ?kF ?kK ?k6 ?k7 ?k8 ?k9 ?kB ?_ ?c2 ?c3 ?c4 ?c5; (case kA => exact rfl); (case kF => exact rfl); (case kK => assumption); (case k1 => k_asm); (case k2 => k_asm); (case k3 => k_asm); (case k4 => k_asm); (case k5 => k_asm); (case k6 => k_is); (case k7 => k_is); (case k8 => ktr_room); (case k9 => first | exact BindsTo.of_eq rfl | exact binds_K (by k_in) rfl (by k_is) rfl rfl rfl | fail "k_enter: no rule for these arguments"); (case c5 => decide); (case kB => exact locs rfl); (case c2 => exact rfl); (case c3 => exact rfl); (case c4 => exact rfl); k_whole; intro g' L' h' FG' F' N' B' X' T'; (try dsimp only); (try k_lift B'); (try k_fold))
  k_steps
  rename News _ _ _ _ => N8
  rename Fr _ _ _ _ => F8
  rename (_ ∧ _ ∧ AllLt _ _) => hlt
  refine Held.out (list_turns (vs := []) (nn := 0) (fun i m' nx => m' = _ ∧ nx = _) rfl (by exact .head _) F8 N8 ⟨rfl, rfl⟩ ?_ ?_)
  · rintro i v m₁ nx h tk own hv
    cases hv
  · rintro m₁ nx h tk ⟨rfl, rfl⟩ F9 N9
    k_steps
    exact hret _ _ _ _ _ _ (by assumption) (by assumption) l1 l2 hlt.1
end
end Mine
end

section
theorem Mine.reset22 : True := by
  w_top off
  k_with_none
  trivial
open PySem PySem.W PyProof.Rows PySem.Calls PyProof.V PySem.Spec
set_option maxRecDepth 100000
namespace Mine
theorem fillHead2 : Challenge.rw_tc0026_01.name = Challenge.rw_tc0026_01.name ∧ Mine.hd.heap_39 = Mine.hd.heap_39 := by
  k_fill
  exact ⟨rfl, rfl⟩
/-- the letter of a place, small or great -/
def nm (up : Bool) (i : Nat) : Str := ⟨#[if up then 65 + i else 97 + i]⟩
theorem lower_nm : ∀ (b : Bool) (i : Nat), i < 12 → Txt.lower (nm b i) = nm false i := by
  have h : ∀ (b : Bool) (i : Fin 12), Txt.lower (nm b i.val) = nm false i.val := by decide +kernel
  exact fun b i hi => h b ⟨i, hi⟩
theorem upper_nm : ∀ (i : Nat), i < 12 → Txt.upper (nm false i) = nm true i := by
  have h : ∀ (i : Fin 12), Txt.upper (nm false i.val) = nm true i.val := by decide +kernel
  exact fun i hi => h ⟨i, hi⟩
theorem tame_nm {b : Bool} {i : Nat} (hi : i < 12) : Tame (nm b i) := by
  refine ⟨fun c hc => ?_, by show 1 ≤ 1000; omega⟩
  have : c = if b then 65 + i else 97 + i := by simpa [nm] using hc
  subst this
  cases b <;> simp <;> omega
theorem nm_inj {i j : Nat} (h : nm false i = nm false j) : i = j := by
  have : (nm false i).cps = (nm false j).cps := by rw [h]
  simp [nm] at this
  exact this
/-- a laid entry: its letter's size and place, and its numeral -/
def hp (e : (Bool × Nat) × Str) : Dat := .tuple [.str (nm e.1.1 e.1.2), .str e.2]
theorem hp_open {news : List (Addr × Obj)} {v : Value} {e : (Bool × Nat) × Str} (h : DatIn news v (hp e)) : ∃ a n t t', v = .ref a ∧ (a, ({ cls := .type "tuple", data := .seq #[.str (nm e.1.1 e.1.2) t, .str e.2 t'] n } : Obj)) ∈ news := by
  cases h with
  | tuple hm hd =>
    cases hd with
    | cons h1 hd =>
      cases hd with
      | cons h2 hd =>
        cases hd
        cases h1
        cases h2
        exact ⟨_, _, _, _, rfl, hm⟩
/-- what stands at a place -/
def stands (es : List ((Bool × Nat) × Str)) (i : Nat) : Option Str := (es.find? fun e => e.1.2 == i).map (·.2)
def Gets (o : Option Str) (r : Value) : Prop := match o with | none => r = .none | some v => ∃ t', r = .str v t'
section
variable {prog : Program} {w : World} {A : Around} {E : Value → Shared → Prop} {s : Shared}
theorem lower_call {b : Bool} {i : Nat} {t : Tok} {Q : Value → Shared → Prop} (hi : i < 12) (h : ∀ t' k, Q (.str (nm false i) t') { s with toks := k }) :
    wpAny (model prog w) A (call (.builtin "str.lower") [.str (nm b i) t]) Q E s :=
  KXw.lower (lower_nm b i hi) (by rw [lower_nm b i hi]; rfl) h
theorem upper_call {i : Nat} {t : Tok} {Q : Value → Shared → Prop} (hi : i < 12) (h : ∀ t' k, Q (.str (nm true i) t') { s with toks := k }) :
    wpAny (model prog w) A (call (.builtin "str.upper") [.str (nm false i) t]) Q E s :=
  SC.upper (by rw [upper_nm i hi]; rfl) (by rw [upper_nm i hi]; exact h _ _)
end
local macro_rules | `(tactic| walk_at "exec For Tuple Name cons nil") => `(tactic| (k_here; (rename Fr _ _ _ _ => lF'); (with_unfolding_all refine' For_turns lF' ?_ ?hs; (case hs => (intro _; with_unfolding_all rfl)); k_whole)))
local macro_rules | `(tactic| walk_at "exec For Tuple Attribute cons nil") => `(tactic| (k_here; (rename Fr _ _ _ _ => lF'); (with_unfolding_all refine' For_turns lF' ?_ ?hs; (case hs => (intro _; with_unfolding_all rfl)); k_whole)))
local macro_rules | `(tactic| walk_at "call builtin:str.lower") => `(tactic| (k_here; (with_reducible show wpAny _ _ (call _ [Value.str (nm _ _) _]) _ _ _); k_dflt (refine' lower_call ?k1 ?_; (case k1 => with_reducible assumption); k_whole); intro _ _))
local macro_rules | `(tactic| walk_at "call ref") => `(tactic| ((with_reducible show wpAny _ _ (call (Value.ref 70) [Value.ref _, Value.str _ _] _) _ _ _); k_dflt (refine' conv_name ?kw ?kB ?kF ?kX ?kN ?kT ?kK ?kH ?hd ?hu ?_; (case kw => exact rfl); (case kB => k_asm); (case kF => k_asm); (case kX => k_asm); (case kN => k_asm); (case kT => k_asm); (case kK => first | exact rfl | assumption); (case kH => with_reducible assumption); (case hd => ktr_room); (case hu => ktr_units)); intro h9 tk9 F9 N9))
section
variable {prog : Program} {w : World} {p : Program} {loose : List Str} {mean : ExcName → Option Value} {mg mb : Str → Option Value} {news : List (Addr × Obj)}
  {dp un : Nat} {gd : Option (List Code)} {cn : Str} {cs : Scope} {a : Addr} {ccd : Value} {cl : List (Str × Addr)} {outer : List Env} {A₀ : Around} {base h₀ : Heap} {L : Addr} {m : Str → Option Value} {s : Shared} {Q E : Value → Shared → Prop}
set_option maxHeartbeats 4000000 in
theorem get_call {x dx l : Addr} {tk0 tk : Tok} {b : Bool} {i : Nat} {vs : List Value} {k : Nat} {es : List ((Bool × Nat) × Str)} (B : Below A₀ base outer h₀) (F : Fr h₀ L s.heap m) (X : (Mine.hd.heap_39 w.params).In h₀)
    (N : News h₀ L s.heap ((l, W.listOf vs.toArray k) :: (x, instObj 171 dx) :: (dx, dictOf [{ hash := PyData.keyHash w.params "_headers", key := .str "_headers" tk0, val := .ref l }] 1) :: news)) (T : Top p loose mean mg mb h₀) (hk : cs.kind = .function)
    (hds : DatAll news vs (es.map hp)) (hes : ∀ e ∈ es, e.1.2 < 12) (hi : i < 12) (hd : dp + 3 < recursionLimit) (hu : un + 32 < cLine)
    (hret : ∀ r h' tk', Fr h₀ L h' m → News h₀ L h' ((l, W.listOf vs.toArray k) :: (x, instObj 171 dx) :: (dx, dictOf [{ hash := PyData.keyHash w.params "_headers", key := .str "_headers" tk0, val := .ref l }] 1) :: news) →
      Gets (stands es i) r → Q r { s with heap := h', toks := tk' }) :
    wpAny (model prog w) (ktrTop dp un gd cn cs L a ccd cl outer) (call (.ref 118) [.ref x, .str (nm b i) tk]) Q E s := by
  k_with "pyIter ref" => refine Held.of ?_
  have ht : Tame (nm false i) := tame_nm hi
  refine wpAny_call ?_
  (refine' code_def ?k1 ?k2 ?k3 ?k4 ?k5 ?kA ?kF ?kK ?k6 ?k7 ?k8 ?k9 ?kB ?_ ?c2 ?c3 ?c4 ?c5; (case kA => exact rfl); (case kF => exact rfl); (case kK => assumption); (case k1 => k_asm); (case k2 => k_asm); (case k3 => k_asm); (case k4 => k_asm); (case k5 => k_asm); (case k6 => k_is); (case k7 => k_is); (case k8 => ktr_room); (case k9 => first | exact BindsTo.of_eq rfl | exact binds_K (by k_in) rfl (by k_is) rfl rfl rfl | fail "k_enter: no rule for these arguments"); (case c5 => decide); (case kB => exact locs rfl); (case c2 => exact rfl); (case c3 => exact rfl); (case c4 => exact rfl); k_whole; intro g' L' h' FG' F' N' B' X' T'; (try dsimp only); (try k_lift B'); (try k_fold))
  k_steps
  rename Fr _ _ _ _ => F8
  rename News _ _ _ _ => N8
  have hT : (x, instObj 171 dx) ∈ ((l, W.listOf vs.toArray k) :: (x, instObj 171 dx) :: (dx, dictOf [{ hash := PyData.keyHash w.params "_headers", key := .str "_headers" tk0, val := .ref l }] 1) :: news) := .tail _ (.head _)
  refine Held.out (list_turns (fun j m' nx => (∀ e ∈ es.take j, e.1.2 ≠ i) ∧ nx = (l, W.listOf vs.toArray k) :: (x, instObj 171 dx) :: (dx, dictOf [{ hash := PyData.keyHash w.params "_headers", key := .str "_headers" tk0, val := .ref l }] 1) :: news ∧ ∃ tn, ∀ p ∈ [(Str.ofString "self", Value.ref x), (Str.ofString "name", .str (nm false i) tn), (Str.ofString "default", .none)], m' p.1 = some p.2) rfl (by exact .head _) F8 N8 ?_ ?_ ?_)
  · exact ⟨fun e he => absurd he (by simp), rfl, _, List.forall_mem_cons.mpr ⟨rfl, List.forall_mem_cons.mpr ⟨rfl, List.forall_mem_cons.mpr ⟨rfl, List.forall_mem_nil _⟩⟩⟩⟩
  · rintro j v m₁ nx h tk own hv hoff2 hl2 ⟨hnone, rfl, tn, hm⟩ F₁ N₁
    have F₂ := fr_known hm F₁
    clear F₁
    dsimp only [kstB] at F₂
    have hj : j < es.length := by
      have h1 := (List.getElem?_eq_some_iff.mp hv).1
      have h2 := hds.length
      rw [List.length_map] at h2
      omega
    obtain ⟨v', hv', hD⟩ := hds.get (k := j) (by rw [List.length_map]; exact hj)
    rw [hv] at hv'
    cases hv'
    rw [List.getElem_map] at hD
    obtain ⟨a, n, ta, tb, rfl, ham⟩ := hp_open hD
    have hej := hes _ (List.getElem_mem hj)
    have hst : ∀ v, es[j].1.2 = i → es[j].2 = v → stands es i = some v := by
      intro v h1 h2
      unfold stands
      have : es.find? (fun e => e.1.2 == i) = some es[j] := by
        rw [List.find?_eq_some_iff_append]
        refine ⟨by simpa using h1, es.take j, es.drop (j + 1), ?_, ?_⟩
        · rw [List.getElem_cons_drop hj, List.take_append_drop]
        · intro e he; simpa using hnone e he
      rw [this, ← h2]; rfl
    have hnx : es[j].1.2 ≠ i → ∀ e ∈ es.take (j + 1), e.1.2 ≠ i := by
      intro h1 e he
      rw [List.take_succ_eq_append_getElem hj] at he
      rcases List.mem_append.mp he with he | he
      · exact hnone e he
      · rw [List.mem_singleton.mp he]; exact h1
    generalize hx : es[j] = e at *
    obtain ⟨⟨b', i'⟩, q⟩ := e
    dsimp only at *
    have N₂ : News _ _ h ((a, ({ cls := .type "tuple", data := .seq #[.str (nm b' i') ta, .str q tb] n } : Obj)) :: (((l, W.listOf vs.toArray k) :: (x, instObj 171 dx) :: (dx, dictOf [{ hash := PyData.keyHash w.params "_headers", key := .str "_headers" tk0, val := .ref l }] 1) :: news) ++ own)) := fun r hr => by
      rcases List.mem_cons.mp hr with rfl | hr
      · exact N₁ _ (List.mem_append.mpr (.inl (.tail _ (.tail _ (.tail _ ham)))))
      · exact N₁ _ hr
    clear N₁ F8 N8
    k_steps
    · rename ((nm _ _ == nm _ _) = true) => hq
      rw [beq_iff_eq] at hq
      have hq' := hst q (nm_inj hq) rfl
      refine hret _ _ _ (by assumption) (cb_drop (by assumption) fun p hp => .tail _ (List.mem_append.mpr (.inl hp))) ?_
      rw [hq']
      exact ⟨_, rfl⟩
    · rename ((nm _ _ == nm _ _) = false) => hq
      refine InvEndG.intro (by assumption) (by assumption) ⟨hl2, hnx (fun e => ?_), rfl, tn, fun p hp => ?_⟩ hoff2 (fun p hp => .tail _ (List.mem_append.mpr (.inl hp))) (fun p hp => .tail _ (List.mem_append.mpr (.inr hp)))
      · rw [e, beq_self_eq_true] at hq; cases hq
      · simp only [List.mem_cons, List.not_mem_nil, or_false] at hp
        rcases hp with rfl | rfl | rfl <;> rfl
  · rintro m₁ nx h tk ⟨hnone, rfl, tn, hm⟩ F₁ N₁
    have F₂ := fr_known hm F₁
    clear F₁
    dsimp only [kstB] at F₂
    k_steps
    refine hret _ _ _ (by assumption) (by assumption) ?_
    have : stands es i = none := by
      have hl := hds.length
      rw [List.length_map] at hl
      rw [hl, List.take_length] at hnone
      unfold stands
      rw [List.find?_eq_none.mpr]
      · rfl
      · intro e he; simpa using hnone e he
    rw [this]
    rfl
end
end Mine
end

section
theorem Mine.reset23 : True := by
  w_top off
  k_with_none
  trivial
open PySem PySem.W PyProof.Rows PySem.Calls PyProof.V PySem.Spec
set_option maxRecDepth 100000
namespace Mine
theorem fillHead3 : Challenge.rw_tc0026_01.name = Challenge.rw_tc0026_01.name ∧ Mine.hd.heap_39 = Mine.hd.heap_39 := by
  k_fill
  exact ⟨rfl, rfl⟩
local macro_rules | `(tactic| size_fits) => `(tactic| with_reducible assumption)
local macro_rules | `(tactic| walk_at "call ref") => `(tactic| ((with_reducible show wpAny _ _ (call (Value.ref 70) [Value.ref _, Value.str _ _] _) _ _ _); k_dflt (refine' conv_name ?kw ?kB ?kF ?kX ?kN ?kT ?kK ?kH ?hd ?hu ?_; (case kw => exact rfl); (case kB => k_asm); (case kF => k_asm); (case kX => k_asm); (case kN => k_asm); (case kT => k_asm); (case kK => first | exact rfl | assumption); (case kH => with_reducible assumption); (case hd => ktr_room); (case hu => ktr_units)); intro h9 tk9 F9 N9))
local macro_rules | `(tactic| walk_at "call ref") => `(tactic| ((with_reducible show wpAny _ _ (call (Value.ref 70) [Value.ref _, Value.str _ _] _) _ _ _); k_dflt (refine' conv_val ?kw ?kB ?kF ?kX ?kN ?kT ?kK ?kH ?hd ?hu ?_; (case kw => exact rfl); (case kB => k_asm); (case kF => k_asm); (case kX => k_asm); (case kN => k_asm); (case kT => k_asm); (case kK => first | exact rfl | assumption); (case kH => with_reducible assumption); (case hd => ktr_room); (case hu => ktr_units)); intro h9 tk9 F9 N9))
local macro_rules | `(tactic| walk_at "call ref") => `(tactic| ((with_reducible show wpAny _ _ (call (Value.ref 118) [Value.ref _, Value.str (nm _ _) _] _) _ _ _); k_dflt (refine' get_call ?kB ?kF ?kX ?kN ?kT ?kK ?kd ?ke ?ki ?hd ?hu ?_; (case kB => k_asm); (case kF => k_asm); (case kX => k_asm); (case kN => k_asm); (case kT => k_asm); (case kK => first | exact rfl | assumption); (case kd => with_reducible assumption); (case ke => with_reducible assumption); (case ki => with_reducible assumption); (case hd => ktr_room); (case hu => ktr_units)); intro r9 h9 tk9 F9 N9 hr9))
section
variable {prog : Program} {w : World} {p : Program} {loose : List Str} {mean : ExcName → Option Value} {mg mb : Str → Option Value} {news : List (Addr × Obj)}
  {dp un : Nat} {gd : Option (List Code)} {cn : Str} {cs : Scope} {a : Addr} {ccd : Value} {cl : List (Str × Addr)} {outer : List Env} {A₀ : Around} {base h₀ : Heap} {L : Addr} {m : Str → Option Value} {s : Shared} {Q E : Value → Shared → Prop}
set_option maxHeartbeats 4000000 in
theorem setd_old {x dx l : Addr} {tk0 tk t2 : Tok} {b : Bool} {i : Nat} {q q' : Str} {vs : List Value} {k : Nat} {es : List ((Bool × Nat) × Str)} (hst : stands es i = some q') (B : Below A₀ base outer h₀) (F : Fr h₀ L s.heap m) (X : (Mine.hd.heap_39 w.params).In h₀)
    (N : News h₀ L s.heap ((l, W.listOf vs.toArray k) :: (x, instObj 171 dx) :: (dx, dictOf [{ hash := PyData.keyHash w.params "_headers", key := .str "_headers" tk0, val := .ref l }] 1) :: news)) (T : Top p loose mean mg mb h₀) (hk : cs.kind = .function)
    (hds : DatAll news vs (es.map hp)) (hes : ∀ e ∈ es, e.1.2 < 12) (hi : i < 12) (hd : dp + 5 < recursionLimit) (hu : un + 64 < cLine)
    (hret : ∀ t' h' tk', Fr h₀ L h' m → News h₀ L h' ((l, W.listOf vs.toArray k) :: (x, instObj 171 dx) :: (dx, dictOf [{ hash := PyData.keyHash w.params "_headers", key := .str "_headers" tk0, val := .ref l }] 1) :: news) →
      Q (.str q' t') { s with heap := h', toks := tk' }) :
    wpAny (model prog w) (ktrTop dp un gd cn cs L a ccd cl outer) (call (.ref 161) [.ref x, .str (nm b i) tk, .str q t2]) Q E s := by
  refine wpAny_call ?_
  cell_enter
  k_steps
  rename Gets _ _ => hr9
  rw [hst] at hr9
  obtain ⟨t', rfl⟩ := hr9
  k_steps
  exact hret _ _ _ (by assumption) (by assumption)
set_option maxHeartbeats 4000000 in
theorem setd_new {x dx l : Addr} {tk0 tk t2 : Tok} {b : Bool} {i : Nat} {q : Str} {vs : List Value} {k : Nat} {es : List ((Bool × Nat) × Str)} (hst : stands es i = none) (B : Below A₀ base outer h₀) (F : Fr h₀ L s.heap m) (X : (Mine.hd.heap_39 w.params).In h₀)
    (N : News h₀ L s.heap ((l, W.listOf vs.toArray k) :: (x, instObj 171 dx) :: (dx, dictOf [{ hash := PyData.keyHash w.params "_headers", key := .str "_headers" tk0, val := .ref l }] 1) :: news)) (T : Top p loose mean mg mb h₀) (hk : cs.kind = .function)
    (hds : DatAll news vs (es.map hp)) (hes : ∀ e ∈ es, e.1.2 < 12) (hi : i < 12) (hq : Tame q) (hvl : vs.length ≤ 1000) (hxl : x < l) (hdl : dx < x) (hoff : OwnOff news [l]) (hd : dp + 5 < recursionLimit) (hu : un + 64 < cLine)
    (hret : ∀ D o h' tk', Fr h₀ L h' m → News h₀ L h' ((D, o) :: (l, W.listOf (vs ++ [Value.ref D]).toArray (k + 1)) :: (x, instObj 171 dx) :: (dx, dictOf [{ hash := PyData.keyHash w.params "_headers", key := .str "_headers" tk0, val := .ref l }] 1) :: news) →
      l < D → (∀ p ∈ news, p.1 < D) → DatIn [(D, o)] (.ref D) (hp ((b, i), q)) → Q (.str q t2) { s with heap := h', toks := tk' }) :
    wpAny (model prog w) (ktrTop dp un gd cn cs L a ccd cl outer) (call (.ref 161) [.ref x, .str (nm b i) tk, .str q t2]) Q E s := by
  have ht : Tame (nm b i) := tame_nm hi
  have hxl' := ltN hxl
  have hdl' := ltN hdl
  have hz : vs.toArray.size ≤ sizeLine := by rw [List.size_toArray, sizeLine_eq]; omega
  refine wpAny_call ?_
  cell_enter
  k_steps
  rename Gets _ _ => hr9
  rw [hst] at hr9
  cases hr9
  k_steps
  rename (_ ∧ _ ∧ _ ∧ AllLt _ _) => hlt
  rename News _ _ _ _ => N9
  rw [List.push_toArray] at N9
  exact hret _ _ _ _ (by assumption) N9 hlt.1 (allLt_iff hlt.2.2.2) (.tuple (List.mem_singleton.mpr rfl) (.cons (.str _ _) (.cons (.str _ _) .nil)))
end
end Mine
end

section
theorem Mine.reset24 : True := by
  w_top off
  k_with_none
  trivial
local macro_rules | `(tactic| walk_at "idle 0") => `(tactic| fail)
open PySem PySem.W PyProof.Rows PySem.Calls PyProof.V PySem.Spec
set_option maxRecDepth 100000
namespace Mine
theorem fillLaid : Challenge.rw_tc0026_01.name = Challenge.rw_tc0026_01.name ∧ Mine.hd.heap_39 = Mine.hd.heap_39 := by
  k_fill
  exact ⟨rfl, rfl⟩
theorem ints_at : ∀ {ts : List Nat} {vs : List Value} {j : Nat} {v : Value}, IntsAre vs (ts.map fun (k : Nat) => (k : Int)) → vs[j]? = some v → ∃ (h : j < ts.length) (t : Tok), v = .int ((ts[j] : Nat) : Int) t
  | [], _, _, _, .nil, h => by cases h
  | _ :: ts, _, 0, _, .cons _ _ _, h => by
    cases h
    exact ⟨by simp, _, rfl⟩
  | _ :: ts, _, j + 1, _, .cons _ _ r, h => by
    obtain ⟨h1, t, e⟩ := ints_at (ts := ts) r (by simpa using h)
    exact ⟨by simpa using h1, t, by simpa using e⟩
theorem item_nm : ∀ (i : Nat), i < 12 → Txt.item (Str.ofString "abcdefghijkl") (i : Int) = nm false i := by
  have h : ∀ (i : Fin 12), Txt.item (Str.ofString "abcdefghijkl") (i.val : Int) = nm false i.val := by decide +kernel
  exact fun i hi => h ⟨i, hi⟩
def ent (down : Bool) (q : Str) (t : Nat) : (Bool × Nat) × Str := ((down, t), q)
theorem stands_append {es fs : List ((Bool × Nat) × Str)} {i : Nat} (h : stands es i = none) : stands (es ++ fs) i = stands fs i := by
  unfold stands at *
  rw [List.find?_append]
  cases hf : es.find? (fun e => e.1.2 == i) with
  | none => rfl
  | some e => rw [hf] at h; cases h
theorem stands_none {es : List ((Bool × Nat) × Str)} {i : Nat} : stands es i = none ↔ ∀ e ∈ es, e.1.2 ≠ i := by
  unfold stands
  rw [Option.map_eq_none_iff, List.find?_eq_none]
  simp
theorem dat_app {news : List (Addr × Obj)} : ∀ {vs ws : List Value} {ds es : List Dat}, DatAll news vs ds → DatAll news ws es → DatAll news (vs ++ ws) (ds ++ es)
  | _, _, _, _, .nil, h => h
  | _, _, _, _, .cons a r, h => .cons a (dat_app r h)
section
variable {prog : Program} {w : World} {p : Program} {loose : List Str} {mean : ExcName → Option Value} {mg mb : Str → Option Value} {news : List (Addr × Obj)}
  {dp un : Nat} {gd : Option (List Code)} {cn : Str} {cs : Scope} {a : Addr} {ccd : Value} {cl : List (Str × Addr)} {outer : List Env} {A₀ : Around} {base h₀ : Heap} {L : Addr} {m : Str → Option Value} {s : Shared} {Q E : Value → Shared → Prop}
theorem setd_new2 {x dx l : Addr} {tk0 tk t2 : Tok} {b : Bool} {i : Nat} {q : Str} {vs : List Value} {k : Nat} {es : List ((Bool × Nat) × Str)} (hst : stands es i = none) (B : Below A₀ base outer h₀) (F : Fr h₀ L s.heap m) (X : (Mine.hd.heap_39 w.params).In h₀)
    (N : News h₀ L s.heap ((l, W.listOf vs.toArray k) :: (x, instObj 171 dx) :: (dx, dictOf [{ hash := PyData.keyHash w.params "_headers", key := .str "_headers" tk0, val := .ref l }] 1) :: news)) (T : Top p loose mean mg mb h₀) (hk : cs.kind = .function)
    (hds : DatAll news vs (es.map hp)) (hes : ∀ e ∈ es, e.1.2 < 12) (hi : i < 12) (hq : Tame q) (hvl : vs.length ≤ 1000) (hxl : x < l) (hdl : dx < x) (hoff : OwnOff news [l]) (hd : dp + 5 < recursionLimit) (hu : un + 64 < cLine)
    (hret : ∀ D o h' tk', Fr h₀ L h' m → News h₀ L h' ((l, W.listOf (vs ++ [Value.ref D]).toArray (k + 1)) :: (x, instObj 171 dx) :: (dx, dictOf [{ hash := PyData.keyHash w.params "_headers", key := .str "_headers" tk0, val := .ref l }] 1) :: (D, o) :: news) →
      l < D ∧ x < D ∧ dx < D ∧ AllLt D news → DatIn [(D, o)] (.ref D) (hp ((b, i), q)) → DatAll ((D, o) :: news) (vs ++ [Value.ref D]) ((es ++ [((b, i), q)]).map hp) → stands (es ++ [((b, i), q)]) i = some q →
      (∀ e ∈ es ++ [((b, i), q)], e.1.2 < 12) → Q (.str q t2) { s with heap := h', toks := tk' }) :
    wpAny (model prog w) (ktrTop dp un gd cn cs L a ccd cl outer) (call (.ref 161) [.ref x, .str (nm b i) tk, .str q t2]) Q E s := by
  refine setd_new hst B F X N T hk hds hes hi hq hvl hxl hdl hoff hd hu fun D o h' tk' F' N' hlt hall hD => ?_
  refine hret D o h' tk' F' (cb_drop N' fun p hp => ?_) ⟨hlt, Nat.lt_trans hxl hlt, Nat.lt_trans hdl (Nat.lt_trans hxl hlt), allLt_of hall⟩ hD ?_ ?_ ?_
  · rcases List.mem_cons.mp hp with rfl | hp
    · exact .tail _ (.head _)
    · rcases List.mem_cons.mp hp with rfl | hp
      · exact .tail _ (.tail _ (.head _))
      · rcases List.mem_cons.mp hp with rfl | hp
        · exact .tail _ (.tail _ (.tail _ (.head _)))
        · rcases List.mem_cons.mp hp with rfl | hp
          · exact .head _
          · exact .tail _ (.tail _ (.tail _ (.tail _ hp)))
  · rw [List.map_append]
    exact dat_app (hds.mono fun p hp => .tail _ hp) (.cons (hD.mono fun p hp => by rw [List.mem_singleton.mp hp]; exact .head _) .nil)
  · rw [stands_append hst]
    unfold stands
    simp
  · intro e he
    rcases List.mem_append.mp he with he | he
    · exact hes e he
    · rw [List.mem_singleton.mp he]; exact hi
end
local macro_rules | `(tactic| size_fits) => `(tactic| with_reducible assumption)
local macro_rules | `(tactic| walk_at "exec For Name Name cons nil") => `(tactic| (k_here; (rename Fr _ _ _ _ => lF'); (with_unfolding_all refine' For_turns lF' ?_ ?hs; (case hs => (intro _; with_unfolding_all rfl)); k_whole)))
local macro_rules | `(tactic| walk_at "call builtin:str.upper") => `(tactic| (k_here; (with_reducible show wpAny _ _ (call _ [Value.str (nm _ _) _]) _ _ _); k_dflt (refine' upper_call ?k1 ?_; (case k1 => with_reducible assumption); k_whole); intro _ _))
local macro_rules | `(tactic| walk_at "call ref") => `(tactic| ((with_reducible show wpAny _ _ (call (Value.ref 161) [Value.ref _, Value.str (nm _ _) _, Value.str _ _]) _ _ _); k_dflt (first | (refine' setd_new2 ?kst ?kB ?kF ?kX ?kN ?kT ?kK ?kd ?ke ?ki ?kq ?kv ?kx ?ky ?ko ?hd ?hu ?_; (case kN => k_asm); (case kd => with_reducible assumption); (case kst => with_reducible assumption); (case kB => k_asm); (case kF => k_asm); (case kX => k_asm); (case kT => k_asm); (case kK => first | exact rfl | assumption); (case ke => with_reducible assumption); (case ki => with_reducible assumption); (case kq => with_reducible assumption); (case kv => with_reducible assumption); (case kx => with_reducible assumption); (case ky => with_reducible assumption); (case ko => with_reducible assumption); (case hd => ktr_room); (case hu => ktr_units); intro D9 o9 h9 tk9 F9 N9 l9 hD9 hds9 hst9 hes9; (try simp only [AllLt] at l9); (try k_lt l9)) | (refine' setd_old ?kst ?kB ?kF ?kX ?kN ?kT ?kK ?kd ?ke ?ki ?hd ?hu ?_; (case kN => k_asm); (case kd => with_reducible assumption); (case kst => with_reducible assumption); (case kB => k_asm); (case kF => k_asm); (case kX => k_asm); (case kT => k_asm); (case kK => first | exact rfl | assumption); (case ke => with_reducible assumption); (case ki => with_reducible assumption); (case hd => ktr_room); (case hu => ktr_units); intro t9 h9 tk9 F9 N9))))
section
variable {prog : Program} {w : World} {p : Program} {loose : List Str} {mean : ExcName → Option Value} {mg mb : Str → Option Value} {news : List (Addr × Obj)}
  {dp un : Nat} {gd : Option (List Code)} {cn : Str} {cs : Scope} {a : Addr} {ccd : Value} {cl : List (Str × Addr)} {outer : List Env} {A₀ : Around} {base h₀ : Heap} {L : Addr} {m : Str → Option Value} {s : Shared} {Q E : Value → Shared → Prop}
/-- what the turns of _law_laid keep -/
def LJ (params : Params) (x dx l r : Addr) (tk0 : Tok) (news S : List (Addr × Obj)) (es : List ((Bool × Nat) × Str)) (fs : List ((Bool × Nat) × Str)) (nx : List (Addr × Obj)) : Prop :=
  ∃ (vs : List Value) (k : Nat) (rs : List Value) (kr : Nat) (V : List (Addr × Obj)), nx = (l, W.listOf vs.toArray k) :: (x, instObj 171 dx) :: (dx, dictOf [{ hash := PyData.keyHash params "_headers", key := .str "_headers" tk0, val := .ref l }] 1) :: (r, W.listOf rs.toArray kr) :: (V ++ news) ∧
    DatAll (V ++ S) vs ((es ++ fs).map hp) ∧ DatAll V rs (fs.map hp) ∧ OwnOff V [l, r] ∧ OwnOff V (x :: dx :: news.map (·.1))
def Splits (U V news own : List (Addr × Obj)) : Prop := U = V ++ (news ++ own)
theorem LJ_step {params : Params} {h : Heap} {m' : Str → Option Value} {x dx l l' D D' : Addr} {tk0 : Tok} {o oT : Obj} {vs rs : List Value} {k kr tk : Nat} {V own U S : List (Addr × Obj)} {es fs : List ((Bool × Nat) × Str)} {e : (Bool × Nat) × Str} {P : Addr × Obj} {ps : List (Str × Value)} {s₁ : Shared}
    (F : Fr h₀ L h m') (N : News h₀ L h ((D', oT) :: (l, W.listOf (vs ++ [Value.ref D]).toArray (k + 1)) :: (x, instObj 171 dx) :: (dx, dictOf [{ hash := PyData.keyHash params "_headers", key := .str "_headers" tk0, val := .ref l }] 1) :: (D, o) :: (l', W.listOf (rs.toArray.push (Value.ref D')) (kr + 1)) :: U))
    (hU : U = V ++ (news ++ own)) (h1 : DatIn [(D, o)] (.ref D) (hp e)) (h2 : DatIn [(D', oT)] (.ref D') (hp e))
    (l9 : l < D ∧ x < D ∧ dx < D ∧ l' < D ∧ AllLt D U) (l1 : l < D' ∧ x < D' ∧ dx < D' ∧ D < D' ∧ l' < D' ∧ AllLt D' U)
    (hD1 : DatAll (V ++ S) vs ((es ++ fs).map hp)) (hD2 : DatAll V rs (fs.map hp)) (hV : OwnOff V [l, l']) (hV2 : OwnOff V (x :: dx :: news.map (·.1)))
    (hoff2 : OwnOff own (((l, W.listOf vs.toArray k) :: (x, instObj 171 dx) :: (dx, dictOf [{ hash := PyData.keyHash params "_headers", key := .str "_headers" tk0, val := .ref l }] 1) :: (l', W.listOf rs.toArray kr) :: (V ++ news)).map (·.1)))
    (hP : P ∈ news) (hps : ∀ p ∈ ps, m' p.1 = some p.2) :
    InvEndG h₀ L (fun m' nx => P ∈ nx ∧ LJ params x dx l l' tk0 news S es (fs ++ [e]) nx ∧ ∀ p ∈ ps, m' p.1 = some p.2) own s₁ { s₁ with heap := h, toks := tk } := by
  subst hU
  have hD := allLt_iff l9.2.2.2.2
  have hD' := allLt_iff l1.2.2.2.2.2
  have inV : ∀ p ∈ V, p ∈ V ++ (news ++ own) := fun p hp => List.mem_append.mpr (.inl hp)
  have inN : ∀ p ∈ news, p ∈ V ++ (news ++ own) := fun p hp => List.mem_append.mpr (.inr (List.mem_append.mpr (.inl hp)))
  have inO : ∀ p ∈ own, p ∈ V ++ (news ++ own) := fun p hp => List.mem_append.mpr (.inr (List.mem_append.mpr (.inr hp)))
  rw [List.push_toArray] at N
  refine InvEndG.intro (nx := (l, W.listOf (vs ++ [Value.ref D]).toArray (k + 1)) :: (x, instObj 171 dx) :: (dx, dictOf [{ hash := PyData.keyHash params "_headers", key := .str "_headers" tk0, val := .ref l }] 1) :: (l', W.listOf (rs ++ [Value.ref D']).toArray (kr + 1)) :: (((D', oT) :: (D, o) :: V) ++ news)) F N
    ⟨.tail _ (.tail _ (.tail _ (.tail _ (List.mem_append.mpr (.inr hP))))), ⟨_, _, _, _, _, rfl, ?_, ?_, ?_, ?_⟩, hps⟩ ?_ ?_ ?_
  · rw [← List.append_assoc, List.map_append]
    exact dat_app (hD1.mono fun p hp => .tail _ (.tail _ hp)) (.cons (h1.mono fun p hp => by rw [List.mem_singleton.mp hp]; exact .tail _ (.head _)) .nil)
  · rw [List.map_append]
    exact dat_app (hD2.mono fun p hp => .tail _ (.tail _ hp)) (.cons (h2.mono fun p hp => by rw [List.mem_singleton.mp hp]; exact .head _) .nil)
  · refine off_cons (fun b hb => ?_) (off_cons (fun b hb => ?_) hV)
    · simp only [List.mem_cons, List.not_mem_nil, or_false] at hb
      rcases hb with rfl | rfl
      · exact Nat.ne_of_gt l1.1
      · exact Nat.ne_of_gt l1.2.2.2.2.1
    · simp only [List.mem_cons, List.not_mem_nil, or_false] at hb
      rcases hb with rfl | rfl
      · exact Nat.ne_of_gt l9.1
      · exact Nat.ne_of_gt l9.2.2.2.1
  · refine off_cons (fun b hb => ?_) (off_cons (fun b hb => ?_) hV2)
    · rcases List.mem_cons.mp hb with rfl | hb
      · exact Nat.ne_of_gt l1.2.1
      · rcases List.mem_cons.mp hb with rfl | hb
        · exact Nat.ne_of_gt l1.2.2.1
        · obtain ⟨o', ho⟩ := mem_fst hb
          exact Nat.ne_of_gt (hD' _ (inN _ ho))
    · rcases List.mem_cons.mp hb with rfl | hb
      · exact Nat.ne_of_gt l9.2.1
      · rcases List.mem_cons.mp hb with rfl | hb
        · exact Nat.ne_of_gt l9.2.2.1
        · obtain ⟨o', ho⟩ := mem_fst hb
          exact Nat.ne_of_gt (hD _ (inN _ ho))
  · intro p hp b hb
    simp only [List.map_cons, List.cons_append] at hb
    have up := hoff2 p hp
    simp only [List.map_cons] at up
    rcases List.mem_cons.mp hb with rfl | hb
    · exact up _ (.head _)
    rcases List.mem_cons.mp hb with rfl | hb
    · exact up _ (.tail _ (.head _))
    rcases List.mem_cons.mp hb with rfl | hb
    · exact up _ (.tail _ (.tail _ (.head _)))
    rcases List.mem_cons.mp hb with rfl | hb
    · exact up _ (.tail _ (.tail _ (.tail _ (.head _))))
    rcases List.mem_cons.mp hb with rfl | hb
    · exact Nat.ne_of_lt (hD' _ (inO _ hp))
    rcases List.mem_cons.mp hb with rfl | hb
    · exact Nat.ne_of_lt (hD _ (inO _ hp))
    · exact up _ (.tail _ (.tail _ (.tail _ (.tail _ hb))))
  · intro p hp
    rcases List.mem_cons.mp hp with rfl | hp
    · exact .tail _ (.head _)
    rcases List.mem_cons.mp hp with rfl | hp
    · exact .tail _ (.tail _ (.head _))
    rcases List.mem_cons.mp hp with rfl | hp
    · exact .tail _ (.tail _ (.tail _ (.head _)))
    rcases List.mem_cons.mp hp with rfl | hp
    · exact .tail _ (.tail _ (.tail _ (.tail _ (.tail _ (.head _)))))
    rcases List.mem_cons.mp hp with rfl | hp
    · exact .head _
    rcases List.mem_cons.mp hp with rfl | hp
    · exact .tail _ (.tail _ (.tail _ (.tail _ (.head _))))
    · refine .tail _ (.tail _ (.tail _ (.tail _ (.tail _ (.tail _ ?_)))))
      rcases List.mem_append.mp hp with h | h
      · exact inV _ h
      · exact inN _ h
  · exact fun p hp => .tail _ (.tail _ (.tail _ (.tail _ (.tail _ (.tail _ (inO _ hp))))))
set_option maxHeartbeats 4000000 in
theorem laid_call {x dx l lt : Addr} {tk0 tq : Tok} {down : Bool} {q : Str} {vs tvs : List Value} {ts : List Nat} {k kt : Nat} {es : List ((Bool × Nat) × Str)} {S : List (Addr × Obj)} (hS : ∀ p ∈ S, p ∈ news) (B : Below A₀ base outer h₀) (F : Fr h₀ L s.heap m) (X : (Mine.hd.heap_39 w.params).In h₀)
    (N : News h₀ L s.heap ((l, W.listOf vs.toArray k) :: (x, instObj 171 dx) :: (dx, dictOf [{ hash := PyData.keyHash w.params "_headers", key := .str "_headers" tk0, val := .ref l }] 1) :: news)) (T : Top p loose mean mg mb h₀) (hk : cs.kind = .function)
    (hds : DatAll S vs (es.map hp)) (hes : ∀ e ∈ es, e.1.2 < 12) (hlt : (lt, W.listOf tvs.toArray kt) ∈ news) (hts : IntsAre tvs (ts.map fun (k : Nat) => (k : Int))) (hti : ∀ t ∈ ts, t < 12) (htn : ts.Nodup) (hte : ∀ t ∈ ts, stands es t = none)
    (hq : Tame q) (hvl : es.length + ts.length ≤ 900) (hxl : x < l) (hdl : dx < x) (hoff : OwnOff news [l]) (hd : dp + 7 < recursionLimit) (hu : un + 96 < cLine)
    (hret : ∀ r nx h' tk', Fr h₀ L h' m → News h₀ L h' nx → LJ w.params x dx l r tk0 news S es (ts.map (ent down q)) nx → l < r ∧ AllLt r news → Q (.ref r) { s with heap := h', toks := tk' }) :
    wpAny (model prog w) (ktrTop dp un gd cn cs L a ccd cl outer) (call (.ref 234) [.ref x, .ref lt, .bool down, .str q tq]) Q E s := by
  k_with "pyIter ref" => refine Held.of ?_
  refine wpAny_call ?_
  cell_enter
  k_steps
  rename_i l' _ hlt1 _ _ _
  rename Fr _ _ _ _ => F8
  rename News _ _ _ _ => N8
  have hxl' := ltN hxl
  have hdl' := ltN hdl
  have hnl : OwnOff news [l'] := off_one (allLt_iff hlt1.2.2.2)
  have N8' := cb_drop N8 (news := (l, W.listOf vs.toArray k) :: (x, instObj 171 dx) :: (dx, dictOf [{ hash := PyData.keyHash w.params "_headers", key := .str "_headers" tk0, val := .ref l }] 1) :: (l', W.listOf #[] 0) :: news) fun p hp => by
    rcases List.mem_cons.mp hp with rfl | hp
    · exact .tail _ (.head _)
    rcases List.mem_cons.mp hp with rfl | hp
    · exact .tail _ (.tail _ (.head _))
    rcases List.mem_cons.mp hp with rfl | hp
    · exact .tail _ (.tail _ (.tail _ (.head _)))
    rcases List.mem_cons.mp hp with rfl | hp
    · exact .head _
    · exact .tail _ (.tail _ (.tail _ (.tail _ hp)))
  clear N8
  refine Held.out (list_turns (fun j m' nx => LJ w.params x dx l l' tk0 news S es ((ts.take j).map (ent down q)) nx ∧ ∀ p ∈ [(Str.ofString "table", Value.ref x), (Str.ofString "taken", .ref lt), (Str.ofString "down", .bool down), (Str.ofString "numeral", .str q tq), (Str.ofString "laid", .ref l')], m' p.1 = some p.2) rfl (by exact .tail _ (.tail _ (.tail _ (.tail _ hlt)))) F8 N8' ?_ ?_ ?_)
  · refine ⟨⟨vs, k, [], 0, [], rfl, ?_, .nil, off_nil, off_nil⟩, List.forall_mem_cons.mpr ⟨rfl, List.forall_mem_cons.mpr ⟨rfl, List.forall_mem_cons.mpr ⟨rfl, List.forall_mem_cons.mpr ⟨rfl, List.forall_mem_cons.mpr ⟨rfl, List.forall_mem_nil _⟩⟩⟩⟩⟩⟩
    · show DatAll S vs ((es ++ []).map hp)
      rw [List.append_nil]; exact hds
  · rintro j v m₁ nx h tk own hv hoff2 hl2 ⟨⟨vs', k', rs, kr, V, rfl, hD1, hD2, hV, hV2⟩, hm⟩ F₁ N₁
    have F₂ := fr_known hm F₁
    clear F₁
    dsimp only [kstB] at F₂
    obtain ⟨hj, t, rfl⟩ := ints_at hts hv
    have hi : ts[j] < 12 := hti _ (List.getElem_mem hj)
    have hst : stands (es ++ (ts.take j).map (ent down q)) ts[j] = none := by
      rw [stands_append (hte _ (List.getElem_mem hj)), stands_none]
      intro e he
      obtain ⟨t', ht', rfl⟩ := List.mem_map.mp he
      intro heq
      obtain ⟨i', hi', rfl⟩ := List.getElem_of_mem ht'
      rw [List.length_take] at hi'
      rw [List.getElem_take] at heq
      exact List.pairwise_iff_getElem.mp htn i' j (by omega) hj (by omega) heq
    have htk : ts.take (j + 1) = ts.take j ++ [ts[j]] := List.take_succ_eq_append_getElem hj
    have hes' : ∀ e ∈ es ++ (ts.take j).map (ent down q), e.1.2 < 12 := by
      intro e he
      rcases List.mem_append.mp he with he | he
      · exact hes e he
      · obtain ⟨t', ht', rfl⟩ := List.mem_map.mp he
        exact hti _ (List.mem_of_mem_take ht')
    have hz : rs.toArray.size ≤ sizeLine := by
      have h1 := hD2.length
      rw [List.length_map, List.length_map, List.length_take] at h1
      rw [List.size_toArray, sizeLine_eq]; omega
    have hvl' : vs'.length ≤ 1000 := by
      have h1 := hD1.length
      rw [List.length_map, List.length_append, List.length_map, List.length_take] at h1
      omega
    generalize ts[j] = i at *
    obtain ⟨U, hW⟩ : ∃ U, U = V ++ (news ++ own) := ⟨_, rfl⟩
    have N₂ : News _ _ h ((l, W.listOf vs'.toArray k') :: (x, instObj 171 dx) :: (dx, dictOf [{ hash := PyData.keyHash w.params "_headers", key := .str "_headers" tk0, val := .ref l }] 1) :: (l', W.listOf rs.toArray kr) :: U) := cb_drop N₁ fun p hp => by
      rw [hW, ← List.append_assoc] at hp; exact hp
    clear N₁ F8 N8'
    have hdsW : DatAll ((l', W.listOf rs.toArray kr) :: U) vs' ((es ++ (ts.take j).map (ent down q)).map hp) := hD1.mono fun p hp => by
      rw [hW, ← List.append_assoc]
      exact .tail _ (List.mem_append.mpr (.inl (List.mem_append.mpr ((List.mem_append.mp hp).elim .inl fun h => .inr (hS p h)))))
    have hown : OwnOff own [l, l'] := fun p hp b hb => by
      simp only [List.mem_cons, List.not_mem_nil, or_false] at hb
      rcases hb with rfl | rfl
      · exact hoff2 p hp _ (.head _)
      · exact hoff2 p hp _ (.tail _ (.tail _ (.tail _ (.head _))))
    have hofW : OwnOff U [l, l'] := hW ▸ off_app hV (off_app (fun p hp b hb => by
      simp only [List.mem_cons, List.not_mem_nil, or_false] at hb
      rcases hb with rfl | rfl
      · exact hoff p hp _ (.head _)
      · exact hnl p hp _ (.head _)) hown)
    have hofW1 : OwnOff ((l', W.listOf rs.toArray kr) :: U) [l] := off_cons (fun b hb => by rw [List.mem_singleton.mp hb]; exact Nat.ne_of_gt hlt1.1) (off_sub hofW fun b hb => by rw [List.mem_singleton.mp hb]; exact .head _)
    have hSp : Splits U V news own := hW
    clear hW
    k_steps
    all_goals
      generalize hN1 : Txt.item (Str.ofString "abcdefghijkl") (i : Int) = n1 at *
      generalize hN2 : Txt.upper n1 = n2 at *
      rw [item_nm _ hi] at hN1
      subst hN1
      rw [upper_nm _ hi] at hN2
      subst hN2
    · rename News _ _ _ _ => N3
      have N4 := cb_drop N3 (fun p hp => .tail _ hp)
      clear N3
      k_steps
      all_goals first | (rename ((_ != _) = true) => hbad; exact absurd hbad (by simp)) | skip
      rename Fr _ _ _ _ => F9
      rename News _ _ _ _ => N9
      rename DatIn [_] _ _ => hD9
      rename (l < _ ∧ x < _ ∧ dx < _ ∧ l' < _ ∧ AllLt _ U) => l9
      rename (l < _ ∧ x < _ ∧ dx < _ ∧ _ < _ ∧ l' < _ ∧ AllLt _ U) => l1
      rename (down = _) => hdn
      rw [htk, List.map_append]
      rename Splits _ _ _ _ => hSp9
      refine LJ_step F9 N9 hSp9 (show DatIn _ _ (hp (ent down q i)) by rw [hdn]; exact hD9) ?_ l9 l1 hD1 hD2 hV hV2 hoff2 hlt ?_
      · rw [hdn]
        exact .tuple (List.mem_singleton.mpr rfl) (.cons (.str _ _) (.cons (.str _ _) .nil))
      · intro p hp
        simp only [List.mem_cons, List.not_mem_nil, or_false] at hp
        rcases hp with rfl | rfl | rfl | rfl | rfl <;> rfl
    · k_steps
      all_goals first | (rename ((_ != _) = true) => hbad; exact absurd hbad (by simp)) | skip
      rename Fr _ _ _ _ => F9
      rename News _ _ _ _ => N9
      rename DatIn [_] _ _ => hD9
      rename (l < _ ∧ x < _ ∧ dx < _ ∧ l' < _ ∧ AllLt _ U) => l9
      rename (l < _ ∧ x < _ ∧ dx < _ ∧ _ < _ ∧ l' < _ ∧ AllLt _ U) => l1
      rename (down = _) => hdn
      rw [htk, List.map_append]
      rename Splits _ _ _ _ => hSp9
      refine LJ_step F9 N9 hSp9 (show DatIn _ _ (hp (ent down q i)) by rw [hdn]; exact hD9) ?_ l9 l1 hD1 hD2 hV hV2 hoff2 hlt ?_
      · rw [hdn]
        exact .tuple (List.mem_singleton.mpr rfl) (.cons (.str _ _) (.cons (.str _ _) .nil))
      · intro p hp
        simp only [List.mem_cons, List.not_mem_nil, or_false] at hp
        rcases hp with rfl | rfl | rfl | rfl | rfl <;> rfl
  · rintro m₁ nx h tk ⟨hJ, hm⟩ F₁ N₁
    have F₂ := fr_known hm F₁
    clear F₁
    dsimp only [kstB] at F₂
    rw [(hts.length : _ = _), List.length_map, List.take_length] at hJ
    k_steps
    exact hret _ _ _ _ (by assumption) (by assumption) hJ ⟨hlt1.1, hlt1.2.2.2⟩
end
end Mine
end

section
theorem Mine.reset25 : True := by
  w_top off
  k_with_none
  trivial
open PySem PySem.W PyProof.Rows PySem.Calls PyProof.V PySem.Spec
set_option maxRecDepth 100000
namespace Mine
theorem ints_get : ∀ {ns : List Int} {vs : List Value} {j : Nat} {v : Value}, IntsAre vs ns → vs[j]? = some v → ∃ k, ns[j]? = some k ∧ ∃ t, v = .int k t
  | [], _, _, _, .nil, h => by cases h
  | k :: ns, _, 0, _, .cons _ _ _, h => by
    cases h
    exact ⟨k, rfl, _, rfl⟩
  | _ :: ns, _, j + 1, _, .cons _ _ r, h => by
    obtain ⟨k, h1, t, e⟩ := ints_get (ns := ns) r (by simpa using h)
    exact ⟨k, by simpa using h1, t, e⟩
theorem rel_ints' {f : Int → Int} : ∀ {ks : List Int} {ys : List Value}, RelAll (fun (k : Int) v => ∃ t, v = .int (f k) t) ks ys → IntsAre ys (ks.map f)
  | _, _, .nil => .nil
  | _, _, .cons h r => by
    obtain ⟨t, rfl⟩ := h
    exact .cons _ _ (rel_ints' r)
theorem take6 {vs : List Value} {ns : List Int} (h : IntsAre vs (List.take 6 ns)) : ∃ ms, ms = List.take 6 ns ∧ IntsAre vs ms ∧ ms.length ≤ 6 :=
  ⟨_, rfl, h, by rw [List.length_take]; omega⟩
theorem ints_drop : ∀ {ns : List Int} {vs : List Value} (c : Nat), IntsAre vs ns → IntsAre (vs.drop c) (ns.drop c)
  | _, _, 0, h => h
  | [], _, _ + 1, .nil => .nil
  | _ :: _, _, c + 1, .cons _ _ r => ints_drop c r
theorem pick_fill {vs : List Value} {ns : List Int} (hv : IntsAre vs ns) {c : Nat} (hc : c ≤ ns.length) : IntsAre (slicePick vs.toArray (some (c : Int)) none none).toList (ns.drop c) := by
  have hl := hv.length
  rw [kmk_pick_nat (a := c) (b := vs.length)]
  · have : ((vs.toArray.toList.drop c).take (vs.length - c)).toArray.toList = vs.drop c := by
      simp only [List.toList_toArray]
      exact List.take_of_length_le (by rw [List.length_drop]; omega)
    rw [this]
    exact ints_drop c hv
  · show (max 0 (min (if (c : Int) < 0 then (c : Int) + _ else (c : Int)) ((vs.toArray.size : Nat) : Int)), ((vs.toArray.size : Nat) : Int), (1 : Int)) = _
    rw [if_neg (by omega), List.size_toArray]
    have : max (0 : Int) (min (c : Int) (vs.length : Int)) = c := by omega
    rw [this]
end Mine
end

section
theorem Mine.reset26 : True := by
  w_top off
  k_with_none
  trivial
open PySem PySem.W PyProof.Rows PySem.Calls PyProof.V PySem.Spec PySem.Builtin.Str
set_option maxRecDepth 100000
namespace Mine
/-- the two signs of a number -/
def two (k : Int) : Str := Txt.item (Str.ofString "abac") (k.fmod 4) ++ Txt.item (Str.ofString "abac") ((k.fdiv 4).fmod 4)
theorem two_eq (k : Int) : Txt.item (Str.ofString "abac") (k.fmod 4) ++ Txt.item (Str.ofString "abac") ((k.fdiv 4).fmod 4) = two k := rfl
def abacOf (i : Int) : Nat := (#[97, 98, 97, 99] : Array Nat).getD i.toNat 97
theorem item_abac {i : Int} (h0 : 0 ≤ i) (h1 : i < 4) : Txt.item (Str.ofString "abac") i = str [abacOf i] := by
  obtain ⟨n, rfl⟩ := Int.eq_ofNat_of_zero_le h0
  have hn : n < 4 := by omega
  revert h0 h1
  have key : ∀ m : Fin 4, Txt.item (Str.ofString "abac") ((m.val : Nat) : Int) = str [abacOf ((m.val : Nat) : Int)] := by decide +kernel
  exact fun _ _ => key ⟨n, hn⟩
theorem abacOf_abc (i : Int) : 97 ≤ abacOf i ∧ abacOf i ≤ 99 := by
  unfold abacOf
  rw [Array.getD_eq_getD_getElem?]
  match i.toNat with
  | 0 | 1 | 2 | 3 => decide
  | n + 4 => simp
def twoL (k : Int) : List Nat := [abacOf (k.fmod 4), abacOf ((k.fdiv 4).fmod 4)]
theorem two_str (k : Int) : two k = str (twoL k) := by
  have b : ∀ j : Int, 0 ≤ j.fmod 4 ∧ j.fmod 4 < 4 := fun j => ⟨fmod_lo j (by decide), fmod_hi j (by decide)⟩
  unfold two twoL
  rw [item_abac (b k).1 (b k).2, item_abac (b _).1 (b _).2, str_append]
  rfl
theorem rel_strs {α : Type} {f : α → Str} : ∀ {ks : List α} {ys : List Value}, RelAll (fun (k : α) v => ∃ t, v = .str (f k) t) ks ys → StrsAre ys (ks.map f)
  | _, _, .nil => .nil
  | _, _, .cons h r => by
    obtain ⟨t, rfl⟩ := h
    exact .cons _ _ (rel_strs r)
theorem join_is (x : Str) (l : List Str) : Txt.join x l = PySem.Str.join x l := StrLaws.glued_eq_join _ _
theorem join_strs {α : Type} (f : α → List Nat) : ∀ ks : List α, PySem.Str.join (Str.ofString "") (ks.map fun k => str (f k)) = str (ks.flatMap f)
  | [] => rfl
  | [a] => by
    show str (f a) = str ([a].flatMap f)
    simp
  | a :: b :: r => by
    have ih := join_strs f (b :: r)
    have e : PySem.Str.join (Str.ofString "") ((a :: b :: r).map fun k => str (f k)) = str (f a) ++ Str.ofString "" ++ PySem.Str.join (Str.ofString "") ((b :: r).map fun k => str (f k)) := rfl
    rw [e, ih, show Str.ofString "" = str [] from rfl, str_append, str_append]
    simp
theorem text_of (ns : List Int) : Txt.join (Str.ofString "") (ns.map two) = str (ns.flatMap twoL) := by
  rw [join_is, ← join_strs twoL ns]
  congr 1
  exact List.map_congr_left fun k _ => two_str k
theorem text_abc (ns : List Int) : abc (ns.flatMap twoL) := by
  intro c hc
  obtain ⟨k, _, h⟩ := List.mem_flatMap.mp hc
  unfold twoL at h
  rcases List.mem_cons.mp h with rfl | h
  · exact abacOf_abc _
  · rcases List.mem_cons.mp h with rfl | h
    · exact abacOf_abc _
    · cases h
theorem text_len : ∀ ns : List Int, (ns.flatMap twoL).length = 2 * ns.length
  | [] => rfl
  | k :: r => by
    rw [List.flatMap_cons, List.length_append, text_len r]
    show 2 + _ = 2 * (r.length + 1)
    omega
theorem two_sum : ∀ ns : List Int, ((ns.map two).map (·.length)).sum = 2 * ns.length
  | [] => rfl
  | k :: r => by
    simp only [List.map_cons, List.sum_cons, List.length_cons]
    have := two_sum r
    simp only [List.map_map] at this
    rw [List.map_map, this, two_str k, str_length]
    show 2 + _ = _
    omega
/-- a comprehension over the signs of a text -/
theorem ListComp_S {prog : Program} {w : World} {A : Around} {E : Value → Shared → Prop} {s : Shared} {h₀ : Heap} {L : Addr} {m : Str → Option Value} {env : Env}
    {elt iter : Expr} {x : Str} {px : Pos} {scope : Scope} {cl : List (Str × Addr)} {pos : Pos} {Q : Value → Shared → Prop}
    (F₀ : Fr h₀ L s.heap m) (hclos : closureFor scope env = pure cl) (hcell : ∀ y ∈ scope.names, y.2 ≠ .cell) (hkind : scope.kind = .function)
    (hnames : ∀ y ∈ scope.names, y.2 = .local → scope.names.lookup y.1 = some .local) (hx : scope.names.lookup x = some .local) (hh : A.handled = none)
    (h : wpAny (model prog w) A (eval iter env) (fun xv s₁ => ∃ tx t news, xv = .str tx t ∧ Fr h₀ L s₁.heap m ∧ News h₀ L s₁.heap news ∧ tx.cps.all (· < 128) = true ∧ tx.cps.size ≤ sizeLine ∧
      ∀ g, LCg.CompRest prog w A h₀ L m env elt x scope cl { s₁ with heap := g } (fun _ => True) (SignAt tx) (LCg.FinE h₀ L m { s₁ with heap := g } Q) tx.cps.size 0 [] news) E s)
    (hs : ∀ x, foldedSetIterable iter env x = pure x := by intro _; rfl) :
    wpAny (model prog w) A (eval (.ListComp elt [⟨.Name x px, iter, [], 0⟩] scope pos) env) Q E s := by
  rw [eval_ListComp]
  refine wpAny_comprehension_free (use := none) rfl hs hclos hkind hnames (wpAny_mono h (fun xv s₁ h₁ => ?_) fun _ _ e => e)
  obtain ⟨tx, t, news, rfl, F, N, ha, hsz, R⟩ := h₁
  refine wpAny_pyIter_ascii ha ?_
  have hIn : s₁.heap.get? s₁.heap.objs.size = none := Heap.get?_none_of_le (Nat.le_refl _)
  refine LCg.block_U (Walks.strAscii hh s₁.heap.objs.size tx t) hsz (fun i h st => let ⟨o, e, _⟩ := st; ⟨o, e⟩) ?_ hcell hkind hx ⟨_, Heap.get?_push_size _ rfl, rfl, rfl⟩ ?_
    (F.keeps fun _ _ e => Heap.get?_push_of_some _ e) (N.grown fun _ _ e => Heap.get?_push_of_some _ e) (Nat.ne_of_lt F.ns.lt) (next_is_new F) (fun p hp => Nat.ne_of_lt (Heap.lt_size (N p hp).1)) trivial (R _) ?_
  · intro i h h' o nw st e e' _ _ _
    obtain ⟨o', q, r⟩ := st
    rw [e] at q
    cases q
    exact ⟨o, e', r⟩
  · intro b hb
    rw [List.mem_singleton.mp hb]
    show s₁.heap.objs.size < (s₁.heap.push _).objs.size
    rw [Heap.size_push]
    exact Nat.lt_succ_self _
  · intro D C h tk m' ys news' F' N' o1 hn hC₀ hD₀ hCL hDL hCD offC fin
    refine ⟨m', hn, fun h'' hs'' => fin D h'' tk (F'.change hs'' hCL hC₀) (fun p hp => ⟨hs''.extBut _ _ ?_ (N' p hp).1, (N' p hp).2⟩) o1⟩
    rcases List.mem_cons.mp hp with rfl | hp
    · exact Ne.symm hCD
    · exact offC p hp
theorem abc_ascii {wd : List Nat} (h : abc wd) : (str wd).cps.all (· < 128) = true := by
  rw [Array.all_eq_true_iff_forall_mem]
  intro c hc
  have := h c (by simpa [str] using hc)
  simp
  omega
theorem idx_abc {c : Nat} (h : 97 ≤ c ∧ c ≤ 99) : occurrences (Str.ofString "abc") (str [c]) 0 (Str.ofString "abc").length 1 = [c - 97] := by
  have : c = 97 ∨ c = 98 ∨ c = 99 := by omega
  rcases this with rfl | rfl | rfl <;> decide +kernel
theorem item_cba {c : Nat} (h : 97 ≤ c ∧ c ≤ 99) : Txt.item (Str.ofString "cba") ((c - 97 : Nat) : Int) = str [196 - c] := by
  have : c = 97 ∨ c = 98 ∨ c = 99 := by omega
  rcases this with rfl | rfl | rfl <;> decide +kernel
theorem news_swap {h₀ h : Heap} {L : Addr} {p : Addr × Obj} {a b : List (Addr × Obj)} (N : News h₀ L h (p :: (a ++ b))) : News h₀ L h (p :: (b ++ a)) := fun q hq => N q (by
  rcases List.mem_cons.mp hq with rfl | h
  · exact .head _
  · exact .tail _ (List.mem_append.mpr ((List.mem_append.mp h).elim .inr .inl)))
theorem fr_some {h₀ h : Heap} {L : Addr} {m : Str → Option Value} (F : Fr h₀ L h m) : ∃ m', Fr h₀ L h m' := ⟨m, F⟩
/-- a and c exchanged -/
def mirr (wd : List Nat) : List Nat := wd.map (196 - ·)
theorem mirr_join (wd : List Nat) : Txt.join (Str.ofString "") (wd.map fun c => str [196 - c]) = str (mirr wd) := by
  rw [join_is, join_strs (fun c => [196 - c]) wd]
  congr 1
  unfold mirr
  induction wd with
  | nil => rfl
  | cons a r ih => rw [List.flatMap_cons, ih]; rfl
theorem mirr_sum : ∀ wd : List Nat, ((wd.map fun c => str [196 - c]).map (·.length)).sum = wd.length
  | [] => rfl
  | k :: r => by
    have := mirr_sum r
    simp only [List.map_map] at this
    simp only [List.map_cons, List.sum_cons, List.length_cons, List.map_map]
    rw [this, str_length]
    show 1 + _ = _
    omega
end Mine
end

section
theorem Mine.reset27 : True := by
  w_top off
  k_with_none
  trivial
/-! the plain side: lists of signs as functions, and their order -/
namespace Mine
/-- the sign at place x -/
def sg (w : List Nat) (x : Nat) : Nat := w.getD x 0
/-- n signs of a function -/
def seg (f : Nat → Nat) (n : Nat) : List Nat := (List.range n).map f
theorem seg_zero (f : Nat → Nat) : seg f 0 = [] := rfl
theorem seg_succ (f : Nat → Nat) (n : Nat) : seg f (n + 1) = f 0 :: seg (fun x => f (x + 1)) n := by
  unfold seg
  rw [List.range_succ_eq_map, List.map_cons, List.map_map]
  rfl
theorem seg_length (f : Nat → Nat) (n : Nat) : (seg f n).length = n := by unfold seg; rw [List.length_map, List.length_range]
theorem seg_congr {f g : Nat → Nat} : ∀ {n : Nat}, (∀ x, x < n → f x = g x) → seg f n = seg g n := fun {n} h => by
  unfold seg
  exact List.map_congr_left fun x hx => h x (List.mem_range.mp hx)
theorem seg_inj {f g : Nat → Nat} {n : Nat} (h : seg f n = seg g n) : ∀ x, x < n → f x = g x := fun x hx => by
  have h1 := congrArg (fun l => l[x]?) h
  simp only [seg, List.getElem?_map, List.getElem?_range hx, Option.map_some] at h1
  exact Option.some.inj h1
theorem drop_seg {w : List Nat} {i : Nat} : w.drop i = seg (fun t => sg w (i + t)) (w.length - i) := by
  apply List.ext_getElem
  · rw [seg_length, List.length_drop]
  · intro x h1 h2
    rw [List.length_drop] at h1
    simp only [seg, List.getElem_drop, List.getElem_map, List.getElem_range, sg, List.getD_eq_getElem?_getD]
    rw [List.getElem?_eq_getElem (by omega)]
    rfl
theorem sub_seg {w : List Nat} {i p : Nat} (h : i + p ≤ w.length) : sub w i p = seg (fun t => sg w (i + t)) p := by
  unfold sub
  rw [drop_seg]
  apply List.ext_getElem
  · rw [List.length_take, seg_length, seg_length]; omega
  · intro x h1 h2
    simp [seg]
/-- f is before g: at the first place of p at which they differ -/
def Less (p : Nat) (f g : Nat → Nat) : Prop := ∃ j, j < p ∧ (∀ x, x < j → f x = g x) ∧ f j < g j
theorem Less.irrefl {p : Nat} {f : Nat → Nat} (h : Less p f f) : False := by
  obtain ⟨j, _, _, h⟩ := h
  omega
theorem Less.trans {p : Nat} {f g h : Nat → Nat} (a : Less p f g) (b : Less p g h) : Less p f h := by
  obtain ⟨j, hj, e1, l1⟩ := a
  obtain ⟨k, hk, e2, l2⟩ := b
  rcases Nat.lt_trichotomy j k with c | c | c
  · exact ⟨j, hj, fun x hx => (e1 x hx).trans (e2 x (by omega)), by rw [← e2 j c]; exact l1⟩
  · subst c
    exact ⟨j, hj, fun x hx => (e1 x hx).trans (e2 x hx), by omega⟩
  · exact ⟨k, hk, fun x hx => (e1 x (by omega)).trans (e2 x hx), by rw [e1 k c]; exact l2⟩
theorem less_or : ∀ (p : Nat) (f g : Nat → Nat), Less p f g ∨ (∀ x, x < p → f x = g x) ∨ Less p g f
  | 0, _, _ => .inr (.inl fun x hx => by omega)
  | p + 1, f, g => by
    rcases less_or p f g with ⟨j, hj, h⟩ | h | ⟨j, hj, h⟩
    · exact .inl ⟨j, by omega, h⟩
    · rcases Nat.lt_trichotomy (f p) (g p) with c | c | c
      · exact .inl ⟨p, by omega, h, c⟩
      · exact .inr (.inl fun x hx => by
          by_cases e : x = p
          · subst e; exact c
          · exact h x (by omega))
      · exact .inr (.inr ⟨p, by omega, fun x hx => (h x hx).symm, c⟩)
    · exact .inr (.inr ⟨j, by omega, h⟩)
theorem seg_lt : ∀ (a b : Nat) (f g : Nat → Nat), seg f a < seg g b ↔ (Less (min a b) f g ∨ (a < b ∧ ∀ x, x < a → f x = g x))
  | 0, 0, f, g => by
    rw [seg_zero, seg_zero]
    constructor
    · intro h; exact absurd h (List.lt_irrefl [])
    · rintro (⟨j, hj, _⟩ | ⟨h, _⟩) <;> omega
  | 0, b + 1, f, g => by
    rw [seg_zero, seg_succ]
    constructor
    · intro _; exact .inr ⟨by omega, fun x hx => by omega⟩
    · intro _; exact List.nil_lt_cons _ _
  | a + 1, 0, f, g => by
    rw [seg_zero, seg_succ]
    constructor
    · intro h; exact absurd h (List.not_lt_nil _)
    · rintro (⟨j, hj, _⟩ | ⟨h, _⟩) <;> omega
  | a + 1, b + 1, f, g => by
    rw [seg_succ, seg_succ, List.cons_lt_cons_iff, seg_lt a b]
    constructor
    · rintro (h | ⟨h0, ⟨j, hj, e, l⟩ | ⟨h1, e⟩⟩)
      · exact .inl ⟨0, by omega, fun x hx => by omega, h⟩
      · refine .inl ⟨j + 1, by omega, fun x hx => ?_, l⟩
        cases x with
        | zero => exact h0
        | succ x => exact e x (by omega)
      · refine .inr ⟨by omega, fun x hx => ?_⟩
        cases x with
        | zero => exact h0
        | succ x => exact e x (by omega)
    · rintro (⟨j, hj, e, l⟩ | ⟨h1, e⟩)
      · cases j with
        | zero => exact .inl l
        | succ j => exact .inr ⟨e 0 (by omega), .inl ⟨j, by omega, fun x hx => e (x + 1) (by omega), l⟩⟩
      · exact .inr ⟨e 0 (by omega), .inr ⟨by omega, fun x hx => e (x + 1) (by omega)⟩⟩
theorem seg_less {p : Nat} {f g : Nat → Nat} : seg f p < seg g p ↔ Less p f g := by
  rw [seg_lt, Nat.min_self]
  constructor
  · rintro (h | ⟨h, _⟩)
    · exact h
    · omega
  · exact .inl
end Mine
end

section
theorem Mine.reset28 : True := by
  w_top off
  k_with_none
  trivial
/-! the plain side: turns of a root, the least of them, and how many of them begin in a run -/
namespace Mine
section
variable {P : Nat → Nat} {p : Nat}
/-- the signs from y on -/
def sh (P : Nat → Nat) (y : Nat) : Nat → Nat := fun t => P (y + t)
/-- the root at y is before its other turns -/
def Lyn (P : Nat → Nat) (p y : Nat) : Prop := ∀ k, 1 ≤ k → k < p → Less p (sh P y) (sh P (y + k))
theorem per_mul (per : ∀ y, P (y + p) = P y) : ∀ (c y : Nat), P (y + c * p) = P y
  | 0, y => by rw [Nat.zero_mul, Nat.add_zero]
  | c + 1, y => by rw [Nat.succ_mul, ← Nat.add_assoc, per, per_mul per c]
theorem sh_per (per : ∀ y, P (y + p) = P y) (y : Nat) : sh P (y + p) = sh P y := by
  funext t
  show P (y + p + t) = P (y + t)
  rw [show y + p + t = y + t + p by omega, per]
theorem lyn_first (per : ∀ y, P (y + p) = P y) {y d : Nat} (L : Lyn P p y) (h1 : 1 ≤ d) (h2 : d < p) : ∃ j, j < p - d ∧ (∀ x, x < j → P (y + x) = P (y + d + x)) ∧ P (y + j) < P (y + d + j) := by
  obtain ⟨j, hj, e, l⟩ := L d h1 h2
  by_cases c : j < p - d
  · exact ⟨j, c, e, l⟩
  obtain ⟨k, hk, e', l'⟩ := L (p - d) (by omega) (by omega)
  exfalso
  have wrap : ∀ x, P (y + d + (p - d + x)) = P (y + x) := fun x => by
    rw [show y + d + (p - d + x) = y + x + p by omega, per]
  have e2 : ∀ x, x < j - (p - d) → P (y + (p - d) + x) = P (y + x) := fun x hx => by
    have h3 : P (y + (p - d + x)) = P (y + d + (p - d + x)) := e (p - d + x) (by omega)
    rw [wrap] at h3
    rw [← h3, Nat.add_assoc]
  have l2 : P (y + (p - d) + (j - (p - d))) < P (y + (j - (p - d))) := by
    have h3 : P (y + j) < P (y + d + j) := l
    have h4 := wrap (j - (p - d))
    rw [show p - d + (j - (p - d)) = j by omega] at h4
    rw [h4] at h3
    rw [show y + (p - d) + (j - (p - d)) = y + j by omega]
    exact h3
  have l3 : P (y + k) < P (y + (p - d) + k) := l'
  have e3 : ∀ x, x < k → P (y + x) = P (y + (p - d) + x) := e'
  rcases Nat.lt_trichotomy k (j - (p - d)) with h | h | h
  · have := e2 k h; omega
  · rw [h] at l3; omega
  · have := e3 _ h; omega
theorem lyn_one (per : ∀ y, P (y + p) = P y) {y z : Nat} (L : Lyn P p y) (L' : Lyn P p z) (h1 : y < z) (h2 : z < y + p) : False := by
  have a := L (z - y) (by omega) (by omega)
  have b := L' (y + p - z) (by omega) (by omega)
  rw [show y + (z - y) = z by omega] at a
  rw [show z + (y + p - z) = y + p by omega, sh_per per] at b
  exact (a.trans b).irrefl
theorem min_ex (a : Nat) : ∀ (m : Nat), ∃ y, a ≤ y ∧ y < a + (m + 1) ∧ ∀ z, a ≤ z → z < a + (m + 1) → ¬ Less p (sh P z) (sh P y)
  | 0 => ⟨a, Nat.le_refl _, by omega, fun z h1 h2 h => by
      have : z = a := by omega
      subst this
      exact h.irrefl⟩
  | m + 1 => by
    obtain ⟨y, h1, h2, h3⟩ := min_ex a m
    rcases Classical.em (Less p (sh P (a + (m + 1))) (sh P y)) with c | c
    · refine ⟨a + (m + 1), by omega, by omega, fun z h4 h5 h => ?_⟩
      by_cases e : z = a + (m + 1)
      · subst e; exact h.irrefl
      · exact h3 z h4 (by omega) (h.trans c)
    · refine ⟨y, h1, by omega, fun z h4 h5 h => ?_⟩
      by_cases e : z = a + (m + 1)
      · subst e; exact c h
      · exact h3 z h4 (by omega) h
theorem lyn_ex (hp : 1 ≤ p) (per : ∀ y, P (y + p) = P y) (prim : ∀ k, 1 ≤ k → k < p → ∃ t, P t ≠ P (t + k)) (a : Nat) : ∃ y, a ≤ y ∧ y < a + p ∧ Lyn P p y := by
  obtain ⟨y, h1, h2, h3⟩ := min_ex (P := P) (p := p) a (p - 1)
  rw [show p - 1 + 1 = p by omega] at h2 h3
  refine ⟨y, h1, h2, fun k hk1 hk2 => ?_⟩
  rcases less_or p (sh P y) (sh P (y + k)) with c | c | c
  · exact c
  · exfalso
    obtain ⟨t, ht⟩ := prim k hk1 hk2
    have all : ∀ s, P (y + s) = P (y + k + s) := fun s => by
      have h4 : P (y + s % p) = P (y + k + s % p) := c _ (Nat.mod_lt _ hp)
      have h5 := per_mul per (s / p) (y + s % p)
      have h6 := per_mul per (s / p) (y + k + s % p)
      have h7 : s / p * p + s % p = s := by rw [Nat.mul_comm]; exact Nat.div_add_mod s p
      rw [show y + s % p + s / p * p = y + s by omega] at h5
      rw [show y + k + s % p + s / p * p = y + k + s by omega] at h6
      rw [h5, h6, h4]
    have hy : y ≤ y * p := Nat.le_mul_of_pos_right y hp
    have h8 := all (t + (y * p - y))
    rw [show y + (t + (y * p - y)) = t + y * p by omega, show y + k + (t + (y * p - y)) = t + k + y * p by omega, per_mul per, per_mul per] at h8
    exact ht h8
  · exfalso
    by_cases e : y + k < a + p
    · exact h3 (y + k) (by omega) e c
    · refine h3 (y + k - p) (by omega) (by omega) ?_
      rw [← sh_per per (y + k - p), show y + k - p + p = y + k by omega]
      exact c
end
/-- the places of a window at which T holds -/
def win (T : Nat → Bool) (a m : Nat) : List Nat := ((List.range m).map (a + ·)).filter T
theorem win_add (T : Nat → Bool) (a m k : Nat) : win T a (m + k) = win T a m ++ win T (a + m) k := by
  unfold win
  rw [List.range_add, List.map_append, List.filter_append, List.map_map]
  congr 2
  apply List.map_congr_left
  intro x _
  show a + (m + x) = a + m + x
  omega
theorem mem_win {T : Nat → Bool} {a m x : Nat} : x ∈ win T a m ↔ (a ≤ x ∧ x < a + m) ∧ T x = true := by
  unfold win
  rw [List.mem_filter, List.mem_map]
  constructor
  · rintro ⟨⟨y, hy, rfl⟩, h⟩
    have := List.mem_range.mp hy
    exact ⟨⟨by omega, by omega⟩, h⟩
  · rintro ⟨⟨h1, h2⟩, h⟩
    exact ⟨⟨x - a, List.mem_range.mpr (by omega), by omega⟩, h⟩
theorem win_le (T : Nat → Bool) (a : Nat) : ∀ m, (∀ x y, a ≤ x → x < y → y < a + m → T x = true → T y = true → False) → (win T a m).length ≤ 1
  | 0, _ => by simp [win]
  | m + 1, h => by
    have ih := win_le T a m fun x y h1 h2 h3 => h x y h1 h2 (by omega)
    rw [win_add]
    cases ht : T (a + m) with
    | false =>
      have : win T (a + m) 1 = [] := by simp [win, ht]
      rw [this, List.append_nil]
      exact ih
    | true =>
      have h0 : win T a m = [] := by
        rw [List.eq_nil_iff_forall_not_mem]
        intro x hx
        obtain ⟨⟨h1, h2⟩, h3⟩ := mem_win.mp hx
        exact h x (a + m) h1 h2 (by omega) h3 ht
      rw [h0]
      simp [win, ht]
theorem win_count (T : Nat → Bool) {p : Nat} (hp : 1 ≤ p) : ∀ (m a : Nat), (∀ b, a ≤ b → b + p ≤ a + m → ∃ x, b ≤ x ∧ x < b + p ∧ T x = true) →
    (∀ x y, a ≤ x → x < y → y < a + m → y < x + p → T x = true → T y = true → False) → m < ((win T a m).length + 1) * p ∧ (win T a m).length * p < m + p := by
  intro m
  induction m using Nat.strongRecOn with
  | ind m ih =>
    intro a hex huq
    by_cases c : m < p
    · have h1 := win_le T a m fun x y h1 h2 h3 => huq x y h1 h2 h3 (by omega)
      have h2 : (win T a m).length ≤ m := by
        unfold win
        refine Nat.le_trans (List.length_filter_le _ _) ?_
        rw [List.length_map, List.length_range]
        exact Nat.le_refl _
      have h3 : (win T a m).length = 0 ∨ (win T a m).length = 1 := by omega
      rcases h3 with h3 | h3 <;> rw [h3] <;> omega
    · have h1 := ih (m - p) (by omega) a (fun b hb1 hb2 => hex b hb1 (by omega)) fun x y h1 h2 h3 => huq x y h1 h2 (by omega)
      have e : m = m - p + p := by omega
      have h2 : win T a m = win T a (m - p) ++ win T (a + (m - p)) p := by rw [← win_add, ← e]
      have h3 := win_le T (a + (m - p)) p fun x y h1 h2 h3 => huq x y (by omega) h2 (by omega) (by omega)
      have h4 : (win T (a + (m - p)) p).length = 1 := by
        obtain ⟨x, hx1, hx2, hx3⟩ := hex (a + (m - p)) (by omega) (by omega)
        have := List.length_pos_of_mem (mem_win.mpr ⟨⟨hx1, hx2⟩, hx3⟩)
        omega
      rw [h2, List.length_append, h4]
      have h5 := Nat.succ_mul (win T a (m - p)).length p
      have h6 := Nat.succ_mul ((win T a (m - p)).length + 1) p
      simp only [Nat.succ_eq_add_one] at h5 h6
      omega
theorem head_reach (q : Nat → Bool) : ∀ (m a r : Nat), a ≤ r → r ≤ a + m → (∀ x, a ≤ x → x < r → q x = false) → (r < a + m → q r = true) → ((List.range' a m).filter q ++ [a + m]).headD 0 = r
  | 0, a, r, h1, h2, _, _ => by
    have : r = a := by omega
    subst this
    rfl
  | m + 1, a, r, h1, h2, h3, h4 => by
    rw [List.range'_succ]
    by_cases c : a = r
    · subst c
      rw [List.filter_cons, if_pos (h4 (by omega))]
      rfl
    · rw [List.filter_cons, if_neg (by rw [h3 a (by omega) (by omega)]; decide)]
      have := head_reach q m (a + 1) r (by omega) (by omega) (fun x h5 h6 => h3 x (by omega) h6) (fun h5 => h4 (by omega))
      rw [show a + 1 + m = a + (m + 1) by omega] at this
      exact this
end Mine
end

section
theorem Mine.reset29 : True := by
  w_top off
  k_with_none
  trivial
/-! the plain side: one run of a text -/
namespace Mine
/-- a run of w: from f to e, with a root of p signs -/
structure RunOn (w : List Nat) (f e p : Nat) : Prop where
  p1 : 1 ≤ p
  room : f + 2 * p ≤ e
  le : e ≤ w.length
  per : ∀ x, f ≤ x → x + p < e → sg w x = sg w (x + p)
  prim : primB (sub w f p) = true
/-- the run's signs, told over for ever -/
def ever (w : List Nat) (f p : Nat) : Nat → Nat := fun y => sg w (f + y % p)
theorem ever_per (w : List Nat) (f p : Nat) : ∀ y, ever w f p (y + p) = ever w f p y := fun y => by
  unfold ever
  rw [Nat.add_mod_right]
section
variable {w : List Nat} {f e p : Nat}
theorem RunOn.at (R : RunOn w f e p) : ∀ y, f + y < e → sg w (f + y) = ever w f p y := by
  intro y
  induction y using Nat.strongRecOn with
  | ind y ih =>
    intro h
    have := R.p1
    by_cases c : y < p
    · unfold ever; rw [Nat.mod_eq_of_lt c]
    · have h1 := ih (y - p) (by omega) (by omega)
      have h2 := R.per (f + (y - p)) (by omega) (by omega)
      rw [show f + (y - p) + p = f + y by omega] at h2
      rw [← h2, h1, ← ever_per w f p (y - p)]
      congr 1
      omega
theorem RunOn.root (R : RunOn w f e p) {i : Nat} (h1 : f ≤ i) (h2 : i + p ≤ e) : sub w i p = seg (sh (ever w f p) (i - f)) p := by
  have := R.le
  rw [sub_seg (by omega)]
  refine seg_congr fun x hx => ?_
  show sg w (i + x) = ever w f p (i - f + x)
  rw [← R.at _ (by omega)]
  congr 1
  omega
theorem rot_seg {P : Nat → Nat} {p : Nat} (per : ∀ y, P (y + p) = P y) {y d : Nat} (hd : d ≤ p) : rot (seg (sh P y) p) d = seg (sh P (y + d)) p := by
  unfold rot
  apply List.ext_getElem
  · rw [List.length_append, List.length_drop, List.length_take, seg_length, seg_length]; omega
  · intro x h1 h2
    rw [seg_length] at h2
    have hl : ((seg (sh P y) p).drop d).length = p - d := by rw [List.length_drop, seg_length]
    rw [List.getElem_append]
    split
    · rename_i h3
      simp only [seg, List.getElem_drop, List.getElem_map, List.getElem_range, sh]
      congr 1
      omega
    · rename_i h3
      rw [hl] at h3
      simp only [seg, List.getElem_take, List.getElem_map, List.getElem_range, sh, List.length_drop, List.length_map, List.length_range]
      rw [← per]
      congr 1
      omega
theorem RunOn.primF (R : RunOn w f e p) : ∀ k, 1 ≤ k → k < p → ∃ t, ever w f p t ≠ ever w f p (t + k) := by
  intro k h1 h2
  have hr := R.room
  have hp := R.prim
  have hr0 := R.root (Nat.le_refl f) (by omega)
  rw [hr0, Nat.sub_self] at hp
  unfold primB at hp
  rw [seg_length, List.all_eq_true] at hp
  have h3 := hp (k - 1) (List.mem_range.mpr (by omega))
  rw [show k - 1 + 1 = k by omega, rot_seg (ever_per w f p) (by omega)] at h3
  apply Classical.byContradiction
  intro hn
  have h4 : seg (sh (ever w f p) (0 + k)) p = seg (sh (ever w f p) 0) p := by
    refine seg_congr fun x _ => ?_
    apply Classical.byContradiction
    intro hx
    refine hn ⟨x, fun h => hx ?_⟩
    show ever w f p (0 + k + x) = ever w f p (0 + x)
    rw [show 0 + k + x = x + k by omega, Nat.zero_add]
    exact h.symm
  rw [h4] at h3
  simp at h3
theorem prim_of {w : List Nat} {f j p : Nat} (hp : 1 ≤ p) (hfj : f ≤ j) (hl : j + p ≤ w.length) (per : ∀ x, f ≤ x → x < j → sg w x = sg w (x + p)) (h : primB (sub w f p) = true) : primB (sub w j p) = true := by
  have at' : ∀ y, f + y < j + p → sg w (f + y) = ever w f p y := by
    intro y
    induction y using Nat.strongRecOn with
    | ind y ih =>
      intro h
      by_cases c : y < p
      · unfold ever; rw [Nat.mod_eq_of_lt c]
      · have h1 := ih (y - p) (by omega) (by omega)
        have h2 := per (f + (y - p)) (by omega) (by omega)
        rw [show f + (y - p) + p = f + y by omega] at h2
        rw [← h2, h1, ← ever_per w f p (y - p)]
        congr 1
        omega
  have hroot : ∀ i, f ≤ i → i ≤ j → sub w i p = seg (sh (ever w f p) (i - f)) p := fun i h1 h2 => by
    rw [sub_seg (by omega)]
    refine seg_congr fun x hx => ?_
    show sg w (i + x) = ever w f p (i - f + x)
    rw [← at' _ (by omega)]
    congr 1
    omega
  rw [hroot f (Nat.le_refl f) hfj, Nat.sub_self] at h
  rw [hroot j hfj (Nat.le_refl j)]
  unfold primB at h ⊢
  rw [seg_length, List.all_eq_true] at h ⊢
  intro k hk
  have h3 := h k hk
  have hk' := List.mem_range.mp hk
  rw [rot_seg (ever_per w f p) (by omega)] at h3 ⊢
  have h4 : seg (sh (ever w f p) (0 + (k + 1))) p ≠ seg (sh (ever w f p) 0) p := by simpa using h3
  have h5 : seg (sh (ever w f p) (j - f + (k + 1))) p ≠ seg (sh (ever w f p) (j - f)) p := by
    intro hc
    apply h4
    have all : ∀ s, ever w f p (j - f + (k + 1) + s) = ever w f p (j - f + s) := fun s => by
      have h4 : ever w f p (j - f + (k + 1) + s % p) = ever w f p (j - f + s % p) := seg_inj hc _ (Nat.mod_lt _ hp)
      have h5 := per_mul (ever_per w f p) (s / p) (j - f + s % p)
      have h6 := per_mul (ever_per w f p) (s / p) (j - f + (k + 1) + s % p)
      have h7 : s / p * p + s % p = s := by rw [Nat.mul_comm]; exact Nat.div_add_mod s p
      rw [show j - f + s % p + s / p * p = j - f + s by omega] at h5
      rw [show j - f + (k + 1) + s % p + s / p * p = j - f + (k + 1) + s by omega] at h6
      rw [h5, h6, h4]
    refine seg_congr fun t _ => ?_
    have hy : j - f ≤ (j - f) * p := Nat.le_mul_of_pos_right _ hp
    have h8 := all (t + ((j - f) * p - (j - f)))
    rw [show j - f + (k + 1) + (t + ((j - f) * p - (j - f))) = t + (k + 1) + (j - f) * p by omega, show j - f + (t + ((j - f) * p - (j - f))) = t + (j - f) * p by omega, per_mul (ever_per w f p), per_mul (ever_per w f p)] at h8
    show ever w f p (0 + (k + 1) + t) = ever w f p (0 + t)
    rw [show 0 + (k + 1) + t = t + (k + 1) by omega, Nat.zero_add]
    exact h8
  simpa using h5
theorem RunOn.least (R : RunOn w f e p) {i : Nat} (h1 : f ≤ i) (h2 : i + p ≤ e) : leastB false (sub w i p) = true ↔ Lyn (ever w f p) p (i - f) := by
  rw [R.root h1 h2]
  unfold leastB
  rw [seg_length, List.all_eq_true]
  constructor
  · intro h k hk1 hk2
    have h3 := h (k - 1) (List.mem_range.mpr (by omega))
    rw [show k - 1 + 1 = k by omega, rot_seg (ever_per w f p) (by omega)] at h3
    exact seg_less.mp (by simpa [before] using h3)
  · intro h k hk
    have hk' := List.mem_range.mp hk
    rw [rot_seg (ever_per w f p) (by omega)]
    have := seg_less.mpr (h (k + 1) (by omega) (by omega))
    simpa [before] using this
theorem takenTo_win (w : List Nat) (p : Nat) (dn : Bool) (a i : Nat) : takenTo w p dn a i = win (fun x => leastB dn (sub w x p)) a i := rfl
theorem RunOn.count (R : RunOn w f e p) : e - p - f < ((takenTo w p false (f + 1) (e - p - f)).length + 1) * p ∧ (takenTo w p false (f + 1) (e - p - f)).length * p < e - p - f + p := by
  rw [takenTo_win]
  have hr := R.room
  refine win_count _ R.p1 _ _ ?_ ?_
  · intro b hb1 hb2
    obtain ⟨y, h1, h2, h3⟩ := lyn_ex R.p1 (ever_per w f p) R.primF (b - f)
    refine ⟨f + y, by omega, by omega, ?_⟩
    have := (R.least (i := f + y) (by omega) (by omega)).mpr (by rw [show f + y - f = y by omega]; exact h3)
    exact this
  · intro x y h1 h2 h3 h4 hx hy
    have a := (R.least (by omega) (by omega)).mp hx
    have b := (R.least (by omega) (by omega)).mp hy
    exact lyn_one (ever_per w f p) a b (by omega) (by omega)
theorem RunOn.reach (R : RunOn w f e p) (hmax : e < w.length → sg w e < sg w (e - p)) {i : Nat} (h1 : f < i) (h2 : i + p ≤ e) (ht : leastB false (sub w i p) = true) : reachOf w i = i + p := by
  have L := (R.least (by omega) h2).mp ht
  have hp := R.p1
  have hl := R.le
  unfold reachOf laterOf
  have e1 : [w.length] = [i + 1 + (w.length - (i + 1))] := by congr 1; omega
  rw [e1]
  refine head_reach _ _ _ _ (by omega) (by omega) ?_ ?_
  · intro k hk1 hk2
    have hn : ¬ w.drop k < w.drop i := by
      rw [drop_seg, drop_seg, seg_lt]
      obtain ⟨j, hj, ej, lj⟩ := lyn_first (ever_per w f p) L (d := k - i) (by omega) (by omega)
      have at1 : ∀ x, x ≤ j → sg w (i + x) = ever w f p (i - f + x) := fun x hx => by
        rw [← R.at _ (by omega)]; congr 1; omega
      have at2 : ∀ x, x ≤ j → sg w (k + x) = ever w f p (i - f + (k - i) + x) := fun x hx => by
        rw [← R.at _ (by omega)]; congr 1; omega
      rintro (⟨c, hc, ec, lc⟩ | ⟨h, _⟩)
      · rcases Nat.lt_trichotomy c j with q | q | q
        · have := ej c q
          rw [← at1 c (by omega), ← at2 c (by omega)] at this
          have lc' : sg w (k + c) < sg w (i + c) := lc
          omega
        · subst q
          rw [← at1 c (by omega), ← at2 c (by omega)] at lj
          have lc' : sg w (k + c) < sg w (i + c) := lc
          omega
        · have : sg w (k + j) = sg w (i + j) := ec j q
          rw [← at1 j (by omega), ← at2 j (by omega)] at lj
          omega
      · rename_i hall
        have : sg w (k + j) = sg w (i + j) := hall j (by omega)
        rw [← at1 j (by omega), ← at2 j (by omega)] at lj
        omega
    simpa using hn
  · intro hr
    have hn : w.drop (i + p) < w.drop i := by
      rw [drop_seg, drop_seg, seg_lt]
      have same : ∀ x, i + x + p < e → sg w (i + p + x) = sg w (i + x) := fun x hx => by
        rw [R.per (i + x) (by omega) hx]; congr 1; omega
      by_cases c : e < w.length
      · refine .inl ⟨e - p - i, by omega, fun x hx => same x (by omega), ?_⟩
        show sg w (i + p + (e - p - i)) < sg w (i + (e - p - i))
        rw [show i + p + (e - p - i) = e by omega, show i + (e - p - i) = e - p by omega]
        exact hmax c
      · exact .inr ⟨by omega, fun x hx => same x (by omega)⟩
    simpa using hn
end
end Mine
end

section
theorem Mine.reset30 : True := by
  w_top off
  k_with_none
  trivial
/-! the plain side: the squares -/
namespace Mine
theorem mem_toldIn {w : List Nat} {p j : Nat} {x : Nat × Nat} : x ∈ toldIn w p j ↔ x.1 = p ∧ x.2 < j ∧ sqB w p x.2 = true := by
  unfold toldIn
  rw [List.mem_map]
  constructor
  · rintro ⟨i, hi, rfl⟩
    have := List.mem_filter.mp hi
    exact ⟨rfl, List.mem_range.mp this.1, this.2⟩
  · rintro ⟨h1, h2, h3⟩
    exact ⟨x.2, List.mem_filter.mpr ⟨List.mem_range.mpr h2, h3⟩, by rw [← h1]⟩
theorem mem_squares {w : List Nat} {x : Nat × Nat} (h : x ∈ squares w) : 1 ≤ x.1 ∧ x.2 + 2 * x.1 ≤ 12 ∧ sqB w x.1 x.2 = true := by
  unfold squares toldOut at h
  obtain ⟨k, hk, hx⟩ := List.mem_flatMap.mp h
  have hk' := List.mem_range.mp hk
  obtain ⟨h1, h2, h3⟩ := mem_toldIn.mp hx
  rw [← h1] at h3
  exact ⟨by omega, by omega, h3⟩
theorem squares_room {w : List Nat} : ∀ x ∈ squares w, 1 ≤ x.1 ∧ x.2 + 2 * x.1 ≤ 12 := fun _ h => ⟨(mem_squares h).1, (mem_squares h).2.1⟩
theorem squares_len (w : List Nat) : (squares w).length ≤ 66 := toldOut_len w 6
end Mine
end

section
theorem Mine.reset31 : True := by
  w_top off
  k_with_none
  trivial
open PySem PySem.W PyProof.Rows PySem.Calls PyProof.V PySem.Spec PySem.Builtin.Str
set_option maxRecDepth 100000
namespace Mine
/-- does the run go down -/
def dnOf (wd : List Nat) (r : Nat × Nat × Nat) : Bool := decide (r.2.1 < 12) && !decide (sg wd r.2.1 < sg wd (r.2.1 - r.2.2))
/-- the places that the run takes -/
def tkOf (wd : List Nat) (r : Nat × Nat × Nat) : List Nat := takenTo wd r.2.2 (dnOf wd r) (r.1 + 1) (r.2.1 - r.2.2 - r.1)
def numS (k : Nat) : Str := Str.ofString (toString (k : Int))
def rowOf (wd : List Nat) (R : List (Nat × Nat × Nat)) (i : Nat) : List ((Bool × Nat) × Str) := (tkOf wd (R.getD i (0, 0, 0))).map (ent (dnOf wd (R.getD i (0, 0, 0))) (numS i))
def esOf (wd : List Nat) (R : List (Nat × Nat × Nat)) (j : Nat) : List ((Bool × Nat) × Str) := (List.range j).flatMap (rowOf wd R)
theorem esOf_succ (wd : List Nat) (R : List (Nat × Nat × Nat)) (j : Nat) : esOf wd R (j + 1) = esOf wd R j ++ rowOf wd R j := by
  unfold esOf
  rw [List.range_succ, List.flatMap_append]
  simp
/-- what the turns of the law's loop keep -/
def LL (params : Params) (wd : List Nat) (R : List (Nat × Nat × Nat)) (tb dx lq du c4 c3 c2 c1 : Addr) (o2 o1 : Obj) (tk0 : Tok) (keep : List (Addr × Obj)) (j : Nat) (m' : Str → Option Value) (nx : List (Addr × Obj)) : Prop :=
  ∃ (vs : List Value) (k : Nat) (dvs : List Value) (kd : Nat) (o4 o3 : Obj) (x4 x3 : Option Value) (V : List (Addr × Obj)),
    nx = (lq, W.listOf vs.toArray k) :: (tb, instObj 171 dx) :: (dx, dictOf [{ hash := PyData.keyHash params "_headers", key := .str "_headers" tk0, val := .ref lq }] 1) :: (du, W.listOf dvs.toArray kd) :: (c4, o4) :: (c3, o3) :: (c2, o2) :: (c1, o1) :: V ∧
    o4.data = .cell x4 ∧ o3.data = .cell x3 ∧ DatAll V vs ((esOf wd R j).map hp) ∧ DatAll V dvs ((List.range j).map fun i => Dat.list ((rowOf wd R i).map hp)) ∧ OwnOff V [lq, tb, dx, du, c4, c3, c2, c1] ∧ (∀ p ∈ keep, p ∈ V) ∧
    ∀ p ∈ [(Str.ofString "table", Value.ref tb), (Str.ofString "due", .ref du)], m' p.1 = some p.2
theorem allLt_off {V : List (Addr × Obj)} {l : List Addr} (h : ∀ b ∈ l, AllLt b V) : OwnOff V l := fun p hp b hb => Nat.ne_of_lt (allLt_iff (h b hb) p hp)
theorem pick_loop {α : Type} {l3 D du lq tb dx l1 c4 c3 c2 c1 : α} {tl3 tl1 : List α} : ∀ p ∈ lq :: tb :: dx :: du :: c4 :: c3 :: c2 :: c1 :: l3 :: tl3, p ∈ l3 :: (tl3 ++ D :: du :: lq :: tb :: dx :: l1 :: c4 :: c3 :: c2 :: c1 :: tl1) := by
  intro p hp
  simp only [List.mem_cons, List.mem_append] at hp ⊢
  rcases hp with h | h | h | h | h | h | h | h | h | h <;> simp [h]
theorem pick_addr {α : Type} {D du lq tb dx l1 c4 c3 c2 c1 : α} {tl1 : List α} : ∀ p ∈ [lq, tb, dx, du, c4, c3, c2, c1], p ∈ D :: du :: lq :: tb :: dx :: l1 :: c4 :: c3 :: c2 :: c1 :: tl1 := by
  intro p hp
  simp only [List.mem_cons, List.not_mem_nil, or_false] at hp ⊢
  rcases hp with h | h | h | h | h | h | h | h <;> simp [h]
theorem off_head {l3 : Addr} {o : Obj} {tl3 rest : List (Addr × Obj)} {l : List Addr} (h : OwnOff tl3 (l3 :: rest.map (·.1))) (n : ∀ b ∈ rest.map (·.1), l3 ≠ b) (s : ∀ b ∈ l, b ∈ rest.map (·.1)) : OwnOff ((l3, o) :: tl3) l :=
  off_cons (fun b hb => n b (s b hb)) (off_sub h fun b hb => .tail _ (s b hb))
theorem loop_objs {h₀ h : Heap} {L du c2 c1 : Addr} {od o2 o1 : Obj} {a b c d4 d3 : Addr × Obj} {V : List (Addr × Obj)} (_ : News h₀ L h (a :: b :: c :: (du, od) :: d4 :: d3 :: (c2, o2) :: (c1, o1) :: V)) : ∃ du' o2' o1', du' = du ∧ o2' = o2 ∧ o1' = o1 := ⟨_, _, _, rfl, rfl, rfl⟩
theorem item_txt {wd : List Nat} {x : Nat} (h : x < wd.length) : Txt.item (str wd) (x : Int) = str [sg wd x] := by
  rw [item_meets ⟨Int.natCast_nonneg _, by rw [str_length]; omega⟩]
  show (⟨#[(str wd).cps.getD (x : Int).toNat 0]⟩ : Str) = str [sg wd x]
  unfold sg str
  rw [Int.toNat_natCast]
  simp only [Array.getD_eq_getD_getElem?, List.getElem?_toArray, List.getD_eq_getElem?_getD]
theorem wpAny_via {M : Model} {A : Around} {α : Type} {x : Sem α} {P Q : α → Shared → Prop} {E : Value → Shared → Prop} {s : Shared} (h : wpAny M A x P E s) (k : ∀ v s', P v s' → Q v s') : wpAny M A x Q E s := wpAny_mono h k fun _ _ e => e
theorem pick_turn {α : Type} {a lq tb dx du c4 c3 c2 c1 : α} {V own U : List α} (hW : U = V ++ own) (ha : a ∈ V) : ∀ p ∈ a :: lq :: tb :: dx :: du :: c4 :: c3 :: c2 :: c1 :: U, p ∈ (lq :: tb :: dx :: du :: c4 :: c3 :: c2 :: c1 :: V) ++ own := by
  subst hW
  intro p hp
  rcases List.mem_cons.mp hp with rfl | hp
  · refine List.mem_append_left _ ?_
    exact .tail _ (.tail _ (.tail _ (.tail _ (.tail _ (.tail _ (.tail _ (.tail _ ha)))))))
  · exact hp
def Via (V : Value) (s : Shared) (h₀ : Heap) (L : Addr) (m : Str → Option Value) (news : List (Addr × Obj)) (v : Value) (s' : Shared) : Prop :=
  ∃ h' tk', v = V ∧ s' = { s with heap := h', toks := tk' } ∧ Fr h₀ L h' m ∧ News h₀ L h' news
theorem via_val {M : Model} {A : Around} {x : Sem Value} {Q E : Value → Shared → Prop} {s : Shared} {h₀ : Heap} {L : Addr} {m : Str → Option Value} {news : List (Addr × Obj)} (V : Value) (_ : Fr h₀ L s.heap m) (_ : News h₀ L s.heap news)
    (h : wpAny M A x (Via V s h₀ L m news) E s) (k : ∀ h' tk', Fr h₀ L h' m → News h₀ L h' news → Q V { s with heap := h', toks := tk' }) : wpAny M A x Q E s :=
  wpAny_mono h (fun _ _ ⟨h', tk', e1, e2, F', N'⟩ => by subst e1; subst e2; exact k h' tk' F' N') fun _ _ e => e
theorem Via.at {V v : Value} {s : Shared} {h₀ h' : Heap} {L : Addr} {m : Str → Option Value} {news : List (Addr × Obj)} {tk' : Nat} (F : Fr h₀ L h' m) (N : News h₀ L h' news) (e : v = V) : Via V s h₀ L m news v { s with heap := h', toks := tk' } := ⟨h', tk', e, rfl, F, N⟩
/-- what the addresses of the loop's ledger are to one another -/
def Ranks (c1 c2 c3 c4 dx tb lq du : Nat) : Prop := c1 < c2 ∧ c2 < c3 ∧ c3 < c4 ∧ c4 < dx ∧ dx < tb ∧ tb < lq ∧ lq < du
end Mine
end

section
theorem Mine.reset32 : True := by
  w_top off
  k_with_none
  trivial
/-! the plain side: all the runs of a text -/
namespace Mine
theorem sq_iff {w : List Nat} {p i : Nat} (h : i + 2 * p ≤ w.length) : sqB w p i = true ↔ ∀ x, i ≤ x → x < i + p → sg w x = sg w (x + p) := by
  unfold sqB
  rw [sub_seg (by omega), sub_seg (by omega), beq_iff_eq]
  constructor
  · intro h x h1 h2
    have h3 : sg w (i + (x - i)) = sg w (i + p + (x - i)) := seg_inj h (x - i) (by omega)
    rw [show i + (x - i) = x by omega, show i + p + (x - i) = x + p by omega] at h3
    exact h3
  · intro h
    refine seg_congr fun x hx => ?_
    have h3 := h (i + x) (by omega) (by omega)
    rw [show i + x + p = i + p + x by omega] at h3
    exact h3
/-- is the run shut: nothing more goes on with it -/
def Shut (w : List Nat) (r : Nat × Nat × Nat) : Prop := r.2.1 < 12 → sg w r.2.1 ≠ sg w (r.2.1 - r.2.2)
/-- two runs of one size lie apart -/
def Apart (r s : Nat × Nat × Nat) : Prop := r.2.2 = s.2.2 → r.2.1 ≤ s.1 + s.2.2
/-- the runs found, when the sizes below p are done, and of size p the places below j -/
structure Inv (w : List Nat) (p j : Nat) (R : List (Nat × Nat × Nat)) : Prop where
  on : ∀ r ∈ R, RunOn w r.1 r.2.1 r.2.2
  size : ∀ r ∈ R, r.2.2 ≤ p
  room : ∀ r ∈ R, r.2.2 = p → r.2.1 + 1 ≤ j + 2 * p
  init : ∀ r ∈ R.dropLast, Shut w r
  last : ∀ r, R.getLast? = some r → Shut w r ∨ (r.2.2 = p ∧ r.2.1 + 1 = j + 2 * p)
  apart : R.Pairwise Apart
theorem inv_all {w : List Nat} {R : List (Nat × Nat × Nat)} (h : ∀ r ∈ R.dropLast, Shut w r) (k : ∀ r, R.getLast? = some r → Shut w r) : ∀ r ∈ R, Shut w r := by
  intro r hr
  rcases List.eq_nil_or_concat R with e | ⟨S, a, e⟩
  · rw [e] at hr; cases hr
  · rw [List.concat_eq_append] at e
    subst e
    rcases List.mem_append.mp hr with h1 | h1
    · exact h r (by rw [List.dropLast_concat]; exact h1)
    · have := List.mem_singleton.mp h1
      subst this
      exact k _ (by simp)
theorem Inv.all_shut {w : List Nat} {p j : Nat} {R : List (Nat × Nat × Nat)} (I : Inv w p j R) (h : ∀ r, R.getLast? = some r → ¬ (r.2.2 = p ∧ r.2.1 + 1 = j + 2 * p)) : ∀ r ∈ R, Shut w r :=
  inv_all I.init fun r hr => (I.last r hr).resolve_right (h r hr)
theorem Inv.skip {w : List Nat} {p j : Nat} {R : List (Nat × Nat × Nat)} (I : Inv w p j R) (h : ∀ r ∈ R, Shut w r) : Inv w p (j + 1) R where
  on := I.on
  size := I.size
  room := fun r hr e => by have := I.room r hr e; omega
  init := fun r hr => h r (List.dropLast_subset R hr)
  last := fun r hr => .inl (h r (List.mem_of_getLast? hr))
  apart := I.apart
theorem Inv.no {w : List Nat} (hw : w.length = 12) {p j : Nat} {R : List (Nat × Nat × Nat)} (I : Inv w p j R) (hp : 1 ≤ p) (hj : j + 2 * p ≤ 12) (hs : sqB w p j = false) : Inv w p (j + 1) R := by
  refine I.skip (inv_all I.init fun r hr => ?_)
  rcases I.last r hr with h | ⟨h1, h2⟩
  · exact h
  · intro _ heq
    have hm := List.mem_of_getLast? hr
    have O := I.on r hm
    have hroom := O.room
    have : sqB w p j = true := (sq_iff (by omega)).mpr fun x hx1 hx2 => by
      by_cases c : x + p < r.2.1
      · have := O.per x (by omega) (by omega)
        rw [h1] at this
        exact this
      · have e1 : x = r.2.1 - r.2.2 := by omega
        have e2 : x + p = r.2.1 := by omega
        rw [e1] at e2 ⊢
        rw [e2]
        exact heq.symm
    rw [this] at hs
    cases hs
theorem Inv.yes {w : List Nat} (hw : w.length = 12) {p j : Nat} {R : List (Nat × Nat × Nat)} (I : Inv w p j R) (hp : 1 ≤ p) (hj : j + 2 * p ≤ 12) (hs : sqB w p j = true) : Inv w p (j + 1) (runStep w R (p, j)) := by
  have hsq := (sq_iff (by omega)).mp hs
  have sub12 : ∀ x, x + p ≤ 12 → (sub w x p).length = p := fun x hx => sub_length (by omega)
  cases hpr : primB (sub w j p) with
  | false =>
    rw [runStep_skip hpr]
    refine I.skip (I.all_shut fun r hr => ?_)
    rintro ⟨h1, h2⟩
    have hm := List.mem_of_getLast? hr
    have O := I.on r hm
    have hroom := O.room
    have hpm := O.prim
    rw [h1] at hpm
    have := prim_of (j := j) hp (by omega) (by omega) (fun x hx1 hx2 => by
      have := O.per x (by omega) (by omega)
      rw [h1] at this
      exact this) hpm
    rw [this] at hpr
    cases hpr
  | true =>
    have new : RunOn w j (j + 2 * p) p := ⟨hp, by omega, by omega, fun x h1 h2 => hsq x h1 (by omega), hpr⟩
    have mk : (∀ r ∈ R, Shut w r) → Inv w p (j + 1) (R ++ [(j, j + 2 * p, p)]) := fun hsh =>
      { on := fun r hr => by
          rcases List.mem_append.mp hr with h | h
          · exact I.on r h
          · rw [List.mem_singleton.mp h]; exact new
        size := fun r hr => by
          rcases List.mem_append.mp hr with h | h
          · exact I.size r h
          · rw [List.mem_singleton.mp h]; exact Nat.le_refl _
        room := fun r hr e => by
          rcases List.mem_append.mp hr with h | h
          · have := I.room r h e; omega
          · rw [List.mem_singleton.mp h]; show j + 2 * p + 1 ≤ _; omega
        init := fun r hr => by
          rw [List.dropLast_concat] at hr
          exact hsh r hr
        last := fun r hr => by
          rw [List.getLast?_append] at hr
          simp at hr
          subst hr
          refine .inr ⟨rfl, ?_⟩
          show j + 2 * p + 1 = _
          omega
        apart := by
          rw [List.pairwise_append]
          refine ⟨I.apart, List.pairwise_singleton _ _, fun r hr s hs' e => ?_⟩
          rw [List.mem_singleton.mp hs'] at e ⊢
          have e' : r.2.2 = p := e
          show r.2.1 ≤ j + p
          have h1 := I.room r hr e'
          apply Classical.byContradiction
          intro hlt
          by_cases c : r.2.1 < 12
          · have h2 := hsh r hr c
            rw [e'] at h2
            have h3 := hsq (r.2.1 - p) (by omega) (by omega)
            rw [show r.2.1 - p + p = r.2.1 by omega] at h3
            exact h2 h3.symm
          · omega }
    rcases List.eq_nil_or_concat R with e | ⟨S, a, e⟩
    · subst e
      rw [runStep_nil hpr]
      exact mk fun r hr => nomatch hr
    · rw [List.concat_eq_append] at e
      obtain ⟨f, e', q⟩ := a
      by_cases c : q = p ∧ e' + 1 = j + 2 * p
      · obtain ⟨h1, h2⟩ := c
        subst h1
        rw [e, runStep_ext hpr rfl h2]
        subst e
        have hm : (f, e', q) ∈ S ++ [(f, e', q)] := by simp
        have O : RunOn w f e' q := I.on _ hm
        have hroom := O.room
        exact
          { on := fun r hr => by
              rcases List.mem_append.mp hr with h | h
              · exact I.on r (List.mem_append_left _ h)
              · rw [List.mem_singleton.mp h]
                refine ⟨hp, by show f + 2 * q ≤ j + 2 * q; omega, by show j + 2 * q ≤ _; omega, fun x hx1 hx2 => ?_, O.prim⟩
                have hx2' : x + q < j + 2 * q := hx2
                have hx1' : f ≤ x := hx1
                by_cases c : x + q < e'
                · exact O.per x hx1' c
                · exact hsq x (by omega) (by omega)
            size := fun r hr => by
              rcases List.mem_append.mp hr with h | h
              · exact I.size r (List.mem_append_left _ h)
              · rw [List.mem_singleton.mp h]; exact Nat.le_refl _
            room := fun r hr e => by
              rcases List.mem_append.mp hr with h | h
              · have := I.room r (List.mem_append_left _ h) e; omega
              · rw [List.mem_singleton.mp h]; show j + 2 * q + 1 ≤ _; omega
            init := fun r hr => by
              rw [List.dropLast_concat] at hr
              exact I.init r (by rw [List.dropLast_concat]; exact hr)
            last := fun r hr => by
              rw [List.getLast?_append] at hr
              simp at hr
              subst hr
              refine .inr ⟨rfl, ?_⟩
              show j + 2 * q + 1 = _
              omega
            apart := by
              have h := I.apart
              rw [List.pairwise_append] at h ⊢
              refine ⟨h.1, List.pairwise_singleton _ _, fun r hr s hs' => ?_⟩
              have := h.2.2 r hr (f, e', q) (by simp)
              rw [List.mem_singleton.mp hs']
              exact this }
      · rw [e, runStep_new hpr c, ← e]
        refine mk (I.all_shut fun r hr => ?_)
        rw [e, List.getLast?_append] at hr
        simp at hr
        subst hr
        exact c
theorem fold_filter {w : List Nat} (hw : w.length = 12) {p : Nat} (hp : 1 ≤ p) : ∀ (m : Nat) (R : List (Nat × Nat × Nat)), m + 2 * p ≤ 13 → Inv w p 0 R → Inv w p m ((toldIn w p m).foldl (runStep w) R)
  | 0, R, _, I => by rw [toldIn_zero]; exact I
  | m + 1, R, h, I => by
    have ih := fold_filter hw hp m R (by omega) I
    rw [toldIn_succ, List.foldl_append]
    cases hs : sqB w p m with
    | false => exact ih.no hw hp (by omega) hs
    | true => exact ih.yes hw hp (by omega) hs
theorem Inv.next {w : List Nat} {p j : Nat} (hj : 12 < j + 2 * p) {R : List (Nat × Nat × Nat)} (I : Inv w p j R) (hw : w.length = 12) : Inv w (p + 1) 0 R := by
  have hsh : ∀ r ∈ R, Shut w r := inv_all I.init fun r hr => by
    rcases I.last r hr with h | ⟨h1, h2⟩
    · exact h
    · intro c; omega
  exact
    { on := I.on
      size := fun r hr => by have := I.size r hr; omega
      room := fun r hr e => by have := I.size r hr; omega
      init := fun r hr => hsh r (List.dropLast_subset R hr)
      last := fun r hr => .inl (hsh r (List.mem_of_getLast? hr))
      apart := I.apart }
theorem inv_out {w : List Nat} (hw : w.length = 12) : ∀ i, i ≤ 6 → Inv w (i + 1) 0 ((toldOut w i).foldl (runStep w) [])
  | 0, _ => ⟨fun _ h => (nomatch h), fun _ h => (nomatch h), fun _ h => (nomatch h), fun _ h => (nomatch h), fun _ h => (nomatch h), .nil⟩
  | i + 1, h => by
    have ih := inv_out hw i (by omega)
    rw [toldOut_succ, List.foldl_append]
    exact (fold_filter hw (by omega) (11 - 2 * i) _ (by omega) ih).next (by omega) hw
theorem inv_runs {w : List Nat} (hw : w.length = 12) : Inv w 7 0 (runsOf w (squares w)) := inv_out hw 6 (Nat.le_refl _)
theorem runs_shut {w : List Nat} (hw : w.length = 12) : ∀ r ∈ runsOf w (squares w), Shut w r := (inv_runs hw).all_shut fun r hr h => by
  have := (inv_runs hw).size r (List.mem_of_getLast? hr)
  have h2 := ((inv_runs hw).on r (List.mem_of_getLast? hr)).le
  have h3 := ((inv_runs hw).on r (List.mem_of_getLast? hr)).room
  omega
end Mine
end

section
theorem Mine.reset33 : True := by
  w_top off
  k_with_none
  trivial
/-! the plain side: what the law asks of the runs -/
namespace Mine
theorem sg_mirr {w : List Nat} {x : Nat} (h : x < w.length) : sg (mirr w) x = 196 - sg w x := by
  unfold sg mirr
  simp only [List.getD_eq_getElem?_getD, List.getElem?_map, List.getElem?_eq_getElem h, Option.map_some, Option.getD_some]
theorem sg_abc {w : List Nat} (h : abc w) {x : Nat} (hx : x < w.length) : 97 ≤ sg w x ∧ sg w x ≤ 99 := by
  unfold sg
  rw [List.getD_eq_getElem?_getD, List.getElem?_eq_getElem hx]
  exact h _ (List.getElem_mem hx)
theorem mirr_length (w : List Nat) : (mirr w).length = w.length := by unfold mirr; rw [List.length_map]
theorem sub_mirr (w : List Nat) (i p : Nat) : sub (mirr w) i p = mirr (sub w i p) := by
  unfold sub mirr
  rw [List.map_take, List.map_drop]
theorem rot_mirr (u : List Nat) (d : Nat) : rot (mirr u) d = mirr (rot u d) := by
  unfold rot mirr
  rw [List.map_append, List.map_drop, List.map_take]
theorem mirr_inj {u v : List Nat} (hu : abc u) (hv : abc v) (h : mirr u = mirr v) : u = v := by
  have key : ∀ {u : List Nat}, abc u → mirr (mirr u) = u := fun {u} hu => by
    unfold mirr
    rw [List.map_map]
    conv => rhs; rw [← List.map_id u]
    exact List.map_congr_left fun c hc => by
      have := hu c hc
      show 196 - (196 - c) = c
      omega
  rw [← key hu, ← key hv, h]
theorem mirr_lt : ∀ {u v : List Nat}, abc u → abc v → u.length = v.length → (mirr u < mirr v ↔ v < u)
  | [], [], _, _, _ => Iff.rfl
  | [], _ :: _, _, _, h => by simp at h
  | _ :: _, [], _, _, h => by simp at h
  | a :: u, b :: v, hu, hv, h => by
    have ih := mirr_lt (u := u) (v := v) (fun c hc => hu c (.tail _ hc)) (fun c hc => hv c (.tail _ hc)) (by simpa using h)
    have ha := hu a (.head _)
    have hb := hv b (.head _)
    show (196 - a) :: mirr u < (196 - b) :: mirr v ↔ _
    rw [List.cons_lt_cons_iff, List.cons_lt_cons_iff, ih]
    constructor
    · rintro (h | ⟨h1, h2⟩)
      · exact .inl (by omega)
      · exact .inr ⟨by omega, h2⟩
    · rintro (h | ⟨h1, h2⟩)
      · exact .inl (by omega)
      · exact .inr ⟨by omega, h2⟩
theorem abc_rot {u : List Nat} (h : abc u) (d : Nat) : abc (rot u d) := fun c hc => by
  unfold rot at hc
  exact (List.mem_append.mp hc).elim (fun h1 => h c (List.mem_of_mem_drop h1)) fun h1 => h c (List.mem_of_mem_take h1)
theorem rot_length' (u : List Nat) (d : Nat) : (rot u d).length = u.length := by
  unfold rot
  rw [List.length_append, List.length_drop, List.length_take]
  omega
theorem least_mirr {u : List Nat} (h : abc u) : leastB false (mirr u) = leastB true u := by
  unfold leastB
  rw [mirr_length]
  congr 1
  funext k
  rw [rot_mirr]
  unfold before
  simp only [Bool.false_eq_true, if_false, if_true]
  rw [decide_eq_decide]
  exact mirr_lt h (abc_rot h _) (rot_length' _ _).symm
theorem prim_mirr {u : List Nat} (h : abc u) : primB (mirr u) = primB u := by
  unfold primB
  rw [mirr_length]
  congr 1
  funext k
  rw [rot_mirr]
  by_cases c : rot u (k + 1) = u
  · rw [c]; simp
  · have : mirr (rot u (k + 1)) ≠ mirr u := fun hc => c (mirr_inj (abc_rot h _) h hc)
    rw [bne_iff_ne.mpr this, bne_iff_ne.mpr c]
/-- the text as the run's order sees it -/
def seen (dn : Bool) (w : List Nat) : List Nat := if dn then mirr w else w
theorem seen_length (dn : Bool) (w : List Nat) : (seen dn w).length = w.length := by cases dn <;> simp [seen, mirr_length]
theorem least_seen {w : List Nat} (ha : abc w) (dn : Bool) (i p : Nat) : leastB dn (sub w i p) = leastB false (sub (seen dn w) i p) := by
  cases dn with
  | false => rfl
  | true =>
    show _ = leastB false (sub (mirr w) i p)
    rw [sub_mirr, least_mirr (ha.sub i p)]
theorem taken_seen {w : List Nat} (ha : abc w) (dn : Bool) (p a i : Nat) : takenTo w p dn a i = takenTo (seen dn w) p false a i := by
  unfold takenTo
  congr 1
  funext x
  exact least_seen ha dn x p
theorem RunOn.seen {w : List Nat} (ha : abc w) {f e p : Nat} (R : RunOn w f e p) (dn : Bool) : RunOn (seen dn w) f e p := by
  cases dn with
  | false => exact R
  | true =>
    have hl := R.le
    refine ⟨R.p1, R.room, by show e ≤ (mirr w).length; rw [mirr_length]; exact hl, fun x h1 h2 => ?_, ?_⟩
    · show sg (mirr w) x = sg (mirr w) (x + p)
      rw [sg_mirr (by omega), sg_mirr (by omega), R.per x h1 h2]
    · show primB (sub (mirr w) f p) = true
      rw [sub_mirr, prim_mirr (ha.sub f p)]
      exact R.prim
section
variable {w : List Nat} (hw : w.length = 12) (ha : abc w) {r : Nat × Nat × Nat} (hr : r ∈ runsOf w (squares w))
include hw ha hr
theorem run_on : RunOn w r.1 r.2.1 r.2.2 := (inv_runs hw).on r hr
theorem run_seen : RunOn (seen (dnOf w r) w) r.1 r.2.1 r.2.2 := (run_on hw ha hr).seen ha _
theorem run_falls (h : r.2.1 < (seen (dnOf w r) w).length) : sg (seen (dnOf w r) w) r.2.1 < sg (seen (dnOf w r) w) (r.2.1 - r.2.2) := by
  rw [seen_length, hw] at h
  have hs := runs_shut hw r hr h
  have O := run_on hw ha hr
  have h1 := O.p1
  have h2 := O.room
  cases hd : dnOf w r with
  | false =>
    show sg w _ < sg w _
    unfold dnOf at hd
    rw [decide_eq_true h] at hd
    simpa using hd
  | true =>
    show sg (mirr w) _ < sg (mirr w) _
    rw [sg_mirr (by omega), sg_mirr (by omega)]
    have b1 := sg_abc ha (x := r.2.1) (by omega)
    have b2 := sg_abc ha (x := r.2.1 - r.2.2) (by omega)
    unfold dnOf at hd
    rw [decide_eq_true h] at hd
    have : ¬ sg w r.2.1 < sg w (r.2.1 - r.2.2) := by simpa using hd
    omega
theorem tk_eq : tkOf w r = takenTo (seen (dnOf w r) w) r.2.2 false (r.1 + 1) (r.2.1 - r.2.2 - r.1) := taken_seen ha _ _ _ _
theorem mem_tk {t : Nat} (h : t ∈ tkOf w r) : r.1 < t ∧ t + r.2.2 ≤ r.2.1 ∧ leastB (dnOf w r) (sub w t r.2.2) = true := by
  unfold tkOf at h
  rw [takenTo_win] at h
  obtain ⟨⟨h1, h2⟩, h3⟩ := mem_win.mp h
  exact ⟨by omega, by omega, h3⟩
theorem tk_lt {t : Nat} (h : t ∈ tkOf w r) : t < 12 := by
  have := mem_tk hw ha hr h
  have h2 := (run_on hw ha hr).le
  have h3 := (run_on hw ha hr).p1
  omega
theorem tk_reach {t : Nat} (h : t ∈ tkOf w r) : reachOf (seen (dnOf w r) w) t = t + r.2.2 := by
  have m := mem_tk hw ha hr h
  exact (run_seen hw ha hr).reach (run_falls hw ha hr) m.1 m.2.1 (by rw [← least_seen ha]; exact m.2.2)
theorem tk_count : r.2.1 - r.1 < (tkOf w r).length * r.2.2 + 2 * r.2.2 ∧ (tkOf w r).length * r.2.2 < r.2.1 - r.1 := by
  have c := (run_seen hw ha hr).count
  rw [← tk_eq hw ha hr, Nat.succ_mul] at c
  have h2 := (run_on hw ha hr).room
  omega
theorem tk_nodup : (tkOf w r).Nodup := by
  unfold tkOf takenTo
  refine List.Pairwise.filter _ (List.Pairwise.map _ (R := fun a b => a ≠ b) (fun a b h hc => h (by omega)) ?_)
  exact List.nodup_range
end
theorem RunOn.edge {w : List Nat} {f e p : Nat} (R : RunOn w f e p) {i : Nat} (h1 : f < i) (h2 : i + p ≤ e) (ht : leastB false (sub w i p) = true) : (p = 1 ∧ sg w i = sg w (i - 1)) ∨ sg w i < sg w (i - 1) := by
  have L := (R.least (by omega) h2).mp ht
  have hp := R.p1
  have back := R.per (i - 1) (by omega) (by omega)
  by_cases c : p = 1
  · subst c
    rw [show i - 1 + 1 = i by omega] at back
    exact .inl ⟨rfl, back.symm⟩
  · obtain ⟨j, hj, _, lj⟩ := lyn_first (ever_per w f p) L (d := p - 1) (by omega) (by omega)
    have : j = 0 := by omega
    subst this
    rw [← R.at _ (by omega), ← R.at _ (by omega), show f + (i - f + 0) = i by omega, show f + (i - f + (p - 1) + 0) = i - 1 + p by omega, ← back] at lj
    exact .inr lj
theorem tk_edge {w : List Nat} (hw : w.length = 12) (ha : abc w) {r : Nat × Nat × Nat} (hr : r ∈ runsOf w (squares w)) {t : Nat} (h : t ∈ tkOf w r) : (r.2.2 = 1 ∧ sg w t = sg w (t - 1)) ∨ (if dnOf w r then sg w (t - 1) < sg w t else sg w t < sg w (t - 1)) := by
  have m := mem_tk hw ha hr h
  have ht := m.2.2
  rw [least_seen ha] at ht
  have E := (run_seen hw ha hr).edge m.1 m.2.1 ht
  have O := run_on hw ha hr
  have h1 := O.le
  have h2 := O.p1
  cases hd : dnOf w r with
  | false =>
    rw [hd] at E
    exact E
  | true =>
    rw [hd] at E
    have E' : (r.2.2 = 1 ∧ sg (mirr w) t = sg (mirr w) (t - 1)) ∨ sg (mirr w) t < sg (mirr w) (t - 1) := E
    rw [sg_mirr (by omega), sg_mirr (by omega)] at E'
    have b1 := sg_abc ha (x := t) (by omega)
    have b2 := sg_abc ha (x := t - 1) (by omega)
    rcases E' with ⟨e1, e2⟩ | e1
    · exact .inl ⟨e1, by omega⟩
    · exact .inr (by rw [if_pos rfl]; omega)
theorem tk_apart {w : List Nat} (hw : w.length = 12) (ha : abc w) {r s : Nat × Nat × Nat} (hr : r ∈ runsOf w (squares w)) (hs : s ∈ runsOf w (squares w)) (h : Apart r s) {t : Nat} (h1 : t ∈ tkOf w r) (h2 : t ∈ tkOf w s) : False := by
  have m1 := mem_tk hw ha hr h1
  have m2 := mem_tk hw ha hs h2
  have same : r.2.2 = s.2.2 → False := fun e => by
    have := h e
    omega
  have O1 := run_on hw ha hr
  have O2 := run_on hw ha hs
  have hl1 := O1.le
  have hl2 := O2.le
  have hp1 := O1.p1
  have hp2 := O2.p1
  cases hd1 : dnOf w r <;> cases hd2 : dnOf w s
  · have a := tk_reach hw ha hr h1
    have b := tk_reach hw ha hs h2
    rw [hd1] at a
    rw [hd2, a] at b
    exact same (by omega)
  · have a := tk_edge hw ha hr h1
    have b := tk_edge hw ha hs h2
    rw [hd1] at a
    rw [hd2] at b
    simp only [Bool.false_eq_true, if_false, if_true] at a b
    rcases a with ⟨a1, a2⟩ | a <;> rcases b with ⟨b1, b2⟩ | b
    · exact same (by omega)
    · omega
    · omega
    · omega
  · have a := tk_edge hw ha hr h1
    have b := tk_edge hw ha hs h2
    rw [hd1] at a
    rw [hd2] at b
    simp only [Bool.false_eq_true, if_false, if_true] at a b
    rcases a with ⟨a1, a2⟩ | a <;> rcases b with ⟨b1, b2⟩ | b
    · exact same (by omega)
    · omega
    · omega
    · omega
  · have a := tk_reach hw ha hr h1
    have b := tk_reach hw ha hs h2
    rw [hd1] at a
    rw [hd2, a] at b
    exact same (by omega)
theorem runs_apart {w : List Nat} (hw : w.length = 12) : (runsOf w (squares w)).Pairwise Apart := (inv_runs hw).apart
/-- no place of an earlier run is taken again -/
theorem tk_new {w : List Nat} (hw : w.length = 12) (ha : abc w) {j : Nat} (hj : j < (runsOf w (squares w)).length) {t : Nat} (ht : t ∈ tkOf w (runsOf w (squares w))[j]) : stands (esOf w (runsOf w (squares w)) j) t = none := by
  rw [stands_none]
  intro e he heq
  unfold esOf at he
  obtain ⟨k, hk, hm⟩ := List.mem_flatMap.mp he
  have hk' := List.mem_range.mp hk
  unfold rowOf at hm
  obtain ⟨t', ht', rfl⟩ := List.mem_map.mp hm
  have e1 : t' = t := heq
  subst e1
  rw [List.getD_eq_getElem?_getD, List.getElem?_eq_getElem (show k < (runsOf w (squares w)).length by omega)] at ht'
  exact tk_apart hw ha (List.getElem_mem _) (List.getElem_mem hj) (List.pairwise_iff_getElem.mp (runs_apart hw) k j _ hj hk') ht' ht
end Mine
end

section
theorem Mine.reset34 : True := by
  w_top off
  k_with_none
  trivial
open PySem PySem.W PyProof.Rows PySem.Calls PyProof.V PySem.Spec PySem.Builtin.Str
set_option maxRecDepth 100000
namespace Mine
/-- from here on the lists' lengths are taken by hand -/
def MarkLaw : Prop := True
theorem len_taken {prog : Program} {w : World} {A : Around} {E : Value → Shared → Prop} {s : Shared} {l : Addr} {vs : List Value} {n : Nat} {Q : Value → Shared → Prop} (hl : s.heap.IsList l vs.toArray) (he : vs.length = n) (hn : n ≤ 1000)
    (h : Q (.int (n : Int) (s.toks + 1)) { s with toks := s.toks + 1 + 1 }) : wpAny (model prog w) A (call (.builtin "len") [.ref l]) Q E s := by
  subst he
  refine len_list hl (by rw [List.size_toArray]; omega) ?_
  rw [List.size_toArray]
  exact h
theorem count_ints {f e q c : Nat} (hr : f + 2 * q ≤ e) (h : e - f < c * q + 2 * q ∧ c * q < e - f) : (e : Int) - (f : Int) - 2 * (q : Int) < (c : Int) * (q : Int) ∧ (c : Int) * (q : Int) < (e : Int) - (f : Int) := by
  rw [← Int.natCast_mul]
  omega
theorem rel_ints_f {g : Nat → Nat} : ∀ {ks : List Nat} {ys : List Value}, RelAll (fun (k : Nat) v => ∃ t, v = .int (g k : Int) t) ks ys → IntsAre ys ((ks.map g).map fun (x : Nat) => (x : Int))
  | _, _, .nil => .nil
  | _, _, .cons h r => by
    obtain ⟨t, rfl⟩ := h
    exact .cons _ _ (rel_ints_f r)
theorem runs_few (wd : List Nat) : (runsOf wd (squares wd)).length ≤ 66 := by
  have h := runsOf_len wd (squares wd) (squares wd).length
  rw [List.take_length] at h
  exact Nat.le_trans h (squares_len wd)
theorem es_lt {wd : List Nat} (hw : wd.length = 12) (ha : abc wd) : ∀ {j : Nat}, j ≤ (runsOf wd (squares wd)).length → ∀ e ∈ esOf wd (runsOf wd (squares wd)) j, e.1.2 < 12 := by
  intro j hj e he
  unfold esOf at he
  obtain ⟨k, hk, hm⟩ := List.mem_flatMap.mp he
  have hk' := List.mem_range.mp hk
  unfold rowOf at hm
  obtain ⟨t', ht', rfl⟩ := List.mem_map.mp hm
  rw [List.getD_eq_getElem?_getD, List.getElem?_eq_getElem (show k < (runsOf wd (squares wd)).length by omega)] at ht'
  exact tk_lt hw ha (List.getElem_mem _) ht'
theorem tk_len {wd : List Nat} (hw : wd.length = 12) (ha : abc wd) {r : Nat × Nat × Nat} (hr : r ∈ runsOf wd (squares wd)) : (tkOf wd r).length ≤ 12 := by
  have h := (run_on hw ha hr).le
  unfold tkOf
  exact Nat.le_trans (takenTo_len _ _ _ _ _) (by omega)
theorem es_len {wd : List Nat} (hw : wd.length = 12) (ha : abc wd) : ∀ {j : Nat}, j ≤ (runsOf wd (squares wd)).length → (esOf wd (runsOf wd (squares wd)) j).length ≤ 12 * j
  | 0, _ => Nat.le_refl _
  | j + 1, h => by
    have ih := es_len hw ha (j := j) (by omega)
    rw [esOf_succ, List.length_append]
    have : (rowOf wd (runsOf wd (squares wd)) j).length ≤ 12 := by
      unfold rowOf
      rw [List.length_map, List.getD_eq_getElem?_getD, List.getElem?_eq_getElem (show j < (runsOf wd (squares wd)).length by omega)]
      exact tk_len hw ha (List.getElem_mem _)
    omega
theorem tame_num : ∀ k : Fin 67, (∀ c ∈ (numS k.val).cps.toList, 32 ≤ c ∧ c < 127) ∧ (numS k.val).cps.size ≤ 1000 := by decide +kernel
theorem pick_laid {α : Type} {D lt a lq tb dx du : α} {rest : List α} : ∀ p ∈ lq :: tb :: dx :: D :: lt :: a :: du :: rest, p ∈ D :: lt :: a :: lq :: tb :: dx :: du :: rest := by
  intro p hp
  simp only [List.mem_cons] at hp ⊢
  rcases hp with h | h | h | h | h | h | h | h <;> simp [h]
theorem pick_after {α : Type} {D lt a lq tb dx r du c4 c3 c2 c1 : α} {V U W : List α} (hW : W = V ++ U) : ∀ p ∈ lq :: tb :: dx :: r :: D :: lt :: du :: c4 :: c3 :: c2 :: c1 :: W, p ∈ lq :: tb :: dx :: r :: (V ++ D :: lt :: a :: du :: c4 :: c3 :: c2 :: c1 :: U) := by
  subst hW
  intro p hp
  simp only [List.mem_cons, List.mem_append] at hp ⊢
  rcases hp with h | h | h | h | h | h | h | h | h | h | h | h | h <;> simp [h]
theorem laid_objs {h₀ h : Heap} {L D c4 c3 : Addr} {oD o4 o3 : Obj} {b c d e f g d2 d1 : Addr × Obj} {V : List (Addr × Obj)} (_ : News h₀ L h ((D, oD) :: b :: c :: d :: e :: f :: g :: (c4, o4) :: (c3, o3) :: d2 :: d1 :: V)) : ∃ D' o4' o3', D' = D ∧ o4' = o4 ∧ o3' = o3 := ⟨_, _, _, rfl, rfl, rfl⟩
theorem one_off {x y : Addr} (h : x ≠ y) : ∀ b ∈ [y], x ≠ b := fun b hb => by rw [List.mem_singleton.mp hb]; exact h
theorem pick_fin {α : Type} {D' D lt lq tb dx r du : α} {rest : List α} : ∀ p ∈ lq :: tb :: dx :: r :: du :: rest, p ∈ D' :: lq :: tb :: dx :: r :: D :: lt :: du :: rest := by
  intro p hp
  simp only [List.mem_cons] at hp ⊢
  rcases hp with h | h | h | h | h | h <;> simp [h]
theorem one_lt {a b : Nat} : decide ([a] < [b]) = decide (a < b) := by
  rw [decide_eq_decide, List.cons_lt_cons_iff]
  constructor
  · rintro (h | ⟨_, h⟩)
    · exact h
    · exact absurd h (List.not_lt_nil _)
  · exact .inl
theorem dn_val {wd : List Nat} {f e q : Nat} (hw : wd.length = 12) (he : e < 12) (hq : q ≤ e) :
    (!decide ((Txt.item (str wd) (e : Int)).cps.toList < (Txt.item (str wd) ((e : Int) - (q : Int))).cps.toList)) = dnOf wd (f, e, q) := by
  have e1 : (e : Int) - (q : Int) = ((e - q : Nat) : Int) := by omega
  rw [e1, item_txt (by omega), item_txt (by omega)]
  show (!decide ([sg wd e] < [sg wd (e - q)])) = _
  rw [one_lt]
  unfold dnOf
  rw [decide_eq_true he, Bool.true_and]
section
variable {prog : Program} {w : World} {p : Program} {loose : List Str} {mean : ExcName → Option Value} {mg mb : Str → Option Value} {news : List (Addr × Obj)}
  {dp un : Nat} {gd : Option (List Code)} {cn : Str} {cs : Scope} {a : Addr} {ccd : Value} {cl : List (Str × Addr)} {outer : List Env} {A₀ : Around} {base h₀ : Heap} {L : Addr} {m : Str → Option Value} {s : Shared} {Q E : Value → Shared → Prop}
theorem taken_any {wd : List Nat} {t1 : Tok} {r : Addr} {n f e q : Nat} {ta tb tc : Tok} (d : Bool) (B : Below A₀ base outer h₀) (F : Fr h₀ L s.heap m) (X : (Mine.hd.heap_39 w.params).In h₀) (T : Top p loose mean mg mb h₀) (hk : cs.kind = .function)
    (N : News h₀ L s.heap ((r, ({ cls := .type "tuple", data := .seq #[.int (f : Int) ta, .int (e : Int) tb, .int (q : Int) tc] n } : Obj)) :: news))
    (hw : wd.length = 12) (hfe : f + 2 * q ≤ e) (he : e ≤ 12) (hq1 : 1 ≤ q) (hd : dp + 4 < recursionLimit) (hu : un + 64 < cLine)
    (hret : ∀ l vs k h' tk', Fr h₀ L h' m → News h₀ L h' ((l, W.listOf vs.toArray k) :: (r, ({ cls := .type "tuple", data := .seq #[.int (f : Int) ta, .int (e : Int) tb, .int (q : Int) tc] n } : Obj)) :: news) → (∀ b ∈ r :: news.map (·.1), l ≠ b) → IntsAre vs ((takenTo wd q d (f + 1) (e - q - f)).map fun (x : Nat) => (x : Int)) → Q (.ref l) { s with heap := h', toks := tk' }) :
    wpAny (model prog w) (ktrTop dp un gd cn cs L a ccd cl outer) (call (.ref 222) [.str (str wd) t1, .ref r, .ref (if d then 196 else 189)]) Q E s := by
  cases d with
  | false => exact taken_up B F X T hk N hw hfe he hq1 hd hu hret
  | true => exact taken_down B F X T hk N hw hfe he hq1 hd hu hret
end
theorem ints_len {ts : List Nat} {vs : List Value} (h : IntsAre vs (ts.map fun (x : Nat) => (x : Int))) : vs.length = ts.length := by rw [h.length, List.length_map]
theorem ints_dat {n : List (Addr × Obj)} : ∀ {ts : List Nat} {vs : List Value}, IntsAre vs (ts.map fun (x : Nat) => (x : Int)) → DatAll n vs (ts.map fun (x : Nat) => Dat.int (x : Int))
  | [], _, .nil => .nil
  | _ :: _, _, .cons _ _ r => .cons (.int _ _) (ints_dat r)
end Mine
end

section
theorem Mine.reset35 : True := by
  w_top off
  k_with_none
  trivial
open PySem PySem.W PyProof.Rows PySem.Calls PyProof.V PySem.Spec PySem.Builtin.Str
set_option maxRecDepth 100000
namespace Mine
theorem off_laid {V' U : List (Addr × Obj)} {lq rw_ tb dx D lt a du c4 c3 c2 c1 : Addr} {oD ol oa od o4 o3 o2 o1 : Obj} (h1 : OwnOff V' [lq, rw_])
    (h2 : OwnOff V' (tb :: dx :: ((D, oD) :: (lt, ol) :: (a, oa) :: (du, od) :: (c4, o4) :: (c3, o3) :: (c2, o2) :: (c1, o1) :: U).map (·.1))) : OwnOff V' [lq, tb, dx, du, c4, c3, c2, c1] ∧ OwnOff V' (U.map (·.1)) := by
  constructor
  · intro p hp b hb
    rcases List.mem_cons.mp hb with rfl | hb
    · exact h1 p hp _ (.head _)
    rcases List.mem_cons.mp hb with rfl | hb
    · exact h2 p hp _ (.head _)
    rcases List.mem_cons.mp hb with rfl | hb
    · exact h2 p hp _ (.tail _ (.head _))
    rcases List.mem_cons.mp hb with rfl | hb
    · exact h2 p hp _ (.tail _ (.tail _ (.tail _ (.tail _ (.tail _ (.head _))))))
    rcases List.mem_cons.mp hb with rfl | hb
    · exact h2 p hp _ (.tail _ (.tail _ (.tail _ (.tail _ (.tail _ (.tail _ (.head _)))))))
    rcases List.mem_cons.mp hb with rfl | hb
    · exact h2 p hp _ (.tail _ (.tail _ (.tail _ (.tail _ (.tail _ (.tail _ (.tail _ (.head _))))))))
    rcases List.mem_cons.mp hb with rfl | hb
    · exact h2 p hp _ (.tail _ (.tail _ (.tail _ (.tail _ (.tail _ (.tail _ (.tail _ (.tail _ (.head _)))))))))
    rcases List.mem_cons.mp hb with rfl | hb
    · exact h2 p hp _ (.tail _ (.tail _ (.tail _ (.tail _ (.tail _ (.tail _ (.tail _ (.tail _ (.tail _ (.head _))))))))))
    · cases hb
  · exact off_sub h2 fun b hb => .tail _ (.tail _ (.tail _ (.tail _ (.tail _ (.tail _ (.tail _ (.tail _ (.tail _ (.tail _ hb)))))))))
theorem off_eight {own : List (Addr × Obj)} {a b c d e f g i : Addr} {r : List Addr} (h : OwnOff own (a :: b :: c :: d :: e :: f :: g :: i :: r)) : OwnOff own [a, b, c, d, e, f, g, i] := off_sub h fun x hx => by
  simp only [List.mem_cons, List.not_mem_nil, or_false] at hx ⊢
  rcases hx with h | h | h | h | h | h | h | h <;> simp [h]
theorem pick_end {α : Type} {lq tb dx du c4 c3 c2 c1 r : α} {V' V own : List α} : ∀ p ∈ lq :: tb :: dx :: du :: c4 :: c3 :: c2 :: c1 :: r :: (V' ++ V), p ∈ lq :: tb :: dx :: r :: du :: c4 :: c3 :: c2 :: c1 :: (V' ++ (V ++ own)) := by
  intro p hp
  simp only [List.mem_cons, List.mem_append] at hp ⊢
  rcases hp with h | h | h | h | h | h | h | h | h | h | h <;> simp [h]
theorem LL_step {params : Params} {wd : List Nat} {R : List (Nat × Nat × Nat)} {tb dx lq du c4 c3 c2 c1 rw_ : Addr} {om ot o4' o3' : Obj} {tkq : Tok} {keep V V' own : List (Addr × Obj)} {P : Addr × Obj} {i : Nat} {h₀ h : Heap} {L : Addr} {m' : Str → Option Value} {s₁ : Shared} {tk : Nat}
    {vs' rs dvs : List Value} {k' kr kd : Nat} {x4 x3 : Option Value} {fs : List ((Bool × Nat) × Str)}
    (F : Fr h₀ L h m') (N : News h₀ L h ((lq, W.listOf vs'.toArray k') :: (tb, instObj 171 dx) :: (dx, dictOf [{ hash := PyData.keyHash params "_headers", key := .str "_headers" tkq, val := .ref lq }] 1) :: (rw_, W.listOf rs.toArray kr) :: (du, W.listOf (dvs.toArray.push (.ref rw_)) (kd + 1)) :: (c4, o4') :: (c3, o3') :: (c2, om) :: (c1, ot) :: (V' ++ (V ++ own))))
    (h4 : o4'.data = .cell x4) (h3 : o3'.data = .cell x3) (hrow : rowOf wd R i = fs) (hD1 : DatAll (V' ++ V) vs' ((esOf wd R i ++ fs).map hp)) (hD2 : DatAll V' rs (fs.map hp)) (hdue : DatAll V dvs ((List.range i).map fun i => Dat.list ((rowOf wd R i).map hp)))
    (hV' : OwnOff V' [lq, tb, dx, du, c4, c3, c2, c1]) (hV'U : OwnOff V' ((V ++ own).map (·.1))) (hV : OwnOff V [lq, tb, dx, du, c4, c3, c2, c1]) (hkeep : ∀ p ∈ keep, p ∈ V) (hoff : OwnOff own (lq :: tb :: dx :: du :: c4 :: c3 :: c2 :: c1 :: V.map (·.1)))
    (g0 : (lq : Nat) < rw_) (g4 : (du : Nat) < rw_) (g5 : (c4 : Nat) < rw_) (g6 : (c3 : Nat) < rw_) (g7 : (c2 : Nat) < rw_) (g8 : (c1 : Nat) < rw_) (htb : (tb : Nat) < lq) (hdx : (dx : Nat) < tb) (hU : AllLt rw_ (V ++ own)) (hP : P ∈ keep)
    (hm : ∀ p ∈ [(Str.ofString "table", Value.ref tb), (Str.ofString "due", .ref du)], m' p.1 = some p.2) :
    InvEndG h₀ L (fun m' nx => P ∈ nx ∧ LL params wd R tb dx lq du c4 c3 c2 c1 om ot tkq keep (i + 1) m' nx) own s₁ { s₁ with heap := h, toks := tk } := by
  subst hrow
  rw [List.push_toArray] at N
  refine InvEndG.intro (nx := (lq, W.listOf vs'.toArray k') :: (tb, instObj 171 dx) :: (dx, dictOf [{ hash := PyData.keyHash params "_headers", key := .str "_headers" tkq, val := .ref lq }] 1) :: (du, W.listOf (dvs ++ [Value.ref rw_]).toArray (kd + 1)) :: (c4, o4') :: (c3, o3') :: (c2, om) :: (c1, ot) :: (rw_, W.listOf rs.toArray kr) :: (V' ++ V)) F N
    ⟨.tail _ (.tail _ (.tail _ (.tail _ (.tail _ (.tail _ (.tail _ (.tail _ (.tail _ (List.mem_append_right _ (hkeep _ hP)))))))))), ⟨_, _, _, _, _, _, _, _, _, rfl, h4, h3, ?_, ?_, ?_, ?_, hm⟩⟩ ?_ pick_end ?_
  · rw [esOf_succ]
    exact hD1.mono fun p hp => .tail _ hp
  · rw [List.range_succ, List.map_append]
    exact dat_app (hdue.mono fun p hp => .tail _ (List.mem_append_right _ hp)) (.cons (.list (.head _) (hD2.mono fun p hp => .tail _ (List.mem_append_left _ hp))) .nil)
  · refine off_cons (fun b hb => ?_) (off_app hV' hV)
    simp only [List.mem_cons, List.not_mem_nil, or_false] at hb
    rcases hb with rfl | rfl | rfl | rfl | rfl | rfl | rfl | rfl
    · exact Nat.ne_of_gt g0
    · exact Nat.ne_of_gt (Nat.lt_trans htb g0)
    · exact Nat.ne_of_gt (Nat.lt_trans hdx (Nat.lt_trans htb g0))
    · exact Nat.ne_of_gt g4
    · exact Nat.ne_of_gt g5
    · exact Nat.ne_of_gt g6
    · exact Nat.ne_of_gt g7
    · exact Nat.ne_of_gt g8
  · exact fun p hp => .tail _ (List.mem_append_right _ (hkeep p hp))
  · intro p hp b hb
    have up := hoff p hp
    simp only [List.map_cons] at hb
    rcases List.mem_cons.mp hb with rfl | hb
    · exact up _ (.head _)
    rcases List.mem_cons.mp hb with rfl | hb
    · exact up _ (.tail _ (.head _))
    rcases List.mem_cons.mp hb with rfl | hb
    · exact up _ (.tail _ (.tail _ (.head _)))
    rcases List.mem_cons.mp hb with rfl | hb
    · exact up _ (.tail _ (.tail _ (.tail _ (.head _))))
    rcases List.mem_cons.mp hb with rfl | hb
    · exact up _ (.tail _ (.tail _ (.tail _ (.tail _ (.head _)))))
    rcases List.mem_cons.mp hb with rfl | hb
    · exact up _ (.tail _ (.tail _ (.tail _ (.tail _ (.tail _ (.head _))))))
    rcases List.mem_cons.mp hb with rfl | hb
    · exact up _ (.tail _ (.tail _ (.tail _ (.tail _ (.tail _ (.tail _ (.head _)))))))
    rcases List.mem_cons.mp hb with rfl | hb
    · exact up _ (.tail _ (.tail _ (.tail _ (.tail _ (.tail _ (.tail _ (.tail _ (.head _))))))))
    rcases List.mem_cons.mp hb with rfl | hb
    · exact Nat.ne_of_lt (allLt_iff hU p (List.mem_append_right _ hp))
    rw [List.map_append] at hb
    rcases List.mem_append.mp hb with hb | hb
    · obtain ⟨o, ho⟩ := mem_fst hb
      exact fun e => hV'U (b, o) ho p.1 (List.mem_map.mpr ⟨p, List.mem_append_right _ hp, rfl⟩) e.symm
    · exact up _ (.tail _ (.tail _ (.tail _ (.tail _ (.tail _ (.tail _ (.tail _ (.tail _ hb))))))))
  · exact fun p hp => .tail _ (.tail _ (.tail _ (.tail _ (.tail _ (.tail _ (.tail _ (.tail _ (.tail _ (List.mem_append_right _ (List.mem_append_right _ hp))))))))))
end Mine
end

section
theorem Mine.reset36 : True := by
  w_top off
  k_with_none
  trivial
open PySem PySem.W PyProof.Rows PySem.Calls PyProof.V PySem.Spec PySem.Builtin.Str
set_option maxRecDepth 100000
namespace Mine
section
variable {prog : Program} {w : World} {A : Around} {R : Result → Shared → Prop} {s : Shared} {E : Value → Shared → Prop} {h₀ : Heap} {L : Addr} {m : Str → Option Value}
theorem turn_in (elt t0 i0 t1 i1 : Expr) (scope : Scope) (pos : Pos) (it acc : Value) (env : Env) :
    compTurn (.ListComp elt [⟨t0, i0, [], 0⟩, ⟨t1, i1, [], 0⟩] scope pos) 1 it acc env = (standAt i1.pos >>= fun _ => pyNext it >>= fun r => match r with
      | none => pure (.done .next)
      | some v => letOwnedTupleGo t1 it v >>= fun _ => assign t1 env v >>= fun _ =>
        (eval elt env >>= fun x => call (.builtin "list.append") [acc, x] >>= fun _ => pure ()) >>= fun _ =>
          again (.compLoop (.ListComp elt [⟨t0, i0, [], 0⟩, ⟨t1, i1, [], 0⟩] scope pos) 1 it acc env)) := by rfl
theorem turn_out (elt t0 i0 t1 i1 : Expr) (scope : Scope) (pos : Pos) (it acc : Value) (env : Env) :
    compTurn (.ListComp elt [⟨t0, i0, [], 0⟩, ⟨t1, i1, [], 0⟩] scope pos) 0 it acc env = (standAt i0.pos >>= fun _ => pyNext it >>= fun r => match r with
      | none => pure (.done .next)
      | some v => letOwnedTupleGo t0 it v >>= fun _ => assign t0 env v >>= fun _ =>
        eval i1 env >>= fun x => standAt i1.pos >>= fun _ => foldedSetIterable i1 env x >>= fun x => holding [x] (pyIter x) >>= fun it' =>
          runOwn (.compStart (.ListComp elt [⟨t0, i0, [], 0⟩, ⟨t1, i1, [], 0⟩] scope pos) 1 it' acc env) env >>= fun _ =>
          again (.compLoop (.ListComp elt [⟨t0, i0, [], 0⟩, ⟨t1, i1, [], 0⟩] scope pos) 0 it acc env)) := by rfl
theorem start_in {elt t0 i0 t1 i1 : Expr} {scope : Scope} {pos : Pos} {it acc : Value} {env : Env}
    (h0 : codeAny (model prog w) A (.compLoop (.ListComp elt [⟨t0, i0, [], 0⟩, ⟨t1, i1, [], 0⟩] scope pos) 1 it acc env) R s)
    (h : wpAny (model prog w) A (pyIter it) (fun it' s' => codeAny (model prog w) A (.compLoop (.ListComp elt [⟨t0, i0, [], 0⟩, ⟨t1, i1, [], 0⟩] scope pos) 1 it' acc env) R s')
      (notedBy (model prog w) A env fun x s' => R (.error x) s') s) :
    codeAny (model prog w) A (.compStart (.ListComp elt [⟨t0, i0, [], 0⟩, ⟨t1, i1, [], 0⟩] scope pos) 1 it acc env) R s := by
  refine codeAny_of_tree ?_
  show wpAny _ _ ((compStart (.ListComp elt [⟨t0, i0, [], 0⟩, ⟨t1, i1, [], 0⟩] scope pos) 1 it acc env).onRaise (fun x => do noteFrame x env; standAt theWindowsPlace)) _ _ s
  refine wpAny_notedAt ?_
  unfold compStart
  show wpAny _ _ (ask >>= _) _ _ s
  refine wpAny_bind (wpAny_askSetting (wpAny_ite ?_))
  split
  · first
      | exact wpAny_bind (wpAny_pure (wpAny_pure (And.intro rfl h0)))
      | exact wpAny_pure (And.intro rfl h0)
  · refine wpAny_bind (wpAny_rule ?_)
    show wpAny _ _ (standAt i1.pos >>= _) _ _ s
    exact wpAny_bind (wpAny_standAt (wpAny_bind (wpAny_mono h (fun it' s' h' => wpAny_pure (And.intro rfl h')) fun _ _ x => x)))
/-- what stands in the heap between the turns -/
structure Stand (h₀ : Heap) (L : Addr) (m : Str → Option Value) (news : List (Addr × Obj)) (D C : Addr) (ys : List Value) (h : Heap) : Prop where
  fr : Fr h₀ L h m
  nw : News h₀ L h ((D, LCg.lst ys) :: news)
  ns : ∃ m', h.Ns C m'
theorem loop_in {t0 i0 i1 : Expr} {y : Str} {py qy : Pos} {scope : Scope} {cl : List (Str × Addr)} {pos : Pos} {env : Env} {I C D r : Addr} {ys rvs : List Value} {kr : Nat} {news : List (Addr × Obj)}
    (hh : A.handled = none) (hy : scope.names.lookup y = some .local) (hkind : scope.kind = .function) (hd : (y == ("__debug__" : Str)) = false)
    (hsz : ys.length + rvs.length ≤ 100000) (hr : (r, W.listOf rvs.toArray kr) ∈ news)
    (hIC : I ≠ C) (hDC : D ≠ C) (hIL : I ≠ L) (hCL : C ≠ L) (hDL : D ≠ L) (hDI : D ≠ I) (hI₀ : h₀.get? I = none) (hC₀ : h₀.get? C = none) (hD₀ : h₀.get? D = none) (off : ∀ p ∈ news, p.1 ≠ I ∧ p.1 ≠ C ∧ p.1 ≠ D)
    (hst : Stand h₀ L m news D C ys s.heap) (hit : s.heap.IsListIter I r 0)
    (fin : ∀ h' tk, Stand h₀ L m news D C (ys ++ rvs) h' → R (.ok .next) { s with heap := h', toks := tk }) :
    codeAny (model prog w) A (.compLoop (.ListComp (.Name y qy) [⟨t0, i0, [], 0⟩, ⟨.Name y py, i1, [], 0⟩] scope pos) 1 (.ref I) (.ref D) (compEnvC scope cl C env)) R s := by
  have hrI : r ≠ I := (off _ hr).1
  have WW := Walks.list (prog := prog) (w := w) hh I r hrI rvs.toArray
  have hn : rvs.toArray.size = rvs.length := List.size_toArray ..
  refine codeAny_loop rfl (fun k s' => ∃ h' tk j, s' = { s with heap := h', toks := tk } ∧ j ≤ rvs.length ∧ k = rvs.length + 1 - j ∧ Stand h₀ L m news D C (ys ++ rvs.take j) h' ∧ h'.IsListIter I r j) ?_ (rvs.length + 1)
    ⟨s.heap, s.toks, 0, rfl, Nat.zero_le _, rfl, by rw [List.take_zero, List.append_nil]; exact hst, hit⟩
  rintro k s' ⟨h', tk, j, rfl, hj, rfl, st, it⟩
  show wpAny _ A ((compTurn (.ListComp (.Name y qy) [⟨t0, i0, [], 0⟩, ⟨.Name y py, i1, [], 0⟩] scope pos) 1 (.ref I) (.ref D) (compEnvC scope cl C env)).onRaise (fun x => do noteFrame x (compEnvC scope cl C env); theTreesLotGoes x)) _ _ _
  refine wpAny_noted ?_
  rw [turn_in]
  have hl : h'.IsList r rvs.toArray := News.isList st.nw (.tail _ hr)
  by_cases hlt : j < rvs.length
  · refine wpAny_bind (wpAny_standAt (wpAny_bind (WW.item j _ _ _ (by rw [hn]; exact hlt) ⟨it, hl⟩ fun v h₂ tk₂ hv st₂ hk₂ => ?_)))
    obtain ⟨m', hm'⟩ := st.ns
    refine wpAny_bind (wpAny_of_eq rfl ?_)
    refine wpAny_bind (wpAny_assign_Name (wpAny_storeName_local (lookup_relabel_local hy) (hm'.at' fun o e => hk₂ _ o (by simpa using Ne.symm hIC) e) (fun h₃ hn₃ hs₃ => ?_) (by simp [compEnvC, relabel, hkind])))
    have F₂ : Fr h₀ L h₂ m := LCg.fr_but st.fr hk₂ (Ne.symm hIL) hI₀
    have N₂ : News h₀ L h₂ ((D, LCg.lst (ys ++ rvs.take j)) :: news) := LCg.news_but st.nw hk₂ fun p hp => by
      rcases List.mem_cons.mp hp with rfl | hp
      · exact hDI
      · exact (off p hp).1
    have F₃ : Fr h₀ L h₃ m := F₂.change hs₃ hCL hC₀
    have N₃ : News h₀ L h₃ ((D, LCg.lst (ys ++ rvs.take j)) :: news) := fun p hp => by
      refine ⟨hs₃.extBut _ _ ?_ (N₂ p hp).1, (N₂ p hp).2⟩
      rcases List.mem_cons.mp hp with rfl | hp
      · exact hDC
      · exact (off p hp).2.1
    have it₃ : h₃.IsListIter I r (j + 1) := st₂.1.at fun o e => hs₃.extBut _ _ hIC e
    refine wpAny_bind (wpAny_bind (ldVarK (v := v) hn₃ (if_pos rfl) ?_ hkind (lookup_relabel_local hy) hd))
    have hys : (ys ++ rvs.take j).toArray.size ≤ sizeLine := by
      rw [List.size_toArray, List.length_append, List.length_take, sizeLine_eq]
      omega
    refine wpAny_bind (append_at (hsz := hys) (N₃ _ (.head _)).1 fun h₅ hs₅ hD₅ => wpAny_pure (wpAny_pure ⟨rfl, _, ?_, h₅, _, j + 1, rfl, hlt, rfl, ⟨F₃.change hs₅ hDL hD₀, fun p hp => ?_, ?_⟩, it₃.at fun o e => hs₅.extBut _ _ (Ne.symm hDI) e⟩))
    · omega
    · have hv' : rvs[j]? = some v := by simpa using hv
      have e1 : rvs.take (j + 1) = rvs.take j ++ [v] := by rw [List.take_add_one, hv']; rfl
      rcases List.mem_cons.mp hp with rfl | hp
      · rw [e1, ← List.append_assoc]
        exact ⟨hD₅.trans (congrArg some (LCg.lst_snoc _ v)), hDL, hD₀⟩
      · exact ⟨hs₅.extBut _ _ (off p hp).2.2 (N₃ p (.tail _ hp)).1, (N₃ p (.tail _ hp)).2⟩
    · exact ⟨_, hn₃.sameBut hs₅ (Ne.symm hDC)⟩
  · have hj' : j = rvs.length := Nat.le_antisymm hj (Nat.not_lt.mp hlt)
    subst hj'
    have it' : h'.IsListIter I r rvs.toArray.size := hn ▸ it
    refine wpAny_bind (wpAny_standAt (wpAny_bind (WW.done _ _ _ ⟨it', hl⟩ fun h₂ tk₂ hk₂ => ?_)))
    refine wpAny_pure (fin h₂ tk₂ ⟨LCg.fr_but st.fr hk₂ (Ne.symm hIL) hI₀, ?_, ?_⟩)
    · have N := st.nw
      rw [List.take_length] at N
      exact LCg.news_but N hk₂ fun p hp => by
        rcases List.mem_cons.mp hp with rfl | hp
        · exact hDI
        · exact (off p hp).1
    · obtain ⟨m', hm'⟩ := st.ns
      exact ⟨m', hm'.at' fun o e => hk₂ _ o (by simpa using Ne.symm hIC) e⟩
theorem take_flat {α : Type} {dss : List (List α)} {i : Nat} {ds : List α} (h : dss[i]? = some ds) : (dss.take (i + 1)).flatten = (dss.take i).flatten ++ ds := by
  rw [List.take_add_one, h, List.flatten_append]
  simp
theorem loop_out {i0 : Expr} {x y : Str} {px py qy qx : Pos} {scope : Scope} {cl : List (Str × Addr)} {pos : Pos} {env : Env} {I C D ax : Addr} {its : List Value} {ka : Nat} {dss : List (List Dat)} {news : List (Addr × Obj)}
    (hh : A.handled = none) (hx : scope.names.lookup x = some .local) (hy : scope.names.lookup y = some .local) (hkind : scope.kind = .function) (hdx : (x == ("__debug__" : Str)) = false) (hd : (y == ("__debug__" : Str)) = false)
    (hn : dss.length ≤ 100) (hrow : ∀ ds ∈ dss, ds.length ≤ 100) (hax : (ax, W.listOf its.toArray ka) ∈ news) (hD : DatAll news its (dss.map Dat.list))
    (hIC : I ≠ C) (hDC : D ≠ C) (hIL : I ≠ L) (hCL : C ≠ L) (hDL : D ≠ L) (hDI : D ≠ I) (hI₀ : h₀.get? I = none) (hC₀ : h₀.get? C = none) (hD₀ : h₀.get? D = none) (off : ∀ p ∈ news, p.1 ≠ I ∧ p.1 ≠ C ∧ p.1 ≠ D)
    (hst : Stand h₀ L m news D C [] s.heap) (hit : s.heap.IsListIter I ax 0)
    (fin : ∀ ys h' tk, DatAll news ys dss.flatten → Stand h₀ L m news D C ys h' → R (.ok .next) { s with heap := h', toks := tk }) :
    codeAny (model prog w) A (.compLoop (.ListComp (.Name y qy) [⟨.Name x px, i0, [], 0⟩, ⟨.Name y py, .Name x qx, [], 0⟩] scope pos) 0 (.ref I) (.ref D) (compEnvC scope cl C env)) R s := by
  have hrI : ax ≠ I := (off _ hax).1
  have WW := Walks.list (prog := prog) (w := w) hh I ax hrI its.toArray
  have hlen : its.length = dss.length := by rw [hD.length, List.length_map]
  have hnn : its.toArray.size = its.length := List.size_toArray ..
  refine codeAny_loop rfl (fun k s' => ∃ h' tk j ys, s' = { s with heap := h', toks := tk } ∧ j ≤ its.length ∧ k = its.length + 1 - j ∧ DatAll news ys (dss.take j).flatten ∧ ys.length ≤ 100 * j ∧ Stand h₀ L m news D C ys h' ∧ h'.IsListIter I ax j) ?_ (its.length + 1)
    ⟨s.heap, s.toks, 0, [], rfl, Nat.zero_le _, rfl, .nil, Nat.zero_le _, hst, hit⟩
  rintro k s' ⟨h', tk, j, ys, rfl, hj, rfl, hys, hyl, st, it⟩
  show wpAny _ A ((compTurn (.ListComp (.Name y qy) [⟨.Name x px, i0, [], 0⟩, ⟨.Name y py, .Name x qx, [], 0⟩] scope pos) 0 (.ref I) (.ref D) (compEnvC scope cl C env)).onRaise (fun x => do noteFrame x (compEnvC scope cl C env); theTreesLotGoes x)) _ _ _
  refine wpAny_noted ?_
  rw [turn_out]
  have hl : h'.IsList ax its.toArray := News.isList st.nw (.tail _ hax)
  by_cases hlt : j < its.length
  · refine wpAny_bind (wpAny_standAt (wpAny_bind (WW.item j _ _ _ (by rw [hnn]; exact hlt) ⟨it, hl⟩ fun v h₂ tk₂ hv st₂ hk₂ => ?_)))
    have hv' : its[j]? = some v := by simpa using hv
    obtain ⟨v', hv'', hDj⟩ := hD.get (k := j) (by rw [List.length_map]; omega)
    rw [hv'] at hv''
    cases hv''
    rw [List.getElem_map] at hDj
    have hds : dss[j]? = some dss[j] := List.getElem?_eq_getElem (by omega)
    have hdl : dss[j].length ≤ 100 := hrow _ (List.getElem_mem _)
    generalize dss[j] = ds at hDj hds hdl
    cases hDj
    rename_i r rvs kr hrm hrd
    have hrl : rvs.length ≤ 100 := by rw [hrd.length]; exact hdl
    obtain ⟨m', hm'⟩ := st.ns
    refine wpAny_bind (wpAny_of_eq rfl ?_)
    refine wpAny_bind (wpAny_assign_Name (wpAny_storeName_local (lookup_relabel_local hx) (hm'.at' fun o e => hk₂ _ o (by simpa using Ne.symm hIC) e) (fun h₃ hn₃ hs₃ => ?_) (by simp [compEnvC, relabel, hkind])))
    have F₂ : Fr h₀ L h₂ m := LCg.fr_but st.fr hk₂ (Ne.symm hIL) hI₀
    have N₂ : News h₀ L h₂ ((D, LCg.lst ys) :: news) := LCg.news_but st.nw hk₂ fun p hp => by
      rcases List.mem_cons.mp hp with rfl | hp
      · exact hDI
      · exact (off p hp).1
    have F₃ : Fr h₀ L h₃ m := F₂.change hs₃ hCL hC₀
    have N₃ : News h₀ L h₃ ((D, LCg.lst ys) :: news) := fun p hp => by
      refine ⟨hs₃.extBut _ _ ?_ (N₂ p hp).1, (N₂ p hp).2⟩
      rcases List.mem_cons.mp hp with rfl | hp
      · exact hDC
      · exact (off p hp).2.1
    have it₃ : h₃.IsListIter I ax (j + 1) := st₂.1.at fun o e => hs₃.extBut _ _ hIC e
    obtain ⟨oI, hoI, hoI2⟩ := id it₃
    refine wpAny_bind (ldVarK (v := .ref r) hn₃ (if_pos rfl) ?_ hkind (lookup_relabel_local hx) hdx)
    refine wpAny_bind (wpAny_standAt (wpAny_bind (wpAny_of_eq rfl (wpAny_bind (wpAny_holding ?_)))))
    have hrl₃ : h₃.IsList r rvs.toArray := News.isList N₃ (.tail _ hrm)
    refine wpAny_pyIter_list hrl₃ ?_
    generalize hJ : h₃.objs.size = J
    have up : ∀ b o, h₃.get? b = some o → (h₃.push { cls := .type "list_iterator", data := .fields #[.ref r, .int 0 0] }).get? b = some o := fun b o e => Heap.get?_push_of_some _ e
    have low : ∀ b o, h₃.get? b = some o → b ≠ J := fun b o e => hJ ▸ Nat.ne_of_lt (Heap.lt_size e)
    have hJ₀ : h₀.get? J = none := by
      cases e : h₀.get? J with
      | none => rfl
      | some o => exact absurd rfl (low J o (F₃.keep J o e))
    obtain ⟨oC, hoC, _⟩ := LCg.ns_obj hn₃
    have hCJ : C ≠ J := low C oC hoC
    refine wpAny_bind (wpAny_runOwn ?_)
    rw [Around.mark_none]
    have hit₄ : (h₃.push { cls := .type "list_iterator", data := .fields #[.ref r, .int 0 0] }).IsListIter J r 0 := by
      refine ⟨_, hJ ▸ Heap.get?_push_size _ rfl, rfl, rfl⟩
    have go : ∀ s₄ : Shared, s₄.heap = h₃.push { cls := .type "list_iterator", data := .fields #[.ref r, .int 0 0] } → (∃ tk, s₄ = { s with heap := s₄.heap, toks := tk }) →
        codeAny (model prog w) A (.compLoop (.ListComp (.Name y qy) [⟨.Name x px, i0, [], 0⟩, ⟨.Name y py, .Name x qx, [], 0⟩] scope pos) 1 (.ref J) (.ref D) (compEnvC scope cl C env)) (fun r s' => match r with
          | .ok _ => wpAny (model prog w) A (again (.compLoop (.ListComp (.Name y qy) [⟨.Name x px, i0, [], 0⟩, ⟨.Name y py, .Name x qx, [], 0⟩] scope pos) 0 (.ref I) (.ref D) (compEnvC scope cl C env)))
              (fun fin s' => match fin with | .done f => R (.ok f) s' | .again c' => c' = .compLoop (.ListComp (.Name y qy) [⟨.Name x px, i0, [], 0⟩, ⟨.Name y py, .Name x qx, [], 0⟩] scope pos) 0 (.ref I) (.ref D) (compEnvC scope cl C env) ∧ ∃ m_1, m_1 < its.length + 1 - j ∧ ∃ h' tk j ys, s' = { s with heap := h', toks := tk } ∧ j ≤ its.length ∧ m_1 = its.length + 1 - j ∧ DatAll news ys (dss.take j).flatten ∧ ys.length ≤ 100 * j ∧ Stand h₀ L m news D C ys h' ∧ h'.IsListIter I ax j)
              (notedBy (model prog w) A (compEnvC scope cl C env) fun x s' => R (.error x) s') s'
          | .error e => cameBackBy (model prog w) A (compEnvC scope cl C env) (notedBy (model prog w) A (compEnvC scope cl C env) fun x s' => R (.error x) s') e s') s₄ := by
      rintro s₄ hs₄ ⟨tk₄, he₄⟩
      refine loop_in (h₀ := h₀) (L := L) (m := m) (news := (I, oI) :: news) (ys := ys) (rvs := rvs) (kr := kr) hh hy hkind hd (by omega) (.tail _ hrm) (Ne.symm hCJ) hDC ?_ hCL hDL (low D _ (N₃ _ (.head _)).1) hJ₀ hC₀ hD₀ ?_ ?_ (hs₄ ▸ hit₄) ?_
      · exact fun e => low L _ F₃.ns.choose_spec.choose_spec.choose_spec.1 e.symm
      · intro p hp
        rcases List.mem_cons.mp hp with rfl | hp
        · exact ⟨low I _ hoI, hIC, Ne.symm hDI⟩
        · exact ⟨low _ _ (N₃ p (.tail _ hp)).1, (off p hp).2.1, (off p hp).2.2⟩
      · rw [hs₄]
        refine ⟨F₃.keeps up, fun p hp => ?_, ⟨_, hn₃.at' fun o e => up _ o e⟩⟩
        rcases List.mem_cons.mp hp with rfl | hp
        · exact ⟨up _ _ (N₃ _ (.head _)).1, (N₃ _ (.head _)).2⟩
        · rcases List.mem_cons.mp hp with rfl | hp
          · exact ⟨up _ _ hoI, hIL, hI₀⟩
          · exact ⟨up _ _ (N₃ p (.tail _ hp)).1, (N₃ p (.tail _ hp)).2⟩
      · intro h₅ tk₅ st₅
        refine wpAny_pure ⟨rfl, its.length + 1 - (j + 1), by omega, h₅, tk₅, j + 1, ys ++ rvs, by rw [he₄], hlt, rfl, ?_, ?_, ⟨st₅.fr, fun p hp => ?_, st₅.ns⟩, ⟨oI, (st₅.nw (I, oI) (.tail _ (.head _))).1, hoI2⟩⟩
        · rw [take_flat hds]
          exact dat_app hys hrd
        · rw [List.length_append]; omega
        · rcases List.mem_cons.mp hp with rfl | hp
          · exact st₅.nw _ (.head _)
          · exact st₅.nw p (.tail _ (.tail _ hp))
    exact start_in (go _ rfl ⟨_, rfl⟩) (wpAny_pyIter_listiter hit₄ (go _ rfl ⟨_, rfl⟩))
  · have hj' : j = its.length := Nat.le_antisymm hj (Nat.not_lt.mp hlt)
    subst hj'
    have it' : h'.IsListIter I ax its.toArray.size := hnn ▸ it
    refine wpAny_bind (wpAny_standAt (wpAny_bind (WW.done _ _ _ ⟨it', hl⟩ fun h₂ tk₂ hk₂ => ?_)))
    refine wpAny_pure (fin ys h₂ tk₂ ?_ ⟨LCg.fr_but st.fr hk₂ (Ne.symm hIL) hI₀, ?_, ?_⟩)
    · rw [hlen, List.take_length] at hys
      exact hys
    · exact LCg.news_but st.nw hk₂ fun p hp => by
        rcases List.mem_cons.mp hp with rfl | hp
        · exact hDI
        · exact (off p hp).1
    · obtain ⟨m', hm'⟩ := st.ns
      exact ⟨m', hm'.at' fun o e => hk₂ _ o (by simpa using Ne.symm hIC) e⟩
end
end Mine
end

section
theorem Mine.reset37 : True := by
  w_top off
  k_with_none
  trivial
open PySem PySem.W PyProof.Rows PySem.Calls PyProof.V PySem.Spec PySem.Builtin.Str
set_option maxRecDepth 100000
namespace Mine
section
variable {prog : Program} {w : World} {A : Around} {s : Shared} {E : Value → Shared → Prop} {h₀ : Heap} {L : Addr} {m : Str → Option Value} {env : Env}
/-- a comprehension of two clauses: the rows of a list, and each row's items -/
theorem ListComp_2 {iter0 : Expr} {x y : Str} {px py qy qx : Pos} {scope : Scope} {cl : List (Str × Addr)} {pos : Pos} {Q : Value → Shared → Prop}
    (F₀ : Fr h₀ L s.heap m) (hclos : closureFor scope env = pure cl) (hcell : ∀ y ∈ scope.names, y.2 ≠ .cell) (hkind : scope.kind = .function)
    (hnames : ∀ y ∈ scope.names, y.2 = .local → scope.names.lookup y.1 = some .local) (hx : scope.names.lookup x = some .local) (hy : scope.names.lookup y = some .local) (hdx : (x == ("__debug__" : Str)) = false) (hdy : (y == ("__debug__" : Str)) = false) (hh : A.handled = none)
    (h : wpAny (model prog w) A (eval iter0 env) (fun xv s₁ => ∃ (ax : Addr) (its : List Value) (ka : Nat) (dss : List (List Dat)) (news : List (Addr × Obj)), xv = .ref ax ∧ Fr h₀ L s₁.heap m ∧ News h₀ L s₁.heap news ∧ (ax, W.listOf its.toArray ka) ∈ news ∧ DatAll news its (dss.map Dat.list) ∧ dss.length ≤ 100 ∧ (∀ ds ∈ dss, ds.length ≤ 100) ∧
      ∀ D ys h tk, Fr h₀ L h m → News h₀ L h ((D, LCg.lst ys) :: news) → DatAll news ys dss.flatten → Q (.ref D) { s₁ with heap := h, toks := tk }) E s)
    (hs : ∀ x, foldedSetIterable iter0 env x = pure x) :
    wpAny (model prog w) A (eval (.ListComp (.Name y qy) [⟨.Name x px, iter0, [], 0⟩, ⟨.Name y py, .Name x qx, [], 0⟩] scope pos) env) Q E s := by
  rw [eval_ListComp]
  refine wpAny_comprehension_free (use := none) rfl hs hclos hkind hnames (wpAny_mono h (fun xv s₁ h₁ => ?_) fun _ _ e => e)
  obtain ⟨ax, its, ka, dss, news, rfl, F, N, hax, hD, hn, hrow, hQ⟩ := h₁
  refine wpAny_pyIter_list (N.isList hax) ?_
  generalize hH1 : s₁.heap.push { cls := .type "list_iterator", data := .fields #[.ref ax, .int 0 0] } = H1
  have hI : s₁.heap.get? s₁.heap.objs.size = none := Heap.get?_none_of_le (Nat.le_refl _)
  have it1 : H1.IsListIter s₁.heap.objs.size ax 0 := ⟨_, hH1 ▸ Heap.get?_push_size _ rfl, rfl, rfl⟩
  have up1 : ∀ b o, s₁.heap.get? b = some o → H1.get? b = some o := fun b o e => hH1 ▸ Heap.get?_push_of_some _ e
  have z1 : H1.objs.size = s₁.heap.objs.size + 1 := by rw [← hH1, Heap.size_push]
  refine wpAny_newObj_type (wpAny_newFunctionEnv hcell (by intro y hy; simp at hy) (fun h₁ hns₁ hsb₁ => ?_) hkind)
  dsimp only at hns₁ hsb₁ ⊢
  generalize hH2 : H1.push { cls := .type "list", dict := none, data := .seq ([] : List Value).toArray } = H2 at hns₁ hsb₁ ⊢
  have z2 : H2.objs.size = s₁.heap.objs.size + 1 + 1 := by rw [← hH2, Heap.size_push, z1]
  have up2 : ∀ b o, H1.get? b = some o → H2.get? b = some o := fun b o e => hH2 ▸ Heap.get?_push_of_some _ e
  have z3 : s₁.heap.objs.size < H2.objs.size := by rw [z2]; omega
  have up3 : ∀ b o, s₁.heap.get? b = some o → h₁.get? b = some o := fun b o e => hsb₁.extBut b o (Nat.ne_of_lt (Nat.lt_trans (Heap.lt_size e) z3)) (Heap.get?_push_of_some _ (up2 b o (up1 b o e)))
  have hIC : s₁.heap.objs.size ≠ H2.objs.size := Nat.ne_of_lt (by rw [z2]; omega)
  have hDC : H1.objs.size ≠ H2.objs.size := Nat.ne_of_lt (by rw [z2, z1]; omega)
  have hDI : H1.objs.size ≠ s₁.heap.objs.size := Nat.ne_of_gt (by rw [z1]; omega)
  have fresh₀ : ∀ a : Addr, s₁.heap.objs.size ≤ a → h₀.get? a = none := fun a ha => by
    cases e : h₀.get? a with
    | none => rfl
    | some o' =>
      have := Heap.lt_size (F.keep a o' e)
      exact absurd this (Nat.not_lt.mpr ha)
  have hLlt : (L : Nat) < s₁.heap.objs.size := F.ns.lt
  have it3 : h₁.IsListIter s₁.heap.objs.size ax 0 := it1.at fun o e => hsb₁.extBut _ _ hIC (Heap.get?_push_of_some _ (up2 _ _ e))
  have hacc : h₁.get? H1.objs.size = some (LCg.lst []) := hsb₁.extBut _ _ hDC (Heap.get?_push_of_some _ (hH2 ▸ Heap.get?_push_size _ rfl))
  have hI₀ := fresh₀ s₁.heap.objs.size (Nat.le_refl _)
  have hD₀ := fresh₀ H1.objs.size (by rw [z1]; exact Nat.le_succ _)
  have hC₀ := fresh₀ H2.objs.size (by rw [z2]; exact Nat.le_trans (Nat.le_succ _) (Nat.le_succ _))
  have hIL : s₁.heap.objs.size ≠ L := Nat.ne_of_gt hLlt
  have hDL : H1.objs.size ≠ L := Nat.ne_of_gt (Nat.lt_trans hLlt (by rw [z1]; exact Nat.lt_succ_self _))
  have hCL : H2.objs.size ≠ L := Nat.ne_of_gt (Nat.lt_trans hLlt z3)
  have N3 : News h₀ L h₁ news := fun p hp => ⟨up3 _ _ (N p hp).1, (N p hp).2⟩
  have go : ∀ s₃ : Shared, s₃.heap = h₁ → (∃ tk, s₃ = { s₁ with heap := s₃.heap, toks := tk }) →
      codeAny (model prog w) A (.compLoop (.ListComp (.Name y qy) [⟨.Name x px, iter0, [], 0⟩, ⟨.Name y py, .Name x qx, [], 0⟩] scope pos) 0 (.ref s₁.heap.objs.size) (.ref H1.objs.size) (compEnvC scope cl H2.objs.size env))
        (compPost (model prog w) A E none Q (.ref H1.objs.size) H2.objs.size) s₃ := by
    rintro s₃ hs₃ ⟨tk₃, he₃⟩
    refine loop_out (h₀ := h₀) (L := L) (m := m) (news := news) (its := its) (ka := ka) (dss := dss) (ax := ax) hh hx hy hkind hdx hdy hn hrow hax hD hIC hDC hIL hCL hDL hDI hI₀ hC₀ hD₀ ?_ ?_ (hs₃ ▸ it3) ?_
    · intro p hp
      have := Heap.lt_size (N p hp).1
      exact ⟨Nat.ne_of_lt this, Nat.ne_of_lt (Nat.lt_trans this z3), Nat.ne_of_lt (Nat.lt_trans this (by rw [z1]; omega))⟩
    · rw [hs₃]
      refine ⟨F.keeps up3, fun p hp => ?_, ⟨_, hns₁⟩⟩
      rcases List.mem_cons.mp hp with rfl | hp
      · exact ⟨hacc, hDL, hD₀⟩
      · exact N3 p hp
    · intro ys h' tk hys st
      obtain ⟨m', hm'⟩ := st.ns
      refine ⟨m', hm', fun h'' hs'' => ?_⟩
      rw [he₃]
      refine hQ H1.objs.size ys h'' tk (st.fr.change hs'' hCL hC₀) (fun p hp => ⟨hs''.extBut _ _ ?_ (st.nw p hp).1, (st.nw p hp).2⟩) hys
      rcases List.mem_cons.mp hp with rfl | hp
      · exact hDC
      · have := Heap.lt_size (N p hp).1
        exact Nat.ne_of_lt (Nat.lt_trans this z3)
  exact codeAny_compStart_list (go _ rfl ⟨_, rfl⟩) (wpAny_pyIter_listiter it3 (go _ rfl ⟨_, rfl⟩))
end
end Mine
end

section
theorem Mine.reset38 : True := by
  w_top off
  k_with_none
  trivial
open PySem PySem.W PyProof.Rows PySem.Calls PyProof.V PySem.Spec
set_option maxRecDepth 100000
namespace Mine
theorem pick_all (vs : List Value) : slicePick vs.toArray none none none = vs.toArray := by
  apply Array.toList_inj.mp
  rw [kmk_pick_nat (a := 0) (b := vs.length)]
  · simp
  · show ((0 : Int), ((vs.toArray.size : Nat) : Int), (1 : Int)) = _
    rw [List.size_toArray]
    rfl
theorem fillItems : Challenge.rw_tc0026_01.name = Challenge.rw_tc0026_01.name ∧ Mine.hd.heap_39 = Mine.hd.heap_39 := by
  k_fill
  exact ⟨rfl, rfl⟩
section
variable {prog : Program} {w : World} {p : Program} {loose : List Str} {mean : ExcName → Option Value} {mg mb : Str → Option Value} {news : List (Addr × Obj)}
  {dp un : Nat} {gd : Option (List Code)} {cn : Str} {cs : Scope} {a : Addr} {ccd : Value} {cl : List (Str × Addr)} {outer : List Env} {A₀ : Around} {base h₀ : Heap} {L : Addr} {m : Str → Option Value} {s : Shared} {Q E : Value → Shared → Prop}
set_option maxHeartbeats 4000000 in
theorem items_call {x dx l : Addr} {tk0 : Tok} {vs : List Value} {k : Nat} (B : Below A₀ base outer h₀) (F : Fr h₀ L s.heap m) (X : (Mine.hd.heap_39 w.params).In h₀)
    (N : News h₀ L s.heap ((l, W.listOf vs.toArray k) :: (x, instObj 171 dx) :: (dx, dictOf [{ hash := PyData.keyHash w.params "_headers", key := .str "_headers" tk0, val := .ref l }] 1) :: news)) (T : Top p loose mean mg mb h₀) (hk : cs.kind = .function)
    (hvl : vs.length ≤ 1000) (hxl : x < l) (hdl : dx < x) (hd : dp + 1 < recursionLimit) (hu : un + 8 < cLine)
    (hret : ∀ r n h' tk', Fr h₀ L h' m → News h₀ L h' ((r, W.listOf vs.toArray n) :: (l, W.listOf vs.toArray k) :: (x, instObj 171 dx) :: (dx, dictOf [{ hash := PyData.keyHash w.params "_headers", key := .str "_headers" tk0, val := .ref l }] 1) :: news) → Q (.ref r) { s with heap := h', toks := tk' }) :
    wpAny (model prog w) (ktrTop dp un gd cn cs L a ccd cl outer) (call (.ref 135) [.ref x]) Q E s := by
  refine wpAny_call ?_
  cell_enter
  k_steps
  rename News _ _ _ _ => N9
  rw [pick_all] at N9
  exact hret _ _ _ _ (by assumption) N9
end
end Mine
end

section
theorem Mine.reset39 : True := by
  w_top off
  k_with_none
  trivial
open PySem PySem.W PyProof.Rows PySem.Calls PyProof.V PySem.Spec PySem.Builtin.Str
set_option maxRecDepth 100000
namespace Mine
theorem row_len {wd : List Nat} (hw : wd.length = 12) (ha : abc wd) {j : Nat} (h : j < (runsOf wd (squares wd)).length) : (rowOf wd (runsOf wd (squares wd)) j).length ≤ 12 := by
  unfold rowOf
  rw [List.length_map, List.getD_eq_getElem?_getD, List.getElem?_eq_getElem h]
  exact tk_len hw ha (List.getElem_mem _)
theorem es_flat (wd : List Nat) (R : List (Nat × Nat × Nat)) : ∀ n, ((List.range n).map fun i => (rowOf wd R i).map hp).flatten = (esOf wd R n).map hp
  | 0 => rfl
  | n + 1 => by
    rw [List.range_succ, List.map_append, List.flatten_append, es_flat wd R n, esOf_succ, List.map_append]
    simp
theorem tame_strOk {x : Str} (h : Tame x) : PyData.strOk x = true := by
  unfold PyData.strOk
  rw [Array.all_eq_true_iff_forall_mem]
  intro c hc
  have := h.1 c (by simpa using hc)
  simp
  omega
theorem es_ok {wd : List Nat} (hw : wd.length = 12) (ha : abc wd) {n : Nat} (hn : n ≤ (runsOf wd (squares wd)).length) : ∀ d ∈ (esOf wd (runsOf wd (squares wd)) n).map hp, kqdOk 8 d = true := by
  intro d hd
  obtain ⟨e, he, rfl⟩ := List.mem_map.mp hd
  have h1 : PyData.strOk (nm e.1.1 e.1.2) = true := tame_strOk (tame_nm (es_lt hw ha hn e he))
  have h2 : PyData.strOk e.2 = true := by
    unfold esOf at he
    obtain ⟨k, hk, hm⟩ := List.mem_flatMap.mp he
    have hk' := List.mem_range.mp hk
    unfold rowOf at hm
    obtain ⟨t, _, rfl⟩ := List.mem_map.mp hm
    have := runs_few wd
    exact tame_strOk (tame_num ⟨k, by omega⟩)
  show ([Dat.str (nm e.1.1 e.1.2), Dat.str e.2]).all (kqdOk 7) = true
  rw [List.all_cons, List.all_cons, List.all_nil]
  show (PyData.strOk (nm e.1.1 e.1.2) && (PyData.strOk e.2 && true)) = true
  rw [h1, h2]
  rfl
theorem pick_late {α : Type} {it lq tb dx du c4 c3 c2 c1 : α} {V : List α} : ∀ p ∈ V, p ∈ it :: lq :: tb :: dx :: du :: c4 :: c3 :: c2 :: c1 :: V := fun p hp => .tail _ (.tail _ (.tail _ (.tail _ (.tail _ (.tail _ (.tail _ (.tail _ (.tail _ hp))))))))
end Mine
end

section
theorem Mine.reset40 : True := by
  w_top off
  k_with_none
  trivial
open PySem PySem.W PyProof.Rows Mine PySem.Calls PyProof.V PySem.Spec
local macro_rules | `(tactic| walk_at "CompSrc") => `(tactic| refine Held.of ?_)
local macro_rules | `(tactic| walk_at "CompSrcT") => `(tactic| refine Held.of ?_)
local macro_rules | `(tactic| walk_at "CompEnd") => `(tactic| refine Held.of ?_)
local macro_rules | `(tactic| walk_at "subscriptTail List cons Slice ref ref") => `(tactic| refine Held.of ?_)
local macro_rules | `(tactic| walk_at "call builtin:str.join") => `(tactic| refine Held.of ?_)
local macro_rules | `(tactic| walk_at "eval ListComp") => `(tactic| refine Held.of ?_)
local macro_rules | `(tactic| walk_at "call ref") => `(tactic| refine Held.of ?_)
local macro_rules | `(tactic| walk_at "eval BoolOp") => `(tactic| refine Held.of ?_)
local macro_rules | `(tactic| walk_at "eval IfExp") => `(tactic| refine Held.of ?_)
local macro_rules | `(tactic| walk_at "call builtin:len") => `(tactic| ((have xM : MarkLaw := by with_reducible assumption); clear xM; (with_reducible show wpAny _ _ (call (Value.builtin "len") [Value.ref _]) _ _ _); refine Held.of ?_))
local macro_rules | `(tactic| size_fits) => `(tactic| with_reducible assumption)
local macro_rules | `(tactic| walk_at "pyIter ref") => `(tactic| refine Held.of ?_)
local macro_rules | `(tactic| walk_at "exec For Name Call cons nil") => `(tactic| (k_here; (rename Fr _ _ _ _ => lF'); (with_unfolding_all refine' For_turns lF' ?_ ?hs; (case hs => (intro _; with_unfolding_all rfl)); k_whole)))
local macro_rules | `(tactic| walk_at "exec If") => `(tactic| refine wpAny_If ?_)
local macro_rules | `(tactic| walk_at "call builtin:str.index") => `(tactic| refine Held.of ?_)
set_option maxRecDepth 100000 in
set_option maxHeartbeats 8000000 in
theorem Mine.law_holds : PySem.Challenge.rw_tc0026_01.Holds := Mine.hd (by
  k_go0
  rename Below _ _ _ _ => K0
  rename Frag.In _ _ => KX
  rename Top _ _ _ _ _ _ => T
  (all_goals try k_fold)
  k_steps
  rename Fr _ _ _ _ => F
  rename News _ _ _ _ => N
  rename IntsAre _ (List.take 6 _) => hI
  obtain ⟨ms, hms, hI, h6⟩ := take6 hI
  have hlen := hI.length
  refine Held.out (LCg.CompSrc.ledger rfl F N (.head _) (by rw [List.size_toArray, sizeLine_eq]; omega) (fun g => comp_rest (as := ms) (fun k v => ∃ t, v = .int k t) (fun k v => ∃ t, v = .int (k.fmod (10 ^ Int.toNat 6)) t) ?_ ?_ ?_ ?_))
  · rw [List.size_toArray]; exact hlen.symm
  · intro i v _ hv
    exact ints_get hI (by simpa using hv)
  · intro k v I oI C oC D m₂ ys h tk E' hk1 hv hC hx F N off ne
    obtain ⟨t, rfl⟩ := hv
    have offS := off
    simp only [LCg.Off3, and_true] at off
    k_steps
    exact Held.out (LCg.CompEnd.intro (by assumption) (by assumption) _ (fun p hp => hp) offS (.inr ⟨_, .head _, rfl, _, rfl⟩) ⟨rfl, _, rfl⟩)
  · intro ys hys
    have hys' := rel_ints' hys
    have hyl := hys.length
    k_steps
    rename Fr _ _ _ _ => F2
    rename News _ _ _ _ => N2
    refine Held.out (kba_turn (value' := PySem.Expr.Name (PySem.Str.ofString "_") ⟨0, 0, 0, 0⟩) (fun _ => rfl) ?_)
    k_dflt (refine' kmk_slice_ints F2 N2 ?zl ?zp ?zq ?zi ?zm ?zc ?_ ?zs ?zt ?zz)
    case zl => exact News.isList N2 (.head _)
    case zp => exact IsPart.int _ _
    case zq => exact IsPart.none
    case zi => l_ints
    case zm => exact pick_fill (by l_ints) (by rw [List.length_map]; exact h6)
    case zc => exact rfl
    case zs => with_unfolding_all rfl
    case zt => intro _; rfl
    case zz => kmk_size
    intro D2 ws2 h2 F3 N3 l3 hI3 _ _
    have hl3 := hI3.length
    have hys6 : ys.length ≤ 6 := by omega
    have hnum := IntsAre.append hys' hI3
    have hn6 : (ys ++ ws2).length = 6 := by
      rw [List.length_append, hl3, List.length_drop, List.length_map]
      show ys.length + (6 - ms.length) = 6
      omega
    generalize hns : List.map (fun k => k.fmod (10 ^ Int.toNat 6)) ms ++ List.drop (List.map (fun k => k.fmod (10 ^ Int.toNat 6)) ms).length _ = ns at hnum
    refine add_lists (vs := ys) (ws := ws2) (hsz := ?_) F3 N3 ⟨_, (N3 _ (.tail _ (.tail _ (.head _)))).1, rfl, _, rfl⟩ ⟨_, (N3 _ (.head _)).1, rfl, _, rfl⟩ ?_
    rotate_left
    · rw [sizeLine_eq, ← List.length_append, hn6]; decide
    intro h9 F9 N9
    clear F2 N2 F3 N3 hys' hI3 hys
    k_steps
    refine Held.out ?_
    k_dflt (refine LCg.ListComp_U (F₀ := by k_asm) (by rfl) (by decide) (by rfl) (by decide) (by rfl) ?_)
    k_dflt lcg_toSrc
    rename Fr _ _ _ _ => F4
    rename News _ _ _ _ => N4
    refine Held.out (LCg.CompSrc.ledger rfl F4 N4 (.head _) (by rw [List.size_toArray, sizeLine_eq, hn6]; decide) (fun g => comp_rest (as := ns) (fun k v => ∃ t, v = .int k t) (fun k v => ∃ t, v = .str (two k) t) ?_ ?_ ?_ ?_))
    · rw [List.size_toArray]; exact hnum.length.symm
    · intro i v _ hv
      exact ints_get hnum (by simpa using hv)
    · intro k v I oI C oC D m₂ ys h tk E' hk1 hv hC hx F N off ne
      obtain ⟨t, rfl⟩ := hv
      have offS := off
      simp only [LCg.Off3, and_true] at off
      iterate 20 (first | walk1 | (dsimp only; walk1))
      exact Held.out (LCg.CompEnd.intro (by assumption) (by assumption) _ (fun p hp => hp) offS (.inr ⟨_, .head _, rfl, _, rfl⟩) ⟨rfl, _, congrArg (fun y => Value.str y _) (two_eq k)⟩)
    · intro zs hzs
      have hstr := rel_strs hzs
      iterate 3 (first | walk1 | (dsimp only; walk1))
      rename News _ _ _ _ => N5
      rename Fr _ _ _ _ => F5
      have hnl : ns.length = 6 := by rw [← hnum.length]; exact hn6
      refine Held.out (join_list (N5.isList (.head _)) (by simpa using hstr) (by rw [two_sum, List.length_map]; show 2 * ns.length + ns.length * 0 ≤ _; omega) ?_)
      intro tt kt
      rw [text_of ns]
      have habc := text_abc ns
      have hwl := text_len ns
      rw [hnl] at hwl
      generalize ns.flatMap twoL = wd at habc hwl ⊢
      clear hstr hzs hnum hns hn6 hys6 hl3 hyl hlen
      dsimp only
      have N6 := cb_drop N5 (fun p hp => .tail _ (.tail _ (.tail _ (.tail _ (.tail _ (.tail _ hp))))))
      obtain ⟨m0, F6⟩ := fr_some F5
      clear N5 F5 F4 N4
      k_steps
      rename Fr _ _ _ _ => F7
      rename News _ _ _ _ => N7
      refine Held.out ?_
      refine' ListComp_S F7 ?ka ?kb ?kc ?kd ?ke ?kf ?_ ?kg
      case ka => exact rfl
      case kb => decide
      case kc => exact rfl
      case kd => decide
      case ke => exact rfl
      case kf => exact rfl
      case kg => intro _; rfl
      walk1
      refine ⟨_, _, _, rfl, F7, N7, ?_, ?_, fun g => ?_⟩
      · exact abc_ascii habc
      · show (str wd).length ≤ _
        rw [str_length, hwl]; decide
      refine comp_rest (as := wd) (fun c v => ∃ t, v = .str (str [c]) t) (fun c v => ∃ t, v = .str (str [196 - c]) t) ?_ ?_ ?_ ?_
      · exact (str_length wd).symm
      · intro i v _ hv
        obtain ⟨c, u, hc, rfl⟩ := hv
        exact ⟨c, by simpa [str] using hc, u, rfl⟩
      · intro c v I oI C oC D m₂ ys h tk E' hc1 hv hC hx F N off ne
        obtain ⟨t, rfl⟩ := hv
        have offS := off
        simp only [LCg.Off3, and_true] at off
        have hcc := habc c hc1
        k_steps
        refine Held.out (SC.index (idx_abc hcc) ?_)
        have hc0 : (0 : Int) ≤ ((c - 97 : Nat) : Int) := Int.natCast_nonneg _
        have hc3 : ((c - 97 : Nat) : Int) < 3 := by omega
        dsimp only
        iterate 2 (first | walk1 | (dsimp only; walk1))
        exact Held.out (LCg.CompEnd.intro (by assumption) (by assumption) _ (fun p hp => hp) offS trivial ⟨rfl, _, congrArg (fun y => Value.str y _) (item_cba hcc)⟩)
      · intro zs hzs
        have hstr := rel_strs hzs
        iterate 3 (first | walk1 | (dsimp only; walk1))
        rename News _ _ _ _ => N8
        rename Fr _ _ _ _ => F8
        refine Held.out (join_list (N8.isList (.head _)) (by simpa using hstr) (by rw [mirr_sum, List.length_map, hwl]; decide) ?_)
        intro tt2 kt2
        rw [mirr_join]
        clear hstr hzs
        dsimp only
        have N9 := cb_drop N8 (fun p hp => .tail _ hp)
        clear N8
        k_steps
        rename Fr _ _ _ _ => F10
        rename News _ _ _ _ => N10
        have hw12 : wd.length = 12 := hwl
        refine Held.out ?_
        refine' told_call ?kB ?kF ?kX ?kN ?kT ?kK ?hw ?ha ?hd ?hu ?_
        case kB => exact K0
        case kF => exact F10
        case kX => exact KX
        case kN => exact N10
        case kT => exact T
        case kK => exact rfl
        case hw => exact hw12
        case ha => exact habc
        case hd => ktr_room
        case hu => ktr_units
        intro l1 vs1 k1 tl1 h11 tk11 F11 N11 o11 n11 d11
        have N12 := news_swap N11
        simp only [List.cons_append, List.nil_append] at N12
        clear N11
        dsimp only
        k_steps
        rename Fr _ _ _ _ => F13
        rename News _ _ _ _ => N13
        refine Held.out ?_
        refine' plain_call ?kB ?kF ?kX ?kN ?kT ?kK ?hw ?ha ?hd ?hu ?_
        case kB => exact K0
        case kF => exact F13
        case kX => exact KX
        case kN => exact N13
        case kT => exact T
        case kK => exact rfl
        case hw => exact hw12
        case ha => exact habc
        case hd => ktr_room
        case hu => ktr_units
        intro l2 vs2 k2 tl2 h14 tk14 F14 N14 o14 n14 d14
        have sqok : ∀ d ∈ (squares wd).map pr, kqdOk 8 d = true := fun d hd => by
          obtain ⟨x, _, rfl⟩ := List.mem_map.mp hd
          rfl
        dsimp only
        refine kqd_ne N14 (.tail _ (List.mem_append_right _ (.head _))) rfl rfl d11 ?s1 (.head _) rfl rfl d14 ?s2 sqok sqok ?hu ?_
        case s1 => exact fun p hp => .tail _ (List.mem_append_right _ (.tail _ (.tail _ (.tail _ (.tail _ (.tail _ hp))))))
        case s2 => exact fun p hp => .tail _ (List.mem_append_left _ hp)
        case hu => ktr_units
        simp only [decide_true, Bool.not_true]
        have N15 := cb_drop N14 (fun p hp => .tail _ (List.mem_append_right _ hp))
        clear N14 d14 o14 n14 N13 sqok F13 N10 F10
        k_steps
        rename Fr _ _ _ _ => F17
        refine Held.out ?_
        refine' made_call ?kB ?kF ?kX ?kN ?kT ?kK ?hd ?hu ?_
        case kB => exact K0
        case kF => exact F17
        case kX => exact KX
        case kN => exact N15
        case kT => exact T
        case kK => exact rfl
        case hd => ktr_room
        case hu => ktr_units
        intro tb dx lq tkq h18 tk18 F18 N18 below18 dx18 xl18
        clear N15 F17
        dsimp only
        k_steps
        rename Fr _ _ _ _ => F19
        rename News _ _ _ _ => N19
        rename (_ ∧ _ ∧ _ ∧ _ ∧ _ ∧ _ ∧ _ ∧ _ ∧ _ ∧ AllLt _ _) => hltD
        rename (_ ∧ _ ∧ _ ∧ _ ∧ _ ∧ _ ∧ _ ∧ _ ∧ AllLt _ _) => hltU
        refine Held.out ?_
        refine' runs_call ?kB ?kF ?kX ?kN ?kT ?kK ?hw ?hl ?hds ?hsq ?hsl ?hd ?hu ?_
        case kB => exact K0
        case kF => exact F19
        case kX => exact KX
        case kN => exact N19
        case kT => exact T
        case kK => exact rfl
        case hw => exact hw12
        case hl => exact .tail _ (.tail _ (.tail _ (.tail _ (.tail _ (.head _)))))
        case hds => exact d11.mono fun p hp => .tail _ (.tail _ (.tail _ (.tail _ (.tail _ (.tail _ (.tail _ (.tail _ (.tail _ (.tail _ hp)))))))))
        case hsq => exact squares_room
        case hsl => have := squares_len wd; omega
        case hd => ktr_room
        case hu => ktr_units
        intro l3 vs3 k3 tl3 h20 tk20 F20 N20 o20 n20 d20
        clear N19 F19 d11
        generalize hR : runsOf wd (squares wd) = R at d20
        dsimp only
        rename World => ww
        rename Shared => s1
        have N21 := cb_drop N20 pick_loop
        obtain ⟨du, om, ot, hdu, hom, hot⟩ := loop_objs N21
        subst hdu
        subst hom
        subst hot
        have hV0 := off_head (o := W.listOf vs3.toArray k3) o20 n20 pick_addr
        clear N20 o20 n20
        have hrk : Ranks (s1.heap.objs.size + 1) (s1.heap.objs.size + 1 + 1) (s1.heap.objs.size + 1 + 1 + 1) (s1.heap.objs.size + 1 + 1 + 1 + 1) dx tb lq du := ⟨Nat.lt_succ_self _, Nat.lt_succ_self _, Nat.lt_succ_self _, below18 _ (.tail _ (.head _)), dx18, xl18, hltU.1⟩
        clear hltD hltU below18 dx18 xl18
        refine Held.out (list_turns (LL ww.params wd R tb dx lq du (s1.heap.objs.size + 1 + 1 + 1 + 1) (s1.heap.objs.size + 1 + 1 + 1) (s1.heap.objs.size + 1 + 1) (s1.heap.objs.size + 1) om ot tkq ((l3, W.listOf vs3.toArray k3) :: tl3)) rfl (by exact .tail _ (.tail _ (.tail _ (.tail _ (.tail _ (.tail _ (.tail _ (.tail _ (.head _))))))))) F20 N21 ?_ ?_ ?_)
        · refine ⟨[], 0, [], 0, _, _, ?x4, ?x3, _, rfl, ?h4, ?h3, .nil, .nil, hV0, fun p hp => hp, List.forall_mem_cons.mpr ⟨rfl, List.forall_mem_cons.mpr ⟨rfl, List.forall_mem_nil _⟩⟩⟩
          case h4 => assumption
          case h3 => assumption
        · clear N21 F20 hV0
          rintro i v m₁ nx h tk own hv hoff hl ⟨vs, k, dvs, kd, o4, o3, x4, x3, V, rfl, h4, h3, hes, hdue, hV, hkeep, hm⟩ F₁ N₁
          have F₂ := fr_known hm F₁
          clear F₁
          dsimp only [kstB] at F₂
          have hi : i < R.length := by
            have h1 := (List.getElem?_eq_some_iff.mp hv).1
            have h2 := d20.length
            rw [List.length_map] at h2
            omega
          obtain ⟨v', hv', hD⟩ := d20.get (k := i) (by rw [List.length_map]; exact hi)
          rw [hv] at hv'
          cases hv'
          rw [List.getElem_map] at hD
          obtain ⟨⟨f, e, q⟩, hr⟩ : ∃ r, R[i] = r := ⟨_, rfl⟩
          rw [hr] at hD
          obtain ⟨a, n, ta, tb', tc, rfl, ham⟩ := tr_open hD
          have hgetD : R.getD i (0, 0, 0) = R[i] := by rw [List.getD_eq_getElem?_getD, List.getElem?_eq_getElem hi]; rfl
          obtain ⟨U, hW⟩ : ∃ U, U = V ++ own := ⟨_, rfl⟩
          have haV := hkeep _ (.tail _ ham)
          have hoff' : OwnOff own (lq :: tb :: dx :: du :: (s1.heap.objs.size + 1 + 1 + 1 + 1) :: (s1.heap.objs.size + 1 + 1 + 1) :: (s1.heap.objs.size + 1 + 1) :: (s1.heap.objs.size + 1) :: V.map (·.1)) := hoff
          have hUo : OwnOff U [lq, tb, dx, du, s1.heap.objs.size + 1 + 1 + 1 + 1, s1.heap.objs.size + 1 + 1 + 1, s1.heap.objs.size + 1 + 1, s1.heap.objs.size + 1] := hW ▸ off_app hV (off_eight hoff')
          have N₂ := cb_drop (news := (a, _) :: (lq, W.listOf vs.toArray k) :: (tb, instObj 171 dx) :: (dx, dictOf [{ hash := PyData.keyHash ww.params (Str.ofString "_headers"), key := .str (Str.ofString "_headers") tkq, val := .ref lq }] 1) :: (du, W.listOf dvs.toArray kd) :: (s1.heap.objs.size + 1 + 1 + 1 + 1, o4) :: (s1.heap.objs.size + 1 + 1 + 1, o3) :: (s1.heap.objs.size + 1 + 1, om) :: (s1.heap.objs.size + 1, ot) :: U) N₁ (pick_turn hW haV)
          clear N₁ hv hD
          obtain ⟨r1, r2, r3, r4, r5, r6, r7⟩ := hrk
          have ha := hUo _ (hW ▸ List.mem_append_left _ haV)
          simp only [List.mem_cons, List.not_mem_nil, or_false, forall_eq_or_imp, forall_eq] at ha
          obtain ⟨ha1, ha2, ha3, ha4, ha5, ha6, ha7, ha8⟩ := ha
          dsimp only at ham haV N₂
          have hrm : (f, e, q) ∈ R := hr ▸ List.getElem_mem hi
          rw [← hR] at hrm
          have O := run_on hw12 habc hrm
          have hle : e ≤ 12 := hw12 ▸ O.le
          have hp1 : 1 ≤ q := O.p1
          have hroom : f + 2 * q ≤ e := O.room
          have hT : (str wd).length = 12 := by rw [str_length, hw12]
          k_steps
          rename Fr _ _ _ _ => F3
          rename News _ _ _ _ => N3
          refine Held.out (via_val (.bool (dnOf wd (f, e, q))) F3 N3 ?_ ?_)
          · have he : e < 12 ∨ e = 12 := by omega
            rcases he with he | he
            · refine Held.out (BoolOp_and ?_)
              k_steps
              refine Held.out (BoolOp_one ?_)
              k_steps
              rename Fr _ _ _ _ => F4
              rename News _ _ _ _ => N4
              refine Held.out ?_
              refine' lt_call ?kB ?kF ?kX ?kN ?kT ?kK ?hd ?hu ?_
              case kB => exact K0
              case kF => exact F4
              case kX => exact KX
              case kN => exact N4
              case kT => exact T
              case kK => exact rfl
              case hd => ktr_room
              case hu => ktr_units
              intro h24 tk24 F24 N24
              dsimp only
              k_steps
              exact Via.at (by assumption) (by assumption) (congrArg Value.bool (dn_val hw12 he (by omega)))
            · refine Held.out (BoolOp_and ?_)
              k_steps
              refine Via.at (by assumption) (by assumption) ?_
              congr 1
              unfold dnOf
              rw [hT, he]
              rfl
          · intro h25 tk25 F25 N25
            clear F3 N3 F₂ N₂
            obtain ⟨d, hd⟩ : ∃ d, d = dnOf wd (f, e, q) := ⟨_, rfl⟩
            rw [← hd]
            k_steps
            rename Fr _ _ _ _ => F5
            rename News _ _ _ _ => N5
            refine Held.out (via_val (.ref (if d then 196 else 189)) F5 N5 ?_ ?_)
            · refine Held.out (IfExp_ ?_)
              clear hd
              cases d
              · k_steps
                exact Via.at (by assumption) (by assumption) rfl
              · k_steps
                exact Via.at (by assumption) (by assumption) rfl
            · intro h26 tk26 F26 N26
              clear F5 N5
              k_steps
              rename Fr _ _ _ _ => F6
              rename News _ _ _ _ => N6
              refine Held.out ?_
              refine' taken_any d ?kB ?kF ?kX ?kT ?kK ?kN ?hw ?hf ?he ?hq ?hd ?hu ?_
              case kB => exact K0
              case kF => exact F6
              case kX => exact KX
              case kN => exact N6
              case kT => exact T
              case kK => exact rfl
              case hw => exact hw12
              case hf => exact hroom
              case he => exact hle
              case hq => exact hp1
              case hd => ktr_room
              case hu => ktr_units
              intro lt tvs kt h27 tk27 F27 N27 n27 hts
              have htk : takenTo wd q d (f + 1) (e - q - f) = tkOf wd (f, e, q) := by rw [hd]; rfl
              rw [htk] at hts
              have hcount := tk_count hw12 habc hrm
              have htl := ints_len hts
              simp only [List.map_cons, List.mem_cons, forall_eq_or_imp] at n27
              obtain ⟨na, nlq, ntb, ndx, ndu, n4, n3, n2, n1, nU⟩ := n27
              clear F6 N6
              have mark : MarkLaw := trivial
              k_steps
              rename Fr _ _ _ _ => F7
              rename News _ _ _ _ => N7
              obtain ⟨c, hc⟩ : ∃ c, c = (tkOf wd (f, e, q)).length := ⟨_, rfl⟩
              rw [← hc] at htl hcount
              obtain ⟨hc1, hc2⟩ := count_ints hroom hcount
              have hc12 : c ≤ 12 := by
                rw [hc]; unfold tkOf
                exact Nat.le_trans (takenTo_len _ _ _ _ _) (by show e - q - f ≤ 12; omega)
              refine Held.out (len_taken (N7.isList (.head _)) htl (by omega) ?_)
              iterate 3 (first | walk1 | (dsimp only; walk1))
              rw [decide_eq_true hc1]
              iterate 8 (first | walk1 | (dsimp only; walk1))
              rw [decide_eq_true hc2]
              k_steps
              rename Fr _ _ _ _ => F8
              rename News _ _ _ _ => N8
              have hsl : (seen d wd).length = 12 := by rw [Mine.seen_length, hw12]
              refine Held.out (LCg.CompSrc.ledger rfl F8 N8 (.head _) (by rw [List.size_toArray, sizeLine_eq, htl]; omega) (fun g => comp_rest (as := tkOf wd (f, e, q)) (fun (k : Nat) v => ∃ t, v = .int (k : Int) t) (fun (k : Nat) v => ∃ t, v = .int (reachOf (seen d wd) k : Int) t) ?_ ?_ ?_ ?_))
              · rw [List.size_toArray, htl, hc]
              · intro i v _ hv
                obtain ⟨hj, t, e1⟩ := ints_at hts (by simpa using hv)
                exact ⟨_, List.getElem?_eq_getElem hj, t, e1⟩
              · intro k v I oI C oC D m₂ ys h tk E' hk1 hv hC hx F N off ne
                obtain ⟨t, rfl⟩ := hv
                have hk12 : k < 12 := tk_lt hw12 habc hrm hk1
                have offS := off
                simp only [LCg.Off3, and_true] at off
                clear F8 N8 hk1
                k_steps
                refine Held.out (via_val (.str (str (seen d wd)) (if d then tt2 else tt)) F N ?_ ?_)
                · refine Held.out (IfExp_ ?_)
                  clear hd
                  cases d
                  · k_steps
                    exact Via.at (by assumption) (by assumption) rfl
                  · k_steps
                    exact Via.at (by assumption) (by assumption) rfl
                · intro h30 tk30 F30 N30
                  clear F N
                  k_steps
                  rename Fr _ _ _ _ => F31
                  rename News _ _ _ _ => N31
                  refine Held.out ?_
                  refine' reach_call ?kB ?kF ?kX ?kT ?kK ?kN ?hw ?hi ?hd ?hu ?_
                  case kB => exact K0
                  case kF => exact F31
                  case kX => exact KX
                  case kN => exact N31
                  case kT => exact T
                  case kK => exact rfl
                  case hw => exact hsl
                  case hi => exact hk12
                  case hd => ktr_room
                  case hu => ktr_units
                  intro t32 h32 tk32 F32 N32
                  exact LCg.CompEnd.intro F32 N32 _ (fun p hp => hp) offS (.inr ⟨_, .head _, rfl, _, rfl⟩) ⟨rfl, _, rfl⟩
              · intro ys hys
                have hyi := rel_ints_f hys
                rw [show (tkOf wd (f, e, q)).map (reachOf (seen d wd)) = (tkOf wd (f, e, q)).map (fun x => x + q) from List.map_congr_left fun t ht => by have h9 := tk_reach hw12 habc hrm ht; rw [← hd] at h9; exact h9] at hyi
                clear F8 N8 hys
                have hdl : dvs.length = i := by rw [hdue.length, List.length_map, List.length_range]
                have hRl : R.length ≤ 66 := hR ▸ runs_few wd
                k_steps
                rename Fr _ _ _ _ => F9
                rename News _ _ _ _ => N9
                obtain ⟨D, o4', o3', hD', h4', h3'⟩ := laid_objs N9
                subst hD'
                subst h4'
                subst h3'
                refine Held.out (len_taken (N9.isList (by k_mem)) hdl (by omega) ?_)
                k_steps
                rename Fr _ _ _ _ => F33
                have N33 := cb_drop N9 pick_laid
                have htw : ∀ t ∈ tkOf wd (f, e, q), t < 12 := fun t ht => tk_lt hw12 habc hrm ht
                have hes12 : ∀ x ∈ esOf wd R i, x.1.2 < 12 := hR ▸ es_lt hw12 habc (hR ▸ Nat.le_of_lt hi)
                have helen : (esOf wd R i).length ≤ 12 * i := hR ▸ es_len hw12 habc (hR ▸ Nat.le_of_lt hi)
                have hnew : ∀ t ∈ tkOf wd (f, e, q), stands (esOf wd R i) t = none := by
                  subst hR
                  rw [← hr]
                  exact fun t ht => tk_new hw12 habc hi ht
                rename (lt ≠ _ ∧ _) => o1
                obtain ⟨oDlt, oDa, oDlq, oDtb, oDdx, oDdu, oD4, oD3, oD2, oD1, oDU⟩ := o1
                refine Held.out ?_
                refine' laid_call (q := numS i) (S := V) ?hS ?kB ?kF ?kX ?kN ?kT ?kK ?hds ?hes ?hlt ?hts ?hti ?htn ?hte ?hq ?hvl ?hxl ?hdl ?hoff ?hd ?hu ?_
                case kB => exact K0
                case kF => exact F33
                case kX => exact KX
                case kN => exact N33
                case kT => exact T
                case kK => exact rfl
                case hS => exact fun p hp => hW ▸ .tail _ (.tail _ (.tail _ (.tail _ (.tail _ (.tail _ (.tail _ (.tail _ (List.mem_append_left _ hp))))))))
                case hds => exact hes
                case hes => exact hes12
                case hlt => exact .tail _ (.head _)
                case hts => exact hts
                case hti => exact htw
                case htn => exact tk_nodup hw12 habc hrm
                case hte => exact hnew
                case hq => exact tame_num ⟨i, by omega⟩
                case hvl => omega
                case hxl => exact r6
                case hdl => exact r5
                case hoff =>
                  have s1' : s1.heap.objs.size + 1 ≠ lq := by have := r1; have := r2; have := r3; have := r4; have := r5; have := r6; exact Nat.ne_of_lt (by omega)
                  have s2' : s1.heap.objs.size + 1 + 1 ≠ lq := Nat.ne_of_lt (by omega)
                  have s3' : s1.heap.objs.size + 1 + 1 + 1 ≠ lq := Nat.ne_of_lt (by omega)
                  have s4' : s1.heap.objs.size + 1 + 1 + 1 + 1 ≠ lq := Nat.ne_of_lt (by omega)
                  exact off_cons (one_off (Ne.symm oDlq)) (off_cons (one_off nlq) (off_cons (one_off ha1) (off_cons (one_off (Nat.ne_of_gt r7)) (off_cons (one_off s4') (off_cons (one_off s3') (off_cons (one_off s2') (off_cons (one_off s1') (off_sub hUo fun b hb => by rw [List.mem_singleton.mp hb]; exact .head _))))))))
                case hd => ktr_room
                case hu => ktr_units
                intro rw_ nx h34 tk34 F34 N34 hLJ hltr
                obtain ⟨vs', k', rs, kr, V', rfl, hD1, hD2, hV1', hV2'⟩ := hLJ
                obtain ⟨UU, hWW⟩ : ∃ UU, UU = V' ++ U := ⟨_, rfl⟩
                have N35 := cb_drop N34 (pick_after hWW)
                simp only [AllLt] at hltr
                obtain ⟨hr0, hr1, hr2, hr3, hr4, hr5, hr6, hr7, hr8, hrU⟩ := hltr
                clear N34 N33 N9 F33
                k_steps
                refine Held.out ?_
                k_dflt (refine LCg.ListComp_U (F₀ := by k_asm) (by rfl) (by decide) (by rfl) (by decide) (by rfl) ?_)
                k_dflt lcg_toSrc
                rename Fr _ _ _ _ => F40
                rename News _ _ _ _ => N40
                refine Held.out (LCg.CompSrc.ledger rfl F40 N40 (.tail _ (.tail _ (.tail _ (.tail _ (.tail _ (.head _)))))) (by rw [List.size_toArray, sizeLine_eq, htl]; omega) (fun g => comp_rest (as := tkOf wd (f, e, q)) (fun (k : Nat) v => ∃ t, v = .int (k : Int) t) (fun (k : Nat) v => ∃ t, v = .int (((fun x => x + q) k : Nat) : Int) t) ?_ ?_ ?_ ?_))
                · rw [List.size_toArray, htl, hc]
                · intro i v _ hv
                  obtain ⟨hj, t, e1⟩ := ints_at hts (by simpa using hv)
                  exact ⟨_, List.getElem?_eq_getElem hj, t, e1⟩
                · intro k v I oI C oC D m₂ ys h tk E' hk1 hv hC hx F N off ne
                  obtain ⟨t, rfl⟩ := hv
                  have hk12 : k < 12 := htw k hk1
                  have offS := off
                  simp only [LCg.Off3] at off
                  clear F40 N40 hk1
                  k_steps
                  exact Held.out (LCg.CompEnd.intro (by assumption) (by assumption) _ (fun p hp => hp) offS (.inr ⟨_, .tail _ (.tail _ (.tail _ (.tail _ (.tail _ (.head _))))), rfl, _, rfl⟩) ⟨rfl, _, congrArg (fun y => Value.int y _) (Int.natCast_add k q).symm⟩)
                · intro zs hzs
                  have hzi := rel_ints_f hzs
                  clear F40 N40 hzs
                  k_steps
                  all_goals first | (rename (¬ _ = _) => hbad; exact absurd rfl hbad) | skip
                  rename News _ _ _ _ => N50
                  have N51 := cb_drop N50 pick_fin
                  clear N50
                  have hr4' : (du : Nat) < rw_ := hr4
                  have hz : dvs.toArray.size ≤ sizeLine := by rw [List.size_toArray, sizeLine_eq, hdl]; omega
                  rename Fr _ _ _ _ => F51
                  obtain ⟨hV8, hVU⟩ := off_laid hV1' hV2'
                  have hUU := off_app hV8 hUo
                  rw [← hWW] at hUU
                  refine append_K F51 N51 (Upd.tail (Nat.ne_of_lt r7) (Upd.tail (Nat.ne_of_lt (Nat.lt_trans r6 r7)) (Upd.tail (Nat.ne_of_lt (Nat.lt_trans r5 (Nat.lt_trans r6 r7))) (Upd.tail (Nat.ne_of_gt hr4) (Upd.head ?rest))))) ?_ hz
                  case rest =>
                    have s4' : s1.heap.objs.size + 1 + 1 + 1 + 1 ≠ du := Nat.ne_of_lt (by omega)
                    have s3' : s1.heap.objs.size + 1 + 1 + 1 ≠ du := Nat.ne_of_lt (by omega)
                    have s2' : s1.heap.objs.size + 1 + 1 ≠ du := Nat.ne_of_lt (by omega)
                    have s1' : s1.heap.objs.size + 1 ≠ du := Nat.ne_of_lt (by omega)
                    exact List.forall_mem_cons.mpr ⟨s4', List.forall_mem_cons.mpr ⟨s3', List.forall_mem_cons.mpr ⟨s2', List.forall_mem_cons.mpr ⟨s1', fun p hp => hUU p hp _ (.tail _ (.tail _ (.tail _ (.head _))))⟩⟩⟩⟩
                  intro h52 F52 N52
                  rw [hWW, hW] at N52
                  rw [hW] at hrU hVU
                  dsimp only
                  iterate 1 (first | walk1 | (dsimp only; walk1))
                  have hrow : rowOf wd R i = (tkOf wd (f, e, q)).map (ent d (numS i)) := by unfold rowOf; rw [hgetD, hr, hd]
                  exact LL_step F52 N52 (by assumption) (by assumption) hrow hD1 hD2 hdue hV8 hVU hV hkeep hoff' hr0 hr4 hr5 hr6 hr7 hr8 r6 r5 hrU (.head _) (List.forall_mem_cons.mpr ⟨rfl, List.forall_mem_cons.mpr ⟨rfl, List.forall_mem_nil _⟩⟩)
        · clear N21 F20 hV0
          rintro m₁ nx h tk ⟨vs, k, dvs, kd, o4, o3, x4, x3, V, rfl, h4, h3, hes, hdue, hV, hkeep, hm⟩ F₁ N₁
          have F₂ := fr_known hm F₁
          clear F₁
          dsimp only [kstB] at F₂
          have hvl3 : vs3.length = R.length := by rw [d20.length, List.length_map]
          have hRl : R.length ≤ 66 := hR ▸ runs_few wd
          rw [hvl3] at hes hdue
          have hel : (esOf wd R R.length).length ≤ 12 * R.length := by subst hR; exact es_len hw12 habc (Nat.le_refl _)
          have hvl : vs.length ≤ 1000 := by rw [hes.length, List.length_map]; omega
          have hok : ∀ d ∈ (esOf wd R R.length).map hp, kqdOk 8 d = true := by subst hR; exact es_ok hw12 habc (Nat.le_refl _)
          have hrl : ∀ i, i < R.length → (rowOf wd R i).length ≤ 12 := by subst hR; exact fun i hi => row_len hw12 habc hi
          obtain ⟨r1, r2, r3, r4, r5, r6, r7⟩ := hrk
          k_steps
          rename Fr _ _ _ _ => F59
          refine Held.out ?_
          refine' items_call ?kB ?kF ?kX ?kN ?kT ?kK ?hvl ?hxl ?hdl ?hd ?hu ?_
          case kB => exact K0
          case kF => exact F59
          case kX => exact KX
          case kN => exact N₁
          case kT => exact T
          case kK => exact rfl
          case hvl => exact hvl
          case hxl => exact r6
          case hdl => exact r5
          case hd => ktr_room
          case hu => ktr_units
          intro it n60 h60 tk60 F60 N60
          clear N₁ F59
          dsimp only
          refine' ListComp_2 F60 ?ka ?kb ?kc ?kd ?ke ?ke2 ?kdx ?kdy ?kf ?_ ?kg
          case ka => exact rfl
          case kb => decide
          case kc => exact rfl
          case kd => decide
          case ke => exact rfl
          case ke2 => exact rfl
          case kdx => decide
          case kdy => decide
          case kf => exact rfl
          case kg => intro _; rfl
          walk1
          refine ⟨du, dvs, kd, (List.range R.length).map fun i => (rowOf wd R i).map hp, _, rfl, F60, N60, .tail _ (.tail _ (.tail _ (.tail _ (.head _)))), ?_, ?_, ?_, ?_⟩
          · rw [List.map_map]
            exact hdue.mono pick_late
          · rw [List.length_map, List.length_range]; omega
          · intro ds hds
            obtain ⟨i, hi, rfl⟩ := List.mem_map.mp hds
            rw [List.length_map]
            exact Nat.le_trans (hrl i (List.mem_range.mp hi)) (by omega)
          · intro D ys h61 tk61 F61 N61 hys
            rw [es_flat] at hys
            dsimp only
            refine kqd_eq N61 (.tail _ (.head _)) rfl rfl hes ?s1 (.head _) rfl rfl hys ?s2 hok hok ?hu ?_
            case s1 => exact fun p hp => .tail _ (pick_late p hp)
            case s2 => exact fun p hp => .tail _ hp
            case hu => ktr_units
            simp only [decide_true]
            k_steps)
end

theorem PySem.Challenge.cw_tc0026_01_holds : PySem.Challenge.rw_tc0026_01.Holds := by
  exact Mine.law_holds
