import PyProof.Rows.All
import Wide.All
import OpenK.AllK
import Wide.FinOn
import PySem.Challenge.RW_ny0002_01
open PySem PySem.W PyProof.Rows
set_option Elab.async false
namespace Mine
/-- a turn's end: the heap has grown, the ledger stands, J holds of the frame -/
def TEnd (h₀ : Heap) (L : Addr) (led : List (Addr × Obj)) (J : (Str → Option Value) → Prop) (s₁ s₂ : Shared) : Prop :=
  ∃ (h' : Heap) (tk : Nat) (m' : Str → Option Value), s₂ = { s₁ with heap := h', toks := tk } ∧ Fr h₀ L h' m' ∧ News h₀ L h' led ∧ J m'
def TPost (h₀ : Heap) (L : Addr) (led : List (Addr × Obj)) (J : (Str → Option Value) → Prop) (s₁ : Shared) (Q : Flow → Shared → Prop) (f : Flow) (s₂ : Shared) : Prop :=
  match f with
  | .ret v => Q (.ret v) s₂
  | .brk => Q .next s₂
  | _ => TEnd h₀ L led J s₁ s₂
theorem TEnd.intro {h₀ : Heap} {L : Addr} {led all : List (Addr × Obj)} {J : (Str → Option Value) → Prop} {s₁ : Shared} {h' : Heap} {tk : Nat} {m' : Str → Option Value}
    (F : Fr h₀ L h' m') (N : News h₀ L h' all) (hs : ∀ p ∈ led, p ∈ all) (hj : J m') : TEnd h₀ L led J s₁ { s₁ with heap := h', toks := tk } :=
  ⟨h', tk, m', rfl, F, fun p hp => N p (hs p hp), hj⟩
section
variable {prog : Program} {w : World} {A : Around} {E : Value → Shared → Prop} {s : Shared} {env : Env} {h₀ : Heap} {target : Expr} {body : List Stmt} {Q : Flow → Shared → Prop}
theorem turns_rest {ax : Addr} {vs : List Value} {nn : Nat} {led : List (Addr × Obj)} {I : Addr} (J : Nat → (Str → Option Value) → Prop)
    (hm : (ax, listOf vs.toArray nn) ∈ led) (hI : ∀ p ∈ led, p.1 < I)
    (turn : ∀ (i : Nat) (v : Value) (m : Str → Option Value) (h : Heap) (tk : Nat) (o : Obj), vs[i]? = some v → J i m → Fr h₀ env.locals h m → News h₀ env.locals h ((I, o) :: led) →
      wpAny (model prog w) A (assign target env v) (fun _ s₂ => wpAny (model prog w) A (execs body env) (TPost h₀ env.locals ((I, o) :: led) (J (i + 1)) { s with heap := h, toks := tk } Q) E s₂) E { s with heap := h, toks := tk })
    (done : ∀ m h tk, J vs.length m → Fr h₀ env.locals h m → News h₀ env.locals h led → Q .next { s with heap := h, toks := tk }) :
    ∀ (suf : List Value) (i : Nat) (m : Str → Option Value) (n' : List (Addr × Obj)), vs.drop i = suf → i ≤ vs.length → (∀ p ∈ led, p ∈ n') → J i m →
      ItemsRest prog w A E h₀ env target body Q s [(I, "list_iterator")] [(ax, listOf vs.toArray nn)] (suf.map .val) m n' := by
  intro suf
  induction suf with
  | nil =>
    intro i m n' hd hle hs hj
    have hi : i = vs.length := by
      have := congrArg List.length hd
      simp only [List.length_drop, List.length_nil] at this
      omega
    subst hi
    intro h tk F N
    exact done m h tk hj F fun p hp => N p (hs p hp)
  | cons v suf ih =>
    intro i m n' hd hle hs hj
    have hlt : i < vs.length := by
      have := congrArg List.length hd
      simp only [List.length_drop, List.length_cons] at this
      omega
    have hv : vs[i]? = some v := by
      have : (vs.drop i)[0]? = some v := by rw [hd]; rfl
      simpa using this
    have hd' : vs.drop (i + 1) = suf := by
      have : (vs.drop i).drop 1 = suf := by rw [hd]; rfl
      simpa [List.drop_drop] using this
    intro u h tk e F
    have e' : u = v := e
    subst e'
    intro o _ N
    have N1 : News h₀ env.locals h ((I, o) :: led) := by
      intro p hp
      refine N p ?_
      rcases List.mem_cons.mp hp with rfl | hp
      · exact List.mem_append_left _ (List.mem_singleton.mpr rfl)
      · exact List.mem_append_right _ (hs p hp)
    refine wpAny_mono (turn i u m h tk o hv hj F N1) (fun _ s₂ h₂ => wpAny_mono h₂ (fun f s₃ h₃ => ?_) fun _ _ x => x) fun _ _ x => x
    have fin : TEnd h₀ env.locals ((I, o) :: led) (J (i + 1)) { s with heap := h, toks := tk } s₃ →
        UnrEndW h₀ env.locals { s with heap := h, toks := tk } [(I, o)] (fun m' n' => SubL [(ax, listOf vs.toArray nn)] n' ∧ ItemsRest prog w A E h₀ env target body Q s [(I, "list_iterator")] [(ax, listOf vs.toArray nn)] (suf.map .val) m' n') s₃ := by
      rintro ⟨h', tk', m', rfl, F', N', hj'⟩
      refine ⟨h', tk', m', led, rfl, F', fun p hp => N' p ?_, fun p hp q hq => ?_, ⟨hm, trivial⟩, ih (i + 1) m' led hd' hlt (fun _ hp => hp) hj'⟩
      · rcases List.mem_append.mp hp with hp | hp
        · rw [List.mem_singleton.mp hp]; exact List.mem_cons_self ..
        · exact List.mem_cons_of_mem _ hp
      · rw [List.mem_singleton.mp hq]
        exact Nat.ne_of_lt (hI p hp)
    cases f with
    | ret v => exact h₃
    | brk => exact h₃
    | next => exact fin h₃
    | cont => exact fin h₃
/-- a for over a list of the ledger, by J of the turn's number and the frame's map; the ledger stands -/
theorem turns_inv {ax : Addr} {vs : List Value} {nn : Nat} {led : List (Addr × Obj)} {m₀ : Str → Option Value} (J : Nat → (Str → Option Value) → Prop)
    (hh : A.handled = none) (F : Fr h₀ env.locals s.heap m₀) (N : News h₀ env.locals s.heap led) (hm : (ax, listOf vs.toArray nn) ∈ led) (hj : J 0 m₀)
    (turn : ∀ (I : Addr), (∀ p ∈ led, p.1 < I) → ∀ (i : Nat) (v : Value) (m : Str → Option Value) (h : Heap) (tk : Nat) (o : Obj), vs[i]? = some v → J i m → Fr h₀ env.locals h m → News h₀ env.locals h ((I, o) :: led) →
      wpAny (model prog w) A (assign target env v) (fun _ s₂ => wpAny (model prog w) A (execs body env) (TPost h₀ env.locals ((I, o) :: led) (J (i + 1)) { s with heap := h, toks := tk } Q) E s₂) E { s with heap := h, toks := tk })
    (done : ∀ m h tk, J vs.length m → Fr h₀ env.locals h m → News h₀ env.locals h led → Q .next { s with heap := h, toks := tk }) :
    wpAny (model prog w) A (pyIter (.ref ax)) (fun it s₂ => TurnsAt prog w A h₀ env target body Q E it s₂) E s :=
  iter_listTurns (n := nn) hh F N hm rfl rfl fun I hI => turns_rest J hm hI (turn I hI) done vs 0 m₀ led rfl (Nat.zero_le _) (fun _ hp => hp) hj

/-- the names that a turn may store; all else stands -/
def Off (stored : List Str) (m₀ m : Str → Option Value) : Prop := ∀ z, stored.contains z = false → m z = m₀ z
theorem Off.fr {stored : List Str} {m₀ m : Str → Option Value} {L : Addr} {h : Heap} (ho : Off stored m₀ m) (F : Fr h₀ L h m) : Fr h₀ L h (fun z => if stored.contains z then m z else m₀ z) := by
  have e : (fun z => if stored.contains z then m z else m₀ z) = m := by
    funext z
    cases hz : stored.contains z with
    | true => simp
    | false => simp [ho z hz]
  rw [e]; exact F
/-- nothing but names that are forgotten -/
theorem turns_off {ax : Addr} {vs : List Value} {nn : Nat} {led : List (Addr × Obj)} {m₀ : Str → Option Value} (stored : List Str)
    (hh : A.handled = none) (F : Fr h₀ env.locals s.heap m₀) (N : News h₀ env.locals s.heap led) (hm : (ax, listOf vs.toArray nn) ∈ led)
    (turn : ∀ (v : Value) (u : Str → Option Value) (h : Heap) (tk : Nat) (I : Addr) (o : Obj), v ∈ vs → (∀ p ∈ led, p.1 < I) → Fr h₀ env.locals h (fun z => if stored.contains z then u z else m₀ z) → News h₀ env.locals h ((I, o) :: led) →
      wpAny (model prog w) A (assign target env v) (fun _ s₂ => wpAny (model prog w) A (execs body env) (TPost h₀ env.locals ((I, o) :: led) (Off stored m₀) { s with heap := h, toks := tk } Q) E s₂) E { s with heap := h, toks := tk })
    (done : ∀ (u : Str → Option Value) (h : Heap) (tk : Nat), Fr h₀ env.locals h (fun z => if stored.contains z then u z else m₀ z) → News h₀ env.locals h led → Q .next { s with heap := h, toks := tk }) :
    wpAny (model prog w) A (pyIter (.ref ax)) (fun it s₂ => TurnsAt prog w A h₀ env target body Q E it s₂) E s :=
  turns_inv (fun _ => Off stored m₀) hh F N hm (fun _ _ => rfl)
    (fun I hI _ v m h tk o hv hj F' N' => turn v m h tk I o (List.mem_of_getElem? hv) hI (hj.fr F') N')
    (fun m h tk hj F' N' => done m h tk (hj.fr F') N')
/-- one name that holds a text, R of the turn's number and the text -/
def OneStr (y : Str) (stored : List Str) (m₀ : Str → Option Value) (R : Nat → Str → Prop) (i : Nat) (m : Str → Option Value) : Prop :=
  ∃ (x : Str) (t : Tok), m y = some (.str x t) ∧ (∀ z, z ≠ y → stored.contains z = false → m z = m₀ z) ∧ R i x
theorem OneStr.fr {y : Str} {stored : List Str} {m₀ m : Str → Option Value} {L : Addr} {h : Heap} {x : Str} {t : Tok} (h1 : m y = some (.str x t)) (h2 : ∀ z, z ≠ y → stored.contains z = false → m z = m₀ z) (F : Fr h₀ L h m) :
    Fr h₀ L h (fun z => if z = y then some (.str x t) else if stored.contains z then m z else m₀ z) := by
  have e : (fun z => if z = y then some (Value.str x t) else if stored.contains z then m z else m₀ z) = m := by
    funext z
    by_cases hy : z = y
    · rw [if_pos hy, hy, h1]
    · rw [if_neg hy]
      cases hz : stored.contains z with
      | true => simp
      | false => simp [h2 z hy hz]
  rw [e]; exact F
theorem turns_str {ax : Addr} {vs : List Value} {nn : Nat} {led : List (Addr × Obj)} {m₀ : Str → Option Value} {x₀ : Str} {t₀ : Tok} (y : Str) (stored : List Str) (R : Nat → Str → Prop)
    (hh : A.handled = none) (F : Fr h₀ env.locals s.heap m₀) (N : News h₀ env.locals s.heap led) (hm : (ax, listOf vs.toArray nn) ∈ led) (h0 : m₀ y = some (.str x₀ t₀)) (hr : R 0 x₀)
    (turn : ∀ (i : Nat) (v : Value) (x : Str) (t : Tok) (u : Str → Option Value) (h : Heap) (tk : Nat) (I : Addr) (o : Obj), vs[i]? = some v → R i x → (∀ p ∈ led, p.1 < I) →
      Fr h₀ env.locals h (fun z => if z = y then some (.str x t) else if stored.contains z then u z else m₀ z) → News h₀ env.locals h ((I, o) :: led) →
      wpAny (model prog w) A (assign target env v) (fun _ s₂ => wpAny (model prog w) A (execs body env) (TPost h₀ env.locals ((I, o) :: led) (OneStr y stored m₀ R (i + 1)) { s with heap := h, toks := tk } Q) E s₂) E { s with heap := h, toks := tk })
    (done : ∀ (x : Str) (t : Tok) (u : Str → Option Value) (h : Heap) (tk : Nat), R vs.length x → Fr h₀ env.locals h (fun z => if z = y then some (.str x t) else if stored.contains z then u z else m₀ z) → News h₀ env.locals h led → Q .next { s with heap := h, toks := tk }) :
    wpAny (model prog w) A (pyIter (.ref ax)) (fun it s₂ => TurnsAt prog w A h₀ env target body Q E it s₂) E s :=
  turns_inv (fun i => OneStr y stored m₀ R i) hh F N hm ⟨x₀, t₀, h0, fun _ _ _ => rfl, hr⟩
    (fun I hI i v m h tk o hv ⟨x, t, h1, h2, hR⟩ F' N' => turn i v x t m h tk I o hv hR hI (OneStr.fr h1 h2 F') N')
    (fun m h tk ⟨x, t, h1, h2, hR⟩ F' N' => done x t m h tk hR (OneStr.fr h1 h2 F') N')
end
/-- the greatest power of two in a run below 32 -/
def ownI (r : Int) : Int := if r % 16 = 0 then 16 else if r % 8 = 0 then 8 else if r % 4 = 0 then 4 else if r % 2 = 0 then 2 else 1
/-- what _law_left gives back -/
def leftF : List Dat → Int → Str → Str
  | Dat.tuple [Dat.int r, Dat.str x] :: ds, P, c =>
    if r % P = 0 then Txt.mul (Str.ofString "\"") (r / P) ++ x ++ leftF ds P c
    else if c = Str.ofString "" then Txt.mul (Str.ofString "\"") (r / P)
    else Txt.mul (Str.ofString "\"") (-((ownI r - r) / P))
  | _, _, _ => Str.ofString ""
/-- each a pair of a run below 24 and a sign that is no quote -/
def Shape (ds : List Dat) : Prop := ∀ d ∈ ds, ∃ (r : Int) (c : Nat), d = Dat.tuple [Dat.int r, Dat.str (Str.mk #[c])] ∧ 0 ≤ r ∧ r < 24 ∧ c ≠ 34
def LeftR (ds : List Dat) (P : Int) (c : Str) (i : Nat) (x : Str) : Prop := i ≤ ds.length ∧ x.length ≤ 25 * i ∧ x ++ leftF (ds.drop i) P c = leftF ds P c
theorem LeftR.zero {ds : List Dat} {P : Int} {c : Str} : LeftR ds P c 0 (Str.ofString "") := by
  refine ⟨Nat.zero_le _, by decide, ?_⟩
  rw [List.drop_zero]
  exact Str.empty_append _
section
variable {prog : Program} {w : World} {A : Around} {E : Value → Shared → Prop} {s : Shared} {env : Env} {h₀ : Heap} {target : Expr} {body : List Stmt} {Q : Flow → Shared → Prop}
theorem turns_pairs {ax : Addr} {vs : List Value} {nn : Nat} {led : List (Addr × Obj)} {m₀ : Str → Option Value} {x₀ : Str} {t₀ : Tok} {ds : List Dat} (y : Str) (stored : List Str) (R : Nat → Str → Prop)
    (hh : A.handled = none) (F : Fr h₀ env.locals s.heap m₀) (N : News h₀ env.locals s.heap led) (hm : (ax, listOf vs.toArray nn) ∈ led) (hD : DatAll led vs ds) (hS : Shape ds) (h0 : m₀ y = some (.str x₀ t₀)) (hr : R 0 x₀)
    (turn : ∀ (i : Nat) (a : Addr) (r : Int) (k : Nat) (tr ts : Tok) (x : Str) (t : Tok) (u : Str → Option Value) (h : Heap) (tk : Nat) (I : Addr) (o : Obj), ds[i]? = some (Dat.tuple [Dat.int r, Dat.str (Str.mk #[k])]) → 0 ≤ r → r < 24 → k ≠ 34 → R i x → (∀ p ∈ led, p.1 < I) →
      Fr h₀ env.locals h (fun z => if z = y then some (.str x t) else if stored.contains z then u z else m₀ z) → News h₀ env.locals h ((I, o) :: led) → IsTup h a #[.int r tr, .str (Str.mk #[k]) ts] →
      wpAny (model prog w) A (assign target env (.ref a)) (fun _ s₂ => wpAny (model prog w) A (execs body env) (TPost h₀ env.locals ((I, o) :: led) (OneStr y stored m₀ R (i + 1)) { s with heap := h, toks := tk } Q) E s₂) E { s with heap := h, toks := tk })
    (done : ∀ (x : Str) (t : Tok) (u : Str → Option Value) (h : Heap) (tk : Nat), R ds.length x → Fr h₀ env.locals h (fun z => if z = y then some (.str x t) else if stored.contains z then u z else m₀ z) → News h₀ env.locals h led → Q .next { s with heap := h, toks := tk }) :
    wpAny (model prog w) A (pyIter (.ref ax)) (fun it s₂ => TurnsAt prog w A h₀ env target body Q E it s₂) E s := by
  refine turns_str y stored R hh F N hm h0 hr ?_ ?_
  · intro i v x t u h tk I o hv hR hI F' N'
    have hlt : i < ds.length := by
      have := (List.getElem?_eq_some_iff.mp hv).1
      rw [hD.length] at this
      exact this
    obtain ⟨v', hv', hdat⟩ := hD.get hlt
    have e : v' = v := Option.some.inj (hv'.symm.trans hv)
    subst e
    obtain ⟨r, k, hd, h1, h2, h3⟩ := hS _ (List.getElem_mem hlt)
    rw [hd] at hdat
    have hd' : ds[i]? = some (Dat.tuple [Dat.int r, Dat.str (Str.mk #[k])]) := by rw [List.getElem?_eq_getElem hlt, hd]
    cases hdat with
    | tuple hmem hall =>
      cases hall with
      | cons ha hall =>
        cases hall with
        | cons hb hall =>
          cases hall with
          | nil =>
            cases ha with
            | int _ tr =>
              cases hb with
              | str _ ts =>
                exact turn i _ r k tr ts x t u h tk I o hd' h1 h2 h3 hR hI F' N' (News.isTup N' (List.mem_cons_of_mem _ hmem))
  · intro x t u h tk hR F' N'
    rw [hD.length] at hR
    exact done x t u h tk hR F' N'
end
theorem len_le_of {x : Str} {a b : Nat} (h : x.length ≤ a) (hab : a ≤ b) : x.length ≤ b := Nat.le_trans h hab
theorem slen_append (x y : Str) : (x ++ y).length = x.length + y.length := Str.length_append x y
theorem slen_one (k : Nat) : (Str.mk #[k]).length = 1 := rfl
section
variable {prog : Program} {w : World} {A : Around} {E : Value → Shared → Prop} {s : Shared} {Q : Value → Shared → Prop} {x y : Str} {t u : Tok}
theorem add_le (hx : x.length ≤ 1000) (hy : y.length ≤ 1000) (h : ∀ t' tk, (x ++ y).length = x.length + y.length → Q (.str (x ++ y) t') { s with toks := tk }) :
    wpAny (model prog w) A (binaryOp .Add (.str x t) (.str y u)) Q E s :=
  PyProof.Rows.add_str (fun t' tk => h t' tk (slen_append x y)) (by rw [sizeLine_eq]; omega)
end
theorem mul_cps (n : Int) : (Txt.mul (Str.ofString "\"") n).cps.toList = List.replicate n.toNat 34 := by
  have hq : Str.ofString "\"" = ⟨#[34]⟩ := by decide +kernel
  rw [hq]
  unfold Txt.mul
  by_cases h1 : n < 1
  · rw [if_pos h1]
    have : n.toNat = 0 := by omega
    rw [this]; rfl
  · rw [if_neg h1]
    by_cases h2 : n = 1
    · subst h2; rfl
    · rw [if_neg (by simp [h2, Str.length])]
      have key : ∀ (m : Nat) (a : Array Nat), ((List.replicate m (#[34] : Array Nat)).foldl (· ++ ·) a).toList = a.toList ++ List.replicate m 34 := by
        intro m
        induction m with
        | zero => intro a; simp
        | succ m ih => intro a; rw [List.replicate_succ, List.foldl_cons, ih]; simp [List.replicate_succ]
      have := key n.toNat #[]
      simpa using this
theorem mul_len (n : Int) : (Txt.mul (Str.ofString "\"") n).length = n.toNat := by
  show (Txt.mul (Str.ofString "\"") n).cps.size = n.toNat
  rw [← Array.length_toList, mul_cps, List.length_replicate]
section
variable {prog : Program} {w : World} {A : Around} {E : Value → Shared → Prop} {s : Shared} {Q : Value → Shared → Prop} {t u : Tok}
theorem mul_quote {n : Int} (h0 : -1000 ≤ n) (h1 : n ≤ 1000) (h : ∀ t' k, (Txt.mul (Str.ofString "\"") n).length = n.toNat → Q (.str (Txt.mul (Str.ofString "\"") n) t') { s with toks := k }) :
    wpAny (model prog w) A (binaryOp .Mult (.str (Str.ofString "\"") t) (.int n u)) Q E s :=
  SB.mul (mulOk_of 16 1048576 (by decide) (by omega) (by omega) (by decide) (by decide)) fun t' k => h t' k (mul_len n)
end
theorem fdiv_small {r P : Int} (h0 : 0 ≤ r) (h1 : r < 24) (hP : 1 ≤ P) : 0 ≤ r.fdiv P ∧ r.fdiv P < 24 := by
  rw [Int.fdiv_eq_ediv_of_nonneg _ (by omega)]
  exact ⟨Int.ediv_nonneg h0 (by omega), Int.lt_of_le_of_lt (Int.ediv_le_self _ h0) h1⟩
theorem fdiv_own {r P own : Int} (h0 : 0 ≤ r) (h1 : r < 24) (hP : 1 ≤ P) (ho : own = 1 ∨ own = 2 ∨ own = 4 ∨ own = 8 ∨ own = 16) : -1000 ≤ -((own - r).fdiv P) ∧ -((own - r).fdiv P) ≤ 24 := by
  rw [Int.fdiv_eq_ediv_of_nonneg _ (by omega)]
  have hP' : 0 < P := by omega
  have e1 : own - r ≤ 16 := by omega
  have e2 : -24 ≤ own - r := by omega
  constructor
  · have : (own - r) / P ≤ 16 := by
      by_cases hx : 0 ≤ own - r
      · exact Int.le_trans (Int.ediv_le_self _ hx) e1
      · have := Int.ediv_neg_of_neg_of_pos (by omega : own - r < 0) hP'
        omega
    omega
  · have : -24 ≤ (own - r) / P := by
      rw [Int.le_ediv_iff_mul_le hP']
      have : 24 * 1 ≤ 24 * P := by omega
      omega
    omega
theorem own_start {r : Int} : ((1 : Int) = 1 ∨ (1 : Int) = 2 ∨ (1 : Int) = 4 ∨ (1 : Int) = 8 ∨ (1 : Int) = 16) ∧ r % 1 = 0 := ⟨.inl rfl, Int.emod_one r⟩
theorem run_pos {r P : Int} (hr : r.fmod P ≠ 0) : r ≠ 0 := by
  intro h; subst h; exact hr (Int.zero_fmod P)
theorem own_step {r P own : Int} (h0 : 0 ≤ r) (h1 : r < 24) (hr : r.fmod P ≠ 0) (ho : own = 1 ∨ own = 2 ∨ own = 4 ∨ own = 8 ∨ own = 16) (ht : r.fmod (2 * own) = 0) :
    (2 * own = 1 ∨ 2 * own = 2 ∨ 2 * own = 4 ∨ 2 * own = 8 ∨ 2 * own = 16) ∧ r % (2 * own) = 0 := by
  have hp := run_pos hr
  rcases ho with rfl | rfl | rfl | rfl | rfl
  all_goals
    rw [Int.fmod_eq_emod_of_nonneg _ (by omega)] at ht
    refine ⟨?_, ht⟩
    omega
theorem own_end {r own : Int} (h0 : 0 ≤ r) (h1 : r < 24) (ho : own = 1 ∨ own = 2 ∨ own = 4 ∨ own = 8 ∨ own = 16) (hd : r % own = 0) (ht : r.fmod (2 * own) ≠ 0) : own = ownI r := by
  unfold ownI
  rcases ho with rfl | rfl | rfl | rfl | rfl
  all_goals
    rw [Int.fmod_eq_emod_of_nonneg _ (by omega)] at ht
    repeat' split
    all_goals omega
theorem LeftR.len {ds : List Dat} {P : Int} {c : Str} {i : Nat} {x : Str} (h : LeftR ds P c i x) (hl : ds.length = 5) : x.length ≤ 125 := by
  obtain ⟨h1, h2, _⟩ := h
  omega
theorem drop_at {ds : List Dat} {i : Nat} {d : Dat} (h : ds[i]? = some d) : ds.drop i = d :: ds.drop (i + 1) := by
  obtain ⟨hlt, e⟩ := List.getElem?_eq_some_iff.mp h
  rw [List.drop_eq_getElem_cons hlt, e]
theorem left_step {ds : List Dat} {P : Int} {c : Str} {i : Nat} {x : Str} {r : Int} {k : Nat} (hR : LeftR ds P c i x) (hd : ds[i]? = some (Dat.tuple [Dat.int r, Dat.str (Str.mk #[k])])) (h0 : 0 ≤ r) (h1 : r < 24) (hP : 1 ≤ P) (hr : r.fmod P = 0) :
    LeftR ds P c (i + 1) (x ++ Txt.mul (Str.ofString "\"") (r.fdiv P) ++ Str.mk #[k]) := by
  obtain ⟨a, b, e⟩ := hR
  have hlt := (List.getElem?_eq_some_iff.mp hd).1
  have hf := fdiv_small h0 h1 hP
  refine ⟨hlt, ?_, ?_⟩
  · rw [slen_append, slen_append, mul_len, slen_one]; omega
  · rw [drop_at hd] at e
    rw [← e, leftF]
    rw [Int.fmod_eq_emod_of_nonneg _ (by omega)] at hr
    rw [if_pos hr, Int.fdiv_eq_ediv_of_nonneg _ (by omega)]
    simp only [Str.append_assoc]
theorem left_ret1 {ds : List Dat} {P : Int} {c : Str} {i : Nat} {x : Str} {r : Int} {k : Nat} (hR : LeftR ds P c i x) (hd : ds[i]? = some (Dat.tuple [Dat.int r, Dat.str (Str.mk #[k])])) (hP : 1 ≤ P) (hr : r.fmod P ≠ 0) (hc : (c == Str.ofString "") = true) :
    x ++ Txt.mul (Str.ofString "\"") (r.fdiv P) = leftF ds P c := by
  obtain ⟨a, b, e⟩ := hR
  rw [drop_at hd] at e
  rw [← e, leftF]
  rw [Int.fmod_eq_emod_of_nonneg _ (by omega)] at hr
  rw [if_neg hr, if_pos (beq_iff_eq.mp hc), Int.fdiv_eq_ediv_of_nonneg _ (by omega)]
theorem left_ret2 {ds : List Dat} {P : Int} {c : Str} {i : Nat} {x : Str} {r own : Int} {k : Nat} (hR : LeftR ds P c i x) (hd : ds[i]? = some (Dat.tuple [Dat.int r, Dat.str (Str.mk #[k])])) (h0 : 0 ≤ r) (h1 : r < 24) (hP : 1 ≤ P) (hr : r.fmod P ≠ 0) (hc : (c == Str.ofString "") = false)
    (ho : own = 1 ∨ own = 2 ∨ own = 4 ∨ own = 8 ∨ own = 16) (ho2 : r % own = 0) (ht : r.fmod (2 * own) ≠ 0) :
    x ++ Txt.mul (Str.ofString "\"") (-((own - r).fdiv P)) = leftF ds P c := by
  obtain ⟨a, b, e⟩ := hR
  rw [drop_at hd] at e
  rw [← e, leftF, own_end h0 h1 ho ho2 ht]
  rw [Int.fmod_eq_emod_of_nonneg _ (by omega)] at hr
  rw [if_neg hr, if_neg (by simpa using hc), Int.fdiv_eq_ediv_of_nonneg _ (by omega)]
theorem left_end {ds : List Dat} {P : Int} {c : Str} {x : Str} (hR : LeftR ds P c ds.length x) : x = leftF ds P c := by
  obtain ⟨a, b, e⟩ := hR
  rw [List.drop_length] at e
  have : leftF [] P c = Str.ofString "" := by simp [leftF]
  rw [this] at e
  rw [← e]
  exact (Str.append_empty x).symm
section
variable {prog : Program} {w : World} {A : Around} {E : Value → Shared → Prop} {s : Shared} {Q : Value → Shared → Prop} {t u : Tok}
theorem mul_run {r P : Int} (h0 : 0 ≤ r) (h1 : r < 24) (hP : 1 ≤ P) (h : ∀ t' k, (Txt.mul (Str.ofString "\"") (r.fdiv P)).length ≤ 24 → Q (.str (Txt.mul (Str.ofString "\"") (r.fdiv P)) t') { s with toks := k }) :
    wpAny (model prog w) A (binaryOp .Mult (.str (Str.ofString "\"") t) (.int (r.fdiv P) u)) Q E s := by
  have hf := fdiv_small h0 h1 hP
  exact mul_quote (by omega) (by omega) fun t' k e => h t' k (by omega)
theorem mul_own {r P own : Int} (h0 : 0 ≤ r) (h1 : r < 24) (hP : 1 ≤ P) (ho : own = 1 ∨ own = 2 ∨ own = 4 ∨ own = 8 ∨ own = 16) (h : ∀ t' k, (Txt.mul (Str.ofString "\"") (-((own - r).fdiv P))).length ≤ 24 → Q (.str (Txt.mul (Str.ofString "\"") (-((own - r).fdiv P))) t') { s with toks := k }) :
    wpAny (model prog w) A (binaryOp .Mult (.str (Str.ofString "\"") t) (.int (-((own - r).fdiv P)) u)) Q E s := by
  have hf := fdiv_own h0 h1 hP ho
  exact mul_quote (by omega) (by omega) fun t' k e => h t' k (by omega)
end
def LeftClaim (prog : Program) (w : World) (K : Frag) (p : Program) (loose : List Str) (mean : ExcName → Option Value) (mg mb : Str → Option Value) (f : Addr) : Prop :=
  ∀ (l : Addr) (vs : List Value) (nn : Nat) (ds : List Dat) (P : Int) (tp : Tok) (c : Str) (tc : Tok) (led : List (Addr × Obj)),
    (l, listOf vs.toArray nn) ∈ led → DatAll led vs ds → ds.length = 5 → Shape ds → 1 ≤ P → P ≤ 64 → (c = Str.ofString "" ∨ c = Str.ofString "\"") →
    CbClaim prog w K p loose mean mg mb f led [] True [.ref l, .int P tp, .str c tc] (fun t => .str (leftF ds P c) t)
/-- what parse257 reads behind the opening quote -/
def unq : List Nat → List Nat
  | [] => []
  | 34 :: 34 :: r => 34 :: unq r
  | 34 :: _ => []
  | c :: r => c :: unq r
def parseF (x : Str) : Str := ⟨(unq (x.cps.toList.drop 5)).toArray⟩
def PreP (x : Str) : Prop := (∃ y : List Nat, x.cps.toList = 50 :: 53 :: 55 :: 32 :: 34 :: y) ∧ x.length ≤ 1000
def ParseE (x : Str) (i : Int) (d : Str) : Prop := d.cps.toList ++ unq (x.cps.toList.drop i.toNat) = unq (x.cps.toList.drop 5)
theorem slen_toList (x : Str) : x.length = x.cps.toList.length := by simp [Str.length]
theorem slice_head {x : Str} {y : List Nat} (hy : x.cps.toList = 50 :: 53 :: 55 :: 32 :: 34 :: y) : Txt.slice x none (some 3) = Str.ofString "257" := by
  have hl : x.length = y.length + 5 := by rw [slen_toList, hy]; rfl
  have e : Txt.slice x none (some 3) = Txt.slice x (some 0) (some 3) := by
    unfold Txt.slice
    rw [StrLaws.sliceIdx_none_lo]
  have e2 : Txt.slice x (some 0) (some 3) = StrLaws.sliceText x (some 0) (some 3) := rfl
  rw [e, e2, StrLaws.sliceText_plain ⟨by decide, by decide, by rw [← slen_toList, hl]; omega⟩, hy]
  show (⟨#[50, 53, 55]⟩ : Str) = _
  decide +kernel
theorem slice_sep {x : Str} {y : List Nat} (hy : x.cps.toList = 50 :: 53 :: 55 :: 32 :: 34 :: y) : Txt.slice x (some 3) (some 5) = Str.ofString " \"" := by
  have hl : x.length = y.length + 5 := by rw [slen_toList, hy]; rfl
  have e2 : Txt.slice x (some 3) (some 5) = StrLaws.sliceText x (some 3) (some 5) := rfl
  rw [e2, StrLaws.sliceText_plain ⟨by decide, by decide, by rw [← slen_toList, hl]; omega⟩, hy]
  show (⟨#[32, 34]⟩ : Str) = _
  decide +kernel
theorem no_head {x : Str} {y : List Nat} (hy : x.cps.toList = 50 :: 53 :: 55 :: 32 :: 34 :: y) (h : (Txt.slice x none (some 3) != Str.ofString "257") = true) : False := by
  rw [slice_head hy] at h
  simp at h
theorem no_sep {x : Str} {y : List Nat} (hy : x.cps.toList = 50 :: 53 :: 55 :: 32 :: 34 :: y) (h : (Txt.slice x (some 3) (some 5) != Str.ofString " \"") = true) : False := by
  rw [slice_sep hy] at h
  simp at h
theorem item_is {x : Str} {i : Int} {c : Nat} (h0 : 0 ≤ i) (hc : x.cps.toList[i.toNat]? = some c) : Txt.item x i = ⟨#[c]⟩ := by
  have hlt := (List.getElem?_eq_some_iff.mp hc).1
  rw [← slen_toList] at hlt
  have hc' : x.cps[i.toNat]? = some c := by simpa using hc
  unfold Txt.item Txt.charAt
  have : seqIndex? i x.length = some i.toNat := by
    unfold seqIndex?
    simp
    omega
  simp [this, hc']
section
variable {prog : Program} {w : World} {A : Around} {E : Value → Shared → Prop} {s : Shared} {Q : Value → Shared → Prop} {x : Str} {t u : Tok} {value slice : Expr}
theorem item_at {i : Int} (h0 : 0 ≤ i) (h1 : i < (x.length : Int)) (hl : x.length ≤ 1000) (h : ∀ c, x.cps.toList[i.toNat]? = some c → Q (.str ⟨#[c]⟩ s.toks) { s with toks := s.toks + 1 })
    (hs : subscripted slice false (.str x t) (.int i u) = operate [.str x t, .int i u] (getItem (.str x t) (.int i u)) := by with_unfolding_all rfl)
    (ht : ∀ r, letTemporaryGo value (.str x t) r = pure () := by intro _; with_unfolding_all rfl) :
    wpAny (model prog w) A (subscriptTail value slice (.str x t) (.int i u)) Q E s := by
  have hlt : i.toNat < x.cps.toList.length := by rw [← slen_toList]; omega
  have hc := List.getElem?_eq_getElem hlt
  have := item_is h0 hc
  refine item_str (fitsSsize_of (N := 9223372036854775808) (by omega) (by omega) (Int.le_refl _)) (by omega) h1 (fun _ => ?_) hs ht
  rw [this]
  exact h _ hc
end
theorem unq_other {c : Nat} (h : c ≠ 34) (r : List Nat) : unq (c :: r) = c :: unq r := by
  rw [unq]
  · intro _ h' _; exact h h'
  · intro h'; exact h h'
theorem unq_qq (r : List Nat) : unq (34 :: 34 :: r) = 34 :: unq r := by rw [unq]
theorem unq_q {r : List Nat} (h : ∀ r', r ≠ 34 :: r') : unq (34 :: r) = [] := by
  cases r with
  | nil => simp [unq]
  | cons c r =>
    rw [unq]
    intro r' e
    exact h r' (by simpa using e)
theorem quote_iff (c : Nat) : (Str.mk #[c] == Str.ofString "\"") = decide (c = 34) := by
  have hq : Str.ofString "\"" = ⟨#[34]⟩ := by decide +kernel
  rw [hq]
  by_cases h : c = 34
  · subst h; decide
  · rw [decide_eq_false h]
    simp [h]
theorem drop_cp {x : Str} {i : Int} {c : Nat} (h0 : 0 ≤ i) (h : x.cps.toList[i.toNat]? = some c) : x.cps.toList.drop i.toNat = c :: x.cps.toList.drop (i + 1).toNat := by
  obtain ⟨hlt, e⟩ := List.getElem?_eq_some_iff.mp h
  have : (i + 1).toNat = i.toNat + 1 := by omega
  rw [List.drop_eq_getElem_cons hlt, e, this]
theorem cat_one (d : Str) (c : Nat) : (d ++ Str.mk #[c]).cps.toList = d.cps.toList ++ [c] := by
  rw [Str.cps_append]; simp
section
variable {x d : Str} {i : Int} {c c' : Nat}
theorem parse_stepA (h5 : 5 ≤ i) (hd : (d.length : Int) ≤ i) (hE : ParseE x i d) (hlt : i < (x.length : Int)) (hc : x.cps.toList[i.toNat]? = some c) (hq : (Str.mk #[c] == Str.ofString "\"") = false) :
    (x.length : Int) = (x.length : Int) ∧ 5 ≤ i + 1 ∧ i + 1 ≤ (x.length : Int) ∧ ((d ++ Str.mk #[c]).length : Int) ≤ i + 1 ∧ ParseE x (i + 1) (d ++ Str.mk #[c]) := by
  rw [quote_iff, decide_eq_false_iff_not] at hq
  refine ⟨rfl, by omega, by omega, ?_, ?_⟩
  · rw [slen_append, slen_one]; omega
  · unfold ParseE at hE ⊢
    rw [drop_cp (by omega) hc, unq_other hq] at hE
    rw [cat_one, List.append_assoc]
    exact hE
theorem parse_stepD (h5 : 5 ≤ i) (hd : (d.length : Int) ≤ i) (hE : ParseE x i d) (hlt : ¬ (x.length : Int) ≤ i + 1) (hc : x.cps.toList[i.toNat]? = some c) (hq : (Str.mk #[c] == Str.ofString "\"") = true)
    (hc' : x.cps.toList[(i + 1).toNat]? = some c') (hq' : (Str.mk #[c'] != Str.ofString "\"") = false) :
    (x.length : Int) = (x.length : Int) ∧ 5 ≤ i + 1 + 1 ∧ i + 1 + 1 ≤ (x.length : Int) ∧ ((d ++ Str.mk #[c]).length : Int) ≤ i + 1 + 1 ∧ ParseE x (i + 1 + 1) (d ++ Str.mk #[c]) := by
  rw [quote_iff, decide_eq_true_eq] at hq
  have hq2 : c' = 34 := by
    rw [bne, quote_iff] at hq'
    simpa using hq'
  subst hq hq2
  refine ⟨rfl, by omega, by omega, ?_, ?_⟩
  · rw [slen_append, slen_one]; omega
  · unfold ParseE at hE ⊢
    rw [drop_cp (by omega) hc, drop_cp (by omega) hc', unq_qq] at hE
    rw [cat_one, List.append_assoc]
    exact hE
theorem parse_is (h : d.cps.toList = unq (x.cps.toList.drop 5)) : d = parseF x := by
  refine Str.ext' ?_
  show d.cps = (unq (x.cps.toList.drop 5)).toArray
  rw [← h]
theorem parse_endN (hE : ParseE x i d) (h5 : 5 ≤ i) (hlt : ¬ i < (x.length : Int)) : d = parseF x := by
  refine parse_is ?_
  unfold ParseE at hE
  rw [List.drop_eq_nil_of_le (by rw [← slen_toList]; omega)] at hE
  simpa [unq] using hE
theorem parse_endB (hE : ParseE x i d) (h5 : 5 ≤ i) (hc : x.cps.toList[i.toNat]? = some c) (hq : (Str.mk #[c] == Str.ofString "\"") = true) (hlt : (x.length : Int) ≤ i + 1) : d = parseF x := by
  refine parse_is ?_
  rw [quote_iff, decide_eq_true_eq] at hq
  subst hq
  unfold ParseE at hE
  rw [drop_cp (by omega) hc, List.drop_eq_nil_of_le (by rw [← slen_toList]; omega), unq_q (fun _ h => by cases h)] at hE
  simpa using hE
theorem parse_endC (hE : ParseE x i d) (h5 : 5 ≤ i) (hc : x.cps.toList[i.toNat]? = some c) (hq : (Str.mk #[c] == Str.ofString "\"") = true)
    (hc' : x.cps.toList[(i + 1).toNat]? = some c') (hq' : (Str.mk #[c'] != Str.ofString "\"") = true) : d = parseF x := by
  refine parse_is ?_
  rw [quote_iff, decide_eq_true_eq] at hq
  have hq2 : c' ≠ 34 := by
    rw [bne, quote_iff] at hq'
    simpa using hq'
  subst hq
  unfold ParseE at hE
  rw [drop_cp (by omega) hc, drop_cp (by omega) hc', unq_q (fun _ h => hq2 (List.cons.inj h).1)] at hE
  simpa using hE
end
theorem parse_start {x : Str} {n : Int} (hn : n = (x.length : Int)) {y : List Nat} (hy : x.cps.toList = 50 :: 53 :: 55 :: 32 :: 34 :: y) :
    n = (x.length : Int) ∧ 5 ≤ (5 : Int) ∧ (5 : Int) ≤ n ∧ ((Str.ofString "").length : Int) ≤ 5 ∧ ParseE x 5 (Str.ofString "") := by
  have hl : x.length = y.length + 5 := by rw [slen_toList, hy]; rfl
  refine ⟨hn, by decide, by omega, by decide, ?_⟩
  show (Str.ofString "").cps.toList ++ _ = _
  have : (Str.ofString "").cps.toList = [] := by decide +kernel
  rw [this]; rfl
def ParseClaim (prog : Program) (w : World) (K : Frag) (p : Program) (loose : List Str) (mean : ExcName → Option Value) (mg mb : Str → Option Value) (f : Addr) : Prop :=
  ∀ (x : Str) (tx : Tok) (led : List (Addr × Obj)), PreP x →
    CbClaim prog w K p loose mean mg mb f led [] True [.str x tx] (fun t => .str (parseF x) t)
theorem unq_even {k : Nat} (hk : k ≠ 34) (rest : List Nat) : ∀ m : Nat, unq (List.replicate (2 * m) 34 ++ k :: rest) = List.replicate m 34 ++ k :: unq rest
  | 0 => by simpa using unq_other hk rest
  | m + 1 => by
    have e : 2 * (m + 1) = 2 * m + 1 + 1 := by omega
    rw [e, List.replicate_succ, List.replicate_succ, List.cons_append, List.cons_append, unq_qq, unq_even hk rest m, List.replicate_succ, List.cons_append]
theorem unq_odd {k : Nat} (hk : k ≠ 34) (rest : List Nat) : ∀ m : Nat, unq (List.replicate (2 * m + 1) 34 ++ k :: rest) = List.replicate m 34
  | 0 => by
    show unq (34 :: k :: rest) = []
    exact unq_q fun _ h => hk (List.cons.inj h).1
  | m + 1 => by
    have e : 2 * (m + 1) + 1 = 2 * m + 1 + 1 + 1 := by omega
    rw [e, List.replicate_succ, List.replicate_succ, List.cons_append, List.cons_append, unq_qq, unq_odd hk rest m, List.replicate_succ]
theorem unq_rep : ∀ j : Nat, unq (List.replicate j 34) = List.replicate (j / 2) 34
  | 0 => by simp [unq]
  | 1 => by
    show unq (34 :: []) = []
    exact unq_q fun _ h => by cases h
  | j + 2 => by
    have e : (j + 2) / 2 = j / 2 + 1 := by omega
    rw [e, List.replicate_succ, List.replicate_succ, unq_qq, unq_rep j, List.replicate_succ]
theorem fact_even : ∀ t < 6, ∀ n < 24, ((n : Nat) : Int) % 2 ^ (t + 1) = 0 → ((n : Nat) : Int) % 2 ^ t = 0 ∧ (((n : Nat) : Int) / 2 ^ t).toNat = 2 * (((n : Nat) : Int) / 2 ^ (t + 1)).toNat := by decide +kernel
theorem fact_odd : ∀ t < 6, ∀ n < 24, ((n : Nat) : Int) % 2 ^ t = 0 → ¬ ((n : Nat) : Int) % 2 ^ (t + 1) = 0 →
    (((n : Nat) : Int) / 2 ^ t).toNat = 2 * (((n : Nat) : Int) / 2 ^ (t + 1)).toNat + 1 ∧ (((n : Nat) : Int) / 2 ^ (t + 1)).toNat = (-((ownI ((n : Nat) : Int) - ((n : Nat) : Int)) / 2 ^ (t + 1))).toNat := by decide +kernel
theorem fact_rest : ∀ t < 6, ∀ n < 24, ¬ ((n : Nat) : Int) % 2 ^ t = 0 →
    (((n : Nat) : Int) / 2 ^ (t + 1)).toNat = (((n : Nat) : Int) / 2 ^ t).toNat / 2 ∧ (-((ownI ((n : Nat) : Int) - ((n : Nat) : Int)) / 2 ^ (t + 1))).toNat = ((-((ownI ((n : Nat) : Int) - ((n : Nat) : Int)) / 2 ^ t)).toNat + 1) / 2 := by decide +kernel
theorem quote_cps : (Str.ofString "\"").cps.toList = [34] := by decide +kernel
theorem empty_cps : (Str.ofString "").cps.toList = [] := by decide +kernel
theorem quote_ne : Str.ofString "\"" ≠ Str.ofString "" := by decide +kernel
theorem law_core {t : Nat} (ht : t < 6) {c : Str} (hc : c = Str.ofString "" ∨ c = Str.ofString "\"") : ∀ ds : List Dat, Shape ds →
    unq ((leftF ds (2 ^ t) c).cps.toList ++ c.cps.toList) = (leftF ds (2 ^ (t + 1)) c).cps.toList := by
  intro ds
  induction ds with
  | nil =>
    intro _
    have e : ∀ P, leftF [] P c = Str.ofString "" := fun P => by simp [leftF]
    rw [e, e, empty_cps]
    rcases hc with rfl | rfl
    · rw [empty_cps]; simp [unq]
    · rw [quote_cps]
      exact unq_q fun _ h => by cases h
  | cons d ds ih =>
    intro hS
    have ih' := ih fun d hd => hS d (List.mem_cons_of_mem _ hd)
    obtain ⟨r, k, rfl, h0, h1, hk⟩ := hS d (List.mem_cons_self ..)
    obtain ⟨n, rfl⟩ := Int.eq_ofNat_of_zero_le h0
    have hn : n < 24 := by omega
    rw [leftF, leftF]
    by_cases he : (n : Int) % 2 ^ (t + 1) = 0
    · obtain ⟨a, b⟩ := fact_even t ht n hn he
      rw [if_pos a, if_pos he]
      simp only [Str.cps_append, Array.toList_append, mul_cps, List.append_assoc, List.cons_append, List.nil_append, b]
      rw [unq_even hk, ih']
    · rw [if_neg he]
      by_cases ho : (n : Int) % 2 ^ t = 0
      · obtain ⟨a, b⟩ := fact_odd t ht n hn ho he
        rw [if_pos ho]
        simp only [Str.cps_append, Array.toList_append, mul_cps, List.append_assoc, List.cons_append, List.nil_append, a]
        rw [unq_odd hk]
        rcases hc with rfl | rfl
        · rw [if_pos rfl, mul_cps]
        · rw [if_neg quote_ne, mul_cps, b]
      · obtain ⟨a, b⟩ := fact_rest t ht n hn ho
        rw [if_neg ho]
        rcases hc with rfl | rfl
        · rw [if_pos rfl, if_pos rfl, mul_cps, mul_cps, empty_cps, List.append_nil, unq_rep, a]
        · rw [if_neg quote_ne, if_neg quote_ne, mul_cps, mul_cps, quote_cps, b]
          have e : ∀ j : Nat, List.replicate j 34 ++ [34] = List.replicate (j + 1) 34 := fun j => (List.replicate_succ' ..).symm
          rw [e, unq_rep]
theorem head_cps (x c : Str) : ((Str.ofString "257 \"" ++ x) ++ c).cps.toList = 50 :: 53 :: 55 :: 32 :: 34 :: (x.cps.toList ++ c.cps.toList) := by
  have e : (Str.ofString "257 \"").cps.toList = [50, 53, 55, 32, 34] := by decide +kernel
  rw [Str.cps_append, Str.cps_append, Array.toList_append, Array.toList_append, e]
  rfl
theorem left_len {P : Int} {c : Str} (hP : 1 ≤ P) : ∀ ds : List Dat, Shape ds → (leftF ds P c).length ≤ 25 * ds.length + 25 := by
  intro ds
  induction ds with
  | nil => intro _; simp [leftF]; decide
  | cons d ds ih =>
    intro hS
    have ih' := ih fun d hd => hS d (List.mem_cons_of_mem _ hd)
    obtain ⟨r, k, rfl, h0, h1, hk⟩ := hS d (List.mem_cons_self ..)
    have hf := fdiv_small h0 h1 hP
    have ho : ownI r = 1 ∨ ownI r = 2 ∨ ownI r = 4 ∨ ownI r = 8 ∨ ownI r = 16 := by
      unfold ownI; repeat' split
      all_goals simp
    have hg := fdiv_own h0 h1 hP ho
    rw [Int.fdiv_eq_ediv_of_nonneg _ (by omega)] at hf hg
    rw [leftF, List.length_cons]
    split
    · rw [slen_append, slen_append, mul_len, slen_one]; omega
    · split
      · rw [mul_len]; omega
      · rw [mul_len]; omega
theorem left_len5 {P : Int} {c : Str} {ds : List Dat} (hP : 1 ≤ P) (hS : Shape ds) (hl : ds.length = 5) : (leftF ds P c).length ≤ 150 := by
  have := left_len (c := c) hP ds hS
  omega
theorem c_len {c : Str} (hc : c = Str.ofString "" ∨ c = Str.ofString "\"") : c.length ≤ 1 := by
  rcases hc with rfl | rfl <;> decide
theorem pre_of {x c : Str} (hx : x.length ≤ 150) (hc : c = Str.ofString "" ∨ c = Str.ofString "\"") : PreP ((Str.ofString "257 \"" ++ x) ++ c) := by
  refine ⟨⟨_, head_cps x c⟩, ?_⟩
  have := c_len hc
  have e : (Str.ofString "257 \"").length = 5 := by decide +kernel
  rw [slen_append, slen_append, e]; omega
/-- the plain law: what is read of a text that stands after t readings -/
theorem law_step {ds : List Dat} {t : Nat} {c : Str} (ht : t < 6) (hc : c = Str.ofString "" ∨ c = Str.ofString "\"") (hS : Shape ds) :
    parseF ((Str.ofString "257 \"" ++ leftF ds (2 ^ t) c) ++ c) = leftF ds (2 ^ (t + 1)) c := by
  refine (parse_is ?_).symm
  rw [head_cps, ← law_core ht hc ds hS]
  rfl
section
variable {prog : Program} {w : World} {K : Frag} {p : Program} {loose : List Str} {mean : ExcName → Option Value} {mg mb : Str → Option Value} {f : Addr}
  {dp un : Nat} {gd : Option (List Code)} {cn : Str} {cs : Scope} {a : Addr} {ccd : Value} {cl : List (Str × Addr)} {outer : List Env} {A₀ : Around} {base h₀ : Heap} {L : Addr} {m : Str → Option Value} {s : Shared} {Q E : Value → Shared → Prop} {led : List (Addr × Obj)}
theorem left_use {l : Addr} {vs : List Value} {nn : Nat} {ds : List Dat} {P : Int} {tp : Tok} {c : Str} {tc : Tok} (hC : LeftClaim prog w K p loose mean mg mb f)
    (B : Below A₀ base outer h₀) (F : Fr h₀ L s.heap m) (X : K.In h₀) (N : News h₀ L s.heap led) (T : Top p loose mean mg mb h₀) (hk : cs.kind = .function)
    (hm : (l, listOf vs.toArray nn) ∈ led) (hD : DatAll led vs ds) (hlen : ds.length = 5) (hS : Shape ds) (h1 : 1 ≤ P) (h2 : P ≤ 64) (hc : c = Str.ofString "" ∨ c = Str.ofString "\"")
    (hd : dp + 1 < recursionLimit) (hu : un + 8 < cLine)
    (hret : ∀ (t : Tok) (h' : Heap) (tk' : Nat), Fr h₀ L h' m → News h₀ L h' led → Q (.str (leftF ds P c) t) { s with heap := h', toks := tk' }) :
    wpAny (model prog w) (ktrTop dp un gd cn cs L a ccd cl outer) (call (.ref f) [.ref l, .int P tp, .str c tc]) Q E s :=
  hC l vs nn ds P tp c tc led hm hD hlen hS h1 h2 hc dp un gd cn cs a ccd cl outer A₀ base h₀ L m s Q E B F X N T hk trivial hd hu hret
theorem parse_use {x : Str} {tx : Tok} (hC : ParseClaim prog w K p loose mean mg mb f)
    (B : Below A₀ base outer h₀) (F : Fr h₀ L s.heap m) (X : K.In h₀) (N : News h₀ L s.heap led) (T : Top p loose mean mg mb h₀) (hk : cs.kind = .function)
    (hx : PreP x) (hd : dp + 1 < recursionLimit) (hu : un + 8 < cLine)
    (hret : ∀ (t : Tok) (h' : Heap) (tk' : Nat), Fr h₀ L h' m → News h₀ L h' led → Q (.str (parseF x) t) { s with heap := h', toks := tk' }) :
    wpAny (model prog w) (ktrTop dp un gd cn cs L a ccd cl outer) (call (.ref f) [.str x tx]) Q E s :=
  hC x tx led hx dp un gd cn cs a ccd cl outer A₀ base h₀ L m s Q E B F X N T hk trivial hd hu hret
end
theorem Off.intro {stored : List Str} {m₀ m : Str → Option Value} (h : ∀ z, stored.contains z = false → m z = m₀ z) : Off stored m₀ m := h
theorem pow_le (t : Nat) (h : t < 7) : (1 : Int) ≤ 2 ^ t ∧ (2 : Int) ^ t ≤ 64 := by
  have : ∀ t < 7, (1 : Int) ≤ 2 ^ t ∧ (2 : Int) ^ t ≤ 64 := by decide
  exact this t h
theorem closing_of {v : Value} {t1 t2 : Tok} (h : v ∈ [Value.str (Str.ofString "") t1, Value.str (Str.ofString "\"") t2]) : ∃ (c : Str) (t : Tok), v = .str c t ∧ (c = Str.ofString "" ∨ c = Str.ofString "\"") := by
  rcases List.mem_cons.mp h with rfl | h
  · exact ⟨_, _, rfl, .inl rfl⟩
  · rw [List.mem_singleton.mp h]; exact ⟨_, _, rfl, .inr rfl⟩
theorem ne_same {prog : Program} {w : World} {A : Around} {E : Value → Shared → Prop} {s : Shared} {Q : Value → Shared → Prop} {x y : Str} {t u : Tok} (h : x = y) (k : Q (.bool false) s) :
    wpAny (model prog w) A (compareOp .NotEq (.str x t) (.str y u)) Q E s := by
  subst h
  refine PyProof.Rows.ne_str ?_
  have e : (x != x) = false := by simp
  rw [e]
  exact k
theorem pow_of {pre : List Int} {k : Int} (hk : k = 1 + (pre.length : Int)) (hp : pre.length < (7 - 1 : Int).toNat) : (1 : Int) ≤ 2 ^ k.toNat ∧ (2 : Int) ^ k.toNat ≤ 64 := pow_le _ (by omega)
theorem times_eq {ds : List Dat} {c x : Str} {pre : List Int} {k : Int} (hk : k = 1 + (pre.length : Int)) (hp : pre.length < (7 - 1 : Int).toNat) (hc : c = Str.ofString "" ∨ c = Str.ofString "\"") (hS : Shape ds) (hx : x = leftF ds (2 ^ pre.length) c) :
    parseF ((Str.ofString "257 \"" ++ x) ++ c) = leftF ds (2 ^ k.toNat) c := by
  subst hx
  have e : k.toNat = pre.length + 1 := by omega
  rw [law_step (by omega) hc hS, e]
theorem head_len : (Str.ofString "257 \"").length = 5 := by decide +kernel
theorem times_start {ds : List Dat} {c : Str} (hS : Shape ds) (hl : ds.length = 5) : (leftF ds 1 c).length ≤ 150 ∧ leftF ds 1 c = leftF ds (2 ^ ([] : List Int).length) c :=
  ⟨left_len5 (by decide) hS hl, rfl⟩
theorem times_step {ds : List Dat} {c x : Str} {pre : List Int} {k : Int} (hp : pre.length < (7 - 1 : Int).toNat) (hc : c = Str.ofString "" ∨ c = Str.ofString "\"") (hS : Shape ds) (hl : ds.length = 5) (hx : x = leftF ds (2 ^ pre.length) c) :
    (parseF ((Str.ofString "257 \"" ++ x) ++ c)).length ≤ 150 ∧ parseF ((Str.ofString "257 \"" ++ x) ++ c) = leftF ds (2 ^ (pre ++ [k]).length) c := by
  subst hx
  rw [law_step (by omega) hc hS, List.length_append, List.length_singleton]
  exact ⟨left_len5 (pow_le _ (by omega)).1 hS hl, rfl⟩
theorem left_via {prog : Program} {w : World} {K : Frag} {p : Program} {loose : List Str} {mean : ExcName → Option Value} {mg mb : Str → Option Value} {h h' : Heap} (f : Addr) (_ : Top p loose mean mg mb h) (_ : K.In h') (hC : LeftClaim prog w K p loose mean mg mb f) : LeftClaim prog w K p loose mean mg mb f := hC
theorem parse_via {prog : Program} {w : World} {K : Frag} {p : Program} {loose : List Str} {mean : ExcName → Option Value} {mg mb : Str → Option Value} {h h' : Heap} (f : Addr) (_ : Top p loose mean mg mb h) (_ : K.In h') (hC : ParseClaim prog w K p loose mean mg mb f) : ParseClaim prog w K p loose mean mg mb f := hC
end Mine
-- the walk's own lines
local macro_rules | `(tactic| walk_at "exec For Name List cons nil") => `(tactic| (k_here; (rename Fr _ _ _ _ => lF'); (with_unfolding_all refine' For_turns lF' ?_; k_whole)))
local macro_rules | `(tactic| walk_at "exec For Tuple Name cons nil") => `(tactic| (k_here; (rename Fr _ _ _ _ => lF'); (with_unfolding_all refine' For_turns lF' ?_; k_whole)))
local macro_rules | `(tactic| walk_at "exec For Name Call cons nil") => `(tactic| (k_extra "exec For Name Call cons nil"))
local macro_rules | `(tactic| walk_at "exec While Compare cons nil") => `(tactic| (k_extra "exec While Compare cons nil"))
local macro_rules | `(tactic| walk_at "pyIter ref") => `(tactic| (k_extra "pyIter ref"))
-- a call of _law_left, of parse257, by its contract
local macro_rules | `(tactic| walk_at "call ref") => `(tactic| (k_here; k_dflt (show wpAny _ _ (call (Value.ref _) [Value.ref _, Value.int _ _, Value.str _ _]) _ _ _); k_dflt (refine' Mine.left_use (by assumption) ?k1 ?k2 ?k3 ?k4 ?k5 ?kK ?km ?kD ?kl ?kS ?kp1 ?kp2 ?kc ?kd ?ku ?_; (case k1 => k_asm); (case k2 => k_asm); (case k3 => k_asm); (case k4 => k_asm); (case k5 => k_asm); (case kK => first | exact rfl | assumption); (case kS => assumption); (case km => k_dflt (first | exact .head _ | exact .tail _ (.head _) | exact .tail _ (.tail _ (.head _)) | exact .tail _ (.tail _ (.tail _ (.head _))))); (case kD => k_dflt kd_all); (case kl => assumption); (case kp1 => first | decide | omega | exact (Mine.pow_of (by assumption) (by assumption)).1); (case kp2 => first | decide | omega | exact (Mine.pow_of (by assumption) (by assumption)).2); (case kc => assumption); (case kd => ktr_room); (case ku => ktr_units)); (intro t9 h9 tk9 F9 N9; (try dsimp only); (try k_fold))))
local macro_rules | `(tactic| walk_at "call ref") => `(tactic| (k_here; k_dflt (show wpAny _ _ (call (Value.ref _) [Value.str _ _]) _ _ _); k_dflt (refine' Mine.parse_use (by assumption) ?k1 ?k2 ?k3 ?k4 ?k5 ?kK ?kx ?kd ?ku ?_; (case k1 => k_asm); (case k2 => k_asm); (case k3 => k_asm); (case k4 => k_asm); (case k5 => k_asm); (case kK => first | exact rfl | assumption); (case kx => k_dflt (exact Mine.pre_of (by assumption) (by assumption))); (case kd => ktr_room); (case ku => ktr_units)); (intro t9 h9 tk9 F9 N9; (try dsimp only); (try k_fold))))
-- texts
local macro_rules | `(tactic| walk_at "binaryOp Mult str int") => `(tactic| (k_here; first
  | (refine' Mine.mul_run ?h0 ?h1 ?hP ?_; (case h0 => assumption); (case h1 => assumption); (case hP => assumption); intro _ _ _)
  | (refine' Mine.mul_own ?h0 ?h1 ?hP ?ho ?_; (case h0 => assumption); (case h1 => assumption); (case hP => assumption); (case ho => assumption); intro _ _ _)))
local macro_rules | `(tactic| walk_at "binaryOp Add str str") => `(tactic| (k_here; (with_reducible show wpAny _ _ (binaryOp Operator.Add (Value.str _ _) (Value.str _ _)) _ _ _); (have hCl := Mine.c_len (by assumption)); (have h5l := Mine.head_len); (refine' Mine.add_le ?hx ?hy ?_); (case hx => omega); (case hy => omega); intro _ _ _))
local macro_rules | `(tactic| walk_at "binaryOp Add str str") => `(tactic| (k_here; (with_reducible show wpAny _ _ (binaryOp Operator.Add (Value.str _ _) (Value.str _ _)) _ _ _); refine' Mine.add_le ?hx ?hy ?_; (case hx => first | omega | (exact Mine.len_le_of (Mine.LeftR.len (by assumption) (by assumption)) (by decide)) | ((have hz9 := Mine.LeftR.len (by assumption) (by assumption)); omega)); (case hy => first | omega | (exact Nat.le_of_ble_eq_true rfl)); intro _ _ _))
local macro_rules | `(tactic| walk_at "subscriptTail Name Name str int") => `(tactic| (k_here; (refine' Mine.item_at ?h0 ?h1 ?hl ?_; (case h0 => omega); (case h1 => omega); (case hl => assumption)); intro _ _))
local macro_rules | `(tactic| walk_at "compareOp NotEq str str") => `(tactic| (k_here; k_dflt (refine' Mine.ne_same ?h ?_; (case h => exact Mine.times_eq (by assumption) (by assumption) (by assumption) (by assumption) (by assumption)))))
-- a turn's end
local macro_rules | `(tactic| walk_at "TPost") => `(tactic| (dsimp only [Mine.TPost]))
local macro_rules | `(tactic| walk_at "TEnd") => `(tactic| ((rename News _ _ _ _ => nE'); (refine' Mine.TEnd.intro (by assumption) nE' ?hs ?hj); (case hs => (intro p hp; exact hp)); (case hj => (refine' Mine.Off.intro ?same; (case same => (intro z h3; (simp only [List.contains_cons, List.contains_nil, Bool.or_false, Bool.or_eq_false_iff, beq_eq_false_iff_ne, ne_eq] at h3); simp [h3]))))))
local macro_rules | `(tactic| walk_at "TEnd") => `(tactic| ((rename News _ _ _ _ => nE'); (refine' Mine.TEnd.intro (by assumption) nE' ?hs ?hj); (case hs => (intro p hp; exact hp)); (case hj => (refine' ⟨_, _, by (with_unfolding_all rfl), ?same, ?R⟩; (case same => (intro z h2 h3; (simp only [List.contains_cons, List.contains_nil, Bool.or_false, Bool.or_eq_false_iff, beq_eq_false_iff_ne, ne_eq] at h3); simp [h2, h3])); (case R => exact Mine.left_step (by assumption) (by assumption) (by assumption) (by assumption) (by assumption) (by assumption))))))
set_option maxRecDepth 100000 in
set_option maxHeartbeats 8000000 in
theorem PySem.Challenge.cw_ny0002_01_holds : PySem.Challenge.rw_ny0002_01.Holds := by
  -- _law_pairs
  (k_with "pyIter ref" => (k_of "k" => k_state (fun _ numbers => numbers.length = 5) "numbers"))
  (k_with "pyIter ref" => (k_of "number" => k_dat (fun pre pairs => pairs.length = pre.length ∧ ∀ d ∈ pairs, ∃ (r : Int) (c : Nat), d = Dat.tuple [Dat.int r, Dat.str (Str.mk #[c])] ∧ 0 ≤ r ∧ r < 24 ∧ c ≠ 34) "pairs*"))
  -- _law_left
  (k_with "pyIter ref" => (k_here; (with_reducible show wpAny _ _ (pyIter (Value.ref _)) (fun it s₂ => TurnsAt _ _ _ _ _ (Expr.Tuple _ _ _) _ _ _ it s₂) _ _); (rename Fr _ _ _ _ => lF'); (rename News _ _ _ _ => lN'); (with_unfolding_all refine' Mine.turns_pairs (Str.ofString "left") [Str.ofString "run", Str.ofString "sign", Str.ofString "own"] (Mine.LeftR ds P c) ?lh lF' lN' hm hD hS ?l0 ?lr ?_ ?_); (case lh => rfl); (case l0 => rfl); (case lr => exact Mine.LeftR.zero)))
  (k_with "exec While Compare cons nil" => k_while_given ["run"] (fun run _ own => (own = 1 ∨ own = 2 ∨ own = 4 ∨ own = 8 ∨ own = 16) ∧ run % own = 0) (fun _ _ own => (32 - own).toNat) "own")
  (k_with "state" => first | exact Mine.own_start | exact Mine.own_step (by assumption) (by assumption) (by assumption) (by assumption) (by assumption))
  (k_with "tree" => first | exact Mine.left_end (by assumption) | exact Mine.left_ret1 (by assumption) (by assumption) (by assumption) (by assumption) (by assumption) | exact Mine.left_ret2 (by assumption) (by assumption) (by assumption) (by assumption) (by assumption) (by assumption) (by assumption) (by assumption) (by assumption) (by assumption))
  -- parse257
  (k_with "exec While Compare cons nil" => k_while_given ["resp", "n"] (fun resp n _ i dirname => n = (resp.length : Int) ∧ 5 ≤ i ∧ i ≤ n ∧ (dirname.length : Int) ≤ i ∧ Mine.ParseE resp i dirname) (fun _ n _ i _ => (n - i).toNat) "i" "dirname")
  (k_with "state" => first | exact Mine.parse_start rfl hy | exact Mine.parse_stepA (by assumption) (by assumption) (by assumption) (by assumption) (by assumption) (by assumption) | exact Mine.parse_stepD (by assumption) (by assumption) (by assumption) (by assumption) (by assumption) (by assumption) (by assumption) (by assumption))
  (k_with "tree" => first | exact Mine.parse_endN (by assumption) (by assumption) (by assumption) | exact Mine.parse_endB (by assumption) (by assumption) (by assumption) (by assumption) (by assumption) | exact Mine.parse_endC (by assumption) (by assumption) (by assumption) (by assumption) (by assumption) (by assumption))
  -- law
  (k_with "pyIter ref" => (
    k_here
    (with_reducible show wpAny _ _ (pyIter (Value.ref _)) (fun it s₂ => TurnsAt _ _ _ _ _ (Expr.Name _ _) _ _ _ it s₂) _ _)
    (rename Fr _ _ _ _ => lF'); (rename News _ _ _ _ => lN')
    (with_unfolding_all refine' Mine.turns_off [Str.ofString "closing", Str.ofString "text", Str.ofString "times"] ?ch lF' lN' ?cm ?ct ?cd)
    (case ch => rfl)
    (case cm => k_memK)
    (case' ct => (
      (clear lF' lN')
      (rename List Dat => myDs)
      (rename (∀ d ∈ _, ∃ (r : Int) (c : Nat), d = Dat.tuple [Dat.int r, Dat.str (Str.mk #[c])] ∧ 0 ≤ r ∧ r < 24 ∧ c ≠ 34) => mySh)
      (have hSh : Mine.Shape myDs := mySh)
      (have hLen : myDs.length = 5 := by omega)
      intro v u h tk I o hv hI F' N'
      obtain ⟨myC, tc, rfl, hC⟩ := Mine.closing_of hv))
    (case' cd => (clear lF' lN'; intro u h tk F' N'))))
  (k_with "exec For Name Call cons nil" => kpr_for)
  (k_with "pyIter ref" => (k_of "times" => k_state_short (fun pre text => text.length ≤ 150 ∧ text = Mine.leftF myDs (2 ^ pre.length) myC) "text"))
  (k_with "state" => first | exact Mine.times_start hSh hLen | exact Mine.times_step (by assumption) hC hSh hLen (by assumption))
  -- the head; the two contracts; the walk
  (w_on; o_law; k_head; (case hw => w_witness2))
  w_strict k_go0
  (rename World => myW)
  (rename Top _ _ _ _ _ _ => myT)
  (rename Frag.In _ _ => myX)
  have hLeft := Mine.left_via (prog := PySem.Challenge.rw_ny0002_01.row.prog) (w := myW) 60 myT myX (by
    intro l vs nn ds P tp c tc led hm hD hlen hS hP1 hP2 hc
    dsimp only [CbClaim, CbLists, CbRet]
    intros
    rename_i hret
    refine wpAny_call ?_
    (k_dflt cell_enter)
    w_strict k_steps
    all_goals (cb_end hret))
  have hParse := Mine.parse_via (prog := PySem.Challenge.rw_ny0002_01.row.prog) (w := myW) 46 myT myX (by
    intro x tx led hpre
    obtain ⟨⟨y, hy⟩, hl⟩ := hpre
    dsimp only [CbClaim, CbLists, CbRet]
    intros
    rename_i hret
    refine wpAny_call ?_
    (k_dflt cell_enter)
    w_strict k_steps
    all_goals first | (exfalso; exact Mine.no_head hy (by assumption)) | (exfalso; exact Mine.no_sep hy (by assumption)) | cb_end hret)
  w_strict ((all_goals try k_fold); k_steps; (all_goals (try k_data)); all_goals w_report)
