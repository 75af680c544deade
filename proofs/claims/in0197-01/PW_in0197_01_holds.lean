import PyProof.Rows.All
import Wide.All
import OpenK.AllK
import Wide.FinOn
import PySem.Challenge.RW_in0197_01
open PySem PySem.W PyProof.Rows PySem.Spec PySem.Calls
set_option Elab.async false
namespace Mine

/-- the loop's letters: two names of the frame, each with one int behind it -/
def JE (V1 V2 : Int → Tok → Value) (P : Nat → Int → Int → Prop) (xi xc y1 y2 : Str) (m₀ : Str → Option Value) (i : Nat) (m : Str → Option Value) : Prop :=
  ∃ a b t1 t2, m y1 = some (V1 a t1) ∧ m y2 = some (V2 b t2) ∧ P i a b ∧ ∀ z, z ≠ xc → z ≠ xi → z ≠ y1 → z ≠ y2 → m z = m₀ z

section
variable {prog : Program} {w : World} {A : Around} {E : Value → Shared → Prop} {s : Shared} {env : Env} {h₀ : Heap} {xi xc : Str} {body : List Stmt} {Q : Flow → Shared → Prop}

/-- a loop over enumerate of a made list of ints, by what holds between the turns -/
theorem enum_inv {l : Addr} {vs : List Value} {ns : List Int} {nn : Nat} {m₀ : Str → Option Value} {news : List (Addr × Obj)} (J : Nat → (Str → Option Value) → Prop)
    (hh : A.handled = none) (F : Fr h₀ env.locals s.heap m₀) (N : News h₀ env.locals s.heap news) (hm : (l, listOf vs.toArray nn) ∈ news) (hi : IntsAre vs ns) (hj : J 0 m₀)
    (turn : ∀ i d t u m₁ h tk own, ns[i]? = some d → J i m₁ → Fr h₀ env.locals h (fun y => if y = xc then some (.int d u) else if y = xi then some (.int (i : Nat) t) else m₁ y) → News h₀ env.locals h (news ++ own) →
      wpAny (model prog w) A (execs body env) (InvPost h₀ env.locals (J (i + 1)) (news ++ own) { s with heap := h, toks := tk } Q) E { s with heap := h, toks := tk })
    (done : ∀ m₁ h tk, J ns.length m₁ → Fr h₀ env.locals h m₁ → News h₀ env.locals h news → Q .next { s with heap := h, toks := tk }) :
    wpAny (model prog w) A (call (.type "enumerate") [.ref l]) (fun xv s₁ => wpAny (model prog w) A (pyIter xv) (fun it s₂ => PairAt3 prog w A h₀ env xi xc body Q E it s₂) E s₁) E s := by
  have hl : s.heap.IsList l vs.toArray := N.isList hm
  have hlL : l ≠ env.locals := N.ne hm
  have hln : h₀.get? l = none := N.fresh hm
  have hlt : l < s.heap.objs.size := Heap.lt_size (N.get hm)
  have hLs : env.locals < s.heap.objs.size := F.ns.lt
  have hab : h₀.objs.size ≤ env.locals := F.above
  refine call_enumerate_list hl fun h' he hit hsz hk => ?_
  have F' : Fr h₀ env.locals h' m₀ := ⟨F.ns.keeps hk, fun b o e => hk b o (F.keep b o e), F.above⟩
  have N' : News h₀ env.locals h' news := N.grown hk
  refine wpAny_pyIter_enum he ?_
  refine ⟨_, _, _, vs.toArray.size, _, _, _, (fun i v0 v1 => ∃ t, v0 = .int (i : Nat) t ∧ vs.toArray[i]? = some v1), m₀, news, fun i m nx => nx = news ∧ J i m, rfl,
    WalksT.enumerate hh (s.heap.objs.size + 1) s.heap.objs.size l (Nat.succ_ne_self _) (Nat.ne_of_lt (Nat.lt_succ_of_lt hlt)) (Nat.ne_of_lt hlt) vs.toArray, ?_, ?_, ?_, ?_, ⟨⟨_, he⟩, hit, hl.at fun o e => hk l o e⟩, F', N', ⟨rfl, hj⟩, ?_, ?_⟩
  · rintro i vals ⟨t, x, hx, rfl⟩
    exact ⟨_, _, rfl, t, rfl, hx⟩
  · intro hm'
    rcases List.mem_cons.mp hm' with e | hm'
    · exact Nat.ne_of_lt (Nat.lt_succ_of_lt hLs) e
    · rcases List.mem_cons.mp hm' with e | hm'
      · exact Nat.ne_of_lt hLs e
      · exact hlL (List.mem_singleton.mp hm').symm
  · intro b hb
    rcases List.mem_cons.mp hb with e | hb
    · rw [e]; exact Heap.get?_none_of_le (Nat.le_trans hab (Nat.le_of_lt (Nat.lt_succ_of_lt hLs)))
    · rw [List.mem_singleton.mp hb]; exact Heap.get?_none_of_le (Nat.le_trans hab (Nat.le_of_lt hLs))
  · intro p hp hb
    have hq1 : p.1 < s.heap.objs.size := Heap.lt_size (N p hp).1
    rcases List.mem_cons.mp hb with e1 | hb
    · exact Nat.ne_of_lt (Nat.lt_succ_of_lt hq1) e1
    · exact Nat.ne_of_lt hq1 (List.mem_singleton.mp hb)
  · rintro i v0 v1 m₁ news₁ s₁ own ⟨hh₁, tk₁, rfl⟩ hin ⟨t, rfl, hv⟩ ⟨rfl, hJ⟩ _ _ F₁ N₁
    have hlt' : i < ns.length := by
      have : i < vs.length := by simpa using hin
      rw [hi.length] at this; exact this
    obtain ⟨u, hx⟩ := hi.get i ns[i] (by simp [hlt'])
    have hv1 : v1 = .int ns[i] u := by
      have hP' : vs[i]? = some v1 := by simpa using hv
      rw [hx] at hP'; exact (Option.some.inj hP').symm
    subst hv1
    have N₂ : News h₀ env.locals hh₁ (news₁ ++ own) := fun p hp => N₁ p ((List.mem_append.mp hp).elim (fun h => List.mem_append.mpr (.inr h)) fun h => List.mem_append.mpr (.inl h))
    refine wpAny_mono (turn i ns[i] t u m₁ hh₁ tk₁ own (by simp [hlt']) hJ F₁ N₂) (fun f s₂ p => ?_) fun _ _ e => e
    have fin : InvEnd h₀ env.locals (J (i + 1)) (news₁ ++ own) { s with heap := hh₁, toks := tk₁ } s₂ → ∃ h' tk m₂ news₂, s₂ = { s with heap := h', toks := tk } ∧ Fr h₀ env.locals h' m₂ ∧ News h₀ env.locals h' (own ++ news₂) ∧ news₂.map (·.1) = news₁.map (·.1) ∧ (news₂ = news₁ ∧ J (i + 1) m₂) := by
      rintro ⟨h', tk, m', news', e, F', N', hn, hm⟩
      exact ⟨h', tk, m', news₁, e, F', fun p hp => N' p (hn p ((List.mem_append.mp hp).elim (fun h => List.mem_append.mpr (.inr h)) fun h => List.mem_append.mpr (.inl h))), rfl, rfl, hm⟩
    cases f with
    | ret v => exact p
    | brk => exact p
    | next => exact ⟨rfl, fin p⟩
    | cont => exact ⟨rfl, fin p⟩
  · rintro h9 tk m9 news9 F9 N9 _ ⟨e9, hJ⟩
    have hlen : vs.toArray.size = ns.length := by simp [hi.length]
    rw [hlen] at hJ
    rw [e9] at N9
    exact done m9 h9 tk hJ F9 N9

theorem je_turn {V1 V2 : Int → Tok → Value} {y1 y2 : Str} {m₀ m₁ : Str → Option Value} {v0 v1 : Value} {a b : Int} {t1 t2 : Tok} (h1 : m₁ y1 = some (V1 a t1)) (h2 : m₁ y2 = some (V2 b t2)) (h3 : ∀ z, z ≠ xc → z ≠ xi → z ≠ y1 → z ≠ y2 → m₁ z = m₀ z) :
    (fun y => if y = xc then some v1 else if y = xi then some v0 else m₁ y) = fun y => if y = xc then some v1 else if y = xi then some v0 else if y = y1 then some (V1 a t1) else if y = y2 then some (V2 b t2) else m₀ y := by
  funext y
  by_cases e1 : y = xc
  · simp [e1]
  by_cases e2 : y = xi
  · simp only [if_neg e1, if_pos e2]
  by_cases e3 : y = y1
  · subst e3; simp [e1, e2, h1]
  by_cases e4 : y = y2
  · subst e4; simp [e1, e2, e3, h2]
  simp only [if_neg e1, if_neg e2, if_neg e3, if_neg e4]
  exact h3 y e1 e2 e3 e4

/-- the same with two names of the frame turned, each a letter -/
theorem enum_two {l : Addr} {vs : List Value} {ns : List Int} {nn : Nat} {m₀ : Str → Option Value} {news : List (Addr × Obj)} (V1 V2 : Int → Tok → Value) (P : Nat → Int → Int → Prop) (y1 y2 : Str) {a₀ b₀ : Int} {s₀ u₀ : Tok}
    (hh : A.handled = none) (F : Fr h₀ env.locals s.heap m₀) (N : News h₀ env.locals s.heap news) (hm : (l, listOf vs.toArray nn) ∈ news) (hi : IntsAre vs ns)
    (h1 : m₀ y1 = some (V1 a₀ s₀)) (h2 : m₀ y2 = some (V2 b₀ u₀)) (hP : P 0 a₀ b₀)
    (turn : ∀ (i : Nat) (d a b : Int) t u t1 t2 h tk own, ns[i]? = some d → P i a b → Fr h₀ env.locals h (fun y => if y = xc then some (.int d u) else if y = xi then some (.int (i : Nat) t) else if y = y1 then some (V1 a t1) else if y = y2 then some (V2 b t2) else m₀ y) → News h₀ env.locals h (news ++ own) →
      wpAny (model prog w) A (execs body env) (InvPost h₀ env.locals (JE V1 V2 P xi xc y1 y2 m₀ (i + 1)) (news ++ own) { s with heap := h, toks := tk } Q) E { s with heap := h, toks := tk })
    (done : ∀ (a b : Int) vc vi t1 t2 h tk, P ns.length a b → Fr h₀ env.locals h (fun y => if y = xc then vc else if y = xi then vi else if y = y1 then some (V1 a t1) else if y = y2 then some (V2 b t2) else m₀ y) → News h₀ env.locals h news → Q .next { s with heap := h, toks := tk }) :
    wpAny (model prog w) A (call (.type "enumerate") [.ref l]) (fun xv s₁ => wpAny (model prog w) A (pyIter xv) (fun it s₂ => PairAt3 prog w A h₀ env xi xc body Q E it s₂) E s₁) E s := by
  refine enum_inv (JE V1 V2 P xi xc y1 y2 m₀) hh F N hm hi ⟨a₀, b₀, s₀, u₀, h1, h2, hP, fun _ _ _ _ _ => rfl⟩ ?_ ?_
  · rintro i d t u m₁ h tk own hd ⟨a, b, t1, t2, q1, q2, hp, q3⟩ F₁ N₁
    rw [je_turn q1 q2 q3] at F₁
    exact turn i d a b t u t1 t2 h tk own hd hp F₁ N₁
  · rintro m₁ h tk ⟨a, b, t1, t2, q1, q2, hp, q3⟩ F₁ N₁
    refine done a b (m₁ xc) (m₁ xi) t1 t2 h tk hp ?_ N₁
    have e : (fun y => if y = xc then m₁ xc else if y = xi then m₁ xi else if y = y1 then some (V1 a t1) else if y = y2 then some (V2 b t2) else m₀ y) = m₁ := by
      funext y
      by_cases e1 : y = xc
      · simp [e1]
      by_cases e2 : y = xi
      · simp only [if_neg e1, if_pos e2]; rw [e2]
      by_cases e3 : y = y1
      · simp only [if_neg e1, if_neg e2, if_pos e3]; rw [e3, q1]
      by_cases e4 : y = y2
      · simp only [if_neg e1, if_neg e2, if_neg e3, if_pos e4]; rw [e4, q2]
      simp only [if_neg e1, if_neg e2, if_neg e3, if_neg e4]
      exact (q3 y e1 e2 e3 e4).symm
    rw [e]
    exact F₁
end

/-- one deed upon an int -/
def step (r d : Int) : Int := if d = 0 then Builtin.bitAnd r 127 else if d = 1 then Builtin.bitAnd r 31 else Builtin.bitOr r 128
/-- the number behind the first i deeds -/
def runAt (x : Int) (ds : List Int) : Nat → Int
  | 0 => x
  | i + 1 => step (runAt x ds i) (ds.getD i 0)
/-- the place of the last deed among the first i that is not 2, or -1 -/
def cutAt (ds : List Int) : Nat → Int
  | 0 => -1
  | i + 1 => if ds.getD i 0 = 2 then cutAt ds i else (i : Nat)
/-- the place of the last deed among the first i that is 2, or -1 -/
def highAt (ds : List Int) : Nat → Int
  | 0 => -1
  | i + 1 => if ds.getD i 0 = 2 then (i : Nat) else highAt ds i
/-- what the law's own looking back gives -/
def lawBack (x : Int) (ds : List Int) : Int :=
  x.fmod 32 + 32 * (if ds.any (fun d => decide (d = 1)) = true then 0 else (x.fdiv 32).fmod 4) + 128 * (if highAt ds ds.length > cutAt ds ds.length then 1 else 0) + 256 * (if cutAt ds ds.length < 0 then x.fdiv 256 else 0)

def LawP (a₀ b₀ : Int) (ns : List Int) (i : Nat) (a b : Int) : Prop := a = runAt a₀ ns i ∧ b = runAt b₀ ns i ∧ 0 ≤ b ∧ b < 1114112
def BackP (ns : List Int) (i : Nat) (a b : Int) : Prop := a = cutAt ns i ∧ b = highAt ns i

section
variable {prog : Program} {w : World} {A : Around} {E : Value → Shared → Prop} {s : Shared} {env : Env} {h₀ : Heap} {body : List Stmt} {Q : Flow → Shared → Prop}

theorem enum_law {l : Addr} {vs : List Value} {ns : List Int} {nn : Nat} {m₀ : Str → Option Value} {news : List (Addr × Obj)} {a₀ b₀ : Int} {s₀ u₀ f₀ c₀ : Tok} {S : Str}
    (hh : A.handled = none) (F : Fr h₀ env.locals s.heap m₀) (N : News h₀ env.locals s.heap news) (hm : (l, listOf vs.toArray nn) ∈ news) (hi : IntsAre vs ns)
    (_hf : m₀ (Str.ofString "first") = some (.int a₀ f₀)) (_hc : m₀ (Str.ofString "code") = some (.int b₀ c₀))
    (h1 : m₀ (Str.ofString "number") = some (.int a₀ s₀)) (h2 : m₀ (Str.ofString "sign") = some (.str S u₀)) (hS : S = ⟨#[b₀.toNat]⟩) (hb : 0 ≤ b₀ ∧ b₀ < 1114112)
    (turn : ∀ (i : Nat) (d a b : Int) t u t1 t2 h tk own, ns[i]? = some d → LawP a₀ b₀ ns i a b → Fr h₀ env.locals h (fun y => if y = Str.ofString "deed" then some (.int d u) else if y = Str.ofString "k" then some (.int (i : Nat) t) else if y = Str.ofString "number" then some (.int a t1) else if y = Str.ofString "sign" then some (.str ⟨#[b.toNat]⟩ t2) else m₀ y) → News h₀ env.locals h (news ++ own) →
      wpAny (model prog w) A (execs body env) (InvPost h₀ env.locals (JE .int (fun b t => .str ⟨#[b.toNat]⟩ t) (LawP a₀ b₀ ns) (Str.ofString "k") (Str.ofString "deed") (Str.ofString "number") (Str.ofString "sign") m₀ (i + 1)) (news ++ own) { s with heap := h, toks := tk } Q) E { s with heap := h, toks := tk })
    (done : ∀ (a b : Int) vc vi t1 t2 h tk, Fr h₀ env.locals h (fun y => if y = Str.ofString "deed" then vc else if y = Str.ofString "k" then vi else if y = Str.ofString "number" then some (.int a t1) else if y = Str.ofString "sign" then some (.str ⟨#[b.toNat]⟩ t2) else m₀ y) → News h₀ env.locals h news → Q .next { s with heap := h, toks := tk }) :
    wpAny (model prog w) A (call (.type "enumerate") [.ref l]) (fun xv s₁ => wpAny (model prog w) A (pyIter xv) (fun it s₂ => PairAt3 prog w A h₀ env (Str.ofString "k") (Str.ofString "deed") body Q E it s₂) E s₁) E s :=
  enum_two .int (fun b t => .str ⟨#[b.toNat]⟩ t) (LawP a₀ b₀ ns) (Str.ofString "number") (Str.ofString "sign") hh F N hm hi h1 (hS ▸ h2) ⟨rfl, rfl, hb.1, hb.2⟩ turn (fun a b vc vi t1 t2 h tk _ => done a b vc vi t1 t2 h tk)

theorem enum_back {l : Addr} {vs : List Value} {ns : List Int} {nn : Nat} {m₀ : Str → Option Value} {news : List (Addr × Obj)} {s₀ u₀ : Tok}
    (hh : A.handled = none) (F : Fr h₀ env.locals s.heap m₀) (N : News h₀ env.locals s.heap news) (hm : (l, listOf vs.toArray nn) ∈ news) (hi : IntsAre vs ns)
    (h1 : m₀ (Str.ofString "cut") = some (.int (-1) s₀)) (h2 : m₀ (Str.ofString "high") = some (.int (-1) u₀))
    (turn : ∀ (i : Nat) (d a b : Int) t u t1 t2 h tk own, ns[i]? = some d → BackP ns i a b → Fr h₀ env.locals h (fun y => if y = Str.ofString "deed" then some (.int d u) else if y = Str.ofString "k" then some (.int (i : Nat) t) else if y = Str.ofString "cut" then some (.int a t1) else if y = Str.ofString "high" then some (.int b t2) else m₀ y) → News h₀ env.locals h (news ++ own) →
      wpAny (model prog w) A (execs body env) (InvPost h₀ env.locals (JE .int .int (BackP ns) (Str.ofString "k") (Str.ofString "deed") (Str.ofString "cut") (Str.ofString "high") m₀ (i + 1)) (news ++ own) { s with heap := h, toks := tk } Q) E { s with heap := h, toks := tk })
    (done : ∀ (a b : Int) vc vi t1 t2 h tk, BackP ns ns.length a b → Fr h₀ env.locals h (fun y => if y = Str.ofString "deed" then vc else if y = Str.ofString "k" then vi else if y = Str.ofString "cut" then some (.int a t1) else if y = Str.ofString "high" then some (.int b t2) else m₀ y) → News h₀ env.locals h news → Q .next { s with heap := h, toks := tk }) :
    wpAny (model prog w) A (call (.type "enumerate") [.ref l]) (fun xv s₁ => wpAny (model prog w) A (pyIter xv) (fun it s₂ => PairAt3 prog w A h₀ env (Str.ofString "k") (Str.ofString "deed") body Q E it s₂) E s₁) E s :=
  enum_two .int .int (BackP ns) (Str.ofString "cut") (Str.ofString "high") hh F N hm hi h1 h2 ⟨rfl, rfl⟩ turn done
end

theorem or128 (x : Int) : Builtin.bitOr x 128 = x + 128 - (x / 128 % 2) * 128 := by
  have h := kbt_bit x 7
  have e : (2 : Int) ^ 7 = 128 := by decide
  rw [e] at h
  rw [bitOr_and, h]
theorem step0 (r : Int) : step r 0 = r % 128 := by
  unfold step; rw [if_pos rfl, bitAnd_m7]
theorem step1 (r : Int) : step r 1 = r % 32 := by
  unfold step; rw [if_neg (by decide), if_pos rfl, bitAnd_m5]
theorem step2 (r : Int) : step r 2 = r + 128 - (r / 128 % 2) * 128 := by
  unfold step; rw [if_neg (by decide), if_neg (by decide), or128]
theorem step_in {r d : Int} (h0 : 0 ≤ r) (h1 : r < 1114112) : 0 ≤ step r d ∧ step r d < 1114112 := by
  unfold step
  split
  · rw [bitAnd_m7]; omega
  · split
    · rw [bitAnd_m5]; omega
    · rw [or128]; omega

theorem take_getD (ns : List Int) {i j : Nat} (h : j < i) : (ns.take i).getD j 0 = ns.getD j 0 := by
  simp [List.getD_eq_getElem?_getD, h]
theorem cut_take (ns : List Int) (n : Nat) : ∀ i, i ≤ n → cutAt (ns.take n) i = cutAt ns i
  | 0, _ => rfl
  | i + 1, h => by
    unfold cutAt
    rw [take_getD ns (by omega), cut_take ns n i (by omega)]
theorem high_take (ns : List Int) (n : Nat) : ∀ i, i ≤ n → highAt (ns.take n) i = highAt ns i
  | 0, _ => rfl
  | i + 1, h => by
    unfold highAt
    rw [take_getD ns (by omega), high_take ns n i (by omega)]
theorem cut_high (ns : List Int) : ∀ i : Nat, -1 ≤ cutAt ns i ∧ cutAt ns i < i ∧ -1 ≤ highAt ns i ∧ highAt ns i < i ∧ (i = 0 ∨ cutAt ns i ≠ highAt ns i)
  | 0 => by simp [cutAt, highAt]
  | i + 1 => by
    have h := cut_high ns i
    unfold cutAt highAt
    split <;> omega

/-- the form of the number behind i deeds: its four parts -/
def Parts (x : Int) (one : Bool) (c h : Int) (r : Int) : Prop :=
  r = x % 32 + 32 * (if one = true then 0 else x / 32 % 4) + 128 * (if h > c then 1 else 0) + 256 * (if c < 0 then x / 256 else 0)
theorem parts_first (x d : Int) (hd : d = 0 ∨ d = 1 ∨ d = 2) : Parts x (decide (d = 1)) (if d = 2 then -1 else 0) (if d = 2 then 0 else -1) (step x d) := by
  unfold Parts
  rcases hd with rfl | rfl | rfl
  · rw [step0]; simp; omega
  · rw [step1]; simp
  · rw [step2]; simp; omega
theorem parts_next {x d r c h : Int} {one : Bool} {i : Int} (hp : Parts x one c h r) (hd : d = 0 ∨ d = 1 ∨ d = 2) (hc : c < i) (hh : h < i) (h0 : 0 ≤ i) :
    Parts x (one || decide (d = 1)) (if d = 2 then c else i) (if d = 2 then i else h) (step r d) := by
  unfold Parts at hp ⊢
  rcases hd with rfl | rfl | rfl
  · rw [step0, hp]
    simp only [show ¬ ((0 : Int) = 2) by decide, show ¬ ((0 : Int) = 1) by decide, if_false, decide_false, Bool.or_false, if_neg (show ¬ h > i by omega), if_neg (show ¬ i < 0 by omega)]
    cases one <;> simp only [if_true, if_false, Bool.false_eq_true] <;> split <;> split <;> omega
  · rw [step1, hp]
    simp only [show ¬ ((1 : Int) = 2) by decide, if_false, decide_true, Bool.or_true, if_true, if_neg (show ¬ h > i by omega), if_neg (show ¬ i < 0 by omega)]
    cases one <;> simp only [if_true, if_false, Bool.false_eq_true] <;> split <;> split <;> omega
  · rw [step2, hp]
    simp only [show ¬ ((2 : Int) = 1) by decide, if_true, decide_false, Bool.or_false, if_pos (show i > c by omega)]
    cases one <;> simp only [if_true, if_false, Bool.false_eq_true] <;> split <;> split <;> omega

theorem any_take (ns : List Int) {i : Nat} {d : Int} (h : ns[i]? = some d) : (ns.take (i + 1)).any (fun d => decide (d = 1)) = ((ns.take i).any (fun d => decide (d = 1)) || decide (d = 1)) := by
  rw [List.take_add_one, h]
  simp
theorem parts_run (x : Int) (ns : List Int) (hn : ∀ d ∈ ns, d = 0 ∨ d = 1 ∨ d = 2) : ∀ i : Nat, i < ns.length → Parts x ((ns.take (i + 1)).any (fun d => decide (d = 1))) (cutAt ns (i + 1)) (highAt ns (i + 1)) (runAt x ns (i + 1))
  | 0, h => by
    have hg : ns[0]? = some ns[0] := by simp [h]
    have hG : ns.getD 0 0 = ns[0] := by simp [List.getD_eq_getElem?_getD, h]
    rw [any_take ns hg]
    simp only [cutAt, highAt, runAt, hG, List.take_zero, List.any_nil, Bool.false_or, Int.ofNat_zero]
    exact parts_first x ns[0] (hn _ (List.getElem_mem h))
  | i + 1, h => by
    have ih := parts_run x ns hn i (by omega)
    have hg : ns[i + 1]? = some ns[i + 1] := by simp [h]
    have hG : ns.getD (i + 1) 0 = ns[i + 1] := by simp [List.getD_eq_getElem?_getD, h]
    have hb := cut_high ns (i + 1)
    have q := parts_next ih (hn _ (List.getElem_mem h)) (i := ((i + 1 : Nat) : Int)) hb.2.1 hb.2.2.2.1 (by omega)
    rw [any_take ns hg]
    have e1 : cutAt ns (i + 1 + 1) = if ns[i + 1] = 2 then cutAt ns (i + 1) else ((i + 1 : Nat) : Int) := by
      rw [← hG]; rfl
    have e2 : highAt ns (i + 1 + 1) = if ns[i + 1] = 2 then ((i + 1 : Nat) : Int) else highAt ns (i + 1) := by
      rw [← hG]; rfl
    have e3 : runAt x ns (i + 1 + 1) = step (runAt x ns (i + 1)) ns[i + 1] := by
      rw [← hG]; rfl
    rw [e1, e2, e3]
    exact q

/-- behind every beginning of the run, what is given is what looking back tells -/
theorem run_back (x : Int) {ns : List Int} (hn : ∀ d ∈ ns, d = 0 ∨ d = 1 ∨ d = 2) {i : Nat} (h : i < ns.length) : runAt x ns (i + 1) = lawBack x (ns.take (i + 1)) := by
  have q := parts_run x ns hn i h
  have hl : (ns.take (i + 1)).length = i + 1 := by rw [List.length_take]; omega
  unfold lawBack
  rw [hl, cut_take ns _ _ (Nat.le_refl _), high_take ns _ _ (Nat.le_refl _), Int.fmod_eq_emod_of_nonneg _ (show (0 : Int) ≤ 32 by decide), Int.fdiv_eq_ediv_of_nonneg _ (show (0 : Int) ≤ 32 by decide), Int.fmod_eq_emod_of_nonneg _ (show (0 : Int) ≤ 4 by decide), Int.fdiv_eq_ediv_of_nonneg _ (show (0 : Int) ≤ 256 by decide)]
  exact q
theorem run_in {x : Int} {ns : List Int} (h0 : 0 ≤ x) (h1 : x < 1114112) : ∀ i, 0 ≤ runAt x ns i ∧ runAt x ns i < 1114112
  | 0 => ⟨h0, h1⟩
  | i + 1 => step_in (run_in h0 h1 i).1 (run_in h0 h1 i).2
theorem back_two {ns : List Int} {i : Nat} {d a b : Int} (hd : ns[i]? = some d) (h : d = 2) (hP : BackP ns i a b) : BackP ns (i + 1) a (i : Nat) := by
  subst h
  have e : ns.getD i 0 = 2 := by simp [List.getD_eq_getElem?_getD, hd]
  unfold BackP cutAt highAt
  rw [if_pos e, if_pos e]
  exact ⟨hP.1, rfl⟩
theorem back_other {ns : List Int} {i : Nat} {d a b : Int} (hd : ns[i]? = some d) (h : d ≠ 2) (hP : BackP ns i a b) : BackP ns (i + 1) (i : Nat) b := by
  have e : ns.getD i 0 = d := by simp [List.getD_eq_getElem?_getD, hd]
  unfold BackP cutAt highAt
  rw [e, if_neg h, if_neg h]
  exact ⟨rfl, hP.2⟩
theorem in_made {prog : Program} {w : World} {A : Around} {E : Value → Shared → Prop} {s : Shared} {h₀ : Heap} {L l : Addr} {news : List (Addr × Obj)} {vs : List Value} {ns : List Int} {c : Nat} {k : Int} {t : Tok} {Q : Value → Shared → Prop}
    (N : News h₀ L s.heap news) (hm : (l, listOf vs.toArray c) ∈ news) (hi : IntsAre vs ns) (h : Q (.bool (ns.any (fun d => decide (d = k)))) s) :
    wpAny (model prog w) A (compareOp .In (.int k t) (.ref l)) Q E s := by
  refine SeqInW.in_listW (isInt k) (fun y hy => eq_isInt k t hi y (by simpa using hy)) (N.isList hm) ?_
  rw [← Array.any_toList, List.toList_toArray, any_isInt k hi]
  exact h
theorem back_end {x a b : Int} {ns : List Int} (hP : BackP ns ns.length a b) {o : Bool} (ho : ns.any (fun d => decide (d = 1)) = o) {two eighth above : Int} (h2 : two = if o = true then 0 else (x.fdiv 32).fmod 4) (h8 : eighth = if b > a then 1 else 0) (ha : above = if a < 0 then x.fdiv 256 else 0) :
    x.fmod 32 + 32 * two + 128 * eighth + 256 * above = lawBack x ns := by
  obtain ⟨rfl, rfl⟩ := hP
  subst ho h2 h8 ha
  rfl
theorem deeds_in (xs : List Int) (y : Int) : ∀ d ∈ xs.map (fun k => k.fmod 3) ++ [y.fmod 3], d = 0 ∨ d = 1 ∨ d = 2 := by
  have h3 : ∀ x : Int, x.fmod 3 = 0 ∨ x.fmod 3 = 1 ∨ x.fmod 3 = 2 := by
    intro x
    rw [Int.fmod_eq_emod_of_nonneg _ (show (0 : Int) ≤ 3 by decide)]
    omega
  intro d hd
  rcases List.mem_append.mp hd with hd | hd
  · obtain ⟨k, _, rfl⟩ := List.mem_map.mp hd
    exact h3 k
  · rw [List.mem_singleton.mp hd]
    exact h3 y
section
variable {a₀ b₀ a b d : Int} {ns : List Int} {i : Nat}
theorem law_next (hd : ns[i]? = some d) (hP : LawP a₀ b₀ ns i a b) : LawP a₀ b₀ ns (i + 1) (step a d) (step b d) := by
  obtain ⟨rfl, rfl, h0, h1⟩ := hP
  have e : ns.getD i 0 = d := by simp [List.getD_eq_getElem?_getD, hd]
  refine ⟨?_, ?_, step_in h0 h1⟩
  · rw [← e]; rfl
  · rw [← e]; rfl
theorem law_next0 (hd : ns[i]? = some d) (h : d = 0) (hP : LawP a₀ b₀ ns i a b) : LawP a₀ b₀ ns (i + 1) (Builtin.bitAnd a 127) (Builtin.bitAnd ((b.toNat : Nat) : Int) 127) := by
  have q := law_next hd hP
  rw [Int.toNat_of_nonneg hP.2.2.1]
  unfold step at q
  rw [if_pos h, if_pos h] at q
  exact q
theorem law_next1 (hd : ns[i]? = some d) (h0 : d ≠ 0) (h : d = 1) (hP : LawP a₀ b₀ ns i a b) : LawP a₀ b₀ ns (i + 1) (Builtin.bitAnd a 31) (Builtin.bitAnd ((b.toNat : Nat) : Int) 31) := by
  have q := law_next hd hP
  rw [Int.toNat_of_nonneg hP.2.2.1]
  unfold step at q
  rw [if_neg h0, if_neg h0, if_pos h, if_pos h] at q
  exact q
theorem law_next2 (hd : ns[i]? = some d) (h0 : d ≠ 0) (h : d ≠ 1) (hP : LawP a₀ b₀ ns i a b) : LawP a₀ b₀ ns (i + 1) (Builtin.bitOr a 128) (Builtin.bitOr ((b.toNat : Nat) : Int) 128) := by
  have q := law_next hd hP
  rw [Int.toNat_of_nonneg hP.2.2.1]
  unfold step at q
  rw [if_neg h0, if_neg h0, if_neg h, if_neg h] at q
  exact q
theorem law_num (hd : ns[i]? = some d) (hn : ∀ d ∈ ns, d = 0 ∨ d = 1 ∨ d = 2) {a' b' : Int} (hP : LawP a₀ b₀ ns (i + 1) a' b') : lawBack a₀ (ns.take ((i : Int) + 1).toNat) = a' := by
  have hi : i < ns.length := (List.getElem?_eq_some_iff.mp hd).1
  have e : ((i : Int) + 1).toNat = i + 1 := by omega
  rw [e, ← run_back a₀ hn hi]
  exact hP.1.symm
theorem law_sgn (hd : ns[i]? = some d) (hn : ∀ d ∈ ns, d = 0 ∨ d = 1 ∨ d = 2) {a' b' : Int} (hP : LawP a₀ b₀ ns (i + 1) a' b') : lawBack b₀ (ns.take ((i : Int) + 1).toNat) = b' := by
  have hi : i < ns.length := (List.getElem?_eq_some_iff.mp hd).1
  have e : ((i : Int) + 1).toNat = i + 1 := by omega
  rw [e, ← run_back b₀ hn hi]
  exact hP.2.1.symm
end

/-- what _law_code gives -/
def codePt (x : Int) : Int := if x.fmod 1112064 < 55296 then x.fmod 1112064 else x.fmod 1112064 + 2048
theorem codePt_in (x : Int) : 0 ≤ codePt x ∧ codePt x < 1114112 := by
  unfold codePt
  rw [Int.fmod_eq_emod_of_nonneg _ (show (0 : Int) ≤ 1112064 by decide)]
  split <;> omega
theorem codePt_in' (x : Int) : 0 ≤ codePt x ∧ codePt x ≤ 1114111 := by
  have h := codePt_in x
  omega
theorem and_in {b y : Int} (hy : 0 ≤ y) (hy2 : y ≤ 1114111) : 0 ≤ Builtin.bitAnd b y ∧ Builtin.bitAnd b y ≤ 1114111 := by
  have h := bitAnd_range b hy
  omega
theorem or_in {b : Int} (h0 : 0 ≤ b) (h1 : b < 1114112) : 0 ≤ Builtin.bitOr ((b.toNat : Nat) : Int) 128 ∧ Builtin.bitOr ((b.toNat : Nat) : Int) 128 ≤ 1114111 := by
  rw [or128]; omega

/-- what _law_back gives, whoever calls it: its int and a made list of ints are handed in, the ledger stands as it stood -/
def LBC (prog : Program) (w : World) (K : Frag) (p : Program) (loose : List Str) (mean : ExcName → Option Value) (mg mb : Str → Option Value) (f : Addr) : Prop :=
  ∀ (dp un : Nat) (gd : Option (List Code)) (cn : Str) (cs : Scope) (a : Addr) (ccd : Value) (cl : List (Str × Addr)) (outer : List Env) (A₀ : Around) (base h₀ : Heap) (L : Addr) (m : Str → Option Value) (news : List (Addr × Obj)) (s : Shared)
    (x : Int) (t : Tok) (l : Addr) (vs : List Value) (ns : List Int) (c : Nat) (Q E : Value → Shared → Prop),
    Below A₀ base outer h₀ → Fr h₀ L s.heap m → K.In h₀ → News h₀ L s.heap news → Top p loose mean mg mb h₀ → cs.kind = .function →
    (l, listOf vs.toArray c) ∈ news → IntsAre vs ns → dp + 1 < recursionLimit → un + 8 < cLine →
    (∀ t h' tk', Fr h₀ L h' m → News h₀ L h' news → Q (.int (lawBack x ns) t) { s with heap := h', toks := tk' }) →
    wpAny (model prog w) (ktrTop dp un gd cn cs L a ccd cl outer) (call (.ref f) [.int x t, .ref l]) Q E s
theorem lb_use {prog : Program} {w : World} {K : Frag} {p : Program} {loose : List Str} {mean : ExcName → Option Value} {mg mb : Str → Option Value} {f : Addr} {dp un : Nat} {gd : Option (List Code)} {cn : Str} {cs : Scope} {a : Addr} {ccd : Value} {cl : List (Str × Addr)} {outer : List Env} {A₀ : Around} {base h₀ : Heap} {L : Addr} {m : Str → Option Value} {news : List (Addr × Obj)} {s : Shared}
    {x v : Int} {t : Tok} {l : Addr} {vs : List Value} {ns : List Int} {c : Nat} {Q E : Value → Shared → Prop} (H : LBC prog w K p loose mean mg mb f)
    (B : Below A₀ base outer h₀) (F : Fr h₀ L s.heap m) (X : K.In h₀) (N : News h₀ L s.heap news) (T : Top p loose mean mg mb h₀) (hk : cs.kind = .function)
    (hm : (l, listOf vs.toArray c) ∈ news) (hi : IntsAre vs ns) (hd : dp + 1 < recursionLimit) (hu : un + 8 < cLine) (hv : lawBack x ns = v)
    (ret : ∀ t h' tk', Fr h₀ L h' m → News h₀ L h' news → Q (.int v t) { s with heap := h', toks := tk' }) :
    wpAny (model prog w) (ktrTop dp un gd cn cs L a ccd cl outer) (call (.ref f) [.int x t, .ref l]) Q E s := by
  subst hv
  exact H _ _ _ _ _ _ _ _ _ _ _ _ _ _ _ _ _ _ _ _ _ _ _ _ B F X N T hk hm hi hd hu ret
theorem lb_cut {prog : Program} {w : World} {K : Frag} {p : Program} {loose : List Str} {mean : ExcName → Option Value} {mg mb : Str → Option Value} {h : Heap} {α : Type} {A : Around} {t : Sem α} {Q : α → Shared → Prop} {E : Value → Shared → Prop} {s : Shared} (f : Addr)
    (_X : K.In h) (_T : Top p loose mean mg mb h) (H : LBC prog w K p loose mean mg mb f) (k : LBC prog w K p loose mean mg mb f → wpAny (model prog w) A t Q E s) : wpAny (model prog w) A t Q E s := k H

end Mine
open Mine

-- the lines of _law_back's own walk
local macro_rules
  | `(tactic| walk_at "call type:enumerate") => `(tactic| (
    k_here
    (with_reducible show wpAny _ _ (call (Value.type _) [Value.ref _]) (fun xv s₁ => wpAny _ _ (pyIter xv) (fun it s₂ => PairAt3 _ _ _ _ _ _ _ _ _ _ it s₂) _ s₁) _ _)
    k_dflt (refine' enum_back ?hh ?F ?N ?hm ?hi ?h1 ?h2 ?_ ?_; (case hh => exact rfl); (case F => k_asm); (case N => k_asm); (case hm => assumption); (case hi => assumption); (case h1 => exact rfl); (case h2 => exact rfl))
    rotate_left
    intro _ _ _ _ _ _ h' _ hP' F' N'
    rotate_left
    intro _ _ _ _ _ _ _ _ h' _ own' hd' hP' F' N'))
local macro_rules
  | `(tactic| walk_at "InvEnd") => `(tactic| first
    | exact InvEnd.intro (by assumption) (by assumption) (fun _ h => h) ⟨_, _, _, _, rfl, rfl, back_two (by assumption) (by assumption) (by assumption), fun z e1 e2 e3 e4 => by simp only [if_neg e1, if_neg e2, if_neg e3, if_neg e4]⟩
    | exact InvEnd.intro (by assumption) (by assumption) (fun _ h => h) ⟨_, _, _, _, rfl, rfl, back_other (by assumption) (by assumption) (by assumption), fun z e1 e2 e3 e4 => by simp only [if_neg e1, if_neg e2, if_neg e3, if_neg e4]⟩)
local macro_rules
  | `(tactic| walk_at "compareOp In int ref") => `(tactic| (k_here; k_dflt (refine' in_made ?N ?hm ?hi ?_; (case N => assumption); (case hm => assumption); (case hi => assumption))))

-- the lines of the law's walk
local macro_rules
  | `(tactic| walk_at "call builtin:chr") => `(tactic| first
    | (refine chr_of_range (codePt_in' _).1 (codePt_in' _).2 ?_)
    | ((rename LawP _ _ _ _ _ _ => hP9); first
      | (refine chr_of_range (and_in (by decide) (by decide)).1 (and_in (by decide) (by decide)).2 ?_)
      | (refine chr_of_range (or_in hP9.2.2.1 hP9.2.2.2).1 (or_in hP9.2.2.1 hP9.2.2.2).2 ?_)))
local macro_rules
  | `(tactic| walk_at "call type:enumerate") => `(tactic| (
    k_here
    (with_reducible show wpAny _ _ (call (Value.type _) [Value.ref _]) (fun xv s₁ => wpAny _ _ (pyIter xv) (fun it s₂ => PairAt3 _ _ _ _ _ _ _ _ _ _ it s₂) _ s₁) _ _)
    k_dflt (refine' enum_law ?hh ?F ?N ?hm ?hi ?hf ?hc ?h1 ?h2 ?hS ?hb ?_ ?_; (case hh => exact rfl); (case F => k_asm); (case N => k_asm); (case hf => exact rfl); (case hc => exact rfl); (case h1 => exact rfl); (case h2 => exact rfl); (case hm => k_mem); (case hi => l_ints); (case hS => rfl); (case hb => exact codePt_in _))
    rotate_left
    intro _ _ _ _ _ _ h' _ F' N'
    rotate_left
    intro _ _ _ _ _ _ _ _ h' _ own' hd' hP' F' N'
    (try simp only [List.cons_append, List.nil_append] at N')))
local macro_rules
  | `(tactic| walk_at "call ref") => `(tactic| (
    k_here
    (with_reducible show wpAny _ _ (call (Value.ref _) [Value.int _ _, Value.ref _]) _ _ _)
    (rename LawP _ _ _ _ _ _ => hP9)
    (rename (_ : Option Int) = some _ => hd9)
    (rename LBC _ _ _ _ _ _ _ _ _ => hB9)
    k_dflt (refine' lb_use hB9 ?B ?F ?X ?N ?T ?hk ?hm ?hi ?hd ?hu ?hv ?_; (case B => k_asm); (case F => k_asm); (case X => k_asm); (case N => k_asm); (case T => k_asm); (case hk => exact rfl); (case hm => k_mem); (case hi => l_ints); (case hd => ktr_room); (case hu => ktr_units); (case hv => first
        | with_reducible exact law_num hd9 (deeds_in _ _) (law_next0 hd9 (by assumption) hP9)
        | with_reducible exact law_num hd9 (deeds_in _ _) (law_next1 hd9 (by assumption) (by assumption) hP9)
        | with_reducible exact law_num hd9 (deeds_in _ _) (law_next2 hd9 (by assumption) (by assumption) hP9)
        | with_reducible exact law_sgn hd9 (deeds_in _ _) (law_next0 hd9 (by assumption) hP9)
        | with_reducible exact law_sgn hd9 (deeds_in _ _) (law_next1 hd9 (by assumption) (by assumption) hP9)
        | with_reducible exact law_sgn hd9 (deeds_in _ _) (law_next2 hd9 (by assumption) (by assumption) hP9)))
    intro t9 h9 tk9 F9 N9
    (try dsimp only)
    (try k_fold)))
local macro_rules
  | `(tactic| walk_at "InvEnd") => `(tactic| first
    | exact InvEnd.intro (by assumption) (by assumption) (by intro p hp; k_ownIn) ⟨_, _, _, _, rfl, rfl, law_next0 (by assumption) (by assumption) (by assumption), fun z e1 e2 e3 e4 => by simp only [if_neg e1, if_neg e2, if_neg e3, if_neg e4]⟩
    | exact InvEnd.intro (by assumption) (by assumption) (by intro p hp; k_ownIn) ⟨_, _, _, _, rfl, rfl, law_next1 (by assumption) (by assumption) (by assumption) (by assumption), fun z e1 e2 e3 e4 => by simp only [if_neg e1, if_neg e2, if_neg e3, if_neg e4]⟩
    | exact InvEnd.intro (by assumption) (by assumption) (by intro p hp; k_ownIn) ⟨_, _, _, _, rfl, rfl, law_next2 (by assumption) (by assumption) (by assumption) (by assumption), fun z e1 e2 e3 e4 => by simp only [if_neg e1, if_neg e2, if_neg e3, if_neg e4]⟩)
set_option maxRecDepth 100000 in
set_option maxHeartbeats 16000000 in
theorem PySem.Challenge.cw_in0197_01_holds : PySem.Challenge.rw_in0197_01.Holds := by
  k_with "call ref" => k_call_by "_law_code" codePt
  k_with "tree" => simp only [codePt]
  w_on
  o_law
  k_head
  case hw => w_witness2
  w_strict (
    k_go0
    (rename Frag.In _ _ => X9)
    (rename Top _ _ _ _ _ _ => T9)
    refine lb_cut 56 X9 T9 ?_ (fun hB9 => ?_)
    · unfold LBC
      intro dp un gd cn cs a ccd cl outer A₀ base h₀ L m news s x t l vs ns c Q E B F X N T hk hm hi hdp hun hret
      refine wpAny_call ?_
      k_dflt cell_enter
      k_steps
      all_goals
        (refine' cb_retI (Q := Q) (s := s) hret ?_ (by assumption) (by assumption)
         refine back_end (by assumption) rfl ?_ ?_ ?_)
      all_goals first
        | exact (if_pos (by first | assumption | omega)).symm
        | exact (if_neg (by first | assumption | omega)).symm
        | exact (if_neg (Bool.eq_false_iff.mp (by assumption))).symm
    · (all_goals try k_fold)
      k_steps
      (all_goals (try k_data))
      all_goals w_report)
