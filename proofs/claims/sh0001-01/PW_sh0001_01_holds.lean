import PyProof.Rows.All
import Wide.All
import OpenK.AllK
import Wide.FinOn
import PySem.Challenge.RW_sh0001_01
open PySem PySem.W PySem.Calls PySem.Spec PyProof.Rows
set_option Elab.async false
set_option maxRecDepth 100000
set_option maxHeartbeats 8000000
namespace Mine
open_top hd for PySem.Challenge.rw_sh0001_01
end Mine
namespace Leap
/-- leapdays as the text reckons it -/
def ld (y1 y2 : Int) : Int :=
  Int.fdiv (y2 - 1) 4 - Int.fdiv (y1 - 1) 4 - (Int.fdiv (y2 - 1) 100 - Int.fdiv (y1 - 1) 100) + (Int.fdiv (y2 - 1) 400 - Int.fdiv (y1 - 1) 400)
/-- isleap as the text reckons it -/
def il (y : Int) : Bool := Int.fmod y 4 == 0 && (Int.fmod y 100 != 0 || Int.fmod y 400 == 0)
/-- the rungs of 400 years -/
def rungs : List Int := ((PyProof.Rows.rangeInts 0 4 100).filter fun a => !([100, 200, 300] : List Int).any fun x => x == a)
/-- rung c of the ladder -/
def rung (c : Int) : Int := 400 * Int.fdiv c 97 + rungs.getD (Int.fmod c 97).toNat 0
def step (r : Nat) : Int := 4 * ((r : Int) + (if 25 ≤ r then 1 else 0) + (if 49 ≤ r then 1 else 0) + (if 73 ≤ r then 1 else 0))
theorem rungs_len : rungs.length = 97 := by decide +kernel
theorem rungs_at : ∀ r : Fin 97, rungs.getD r.val 0 = step r.val := by decide +kernel
theorem rungs_getD {r : Int} (h0 : 0 ≤ r) (h1 : r < 97) : rungs.getD r.toNat 0 = 4 * (r + (if 25 ≤ r then 1 else 0) + (if 49 ≤ r then 1 else 0) + (if 73 ≤ r then 1 else 0)) := by
  have e := rungs_at ⟨r.toNat, by omega⟩
  simp only [step] at e
  rw [e]
  have : ((r.toNat : Nat) : Int) = r := Int.toNat_of_nonneg h0
  rw [this]
  congr 2
  · congr 1
    · congr 1
      split <;> split <;> omega
    · split <;> split <;> omega
  · split <;> split <;> omega
theorem fd (a : Int) (b : Int) (h : 0 < b) : Int.fdiv a b = a / b := Int.fdiv_eq_ediv_of_nonneg a (Int.le_of_lt h)
theorem fm (a : Int) (b : Int) (h : 0 < b) : Int.fmod a b = a % b := Int.fmod_eq_emod_of_nonneg a (Int.le_of_lt h)
theorem rung_eq (c : Int) : rung c = 400 * (c / 97) + 4 * (c % 97 + (if 25 ≤ c % 97 then 1 else 0) + (if 49 ≤ c % 97 then 1 else 0) + (if 73 ≤ c % 97 then 1 else 0)) := by
  unfold rung
  rw [fd c 97 (by decide), fm c 97 (by decide), rungs_getD (by omega) (by omega)]
theorem ld_eq (y1 y2 : Int) : ld y1 y2 = (y2 - 1) / 4 - (y1 - 1) / 4 - ((y2 - 1) / 100 - (y1 - 1) / 100) + ((y2 - 1) / 400 - (y1 - 1) / 400) := by
  unfold ld
  simp only [fd _ 4 (by decide), fd _ 100 (by decide), fd _ 400 (by decide)]
theorem ld_split (a b : Int) : ld a b = ld 0 b - ld 0 a := by
  simp only [ld_eq]; omega
theorem ld0_eq (y : Int) : ld 0 y = (y - 1) / 4 - (y - 1) / 100 + (y - 1) / 400 + 1 := by
  rw [ld_eq]; omega
theorem key (c m : Int) : ld 0 m ≤ c ↔ m ≤ rung c := by
  rw [ld0_eq, rung_eq]
  have h1 : ∃ p s : Int, m - 1 = 400 * p + s ∧ 0 ≤ s ∧ s < 400 := ⟨(m - 1) / 400, (m - 1) % 400, by omega, by omega, by omega⟩
  have h2 : ∃ q r : Int, c = 97 * q + r ∧ 0 ≤ r ∧ r < 97 := ⟨c / 97, c % 97, by omega, by omega, by omega⟩
  obtain ⟨p, s, hm, hs0, hs1⟩ := h1
  obtain ⟨q, r, hc, hr0, hr1⟩ := h2
  have e1 : (m - 1) / 4 = 100 * p + s / 4 := by omega
  have e2 : (m - 1) / 100 = 4 * p + s / 100 := by omega
  have e3 : (m - 1) / 400 = p := by omega
  have e4 : c / 97 = q := by omega
  have e5 : c % 97 = r := by omega
  rw [e1, e2, e3, e4, e5, hc]
  have hm' : m = 400 * p + s + 1 := by omega
  rw [hm']
  by_cases g1 : 25 ≤ r <;> by_cases g2 : 49 ≤ r <;> by_cases g3 : 73 ≤ r <;> simp only [g1, g2, g3, if_true, if_false] <;> omega
theorem gap (c : Int) : rung (c + 1) - rung c = 4 ∨ rung (c + 1) - rung c = 8 := by
  rw [rung_eq, rung_eq]
  by_cases g1 : 25 ≤ c % 97 <;> by_cases g2 : 49 ≤ c % 97 <;> by_cases g3 : 73 ≤ c % 97 <;>
  by_cases g4 : 25 ≤ (c + 1) % 97 <;> by_cases g5 : 49 ≤ (c + 1) % 97 <;> by_cases g6 : 73 ≤ (c + 1) % 97 <;> simp only [g1, g2, g3, g4, g5, g6, if_true, if_false] <;> omega
theorem gap_ne (c : Int) : rung (c + 1) - rung c ≠ 0 := by rcases gap c with h | h <;> omega
theorem ld_rung (c : Int) : ld 0 (rung c) = c := by
  have h1 := (key c (rung c)).mpr (Int.le_refl _)
  have h2 := (key (c - 1) (rung c))
  have h3 := gap (c - 1)
  rw [Int.sub_add_cancel] at h3
  omega
theorem ld_over (c o : Int) (h0 : 0 < o) (h1 : o < rung (c + 1) - rung c) : ld 0 (rung c + o) = c + 1 := by
  have h2 := key (c + 1) (rung c + o)
  have h3 := key c (rung c + o)
  omega
theorem il_eq (y : Int) : il y = decide (ld 0 (y + 1) - ld 0 y = 1) := by
  rw [ld0_eq, ld0_eq]
  unfold il
  rw [fm y 4 (by decide), fm y 100 (by decide), fm y 400 (by decide)]
  rw [Bool.eq_iff_iff]
  simp only [Bool.and_eq_true, Bool.or_eq_true, beq_iff_eq, bne_iff_ne, ne_eq, decide_eq_true_eq]
  omega
theorem il_over (c o : Int) (h0 : 0 ≤ o) (h1 : o < rung (c + 1) - rung c) : il (rung c + o) = decide (o = 0) := by
  rw [il_eq]
  by_cases e : o = 0
  · subst e
    have h2 := ld_rung c
    have h4 := gap c
    have h3 := ld_over c 1 (by decide) (by omega)
    simp only [Int.add_zero, h2, h3]
    simp
    omega
  · have h2 := ld_over c o (by omega) h1
    have h3 : ld 0 (rung c + o + 1) = c + 1 := by
      by_cases e' : o + 1 < rung (c + 1) - rung c
      · have := ld_over c (o + 1) (by omega) e'
        rw [Int.add_assoc]; exact this
      · have e2 : rung c + o + 1 = rung (c + 1) := by omega
        rw [e2, ld_rung]
    rw [h2, h3]
    simp [e]
theorem gap_pos (c : Int) : 0 < rung (c + 1) - rung c := by rcases gap c with h | h <;> omega
theorem over_lo (c x : Int) : 0 ≤ x.fmod (rung (c + 1) - rung c) := Int.fmod_nonneg_of_pos x (gap_pos c)
theorem over_hi (c x : Int) : x.fmod (rung (c + 1) - rung c) < rung (c + 1) - rung c := Int.fmod_lt_of_pos x (gap_pos c)
theorem turn_il (c x : Int) : il (rung c + x.fmod (rung (c + 1) - rung c)) = (x.fmod (rung (c + 1) - rung c) == 0) := by
  rw [il_over c _ (over_lo c x) (over_hi c x)]
  rfl
theorem turn_up (c x : Int) (h : 0 < x.fmod (rung (c + 1) - rung c)) : ld 0 (rung c + x.fmod (rung (c + 1) - rung c)) = c + 1 := ld_over c _ h (over_hi c x)
theorem turn_on (c x : Int) (h : ¬ 0 < x.fmod (rung (c + 1) - rung c)) : ld 0 (rung c + x.fmod (rung (c + 1) - rung c)) = c := by
  have h0 := over_lo c x
  have e : x.fmod (rung (c + 1) - rung c) = 0 := by omega
  rw [e, Int.add_zero, ld_rung]
theorem rung_lo (c : Int) : 400 * Int.fdiv c 97 ≤ rung c := by
  rw [rung_eq, fd c 97 (by decide)]
  by_cases g1 : 25 ≤ c % 97 <;> by_cases g2 : 49 ≤ c % 97 <;> by_cases g3 : 73 ≤ c % 97 <;> simp only [g1, g2, g3, if_true, if_false] <;> omega
theorem rung_hi (c : Int) : rung c < 400 * Int.fdiv c 97 + 400 := by
  rw [rung_eq, fd c 97 (by decide)]
  by_cases g1 : 25 ≤ c % 97 <;> by_cases g2 : 49 ≤ c % 97 <;> by_cases g3 : 73 ≤ c % 97 <;> simp only [g1, g2, g3, if_true, if_false] <;> omega
/-- one turn of the bisection -/
def halve (c : Int) (p : Int × Int) : Int × Int :=
  (if ld 0 ((p.fst + p.snd).fdiv 2) ≤ c then (p.fst + p.snd).fdiv 2 else p.fst, if ld 0 ((p.fst + p.snd).fdiv 2) ≤ c then p.snd else (p.fst + p.snd).fdiv 2)
theorem halve_ends (c : Int) : ∀ (ks : List Int) (p : Int × Int), p.1 ≤ rung c → rung c < p.2 → p.2 - p.1 ≤ 2 ^ ks.length → (ks.foldl (fun p _ => halve c p) p).1 = rung c := by
  intro ks
  induction ks with
  | nil =>
    intro p h0 h1 h2
    simp only [List.length_nil, Int.pow_zero] at h2
    simp only [List.foldl_nil]
    omega
  | cons k ks ih =>
    intro p h0 h1 h2
    rw [List.foldl_cons]
    have hp : (2 : Int) ^ (k :: ks).length = 2 * 2 ^ ks.length := by
      rw [List.length_cons, Int.pow_succ]; omega
    rw [hp] at h2
    generalize (2 : Int) ^ ks.length = W at h2 ih
    have hk := key c ((p.1 + p.2).fdiv 2)
    have hmid := fd (p.1 + p.2) 2 (by decide)
    by_cases hc : ld 0 ((p.fst + p.snd).fdiv 2) ≤ c
    · have e : halve c p = ((p.fst + p.snd).fdiv 2, p.snd) := by simp only [halve, hc, if_true]
      have hle := hk.mp hc
      rw [e]
      refine ih _ hle h1 ?_
      dsimp only
      omega
    · have e : halve c p = (p.fst, (p.fst + p.snd).fdiv 2) := by simp only [halve, hc, if_false]
      have hlt : rung c < (p.1 + p.2).fdiv 2 := Int.not_le.mp fun h => hc (hk.mpr h)
      rw [e]
      refine ih _ h0 hlt ?_
      dsimp only
      omega
theorem undone (c : Int) (ks : List Int) (h : ks.length = 9) : (ks.foldl (fun p _ => halve c p) (400 * Int.fdiv c 97, 400 * Int.fdiv c 97 + 400)).1 = rung c := by
  refine halve_ends c ks _ (rung_lo c) (rung_hi c) ?_
  rw [h]
  show (400 * Int.fdiv c 97 + 400) - 400 * Int.fdiv c 97 ≤ 512
  omega
end Leap
section
namespace Mine
/-- a goal that the walk leaves to the hand -/
def Hold (P : Prop) : Prop := P
theorem Hold.out {P : Prop} (h : Hold P) : P := h
theorem Hold.mk {P : Prop} (h : P) : Hold P := h
section
variable {prog : Program} {w : World} {A : Around} {E : Value → Shared → Prop} {s : Shared} {env : Env} {h₀ : Heap} {body : List Stmt} {Q : Flow → Shared → Prop}

/-- what a turn leaves, from the invariant's end to the loop rule's -/
theorem turn_up {own own' : List (Addr × Obj)} {wra : List Addr} {J : (Str → Option Value) → List (Addr × Obj) → Prop} {s₁ s₂ : Shared} {f : Flow}
    (fin : InvEndG h₀ env.locals J own' s₁ s₂ → LoopStepU h₀ env.locals wra own J s₁ .next s₂)
    (p : InvPostG h₀ env.locals J own' s₁ Q f s₂) : LoopStepV h₀ env.locals wra own J s₁ (fun v s' => Q (.ret v) s') (fun s' => Q .next s') f s₂ := by
  cases f with
  | ret v => exact .ret p
  | brk => exact .brk p
  | next => exact .next (fin p)
  | cont => exact .cont (fin p)

/-- «for a, b in enumerate(l)», l a list that stood before the frame, by an invariant -/
theorem enum_base {elts : List Expr} {k : Nat} {pos : Pos} {l : Addr} {vs : List Value} {m₀ : Str → Option Value} {news : List (Addr × Obj)} (J : Nat → (Str → Option Value) → List (Addr × Obj) → Prop)
    (hh : A.handled = none) (hl : h₀.IsList l vs.toArray) (F : Fr h₀ env.locals s.heap m₀) (N : News h₀ env.locals s.heap news) (hj : J 0 m₀ news)
    (turn : ∀ i v T t m₁ news₁ h tk own, vs[i]? = some v → i < vs.length → OwnOff own (news₁.map (·.1)) → J i m₁ news₁ → IsTup h T #[.int ((i : Nat) : Int) t, v] → Fr h₀ env.locals h m₁ → News h₀ env.locals h (news₁ ++ own) →
      wpAny (model prog w) A (assign (.Tuple elts k pos) env (.ref T)) (fun _ s₃ => wpAny (model prog w) A (execs body env) (InvPostG h₀ env.locals (J (i + 1)) own { s with heap := h, toks := tk } Q) E s₃) E { s with heap := h, toks := tk })
    (done : ∀ m₁ news₁ h tk, J vs.length m₁ news₁ → Fr h₀ env.locals h m₁ → News h₀ env.locals h news₁ → Q .next { s with heap := h, toks := tk }) :
    wpAny (model prog w) A (call (.type "enumerate") [.ref l]) (fun xv s₁ => wpAny (model prog w) A (pyIter xv) (fun it s₂ => TurnsAt prog w A h₀ env (.Tuple elts k pos) body Q E it s₂) E s₁) E s := by
  have hls : s.heap.IsList l vs.toArray := hl.at fun o e => F.keep l o e
  obtain ⟨ol, hol, _⟩ := id hl
  have hlt0 : l < h₀.objs.size := Heap.lt_size hol
  have hLs : env.locals < s.heap.objs.size := F.ns.lt
  have hlL : l < env.locals := Nat.lt_of_lt_of_le hlt0 F.above
  have hlt : l < s.heap.objs.size := Nat.lt_trans hlL hLs
  refine call_enumerate_list hls fun h' hE hI hsz hk => ?_
  refine wpAny_pyIter_enum hE ?_
  have W := KTurns.ofWalksU (elts := elts) (k := k) (pos := pos) (WalksT.enumerate (prog := prog) (w := w) hh (s.heap.objs.size + 1) s.heap.objs.size l (Nat.succ_ne_self _) (ktu_ne 1 hlt) (Nat.ne_of_lt hlt) vs.toArray).toU
  have hlen : vs.toArray.size = vs.length := by simp
  rw [hlen] at W
  have new0 : h₀.get? s.heap.objs.size = none := ktu_new F (Nat.le_refl _)
  have new1 : h₀.get? (s.heap.objs.size + 1) = none := ktu_new F (Nat.le_add_right _ _)
  refine ⟨_, _, _, vs.length, _, _, _, m₀, news, J, rfl, W, ?_, ?_, ?_, ⟨⟨.none, hE⟩, hI, hls.at fun o e => hk l o e⟩, F.keeps hk, N.grown hk, hj, ?_, ?_⟩
  · intro hI'
    have hb' : env.locals = s.heap.objs.size + 1 ∨ env.locals = s.heap.objs.size ∨ env.locals = l := by simpa using hI'
    rcases hb' with e | e | e
    · exact ktu_ne 1 hLs e
    · exact Nat.ne_of_lt hLs e
    · exact Nat.ne_of_lt hlL e.symm
  · intro b hb
    have hb' : b = s.heap.objs.size + 1 ∨ b = s.heap.objs.size := by simpa using hb
    rcases hb' with rfl | rfl
    · exact new1
    · exact new0
  · intro p hp hI'
    have hb' : p.1 = s.heap.objs.size + 1 ∨ p.1 = s.heap.objs.size := by simpa using hI'
    have hlp := Heap.lt_size (N p hp).1
    rcases hb' with e | e
    · exact ktu_ne 1 hlp e
    · exact Nat.ne_of_lt hlp e
  · rintro i v m₁ news₁ h₁ tk₁ own hin ⟨T, vals, rfl, ⟨t, x, hx, rfl⟩, hT⟩ hJ hoff hown hget hall hst F₁ N₁
    have hx' : vs[i]? = some x := by simpa using hx
    obtain ⟨⟨old, he⟩, ⟨oi, hoi, hic, _⟩, _⟩ := id hst
    have he' : ∃ oe : Obj, h₁.get? (s.heap.objs.size + 1) = some oe := ⟨_, he⟩
    obtain ⟨oe, he1⟩ := he'
    have m1 : (s.heap.objs.size + 1, oe) ∈ own := hall _ (by simp) new1 _ he1
    have m0 : (s.heap.objs.size, oi) ∈ own := hall _ (by simp) new0 _ hoi
    have hsep : OwnOff own (news₁.map (·.1)) := by
      intro p hp b hb e
      obtain ⟨q, hq, rfl⟩ := List.mem_map.mp hb
      have hb' : p.1 = s.heap.objs.size + 1 ∨ p.1 = s.heap.objs.size ∨ p.1 = l := by simpa using hown p hp
      rcases hb' with h1 | h1 | h1
      · exact hoff q hq (by rw [← e, h1]; simp)
      · exact hoff q hq (by rw [← e, h1]; simp)
      · have h3 := (N₁ q (List.mem_append.mpr (.inr hq))).2.2
        rw [← e, h1, hol] at h3
        cases h3
    have N₂ : News h₀ env.locals h₁ (news₁ ++ own) := fun p hp => N₁ p ((List.mem_append.mp hp).elim (fun h => List.mem_append.mpr (.inr h)) fun h => List.mem_append.mpr (.inl h))
    refine wpAny_mono (turn i x T t m₁ news₁ h₁ tk₁ own hx' hin hsep hJ hT F₁ N₂) (fun _ s₂ h₂ => wpAny_mono h₂ (fun f s₃ p => ?_) fun _ _ e => e) fun _ _ e => e
    refine turn_up (own' := own) ?_ p
    rintro ⟨h', tk, m', news', nx, e, F', N', hn, ho, ha, hm⟩
    refine ⟨rfl, h', tk, m', nx, e, F', fun p hp => N' p ((List.mem_append.mp hp).elim (ho p) (hn p)), fun p hp hq => ?_, hm⟩
    have hb' : p.1 = s.heap.objs.size + 1 ∨ p.1 = s.heap.objs.size := by simpa using hq
    rcases hb' with e | e
    · exact ha _ m1 p.1 (List.mem_map.mpr ⟨p, hp, rfl⟩) e.symm
    · exact ha _ m0 p.1 (List.mem_map.mpr ⟨p, hp, rfl⟩) e.symm
  · rintro h' tk m' news' F' N' _ hJ
    exact done m' news' h' tk hJ F' N'

/-- «for a, b in l», l a list of the call's own that the turns leave as it is, by an invariant -/
theorem made_turns {target : Expr} {l : Addr} {vs : List Value} {nn : Nat} {m₀ : Str → Option Value} {news : List (Addr × Obj)} (J : Nat → (Str → Option Value) → List (Addr × Obj) → Prop)
    (hh : A.handled = none) (hl : (l, listOf vs.toArray nn) ∈ news) (F : Fr h₀ env.locals s.heap m₀) (N : News h₀ env.locals s.heap news) (hj : J 0 m₀ news)
    (turn : ∀ i v m₁ news₁ h tk own, vs[i]? = some v → i < vs.length → OwnOff own (news₁.map (·.1)) → (l, listOf vs.toArray nn) ∈ news₁ → J i m₁ news₁ → Fr h₀ env.locals h m₁ → News h₀ env.locals h (news₁ ++ own) →
      wpAny (model prog w) A (assign target env v) (fun _ s₃ => wpAny (model prog w) A (execs body env) (InvPostG h₀ env.locals (fun m' nx => (l, listOf vs.toArray nn) ∈ nx ∧ J (i + 1) m' nx) own { s with heap := h, toks := tk } Q) E s₃) E { s with heap := h, toks := tk })
    (done : ∀ m₁ news₁ h tk, (l, listOf vs.toArray nn) ∈ news₁ → J vs.length m₁ news₁ → Fr h₀ env.locals h m₁ → News h₀ env.locals h news₁ → Q .next { s with heap := h, toks := tk }) :
    wpAny (model prog w) A (pyIter (.ref l)) (fun it s₂ => TurnsAt prog w A h₀ env target body Q E it s₂) E s := by
  have hol : s.heap.get? l = some (listOf vs.toArray nn) := (N _ hl).1
  have hls : s.heap.IsList l vs.toArray := ⟨_, hol, rfl, nn, rfl⟩
  have hne : l ≠ s.heap.objs.size := Nat.ne_of_lt (Heap.lt_size hol)
  refine wpAny_pyIter_list hls ?_
  have W := KTurns.ofWalks (target := target) (Walks.list (prog := prog) (w := w) hh s.heap.objs.size l hne vs.toArray) fun i v s Q E st q => letGo_listiter st.1 q
  have hlen : vs.toArray.size = vs.length := by simp
  rw [hlen] at W
  refine ⟨_, _, _, vs.length, _, _, _, m₀, news, (fun i m nx => (l, listOf vs.toArray nn) ∈ nx ∧ J i m nx), rfl, W, ?_, ?_, ?_, ⟨⟨_, Heap.get?_push_size _ rfl, rfl, rfl⟩, hls.at fun o e => Heap.get?_push_of_some _ e⟩, F.push _, (fun p hp => ⟨Heap.get?_push_of_some _ (N p hp).1, (N p hp).2⟩), ⟨hl, hj⟩, ?_, ?_⟩
  · intro hm
    rcases List.mem_cons.mp hm with e | hm
    · exact absurd F.ns.lt (e ▸ Nat.lt_irrefl _)
    · exact (N _ hl).2.1 ((List.mem_singleton.mp hm).symm)
  · intro b hb
    rw [List.mem_singleton.mp hb]
    exact next_is_new F
  · intro p hp hI
    exact absurd (Heap.lt_size (N p hp).1) ((List.mem_singleton.mp hI) ▸ Nat.lt_irrefl _)
  · rintro i v m₁ news₁ h₁ tk₁ own hin hP ⟨hl₁, hJ⟩ hoff hown hget hall hst F₁ N₁
    have hP' : vs[i]? = some v := by
      have := hP
      simpa using this
    have hI0 : h₀.get? s.heap.objs.size = none := next_is_new F
    obtain ⟨⟨oI, hoI, _⟩, _⟩ := id hst
    have hIown : (s.heap.objs.size, oI) ∈ own.filter fun p => decide (p.1 = s.heap.objs.size) := List.mem_filter.mpr ⟨hall _ (List.mem_cons.mpr (.inl rfl)) hI0 _ hoI, by simp⟩
    have hsep : OwnOff (own.filter fun p => decide (p.1 = s.heap.objs.size)) (news₁.map (·.1)) := by
      intro p hp b hb e
      obtain ⟨q, hq, rfl⟩ := List.mem_map.mp hb
      have h1 : p.1 = s.heap.objs.size := by simpa using (List.mem_filter.mp hp).2
      exact hoff q hq (List.mem_singleton.mpr (e ▸ h1))
    have N₂ : News h₀ env.locals h₁ (news₁ ++ own.filter fun p => decide (p.1 = s.heap.objs.size)) := fun p hp => N₁ p ((List.mem_append.mp hp).elim (fun h => List.mem_append.mpr (.inr h)) fun h => List.mem_append.mpr (.inl ((List.mem_filter.mp h).1)))
    have hlo : h₁.get? l = some (listOf vs.toArray nn) := (N₁ _ (List.mem_append.mpr (.inr hl₁))).1
    refine wpAny_mono (turn i v m₁ news₁ h₁ tk₁ _ hP' hin hsep hl₁ hJ F₁ N₂) (fun _ s₂ h₂ => wpAny_mono h₂ (fun f s₃ p => ?_) fun _ _ e => e) fun _ _ e => e
    refine turn_up (own' := own.filter fun p => decide (p.1 = s.heap.objs.size)) ?_ p
    rintro ⟨h', tk, m', news', nx, e, F', N', hn, ho, ha, hm⟩
    refine ⟨rfl, h', tk, m', nx, e, F', fun p hp => ?_, fun p hp hq => ?_, hm⟩
    · rcases List.mem_append.mp hp with h | h
      · by_cases hI : p.1 = s.heap.objs.size
        · exact N' p (ho p (List.mem_filter.mpr ⟨h, by simpa using hI⟩))
        · have h1 : p.1 = l := by
            rcases List.mem_cons.mp (hown p h) with h2 | h2
            · exact absurd h2 hI
            · exact List.mem_singleton.mp h2
          have h2 : h₁.get? p.1 = some p.2 := hget p h
          rw [h1, hlo] at h2
          have h3 : p = (l, listOf vs.toArray nn) := Prod.ext h1 (Option.some.inj h2).symm
          rw [h3]
          exact N' _ (hn _ hm.1)
      · exact N' p (hn p h)
    · exact ha _ hIown p.1 (List.mem_map.mpr ⟨p, hp, rfl⟩) (List.mem_singleton.mp hq).symm
  · rintro h' tk m' news' F' N' _ ⟨hl₁, hJ⟩
    exact done m' news' h' tk hl₁ hJ F' N'
end
end Mine
end
section
namespace Mine
def DrJ (D : Addr) (m₀ : Str → Option Value) (news : List (Addr × Obj)) (i : Nat) (m : Str → Option Value) (nx : List (Addr × Obj)) : Prop :=
  ∃ ws ks c, nx = (D, listOf ws.toArray c) :: news ∧ IntsAre ws ks ∧ ks.length = min i 10 ∧ ∀ y, y ≠ Str.ofString "place" → y ≠ Str.ofString "number" → m y = m₀ y
theorem DrJ.start {D : Addr} {m₀ : Str → Option Value} {news : List (Addr × Obj)} {c : Nat} : DrJ D m₀ news 0 m₀ ((D, listOf #[] c) :: news) := ⟨[], [], c, rfl, .nil, rfl, fun _ _ _ => rfl⟩
theorem dr_map {m m₀ : Str → Option Value} (h : ∀ y, y ≠ Str.ofString "place" → y ≠ Str.ofString "number" → m y = m₀ y) :
    m = fun y => if y = Str.ofString "place" then m (Str.ofString "place") else if y = Str.ofString "number" then m (Str.ofString "number") else m₀ y := by
  funext y
  by_cases h1 : y = Str.ofString "place"
  · rw [if_pos h1, h1]
  · rw [if_neg h1]
    by_cases h2 : y = Str.ofString "number"
    · rw [if_pos h2, h2]
    · rw [if_neg h2]; exact h y h1 h2
theorem dr_end {h₀ : Heap} {L D : Addr} {m₀ m' : Str → Option Value} {news own all : List (Addr × Obj)} {i : Nat} {ws : List Value} {ks : List Int} {c : Nat} {o : Obj} {s₁ : Shared} {h' : Heap} {tk : Nat} (F : Fr h₀ L h' m') (N : News h₀ L h' all) (ea : all = (D, listOf ws.toArray c) :: (news ++ own))
    (hoff : OwnOff own (((D, o) :: news).map (·.1))) (hk : IntsAre ws ks) (hl : ks.length = min i 10) (hm : ∀ y, y ≠ Str.ofString "place" → y ≠ Str.ofString "number" → m' y = m₀ y) :
    InvEndG h₀ L (DrJ D m₀ news i) own s₁ { s₁ with heap := h', toks := tk } := by
  subst ea
  refine InvEndG.intro (nx := (D, listOf ws.toArray c) :: news) F N ⟨ws, ks, c, rfl, hk, hl, hm⟩ hoff ?_ ?_
  · intro p hp
    rcases List.mem_cons.mp hp with h | h
    · exact h ▸ .head _
    · exact .tail _ (List.mem_append.mpr (.inl h))
  · intro p hp
    exact .tail _ (List.mem_append.mpr (.inr hp))
theorem dr_same {m₀ : Str → Option Value} {u v a b : Option Value} : ∀ y, y ≠ Str.ofString "place" → y ≠ Str.ofString "number" →
    (fun y => if y = Str.ofString "number" then u else if y = Str.ofString "place" then v else if y = Str.ofString "place" then a else if y = Str.ofString "number" then b else m₀ y) y = m₀ y := by
  intro y h1 h2
  simp only [h1, h2, if_false]
local macro_rules | `(tactic| k_all) => `(tactic| assumption)
local macro_rules | `(tactic| walk_at "exec For Tuple Call cons nil") => `(tactic| (k_here; (rename Fr _ _ _ _ => lF'); (with_unfolding_all refine' For_turns lF' ?_; k_whole)))
local macro_rules | `(tactic| walk_at "call type:enumerate") => `(tactic| (k_here; (rename Fr _ _ _ _ => lF'); (rename News _ _ _ _ => lN'); (with_unfolding_all refine' enum_base (DrJ _ _ _) (by rfl) (by assumption) lF' lN' DrJ.start (Hold.out ?_) (Hold.out ?_))))
theorem drawn_spec (w : World) (mean : ExcName → Option Value) (mg mb : Str → Option Value) (dp un : Nat) (gd : Option (List Code)) (cn : Str) (cs : Scope) (a : Addr) (ccd : Value) (cl : List (Str × Addr)) (outer : List Env) (A₀ : Around) (base h₀ : Heap) (L : Addr) (m : Str → Option Value) (news : List (Addr × Obj)) (s : Shared) (l : Addr) (vs : List Value) (ns : List Int) (Q E : Value → Shared → Prop) :
    Below A₀ base outer h₀ → Fr h₀ L s.heap m → (hd.heap_39 w.params).In h₀ → News h₀ L s.heap news → Top hd.view_39 (looseW hd.view_39 []) mean mg mb h₀ → cs.kind = .function → base.IsList l vs.toArray → IntsAre vs ns → ns.length ≤ 63 → dp + 1 < recursionLimit → un + 8 < cLine →
    (∀ D ws ks c h' tk', (∀ p ∈ news, p.1 ≠ D) → Fr h₀ L h' m → News h₀ L h' ((D, listOf ws.toArray c) :: news) → IntsAre ws ks → ks.length ≤ 11 → Q (.ref D) { s with heap := h', toks := tk' }) →
    wpAny (model PySem.Challenge.rw_sh0001_01.row.prog w) (ktrTop dp un gd cn cs L a ccd cl outer) (call (.ref 35) [.ref l]) Q E s := by
  k_fill
  w_top off
  intro B F X N T hk hl hi h63 hd hu hret
  refine wpAny_call ?_
  k_dflt cell_enter
  k_steps
  · refine Hold.mk ?_
    intro i v T' t' m₁ news₁ h tk own hv hin hoff hJ hT hF hN
    obtain ⟨ws, ks, c, rfl, hks, hlen, hm⟩ := hJ
    rw [dr_map hm] at hF
    obtain ⟨n, t, rfl, _⟩ := IntsAre.at hi i v hv
    clear hm
    try k_fold
    rename (∀ p, p ∈ news → p.1 < _) => l1
    have hne : ∀ p ∈ news ++ own, p.1 ≠ _ := fun p hp => (List.mem_append.mp hp).elim (fun h => Nat.ne_of_lt (l1 p h)) (fun h => hoff p h _ (.head _))
    k_steps
    · rename_i F' N'
      refine dr_end F' N' (by rw [List.push_toArray]; rfl) hoff (IntsAre.append hks (.cons n t .nil)) ?_ dr_same
      rw [List.length_append, List.length_cons, List.length_nil]
      omega
    · rename_i F' N' hi' hl' hs'
      refine dr_end F' N' rfl hoff hi' ?_ dr_same
      omega
  · refine Hold.mk ?_
    intro m₁ news₁ h tk hJ hF hN
    obtain ⟨ws, ks, c, rfl, hks, hlen, hm⟩ := hJ
    rw [dr_map hm] at hF
    clear hm
    try k_fold
    rename (∀ p, p ∈ news → p.1 < _) => l1
    have hne : ∀ p ∈ news, p.1 ≠ _ := fun p hp => Nat.ne_of_lt (l1 p hp)
    k_steps
    rename Fr h₀ L _ m => F'
    rename News h₀ L _ _ => N'
    refine hret _ (ws ++ [.int _ _]) (ks ++ [_]) _ _ _ hne F' (by rw [← List.push_toArray]; exact N') (IntsAre.append hks (.cons _ _ .nil)) ?_
    rw [List.length_append, List.length_cons, List.length_nil]
    omega
end Mine
end
section
namespace Mine
/-- the shape of a contract: from any frame of a def's, the call of f with these values goes on with the answer R t, the ledger as it was -/
abbrev Gives (w : World) (k : Nat) (f : Addr) (args : List Value) (pre : List (Addr × Obj) → Prop) (R : Tok → Value) : Prop :=
  ∀ (mean : ExcName → Option Value) (mg mb : Str → Option Value) (dp un : Nat) (gd : Option (List Code)) (cn : Str) (cs : Scope) (a : Addr) (ccd : Value) (cl : List (Str × Addr)) (outer : List Env) (A₀ : Around) (base h₀ : Heap) (L : Addr) (m : Str → Option Value) (news : List (Addr × Obj)) (s : Shared) (Q E : Value → Shared → Prop),
    Below A₀ base outer h₀ → Fr h₀ L s.heap m → (hd.heap_39 w.params).In h₀ → News h₀ L s.heap news → Top hd.view_39 (looseW hd.view_39 []) mean mg mb h₀ → cs.kind = .function → pre news → dp + k < recursionLimit → un + 8 * k < cLine →
    (∀ t h' tk', Fr h₀ L h' m → News h₀ L h' news → Q (R t) { s with heap := h', toks := tk' }) →
    wpAny (model PySem.Challenge.rw_sh0001_01.row.prog w) (ktrTop dp un gd cn cs L a ccd cl outer) (call (.ref f) args) Q E s
theorem back {h₀ h' : Heap} {L : Addr} {m : Str → Option Value} {news : List (Addr × Obj)} {s : Shared} {Q : Value → Shared → Prop} {R : Tok → Value} {tk' : Nat} {v : Value} (hret : ∀ t h' tk', Fr h₀ L h' m → News h₀ L h' news → Q (R t) { s with heap := h', toks := tk' })
    (t : Tok) (e : v = R t) (F : Fr h₀ L h' m) (N : News h₀ L h' news) : Q v { s with heap := h', toks := tk' } := by
  subst e
  exact hret t h' tk' F N
theorem days_spec (w : World) (y1 y2 : Int) (t1 t2 : Tok) : Gives w 1 28 [.int y1 t1, .int y2 t2] (fun _ => True) (fun t => .int (Leap.ld y1 y2) t) := by
  unfold Gives
  k_fill
  w_top off
  intro mean mg mb dp un gd cn cs a ccd cl outer A₀ base h₀ L m news s Q E B F X N T hk hpre hd hu hret
  refine wpAny_call ?_
  k_dflt cell_enter
  k_steps
  all_goals exact back hret _ rfl (by k_asm) (by k_asm)
theorem leap_spec (w : World) (y : Int) (t1 : Tok) : Gives w 1 21 [.int y t1] (fun _ => True) (fun _ => .bool (Leap.il y)) := by
  unfold Gives
  k_fill
  w_top off
  intro mean mg mb dp un gd cn cs a ccd cl outer A₀ base h₀ L m news s Q E B F X N T hk hpre hd hu hret
  refine wpAny_call ?_
  k_dflt cell_enter
  k_steps
  all_goals (refine back hret 0 ?_ (by k_asm) (by k_asm); (show Value.bool _ = Value.bool _); unfold Leap.il; simp_all)
theorem mod97 (c : Int) : 0 ≤ Int.fmod c 97 ∧ Int.fmod c 97 < 97 := ⟨Int.fmod_nonneg_of_pos c (by decide), Int.fmod_lt_of_pos c (by decide)⟩
theorem rung_spec (w : World) (c : Int) (t1 : Tok) (D : Addr) (vs : List Value) (n : Nat) (hi : IntsAre vs Leap.rungs) : Gives w 1 42 [.ref D, .int c t1] (fun news => (D, listOf vs.toArray n) ∈ news) (fun t => .int (Leap.rung c) t) := by
  unfold Gives
  k_fill
  w_top off
  intro mean mg mb dp un gd cn cs a ccd cl outer A₀ base h₀ L m news s Q E B F X N T hk hpre hd hu hret
  have hlen := Leap.rungs_len
  obtain ⟨hm0, hm1⟩ := mod97 c
  refine wpAny_call ?_
  k_dflt cell_enter
  k_steps
  all_goals exact back hret _ rfl (by k_asm) (by k_asm)
section
variable {w : World} {mean : ExcName → Option Value} {mg mb : Str → Option Value} {dp un : Nat} {gd : Option (List Code)} {cn : Str} {cs : Scope} {a : Addr} {ccd : Value} {cl : List (Str × Addr)} {outer : List Env} {A₀ : Around} {base h₀ : Heap} {L : Addr} {m : Str → Option Value} {news : List (Addr × Obj)} {s : Shared} {Q E : Value → Shared → Prop}
theorem days_use {y1 y2 : Int} {t1 t2 : Tok} (B : Below A₀ base outer h₀) (F : Fr h₀ L s.heap m) (X : (hd.heap_39 w.params).In h₀) (N : News h₀ L s.heap news) (T : Top hd.view_39 (looseW hd.view_39 []) mean mg mb h₀) (hk : cs.kind = .function) (hd : dp + 1 < recursionLimit) (hu : un + 8 * 1 < cLine)
    (h : ∀ t h' tk', Fr h₀ L h' m → News h₀ L h' news → Q (.int (Leap.ld y1 y2) t) { s with heap := h', toks := tk' }) :
    wpAny (model PySem.Challenge.rw_sh0001_01.row.prog w) (ktrTop dp un gd cn cs L a ccd cl outer) (call (.ref 28) [.int y1 t1, .int y2 t2]) Q E s :=
  days_spec w y1 y2 t1 t2 _ _ _ _ _ _ _ _ _ _ _ _ _ _ _ _ _ _ _ _ _ B F X N T hk trivial hd hu h
end
local macro_rules | `(tactic| walk_at "call ref") => `(tactic| (k_here; k_dflt (refine' days_use ?k1 ?k2 ?k3 ?k4 ?k5 ?kK ?kd ?ku ?_; (case k1 => k_asm); (case k2 => k_asm); (case k3 => k_asm); (case k4 => k_asm); (case k5 => k_asm); (case kK => first | exact rfl | assumption); (case kd => ktr_room); (case ku => ktr_units); intro t9 h9 tk9 F9 N9; (try dsimp only); (try k_fold))))
theorem undone_spec (w : World) (c : Int) (t1 : Tok) : Gives w 2 49 [.int c t1] (fun _ => True) (fun t => .int (Leap.rung c) t) := by
  unfold Gives
  k_fill
  w_top off
  intro mean mg mb dp un gd cn cs a ccd cl outer A₀ base h₀ L m news s Q E B F X N T hk hpre hd hu hret
  refine wpAny_call ?_
  k_dflt cell_enter
  k_steps
  all_goals exact back hret _ (congrArg (fun x => Value.int x _) (Leap.undone c _ (by rfl))) (by k_asm) (by k_asm)
end Mine
end
section
namespace Mine
theorem new_tuple {M : Model} {A : Around} {E : Value → Shared → Prop} {s : Shared} {items : List Value} {Q : Value → Shared → Prop}
    (hsz : items.length ≤ sizeLine) (h : ∀ D h', IsTup h' D items.toArray → (∀ b o, s.heap.get? b = some o → h'.get? b = some o) → Q (.ref D) { s with heap := h' }) : wpAny M A (newTuple items) Q E s :=
  wpAny_newTuple (h _ _ ⟨_, Heap.get?_push_size _ rfl, rfl, _, rfl⟩ fun b o e => Heap.get?_push_of_some _ e) hsz
theorem divmod_use {prog : Program} {w : World} {A : Around} {E : Value → Shared → Prop} {s : Shared} {h₀ : Heap} {L : Addr} {m : Str → Option Value} {news : List (Addr × Obj)} {a : Int} {t u : Tok} {Q : Value → Shared → Prop} (F : Fr h₀ L s.heap m) (N : News h₀ L s.heap news)
    (h : ∀ h' T t1 t2, Fr h₀ L h' m → News h₀ L h' news → IsTup h' T #[.int (a.fdiv 8) t1, .int (a.fmod 8) t2] → Q (.ref T) { s with toks := s.toks + 1 + 1, heap := h' }) :
    wpAny (model prog w) A (call (.builtin "divmod") [.int a t, .int 8 u]) Q E s :=
  divmod_N F N (by decide) (fun h' F' N' => h h' _ _ _ F' (fun p hp => N' p (.tail _ hp)) (N'.isTup (.head _))) (Or.inl (PyProof.noPylong_of_log2 (by decide +kernel)))
local macro_rules | `(tactic| walk_at "call builtin:divmod") => `(tactic| (k_here; k_dflt (refine' divmod_use ?k1 ?k2 ?_; (case k1 => k_asm); (case k2 => k_asm); intro h9 T9 t91 t92 F9 N9 I9)))
theorem rest_ne {Dt a b c : Addr} {oa ob oc : Obj} {r : List (Addr × Obj)} (h1 : a ≠ Dt) (h2 : b ≠ Dt) (h3 : c ≠ Dt) (h : ∀ p ∈ r, p.1 ≠ Dt) : ∀ p ∈ (a, oa) :: (b, ob) :: (c, oc) :: r, p.1 ≠ Dt := by
  intro p hp
  rcases List.mem_cons.mp hp with rfl | hp
  · exact h1
  rcases List.mem_cons.mp hp with rfl | hp
  · exact h2
  rcases List.mem_cons.mp hp with rfl | hp
  · exact h3
  · exact h p hp
theorem told_append {prog : Program} {w : World} {A : Around} {E : Value → Shared → Prop} {s : Shared} {h₀ : Heap} {L T Dt : Addr} {oT : Obj} {m : Str → Option Value} {rest : List (Addr × Obj)} {tv : List Value} {c : Nat} {x : Value} {Q : Value → Shared → Prop} (F : Fr h₀ L s.heap m) (N : News h₀ L s.heap ((T, oT) :: (Dt, listOf tv.toArray c) :: rest))
    (hT : T ≠ Dt) (hr : ∀ p ∈ rest, p.1 ≠ Dt) (hsz : tv.length ≤ 12)
    (h : ∀ h', Fr h₀ L h' m → News h₀ L h' ((T, oT) :: (Dt, listOf (tv ++ [x]).toArray (c + 1)) :: rest) → Q .none { s with heap := h' }) : wpAny (model prog w) A (call (.builtin "list.append") [.ref Dt, x]) Q E s := by
  refine append_K F N (.tail hT (.head hr)) (fun h' F' N' => h h' F' ?_) ?_
  · rw [← List.push_toArray]; exact N'
  · rw [List.size_toArray, sizeLine_eq]; omega
local macro_rules | `(tactic| walk_at "call builtin:list.append") => `(tactic| (k_here; k_dflt (refine' told_append ?k1 ?k2 ?k3 ?k4 ?k5 ?_; (case k1 => k_asm); (case k2 => k_asm); (case k3 => (refine neN ?_; omega)); (case k4 => exact rest_ne (neN (by omega)) (neN (by omega)) (neN (by omega)) (by with_reducible assumption)); (case k5 => omega)); intro h' F' N'))
local macro_rules | `(tactic| walk_at "RangePack") => `(tactic| ((refine RangePack.intro ?_); (rename IsRange _ _ _ _ _ _ _ _ => R'); (rename Fr _ _ _ _ => F'); (rename News _ _ _ _ => N'); (with_unfolding_all refine ⟨_, _, _, _, _, _, _, _, 100, rfl, R', (by decide), (by decide), (by decide), F', N', ?_, ?_, ?_⟩) <;> first | (intros; (rename (_ ∈ rangeInts _ _ _) => hm'); (rename ItemKind.is _ _ _ => i'); (obtain ⟨_, e'⟩ := ItemKind.int_is i'; subst e'); (with_reducible refine wpAny_leafK ?_)) | intros))
local macro_rules | `(tactic| walk_at "newTuple") => `(tactic| ((with_reducible rename InElt _ _ => cE'); (refine new_tuple (Nat.le_of_ble_eq_true rfl) ?_); intro D' h' hT' hK'))
local macro_rules | `(tactic| walk_at "compareOp NotIn int ref") => `(tactic| ((with_reducible rename InElt _ _ => cE'); (refine notin_tuple_ints (by assumption) (.cons _ _ (.cons _ _ (.cons _ _ .nil))) ?_)))
local macro_rules | `(tactic| walk_at "SeqLeaf") => `(tactic| ((with_reducible rename InElt _ _ => cE'); exact SeqLeaf.intro ⟨rfl, _, _, rfl, by assumption⟩))
section
variable {w : World} {mean : ExcName → Option Value} {mg mb : Str → Option Value} {dp un : Nat} {gd : Option (List Code)} {cn : Str} {cs : Scope} {a : Addr} {ccd : Value} {cl : List (Str × Addr)} {outer : List Env} {A₀ : Around} {base h₀ : Heap} {L : Addr} {m : Str → Option Value} {news : List (Addr × Obj)} {s : Shared} {Q E : Value → Shared → Prop}
theorem leap_use {y : Int} {t1 : Tok} (B : Below A₀ base outer h₀) (F : Fr h₀ L s.heap m) (X : (hd.heap_39 w.params).In h₀) (N : News h₀ L s.heap news) (T : Top hd.view_39 (looseW hd.view_39 []) mean mg mb h₀) (hk : cs.kind = .function) (hd : dp + 1 < recursionLimit) (hu : un + 8 * 1 < cLine)
    (h : ∀ (_ : Tok) h' tk', Fr h₀ L h' m → News h₀ L h' news → Q (.bool (Leap.il y)) { s with heap := h', toks := tk' }) :
    wpAny (model PySem.Challenge.rw_sh0001_01.row.prog w) (ktrTop dp un gd cn cs L a ccd cl outer) (call (.ref 21) [.int y t1]) Q E s :=
  leap_spec w y t1 _ _ _ _ _ _ _ _ _ _ _ _ _ _ _ _ _ _ _ _ _ B F X N T hk trivial hd hu h
theorem rung_use {c : Int} {t1 : Tok} {D : Addr} {vs : List Value} {n : Nat} (B : Below A₀ base outer h₀) (F : Fr h₀ L s.heap m) (X : (hd.heap_39 w.params).In h₀) (N : News h₀ L s.heap news) (T : Top hd.view_39 (looseW hd.view_39 []) mean mg mb h₀) (hk : cs.kind = .function) (hm : (D, listOf vs.toArray n) ∈ news) (hi : IntsAre vs Leap.rungs) (hd : dp + 1 < recursionLimit) (hu : un + 8 * 1 < cLine)
    (h : ∀ t h' tk', Fr h₀ L h' m → News h₀ L h' news → Q (.int (Leap.rung c) t) { s with heap := h', toks := tk' }) :
    wpAny (model PySem.Challenge.rw_sh0001_01.row.prog w) (ktrTop dp un gd cn cs L a ccd cl outer) (call (.ref 42) [.ref D, .int c t1]) Q E s :=
  rung_spec w c t1 D vs n hi _ _ _ _ _ _ _ _ _ _ _ _ _ _ _ _ _ _ _ _ _ B F X N T hk hm hd hu h
theorem undone_use {c : Int} {t1 : Tok} (B : Below A₀ base outer h₀) (F : Fr h₀ L s.heap m) (X : (hd.heap_39 w.params).In h₀) (N : News h₀ L s.heap news) (T : Top hd.view_39 (looseW hd.view_39 []) mean mg mb h₀) (hk : cs.kind = .function) (hd : dp + 2 < recursionLimit) (hu : un + 8 * 2 < cLine)
    (h : ∀ t h' tk', Fr h₀ L h' m → News h₀ L h' news → Q (.int (Leap.rung c) t) { s with heap := h', toks := tk' }) :
    wpAny (model PySem.Challenge.rw_sh0001_01.row.prog w) (ktrTop dp un gd cn cs L a ccd cl outer) (call (.ref 49) [.int c t1]) Q E s :=
  undone_spec w c t1 _ _ _ _ _ _ _ _ _ _ _ _ _ _ _ _ _ _ _ _ _ B F X N T hk trivial hd hu h
theorem drawn_use {l : Addr} {vs : List Value} {ns : List Int} (B : Below A₀ base outer h₀) (F : Fr h₀ L s.heap m) (X : (hd.heap_39 w.params).In h₀) (N : News h₀ L s.heap news) (T : Top hd.view_39 (looseW hd.view_39 []) mean mg mb h₀) (hk : cs.kind = .function) (hl : base.IsList l vs.toArray) (hi : IntsAre vs ns) (h63 : ns.length ≤ 63) (hd : dp + 1 < recursionLimit) (hu : un + 8 < cLine)
    (h : ∀ D ws ks c h' tk', (∀ p ∈ news, p.1 ≠ D) → Fr h₀ L h' m → News h₀ L h' ((D, listOf ws.toArray c) :: news) → IntsAre ws ks → ks.length ≤ 11 → Q (.ref D) { s with heap := h', toks := tk' }) :
    wpAny (model PySem.Challenge.rw_sh0001_01.row.prog w) (ktrTop dp un gd cn cs L a ccd cl outer) (call (.ref 35) [.ref l]) Q E s :=
  drawn_spec w _ _ _ _ _ _ _ _ _ _ _ _ _ _ _ _ _ _ _ _ _ _ _ _ B F X N T hk hl hi h63 hd hu h
end
local macro_rules | `(tactic| walk_at "call ref") => `(tactic| (k_here; k_dflt (refine' days_use ?k1 ?k2 ?k3 ?k4 ?k5 ?kK ?kd ?ku ?_; (case k1 => k_asm); (case k2 => k_asm); (case k3 => k_asm); (case k4 => k_asm); (case k5 => k_asm); (case kK => first | exact rfl | assumption); (case kd => ktr_room); (case ku => ktr_units); intro t9 h9 tk9 F9 N9; (try dsimp only); (try k_fold))))
local macro_rules | `(tactic| walk_at "call ref") => `(tactic| (k_here; k_dflt (refine' leap_use ?k1 ?k2 ?k3 ?k4 ?k5 ?kK ?kd ?ku ?_; (case k1 => k_asm); (case k2 => k_asm); (case k3 => k_asm); (case k4 => k_asm); (case k5 => k_asm); (case kK => first | exact rfl | assumption); (case kd => ktr_room); (case ku => ktr_units); intro t9 h9 tk9 F9 N9; (try dsimp only); (try k_fold))))
local macro_rules | `(tactic| walk_at "call ref") => `(tactic| (k_here; k_dflt (refine' undone_use ?k1 ?k2 ?k3 ?k4 ?k5 ?kK ?kd ?ku ?_; (case k1 => k_asm); (case k2 => k_asm); (case k3 => k_asm); (case k4 => k_asm); (case k5 => k_asm); (case kK => first | exact rfl | assumption); (case kd => ktr_room); (case ku => ktr_units); intro t9 h9 tk9 F9 N9; (try dsimp only); (try k_fold))))
local macro_rules | `(tactic| walk_at "call ref") => `(tactic| (k_here; k_dflt (refine' rung_use ?k1 ?k2 ?k3 ?k4 ?k5 ?kK ?km ?ki ?kd ?ku ?_; (case k1 => k_asm); (case k2 => k_asm); (case k3 => k_asm); (case k4 => k_asm); (case k5 => k_asm); (case kK => first | exact rfl | assumption); (case km => k_mem); (case ki => assumption); (case kd => ktr_room); (case ku => ktr_units); intro t9 h9 tk9 F9 N9; (try dsimp only); (try k_fold))))
local macro_rules | `(tactic| walk_at "call ref") => `(tactic| (k_here; k_dflt (refine' drawn_use ?k1 ?k2 ?k3 ?k4 ?k5 ?kK ?kl ?ki ?k63 ?kd ?ku ?_; (case k1 => k_asm); (case k2 => k_asm); (case k3 => k_asm); (case k4 => k_asm); (case k5 => k_asm); (case kK => first | exact rfl | assumption); (case kl => k_asm); (case ki => assumption); (case k63 => omega); (case kd => ktr_room); (case ku => ktr_units); intro D9 ws9 ks9 c9 h9 tk9 ne9 F9 N9 I9 len9; (try dsimp only))))
local macro_rules | `(tactic| walk_at "exec For Name Call cons nil") => `(tactic| (k_here; (rename Fr _ _ _ _ => lF'); (with_unfolding_all refine' For_turns lF' ?_; k_whole)))
local macro_rules | `(tactic| walk_at "exec For Tuple Name cons nil") => `(tactic| (k_here; (rename Fr _ _ _ _ => lF'); (with_unfolding_all refine' For_turns lF' ?_; k_whole)))
/-- the names that a turn of the telling loop stores -/
def stored : List Str := [Str.ofString "number", Str.ofString "count", Str.ofString "over", Str.ofString "first", Str.ofString "year", Str.ofString "leap"]
def Tup (o : Obj) (y : Int) : Prop := ∃ t t' n, o = { cls := .type "tuple", data := .seq #[.int y t, .int (Leap.ld 0 y) t'] n }
def ToldIs (led : List (Addr × Obj)) (tv : List Value) : Prop := ∀ v ∈ tv, ∃ a o y, v = .ref a ∧ (a, o) ∈ led ∧ Tup o y
def LawJ (Dt : Addr) (cst : List (Addr × Obj)) (m₀ : Str → Option Value) (i : Nat) (m : Str → Option Value) (nx : List (Addr × Obj)) : Prop :=
  ∃ tv c tl, nx = (Dt, listOf tv.toArray c) :: (cst ++ tl) ∧ ToldIs (cst ++ tl) tv ∧ tv.length = i + 1 ∧ (∀ p ∈ tl, p.1 ≠ Dt) ∧ ∀ z, stored.contains z = false → m z = m₀ z
theorem LawJ.start {Dt Dd T0 D : Addr} {od oD : Obj} {t t' : Tok} {n c : Nat} {m₀ : Str → Option Value} :
    LawJ Dt [(Dd, od), (T0, ({ cls := .type "tuple", data := .seq #[.int 0 t, .int 0 t'] n } : Obj)), (D, oD)] m₀ 0 m₀ ((Dt, listOf #[Value.ref T0] c) :: ([(Dd, od), (T0, ({ cls := .type "tuple", data := .seq #[.int 0 t, .int 0 t'] n } : Obj)), (D, oD)] ++ [])) := by
  refine ⟨[.ref T0], c, [], rfl, ?_, rfl, (fun _ hp => (nomatch hp)), fun _ _ => rfl⟩
  intro v hv
  rw [List.mem_singleton.mp hv]
  exact ⟨T0, _, 0, rfl, .tail _ (.head _), t, t', n, rfl⟩
theorem news_swap {h₀ h : Heap} {L : Addr} {x y : Addr × Obj} {r : List (Addr × Obj)} (N : News h₀ L h (x :: y :: r)) : News h₀ L h (y :: ((x :: r) ++ [])) := by
  intro p hp
  rcases List.mem_cons.mp hp with rfl | hp
  · exact N _ (.tail _ (.head _))
  · rw [List.append_nil] at hp
    rcases List.mem_cons.mp hp with rfl | hp
    · exact N _ (.head _)
    · exact N _ (.tail _ (.tail _ hp))
theorem st_map {m m₀ : Str → Option Value} {st : List Str} (h : ∀ z, st.contains z = false → m z = m₀ z) : m = fun z => if st.contains z = true then m z else m₀ z := by
  funext z
  cases h1 : st.contains z with
  | true => simp
  | false => simp only [Bool.false_eq_true, if_false]; exact h z h1
theorem tup_of {y c : Int} {t t' : Tok} {n : Nat} (h : Leap.ld 0 y = c) : Tup { cls := .type "tuple", data := .seq #[.int y t, .int c t'] n } y := ⟨t, t', n, by rw [h]⟩
theorem st_ne {z : Str} (h : stored.contains z = false) : z ≠ Str.ofString "number" ∧ z ≠ Str.ofString "count" ∧ z ≠ Str.ofString "over" ∧ z ≠ Str.ofString "first" ∧ z ≠ Str.ofString "year" ∧ z ≠ Str.ofString "leap" := by
  simp only [stored, List.contains_cons, List.contains_nil, Bool.or_false, Bool.or_eq_false_iff, beq_eq_false_iff_ne, ne_eq] at h
  exact h
theorem law_end {h₀ : Heap} {L Dt T l0 : Addr} {cst tl own all : List (Addr × Obj)} {m₀ m' : Str → Option Value} {tv : List Value} {c i : Nat} {o0 oT ol : Obj} {y : Int} {s₁ : Shared} {h' : Heap} {tk : Nat} (F : Fr h₀ L h' m') (N : News h₀ L h' all) (ea : all = (T, oT) :: (Dt, listOf (tv ++ [Value.ref T]).toArray c) :: (cst ++ (tl ++ own)))
    (hoff : OwnOff own (((Dt, o0) :: (cst ++ tl)).map (·.1))) (hlt : ∀ p ∈ own, p.1 < T) (hTD : T ≠ Dt) (hT : Tup oT y) (htold : ToldIs (cst ++ tl) tv) (hlen : tv.length = i + 1) (hne : ∀ p ∈ tl, p.1 ≠ Dt) (hm : ∀ z, stored.contains z = false → m' z = m₀ z) (hl0 : (l0, ol) ∈ cst) :
    InvEndG h₀ L (fun m' nx => (l0, ol) ∈ nx ∧ LawJ Dt cst m₀ (i + 1) m' nx) own s₁ { s₁ with heap := h', toks := tk } := by
  subst ea
  refine InvEndG.intro (nx := (Dt, listOf (tv ++ [Value.ref T]).toArray c) :: (cst ++ ((T, oT) :: tl))) F N ⟨.tail _ (List.mem_append.mpr (.inl hl0)), tv ++ [.ref T], c, (T, oT) :: tl, rfl, ?_, ?_, ?_, hm⟩ ?_ ?_ ?_
  · intro v hv
    rcases List.mem_append.mp hv with hv | hv
    · obtain ⟨a, o, y', e, hm', ht⟩ := htold v hv
      refine ⟨a, o, y', e, ?_, ht⟩
      rcases List.mem_append.mp hm' with h | h
      · exact List.mem_append.mpr (.inl h)
      · exact List.mem_append.mpr (.inr (.tail _ h))
    · rw [List.mem_singleton.mp hv]
      exact ⟨T, oT, y, rfl, List.mem_append.mpr (.inr (.head _)), hT⟩
  · rw [List.length_append, List.length_cons, List.length_nil, hlen]
  · intro p hp
    rcases List.mem_cons.mp hp with rfl | hp
    · exact hTD
    · exact hne p hp
  · intro p hp b hb
    obtain ⟨q, hq, rfl⟩ := List.mem_map.mp hb
    rcases List.mem_cons.mp hq with rfl | hq
    · exact hoff p hp _ (.head _)
    rcases List.mem_append.mp hq with hq | hq
    · exact hoff p hp _ (.tail _ (List.mem_map.mpr ⟨q, List.mem_append.mpr (.inl hq), rfl⟩))
    rcases List.mem_cons.mp hq with rfl | hq
    · exact Nat.ne_of_lt (hlt p hp)
    · exact hoff p hp _ (.tail _ (List.mem_map.mpr ⟨q, List.mem_append.mpr (.inr hq), rfl⟩))
  · intro p hp
    rcases List.mem_cons.mp hp with rfl | hp
    · exact .tail _ (.head _)
    rcases List.mem_append.mp hp with hp | hp
    · exact .tail _ (.tail _ (List.mem_append.mpr (.inl hp)))
    rcases List.mem_cons.mp hp with rfl | hp
    · exact .head _
    · exact .tail _ (.tail _ (List.mem_append.mpr (.inr (List.mem_append.mpr (.inl hp)))))
  · intro p hp
    exact .tail _ (.tail _ (List.mem_append.mpr (.inr (List.mem_append.mpr (.inr hp)))))
/-- the names that the two loops at the end store -/
def storedO : List Str := [Str.ofString "year", Str.ofString "count", Str.ofString "other", Str.ofString "others"]
def storedI : List Str := [Str.ofString "other", Str.ofString "others"]
theorem stO_ne {z : Str} (h : storedO.contains z = false) : z ≠ Str.ofString "year" ∧ z ≠ Str.ofString "count" ∧ z ≠ Str.ofString "other" ∧ z ≠ Str.ofString "others" := by
  simp only [storedO, List.contains_cons, List.contains_nil, Bool.or_false, Bool.or_eq_false_iff, beq_eq_false_iff_ne, ne_eq] at h
  exact h
theorem stI_ne {z : Str} (h : storedI.contains z = false) : z ≠ Str.ofString "other" ∧ z ≠ Str.ofString "others" := by
  simp only [storedI, List.contains_cons, List.contains_nil, Bool.or_false, Bool.or_eq_false_iff, beq_eq_false_iff_ne, ne_eq] at h
  exact h
def StayJ (st : List Str) (nx₀ : List (Addr × Obj)) (m₀ : Str → Option Value) (_ : Nat) (m : Str → Option Value) (nx : List (Addr × Obj)) : Prop := nx = nx₀ ∧ ∀ z, st.contains z = false → m z = m₀ z
theorem StayJ.start {st : List Str} {nx : List (Addr × Obj)} {m : Str → Option Value} : StayJ st nx m 0 m nx := ⟨rfl, fun _ _ => rfl⟩
theorem stay_end {h₀ : Heap} {L l0 : Addr} {ol : Obj} {st : List Str} {nx₀ own all : List (Addr × Obj)} {m₀ m' : Str → Option Value} {i : Nat} {s₁ : Shared} {h' : Heap} {tk : Nat} (F : Fr h₀ L h' m') (N : News h₀ L h' all) (ea : all = nx₀ ++ own) (hoff : OwnOff own (nx₀.map (·.1))) (hl0 : (l0, ol) ∈ nx₀) (hm : ∀ z, st.contains z = false → m' z = m₀ z) :
    InvEndG h₀ L (fun m' nx => (l0, ol) ∈ nx ∧ StayJ st nx₀ m₀ i m' nx) own s₁ { s₁ with heap := h', toks := tk } := by
  subst ea
  exact InvEndG.intro (nx := nx₀) F N ⟨hl0, rfl, hm⟩ hoff (fun p hp => List.mem_append.mpr (.inl hp)) fun p hp => List.mem_append.mpr (.inr hp)
theorem law_holds : PySem.Challenge.rw_sh0001_01.Holds := hd (by
  k_go0
  all_goals try k_fold
  k_steps
  · rename (_ ∧ _) => l1
    rename_i D9 ws9 ks9 c9 h9 tk9 ne9 F9 N9 I9 len9
    rename IntsAre _ (List.map (fun a => a) _) => iX
    have iX := (show IntsAre _ Leap.rungs by rw [List.map_id'] at iX; exact iX)
    have e1 := neN (ne9 _ (.head _))
    have e2 := neN (ne9 _ (.tail _ (.head _)))
    have e3 := neN (ne9 _ (.tail _ (.tail _ (.head _))))
    dsimp only at e1 e2 e3
    obtain ⟨l2, l3⟩ := l1
    rename CarriedAll _ _ => hc0
    clear hc0
    refine made_turns (LawJ _ _ _) rfl (by exact List.Mem.tail _ (List.Mem.head _)) F9 (news_swap N9) LawJ.start ?_ ?_
    · intro i v m₁ news₁ h tk own hv hin hoff hmem hJ hF hN
      obtain ⟨tv, c', tl, rfl, htold, htl, hne, hm⟩ := hJ
      obtain ⟨n, t, rfl, hn⟩ := IntsAre.at I9 i v hv
      rw [st_map hm] at hF
      clear hm
      have hne' : ∀ p ∈ tl ++ own, p.1 ≠ _ := fun p hp => (List.mem_append.mp hp).elim (hne p) (fun h => hoff p h _ (.head _))
      simp only [List.cons_append, List.nil_append, List.append_assoc] at hN
      try k_fold
      clear N9 F9
      have hg := Leap.gap_ne (Int.fdiv n 8)
      have hsz : tv.length ≤ 12 := by
        have := I9.length
        omega
      k_steps
      · rename ((_ != _) = true) => hx
        rw [Leap.turn_il] at hx
        simp at hx
      all_goals (
        rename (_ ∧ _) => l1
        obtain ⟨l4, l5, l6, l7, l8⟩ := l1
        rename Fr _ _ _ _ => hF'
        rename News _ _ _ _ => hN')
      · refine law_end hF' hN' rfl hoff (fun p hp => kst_ltOf l8 p (List.mem_append.mpr (.inr hp))) (neN (by omega)) (tup_of (Leap.turn_up _ _ (by assumption))) htold htl hne ?_ (.head _)
        · intro z hz
          obtain ⟨z1, z2, z3, z4, z5, z6⟩ := st_ne hz
          simp only [z1, z2, z3, z4, z5, z6, hz, if_false, Bool.false_eq_true]
      · refine law_end hF' hN' rfl hoff (fun p hp => kst_ltOf l8 p (List.mem_append.mpr (.inr hp))) (neN (by omega)) (tup_of (Leap.turn_on _ _ (by assumption))) htold htl hne ?_ (.head _)
        · intro z hz
          obtain ⟨z1, z2, z3, z4, z5, z6⟩ := st_ne hz
          simp only [z1, z2, z3, z4, z5, z6, hz, if_false, Bool.false_eq_true]
    · intro m₁ news₁ h tk hmem hJ hF hN
      obtain ⟨tv, c', tl, rfl, htold, htl, hne, hm⟩ := hJ
      rw [st_map hm] at hF
      clear hm N9 F9
      try k_fold
      k_steps
      rename Fr _ _ _ _ => hF2
      rename News _ _ _ _ => hN2
      refine made_turns (StayJ storedO _ _) rfl (by exact List.Mem.head _) hF2 hN2 StayJ.start ?_ ?_
      · intro i v m₂ news₂ h₂ tk₂ own hv hin hoff hmem₂ hJ hFo hNo
        obtain ⟨rfl, hmo⟩ := hJ
        rw [st_map hmo] at hFo
        obtain ⟨a, o, y, rfl, hat, t, t', nn, rfl⟩ := htold v (List.mem_of_getElem? hv)
        have hTup : IsTup h₂ a #[.int y t, .int (Leap.ld 0 y) t'] := hNo.isTup (List.mem_append.mpr (.inl (List.Mem.tail _ hat)))
        clear hmo hF2 hN2
        try k_fold
        k_steps
        rename Fr _ _ _ _ => hF3
        rename News _ _ _ _ => hN3
        refine made_turns (StayJ storedI _ _) rfl (by exact List.mem_append.mpr (.inl (List.Mem.head _))) hF3 hN3 StayJ.start ?_ ?_
        · intro i2 v2 m₃ news₃ h₃ tk₃ own3 hv2 hin2 hoff3 hmem₃ hJ hFi hNi
          obtain ⟨rfl, hmi⟩ := hJ
          rw [st_map hmi] at hFi
          obtain ⟨a2, o2, y2, rfl, hat2, t2, t2', nn2, rfl⟩ := htold v2 (List.mem_of_getElem? hv2)
          have hTup2 : IsTup h₃ a2 #[.int y2 t2, .int (Leap.ld 0 y2) t2'] := hNi.isTup (List.mem_append.mpr (.inl (List.mem_append.mpr (.inl (List.Mem.tail _ hat2)))))
          have hld := Leap.ld_split y y2
          clear hmi hTup hF3 hN3
          try k_fold
          k_steps
          rename Fr _ _ _ _ => hF4
          rename News _ _ _ _ => hN4
          refine stay_end hF4 hN4 (by first | rfl | simp only [List.cons_append, List.append_assoc]) hoff3 (by first | exact List.Mem.head _ | exact List.mem_append.mpr (.inl (List.Mem.head _))) ?_
          intro z hz
          obtain ⟨z1, z2⟩ := stI_ne hz
          simp only [z1, z2, hz, if_false, Bool.false_eq_true]
        · intro m₃ news₃ h₃ tk₃ hmem₃ hJ hFi hNi
          obtain ⟨rfl, hmi⟩ := hJ
          rw [st_map hmi] at hFi
          clear hmi hTup hF3 hN3
          try k_fold
          k_steps
          rename Fr _ _ _ _ => hF4
          rename News _ _ _ _ => hN4
          refine stay_end hF4 hN4 (by first | rfl | simp only [List.cons_append, List.append_assoc]) hoff (by exact List.Mem.head _) ?_
          intro z hz
          obtain ⟨z1, z2, z3, z4⟩ := stO_ne hz
          have hz2 : storedI.contains z = false := by
            simp only [storedI, List.contains_cons, List.contains_nil, Bool.or_false, Bool.or_eq_false_iff, beq_eq_false_iff_ne, ne_eq]
            exact ⟨z3, z4⟩
          simp only [z1, z2, z3, z4, hz, hz2, if_false, Bool.false_eq_true]
      · intro m₂ news₂ h₂ tk₂ hmem₂ hJ hFo hNo
        obtain ⟨rfl, hmo⟩ := hJ
        rw [st_map hmo] at hFo
        clear hmo hF2 hN2
        try k_fold
        k_steps)
end Mine
end
set_option maxRecDepth 100000 in
set_option maxHeartbeats 8000000 in
theorem PySem.Challenge.cw_sh0001_01_holds : PySem.Challenge.rw_sh0001_01.Holds := by
  exact Mine.law_holds
