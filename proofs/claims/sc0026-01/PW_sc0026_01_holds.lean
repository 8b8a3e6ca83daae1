import PyProof.Rows.All
import Wide.All
import OpenK.AllK
import Wide.FinOn
import PySem.Challenge.RW_sc0026_01
open PySem PySem.W PyProof.Rows PySem.Spec PySem.Calls
set_option Elab.async false
set_option compiler.extract_closed false
namespace Mine
set_option maxRecDepth 100000 in
set_option maxHeartbeats 8000000 in
open_top hd for PySem.Challenge.rw_sc0026_01
end Mine
namespace Mine

section
variable {prog : Program} {w : World} {A : Around} {E : Value → Shared → Prop} {s : Shared} {env : Env} {h₀ : Heap} {x : Str} {body : List Stmt} {Q : Flow → Shared → Prop}

/-- what a turn's end must show, of a loop that fills one list of the ledger -/
def AppJ (x : Str) (m₀ : Str → Option Value) (pre post : List (Addr × Obj)) (la : Addr) (J : Array Value → Prop) (m' : Str → Option Value) (nx : List (Addr × Obj)) : Prop :=
  ∃ xs n, nx = pre ++ (la, listOf xs n) :: post ∧ J xs ∧ ∀ z, z ≠ x → m' z = m₀ z

theorem iter_app {l la : Addr} {vs : List Value} {ns : List Int} {nn n0 : Nat} {m₀ : Str → Option Value} {pre post : List (Addr × Obj)} {xs0 : Array Value} (J : Nat → Array Value → Prop)
    (hh : A.handled = none) (hl : (l, listOf vs.toArray nn) ∈ pre ++ post) (hi : IntsAre vs ns) (F : Fr h₀ env.locals s.heap m₀) (N : News h₀ env.locals s.heap (pre ++ (la, listOf xs0 n0) :: post)) (hj : J 0 xs0)
    (turn : ∀ i n t xs nx h tk own, ns[i]? = some n → J i xs → OwnOff own ((pre ++ (la, listOf xs0 n0) :: post).map (·.1)) → Fr h₀ env.locals h (fun y => if y = x then some (.int n t) else m₀ y) → News h₀ env.locals h ((pre ++ (la, listOf xs nx) :: post) ++ own) →
      wpAny (model prog w) A (execs body env) (InvPostN h₀ env.locals (AppJ x m₀ pre post la (J (i + 1))) own ((pre ++ (la, listOf xs0 n0) :: post).map (·.1)) { s with heap := h, toks := tk } Q) E { s with heap := h, toks := tk })
    (done : ∀ (u : Str → Option Value) xs nx h tk, J ns.length xs → Fr h₀ env.locals h (fun y => if y = x then u y else m₀ y) → News h₀ env.locals h (pre ++ (la, listOf xs nx) :: post) → Q .next { s with heap := h, toks := tk }) :
    wpAny (model prog w) A (pyIter (.ref l)) (fun it s₂ => LoopAtV prog w A h₀ env x body Q E it s₂) E s := by
  have hmem : ∀ xs n, (l, listOf vs.toArray nn) ∈ pre ++ (la, listOf xs n) :: post := fun xs n => by
    rcases List.mem_append.mp hl with h | h
    · exact List.mem_append_left _ h
    · exact List.mem_append_right _ (.tail _ h)
  refine iter_invNL (fun i m nx => AppJ x m₀ pre post la (J i) m nx) hh (hmem _ _) hi F N ⟨xs0, n0, rfl, hj, fun _ _ => rfl⟩ ?_ ?_
  · rintro i n t m₁ nx h tk own hn _ hoff _ ⟨xs, nq, rfl, hj', hm⟩ F₁ N₁
    have e : (fun z => if z = x then some (Value.int n t) else m₁ z) = fun z => if z = x then some (Value.int n t) else m₀ z := by
      funext z
      by_cases h1 : z = x
      · simp [h1]
      · simp only [if_neg h1]; exact hm z h1
    rw [e] at F₁
    refine wpAny_mono (turn i n t xs nq h tk own hn hj' hoff F₁ N₁) (fun f s₂ p => ?_) fun _ _ x => x
    have up : InvEndN h₀ env.locals (AppJ x m₀ pre post la (J (i + 1))) own ((pre ++ (la, listOf xs0 n0) :: post).map (·.1)) { s with heap := h, toks := tk } s₂ →
        InvEndN h₀ env.locals (fun m' nx => (l, listOf vs.toArray nn) ∈ nx ∧ AppJ x m₀ pre post la (J (i + 1)) m' nx) own ((pre ++ (la, listOf xs0 n0) :: post).map (·.1)) { s with heap := h, toks := tk } s₂ := by
      rintro ⟨h', tk', m', news', nx', e', F', N', hn', ho', ha, hS⟩
      refine ⟨h', tk', m', news', nx', e', F', N', hn', ho', ha, ?_, hS⟩
      obtain ⟨c', n', rfl, _⟩ := hS
      exact hmem _ _
    cases f with
    | ret v => exact p
    | brk => exact p
    | next => exact up p
    | cont => exact up p
  · rintro m₁ nx h tk _ ⟨xs, nq, rfl, hj', hm⟩ F₁ N₁
    refine done m₁ xs nq h tk hj' ?_ N₁
    have e : (fun z => if z = x then m₁ z else m₀ z) = m₁ := by
      funext z
      by_cases h1 : z = x
      · simp [h1]
      · simp only [if_neg h1]; exact (hm z h1).symm
    rw [e]; exact F₁

theorem appEnd {L : Addr} {x : Str} {m₀ : Str → Option Value} {pre post : List (Addr × Obj)} {la : Addr} {J : Array Value → Prop} {m' : Str → Option Value} {own news' : List (Addr × Obj)} {adr : List Addr} {s₁ : Shared} {h' : Heap} {tk : Nat} {xs : Array Value} {n : Nat}
    (F : Fr h₀ L h' m') (N : News h₀ L h' news') (hj : J xs) (hm : ∀ z, z ≠ x → m' z = m₀ z) (hs : ∀ p ∈ pre ++ (la, listOf xs n) :: post, p ∈ news') (ho : ∀ p ∈ own, p ∈ news') (ha : (pre ++ (la, listOf xs n) :: post).map (·.1) = adr) :
    InvEndN h₀ L (AppJ x m₀ pre post la J) own adr s₁ { s₁ with heap := h', toks := tk } := InvEndN.intro F N ⟨xs, n, rfl, hj, hm⟩ ha hs ho
end

/-- one small or great letter: the sign b + p -/
def letter (b p : Nat) : Str := ⟨#[b + p]⟩
/-- the twelve signs from b on -/
def alpha (b : Nat) : Str := ⟨((List.range 12).map (b + ·)).toArray⟩

theorem alpha_len (b : Nat) : (alpha b).length = 12 := by simp [alpha, Str.length]
theorem alpha_at {b k : Nat} (h : k < 12) : (alpha b).cps[k]? = some (b + k) := by simp [alpha, h]
theorem item_alpha_eq {b : Nat} {i : Int} (h0 : 0 ≤ i) (h1 : i < 12) : Txt.item (alpha b) i = letter b i.toNat := by
  have hc : Txt.charAt (alpha b) i = some (b + i.toNat) := by
    unfold Txt.charAt seqIndex?
    rw [alpha_len]
    have h2 : ¬ i < 0 := by omega
    simp only [if_neg h2]
    have h3 : (decide (0 ≤ i) && decide (i < ((12 : Nat) : Int))) = true := by simp; omega
    rw [if_pos h3]
    show (alpha b).cps[i.toNat]? = _
    exact alpha_at (by omega)
  unfold Txt.item
  rw [hc]
  rfl
section
variable {prog : Program} {w : World} {A : Around} {E : Value → Shared → Prop} {s : Shared}
theorem item_alpha {value slice : PySem.Expr} {b : Nat} {t : Tok} {i : Int} {u : Tok} {Q : Value → Shared → Prop} (h0 : 0 ≤ i) (h1 : i < 12) (h : ∀ t' tk', Q (.str (letter b i.toNat) t') { s with toks := tk' })
    (hs : subscripted slice false (.str (alpha b) t) (.int i u) = operate [.str (alpha b) t, .int i u] (getItem (.str (alpha b) t) (.int i u)) := by with_unfolding_all rfl)
    (ht : ∀ r, letTemporaryGo value (.str (alpha b) t) r = pure () := by intro _; with_unfolding_all rfl) :
    wpAny (model prog w) A (subscriptTail value slice (.str (alpha b) t) (.int i u)) Q E s := by
  refine item_str (fitsSsize_of (N := 9223372036854775808) (by omega) (by omega) (Int.le_refl _)) (by rw [alpha_len]; omega) (by rw [alpha_len]; exact h1) (fun _ => ?_) hs ht
  rw [item_alpha_eq h0 h1]
  exact h _ _
end

section
variable {l l' : List (Addr × Obj)} {d : Addr}
theorem ne_app (h : ∀ p ∈ l, p.1 ≠ d) (h' : ∀ p ∈ l', p.1 ≠ d) : ∀ p ∈ l ++ l', p.1 ≠ d := fun p hp => (List.mem_append.mp hp).elim (h p) (h' p)
theorem ne_ofL (h : ∀ p ∈ l, p.1 < d) : ∀ p ∈ l, p.1 ≠ d := fun p hp => Nat.ne_of_lt (h p hp)
theorem ne_lt (h : AllLt d l) : ∀ p ∈ l, p.1 ≠ d := ne_ofL (ktn_ltOf h)
end
theorem strs_size {xs : Array Value} {ss : List Str} (h : StrsAre xs.toList ss) : xs.size = ss.length := by rw [← h.length, Array.length_toList]

/-- a record's fields, as Entry.__init__ lays them -/
abbrev recDict (P : Params) (l r : Addr) (t1 t2 t3 t4 : Tok) : List DictEntry :=
  [⟨PyData.keyHash P (Str.ofString "useragents"), .str (Str.ofString "useragents") t1, .ref l⟩, ⟨PyData.keyHash P (Str.ofString "rulelines"), .str (Str.ofString "rulelines") t2, .ref r⟩,
   ⟨PyData.keyHash P (Str.ofString "delay"), .str (Str.ofString "delay") t3, .none⟩, ⟨PyData.keyHash P (Str.ofString "req_rate"), .str (Str.ofString "req_rate") t4, .none⟩]
/-- the agents of a record moved by k: a star and the names of the places -/
def agents (b : Nat) (ms : List Int) (k : Int) : List Str := Str.ofString "*" :: ms.map fun j => letter b (Int.fmod (j + k) 12).toNat
theorem agents_snoc {b : Nat} {ms : List Int} {k n : Int} {i : Nat} (h : ms[i]? = some n) : agents b (ms.take (i + 1)) k = agents b (ms.take i) k ++ [letter b (Int.fmod (n + k) 12).toNat] := by
  unfold agents
  rw [List.take_add_one, h]
  simp
theorem strs_push {xs : Array Value} {ss : List Str} {y : Str} {t : Tok} (h : StrsAre xs.toList ss) : StrsAre (xs.push (.str y t)).toList (ss ++ [y]) := by
  rw [Array.toList_push]
  exact h.append' (.cons _ _ .nil)

theorem isList_of {h₀ h : Heap} {L a : Addr} {news : List (Addr × Obj)} {xs : Array Value} {n : Nat} (hm : (a, listOf xs n) ∈ news) (N : News h₀ L h news) : h.IsList a xs := ⟨_, (N _ hm).1, rfl, n, rfl⟩
theorem isListL_of {h₀ h : Heap} {L a : Addr} {news : List (Addr × Obj)} {xs : Array Value} {n : Nat} (hm : (a, listOf xs n) ∈ news) (N : News h₀ L h news) : h.IsList a xs.toList.toArray := isList_of hm N

section
variable {prog : Program} {w : World} {A : Around} {E : Value → Shared → Prop} {s : Shared} {env : Env} {h₀ : Heap} {x : Str} {body : List Stmt} {Q : Flow → Shared → Prop}
/-- a loop over a list of the ledger that turns the frame's names alone -/
theorem iter_look {l : Addr} {vs : Array Value} {nn : Nat} {m₀ : Str → Option Value} {news : List (Addr × Obj)} (J : Nat → (Str → Option Value) → Prop)
    (hh : A.handled = none) (hl : (l, listOf vs nn) ∈ news) (F : Fr h₀ env.locals s.heap m₀) (N : News h₀ env.locals s.heap news) (hj : J 0 m₀)
    (turn : ∀ i v m₁ h tk own, vs[i]? = some v → J i m₁ → Fr h₀ env.locals h (fun y => if y = x then some v else m₁ y) → News h₀ env.locals h (own ++ news) →
      wpAny (model prog w) A (execs body env) (InvPost h₀ env.locals (J (i + 1)) (own ++ news) { s with heap := h, toks := tk } Q) E { s with heap := h, toks := tk })
    (done : ∀ m₁ h tk, J vs.size m₁ → Fr h₀ env.locals h m₁ → News h₀ env.locals h news → Q .next { s with heap := h, toks := tk }) :
    wpAny (model prog w) A (pyIter (.ref l)) (fun it s₂ => LoopAtV prog w A h₀ env x body Q E it s₂) E s := by
  have hls : s.heap.IsList l vs := isList_of hl N
  have hne : l ≠ s.heap.objs.size := Nat.ne_of_lt (Heap.lt_size (N _ hl).1)
  refine wpAny_pyIter_list hls ?_
  have W := Walks.list (prog := prog) (w := w) hh s.heap.objs.size l hne vs
  refine ⟨_, _, _, vs.size, _, _, m₀, news, fun i m nx => nx = news ∧ J i m, rfl, W, ?_, ?_, ?_, ⟨⟨_, Heap.get?_push_size _ rfl, rfl, rfl⟩, hls.at fun o e => Heap.get?_push_of_some _ e⟩, F.push _, (fun p hp => ⟨Heap.get?_push_of_some _ (N p hp).1, (N p hp).2⟩), ⟨rfl, hj⟩, ?_, ?_⟩
  · intro hm
    rcases List.mem_cons.mp hm with e | hm
    · exact absurd F.ns.lt (e ▸ Nat.lt_irrefl _)
    · exact (N _ hl).2.1 (List.mem_singleton.mp hm).symm
  · intro b hb
    rw [List.mem_singleton.mp hb]
    exact next_is_new F
  · intro p hp hI
    exact absurd (Heap.lt_size (N p hp).1) ((List.mem_singleton.mp hI) ▸ Nat.lt_irrefl _)
  · rintro i v m₁ nx s₁ own ⟨hh', tk', rfl⟩ hin hP ⟨rfl, hJ⟩ hoff _ _ _ _ F₁ N₁
    refine wpAny_mono (turn i v m₁ hh' tk' own hP hJ F₁ N₁) (fun f s₂ p => ?_) fun _ _ e => e
    have fin : InvEnd h₀ env.locals (J (i + 1)) (own ++ nx) { s with heap := hh', toks := tk' } s₂ → LoopStepU h₀ env.locals [s.heap.objs.size] own (fun m nx' => nx' = nx ∧ J (i + 1) m) { s with heap := hh', toks := tk' } .next s₂ := by
      rintro ⟨h', tk, m', news', e, F', N', hn, hm⟩
      exact ⟨rfl, h', tk, m', nx, e, F', fun p hp => N' p (hn p hp), hoff, rfl, hm⟩
    cases f with
    | ret v => exact .ret p
    | brk => exact .brk p
    | next => exact .next (fin p)
    | cont => exact .cont (fin p)
  · rintro h' tk m' news' F' N' _ ⟨rfl, hJ⟩
    exact done m' h' tk hJ F' N'
end

theorem map_at {x : Str} {m₀ m₁ : Str → Option Value} (v : Option Value) (h : ∀ z, z ≠ x → m₁ z = m₀ z) : (fun z => if z = x then v else m₁ z) = fun z => if z = x then v else m₀ z := by
  funext z
  by_cases h1 : z = x
  · simp [h1]
  · simp only [if_neg h1]; exact h z h1
theorem map_after {x : Str} {m₀ m₁ : Str → Option Value} (h : ∀ z, z ≠ x → m₁ z = m₀ z) : m₁ = fun z => if z = x then m₁ z else m₀ z := by
  funext z
  by_cases h1 : z = x
  · simp [h1]
  · simp only [if_neg h1]; exact h z h1
section
variable {prog : Program} {w : World} {A : Around} {E : Value → Shared → Prop} {s : Shared} {env : Env} {h₀ : Heap} {x : Str} {body : List Stmt} {Q : Flow → Shared → Prop}
/-- the same, where the loop's own name alone turns -/
theorem iter_look1 {l : Addr} {vs : Array Value} {nn : Nat} {m₀ : Str → Option Value} {news : List (Addr × Obj)} (J : Nat → Prop)
    (hh : A.handled = none) (hl : (l, listOf vs nn) ∈ news) (F : Fr h₀ env.locals s.heap m₀) (N : News h₀ env.locals s.heap news) (hj : J 0)
    (turn : ∀ i v h tk own, vs[i]? = some v → J i → Fr h₀ env.locals h (fun y => if y = x then some v else m₀ y) → News h₀ env.locals h (own ++ news) →
      wpAny (model prog w) A (execs body env) (InvPost h₀ env.locals (fun m' => J (i + 1) ∧ ∀ z, z ≠ x → m' z = m₀ z) (own ++ news) { s with heap := h, toks := tk } Q) E { s with heap := h, toks := tk })
    (done : ∀ (u : Str → Option Value) h tk, J vs.size → Fr h₀ env.locals h (fun y => if y = x then u y else m₀ y) → News h₀ env.locals h news → Q .next { s with heap := h, toks := tk }) :
    wpAny (model prog w) A (pyIter (.ref l)) (fun it s₂ => LoopAtV prog w A h₀ env x body Q E it s₂) E s :=
  iter_look (fun i m => J i ∧ ∀ z, z ≠ x → m z = m₀ z) hh hl F N ⟨hj, fun _ _ => rfl⟩
    (fun i v m₁ h tk own hv hJ F₁ N₁ => turn i v h tk own hv hJ.1 (map_at (some v) hJ.2 ▸ F₁) N₁)
    (fun m₁ h tk hJ F₁ N₁ => done m₁ h tk hJ.1 (map_after hJ.2 ▸ F₁) N₁)
theorem look1End {L : Addr} {m₀ m' : Str → Option Value} {P : Prop} {need news' : List (Addr × Obj)} {s₁ : Shared} {h' : Heap} {tk : Nat} (F : Fr h₀ L h' m') (N : News h₀ L h' news') (hn : ∀ p ∈ need, p ∈ news') (hp : P) (hm : ∀ z, z ≠ x → m' z = m₀ z) :
    InvEnd h₀ L (fun m' => P ∧ ∀ z, z ≠ x → m' z = m₀ z) need s₁ { s₁ with heap := h', toks := tk } := InvEnd.intro F N hn ⟨hp, hm⟩
end
theorem mapOr {x : Str} {u m₀ : Str → Option Value} {v : Option Value} : ∀ z, z ≠ x → (if z = x then v else if z = x then u z else m₀ z) = m₀ z := fun z h => by rw [if_neg h, if_neg h]
theorem memTail {a b : Addr × Obj} {l : List (Addr × Obj)} (h : a ∈ l) : a ∈ b :: l := List.Mem.tail _ h

/-- what applies_to answers: does an agent that is no star stand in the text -/
def meets (z a : Str) : Bool := (a != Str.ofString "*") && Txt.contains z (Txt.lower a)
theorem strs_item {xs : Array Value} {ss : List Str} (h : StrsAre xs.toList ss) {i : Nat} {v : Value} (hv : xs[i]? = some v) : ∃ y t, v = .str y t ∧ ss[i]? = some y := h.item i v (by rw [← hv, Array.getElem?_toList])
theorem any_step {ss : List Str} {P : Str → Bool} {i : Nat} {a : Str} (h : ss[i]? = some a) (h0 : (ss.take i).any P = false) (ha : P a = false) : (ss.take (i + 1)).any P = false := by
  rw [List.take_add_one, h]
  simp [h0, ha]
theorem any_hit {ss : List Str} {P : Str → Bool} {i : Nat} {a : Str} (h : ss[i]? = some a) (ha : P a = true) : ss.any P = true := List.any_eq_true.mpr ⟨a, List.mem_of_getElem? h, ha⟩
end Mine
namespace Mine
section
variable {prog : Program} {w : World} {A : Around} {E : Value → Shared → Prop} {s : Shared} {h₀ : Heap} {L : Addr} {news : List (Addr × Obj)}
theorem notin_L {l : Addr} {xs : Array Value} {n : Nat} {ns : List Int} {k : Int} {t : Tok} {Q : Value → Shared → Prop} (N : News h₀ L s.heap news) (hm : (l, listOf xs n) ∈ news) (hi : IntsAre xs.toList ns)
    (h : Q (.bool (!(ns.any (· == k)))) s) : wpAny (model prog w) A (compareOp .NotIn (.int k t) (.ref l)) Q E s :=
  notin_list_ints (isListL_of hm N) hi h
theorem in_L {l : Addr} {xs : Array Value} {n : Nat} {ns : List Int} {k : Int} {t : Tok} {Q : Value → Shared → Prop} (N : News h₀ L s.heap news) (hm : (l, listOf xs n) ∈ news) (hi : IntsAre xs.toList ns)
    (h : Q (.bool (ns.any (· == k))) s) : wpAny (model prog w) A (compareOp .In (.int k t) (.ref l)) Q E s :=
  in_list_ints (isListL_of hm N) hi h
end
section
variable {l : List (Addr × Obj)} {d : Addr}
theorem ne_up1 (h : ∀ p ∈ l, p.1 < d) : ∀ p ∈ l, p.1 ≠ d + 1 := fun p hp => Nat.ne_of_lt (Nat.lt_succ_of_lt (h p hp))
theorem ne_up2 (h : ∀ p ∈ l, p.1 < d) : ∀ p ∈ l, p.1 ≠ d + 1 + 1 := fun p hp => Nat.ne_of_lt (Nat.lt_succ_of_lt (Nat.lt_succ_of_lt (h p hp)))
theorem ne_up3 (h : ∀ p ∈ l, p.1 < d) : ∀ p ∈ l, p.1 ≠ d + 1 + 1 + 1 := fun p hp => Nat.ne_of_lt (Nat.lt_succ_of_lt (Nat.lt_succ_of_lt (Nat.lt_succ_of_lt (h p hp))))
end

section
variable {prog : Program} {w : World} {A : Around} {E : Value → Shared → Prop} {s : Shared} {env : Env} {h₀ : Heap} {x y : Str} {body : List Stmt} {Q : Flow → Shared → Prop}
/-- what a turn's end must show, of a loop that fills one list of the ledger and turns one whole number of the frame -/
def App1J (x y : Str) (m₀ : Str → Option Value) (pre post : List (Addr × Obj)) (la : Addr) (J : Int → Array Value → Prop) (m' : Str → Option Value) (nx : List (Addr × Obj)) : Prop :=
  ∃ xs n p t, nx = pre ++ (la, listOf xs n) :: post ∧ J p xs ∧ m' y = some (.int p t) ∧ ∀ z, z ≠ x → z ≠ y → m' z = m₀ z

theorem iter_app1 {l la : Addr} {vs : List Value} {ns : List Int} {nn n0 : Nat} {m₀ : Str → Option Value} {pre post : List (Addr × Obj)} {xs0 : Array Value} (J : Nat → Int → Array Value → Prop) (p0 : Int) (t0 : Tok) (hxy : y ≠ x)
    (hh : A.handled = none) (hl : (l, listOf vs.toArray nn) ∈ pre ++ post) (hi : IntsAre vs ns) (F : Fr h₀ env.locals s.heap m₀) (N : News h₀ env.locals s.heap (pre ++ (la, listOf xs0 n0) :: post)) (hj : J 0 p0 xs0) (hy : m₀ y = some (.int p0 t0))
    (turn : ∀ i n t p tp xs nx h tk own, ns[i]? = some n → J i p xs → OwnOff own ((pre ++ (la, listOf xs0 n0) :: post).map (·.1)) → Fr h₀ env.locals h (fun z => if z = x then some (.int n t) else if z = y then some (.int p tp) else m₀ z) → News h₀ env.locals h ((pre ++ (la, listOf xs nx) :: post) ++ own) →
      wpAny (model prog w) A (execs body env) (InvPostN h₀ env.locals (App1J x y m₀ pre post la (J (i + 1))) own ((pre ++ (la, listOf xs0 n0) :: post).map (·.1)) { s with heap := h, toks := tk } Q) E { s with heap := h, toks := tk })
    (done : ∀ (u : Str → Option Value) p xs nx h tk, J ns.length p xs → Fr h₀ env.locals h (fun z => if z = x ∨ z = y then u z else m₀ z) → News h₀ env.locals h (pre ++ (la, listOf xs nx) :: post) → Q .next { s with heap := h, toks := tk }) :
    wpAny (model prog w) A (pyIter (.ref l)) (fun it s₂ => LoopAtV prog w A h₀ env x body Q E it s₂) E s := by
  have hmem : ∀ xs n, (l, listOf vs.toArray nn) ∈ pre ++ (la, listOf xs n) :: post := fun xs n => by
    rcases List.mem_append.mp hl with h | h
    · exact List.mem_append_left _ h
    · exact List.mem_append_right _ (.tail _ h)
  refine iter_invNL (fun i m nx => App1J x y m₀ pre post la (J i) m nx) hh (hmem _ _) hi F N ⟨xs0, n0, p0, t0, rfl, hj, hy, fun _ _ _ => rfl⟩ ?_ ?_
  · rintro i n t m₁ nx h tk own hn _ hoff _ ⟨xs, nq, p, tp, rfl, hj', hy', hm⟩ F₁ N₁
    have e : (fun z => if z = x then some (Value.int n t) else m₁ z) = fun z => if z = x then some (Value.int n t) else if z = y then some (.int p tp) else m₀ z := by
      funext z
      by_cases h1 : z = x
      · simp [h1]
      · by_cases h2 : z = y
        · subst h2; simp only [if_neg h1, if_true]; exact hy'
        · simp only [if_neg h1, if_neg h2]; exact hm z h1 h2
    rw [e] at F₁
    refine wpAny_mono (turn i n t p tp xs nq h tk own hn hj' hoff F₁ N₁) (fun f s₂ q => ?_) fun _ _ x => x
    have up : InvEndN h₀ env.locals (App1J x y m₀ pre post la (J (i + 1))) own ((pre ++ (la, listOf xs0 n0) :: post).map (·.1)) { s with heap := h, toks := tk } s₂ →
        InvEndN h₀ env.locals (fun m' nx => (l, listOf vs.toArray nn) ∈ nx ∧ App1J x y m₀ pre post la (J (i + 1)) m' nx) own ((pre ++ (la, listOf xs0 n0) :: post).map (·.1)) { s with heap := h, toks := tk } s₂ := by
      rintro ⟨h', tk', m', news', nx', e', F', N', hn', ho', ha, hS⟩
      refine ⟨h', tk', m', news', nx', e', F', N', hn', ho', ha, ?_, hS⟩
      obtain ⟨c', n', _, _, rfl, _⟩ := hS
      exact hmem _ _
    cases f with
    | ret v => exact q
    | brk => exact q
    | next => exact up q
    | cont => exact up q
  · rintro m₁ nx h tk _ ⟨xs, nq, p, tp, rfl, hj', hy', hm⟩ F₁ N₁
    refine done m₁ p xs nq h tk hj' ?_ N₁
    have e : (fun z => if z = x ∨ z = y then m₁ z else m₀ z) = m₁ := by
      funext z
      by_cases h1 : z = x
      · simp [h1]
      · by_cases h2 : z = y
        · simp [h2]
        · simp only [h1, h2, or_self, if_false]; exact (hm z h1 h2).symm
    rw [e]; exact F₁

theorem app1End {L : Addr} {m₀ : Str → Option Value} {pre post : List (Addr × Obj)} {la : Addr} {J : Int → Array Value → Prop} {m' : Str → Option Value} {own news' : List (Addr × Obj)} {adr : List Addr} {s₁ : Shared} {h' : Heap} {tk : Nat} {xs : Array Value} {n : Nat} {p : Int} {t : Tok}
    (F : Fr h₀ L h' m') (N : News h₀ L h' news') (hj : J p xs) (hy : m' y = some (.int p t)) (hm : ∀ z, z ≠ x → z ≠ y → m' z = m₀ z) (hs : ∀ p ∈ pre ++ (la, listOf xs n) :: post, p ∈ news') (ho : ∀ p ∈ own, p ∈ news') (ha : (pre ++ (la, listOf xs n) :: post).map (·.1) = adr) :
    InvEndN h₀ L (App1J x y m₀ pre post la J) own adr s₁ { s₁ with heap := h', toks := tk } := InvEndN.intro F N ⟨xs, n, p, t, rfl, hj, hy, hm⟩ ha hs ho
end

/-- the turns of a comprehension, by an invariant on what it has laid and on the ledger -/
theorem rest_ind {prog : Program} {w : World} {A : Around} {h₀ : Heap} {L : Addr} {m : Str → Option Value} {env : Env} {elt : PySem.Expr} {x : Str} {scope : Scope} {cl : List (Str × Addr)} {s : Shared} {S : List (Addr × Obj) → Prop} {P : Nat → Value → Prop} {Fin : List Value → List (Addr × Obj) → Prop}
    (J : Nat → List Value → List (Addr × Obj) → Prop) {n : Nat}
    (step : ∀ i ys nw, i < n → J i ys nw → ∀ v I oI C oC D m₂ h tk (E' : Value → Shared → Prop), P i v → LCg.NsObj oC m₂ → m₂ x = some v → Fr h₀ L h m → News h₀ L h ((I, oI) :: (C, oC) :: (D, LCg.lst ys) :: nw) → LCg.Off3 I C D nw → ((@Ne Nat I C) ∧ (@Ne Nat I D) ∧ (@Ne Nat C D)) →
      wpAny (model prog w) A (eval elt (compEnvC scope cl C env)) (LCg.CompEnd h₀ L m { s with heap := h, toks := tk } I oI C oC D (LCg.lst ys) S (fun y nw' => J (i + 1) (ys ++ [y]) nw')) E' { s with heap := h, toks := tk })
    (fin : ∀ ys nw, J n ys nw → Fin ys nw) : ∀ (k i : Nat) (ys : List Value) (nw : List (Addr × Obj)), i + k = n → J i ys nw → LCg.CompRest prog w A h₀ L m env elt x scope cl s S P Fin k i ys nw := by
  intro k
  induction k with
  | zero =>
    intro i ys nw hik hJ
    obtain rfl : i = n := hik
    exact LCg.CompRest.zero (fin _ _ hJ)
  | succ k ih =>
    intro i ys nw hik hJ
    refine LCg.CompRest.succ fun v I oI C oC D m₂ h tk E' hv hC hx F N off ne => ?_
    refine wpAny_mono (step i ys nw (by omega) hJ v I oI C oC D m₂ h tk E' hv hC hx F N off ne) (fun y s₂ e => ?_) fun _ _ z => z
    obtain ⟨h', tk', nw', e1, F', N', o', hS, hr⟩ := e
    exact ⟨h', tk', nw', e1, F', N', o', hS, ih (i + 1) _ _ (by omega) hr⟩
end Mine
namespace Mine
/-- a goal at which the walk shall stop -/
def Held (P : Prop) : Prop := P
theorem hold {P : Prop} (h : Held P) : P := h

section
variable {prog : Program} {w : World} {A : Around} {h₀ : Heap} {L : Addr} {m : Str → Option Value} {env : Env} {ct elt : PySem.Expr} {x : Str} {px : Pos} {scope : Scope} {cl : List (Str × Addr)} {s : Shared} {S : List (Addr × Obj) → Prop} {P : Nat → Value → Prop} {Fin : List Value → List (Addr × Obj) → Prop} {news : List (Addr × Obj)}

/-- a turn of the walk that lays nothing new: only the numbers of the values go on -/
def Only (s : Shared) (s' : Shared) : Prop := ∃ tk, s' = { s with toks := tk }
theorem Only.intro {h : Heap} {s : Shared} {tk tk' : Nat} : Only { s with heap := h, toks := tk } { s with heap := h, toks := tk' } := ⟨tk', rfl⟩

/-- [x for x in .. if test]: the test by a function of the whole numbers -/
theorem rest_filter {n : Nat} {ks : List Int} (p : Int → Bool) (hks : ks.length = n) (hP : ∀ i v, i < n → P i v → ∃ k t, ks[i]? = some k ∧ v = .int k t) (hS : S news)
    (test : ∀ k t I oI C oC D m₂ ys h tk (E' : Value → Shared → Prop), k ∈ ks → LCg.NsObj oC m₂ → m₂ x = some (.int k t) → Fr h₀ L h m → News h₀ L h ((I, oI) :: (C, oC) :: (D, LCg.lst ys) :: news) → LCg.Off3 I C D news → ((@Ne Nat I C) ∧ (@Ne Nat I D) ∧ (@Ne Nat C D)) →
      wpAny (model prog w) A (isTrue ct (compEnvC scope cl C env) (eval ct (compEnvC scope cl C env))) (fun b s' => b = p k ∧ Only { s with heap := h, toks := tk } s') E' { s with heap := h, toks := tk })
    (hkx : ∀ C, (compEnvC scope cl C env).kindOf x = some .local) (hkf : ∀ C, (compEnvC scope cl C env).scope.kind = .function) (hd : (x == ("__debug__" : Str)) = false)
    (fin : ∀ ys, IntsAre ys (ks.filter p) → Fin ys news) : LCt.CompRestT prog w A h₀ L m env ct (.Name x px) x scope cl s S P Fin n 0 [] news := by
  have key : ∀ (j i : Nat) (ys : List Value), i + j = n → IntsAre ys ((ks.take i).filter p) → LCt.CompRestT prog w A h₀ L m env ct (.Name x px) x scope cl s S P Fin j i ys news := by
    intro j
    induction j with
    | zero =>
      intro i ys hi hy
      have e : i = ks.length := by omega
      subst e
      rw [List.take_length] at hy
      exact LCt.CompRestT.zero (fin ys hy)
    | succ j ih =>
      intro i ys hi hy
      refine LCt.CompRestT.succ ?_
      intro v I oI C oC D m₂ h tk E' hv hC hx F N off ne
      obtain ⟨k, t, hk, hv'⟩ := hP i v (by omega) hv
      rw [hv'] at hx
      refine wpAny_mono (test k t I oI C oC D m₂ ys h tk E' (List.mem_of_getElem? hk) hC hx F N off ne) (fun b s₂ hq => ?_) fun _ _ e => e
      obtain ⟨rfl, tk', rfl⟩ := hq
      have hs := take_succ_filter p ks i k hk
      cases hpk : p k with
      | true =>
        simp only [if_true]
        refine LCgL.ld_own N (List.mem_cons_of_mem _ (List.mem_cons_self ..)) hC hx ?_ (hkf C) (hkx C) hd
        refine LCg.CompEnd.intro F N news (fun p hp => hp) off hS (ih (i + 1) _ (by omega) ?_)
        rw [hs, hpk, if_pos rfl]
        exact hy.append (.cons k t .nil)
      | false =>
        simp only [Bool.false_eq_true, if_false]
        refine LCg.CompEnd.intro F N news (fun p hp => hp) off hS (ih (i + 1) _ (by omega) ?_)
        rw [hs, hpk]
        simpa using hy
  exact key n 0 [] (by omega) (by simpa using IntsAre.nil)

/-- [e for x in ..]: elements that lay nothing new -/
theorem rest_map {n : Nat} (J : Nat → List Value → Prop) (hS : S news) (hJ0 : J 0 [])
    (turn : ∀ i v I oI C oC D m₂ ys h tk (E' : Value → Shared → Prop), i < n → P i v → J i ys → LCg.NsObj oC m₂ → m₂ x = some v → Fr h₀ L h m → News h₀ L h ((I, oI) :: (C, oC) :: (D, LCg.lst ys) :: news) → LCg.Off3 I C D news → ((@Ne Nat I C) ∧ (@Ne Nat I D) ∧ (@Ne Nat C D)) →
      wpAny (model prog w) A (eval elt (compEnvC scope cl C env)) (fun y s' => J (i + 1) (ys ++ [y]) ∧ Only { s with heap := h, toks := tk } s') E' { s with heap := h, toks := tk })
    (fin : ∀ ys, J n ys → Fin ys news) : LCg.CompRest prog w A h₀ L m env elt x scope cl s S P Fin n 0 [] news := by
  refine rest_ind (fun i ys nw => nw = news ∧ J i ys) ?_ ?_ n 0 [] news (Nat.zero_add _) ⟨rfl, hJ0⟩
  · rintro i ys nw hi ⟨rfl, hJ⟩ v I oI C oC D m₂ h tk E' hv hC hx F N off ne
    refine wpAny_mono (turn i v I oI C oC D m₂ ys h tk E' hi hv hJ hC hx F N off ne) (fun y s₂ hq => ?_) fun _ _ e => e
    obtain ⟨hj, tk', rfl⟩ := hq
    exact LCg.CompEnd.intro F N _ (fun p hp => hp) off hS ⟨rfl, hj⟩
  · rintro ys nw ⟨rfl, hJ⟩
    exact fin ys hJ
end
section
variable {prog : Program} {w : World} {A : Around} {E : Value → Shared → Prop} {s : Shared} {env : Env} {h₀ : Heap} {x y : Str} {body : List Stmt} {Q : Flow → Shared → Prop}
/-- what a turn's end must show, of a loop that turns one cell and one whole number of the frame -/
def CellJ (x y : Str) (m₀ : Str → Option Value) (pre post : List (Addr × Obj)) (c : Addr) (J : Int → Prop) (m' : Str → Option Value) (nx : List (Addr × Obj)) : Prop :=
  ∃ o v p t, nx = pre ++ (c, o) :: post ∧ o.data = .cell v ∧ J p ∧ m' y = some (.int p t) ∧ ∀ z, z ≠ x → z ≠ y → m' z = m₀ z

theorem iter_cell {l c : Addr} {vs : List Value} {ns : List Int} {nn : Nat} {m₀ : Str → Option Value} {pre post : List (Addr × Obj)} {o0 : Obj} {v0 : Option Value} (J : Nat → Int → Prop) (p0 : Int) (t0 : Tok) (hxy : y ≠ x)
    (hh : A.handled = none) (hl : (l, listOf vs.toArray nn) ∈ pre ++ post) (hi : IntsAre vs ns) (F : Fr h₀ env.locals s.heap m₀) (N : News h₀ env.locals s.heap (pre ++ (c, o0) :: post)) (hd : o0.data = .cell v0) (hj : J 0 p0) (hy : m₀ y = some (.int p0 t0))
    (turn : ∀ i n t p tp o v h tk own, ns[i]? = some n → J i p → o.data = .cell v → OwnOff own ((pre ++ (c, o0) :: post).map (·.1)) → Fr h₀ env.locals h (fun z => if z = x then some (.int n t) else if z = y then some (.int p tp) else m₀ z) → News h₀ env.locals h ((pre ++ (c, o) :: post) ++ own) →
      wpAny (model prog w) A (execs body env) (InvPostN h₀ env.locals (CellJ x y m₀ pre post c (J (i + 1))) own ((pre ++ (c, o0) :: post).map (·.1)) { s with heap := h, toks := tk } Q) E { s with heap := h, toks := tk })
    (done : ∀ (u : Str → Option Value) p t o h tk, J ns.length p → u y = some (.int p t) → Fr h₀ env.locals h (fun z => if z = x then u z else if z = y then some (.int p t) else m₀ z) → News h₀ env.locals h (pre ++ (c, o) :: post) → Q .next { s with heap := h, toks := tk }) :
    wpAny (model prog w) A (pyIter (.ref l)) (fun it s₂ => LoopAtV prog w A h₀ env x body Q E it s₂) E s := by
  have hmem : ∀ o, (l, listOf vs.toArray nn) ∈ pre ++ (c, o) :: post := fun o => by
    rcases List.mem_append.mp hl with h | h
    · exact List.mem_append_left _ h
    · exact List.mem_append_right _ (.tail _ h)
  refine iter_invNL (fun i m nx => CellJ x y m₀ pre post c (J i) m nx) hh (hmem _) hi F N ⟨o0, v0, p0, t0, rfl, hd, hj, hy, fun _ _ _ => rfl⟩ ?_ ?_
  · rintro i n t m₁ nx h tk own hn _ hoff _ ⟨o, v, p, tp, rfl, ho, hj', hy', hm⟩ F₁ N₁
    have e : (fun z => if z = x then some (Value.int n t) else m₁ z) = fun z => if z = x then some (Value.int n t) else if z = y then some (.int p tp) else m₀ z := by
      funext z
      by_cases h1 : z = x
      · simp [h1]
      · by_cases h2 : z = y
        · subst h2; simp only [if_neg h1, if_true]; exact hy'
        · simp only [if_neg h1, if_neg h2]; exact hm z h1 h2
    rw [e] at F₁
    refine wpAny_mono (turn i n t p tp o v h tk own hn hj' ho hoff F₁ N₁) (fun f s₂ q => ?_) fun _ _ x => x
    have up : InvEndN h₀ env.locals (CellJ x y m₀ pre post c (J (i + 1))) own ((pre ++ (c, o0) :: post).map (·.1)) { s with heap := h, toks := tk } s₂ →
        InvEndN h₀ env.locals (fun m' nx => (l, listOf vs.toArray nn) ∈ nx ∧ CellJ x y m₀ pre post c (J (i + 1)) m' nx) own ((pre ++ (c, o0) :: post).map (·.1)) { s with heap := h, toks := tk } s₂ := by
      rintro ⟨h', tk', m', news', nx', e', F', N', hn', ho', ha, hS⟩
      refine ⟨h', tk', m', news', nx', e', F', N', hn', ho', ha, ?_, hS⟩
      obtain ⟨c', _, _, _, rfl, _⟩ := hS
      exact hmem _
    cases f with
    | ret v => exact q
    | brk => exact q
    | next => exact up q
    | cont => exact up q
  · rintro m₁ nx h tk _ ⟨o, v, p, tp, rfl, ho, hj', hy', hm⟩ F₁ N₁
    refine done m₁ p tp o h tk hj' hy' ?_ N₁
    have e : (fun z => if z = x then m₁ z else if z = y then some (.int p tp) else m₀ z) = m₁ := by
      funext z
      by_cases h1 : z = x
      · simp [h1]
      · by_cases h2 : z = y
        · subst h2; simp only [if_neg h1, if_true]; exact hy'.symm
        · simp only [if_neg h1, if_neg h2]; exact (hm z h1 h2).symm
    rw [e]; exact F₁

theorem cellEnd {L : Addr} {m₀ : Str → Option Value} {pre post : List (Addr × Obj)} {c : Addr} {J : Int → Prop} {m' : Str → Option Value} {own news' : List (Addr × Obj)} {adr : List Addr} {s₁ : Shared} {h' : Heap} {tk : Nat} {o : Obj} {v : Option Value} {p : Int} {t : Tok}
    (F : Fr h₀ L h' m') (N : News h₀ L h' news') (hd : o.data = .cell v) (hj : J p) (hy : m' y = some (.int p t)) (hm : ∀ z, z ≠ x → z ≠ y → m' z = m₀ z) (hs : ∀ p ∈ pre ++ (c, o) :: post, p ∈ news') (ho : ∀ p ∈ own, p ∈ news') (ha : (pre ++ (c, o) :: post).map (·.1) = adr) :
    InvEndN h₀ L (CellJ x y m₀ pre post c J) own adr s₁ { s₁ with heap := h', toks := tk } := InvEndN.intro F N ⟨o, v, p, t, rfl, hd, hj, hy, hm⟩ ha hs ho
end
theorem ints_P {vs : List Value} {ns : List Int} (hi : IntsAre vs ns) : ∀ i v, i < vs.toArray.size → vs.toArray[i]? = some v → ∃ k t, ns[i]? = some k ∧ v = .int k t := fun i v _ hv => by
  obtain ⟨k, t, e, hk⟩ := IntsAre.at hi i v (by simpa using hv)
  exact ⟨k, t, hk, e⟩
theorem range_P {a : Int} {n : Nat} : ∀ i v, i < n → (∃ t, v = Value.int (a + (i : Int)) t) → ∃ k t, (rangeKs a n)[i]? = some k ∧ v = .int k t := fun i v hi hv => by
  obtain ⟨t, e⟩ := hv
  exact ⟨a + (i : Int), t, by simp [rangeKs, hi], e⟩
end Mine
namespace Mine
section
variable {M : Model} {A : Around} {R : GenEnd} {Y : Protocol} {n : Nat} {s₀ : Shared} {c : Code} {fs : List Frame} {s : Shared} {env : Env}
  {K : Flow → Sem Fin} {H : Value → Sem Fin} {gd : Bool → Bool} {lv : List Value → List Value}
/-- a statement of a generator's that does not yield -/
theorem seg_plain {st : Stmt} (h : wpAny M (A.over c fs) (exec st env) (fun f s' => Seg M A R Y n s₀ c (K f) fs s') (fun x s' => Seg M A R Y n s₀ c (H x) fs s') s) :
    Seg M A R Y n s₀ c ((exec st env).wrap K H gd lv) fs s := seg_wrap h
theorem seg_If {test : PySem.Expr} {body orelse : List Stmt} {pos : Pos}
    (h : wpAny M (A.over c fs) (isTrue test env (eval test env)) (fun b s' => Seg M A R Y n s₀ c ((if b = true then execs body env else execs orelse env).wrap K H gd lv) fs s') (fun x s' => Seg M A R Y n s₀ c (H x) fs s') s) :
    Seg M A R Y n s₀ c ((exec (.If test body orelse pos) env).wrap K H gd lv) fs s := by
  show Seg M A R Y n s₀ c (.at pos fun _ => ((isTrue test env (eval test env)) >>= fun b => if b = true then execs body env else execs orelse env).wrap K H gd lv) fs s
  refine seg_at ?_
  rw [Sem.bind_eq_wrap', Sem.wrap_wrap]
  exact seg_wrap h
end
section
variable {prog : Program} {w : World} {A : Around} {R : GenEnd} {Y : Protocol} {n : Nat} {s₀ : Shared} {fs : List Frame} {s : Shared} {env : Env}
/-- one turn of a for loop inside a generator -/
theorem seg_forLoop {x : Str} {px : Pos} {it : Value} {body orelse : List Stmt} {hE : Value → Sem Fin}
    (he : hE = fun e => (do noteFrame e env; theTreesLotGoes e : Sem Unit).wrap (fun _ => .raise e) .raise id id)
    (h : wpAny (model prog w) (A.over (.forLoop (.Name x px) it body orelse env) fs) (pyNext it) (fun r s₁ => match r with
        | none => Seg (model prog w) A R Y n s₀ (.block orelse env) ((model prog w).den (.block orelse env)) fs s₁
        | some v => wpAny (model prog w) (A.over (.forLoop (.Name x px) it body orelse env) fs) (assign (.Name x px) env v) (fun _ s₂ =>
            Seg (model prog w) A R Y n s₀ (.forLoop (.Name x px) it body orelse env) ((execs body env).wrap (fun f => match f with
              | .next | .cont => .pure (.again (.forLoop (.Name x px) it body orelse env))
              | .brk => .pure (.done .next)
              | .ret v => .pure (.done (.ret v))) hE id id) fs s₂) (fun _ _ => False) s₁) (fun _ _ => False) s) :
    Seg (model prog w) A R Y n s₀ (.forLoop (.Name x px) it body orelse env) ((model prog w).den (.forLoop (.Name x px) it body orelse env)) fs s := by
  show Seg _ A R Y n s₀ _ ((forTurn (.Name x px) it body orelse env).onRaise (fun x => do noteFrame x env; theTreesLotGoes x)) fs s
  unfold forTurn
  rw [Sem.onRaise_eq_wrap]
  refine seg_bind_wrap (wpAny_standAt ?_)
  refine seg_bind_wrap (wpAny_onRaise (wpAny_mono h (fun r s₁ h₁ => ?_) fun _ _ f => f.elim))
  cases r with
  | none => exact seg_again rfl h₁
  | some v =>
    refine seg_bind_wrap (wpAny_of_eq (rfl : letOwnedTupleGo (.Name x px) it v = pure ()) ?_)
    refine seg_bind_wrap (wpAny_mono h₁ (fun _ s₂ h₂ => ?_) fun _ _ f => f.elim)
    rw [Sem.bind_eq_wrap', Sem.wrap_wrap]
    subst he
    rw [Sem.wrap_congr (execs body env) _ _ (K' := fun f => match f with
            | .next | .cont => .pure (.again (.forLoop (.Name x px) it body orelse env))
            | .brk => .pure (.done .next)
            | .ret v => .pure (.done (.ret v))) (H' := (fun e => (do noteFrame e env; theTreesLotGoes e : Sem Unit).wrap (fun _ => .raise e) .raise id id))
        (fun f => by cases f <;> rfl)
        (fun e => by first | exact Sem.bind_eq_wrap _ _ | (show (do noteFrame e env; theTreesLotGoes e : Sem Unit).bind (fun _ => .raise e) = _; rw [Sem.bind_eq_wrap]))]
    exact h₂
theorem seg_For {c : Code} {K : Flow → Sem Fin} {H : Value → Sem Fin} {gd : Bool → Bool} {lv : List Value → List Value} {x : Str} {px : Pos} {iter : PySem.Expr} {body orelse : List Stmt} {pos : Pos}
    (hs : ∀ v, foldedSetIterable iter env v = pure v)
    (h : wpAny (model prog w) (A.over c fs) (eval iter env) (fun v s₁ => wpAny (model prog w) (A.over c fs) (pyIter v) (fun it s₂ => ∀ p,
      Seg (model prog w) A R Y n s₀ (.forLoop (.Name x px) it body orelse env) ((model prog w).den (.forLoop (.Name x px) it body orelse env))
        (.ret (fun r => ((match r with | .ok f => (.pure f : Sem Flow) | .error e => .raise e).onRaise fun (x : Value) => do
          if (← field x 1) == Value.none then unsupported "frame.own-activation:exception-without-traceback"
          setFlight x env.frame).wrap K H gd lv) none (gd false) (lv []) c p [] :: fs) s₂) (fun _ _ => False) s₁) (fun _ _ => False) s) :
    Seg (model prog w) A R Y n s₀ c ((exec (.For (.Name x px) iter body orelse pos) env).wrap K H gd lv) fs s := by
  show Seg _ A R Y n s₀ c (.at pos fun _ => (eval iter env >>= fun v => foldedSetIterable iter env v >>= fun x' => standAt iter.pos >>= fun _ => holding [x'] (pyIter x') >>= fun it => runOwn (.forLoop (.Name x px) it body orelse env) env).wrap K H gd lv) fs s
  refine seg_at ?_
  refine seg_bind_wrap (wpAny_mono h (fun v s₁ h₁ => ?_) fun _ _ f => f.elim)
  refine seg_bind_wrap (wpAny_of_eq (hs v) ?_)
  refine seg_bind_wrap (wpAny_standAt ?_)
  refine seg_bind_wrap (wpAny_holding (wpAny_mono h₁ (fun it s₂ h₂ => ?_) fun _ _ f => f.elim))
  exact seg_call h₂
end
end Mine
namespace Mine
section
variable {prog : Program} {w : World} {A : Around} {E : Value → Shared → Prop} {s : Shared}
/-- one wake of a generator function's object, by a for loop -/
theorem next_gen {a : Addr} {g n : Nat} {gs : GenState} {P : Nat → Shared → Shared → Prop} {Y : Protocol} {Q : Option Value → Shared → Prop} (hh : A.handled = none)
    (hl : s.heap.NoLimit) (hroom : A.depth < recursionLimit) (hg : s.heap.IsGen a g) (hgs : s.gens[g]? = some gs)
    (hgo : gs.Goes (model prog w) A.in1 (fun n s₀ r s₁ => r = .ok (.ret .none) ∧ P n s₀ s₁) Y n (.send .none) (s.setGen g .running))
    (hY : ∀ v s₁ gs', gs'.bare = true → Y (n - 1) (s.setGen g .running) v s₁ (fun r' s'' => match n with
        | 0 => False
        | m + 1 => gs'.Goes (model prog w) A.in1 (fun n s₀ r s₁ => r = .ok (.ret .none) ∧ P n s₀ s₁) Y m r' s'') → Q (some v) (s₁.setGen g gs'))
    (hP : ∀ s₁, P n (s.setGen g .running) s₁ → ∀ h', (∀ b o, s₁.heap.get? b = some o → h'.get? b = some o) → Q none { s₁.setGen g .finished with heap := h' }) :
    wpAny (model prog w) A (pyNext (.ref a)) Q E s := by
  unfold pyNext
  refine wpAny_bind (wpAny_attempt (wpAny_callSpecial?_slot (name := Str.ofString "__next__") hg.typeIs slot_gen_next
    (wpAny_call_entry slot_gen_next hg.typeIs entry_gen_next ?_ (args_gen_next _))))
  show wpAny _ A.in1 (Builtin.Generator.genWake (.ref a) (.send .none)) _ _ s
  unfold Builtin.Generator.genWake
  refine wpAny_bind (wpAny_holding (wpAny_genNumber hg (wpAny_bind (wpAny_genState hgs ?_))))
  cases gs with
  | running => exact hgo.elim
  | finished => exact hgo.elim
  | _ =>
    refine wpAny_bind (wpAny_roomToWake hl hroom ?_)
    show wpAny _ A.in1 (.resume g (.send .none) [] _) _ _ s
    refine wpAny_resumeQ hgs hgo (fun x s₁ hx => ?_) fun v s₁ gs' hb hv => wpAny_pure ⟨v, rfl, wpAny_pure (hY v s₁ gs' hb hv)⟩
    obtain ⟨rfl, hp⟩ := hx
    show wpAny _ A.in1 (newExc (.type "StopIteration") [] >>= _) _ _ _
    refine wpAny_bind ?_
    simp only [newExc, newTuple]
    refine wpAny_bind (wpAny_newObj_type ?_ (by size_fits))
    refine wpAny_bind (m := firstArgMember _ _) (wpAny_of_eq (a := Value.none) (by first | rfl | (simp only [firstArgMember]; rfl)) ?_)
    refine wpAny_newObj_type ?_ (by size_fits)
    simp only [raiseNew]
    refine wpAny_bind (wpAny_bind (wpAny_handled ?_))
    first | rw [show A.in1.handled = none from hh] | rw [hh]
    refine wpAny_throw ?_
    refine wpAny_bind (wpAny_isInstance (T := "StopIteration") (b := true) ⟨_, Heap.get?_push_size _ rfl, rfl⟩ isSubtype_stop ?_)
    exact wpAny_pure (hP s₁ hp _ fun b o hb => Heap.get?_push_of_some _ (Heap.get?_push_of_some _ hb))

/-- the call of a generator function of the written part: its frame and its object lie behind all that is -/
theorem call_gen {K : Frag} {p : Program} {loose : List Str} {mean : ExcName → Option Value} {mg mb : Str → Option Value} {h₀ : Heap} {L : Addr} {m : Str → Option Value} {news : List (Addr × Obj)} {Q : Value → Shared → Prop}
    {name qual : Str} {params : Arguments} {body : List Stmt} {scope : Scope} {dV kV doc pm cdv ct oc : Value} {an od : Option Addr} {osl : Array (Option Value)} {f : Addr} {args : Args} {binds : List (Str × Value)}
    (F : Fr h₀ L s.heap m) (X : K.In h₀) (N : News h₀ L s.heap news) (T : Top p loose mean mg mb h₀)
    (ho : K.lookup f = some ⟨oc, od, .func (fnOf name qual params body scope dV kV doc pm an cdv ct), osl⟩) (hcd : codeIn K cdv qual = true) (hroom : A.depth < recursionLimit)
    (hbind : bindArgs (fnOf name qual params body scope dV kV doc pm an cdv ct) args = pure binds) (hloc : ∀ y ∈ binds, scope.names.lookup y.1 = some .local)
    (hcell : ∀ x ∈ scope.names, x.2 ≠ .cell) (hco : scope.isCoroutine = false) (hgen : scope.isGenerator = true) (hk : scope.kind = .function)
    (h : ∀ h' tk o, o.isFreed = false → Fr h₀ L h' m → News h₀ L h' ((s.heap.objs.size + 1, o) :: news) → h'.Ns s.heap.objs.size (fun x => binds.reverse.lookup x) → h'.IsGen (s.heap.objs.size + 1) s.gens.size →
      h'.objs.size = s.heap.objs.size + 2 → Q (.ref (s.heap.objs.size + 1)) ⟨h', s.gens.push (.fresh (.func body (envOf qual scope s.heap.objs.size f cdv))), s.drawn, tk, s.os⟩) :
    wpAny (model prog w) A (call (.ref f) args.pos args.kw) Q E s := by
  refine wpAny_call (codeAny_call_generator hroom ((X.keeps F.keep) _ _ ho) rfl hco hgen rfl (codeRec_of (X.keeps F.keep) hcd) ?_)
  rw [show bindArgs (fnOf name qual params body scope dV kV doc pm an cdv ct) ⟨args.pos, args.kw⟩ = pure binds from hbind]
  refine wpAny_pure (wpAny_newFunctionEnv hcell hloc (fun h₁ hns hsb => ?_) hk)
  have hlim := (T.nolimit.keeps F.keep).fresh _ hsb
  have hk1 : ∀ b o, s.heap.get? b = some o → h₁.get? b = some o := fun b o e => hsb.extBut b o (Nat.ne_of_lt (Heap.lt_size e)) (Heap.get?_push_of_some _ e)
  have hz : h₁.objs.size = s.heap.objs.size + 1 := by rw [hsb.1, Heap.size_push]
  have F1 : Fr h₀ L h₁ m := ⟨F.ns.keeps hk1, fun b o e => hk1 b o (F.keep b o e), F.above⟩
  have N1 : News h₀ L h₁ news := fun p hp => ⟨hk1 _ _ (N p hp).1, (N p hp).2⟩
  refine ⟨hlim, ?_⟩
  show Q (.ref h₁.objs.size) _
  rw [hz]
  refine h _ _ _ rfl (F1.push _) (hz ▸ N1.push F1 _) (hns.push _) ?_ ?_
  · exact ⟨_, _, _, hz ▸ Heap.get?_push_size _ rfl, rfl, rfl, rfl⟩
  · rw [Heap.size_push, hz]
end
end Mine
namespace Mine
section
variable {M : Model} {A : Around} {R : GenEnd} {Y : Protocol} {c : Code} {fs : List Frame}
/-- a loop of a generator's, by the number of the wakes that are left -/
theorem seg_ind (I : Nat → Shared → Shared → Prop) (h0 : ∀ s₀ s, ¬ I 0 s₀ s)
    (step : ∀ n s₀ s, I (n + 1) s₀ s → (∀ s₀' s', I n s₀' s' → Seg M A R Y n s₀' c (M.den c) fs s') → Seg M A R Y (n + 1) s₀ c (M.den c) fs s) :
    ∀ n s₀ s, I n s₀ s → Seg M A R Y n s₀ c (M.den c) fs s := by
  intro n
  induction n with
  | zero => exact fun s₀ s h => (h0 _ _ h).elim
  | succ n ih => exact fun s₀ s h => step n s₀ s h ih
end
section
variable {prog : Program} {w : World} {A : Around} {R : GenEnd} {Y : Protocol} {n : Nat} {s₀ : Shared} {fs : List Frame} {s : Shared} {env : Env}
theorem seg_block_nil {k h g l c₁ p₁ kp} (hk : Seg (model prog w) A R Y n s₀ c₁ (k (.ok .next)) fs s) :
    Seg (model prog w) A R Y n s₀ (.block [] env) ((model prog w).den (.block [] env)) (.ret k h g l c₁ p₁ kp :: fs) s :=
  seg_leaf (.ok .next) hk
end
/-- what a generator tells: the ints of a row, till 127 or for ever the last one from a 0 on -/
def tl : List Int → Option Int → Nat → Option Int
  | [], _, _ => none
  | x :: r, last, j => if x = 127 then none else if x = 0 then last else match j with
    | 0 => some x
    | j + 1 => tl r (some x) j
def Same3 (Lg It : Addr) (s₀ s : Shared) : Prop := s.gens = s₀.gens ∧ s.drawn = s₀.drawn ∧ s.os = s₀.os ∧ ∀ b o, b ≠ Lg → b ≠ It → s₀.heap.get? b = some o → s.heap.get? b = some o
/-- what is told at a yield, and what the next wake must find -/
def YT (g : Heap) (Lg It ls : Addr) (lo : Obj) (tell : Nat → Option Int) : Protocol := fun n s₀ v s kap =>
  (∃ x t, tell (3 - n) = some x ∧ v = .int x t) ∧ Same3 Lg It s₀ s ∧
  ∃ oL oI, s.heap.get? Lg = some oL ∧ s.heap.get? It = some oI ∧
    (n ≠ 0 → ∀ s'', (∀ b o, g.get? b = some o → s''.heap.get? b = some o) → s''.heap.get? Lg = some oL → s''.heap.get? It = some oI → s''.heap.get? ls = some lo → kap (.send .none) s'')
def PT (Lg It : Addr) (tell : Nat → Option Int) : Nat → Shared → Shared → Prop := fun n s₀ s => tell (4 - n) = none ∧ Same3 Lg It s₀ s
/-- all of a heap but what lies in g and but two -/
def restOf (g h : Heap) (Lg It : Addr) : List (Addr × Obj) := (List.range h.objs.size).filterMap fun b =>
  if b = Lg ∨ b = It ∨ (g.get? b).isSome = true then none else (h.get? b).map fun o => (b, o)
theorem mem_restOf {g h : Heap} {Lg It b : Addr} {o : Obj} : (b, o) ∈ restOf g h Lg It ↔ b ≠ Lg ∧ b ≠ It ∧ g.get? b = none ∧ h.get? b = some o := by
  unfold restOf
  rw [List.mem_filterMap]
  constructor
  · rintro ⟨c, hc, e⟩
    split at e
    · cases e
    · rename_i hn
      obtain ⟨o', ho, e'⟩ := Option.map_eq_some_iff.mp e
      cases e'
      refine ⟨fun q => hn (.inl q), fun q => hn (.inr (.inl q)), ?_, ho⟩
      cases q : g.get? b with
      | none => rfl
      | some o'' => exact absurd (.inr (.inr (by rw [q]; rfl))) hn
  · rintro ⟨h1, h2, h3, h4⟩
    refine ⟨b, List.mem_range.mpr (Heap.lt_size h4), ?_⟩
    rw [if_neg (by simp [h1, h2, h3]), h4]
    rfl
theorem same3_of {g h h' : Heap} {L Lg It : Addr} {m : Str → Option Value} {gens dr tk tk' os} {news : List (Addr × Obj)} (hg : ∀ b o, g.get? b = some o → h.get? b = some o) (F : Fr g L h' m) (N : News g L h' news) (hs : ∀ p ∈ restOf g h Lg It, p ∈ news) :
    Same3 Lg It ⟨h, gens, dr, tk, os⟩ ⟨h', gens, dr, tk', os⟩ := by
  refine ⟨rfl, rfl, rfl, fun b o h1 h2 e => ?_⟩
  cases q : g.get? b with
  | some o' => exact (F.keep b o' q).trans ((hg b o' q).symm.trans e)
  | none => exact (N (b, o) (hs _ (mem_restOf.mpr ⟨h1, h2, q, e⟩))).1
theorem news_restOf {g h : Heap} {Lg It : Addr} : News g Lg h (restOf g h Lg It) := fun p hp => by
  obtain ⟨h1, h2, h3, h4⟩ := mem_restOf.mp (show (p.1, p.2) ∈ _ from hp)
  exact ⟨h4, h1, h3⟩
/-- the map of the generator's frame -/
def gmap (m₀ u : Str → Option Value) (lv : Value) : Str → Option Value := fun y => if y = Str.ofString "interval" then u y else if y = Str.ofString "last_interval" then some lv else m₀ y
def lastV : Option Int → Value → Prop
  | none, v => v = .none
  | some x, v => ∃ t, v = .int x t
theorem IsGen_at {h h' : Heap} {a : Addr} {g : Nat} {o : Obj} (x : h.IsGen a g) (e : h.get? a = some o) (e' : h'.get? a = some o) : h'.IsGen a g := by
  obtain ⟨o', nm, qn, h1, r⟩ := x
  rw [e] at h1; cases h1
  exact ⟨o, nm, qn, e', r⟩
theorem IsListIter_at {h h' : Heap} {a l : Addr} {i : Nat} {o : Obj} (x : h.IsListIter a l i) (e : h.get? a = some o) (e' : h'.get? a = some o) : h'.IsListIter a l i := by
  obtain ⟨o', h1, r⟩ := x
  rw [e] at h1; cases h1
  exact ⟨o, e', r⟩
theorem Fr_at {g h h' : Heap} {L : Addr} {m : Str → Option Value} {o : Obj} (F : Fr g L h m) (hg : ∀ b o, g.get? b = some o → h'.get? b = some o) (e : h.get? L = some o) (e' : h'.get? L = some o) : Fr g L h' m := by
  obtain ⟨⟨o', es, ep, h1, r⟩, _, ha⟩ := F
  rw [e] at h1; cases h1
  exact ⟨⟨o, es, ep, e', r⟩, hg, ha⟩
theorem news_again {g h h' : Heap} {Lg It : Addr} {oI oI' : Obj} {rest : List (Addr × Obj)} (N : News g Lg h ((It, oI) :: rest)) (e : h'.get? It = some oI') : News g Lg h' ((It, oI') :: restOf g h' Lg It) := fun p hp => by
  rcases List.mem_cons.mp hp with rfl | hp
  · exact ⟨e, (N _ (.head _)).2⟩
  · exact news_restOf p hp
theorem gmap_interval {m₀ u : Str → Option Value} {lv : Value} {v : Option Value} : (fun y => if y = Str.ofString "interval" then v else gmap m₀ u lv y) = gmap m₀ (fun _ => v) lv := by
  funext y
  unfold gmap
  by_cases h1 : y = Str.ofString "interval"
  · simp [h1]
  · simp [h1]
theorem gmap_last {m₀ u : Str → Option Value} {lv v : Value} : (fun y => if y = Str.ofString "last_interval" then some v else gmap m₀ u lv y) = gmap m₀ u v := by
  funext y
  unfold gmap
  by_cases h1 : y = Str.ofString "last_interval"
  · subst h1; rw [if_pos rfl, if_neg (by decide), if_pos rfl]
  · simp [h1]
theorem gmap_start {g h : Heap} {L : Addr} {m₀ : Str → Option Value} {lv : Value} (F : Fr g L h (fun y => if y = Str.ofString "last_interval" then some lv else m₀ y)) : Fr g L h (gmap m₀ (fun y => if y = Str.ofString "last_interval" then some lv else m₀ y) lv) := by
  have e : (fun y => if y = Str.ofString "last_interval" then some lv else m₀ y) = gmap m₀ (fun y => if y = Str.ofString "last_interval" then some lv else m₀ y) lv := by
    funext y
    unfold gmap
    by_cases h1 : y = Str.ofString "interval"
    · rw [if_pos h1]
    · rw [if_neg h1]
  exact e ▸ F
theorem ints_at {vs : List Value} {ns : List Int} (h : IntsAre vs ns) {i : Nat} {x : Int} (hx : ns[i]? = some x) : ∃ t, vs.toArray[i]? = some (.int x t) := by
  induction h generalizing i with
  | nil => cases hx
  | cons k t _ ih =>
    cases i with
    | zero => simp at hx; subst hx; exact ⟨t, rfl⟩
    | succ i => simpa using ih (by simpa using hx)
theorem gmap_turn {g h : Heap} {L : Addr} {m₀ u : Str → Option Value} {lv v : Value} {iv : Option Value}
    (F : Fr g L h (fun y => if y = Str.ofString "last_interval" then some v else if y = Str.ofString "interval" then iv else if y = Str.ofString "interval" then u y else if y = Str.ofString "last_interval" then some lv else m₀ y)) : Fr g L h (gmap m₀ (fun _ => iv) v) := by
  have e : (fun y => if y = Str.ofString "last_interval" then some v else if y = Str.ofString "interval" then iv else if y = Str.ofString "interval" then u y else if y = Str.ofString "last_interval" then some lv else m₀ y) = gmap m₀ (fun _ => iv) v := by
    funext y
    unfold gmap
    by_cases h1 : y = Str.ofString "last_interval"
    · subst h1; rw [if_pos rfl, if_neg (by decide), if_pos rfl]
    · rw [if_neg h1]
      by_cases h2 : y = Str.ofString "interval"
      · rw [if_pos h2, if_pos h2]
      · rw [if_neg h2, if_neg h2, if_neg h1, if_neg h2, if_neg h1]
  exact e ▸ F
theorem gmap_here {g h : Heap} {L : Addr} {m₀ u : Str → Option Value} {lv : Value} {iv : Option Value}
    (F : Fr g L h (fun y => if y = Str.ofString "interval" then iv else if y = Str.ofString "interval" then u y else if y = Str.ofString "last_interval" then some lv else m₀ y)) : Fr g L h (gmap m₀ (fun _ => iv) lv) := by
  have e : (fun y => if y = Str.ofString "interval" then iv else if y = Str.ofString "interval" then u y else if y = Str.ofString "last_interval" then some lv else m₀ y) = gmap m₀ (fun _ => iv) lv := by
    funext y
    unfold gmap
    by_cases h2 : y = Str.ofString "interval"
    · simp [h2]
    · simp [h2]
  exact e ▸ F
/-- the state between two turns of the generator's loop -/
def IG (g : Heap) (Lg It ls : Addr) (lo : Obj) (m₀ : Str → Option Value) (ns : List Int) (tell : Nat → Option Int) (nn : Nat) (s₀ s : Shared) : Prop :=
  ∃ i last lv u h tk oI, 0 < nn ∧ i + nn = 4 ∧ s = ⟨h, s₀.gens, s₀.drawn, tk, s₀.os⟩ ∧ (∀ b o, g.get? b = some o → s₀.heap.get? b = some o) ∧ Fr g Lg h (gmap m₀ u lv) ∧ lastV last lv ∧
    News g Lg h ((It, oI) :: restOf g s₀.heap Lg It) ∧ h.IsListIter It ls i ∧ (ls, lo) ∈ restOf g s₀.heap Lg It ∧ (∀ j, tell (i + j) = tl (ns.drop i) last j) ∧ (last = none → ∀ r, ns.drop i ≠ 0 :: r)
/-- and of its endless one -/
def IW (g : Heap) (Lg It : Addr) (m₀ : Str → Option Value) (tell : Nat → Option Int) (nn : Nat) (s₀ s : Shared) : Prop :=
  ∃ x t u h tk oI, 0 < nn ∧ s = ⟨h, s₀.gens, s₀.drawn, tk, s₀.os⟩ ∧ (∀ b o, g.get? b = some o → s₀.heap.get? b = some o) ∧ Fr g Lg h (gmap m₀ u (.int x t)) ∧
    News g Lg h ((It, oI) :: restOf g s₀.heap Lg It) ∧ ∀ j, 4 ≤ j + nn → tell j = some x
theorem setGen_last {gens : Array GenState} {x y : GenState} : (gens.push x).setIfInBounds gens.size y = gens.push y := by
  apply Array.ext_getElem?
  intro i
  rw [Array.getElem?_setIfInBounds]
  by_cases h : gens.size = i
  · subst h; simp
  · rw [if_neg h, Array.getElem?_push, Array.getElem?_push, if_neg (fun q => h q.symm), if_neg (fun q => h q.symm)]
theorem len_L {prog : Program} {w : World} {A : Around} {E : Value → Shared → Prop} {s : Shared} {h₀ : Heap} {L : Addr} {news : List (Addr × Obj)} {l : Addr} {xs : Array Value} {n : Nat} {Q : Value → Shared → Prop}
    (N : News h₀ L s.heap news) (hl : (l, listOf xs n) ∈ news) (hn : xs.size ≤ 100) (h : Q (.int xs.size (s.toks + 1)) { s with toks := s.toks + 1 + 1 }) : wpAny (model prog w) A (call (.builtin "len") [.ref l]) Q E s :=
  len_list (isList_of hl N) (by omega) h
theorem fr_or {x : Str} {g h : Heap} {L : Addr} {m u : Str → Option Value} {v : Option Value} (F : Fr g L h (fun y => if y = x then v else if y = x then u y else m y)) : Fr g L h (fun y => if y = x then (fun _ => v) y else m y) :=
  (map_at (x := x) (m₀ := m) (m₁ := fun y => if y = x then u y else m y) v (fun _ hz => if_neg hz)) ▸ F
theorem told_snoc {ks : List Int} {x : Int} {tell : Nat → Option Int} (h : ∀ j, j < ks.length → ks[j]? = tell j) (hx : tell ks.length = some x) : ∀ j, j < (ks ++ [x]).length → (ks ++ [x])[j]? = tell j := by
  intro j hj
  rw [List.length_append] at hj
  by_cases e : j < ks.length
  · rw [List.getElem?_append_left e]; exact h j e
  · have : j = ks.length := by simp at hj; omega
    subst this
    rw [hx]; simp
theorem fr_split (x : Str) {g h : Heap} {L : Addr} {m : Str → Option Value} (F : Fr g L h m) : Fr g L h (fun y => if y = x then m y else m y) := map_after (x := x) (m₀ := m) (m₁ := m) (fun _ _ => rfl) ▸ F
/-- the state between two turns of a loop over the generator -/
def IT (prog : Program) (w : World) (A : Around) (g : Heap) (Lt Lg It G ls lt : Addr) (lo oG : Obj) (gens₀ : Array GenState) (dr : Drawn) (os : OsState) (x : Str) (mT : Str → Option Value) (news : List (Addr × Obj)) (tell : Nat → Option Int) : Nat → Shared → Prop := fun k s =>
  ∃ (h : Heap) (tk : Nat) (gs : GenState) (xs : Array Value) (ks : List Int) (u : Str → Option Value) (pv : List (Addr × Obj)), s = ⟨h, gens₀.push gs, dr, tk, os⟩ ∧ 0 < k ∧ List.length ks + k = 4 ∧ gs.bare = true ∧ IntsAre (Array.toList xs) ks ∧ (∀ j, j < ks.length → ks[j]? = tell j) ∧ Fr g Lt h (fun y => if y = x then u y else mT y) ∧
    News g Lt h ((lt, listOf xs ks.length) :: (G, oG) :: (pv ++ news)) ∧ (∀ p ∈ pv, p.1 = Lg ∨ p.1 = It) ∧
    gs.Goes (model prog w) A.in1 (fun n s₀ r s₁ => r = .ok (.ret .none) ∧ PT Lg It tell n s₀ s₁) (YT g Lg It ls lo tell) k (.send .none) ⟨h, gens₀.push .running, dr, tk, os⟩
end Mine
namespace Mine
def freeOf (ts : List Int) : List Int := (rangeKs 0 12).filter fun k => !(ts.any (· == k))
def movedBy (q mark : Int) (ms : List Int) : List Int := ms.map fun o => Int.fmod (o + Int.fmod (q - mark) 12) 12
def hitBy (q mark : Int) (ms ts : List Int) : Bool := ms.any fun j => ts.any (· == Int.fmod (j + Int.fmod (q - mark) 12) 12)
def waysL : Nat → List Int → List Int → Int
  | 0, _, _ => 0
  | f + 1, ms, ts => match freeOf ts with
    | [] => 1
    | q :: _ => (ms.map fun mark => if hitBy q mark ms ts then 0 else waysL f ms (ts ++ movedBy q mark ms)).sum
/-- places of the ring, each once -/
def Places (ts : List Int) : Prop := ts.Nodup ∧ ∀ k ∈ ts, 0 ≤ k ∧ k < 12
theorem mem_range12 {k : Int} : k ∈ rangeKs 0 12 ↔ 0 ≤ k ∧ k < 12 := by
  constructor
  · intro h; have := mem_rangeKs h; omega
  · rintro ⟨h1, h2⟩
    unfold rangeKs
    exact List.mem_map.mpr ⟨k.toNat, List.mem_range.mpr (by omega), by omega⟩
theorem mem_free {ts : List Int} {k : Int} : k ∈ freeOf ts ↔ (0 ≤ k ∧ k < 12) ∧ k ∉ ts := by
  unfold freeOf
  rw [List.mem_filter, mem_range12]
  simp only [Bool.not_eq_true', List.any_eq_false, beq_iff_eq, and_congr_right_iff]
  intro _
  constructor
  · intro h hm; exact h k hm rfl
  · intro h x hx e; exact h (e ▸ hx)
theorem fmod_inj {a b c : Int} (ha : 0 ≤ a ∧ a < 12) (hb : 0 ≤ b ∧ b < 12) (h : Int.fmod (a + c) 12 = Int.fmod (b + c) 12) : a = b := by
  rw [Int.fmod_eq_emod_of_nonneg _ (by decide), Int.fmod_eq_emod_of_nonneg _ (by decide)] at h
  omega
theorem fmod_back {q k : Int} (hq : 0 ≤ q ∧ q < 12) : Int.fmod (k + Int.fmod (q - k) 12) 12 = q := by
  rw [Int.fmod_eq_emod_of_nonneg _ (by decide), Int.fmod_eq_emod_of_nonneg _ (by decide)]
  omega
theorem moved_places {q mark : Int} {ms : List Int} (h : Places ms) : Places (movedBy q mark ms) := by
  constructor
  · unfold movedBy
    obtain ⟨h1, h2⟩ := h
    induction ms with
    | nil => exact List.nodup_nil
    | cons m r ih =>
      rw [List.nodup_cons] at h1
      rw [List.map_cons, List.nodup_cons]
      refine ⟨fun hm => ?_, ih h1.2 fun k hk => h2 k (List.mem_cons_of_mem _ hk)⟩
      obtain ⟨x, hx, e⟩ := List.mem_map.mp hm
      have := fmod_inj (h2 x (List.mem_cons_of_mem _ hx)) (h2 m (List.mem_cons_self ..)) e
      exact h1.1 (this ▸ hx)
  · intro k hk
    obtain ⟨x, _, rfl⟩ := List.mem_map.mp hk
    exact ⟨fmod_lo _ (by decide), fmod_hi _ (by decide)⟩
theorem join_places {q mark : Int} {ms ts : List Int} (hm : Places ms) (ht : Places ts) (hh : hitBy q mark ms ts = false) : Places (ts ++ movedBy q mark ms) := by
  have hv := moved_places (q := q) (mark := mark) hm
  constructor
  · refine List.nodup_append.mpr ⟨ht.1, hv.1, fun a ha b hb e => ?_⟩
    subst e
    obtain ⟨x, hx, e⟩ := List.mem_map.mp hb
    unfold hitBy at hh
    rw [List.any_eq_false] at hh
    have h1 := hh x hx
    rw [Bool.not_eq_true, List.any_eq_false] at h1
    exact h1 a ha (by rw [beq_iff_eq]; exact e.symm)
  · intro k hk
    rcases List.mem_append.mp hk with h | h
    · exact ht.2 k h
    · exact hv.2 k h
theorem nodup_short : ∀ (n : Nat) (l : List Int), l.Nodup → (∀ k ∈ l, 0 ≤ k ∧ k < (n : Int)) → l.length ≤ n
  | 0, l, _, h => by
    cases l with
    | nil => exact Nat.le_refl 0
    | cons a r => have := h a (List.mem_cons_self ..); omega
  | n + 1, l, hd, h => by
    have hd' : (l.erase (n : Int)).Nodup := hd.erase _
    have ih := nodup_short n (l.erase (n : Int)) hd' fun k hk => by
      have h1 := h k (List.mem_of_mem_erase hk)
      have h2 : k ≠ (n : Int) := fun e => by
        subst e
        exact (List.Nodup.mem_erase_iff hd).mp hk |>.1 rfl
      omega
    have := List.length_erase (a := (n : Int)) (l := l)
    split at this <;> omega
theorem Places.len {ts : List Int} (h : Places ts) : ts.length ≤ 12 := nodup_short 12 ts h.1 fun k hk => h.2 k hk
theorem filter_le {α : Type} {p p' : α → Bool} (h3 : ∀ a, p' a = true → p a = true) (r : List α) : (r.filter p').length ≤ (r.filter p).length := by
  induction r with
  | nil => exact Nat.le_refl _
  | cons b r ih =>
    simp only [List.filter_cons]
    cases hb : p' b
    · cases hb2 : p b <;> simp <;> omega
    · rw [h3 b hb]; simpa using ih
theorem filter_lt {α : Type} {p p' : α → Bool} {q : α} : ∀ {l : List α}, q ∈ l → p q = true → p' q = false → (∀ a, p' a = true → p a = true) → (l.filter p').length < (l.filter p).length
  | a :: r, hq, h1, h2, h3 => by
    have hle : (r.filter p').length ≤ (r.filter p).length := filter_le h3 r
    rcases List.mem_cons.mp hq with h | h
    · subst h
      simp only [List.filter_cons, h1, h2, if_true, Bool.false_eq_true, if_false, List.length_cons]
      omega
    · have ih := filter_lt h h1 h2 h3
      simp only [List.filter_cons]
      cases hb : p' a
      · cases hb2 : p a <;> simp <;> omega
      · rw [h3 a hb]; simpa using ih
theorem free_lt {q mark : Int} {ms ts : List Int} {r : List Int} (hf : freeOf ts = q :: r) (hm : mark ∈ ms) : (freeOf (ts ++ movedBy q mark ms)).length < (freeOf ts).length := by
  have hq : q ∈ freeOf ts := by rw [hf]; exact List.mem_cons_self ..
  have hq' := mem_free.mp hq
  refine filter_lt (q := q) (mem_range12.mpr hq'.1) ?_ ?_ ?_
  · simp only [Bool.not_eq_true', List.any_eq_false, beq_iff_eq]
    intro x hx e; exact hq'.2 (e ▸ hx)
  · simp only [Bool.not_eq_false', List.any_eq_true, beq_iff_eq]
    exact ⟨q, List.mem_append_right _ (List.mem_map.mpr ⟨mark, hm, fmod_back hq'.1⟩), rfl⟩
  · intro a ha
    simp only [Bool.not_eq_true', List.any_eq_false, beq_iff_eq] at ha ⊢
    exact fun x hx => ha x (List.mem_append_left _ hx)
theorem free_le (ts : List Int) : (freeOf ts).length ≤ 12 := by
  have := List.length_filter_le (fun k => !(ts.any (· == k))) (rangeKs 0 12)
  rw [rangeKs_length] at this
  exact this
theorem sum_snoc {g : Int → Int} {ms : List Int} {i : Nat} {k : Int} (h : ms[i]? = some k) : ((ms.take (i + 1)).map g).sum = ((ms.take i).map g).sum + g k := by
  rw [List.take_add_one, h]; simp
end Mine
namespace Mine
open PySem.Builtin.Str
theorem star_eq : Str.ofString "*" = ⟨#[42]⟩ := by decide
theorem stroke_eq : Str.ofString "/" = ⟨#[47]⟩ := by decide
/-- the places taken, stars between -/
def takenText (b : Nat) (ts : List Int) : Str := Txt.join (Str.ofString "*") (ts.map fun k => letter b k.toNat)
def nameText (b : Nat) (ts : List Int) : Str := takenText b ts ++ Str.ofString "/" ++ alpha b
theorem cps_append (x y : Str) : (x ++ y).cps.toList = x.cps.toList ++ y.cps.toList := by show (x.cps ++ y.cps).toList = _; simp
theorem len_cps (x : Str) : x.length = x.cps.toList.length := by simp [Str.length]
theorem join_mem {b : Nat} : ∀ (ts : List Int) (c : Nat), c ∈ (Str.join ⟨#[42]⟩ (ts.map fun k => letter b k.toNat)).cps.toList → c = 42 ∨ ∃ k ∈ ts, c = b + k.toNat
  | [], c, h => by simp [Str.join, Str.empty] at h
  | [k], c, h => by
    simp [Str.join, letter] at h
    exact .inr ⟨k, by simp, h⟩
  | k :: k' :: r, c, h => by
    have ih := join_mem (b := b) (k' :: r) c
    simp only [List.map_cons] at h ih
    rw [show Str.join ⟨#[42]⟩ (letter b k.toNat :: letter b k'.toNat :: r.map fun k => letter b k.toNat) = letter b k.toNat ++ ⟨#[42]⟩ ++ Str.join ⟨#[42]⟩ (letter b k'.toNat :: r.map fun k => letter b k.toNat) from rfl, cps_append, cps_append] at h
    simp only [List.mem_append] at h
    rcases h with (h | h) | h
    · simp [letter] at h
      exact .inr ⟨k, by simp, h⟩
    · simp at h
      exact .inl h
    · rcases ih h with h | ⟨q, hq, e⟩
      · exact .inl h
      · exact .inr ⟨q, List.mem_cons_of_mem _ hq, e⟩
theorem mem_join {b : Nat} : ∀ (ts : List Int) (k : Int), k ∈ ts → b + k.toNat ∈ (Str.join ⟨#[42]⟩ (ts.map fun k => letter b k.toNat)).cps.toList
  | [], _, h => by simp at h
  | [k], q, h => by
    simp at h; subst h
    simp [Str.join, letter]
  | k :: k' :: r, q, h => by
    simp only [List.map_cons]
    rw [show Str.join ⟨#[42]⟩ (letter b k.toNat :: letter b k'.toNat :: r.map fun k => letter b k.toNat) = letter b k.toNat ++ ⟨#[42]⟩ ++ Str.join ⟨#[42]⟩ (letter b k'.toNat :: r.map fun k => letter b k.toNat) from rfl, cps_append, cps_append]
    simp only [List.mem_append]
    rcases List.mem_cons.mp h with h | h
    · subst h; exact .inl (.inl (by simp [letter]))
    · exact .inr (mem_join (k' :: r) q h)
theorem taken_join (b : Nat) (ts : List Int) : takenText b ts = Str.join ⟨#[42]⟩ (ts.map fun k => letter b k.toNat) := by
  unfold takenText Txt.join
  rw [StrLaws.glued_eq_join, star_eq]
theorem letters_sum (b : Nat) (ts : List Int) : ((ts.map fun k => letter b k.toNat).map (·.length)).sum = ts.length := by
  rw [List.map_map]
  induction ts with
  | nil => rfl
  | cons t r ih => simp only [List.map_cons, List.sum_cons, ih, List.length_cons]; simp [letter, Str.length]; omega
theorem taken_len (b : Nat) (ts : List Int) : (takenText b ts).length ≤ 2 * ts.length := by
  rw [taken_join]
  refine Nat.le_trans (StrLaws.join_length_le _ _) ?_
  have h1 : (List.map (fun x : Str => x.length) (ts.map fun k => letter b k.toNat)).sum = ts.length := by
    rw [List.map_map]
    induction ts with
    | nil => rfl
    | cons t r ih => simp only [List.map_cons, List.sum_cons, ih, List.length_cons]; simp [letter, Str.length]; omega
  have h2 : (⟨#[42]⟩ : Str).length = 1 := rfl
  rw [h1, List.length_map, h2]
  omega
theorem name_len {b : Nat} {ts : List Int} (h : ts.length ≤ 12) : (nameText b ts).length ≤ 100 := by
  have h1 := taken_len b ts
  have h2 := alpha_len b
  have h3 : (Str.ofString "/").length = 1 := by decide
  have e : (nameText b ts).length = (takenText b ts).length + (Str.ofString "/").length + (alpha b).length := by
    unfold nameText
    rw [len_cps, cps_append, cps_append]
    simp [len_cps]
    omega
  omega
/-- ahead of the stroke stand the places taken -/
theorem name_split {b : Nat} {ts : List Int} (hb : b = 65 ∨ b = 97) : (Txt.split (nameText b ts) (Str.ofString "/"))[0]? = some (takenText b ts) := by
  have hpos := split_pos (nameText b ts) (Str.ofString "/")
  obtain ⟨z, hz⟩ : ∃ z, (Txt.split (nameText b ts) (Str.ofString "/"))[0]? = some z := ⟨_, List.getElem?_eq_getElem hpos⟩
  rw [hz]
  have hat : ∀ i, StrLaws.At (nameText b ts) (Str.ofString "/") (nameText b ts).length i ↔ (nameText b ts).cps.toList[i]? = some 47 := fun i => by
    rw [stroke_eq]; exact StrLaws.subAt_one _ 47 i
  have hcp : (nameText b ts).cps.toList = (takenText b ts).cps.toList ++ 47 :: (alpha b).cps.toList := by
    unfold nameText
    rw [cps_append, cps_append, stroke_eq]
    simp
  have hin : ∀ i, i < (takenText b ts).cps.toList.length → (nameText b ts).cps.toList[i]? ≠ some 47 := fun i hi e => by
    rw [hcp, List.getElem?_append_left hi] at e
    have hm := List.mem_of_getElem? e
    rw [taken_join] at hm
    rcases join_mem ts 47 hm with h | ⟨k, _, h⟩
    · cases h
    · rcases hb with rfl | rfl <;> omega
  have hat0 : (nameText b ts).cps.toList[(takenText b ts).cps.toList.length]? = some 47 := by
    rw [hcp, List.getElem?_append_right (Nat.le_refl _), Nat.sub_self]; rfl
  rcases split_head _ _ (by decide +kernel) z hz with ⟨_, h⟩ | ⟨i, e, h1, h2⟩
  · exact absurd ((hat _).mpr hat0) (h _)
  · have hi : i = (takenText b ts).cps.toList.length := by
      rcases Nat.lt_trichotomy i (takenText b ts).cps.toList.length with h | h | h
      · exact absurd ((hat i).mp h1) (hin i h)
      · exact h
      · exact absurd ((hat _).mpr hat0) (h2 _ h)
    have : ((nameText b ts).cps.extract 0 i).toList = (takenText b ts).cps.toList := by
      rw [Array.toList_extract, hi]
      simp only [List.extract_eq_take_drop, List.drop_zero, Nat.sub_zero, hcp, List.take_left']
    have h' : (nameText b ts).cps.extract 0 i = (takenText b ts).cps := Array.toList_inj.mp this
    have h'' : strSub (nameText b ts) 0 i = takenText b ts := by unfold strSub; rw [h']
    rw [e, h'']
theorem lower_letter {d p : Nat} (hd : d = 65 ∨ d = 97) (hp : p < 12) : Txt.lower (letter d p) = letter 97 p := by
  rw [lower_ascii (by intro c hc; simp [letter] at hc; omega)]
  unfold letter
  have : lo1 (d + p) = 97 + p := by unfold lo1; split <;> omega
  simp [this]
theorem lower_taken {b : Nat} {ts : List Int} (hb : b = 65 ∨ b = 97) (hts : ∀ k ∈ ts, 0 ≤ k ∧ k < 12) (p : Nat) (hp : p < 12) : 97 + p ∈ (Txt.lower (takenText b ts)).cps.toList ↔ (p : Int) ∈ ts := by
  rw [lower_ascii (x := takenText b ts) (by
    intro c hc
    rw [taken_join] at hc
    rcases join_mem ts c hc with h | ⟨k, hk, h⟩
    · omega
    · have := hts k hk
      omega)]
  rw [taken_join]
  simp only [Array.toList_map, List.mem_map]
  constructor
  · rintro ⟨c, hc, e⟩
    rcases join_mem ts c hc with h | ⟨k, hk, h⟩
    · subst h; unfold lo1 at e; simp at e; omega
    · have h1 := hts k hk
      have : k = (p : Int) := by
        unfold lo1 at e
        split at e <;> omega
      exact this ▸ hk
  · intro h
    refine ⟨b + (p : Int).toNat, mem_join ts _ h, ?_⟩
    unfold lo1
    simp only [Int.toNat_natCast]
    split <;> omega
/-- when a record's agents meet the places taken -/
theorem meets_agents {b d : Nat} {ms ts : List Int} {k : Int} (hb : b = 65 ∨ b = 97) (hd : d = 65 ∨ d = 97) (hts : ∀ k ∈ ts, 0 ≤ k ∧ k < 12) :
    (agents d ms k).any (meets (Txt.lower (takenText b ts))) = ms.any fun j => ts.any (· == Int.fmod (j + k) 12) := by
  unfold agents
  rw [List.any_cons]
  have h0 : meets (Txt.lower (takenText b ts)) (Str.ofString "*") = false := by unfold meets; simp
  rw [h0, Bool.false_or, List.any_map]
  congr 1
  funext j
  have hf0 := fmod_lo (j + k) (n := 12) (by decide)
  have hf1 := fmod_hi (j + k) (n := 12) (by decide)
  have hp : (Int.fmod (j + k) 12).toNat < 12 := by omega
  have hpe : ((Int.fmod (j + k) 12).toNat : Int) = Int.fmod (j + k) 12 := by omega
  show meets _ (letter d (Int.fmod (j + k) 12).toNat) = _
  unfold meets
  rw [lower_letter hd hp]
  have hne : (letter d (Int.fmod (j + k) 12).toNat != Str.ofString "*") = true := by
    rw [star_eq, bne_iff_ne]
    intro e
    have e' : #[d + (Int.fmod (j + k) 12).toNat] = #[42] := congrArg Str.cps e
    simp at e'
    omega
  rw [hne, Bool.true_and]
  unfold Txt.contains
  rw [show letter 97 (Int.fmod (j + k) 12).toNat = (⟨#[97 + (Int.fmod (j + k) 12).toNat]⟩ : Str) from rfl, StrLaws.found_one, Bool.eq_iff_iff, decide_eq_true_eq, lower_taken hb hts _ hp, hpe, List.any_eq_true]
  constructor
  · intro h; exact ⟨_, h, by simp⟩
  · rintro ⟨x, hx, e⟩
    rw [beq_iff_eq] at e; exact e ▸ hx
theorem agents_short {d : Nat} {ms : List Int} {k : Int} : ∀ a ∈ agents d ms k, a.length ≤ 10 := by
  intro a ha
  unfold agents at ha
  rcases List.mem_cons.mp ha with h | h
  · rw [h]; decide
  · obtain ⟨j, _, rfl⟩ := List.mem_map.mp h
    simp [letter, Str.length]
end Mine
namespace Mine

theorem SetOf_to {prog : Program} {w : World} {K : Type} [DecidableEq K] {knd : KeyKind prog w K} {h : Heap} {a : Addr} {S S' : K → Bool} {n : Nat} (hS : h.SetOf knd a S n) (e : ∀ k, S k = S' k) : h.SetOf knd a S' n := by
  have : S = S' := funext e
  exact this ▸ hS

/-- the texts that a walk has shown so far -/
def shown (val : Nat → Str) (i : Nat) (q : Str) : Bool := ((List.range i).map val).any (· == q)
theorem shown_succ (val : Nat → Str) (i : Nat) (q : Str) : (shown val i q || decide (q = val i)) = shown val (i + 1) q := by
  unfold shown
  rw [List.range_succ, List.map_append, List.any_append]
  by_cases e : q = val i
  · subst e; simp
  · have hb : (val i == q) = false := by simpa [beq_iff_eq] using (fun h' : val i = q => e h'.symm)
    simp [e, hb]

section
variable {prog : Program} {w : World} {A : Around} {R : Result → Shared → Prop} {I : Addr} {fp wr : List Addr} {G : Array GenState → Array GenState → Prop} {n : Nat} {P : Nat → Value → Prop} {St : Nat → Shared → Prop}

theorem fill_set (W : WalksS prog w A.in1 I fp wr G n P St) (S : Addr) (hSf : S ∉ fp) (val : Nat → Str) (hval : ∀ i v, P i v → ∃ t, v = .str (val i) t) (hb : n + 1 < scanBound) :
    ∀ (k i : Nat) (s : Shared) (c : Nat), n - i = k → i ≤ n → St i s → c ≤ i → s.heap.SetOf (PySem.strKind prog w) S (shown val i) c →
      (∀ s' c', Moved (S :: wr) G s s' → c' ≤ n → s'.heap.SetOf (PySem.strKind prog w) S (shown val n) c' → R (.ok (.ret .none)) s') →
      codeAny (model prog w) A (.builtin "set.update.loop" ⟨[.ref S, .ref I], []⟩) R s := by
  have hSw : S ∉ wr := fun h => hSf (W.sub _ h)
  have hsub : ∀ b ∈ wr, b ∈ S :: wr := fun b hb => List.mem_cons_of_mem _ hb
  intro k
  induction k with
  | zero =>
    intro i s c hk hi hst hc hS hR
    obtain rfl : i = n := by omega
    refine codeAny_builtin PyProof.Rows.F.entry_set_update_loop ?_
    rw [Around.under_plainId PyProof.Rows.F.plain_set_update_loop _]
    show wpAny _ A.in1 (pyNext (.ref I) >>= _) _ _ s
    refine wpAny_bind (W.done s _ _ hst fun s' hm => ?_)
    obtain ⟨o, es, ep, t, ho, rest⟩ := hS
    exact wpAny_pure (hR s' c (hm.mono hsub) hc ⟨o, es, ep, t, hm.heap S _ hSw ho, rest⟩)
  | succ k ih =>
    intro i s c hk hi hst hc hS hR
    have hlt : i < n := by omega
    refine codeAny_builtin PyProof.Rows.F.entry_set_update_loop ?_
    rw [Around.under_plainId PyProof.Rows.F.plain_set_update_loop _]
    show wpAny _ A.in1 (pyNext (.ref I) >>= _) _ _ s
    refine wpAny_bind (W.item i s _ _ hlt hst fun v s' hP hst' hm => ?_)
    obtain ⟨t, rfl⟩ := hval i v hP
    have hS' : s'.heap.SetOf (PySem.strKind prog w) S (shown val i) c := by
      obtain ⟨o, es, ep, tb, ho, rest⟩ := hS
      exact ⟨o, es, ep, tb, hm.heap S _ hSw ho, rest⟩
    show wpAny _ A.in1 (holding [Value.str (val i) t] (setAdd S (.str (val i) t)) >>= _) _ _ s'
    refine wpAny_bind (wpAny_holding ?_)
    unfold setAdd
    refine wpAny_holding (wpAny_bind ((PySem.strKind prog w).pyHash (k := val i) (strKind_is _ _ _ _) ?_))
    refine wpAny_setAddHashed_of (knd := PySem.strKind prog w) (s := { s' with toks := s'.toks + 1 }) (strKind_is _ _ _ _) rfl hS' (by omega) fun h' hsb hS2 => ?_
    have hSi := SetOf_to hS2 (shown_succ val i)
    have hc' : (if shown val i (val i) then c else c + 1) ≤ i + 1 := by split <;> omega
    refine wpAny_pure ⟨plainId_quiet PyProof.Rows.F.plain_set_update_loop _, ih (i + 1) _ _ (by omega) hlt (W.frame _ s' _ _ hst' (Nat.le_succ _) fun b hb o e => ?_) hc' hSi fun s'' c'' hm'' hc'' hS'' => ?_⟩
    · rw [hsb.2 b (fun h : b = S => hSf (by rw [← h]; exact hb))]; exact e
    · refine hR s'' c'' (Moved.trans W.gtrans ((hm.mono hsub).then_heap (Nat.le_succ _) fun b o hb e => ?_) hm'') hc'' hS''
      rw [hsb.2 b (fun h : b = S => hb (by rw [h]; exact List.mem_cons_self))]; exact e
end

section
variable {prog : Program} {w : World} {A : Around} {E : Value → Shared → Prop} {s : Shared}
set_option maxRecDepth 100000 in
set_option maxHeartbeats 3200000 in
/-- set(l) of a list of texts -/
theorem set_strs {l : Addr} {items : Array Value} {ss : List Str} {Q : Value → Shared → Prop} (hh : A.handled = none) (hl : s.heap.IsList l items) (hi : StrsAre items.toList ss) (hb : items.size + 1 < scanBound)
    (h : ∀ (h' : Heap) (tk c : Nat), c ≤ items.size → h'.SetOf (PySem.strKind prog w) s.heap.objs.size (fun q => ss.any (· == q)) c → (∀ b o, b < s.heap.objs.size → s.heap.get? b = some o → h'.get? b = some o) → Q (.ref s.heap.objs.size) { s with heap := h', toks := tk }) :
    wpAny (model prog w) A (call (.type "set") [.ref l]) Q E s := by
  obtain ⟨c, tl, hmro⟩ := F.called_set.mro
  have hmade := F.called_set.made
  have hsub := F.called_set.sub
  refine wpAny_call (codeAny_of_tree ?_)
  show wpAny _ _ (callAny (.type "set") _) _ _ _
  refine wpAny_pure ⟨Code.quiet_builtin _ (by decide +kernel), codeAny_builtin F.entry_type_call ?_⟩
  rw [Around.under_plain (weight_type_call_type "set" [.ref l] []) rfl]
  have h1 := F.called_set.notType
  have h2 := F.called_set.canCreate
  have hct := F.typeCall_set_1 (.ref l)
  repeat (any_goals (first | assumption | wp_step))
  refine codeAny_mono (code_set_new_1 (.ref l) (E := E) (Q₁ := fun obj s₁ => ∃ led : Bool, obj = .ref s.heap.objs.size ∧ s₁ = { s with heap := s.heap.push { cls := .type "set", dict := none, data := .set #[] 0 (.fresh 0 0 led) } }) fun led => ⟨led, rfl, rfl⟩) fun r s₁ hr => ?_
  cases r with
  | error e => exact hr
  | ok fl =>
    cases fl with
    | ret obj =>
      obtain ⟨led, rfl, rfl⟩ := hr
      generalize hH : s.heap.push { cls := .type "set", dict := none, data := .set #[] 0 (.fresh 0 0 led) } = H
      have hS : H.get? s.heap.objs.size = some { cls := .type "set", dict := none, data := .set #[] 0 (.fresh 0 0 led) } := hH ▸ Heap.get?_push_size _ rfl
      have hsize : H.objs.size = s.heap.objs.size + 1 := by rw [← hH, Heap.size_push]
      have hT : Shared.TypeIs { s with heap := H } (.ref s.heap.objs.size) "set" := ⟨_, hS, rfl⟩
      have hl1 : H.IsList l items := hH ▸ hl.push _
      have hli := F.called_set.init.lookup
      have hbi := F.called_set.init.bind (.ref s.heap.objs.size)
      repeat (any_goals (first | assumption | wp_step))
      refine codeAny_mono (codeAny_call_builtin (R := wants (fun r s₂ => r = .none ∧ ∃ h' tk c, s₂ = { s with heap := h', toks := tk } ∧ c ≤ items.size ∧
          h'.SetOf (PySem.strKind prog w) s.heap.objs.size (fun q => ss.any (· == q)) c ∧ (∀ b o, b < s.heap.objs.size → s.heap.get? b = some o → h'.get? b = some o)) E) F.called_set.init.plain F.entry_set_init (check_set_init_1 hT ?_)) fun r₂ s₂ hr₂ => ?_
      · obtain ⟨ol, hol, hcl, nl, hdl⟩ := id hl1
        obtain ⟨ocls, odict, odata, oslots⟩ := ol
        simp only at hcl hdl
        subst hcl; subst hdl
        have hsls := F.sub_list_set
        have hslf := F.sub_list_frozenset
        have hne : (Value.type "list" == Value.type "dict") = false := by decide
        unfold Builtin.«set.__init__» noKeywords Builtin.Frozenset.updateFrom
        generalize hPI : pyIter = PI
        wp_walk
        subst hPI
        refine wpAny_pyIter_list hl1 ?_
        refine wpAny_bind (wpAny_runValue ?_)
        have hlS : l < H.objs.size := Heap.lt_size hol
        have hls' : l < s.heap.objs.size := by obtain ⟨o', ho', _⟩ := hl; exact Heap.lt_size ho'
        have hh3 : A.in1.in1.in1.handled = none := by simp [hh]
        have hSf : s.heap.objs.size ∉ [H.objs.size, l] := by
          rw [hsize]; simp only [List.mem_cons, List.not_mem_nil, or_false, not_or]
          exact ⟨Nat.ne_of_lt (Nat.lt_succ_self _), Nat.ne_of_gt hls'⟩
        have hlen := hi.length
        have hval : ∀ (i : Nat) (v : Value), items[i]? = some v → ∃ t, v = .str ((fun i => ss.getD i Str.empty) i) t := fun i v hv => by
          obtain ⟨y, t, rfl, hy⟩ := strs_item hi hv
          exact ⟨t, by show _ = Value.str (ss.getD i Str.empty) t; rw [List.getD_eq_getElem?_getD, hy]; rfl⟩
        refine fill_set ((Walks.list hh3 _ l (Nat.ne_of_lt hlS) items).toS) s.heap.objs.size hSf (fun i => ss.getD i Str.empty) hval hb (items.size - 0) 0 _ 0 (by omega) (Nat.zero_le _)
          ⟨⟨_, Heap.get?_push_size _ rfl, rfl, rfl⟩, hl1.push _⟩ (Nat.le_refl _) (SetOf_to ((setObjOf_fresh (knd := PySem.strKind prog w) led).setOf (Heap.get?_push_of_some _ hS) (by unfold scanBound; omega)) fun _ => rfl) ?_
        intro s' c' hm hc' hS'
        obtain ⟨h', g', d', tk', os'⟩ := s'
        have eg : g' = s.gens := hm.gens
        have ed : d' = s.drawn := hm.drawn
        have eo : os' = s.os := hm.os
        subst eg; subst ed; subst eo
        show wpAny _ _ _ _ _ _
        refine wpAny_pure ?_
        show wpAny _ _ (ret Value.none) _ _ _
        have hall : ∀ q, shown (fun i => ss.getD i Str.empty) items.size q = ss.any (· == q) := fun q => by
          unfold shown
          have e : (List.range items.size).map (fun i => ss.getD i Str.empty) = ss := by
            apply List.ext_getElem?
            intro j
            rw [List.getElem?_map]
            rcases Nat.lt_or_ge j ss.length with hj | hj
            · rw [List.getElem?_range (by rw [strs_size hi]; exact hj)]
              simp [List.getD_eq_getElem?_getD, List.getElem?_eq_getElem hj]
            · rw [List.getElem?_eq_none hj, List.getElem?_eq_none (by simp [strs_size hi, hj])]; rfl
          rw [e]
        refine wpAny_pure ⟨rfl, h', tk', c', rfl, hc', SetOf_to hS' hall, fun b o hb e => ?_⟩
        have e' : H.get? b = some o := hH ▸ Heap.get?_push_of_some _ e
        exact hm.heap b o (by rw [hsize]; simp only [List.mem_cons, List.not_mem_nil, or_false, not_or]; exact ⟨Nat.ne_of_lt hb, Nat.ne_of_lt (Nat.lt_succ_of_lt hb)⟩) (Heap.get?_push_of_some _ e')
      · cases r₂ with
        | error e => exact hr₂
        | ok fl₂ =>
          cases fl₂ with
          | ret r =>
            obtain ⟨rfl, h', tk, c, rfl, hc, hS', hk'⟩ := hr₂
            repeat (any_goals (first | assumption | wp_step))
            exact h _ _ _ hc hS' hk'
          | _ => exact hr₂.elim
    | _ => exact hr.elim
end
end Mine
set_option maxRecDepth 100000
namespace Mine
abbrev bmObj (sa : Addr) : Obj := ⟨.type "builtin_function_or_method", none, .fields #[.builtin "set.__contains__", .ref sa], #[]⟩
abbrev flObj (b it : Addr) : Obj := ⟨.type "filter", none, .fields #[.ref b, .ref it], #[]⟩

theorem sig_contains : Manifest.signature? "set.__contains__" = some ⟨.oneArg, "set.__contains__", "__contains__", .self, [⟨"object", .posOnly, true⟩]⟩ := by
  rw [signature?_of (id := "set.__contains__") (n := ['_', '_', 's', 'n', 'i', 'a', 't', 'n', 'o', 'c', '_', '_']) (o := ['t', 'e', 's']) (by kernel_rfl) PySem.F.owner_set]; kernel_rfl
theorem kind_contains : builtinKind "set.__contains__" = some .method := by kernel_rfl
theorem sub_set_module : isSubtype (.type "set") (.type "module") = pure false := by rw [isSubtype_type]; kernel_rfl
theorem check_set_contains (a x : Value) : Bind.checkArgs "set.__contains__" ⟨.oneArg, "set.__contains__", "__contains__", .self, [⟨"object", .posOnly, true⟩]⟩ ⟨[a, x], []⟩ = pure () := by kernel_rfl
theorem full_contains : s!"{Bind.lastOf "set"}.{Bind.lastOf "set.__contains__"}" = "set.__contains__" := by kernel_rfl

section
variable {prog : Program} {w : World} {A : Around} {E : Value → Shared → Prop} {s : Shared} {sa b : Addr}
theorem check_bound {M : Model} {S : Str → Bool} {n : Nat} {x : Value} {Q : Unit → Shared → Prop} (hS : s.heap.SetOf (PySem.strKind prog w) sa S n) (h : Q () s) : wpAny M A (checkBoundCall "set.__contains__" ⟨[.ref sa, x], []⟩) Q E s := by
  obtain ⟨o, es, ep, t, ho, hex, hd, _⟩ := id hS
  unfold checkBoundCall
  rw [sig_contains, kind_contains]
  dsimp only
  refine wpAny_bind (wpAny_isInstance hS.typeIs sub_set_module ?_)
  have hv : (Manifest.varargsMethods.contains "set.__contains__" || false) = false := by decide +kernel
  rw [hv]
  simp only [Bool.false_eq_true, if_false]
  refine wpAny_bind (wpAny_bind (wpAny_loadPart ho (wpAny_pure ?_)))
  rw [hd]
  dsimp only
  rw [if_neg Bool.false_ne_true]
  refine wpAny_bind (wpAny_typeOf hS.typeIs ?_)
  dsimp only
  exact wpAny_of_eq ((congrArg (fun f => Bind.checkArgs "set.__contains__" ⟨.oneArg, f, "__contains__", .self, [⟨"object", .posOnly, true⟩]⟩ ⟨[.ref sa, x], []⟩) full_contains).trans (check_set_contains _ _)) h

/-- the bound method asks the set -/
theorem call_bm {S : Str → Bool} {n : Nat} {y : Str} {t : Tok} {Q : Value → Shared → Prop} (hb : s.heap.get? b = some (bmObj sa)) (hS : s.heap.SetOf (PySem.strKind prog w) sa S n)
    (h : Q (.bool (S y)) { s with toks := s.toks + 1 }) : wpAny (model prog w) A (call (.ref b) [.str y t]) Q E s := by
  refine wpAny_call (codeAny_of_tree ?_)
  show wpAny _ _ (callAny (.ref b) ⟨[.str y t], []⟩) _ _ _
  obtain ⟨hp, g, d, tk, os⟩ := s
  dsimp only at hb hS h
  refine nd_load hb ?_
  dsimp only
  refine wpAny_bind (wpAny_pure ?_)
  dsimp only
  rw [if_pos (by decide)]
  rw [show ((#[.builtin "set.__contains__", .ref sa] : Array Value)[0]?, (#[.builtin "set.__contains__", .ref sa] : Array Value)[1]?) = (some (.builtin "set.__contains__"), some (.ref sa)) from rfl]
  dsimp only
  rw [if_pos (by decide)]
  refine wpAny_bind (check_bound hS ?_)
  refine wpAny_pure ⟨Code.quiet_builtin _ (by decide +kernel), codeAny_builtin entry_set_contains ?_⟩
  unfold Builtin.«frozenset.__contains__» Builtin.Frozenset.oneOther
  simp only [List.isEmpty_nil, bind_assoc]
  unfold Builtin.Frozenset.addrOf Builtin.Frozenset.withSetAsKey setContains
  refine wpAny_bind (wpAny_pure ?_)
  try dsimp only
  refine wpAny_bind (wpAny_pure ?_)
  try dsimp only
  refine wpAny_bind (wpAny_tryCatch ?_)
  refine wpAny_holding ?_
  refine wpAny_bind ((PySem.strKind prog w).pyHash (strKind_is _ _ _ _) ?_)
  refine wpAny_bind (wpAny_setFind_of (s := ⟨hp, g, d, tk + 1, os⟩) (strKind_is _ _ _ _) rfl hS fun r hr => ?_)
  refine wpAny_pure ?_
  show wpAny _ _ (ret (Value.bool r.isSome)) _ _ _
  rw [hr]
  exact wpAny_pure h

/-- the inner iterator's own step, still asked by callSpecial? -/
theorem inner_item {it l : Addr} {i : Nat} {items} {x : Value} {Q : Option Value → Shared → Prop} (hit : s.heap.IsListIter it l i) (hl : s.heap.IsList l items) (hx : items[i]? = some x)
    (hQ : ∀ h', h'.IsListIter it l (i + 1) → Heap.SameBut it s.heap h' → Q (some x) { s with heap := h' }) : wpAny (model prog w) A (callSpecial? (.ref it) "__next__") Q E s := by
  obtain ⟨o, ho, hc, hd⟩ := id hit
  obtain ⟨ol, hol, _, nl, hdl⟩ := hl
  refine wpAny_callSpecial?_slot (name := Str.ofString "__next__") hit.typeIs slot_listiter_next
    (wpAny_call_entry slot_listiter_next hit.typeIs entry_listiter_next ?_ (args_listiter_next _))
  show wpAny _ _ (field (.ref it) 0 >>= _) _ _ s
  refine wpAny_bind (wpAny_field ho hd (x := .ref l) rfl ?_)
  show wpAny _ _ (if (Value.ref l == Value.none) = true then _ else _) _ _ s
  rw [if_neg (show ¬ ((Value.ref l == Value.none) = true) from Bool.false_ne_true)]
  show wpAny _ _ (field (.ref it) 1 >>= _) _ _ s
  refine wpAny_bind (wpAny_field ho hd (x := .int i 0) rfl ?_)
  show wpAny _ _ (seqItems? (.ref l) >>= _) _ _ s
  refine wpAny_bind (wpAny_seqItems hol hdl ?_)
  simp only [Int.toNat_natCast, hx]
  refine wpAny_bind (wpAny_setField ho hd (by simp) (wpAny_pure ⟨x, rfl, hQ _ ?_ (Heap.SameBut.update ..)⟩))
  exact ⟨_, Heap.get?_update_self _ ho (Obj.isFreed_of_fields (Obj.data_mapFields hd _)), (Obj.cls_mapFields ..).trans hc, by
    rw [Obj.data_mapFields hd]; simp [rawInt]⟩
theorem inner_end {it l : Addr} {i : Nat} {items} {Q : Option Value → Shared → Prop} (hh : A.handled = none)
    (hit : s.heap.IsListIter it l i) (hl : s.heap.IsList l items) (hx : items[i]? = none)
    (hE : ∀ h' e, Heap.ExtBut it s.heap h' → (∃ o, h'.get? e = some o ∧ o.cls = .type "StopIteration") → E (.ref e) { s with heap := h' }) :
    wpAny (model prog w) A (callSpecial? (.ref it) "__next__") Q E s := by
  obtain ⟨o, ho, hc, hd⟩ := id hit
  obtain ⟨ol, hol, _, nl, hdl⟩ := hl
  refine wpAny_callSpecial?_slot (name := Str.ofString "__next__") hit.typeIs slot_listiter_next
    (wpAny_call_entry slot_listiter_next hit.typeIs entry_listiter_next ?_ (args_listiter_next _))
  show wpAny _ _ (field (.ref it) 0 >>= _) _ _ s
  refine wpAny_bind (wpAny_field ho hd (x := .ref l) rfl ?_)
  show wpAny _ _ (if (Value.ref l == Value.none) = true then _ else _) _ _ s
  rw [if_neg (show ¬ ((Value.ref l == Value.none) = true) from Bool.false_ne_true)]
  show wpAny _ _ (field (.ref it) 1 >>= _) _ _ s
  refine wpAny_bind (wpAny_field ho hd (x := .int i 0) rfl ?_)
  show wpAny _ _ (seqItems? (.ref l) >>= _) _ _ s
  refine wpAny_bind (wpAny_seqItems hol hdl ?_)
  simp only [Int.toNat_natCast, hx]
  refine wpAny_bind (wpAny_rule (wpAny_bind (wpAny_setField ho hd (by simp) ?_)))
  show wpAny _ _ (newExc (.type "StopIteration") [] >>= _) _ _ _
  refine wpAny_bind ?_
  simp only [newExc, newTuple]
  refine wpAny_bind (wpAny_newObj_type ?_ (by size_fits))
  refine wpAny_bind (m := firstArgMember _ _) (wpAny_of_eq (a := Value.none) (by first | rfl | (simp only [firstArgMember]; rfl)) ?_)
  refine wpAny_newObj_type ?_ (by size_fits)
  simp only [raiseNew]
  refine wpAny_bind (wpAny_handled ?_)
  first | rw [show A.in1.handled = none from hh] | rw [hh]
  refine wpAny_bind (wpAny_pure (wpAny_throw ?_))
  exact hE _ _ (((Heap.SameBut.update ..).extBut.push _).push _) ⟨_, Heap.get?_push_size _ rfl, rfl⟩

theorem slot_filter_next : Slot "filter" "__next__" "filter.__next__" :=
  .of (owner := "filter") (n := "__next__") (by rw [typeLookup_type, builtinLookup_eq_fast]; kernel_rfl) (by decide +kernel) (by decide +kernel) (by decide +kernel)
    (by first | exact .inl (by decide +kernel) | exact .inr (by decide +kernel)) (by rw [isSubtype_type]; kernel_rfl)
theorem entry_filter_next : entryFor table "filter.__next__" = some Builtin.«filter.__next__» := entryFor_of_tree (by kernel_rfl)
theorem args_filter_next (a : Value) : argsOk "filter.__next__" ⟨[a], []⟩ := by
  unfold argsOk; rw [signature?_of (id := "filter.__next__") (n := ['_', '_', 't', 'x', 'e', 'n', '_', '_']) (o := ['r', 'e', 't', 'l', 'i', 'f']) (by kernel_rfl) (by kernel_rfl : Manifest.owners.lookup (String.ofList ['r', 'e', 't', 'l', 'i', 'f'].reverse) = some Manifest.sig_filter)]; kernel_rfl
theorem plain_filter_next : plainId "filter.__next__" = true := by decide +kernel

theorem set_at {K : Type} [DecidableEq K] {knd : KeyKind prog w K} {h h' : Heap} {S : K → Bool} {n : Nat} (hS : h.SetOf knd sa S n) (e : ∀ o, h.get? sa = some o → h'.get? sa = some o) : h'.SetOf knd sa S n := by
  obtain ⟨o, es, ep, t, ho, r⟩ := hS
  exact ⟨o, es, ep, t, e o ho, r⟩

/-- the walk to the next kept item -/
theorem filt_go {A : Around} {R : Result → Shared → Prop} {S : Str → Bool} {c : Nat} {fl it l : Addr} {items : Array Value} {ss : List Str} (hh : A.handled = none)
    (h1 : b ≠ it) (h2 : sa ≠ it) (h3 : l ≠ it) (h4 : fl ≠ it) (hi : StrsAre items.toList ss) :
    ∀ (k p : Nat) (s : Shared), items.size - p = k → s.heap.get? fl = some (flObj b it) → s.heap.get? b = some (bmObj sa) → s.heap.SetOf (PySem.strKind prog w) sa S c → s.heap.IsList l items → s.heap.IsListIter it l p →
      (∀ q (h' : Heap) tk x t, s.toks ≤ tk → p ≤ q → (∀ j y, p ≤ j → j < q → ss[j]? = some y → S y = false) → ss[q]? = some x → S x = true → h'.IsListIter it l (q + 1) → (∀ z o, z ≠ it → s.heap.get? z = some o → h'.get? z = some o) →
        R (.ok (.ret (.str x t))) { s with heap := h', toks := tk }) →
      (∀ (h' : Heap) tk e, s.toks ≤ tk → (∀ j y, p ≤ j → ss[j]? = some y → S y = false) → (∀ z o, z ≠ it → s.heap.get? z = some o → h'.get? z = some o) → (∃ o, h'.get? e = some o ∧ o.cls = .type "StopIteration") →
        R (.error (.ref e)) { s with heap := h', toks := tk }) →
      wpAny (model prog w) A.in1 (Builtin.«filter.__next__» ⟨[.ref fl], []⟩)
        (fun fin s' => match fin with | .done f => R (.ok f) s' | .again c' => c'.quiet = true ∧ codeAny (model prog w) A c' R s') (fun e s' => R (.error e) s') s := by
  intro k
  induction k with
  | zero =>
    intro p s hk hfl hb hS hl hit _ hE
    show wpAny _ _ (field (.ref fl) 0 >>= _) _ _ s
    refine wpAny_bind (wpAny_field hfl rfl (x := .ref b) rfl ?_)
    show wpAny _ _ (field (.ref fl) 1 >>= _) _ _ s
    refine wpAny_bind (wpAny_field hfl rfl (x := .ref it) rfl ?_)
    have hend : items[p]? = none := by rw [Array.getElem?_eq_none]; omega
    refine wpAny_bind (inner_end (by simp [hh]) hit hl hend fun h' e hs he => ?_)
    refine hE h' s.toks e (Nat.le_refl _) (fun j y hj hy => ?_) (fun z o hz e => hs z o hz e) he
    have := strs_size hi
    have hlt := (List.getElem?_eq_some_iff.mp hy).1
    omega
  | succ k ih =>
    intro p s hk hfl hb hS hl hit hQ hE
    have hp : p < items.size := by omega
    have hp' : p < ss.length := by have := strs_size hi; omega
    obtain ⟨t, hx⟩ : ∃ t, items[p]? = some (.str ss[p] t) := by
      obtain ⟨t, ht⟩ := hi.get p _ (List.getElem?_eq_getElem hp')
      exact ⟨t, by rw [← Array.getElem?_toList]; exact ht⟩
    show wpAny _ _ (field (.ref fl) 0 >>= _) _ _ s
    refine wpAny_bind (wpAny_field hfl rfl (x := .ref b) rfl ?_)
    show wpAny _ _ (field (.ref fl) 1 >>= _) _ _ s
    refine wpAny_bind (wpAny_field hfl rfl (x := .ref it) rfl ?_)
    refine wpAny_bind (inner_item hit hl hx fun h' hit' hs => ?_)
    show wpAny _ _ (holding [.str ss[p] t] _ >>= _) _ _ _
    refine wpAny_bind (wpAny_holding ?_)
    show wpAny _ _ (if (Value.ref b == Value.none || Value.ref b == Value.type "bool") = true then _ else _) _ _ _
    rw [if_neg (show ¬ ((Value.ref b == Value.none || Value.ref b == Value.type "bool") = true) from Bool.false_ne_true)]
    have hb' := hs.extBut _ _ h1 hb
    have hfl' := hs.extBut _ _ h4 hfl
    have hS' := set_at hS fun o e => hs.extBut _ _ h2 e
    have hl' := hl.extBut hs.extBut h3
    refine wpAny_bind (call_bm (s := { s with heap := h' }) hb' hS' ?_)
    refine wpAny_holding (wpAny_truthy_bool ?_)
    cases hSx : S ss[p]
    · refine wpAny_pure ⟨plainId_quiet plain_filter_next _, codeAny_builtin entry_filter_next ?_⟩
      rw [Around.under_plainId plain_filter_next _]
      refine ih (p + 1) _ (by omega) hfl' hb' hS' hl' hit' (fun q h'' tk x t htk hq hno hxq hx1 hit'' hk => ?_) fun h'' tk e htk hno hk he => ?_
      · refine hQ q h'' tk x t (Nat.le_of_succ_le htk) (by omega) (fun j y hj hjq hy => ?_) hxq hx1 hit'' fun z o hz e => hk z o hz (hs.extBut z o hz e)
        by_cases hjp : j = p
        · subst hjp; rw [List.getElem?_eq_getElem hp'] at hy; cases hy; exact hSx
        · exact hno j y (by omega) hjq hy
      · refine hE h'' tk e (Nat.le_of_succ_le htk) (fun j y hj hy => ?_) (fun z o hz e => hk z o hz (hs.extBut z o hz e)) he
        by_cases hjp : j = p
        · subst hjp; rw [List.getElem?_eq_getElem hp'] at hy; cases hy; exact hSx
        · exact hno j y (by omega) hy
    · exact wpAny_pure (hQ p h' _ ss[p] t (Nat.le_succ _) (Nat.le_refl _) (fun j y h1 h2 _ => absurd h2 (by omega)) (List.getElem?_eq_getElem hp') hSx hit' fun z o hz e => hs.extBut z o hz e)

/-- what is left of a list of texts when the first p have been looked at -/
theorem drop_skip {S : Str → Bool} {ss : List Str} : ∀ {k p q : Nat}, q - p = k → p ≤ q → (∀ j y, p ≤ j → j < q → ss[j]? = some y → S y = false) → (ss.drop p).filter S = (ss.drop q).filter S := by
  intro k
  induction k with
  | zero => intro p q hk hpq _; obtain rfl : p = q := (by omega); rfl
  | succ k ih =>
    intro p q hk hpq hno
    rw [← ih (p := p + 1) (q := q) (by omega) (by omega) (fun j y h1 h2 => hno j y (by omega) h2)]
    rcases Nat.lt_or_ge p ss.length with hp | hp
    · rw [List.drop_eq_getElem_cons hp, List.filter_cons_of_neg (by simp [hno p _ (Nat.le_refl _) (by omega) (List.getElem?_eq_getElem hp)])]
    · rw [List.drop_eq_nil_of_le hp, List.drop_eq_nil_of_le (by omega)]

def FiltSt (prog : Program) (w : World) (S : Str → Bool) (c : Nat) (fl b sa l it : Addr) (items : Array Value) (ss : List Str) (i : Nat) (s : Shared) : Prop :=
  s.heap.get? fl = some (flObj b it) ∧ s.heap.get? b = some (bmObj sa) ∧ s.heap.SetOf (PySem.strKind prog w) sa S c ∧ s.heap.IsList l items ∧ ∃ p, s.heap.IsListIter it l p ∧ (ss.drop p).filter S = (ss.filter S).drop i

theorem slot_filter_iter : Slot "filter" "__iter__" "filter.__iter__" :=
  .of (owner := "filter") (n := "__iter__") (by rw [typeLookup_type, builtinLookup_eq_fast]; kernel_rfl) (by decide +kernel) (by decide +kernel) (by decide +kernel)
    (by first | exact .inl (by decide +kernel) | exact .inr (by decide +kernel)) (by rw [isSubtype_type]; kernel_rfl)
theorem entry_filter_iter : entryFor table "filter.__iter__" = some Builtin.«dict_keyiterator.__iter__» :=
  entryFor_alias (id' := "dict_keyiterator.__iter__") (by kernel_rfl) (by first | rfl | decide +kernel | (unfold String.splitOn; simp +decide [String.splitOnAux])) (by decide +kernel) (by kernel_rfl)
theorem args_filter_iter (a : Value) : argsOk "filter.__iter__" ⟨[a], []⟩ := by
  unfold argsOk; rw [signature?_of (id := "filter.__iter__") (n := ['_', '_', 'r', 'e', 't', 'i', '_', '_']) (o := ['r', 'e', 't', 'l', 'i', 'f']) (by kernel_rfl) (by kernel_rfl : Manifest.owners.lookup (String.ofList ['r', 'e', 't', 'l', 'i', 'f'].reverse) = some Manifest.sig_filter)]; kernel_rfl

theorem filt_call {A : Around} {E : Value → Shared → Prop} {s : Shared} {Q : Value → Shared → Prop} {S : Str → Bool} {c p : Nat} {fl it l : Addr} {items : Array Value} {ss : List Str} (hh : A.handled = none)
    (h1 : b ≠ it) (h2 : sa ≠ it) (h3 : l ≠ it) (h4 : fl ≠ it) (hi : StrsAre items.toList ss)
    (hfl : s.heap.get? fl = some (flObj b it)) (hb : s.heap.get? b = some (bmObj sa)) (hS : s.heap.SetOf (PySem.strKind prog w) sa S c) (hl : s.heap.IsList l items) (hit : s.heap.IsListIter it l p)
    (hQ : ∀ q (h' : Heap) tk x t, s.toks ≤ tk → p ≤ q → (∀ j y, p ≤ j → j < q → ss[j]? = some y → S y = false) → ss[q]? = some x → S x = true → h'.IsListIter it l (q + 1) → (∀ z o, z ≠ it → s.heap.get? z = some o → h'.get? z = some o) →
        Q (.str x t) { s with heap := h', toks := tk })
    (hE : ∀ (h' : Heap) tk e, s.toks ≤ tk → (∀ j y, p ≤ j → ss[j]? = some y → S y = false) → (∀ z o, z ≠ it → s.heap.get? z = some o → h'.get? z = some o) → (∃ o, h'.get? e = some o ∧ o.cls = .type "StopIteration") →
        E (.ref e) { s with heap := h', toks := tk }) : wpAny (model prog w) A (call (.builtin "filter.__next__") [.ref fl]) Q E s := by
  have hT : s.TypeIs (.ref fl) "filter" := ⟨_, hfl, rfl⟩
  refine wpAny_call (codeAny_call_builtin slot_filter_next.plain entry_filter_next (slot_filter_next.check _ _ _ _ _ _ _ _ hT (args_filter_next _) ?_))
  exact filt_go (R := fun r s' => match r with | .ok (.ret v) => Q v s' | .ok _ => False | .error e => E e s') hh h1 h2 h3 h4 hi _ p s rfl hfl hb hS hl hit hQ hE

theorem filt_walks {A : Around} {S : Str → Bool} {c : Nat} {fl it l : Addr} {items : Array Value} {ss : List Str} (hh : A.handled = none)
    (h1 : b ≠ it) (h2 : sa ≠ it) (h3 : l ≠ it) (h4 : fl ≠ it) (hi : StrsAre items.toList ss) :
    WalksS prog w A fl [fl, b, sa, l, it] [it] (fun a b => b = a) (ss.filter S).length (fun i v => ∃ t x, v = .str x t ∧ (ss.filter S)[i]? = some x) (FiltSt prog w S c fl b sa l it items ss) where
  sub := fun b hb => by simp at hb; simp [hb]
  grefl := fun _ => rfl
  gtrans := fun _ _ _ x y => y.trans x
  frame := fun i s h' tk st _ hk => ⟨hk _ (by simp) _ st.1, hk _ (by simp) _ st.2.1, set_at st.2.2.1 (fun o e => hk _ (by simp) o e), st.2.2.2.1.at fun o e => hk _ (by simp) o e,
    let ⟨p, hp, r⟩ := st.2.2.2.2; ⟨p, hp.at fun o e => hk _ (by simp) o e, r⟩⟩
  item := fun i s Q E hin st hQ => by
    obtain ⟨hfl, hb, hS, hl, p, hit, hrest⟩ := st
    have hT : s.TypeIs (.ref fl) "filter" := ⟨_, hfl, rfl⟩
    unfold pyNext
    refine wpAny_bind (wpAny_attempt (wpAny_callSpecial?_slot (name := Str.ofString "__next__") hT slot_filter_next
      (filt_call hh h1 h2 h3 h4 hi hfl hb hS hl hit (fun q h' tk x t htk hpq hno hxq hx1 hit' hk => ?_) fun h' tk e htk hno hk he => ?_)))
    · have hq : q < ss.length := (List.getElem?_eq_some_iff.mp hxq).1
      have e1 := drop_skip (k := q - p) rfl hpq hno
      have e2 : (ss.drop q).filter S = x :: (ss.drop (q + 1)).filter S := by
        rw [List.drop_eq_getElem_cons hq]
        have : ss[q] = x := by rw [List.getElem?_eq_getElem hq] at hxq; exact Option.some.inj hxq
        rw [this, List.filter_cons_of_pos hx1]
      have e3 : (ss.filter S).drop i = x :: (ss.drop (q + 1)).filter S := by rw [← hrest, e1, e2]
      have e4 : (ss.filter S)[i]? = some x := by
        have := List.getElem?_drop (xs := ss.filter S) (i := i) (j := 0)
        rw [e3] at this
        simpa using this.symm
      have e5 : (ss.drop (q + 1)).filter S = (ss.filter S).drop (i + 1) := by
        have : (ss.filter S).drop (i + 1) = ((ss.filter S).drop i).drop 1 := by rw [List.drop_drop]
        rw [this, e3]; rfl
      exact wpAny_pure <| hQ (.str x t) { s with heap := h', toks := tk } ⟨t, x, rfl, e4⟩
        ⟨hk _ _ h4 hfl, hk _ _ h1 hb, set_at hS (fun o e => hk _ _ h2 e), hl.at fun o e => hk _ _ h3 e, q + 1, hit', e5⟩
        ⟨fun b o hb e => hk b o (fun h => hb (by simp [h])) e, rfl, rfl, rfl, htk⟩
    · exfalso
      have e1 := drop_skip (k := ss.length - p) (p := p) (q := max p ss.length) (S := S) (ss := ss) (by omega) (by omega) fun j y h1 _ => hno j y h1
      rw [List.drop_eq_nil_of_le (show ss.length ≤ max p ss.length by omega), hrest] at e1
      have := congrArg List.length e1
      simp at this
      omega
  done := fun s Q E st hQ => by
    obtain ⟨hfl, hb, hS, hl, p, hit, hrest⟩ := st
    have hT : s.TypeIs (.ref fl) "filter" := ⟨_, hfl, rfl⟩
    unfold pyNext
    refine wpAny_bind (wpAny_attempt (wpAny_callSpecial?_slot (name := Str.ofString "__next__") hT slot_filter_next
      (filt_call hh h1 h2 h3 h4 hi hfl hb hS hl hit (fun q h' tk x t htk hpq hno hxq hx1 hit' hk => ?_) fun h' tk e htk hno hk he => ?_)))
    · exfalso
      have hq : q < ss.length := (List.getElem?_eq_some_iff.mp hxq).1
      have e1 := drop_skip (k := q - p) rfl hpq hno
      have e2 : (ss.drop q).filter S = x :: (ss.drop (q + 1)).filter S := by
        rw [List.drop_eq_getElem_cons hq]
        have : ss[q] = x := by rw [List.getElem?_eq_getElem hq] at hxq; exact Option.some.inj hxq
        rw [this, List.filter_cons_of_pos hx1]
      rw [e2, hrest, List.drop_eq_nil_of_le (Nat.le_refl _)] at e1
      cases e1
    · obtain ⟨o, ho, hc⟩ := he
      refine wpAny_bind (wpAny_isInstance (T := "StopIteration") (b := true) ⟨o, ho, hc⟩ isSubtype_stop ?_)
      exact wpAny_pure (hQ _ ⟨fun b o hb e => hk b o (fun h => hb (by simp [h])) e, rfl, rfl, rfl, htk⟩)
  self := fun i s Q E st hQ => by
    have hT : s.TypeIs (.ref fl) "filter" := ⟨_, st.1, rfl⟩
    refine wpAny_pyIter_slot hT slot_filter_iter (wpAny_call_entry slot_filter_iter hT entry_filter_iter ?_ (args_filter_iter _))
    show wpAny _ _ (ret (.ref fl)) _ _ s
    exact wpAny_pure ⟨_, rfl, "filter", _, hT, slot_filter_next.lookup, hQ⟩

theorem filter_no_len : typeLookup (.type "filter") "__len__" = pure none := by rw [typeLookup_type, builtinLookup_eq_fast]; kernel_rfl
theorem filter_no_hint : typeLookup (.type "filter") "__length_hint__" = pure none := by rw [typeLookup_type, builtinLookup_eq_fast]; kernel_rfl

section
variable {A : Around} {R : Result → Shared → Prop} {I : Addr} {fp wr : List Addr} {G : Array GenState → Array GenState → Prop} {n : Nat} {P : Nat → Value → Prop} {St : Nat → Shared → Prop}
theorem filt_extend (W : WalksS prog w A.in1 I fp wr G n P St) (hT : ∀ i s, St i s → s.TypeIs (.ref I) "filter") (S : Addr) (res : Value) (c₀ : Nat) (hst : St 0 s) (hSf : S ∉ fp) (hI : I ∈ fp)
    (hS : s.heap.get? S = some { cls := .type "list", data := .seq #[] c₀ })
    (hR : ∀ s' acc' c', Moved (S :: wr) G s s' → s'.heap.get? S = some { cls := .type "list", dict := none, data := .seq acc' c', slots := #[] } → ItemsOf P acc' n → R (.ok (.ret res)) s') (hn : n ≤ sizeLine) :
    wpAny (model prog w) A.in1 (Builtin.List.listExtendWith (.ref S) (.ref I) res)
      (fun fin s' => match fin with | .done f => R (.ok f) s' | .again c' => c'.quiet = true ∧ codeAny (model prog w) A c' R s') (fun e s' => R (.error e) s') s := by
  have hSI : S ≠ I := fun e => hSf (e ▸ hI)
  unfold Builtin.List.listExtendWith
  refine wpAny_bind (wpAny_typeOf (hT 0 _ hst) ?_)
  have h1 : Builtin.List.listSameRef (.ref S) (.ref I) = false := by simp [Builtin.List.listSameRef, hSI]
  have h2 : (Value.type "filter" == Value.type "list") = false := by decide
  have h3 : (Value.type "filter" == Value.type "tuple") = false := by decide
  simp only [h1, h2, h3, Bool.or_false, Bool.false_eq_true, if_false]
  refine wpAny_bind (W.self 0 _ _ _ hst ?_)
  refine wpAny_bind (wpAny_holding ?_)
  unfold Builtin.List.listLengthHint
  refine wpAny_bind (wpAny_specialOf (hT 0 _ hst) filter_no_len ?_)
  show wpAny _ A.in1 (specialOf (Value.ref I) (Str.ofString "__length_hint__") >>= _) _ _ _
  refine wpAny_bind (wpAny_specialOf (hT 0 _ hst) filter_no_hint ?_)
  refine wpAny_pure ?_
  show wpAny _ A.in1 (rule "list.extend.makes-room" >>= fun _ => Builtin.List.listTouch (.ref S) >>= fun _ =>
    again (.builtin "list.extend.loop" ⟨[.ref S, .ref I, res], []⟩)) _ _ _
  refine wpAny_bind (wpAny_rule ?_)
  refine wpAny_bind ?_
  show wpAny _ A.in1 (updateSeq S (·.push .none) >>= fun _ => updateSeq S (·.pop)) _ _ _
  refine wpAny_bind (wpAny_updateSeq hS rfl ?_)
  have hS₂ := Heap.get?_update_self (Obj.mapSeq (·.push Value.none)) hS rfl
  refine wpAny_updateSeq (hz := by seq_fits) hS₂ rfl ?_
  have hS₃ := Heap.get?_update_self (Obj.mapSeq (·.pop)) hS₂ rfl
  have oth : ∀ b o, b ≠ S → s.heap.get? b = some o → ((s.heap.update S (Obj.mapSeq (·.push Value.none))).update S (Obj.mapSeq (·.pop))).get? b = some o :=
    fun b o hb e => (Heap.get?_update_other _ _ (Ne.symm hb)).trans ((Heap.get?_update_other _ _ (Ne.symm hb)).trans e)
  refine wpAny_pure ⟨plainId_quiet PySem.F.plain_extend_loop _, codeAny_extend_loopS W hn _ hSf _ n 0 _ _ _ rfl (Nat.zero_le _)
    (W.frame 0 s _ s.toks hst (Nat.le_refl _) fun b hb o e => oth b o (fun h => hSf (h ▸ hb)) e) hS₃ (ItemsOf.nil P) fun s' acc' c' hm hS' hacc => ?_⟩
  exact hR s' acc' c' (Moved.trans W.gtrans ((Moved.refl W.grefl).then_heap (Nat.le_refl _) fun b o hb e => oth b o (fun h => hb (h ▸ List.mem_cons_self)) e) hm) hS' hacc

theorem filt_init (W : WalksS prog w A.in1 I fp wr G n P St) (hT : ∀ i s, St i s → s.TypeIs (.ref I) "filter") (S : Addr) (hst : St 0 s) (hSf : S ∉ fp) (hI : I ∈ fp)
    (hS : s.heap.get? S = some { cls := .type "list", data := .seq #[] })
    (hR : ∀ s' acc' c', Moved (S :: wr) G s s' → s'.heap.get? S = some { cls := .type "list", dict := none, data := .seq acc' c', slots := #[] } → ItemsOf P acc' n → R (.ok (.ret .none)) s') (hn : n ≤ sizeLine) :
    wpAny (model prog w) A.in1 (Builtin.«list.__init__» ⟨[.ref S, .ref I], []⟩)
      (fun fin s' => match fin with | .done f => R (.ok f) s' | .again c' => c'.quiet = true ∧ codeAny (model prog w) A c' R s') (fun e s' => R (.error e) s') s := by
  show wpAny _ A.in1 (do let old ← Builtin.List.listItems (.ref S); Builtin.List.listUpdate (.ref S) (fun _ => #[]); letGo old.toList.reverse; Builtin.List.listExtendWith (.ref S) (.ref I) .none) _ _ s
  refine wpAny_bind ?_
  unfold Builtin.List.listItems
  refine wpAny_bind (wpAny_seqItems hS rfl (wpAny_pure ?_))
  show wpAny _ A.in1 (updateSeq S (fun _ => #[]) >>= fun _ => letGo (#[] : Array Value).toList.reverse >>= fun _ => Builtin.List.listExtendWith (.ref S) (.ref I) .none) _ _ s
  refine wpAny_bind (wpAny_updateSeq hS rfl ?_)
  have hS₂ := Heap.get?_update_self (Obj.mapSeq (fun _ => (#[] : Array Value))) hS rfl
  have oth : ∀ b o, b ≠ S → s.heap.get? b = some o → (s.heap.update S (Obj.mapSeq (fun _ => (#[] : Array Value)))).get? b = some o :=
    fun b o hb e => (Heap.get?_update_other _ _ (Ne.symm hb)).trans e
  refine wpAny_bind (wpAny_letGo ?_)
  refine filt_extend (hn := hn) W hT S .none _ (W.frame 0 s _ s.toks hst (Nat.le_refl _) fun b hb o e => oth b o (fun h => hSf (h ▸ hb)) e) hSf hI hS₂ fun s' acc' c' hm hS' hacc => ?_
  exact hR s' acc' c' (Moved.trans W.gtrans ((Moved.refl W.grefl).then_heap (Nat.le_refl _) fun b o hb e => oth b o (fun h => hb (h ▸ List.mem_cons_self)) e) hm) hS' hacc
end

theorem strs_of : ∀ (vs : List Value) (ys : List Str), vs.length = ys.length → (∀ (j : Nat) (v : Value), vs[j]? = some v → ∃ t x, v = Value.str x t ∧ ys[j]? = some x) → StrsAre vs ys
  | [], [], _, _ => .nil
  | [], _ :: _, h, _ => by simp at h
  | _ :: _, [], h, _ => by simp at h
  | v :: vs, y :: ys, h, hj => by
    obtain ⟨t, x, rfl, hx⟩ := hj 0 v rfl
    obtain rfl : y = x := Option.some.inj hx
    exact .cons y t (strs_of vs ys (by simpa using h) fun j v hv => hj (j + 1) v hv)

/-- list(f) of a filter over a list of texts by a set's __contains__ -/
theorem list_filter {S : Str → Bool} {c : Nat} {fl it l : Addr} {items : Array Value} {ss : List Str} {Q : Value → Shared → Prop} (hh : A.handled = none)
    (h1 : b ≠ it) (h2 : sa ≠ it) (h3 : l ≠ it) (h4 : fl ≠ it) (hi : StrsAre items.toList ss) (hn : ss.length ≤ sizeLine)
    (hfl : s.heap.get? fl = some (flObj b it)) (hb : s.heap.get? b = some (bmObj sa)) (hS : s.heap.SetOf (PySem.strKind prog w) sa S c) (hl : s.heap.IsList l items) (hit : s.heap.IsListIter it l 0)
    (hQ : ∀ (h' : Heap) tk acc n, (∀ b o, b ≠ it → s.heap.get? b = some o → h'.get? b = some o) → h'.get? s.heap.objs.size = some (listOf acc n) → StrsAre acc.toList (ss.filter S) → Q (.ref s.heap.objs.size) { s with heap := h', toks := tk }) :
    wpAny (model prog w) A (call (.type "list") [.ref fl]) Q E s := by
  have W := filt_walks (prog := prog) (w := w) (A := A.in1.in1) (S := S) (c := c) (items := items) (ss := ss) (by simp [hh]) h1 h2 h3 h4 hi
  have hst : FiltSt prog w S c fl b sa l it items ss 0 s := ⟨hfl, hb, hS, hl, 0, hit, rfl⟩
  have hSf : s.heap.objs.size ∉ [fl, b, sa, l, it] := by
    obtain ⟨_, _, _, _, hsa, _⟩ := id hS
    obtain ⟨_, hl', _⟩ := id hl
    obtain ⟨_, hi', _⟩ := id hit
    simp only [List.mem_cons, List.not_mem_nil, or_false, not_or]
    exact ⟨Nat.ne_of_gt (Heap.lt_size hfl), Nat.ne_of_gt (Heap.lt_size hb), Nat.ne_of_gt (Heap.lt_size hsa), Nat.ne_of_gt (Heap.lt_size hl'), Nat.ne_of_gt (Heap.lt_size hi')⟩
  refine callType_codes (Q₁ := fun obj s₁ => obj = .ref s.heap.objs.size ∧ s₁ = { s with heap := s.heap.push { cls := .type "list", data := .seq #[] } }) PySem.F.called_list (PySem.F.typeCall_list_1 _) PySem.F.entry_list_init
    (code_list_new _ ⟨rfl, rfl⟩) fun obj s₁ h₁ => ?_
  obtain ⟨rfl, rfl⟩ := h₁
  have hS1 : (s.heap.push { cls := .type "list", data := .seq #[] }).get? s.heap.objs.size = some { cls := .type "list", data := .seq #[] } := Heap.get?_push_size _ rfl
  refine ⟨⟨_, hS1, rfl⟩, PySem.F.args_list_init_2 _ _, filt_init (A := A.in1) W (fun i s st => ⟨_, st.1, rfl⟩) _ (W.frame 0 s _ s.toks hst (Nat.le_refl _) fun b _ o e => Heap.get?_push_of_some _ e) hSf (by simp) hS1 (fun s' acc' c' hm hS' hacc => ?_) (Nat.le_trans (List.length_filter_le _ _) hn)⟩
  obtain ⟨h', g', d', tk', os'⟩ := s'
  have eg : g' = s.gens := hm.gens
  have ed : d' = s.drawn := hm.drawn
  have eo : os' = s.os := hm.os
  subst eg; subst ed; subst eo
  refine ⟨rfl, hQ h' tk' acc' c' (fun b o hb e => hm.heap b o (by simp only [List.mem_cons, List.not_mem_nil, or_false, not_or]; exact ⟨Nat.ne_of_lt (Heap.lt_size e), hb⟩) (Heap.get?_push_of_some _ e)) hS' ?_⟩
  exact strs_of _ _ (by simpa using hacc.1) fun j v hj => hacc.2 j v (by rw [← Array.getElem?_toList]; exact hj)
end
end Mine
namespace Mine
open PySem.W.X
theorem wp_loose {α : Type} {M : Model} {A : Around} {t : Sem α} {Q : α → Shared → Prop} {E : Value → Shared → Prop} {s : Shared} (h : wpAny M { handled := A.handled, depth := A.depth, units := A.units } t Q E s) : wpAny M A t Q E s :=
  fun Γ p hΓ => h Γ p ⟨hΓ.1, hΓ.2.1, (fun _ hl => nomatch hl), (fun _ hl => nomatch hl), hΓ.2.2.2.2⟩
theorem mem_all {h₀ h : Heap} {news : List (Addr × Obj)} (D : Mem h₀ h [] news) : ∀ b o, h₀.get? b = some o → h.get? b = some o := fun b o e => D.keep b o e (by simp [away])
theorem mem_ledger {g h₀ h : Heap} {L : Addr} {m : Str → Option Value} {old news : List (Addr × Obj)} (F : Fr g L h₀ m) (N : News g L h₀ old) (D : Mem h₀ h [] news) : Fr g L h m ∧ News g L h (news ++ old) := by
  refine ⟨F.kept (mem_all D), fun p hp => ?_⟩
  rcases List.mem_append.mp hp with hp | hp
  · obtain ⟨h1, h2⟩ := D.nw p hp
    obtain ⟨oL, _, _, hL, _⟩ := F.ns
    refine ⟨h1, fun e => ?_, ?_⟩
    · rw [e, hL] at h2; cases h2
    · cases hq : g.get? p.1 with
      | none => rfl
      | some o' => rw [F.keep _ _ hq] at h2; cases h2
  · exact ⟨mem_all D _ _ (N p hp).1, (N p hp).2⟩
theorem bm_name : toString "set" ++ toString "." ++ toString (Str.ofString "__contains__").toString = "set.__contains__" := by kernel_rfl
abbrev setO (es : Array (Int × Value)) (ep : Nat) (t : SetTable) : Obj := ⟨.type "set", none, .set es ep t, #[]⟩
abbrev liObj (l : Addr) : Obj := ⟨.type "list_iterator", none, .fields #[.ref l, .int 0 0], #[]⟩
section
variable {prog : Program} {w : World} {E : Value → Shared → Prop} {s : Shared} {h₀ : Heap} {L : Addr} {m : Str → Option Value} {news : List (Addr × Obj)} {d u : Nat}
theorem set_K {A : Around} {l : Addr} {items : Array Value} {n : Nat} {ss : List Str} {Q : Value → Shared → Prop} (F : Fr h₀ L s.heap m) (N : News h₀ L s.heap news) (hh : A.handled = none) (hl : (l, listOf items n) ∈ news) (hi : StrsAre items.toList ss) (hb : items.size + 1 < scanBound)
    (h : ∀ (h' : Heap) (tk c : Nat) (S : Addr) (es : Array (Int × Value)) (ep : Nat) (t : SetTable), (∀ g : Heap, g.get? S = some (setO es ep t) → g.SetOf (PySem.strKind prog w) S (fun q => ss.any (· == q)) c) → Fr h₀ L h' m → News h₀ L h' ((S, setO es ep t) :: news) → Q (.ref S) { s with heap := h', toks := tk }) :
    wpAny (model prog w) A (call (.type "set") [.ref l]) Q E s := by
  refine set_strs hh (isList_of hl N) hi hb fun h' tk c hc hS hk => ?_
  have hk' : ∀ b o, s.heap.get? b = some o → h'.get? b = some o := fun b o e => hk b o (Heap.lt_size e) e
  obtain ⟨⟨oc, od, oda, os⟩, es, ep, t, ho, ⟨e1, e2, e3⟩, e4, r⟩ := id hS
  simp only at e1 e2 e3 e4
  subst e1; subst e2; subst e3; subst e4
  exact h h' tk c _ es ep t (fun g hg => ⟨_, es, ep, t, hg, ⟨rfl, rfl, rfl⟩, rfl, r⟩) (F.kept hk') (News.kept_cons F N hk' (Nat.le_refl _) ho)
theorem bm_end {h : Heap} {a S : Addr} {tk : Nat} {Q : Value → Shared → Prop} {x : String} (F : Fr h₀ L s.heap m) (N : News h₀ L s.heap news) (hx : x = "set.__contains__")
    (D : Mem s.heap h [] [(a, ⟨.type "builtin_function_or_method", none, .fields #[.builtin x, .ref S], #[]⟩)])
    (hQ : ∀ (h' : Heap) (tk : Nat) (b : Addr), Fr h₀ L h' m → News h₀ L h' ((b, bmObj S) :: news) → Q (.ref b) { s with heap := h', toks := tk }) :
    Q (.ref a) ⟨h, s.gens, s.drawn, tk, s.os⟩ := by
  subst hx
  obtain ⟨F', N'⟩ := mem_ledger F N D
  exact hQ h tk a F' N'
theorem filter_end {h : Heap} {a b it l : Addr} {tk : Nat} {Q : Value → Shared → Prop} (F : Fr h₀ L s.heap m) (N : News h₀ L s.heap news)
    (D : Mem s.heap h [] [(a, flObj b it), (it, liObj l)])
    (hQ : ∀ (h' : Heap) (tk : Nat) (it fl : Addr), fl ≠ it → (∀ p ∈ news, p.1 ≠ it) → Fr h₀ L h' m → News h₀ L h' ((fl, flObj b it) :: (it, liObj l) :: news) → Q (.ref fl) { s with heap := h', toks := tk }) :
    Q (.ref a) ⟨h, s.gens, s.drawn, tk, s.os⟩ := by
  obtain ⟨F', N'⟩ := mem_ledger F N D
  refine hQ h tk it a ?_ (fun p hp e => ?_) F' N'
  · have := D.ord
    simp at this
    exact Nat.ne_of_gt this
  · have h1 := (N p hp).1
    have h2 := (D.nw (it, liObj l) (by simp)).2
    rw [e] at h1; rw [h1] at h2; cases h2
local macro_rules | `(tactic| x_close) => `(tactic| first
  | exact bm_end (by assumption) (by assumption) bm_name (by assumption) (by assumption)
  | exact filter_end (by assumption) (by assumption) (by assumption) (by assumption))
set_option maxRecDepth 100000 in
set_option maxHeartbeats 8000000 in
theorem bm_K {S : Addr} {es : Array (Int × Value)} {ep : Nat} {t : SetTable} {tk : Tok} {Q : Value → Shared → Prop} (F : Fr h₀ L s.heap m) (N : News h₀ L s.heap news) (hS : (S, setO es ep t) ∈ news)
    (hd : d + 4 < recursionLimit) (hu : u + 40 < cLine)
    (h : ∀ (h' : Heap) (tk : Nat) (b : Addr), Fr h₀ L h' m → News h₀ L h' ((b, bmObj S) :: news) → Q (.ref b) { s with heap := h', toks := tk }) :
    wpAny (model prog w) { handled := none, depth := d, units := u } (call (.builtin "set.__getattribute__") [.ref S, .str (Str.ofString "__contains__") tk]) Q E s := by
  have ho : s.heap.get? S = some ⟨.type "set", none, .set es ep t, #[]⟩ := N.get hS
  x_run
theorem contains_K {A : Around} {S : Addr} {es : Array (Int × Value)} {ep : Nat} {t : SetTable} {Q : Value → Shared → Prop} (F : Fr h₀ L s.heap m) (N : News h₀ L s.heap news) (hS : (S, setO es ep t) ∈ news)
    (hh : A.handled = none) (hd : A.depth + 4 < recursionLimit) (hu : A.units + 40 < cLine)
    (h : ∀ (h' : Heap) (tk : Nat) (b : Addr), Fr h₀ L h' m → News h₀ L h' ((b, bmObj S) :: news) → Q (.ref b) { s with heap := h', toks := tk }) :
    wpAny (model prog w) A (getAttr (.ref S) "__contains__" true) Q E s := by
  obtain ⟨hp, g, d, tk, os⟩ := s
  have hT : (⟨hp, g, d, tk + 1, os⟩ : Shared).TypeIs (.ref S) "set" := ⟨_, N.get hS, rfl⟩
  have f2 := PySem.F.slot_set_getattribute.lookup
  have f3 := PySem.F.slot_set_getattribute.bind (.ref S)
  unfold getAttr
  generalize hga : getAttrBy = GA
  refine wpAny_bind (wpAny_mkText ?_)
  subst hga
  have main : ∀ (Q' E' : Value → Shared → Prop), (∀ (h' : Heap) (tk : Nat) (b : Addr), Fr h₀ L h' m → News h₀ L h' ((b, bmObj S) :: news) → Q' (.ref b) ⟨h', g, d, tk, os⟩) →
      wpAny (model prog w) A (call (.builtin "set.__getattribute__") [.ref S, .str (Str.ofString "__contains__") tk]) Q' E' ⟨hp, g, d, tk + 1, os⟩ := by
    intro Q' E' hq
    refine wp_loose ?_
    rw [hh]
    exact bm_K (s := ⟨hp, g, d, tk + 1, os⟩) F N hS hd hu hq
  repeat (any_goals (first | assumption | refine main _ _ ?_ | wp_step))
  intro h' tk' b F' N'
  exact wpAny_pure (h h' tk' b F' N')
set_option maxRecDepth 100000 in
set_option maxHeartbeats 8000000 in
theorem filter_K {b l : Addr} {items : Array Value} {n : Nat} {Q : Value → Shared → Prop} (F : Fr h₀ L s.heap m) (N : News h₀ L s.heap news) (hl : (l, listOf items n) ∈ news)
    (hd : d + 4 < recursionLimit) (hu : u + 40 < cLine)
    (h : ∀ (h' : Heap) (tk : Nat) (it fl : Addr), fl ≠ it → (∀ p ∈ news, p.1 ≠ it) → Fr h₀ L h' m → News h₀ L h' ((fl, flObj b it) :: (it, liObj l) :: news) → Q (.ref fl) { s with heap := h', toks := tk }) :
    wpAny (model prog w) { handled := none, depth := d, units := u } (call (.type "filter") [.ref b, .ref l]) Q E s := by
  have ho : s.heap.get? l = some ⟨.type "list", none, .seq items n, #[]⟩ := N.get hl
  x_run
theorem list_K {news₀ : List (Addr × Obj)} {A : Around} {b l fl it S : Addr} {o : Obj} {c : Nat} {P : Str → Bool} {items : Array Value} {n : Nat} {ss : List Str} {Q : Value → Shared → Prop} (F : Fr h₀ L s.heap m) (N : News h₀ L s.heap ((fl, flObj b it) :: (it, liObj l) :: news)) (hh : A.handled = none)
    (h1 : fl ≠ it) (h2 : ∀ p ∈ news, p.1 ≠ it) (hb : (b, bmObj S) ∈ news) (hS : (S, o) ∈ news) (hSo : ∀ g : Heap, g.get? S = some o → g.SetOf (PySem.strKind prog w) S P c)
    (hl : (l, listOf items n) ∈ news) (hi : StrsAre items.toList ss) (hn : ss.length ≤ sizeLine) (hsub : ∀ p ∈ news₀, p ∈ news)
    (h : ∀ (h' : Heap) (tk : Nat) (r : Addr) acc k, StrsAre acc.toList (ss.filter P) → Fr h₀ L h' m → News h₀ L h' ((r, listOf acc k) :: news₀) → (∀ p ∈ news₀, p.1 < r) → Q (.ref r) { s with heap := h', toks := tk }) :
    wpAny (model prog w) A (call (.type "list") [.ref fl]) Q E s := by
  have hit := N.get (a := it) (o := liObj l) (by simp)
  have N0 : News h₀ L s.heap news := fun p hp => N p (by simp [hp])
  refine list_filter hh (h2 _ hb) (h2 _ hS) (h2 _ hl) h1 hi hn (N.get (by simp)) (N0.get hb) (hSo _ (N0.get hS)) (isList_of hl N0) ⟨_, hit, rfl, rfl⟩ fun h' tk acc k hk hr hacc => ?_
  have hitL : it ≠ L := (N (it, liObj l) (by simp)).2.1
  have hit0 : h₀.get? it = none := (N (it, liObj l) (by simp)).2.2
  have F' : Fr h₀ L h' m := by
    obtain ⟨oL, a1, a2, hL, a3⟩ := F.ns
    exact ⟨⟨oL, a1, a2, hk _ _ hitL.symm hL, a3⟩, fun b o e => hk _ _ (fun e' => by subst e'; rw [hit0] at e; cases e) (F.keep b o e), F.above⟩
  refine h h' tk _ acc k hacc F' (fun p hp => ?_) (fun p hp => Heap.lt_size (N0 p (hsub p hp)).1)
  rcases List.mem_cons.mp hp with rfl | hp
  · refine ⟨hr, ?_, ?_⟩
    · obtain ⟨oL, _, _, hL, _⟩ := F.ns
      exact Nat.ne_of_gt (Heap.lt_size hL)
    · cases hq : h₀.get? s.heap.objs.size with
      | none => rfl
      | some o' => exact absurd (Heap.lt_size (F.keep _ _ hq)) (Nat.lt_irrefl _)
  · have hp := hsub p hp
    exact ⟨hk _ _ (h2 p hp) (N0 p hp).1, (N0 p hp).2⟩
end
end Mine
namespace Mine
/-- the block's own cell at the ledger's head -/
def CellTail (c : Addr) (J : List (Addr × Obj) → Prop) (nw : List (Addr × Obj)) : Prop := ∃ oc v nw', nw = (c, oc) :: nw' ∧ oc.data = .cell v ∧ (∀ p ∈ nw', p.1 ≠ c) ∧ J nw'
section
variable {prog : Program} {w : World} {A : Around} {E : Value → Shared → Prop} {s : Shared} {h₀ : Heap} {L : Addr} {m : Str → Option Value} {env : Env}

theorem newFunctionEnv_block {scope : Scope} {globals : Addr} {cl : List (Str × Addr)} {qual : Str} {Q : Env → Shared → Prop} {x : Str}
    (h1 : ∀ a acc, cellsFrom a scope.names acc = (x, a) :: acc) (h2 : ∀ h, pushCells h scope.names = h.push { cls := .type "cell", data := .cell none })
    (hQ : Q (newEnv scope s.heap.objs.size globals ((x, s.heap.objs.size + 1) :: cl) qual none .none (some env) builtinsNs)
      { s with heap := (s.heap.push { cls := .type "dict", data := .dict #[] }).push { cls := .type "cell", data := .cell none } }) :
    wpAny (model prog w) A (newFunctionEnv scope globals cl [] qual none .none (some env)) Q E s := by
  simp only [newFunctionEnv, Option.isSome_some, if_true]
  refine wpAny_bind (wpAny_alloc ?_)
  refine wpAny_bind (wpAny_layCells _ (fun name kind cells => by cases hkc : kind == NameKind.cell <;> simp [hkc]) _ _ _ _ ?_)
  rw [h1, h2]
  simp only [List.forIn_nil]
  refine wpAny_bind (wpAny_pure (wpAny_pure ?_))
  have e : ({ s with heap := s.heap.push { cls := .type "dict", data := .dict #[] } } : Shared).heap.objs.size = s.heap.objs.size + 1 := Heap.size_push ..
  rw [e]
  exact hQ

theorem block_C {elt iter : PySem.Expr} {x : Str} {px : Pos} {ifs : List PySem.Expr} {scope : Scope} {cl : List (Str × Addr)} {pos : Pos} {s₂ : Shared} {I : Addr} {fp : List Addr} {n : Nat} {P : Nat → Value → Prop} {St : Nat → Heap → Prop} {S : List (Addr × Obj) → Prop} {news : List (Addr × Obj)}
    {RR : Value → Addr → Result → Shared → Prop} (J : Nat → List Value → List (Addr × Obj) → Prop)
    (W : Walks prog w A I fp [I] n P St) (hsz : n ≤ sizeLine) (hIo : ∀ i h, St i h → ∃ o, h.get? I = some o)
    (hSt : ∀ i h h' o nw, St i h → h.get? I = some o → h'.get? I = some o → (∀ b o, h₀.get? b = some o → h'.get? b = some o) → News h₀ L h' nw → S nw → St i h')
    (h1 : ∀ a acc, cellsFrom a scope.names acc = (x, a) :: acc) (h2 : ∀ h, pushCells h scope.names = h.push { cls := .type "cell", data := .cell none })
    (hkind : scope.kind = .function) (hx : ∀ C c, (compEnvC scope ((x, c) :: cl) C env).kindOf x = some .cell) (hst : St 0 s₂.heap) (hfp : ∀ b ∈ fp, b < s₂.heap.objs.size)
    (F : Fr h₀ L s₂.heap m) (N : News h₀ L s₂.heap news) (hIL : L ≠ I) (hI₀ : h₀.get? I = none) (off : ∀ p ∈ news, p.1 ≠ I) (hSc : ∀ c o q v nw, o.data = .cell v → S ((c, o) :: nw) → S ((c, q) :: nw)) (hS : ∀ q, S (q :: news)) (hJ0 : J 0 [] news)
    (turn : ∀ i ys nw, i < n → J i ys nw → ∀ v I oI C c oC oc D h tk (E' : Value → Shared → Prop), P i v → oc.data = .cell (some v) → S ((c, oc) :: nw) → Fr h₀ L h m → News h₀ L h ((I, oI) :: (C, oC) :: (D, LCg.lst ys) :: (c, oc) :: nw) → LCg.Off3 I C D ((c, oc) :: nw) → ((@Ne Nat I C) ∧ (@Ne Nat I D) ∧ (@Ne Nat C D)) → (∀ p ∈ nw, p.1 ≠ c) →
      wpAny (model prog w) A (forIn ifs true fun t r => if r = true then do let ok ← isTrue t (compEnvC scope ((x, c) :: cl) C env) (eval t (compEnvC scope ((x, c) :: cl) C env)); pure (ForInStep.yield ok) else pure (ForInStep.yield r))
        (fun ok s' => if ok = true then wpAny (model prog w) A (eval elt (compEnvC scope ((x, c) :: cl) C env)) (LCg.CompEnd h₀ L m { s₂ with heap := h, toks := tk } I oI C oC D (LCg.lst ys) S (fun y nw' => CellTail c (J (i + 1) (ys ++ [y])) nw')) E' s'
          else LCg.CompEnd h₀ L m { s₂ with heap := h, toks := tk } I oI C oC D (LCg.lst ys) S (fun _ nw' => CellTail c (J (i + 1) ys) nw') Value.none s') E' { s₂ with heap := h, toks := tk })
    (hRR : ∀ D C h tk m' ys news', Fr h₀ L h m → News h₀ L h ((D, LCg.lst ys) :: news') → LCg.Off1 D news' → h.Ns C m' → h₀.get? C = none → h₀.get? D = none → C ≠ L → D ≠ L → C ≠ D → (∀ p ∈ news', p.1 ≠ C) → J n ys news' → RR (.ref D) C (.ok .next) { s₂ with heap := h, toks := tk }) :
    wpAny (model prog w) A (newList []) (fun acc s₃ => wpAny (model prog w) A (newFunctionEnv scope env.globals cl [] env.qual none .none (some env)) (fun cenv s₄ =>
      codeAny (model prog w) A (.compStart (.ListComp elt [⟨.Name x px, iter, ifs, 0⟩] scope pos) 0 (.ref I) acc { cenv with scope := relabel scope env }) (RR acc cenv.locals) s₄) E s₃) E s₂ := by
  refine wpAny_newObj_type (newFunctionEnv_block h1 h2 ?_)
  dsimp only
  generalize hH2 : s₂.heap.push { cls := .type "list", dict := none, data := .seq ([] : List Value).toArray } = H2
  generalize hh₁ : (H2.push { cls := .type "dict", data := .dict #[] }).push { cls := .type "cell", data := .cell none } = h₁
  have hC : H2.objs.size = s₂.heap.objs.size + 1 := by rw [← hH2, Heap.size_push]
  have hc : (H2.push { cls := .type "dict", data := .dict #[] }).objs.size = H2.objs.size + 1 := by rw [Heap.size_push]
  have hDC : s₂.heap.objs.size ≠ H2.objs.size := by rw [hC]; exact Nat.ne_of_lt (Nat.lt_succ_self _)
  have hCc : H2.objs.size ≠ H2.objs.size + 1 := Nat.ne_of_lt (Nat.lt_succ_self _)
  have hDc : s₂.heap.objs.size ≠ H2.objs.size + 1 := by rw [hC]; exact Nat.ne_of_lt (Nat.lt_succ_of_lt (Nat.lt_succ_self _))
  have below : ∀ b, b < s₂.heap.objs.size → b ≠ H2.objs.size ∧ b ≠ s₂.heap.objs.size ∧ b ≠ H2.objs.size + 1 := fun b hb => ⟨by rw [hC]; exact Nat.ne_of_lt (Nat.lt_succ_of_lt hb), Nat.ne_of_lt hb, by rw [hC]; exact Nat.ne_of_lt (Nat.lt_succ_of_lt (Nat.lt_succ_of_lt hb))⟩
  have hDf : s₂.heap.objs.size ∉ fp := fun hm => Nat.lt_irrefl _ (hfp _ hm)
  have hCf : H2.objs.size ∉ fp := fun hm => by have := hfp _ hm; rw [hC] at this; exact Nat.lt_irrefl _ (Nat.lt_of_succ_lt this)
  have hcf : H2.objs.size + 1 ∉ fp := fun hm => by have := hfp _ hm; rw [hC] at this; exact Nat.lt_irrefl _ (Nat.lt_of_succ_lt (Nat.lt_of_succ_lt this))
  have hIf : I ∈ fp := W.sub I (List.mem_singleton.mpr rfl)
  have hIlt : I < s₂.heap.objs.size := hfp I hIf
  have old : ∀ b o, s₂.heap.get? b = some o → h₁.get? b = some o := fun b o e => hh₁ ▸ Heap.get?_push_of_some _ (Heap.get?_push_of_some _ (hH2 ▸ Heap.get?_push_of_some _ e))
  have hacc : h₁.get? s₂.heap.objs.size = some (LCg.lst []) := hh₁ ▸ Heap.get?_push_of_some _ (Heap.get?_push_of_some _ (hH2 ▸ Heap.get?_push_size _ rfl))
  have hnsC : h₁.Ns H2.objs.size (fun _ => none) := by
    have := Heap.Ns.new H2 (.type "dict")
    exact this.at' fun o e => hh₁ ▸ Heap.get?_push_of_some _ e
  have hcell₁ : h₁.get? (H2.objs.size + 1) = some { cls := .type "cell", data := .cell none } := by
    rw [← hh₁, ← hc]; exact Heap.get?_push_size _ rfl
  have hst₁ : St 0 h₁ := W.frame _ _ _ hst fun b _ o e => old b o e
  have fresh : ∀ a, s₂.heap.objs.size ≤ a → s₂.heap.get? a = none := fun a ha => by
    cases e : s₂.heap.get? a with
    | none => rfl
    | some o' => exact absurd (Heap.lt_size e) (Nat.not_lt.mpr ha)
  have fresh₀ : ∀ a, s₂.heap.objs.size ≤ a → h₀.get? a = none := fun a ha => by
    cases e : h₀.get? a with
    | none => rfl
    | some o' => have := F.keep a o' e; rw [fresh a ha] at this; cases this
  have hD₀ : h₀.get? s₂.heap.objs.size = none := fresh₀ _ (Nat.le_refl _)
  have hC₀ : h₀.get? H2.objs.size = none := fresh₀ _ (by rw [hC]; exact Nat.le_succ _)
  have hc₀ : h₀.get? (H2.objs.size + 1) = none := fresh₀ _ (by rw [hC]; exact Nat.le_succ_of_le (Nat.le_succ _))
  have hLlt : L < s₂.heap.objs.size := F.ns.lt
  have hDL : s₂.heap.objs.size ≠ L := Ne.symm (below L hLlt).2.1
  have hCL : H2.objs.size ≠ L := Ne.symm (below L hLlt).1
  have hcL : H2.objs.size + 1 ≠ L := Ne.symm (below L hLlt).2.2
  have hCI : I ≠ H2.objs.size := (below I hIlt).1
  have hDI : I ≠ s₂.heap.objs.size := (below I hIlt).2.1
  have hcI : I ≠ H2.objs.size + 1 := (below I hIlt).2.2
  have loop : ∀ s₃ : Shared, s₃ = { s₂ with heap := h₁ } →
      codeAny (model prog w) A (.compLoop (.ListComp elt [⟨.Name x px, iter, ifs, 0⟩] scope pos) 0 (.ref I) (.ref s₂.heap.objs.size) (compEnvC scope ((x, H2.objs.size + 1) :: cl) H2.objs.size env))
        (RR (.ref s₂.heap.objs.size) H2.objs.size) s₃ := by
    rintro s₃ rfl
    refine codeAny_compLoop_tests
      (fun k s' => ∃ h' tk i ys m' oc ov nw, s' = { s₂ with heap := h', toks := tk } ∧ i ≤ n ∧ k = n + 1 - i ∧ ys.length ≤ i ∧ St i h' ∧ Fr h₀ L h' m ∧ h'.Ns H2.objs.size m' ∧ News h₀ L h' ((s₂.heap.objs.size, LCg.lst ys) :: (H2.objs.size + 1, oc) :: nw) ∧ oc.data = .cell ov ∧
        LCg.Off3 I H2.objs.size s₂.heap.objs.size ((H2.objs.size + 1, oc) :: nw) ∧ (∀ p ∈ nw, p.1 ≠ H2.objs.size + 1) ∧ (∀ q, S ((H2.objs.size + 1, q) :: nw)) ∧ J i ys nw) ?_ (n + 1)
      ⟨h₁, _, 0, [], _, { cls := .type "cell", data := .cell none }, none, news, rfl, Nat.zero_le _, rfl, Nat.le_refl _, hst₁, F.keeps old, hnsC, fun p hp => ?_, rfl, ?_, fun p hp => (below _ (Heap.lt_size (N p hp).1)).2.2, fun q => hS _, hJ0⟩
    · rintro k s' ⟨h', tk, i, ys, m', oc, ov, nw, rfl, hi, rfl, hyl, hst', F', hn', N', hoc, off', offc, hS', hJ'⟩
      by_cases hlt : i < n
      · refine W.item i _ _ _ hlt hst' fun v h₂ tk₂ hPv hst₂ hk₂ => ?_
        have off3 := off'.mem
        have N₂ : News h₀ L h₂ ((s₂.heap.objs.size, LCg.lst ys) :: (H2.objs.size + 1, oc) :: nw) := LCg.news_but N' hk₂ fun p hp => by
          rcases List.mem_cons.mp hp with rfl | hp
          · exact Ne.symm hDI
          · exact (off3 p hp).1
        refine wpAny_assign_Name (wpAny_storeName_cell (c := H2.objs.size + 1) (v₀ := ov) (by simp [compEnvC, relabel, hkind]) (hx _ _) (by show List.lookup x ((x, H2.objs.size + 1) :: cl) = _; simp) ⟨oc, (N₂ (H2.objs.size + 1, oc) (by simp)).1, hoc⟩ fun h₃ hv₃ hs₃ => ?_)
        obtain ⟨oc', hoc', hod'⟩ := hv₃
        have hst₃ : St (i + 1) h₃ := W.frame _ _ _ hst₂ fun b hb o e => hs₃.extBut b o (fun q => hcf (by have q' : b = H2.objs.size + 1 := q; rw [← q']; exact hb)) e
        obtain ⟨oI, heI⟩ := hIo _ _ hst₃
        have hn₂ : h₂.Ns H2.objs.size m' := hn'.at' fun o e => hk₂ _ o (by simpa using Ne.symm hCI) e
        have hn₃ : h₃.Ns H2.objs.size m' := hn₂.sameBut hs₃ hCc
        obtain ⟨oC, heC, hoC⟩ := LCg.ns_obj hn₃
        have F₃ : Fr h₀ L h₃ m := (LCg.fr_but F' hk₂ hIL hI₀).change hs₃ hcL hc₀
        have N₃ : News h₀ L h₃ ((I, oI) :: (H2.objs.size, oC) :: (s₂.heap.objs.size, LCg.lst ys) :: (H2.objs.size + 1, oc') :: nw) := fun p hp => by
          rcases List.mem_cons.mp hp with rfl | hp
          · exact ⟨heI, Ne.symm hIL, hI₀⟩
          · rcases List.mem_cons.mp hp with rfl | hp
            · exact ⟨heC, hCL, hC₀⟩
            · rcases List.mem_cons.mp hp with rfl | hp
              · exact ⟨hs₃.extBut _ _ hDc (N₂ _ (List.mem_cons_self ..)).1, hDL, hD₀⟩
              · rcases List.mem_cons.mp hp with rfl | hp
                · exact ⟨hoc', hcL, hc₀⟩
                · have z := N₂ p (List.mem_cons_of_mem _ (List.mem_cons_of_mem _ hp))
                  exact ⟨hs₃.extBut _ _ (offc p hp) z.1, z.2⟩
        have off₃ : LCg.Off3 I H2.objs.size s₂.heap.objs.size ((H2.objs.size + 1, oc') :: nw) := LCg.Off3.of fun p hp => by
          rcases List.mem_cons.mp hp with rfl | hp
          · exact off3 (H2.objs.size + 1, oc) (List.mem_cons_self ..)
          · exact off3 p (List.mem_cons_of_mem _ hp)
        refine wpAny_mono (turn i ys nw hlt hJ' v I oI H2.objs.size (H2.objs.size + 1) oC oc' s₂.heap.objs.size h₃ _ _ hPv hod' (hS' _) F₃ N₃ off₃ ⟨hCI, hDI, Ne.symm hDC⟩ offc) (fun ok s₄ h₄ => ?_) fun _ _ e => e
        cases ok with
        | true =>
          simp only [if_true] at h₄ ⊢
          refine wpAny_mono h₄ (fun y s₅ h₅ => ?_) fun _ _ e => e
          obtain ⟨h₄, tk₄, news₄, rfl, F₄, N₄, off₄, hS₄, oc₄, ov₄, nw₄, rfl, hoc₄, offc₄, hJ₄⟩ := h₅
          have zI := (N₄ (I, oI) List.mem_cons_self).1
          have zC := (N₄ (H2.objs.size, oC) (List.mem_cons_of_mem _ List.mem_cons_self)).1
          have zD := (N₄ (s₂.heap.objs.size, LCg.lst ys) (List.mem_cons_of_mem _ (List.mem_cons_of_mem _ List.mem_cons_self))).1
          have N₄' : News h₀ L h₄ ((H2.objs.size + 1, oc₄) :: nw₄) := fun p hp => N₄ p (List.mem_cons_of_mem _ (List.mem_cons_of_mem _ (List.mem_cons_of_mem _ hp)))
          have hst₄ : St (i + 1) h₄ := hSt _ _ _ _ _ hst₃ heI zI F₄.keep N₄' hS₄
          refine append_at (hsz := by show ys.toArray.size ≤ sizeLine; rw [List.size_toArray]; exact Nat.le_trans (Nat.le_trans hyl hi) hsz) zD fun h₅ hs₅ hD₅ => ?_
          have off4 := off₄.mem
          refine ⟨n + 1 - (i + 1), by omega, h₅, tk₄, i + 1, ys ++ [y], _, oc₄, ov₄, nw₄, rfl, hlt, rfl, by rw [List.length_append, List.length_singleton]; exact Nat.succ_le_succ hyl, W.frame _ _ _ hst₄ fun b hb o e => hs₅.extBut b o (fun q => hDf (q ▸ hb)) e, F₄.change hs₅ hDL hD₀,
            (hoC.ns zC).sameBut hs₅ (Ne.symm hDC), fun p hp => ?_, hoc₄, off₄, offc₄, fun q => hSc _ _ q _ _ hoc₄ hS₄, hJ₄⟩
          rcases List.mem_cons.mp hp with rfl | hp
          · exact ⟨hD₅.trans (congrArg some (LCg.lst_snoc ys y)), hDL, hD₀⟩
          · exact ⟨hs₅.extBut _ _ (off4 p hp).2.2 (N₄' p hp).1, (N₄' p hp).2⟩
        | false =>
          simp only [Bool.false_eq_true, if_false] at h₄ ⊢
          obtain ⟨h₅, tk₄, news₄, rfl, F₄, N₄, off₄, hS₄, oc₄, ov₄, nw₄, rfl, hoc₄, offc₄, hJ₄⟩ := h₄
          have zI := (N₄ (I, oI) List.mem_cons_self).1
          have zC := (N₄ (H2.objs.size, oC) (List.mem_cons_of_mem _ List.mem_cons_self)).1
          have N₄' : News h₀ L h₅ ((H2.objs.size + 1, oc₄) :: nw₄) := fun p hp => N₄ p (List.mem_cons_of_mem _ (List.mem_cons_of_mem _ (List.mem_cons_of_mem _ hp)))
          have hst₄ : St (i + 1) h₅ := hSt _ _ _ _ _ hst₃ heI zI F₄.keep N₄' hS₄
          refine ⟨n + 1 - (i + 1), by omega, h₅, tk₄, i + 1, ys, _, oc₄, ov₄, nw₄, rfl, hlt, rfl, Nat.le_succ_of_le hyl, hst₄, F₄, hoC.ns zC, fun p hp => ?_, hoc₄, off₄, offc₄, fun q => hSc _ _ q _ _ hoc₄ hS₄, hJ₄⟩
          rcases List.mem_cons.mp hp with rfl | hp
          · exact N₄ _ (List.mem_cons_of_mem _ (List.mem_cons_of_mem _ List.mem_cons_self))
          · exact N₄' p hp
      · obtain rfl : i = n := Nat.le_antisymm hi (Nat.not_lt.mp hlt)
        refine W.done _ _ _ hst' fun h₂ tk₂ hk₂ => ?_
        have off3 := off'.mem
        have hN₂ := LCg.news_but N' hk₂ fun p hp => by
          rcases List.mem_cons.mp hp with rfl | hp
          · exact Ne.symm hDI
          · exact (off3 p hp).1
        refine hRR _ _ h₂ tk₂ _ ys nw (LCg.fr_but F' hk₂ hIL hI₀) (fun p hp => hN₂ p ?_) (LCg.Off3.one (LCg.Off3.of fun p hp => off3 p (List.mem_cons_of_mem _ hp))) (hn'.at' fun o e => hk₂ _ o (by simpa using Ne.symm hCI) e) hC₀ hD₀ hCL hDL (Ne.symm hDC) (fun p hp => (off3 p (List.mem_cons_of_mem _ hp)).2.1) hJ'
        rcases List.mem_cons.mp hp with rfl | hp
        · exact List.mem_cons_self ..
        · exact List.mem_cons_of_mem _ (List.mem_cons_of_mem _ hp)
    · rcases List.mem_cons.mp hp with rfl | hp
      · exact ⟨hacc, hDL, hD₀⟩
      · rcases List.mem_cons.mp hp with rfl | hp
        · exact ⟨hcell₁, hcL, hc₀⟩
        · exact ⟨old _ _ (N p hp).1, (N p hp).2⟩
    · exact LCg.Off3.of fun p hp => by
        rcases List.mem_cons.mp hp with rfl | hp
        · exact ⟨Ne.symm hcI, Ne.symm hCc, Ne.symm hDc⟩
        · exact ⟨off p hp, (below _ (Heap.lt_size (N p hp).1)).1, (below _ (Heap.lt_size (N p hp).1)).2.1⟩
  exact codeAny_compStart_list (loop _ rfl) (W.self 0 _ _ _ hst₁ (loop _ rfl))

/-- the turns of a block whose own name is a cell -/
def TurnsC (prog : Program) (w : World) (A : Around) (h₀ : Heap) (L : Addr) (m : Str → Option Value) (env : Env) (ifs : List PySem.Expr) (elt : PySem.Expr) (x : Str) (scope : Scope) (cl : List (Str × Addr)) (s₂ : Shared) (S : List (Addr × Obj) → Prop) (P : Nat → Value → Prop) (n : Nat) (J : Nat → List Value → List (Addr × Obj) → Prop) : Prop :=
  ∀ i ys nw, i < n → J i ys nw → ∀ v I oI C c oC oc D h tk (E' : Value → Shared → Prop), P i v → oc.data = .cell (some v) → S ((c, oc) :: nw) → Fr h₀ L h m → News h₀ L h ((I, oI) :: (C, oC) :: (D, LCg.lst ys) :: (c, oc) :: nw) → LCg.Off3 I C D ((c, oc) :: nw) → ((@Ne Nat I C) ∧ (@Ne Nat I D) ∧ (@Ne Nat C D)) → (∀ p ∈ nw, p.1 ≠ c) →
      wpAny (model prog w) A (forIn ifs true fun t r => if r = true then do let ok ← isTrue t (compEnvC scope ((x, c) :: cl) C env) (eval t (compEnvC scope ((x, c) :: cl) C env)); pure (ForInStep.yield ok) else pure (ForInStep.yield r))
        (fun ok s' => if ok = true then wpAny (model prog w) A (eval elt (compEnvC scope ((x, c) :: cl) C env)) (LCg.CompEnd h₀ L m { s₂ with heap := h, toks := tk } I oI C oC D (LCg.lst ys) S (fun y nw' => CellTail c (J (i + 1) (ys ++ [y])) nw')) E' s'
          else LCg.CompEnd h₀ L m { s₂ with heap := h, toks := tk } I oI C oC D (LCg.lst ys) S (fun _ nw' => CellTail c (J (i + 1) ys) nw') Value.none s') E' { s₂ with heap := h, toks := tk }

def SrcCL (prog : Program) (w : World) (A : Around) (h₀ : Heap) (L : Addr) (m : Str → Option Value) (env : Env) (ifs : List PySem.Expr) (elt : PySem.Expr) (x : Str) (scope : Scope) (cl : List (Str × Addr)) (Fin : Shared → List Value → List (Addr × Obj) → Prop) (xv : Value) (s₁ : Shared) : Prop :=
  ∃ ax its k news J, xv = .ref ax ∧ A.handled = none ∧ Fr h₀ L s₁.heap m ∧ News h₀ L s₁.heap news ∧ (ax, ({ cls := .type "list", data := .seq its k } : Obj)) ∈ news ∧ its.size ≤ sizeLine ∧
    ∀ s₂ : Shared, (∃ h, s₂ = { s₁ with heap := h }) → J 0 [] news ∧ TurnsC prog w A h₀ L m env ifs elt x scope cl s₂ (LCg.SrcAt h₀ ax its) (fun i v => its[i]? = some v) its.size J ∧ ∀ ys nw, J its.size ys nw → Fin s₂ ys nw
def SrcCR (prog : Program) (w : World) (A : Around) (h₀ : Heap) (L : Addr) (m : Str → Option Value) (env : Env) (ifs : List PySem.Expr) (elt : PySem.Expr) (x : Str) (scope : Scope) (cl : List (Str × Addr)) (Fin : Shared → List Value → List (Addr × Obj) → Prop) (xv : Value) (s₁ : Shared) : Prop :=
  ∃ r a b t u v n news J, xv = .ref r ∧ A.handled = none ∧ Fr h₀ L s₁.heap m ∧ News h₀ L s₁.heap news ∧ IsRange s₁.heap r a b 1 t u v ∧ Builtin.Range.small a b 1 = true ∧ Builtin.Range.rangeSize a b 1 = ((n : Nat) : Int) ∧ n ≤ sizeLine ∧
    ∀ s₂ : Shared, (∃ h, s₂ = { s₁ with heap := h }) → J 0 [] news ∧ TurnsC prog w A h₀ L m env ifs elt x scope cl s₂ (fun _ => True) (fun i v => ∃ t, v = .int (a + (i : Int)) t) n J ∧ ∀ ys nw, J n ys nw → Fin s₂ ys nw
def SrcC (prog : Program) (w : World) (A : Around) (h₀ : Heap) (L : Addr) (m : Str → Option Value) (env : Env) (ifs : List PySem.Expr) (elt : PySem.Expr) (x : Str) (scope : Scope) (cl : List (Str × Addr)) (Fin : Shared → List Value → List (Addr × Obj) → Prop) (xv : Value) (s₁ : Shared) : Prop :=
  SrcCL prog w A h₀ L m env ifs elt x scope cl Fin xv s₁ ∨ SrcCR prog w A h₀ L m env ifs elt x scope cl Fin xv s₁

theorem srcAt_cell {ax : Addr} {its : Array Value} : ∀ (c : Addr) (o q : Obj) (v : Option Value) (nw : List (Addr × Obj)), o.data = .cell v → LCg.SrcAt h₀ ax its ((c, o) :: nw) → LCg.SrcAt h₀ ax its ((c, q) :: nw) := by
  rintro c o q v nw hd (h | ⟨ob, hm, hc, n, hdd⟩)
  · exact .inl h
  · rcases List.mem_cons.mp hm with e | hm
    · cases e; rw [hd] at hdd; cases hdd
    · exact .inr ⟨ob, List.mem_cons_of_mem _ hm, hc, n, hdd⟩

theorem comp_C {elt iter : PySem.Expr} {x : Str} {px : Pos} {ifs : List PySem.Expr} {scope : Scope} {cl : List (Str × Addr)} {pos pos' : Pos} {use : Option (Value → Sem Unit)} {Q : Value → Shared → Prop} {Fin : Shared → List Value → List (Addr × Obj) → Prop}
    (hclos : closureFor scope env = pure cl) (h1 : ∀ a acc, cellsFrom a scope.names acc = (x, a) :: acc) (h2 : ∀ h, pushCells h scope.names = h.push { cls := .type "cell", data := .cell none })
    (hkind : scope.kind = .function) (hnames : ∀ y ∈ scope.names, y.2 = .local → scope.names.lookup y.1 = some .local) (hx : ∀ C c, (compEnvC scope ((x, c) :: cl) C env).kindOf x = some .cell)
    (h : wpAny (model prog w) A (eval iter env) (SrcC prog w A h₀ L m env ifs elt x scope cl Fin) E s)
    (hfin : ∀ (s₁ : Shared) D C h tk m' ys news', Fr h₀ L h m → News h₀ L h ((D, LCg.lst ys) :: news') → LCg.Off1 D news' → h.Ns C m' → h₀.get? C = none → h₀.get? D = none → C ≠ L → D ≠ L → C ≠ D → (∀ p ∈ news', p.1 ≠ C) → Fin s₁ ys news' → compPost (model prog w) A E use Q (.ref D) C (.ok .next) { s₁ with heap := h, toks := tk })
    (hs : ∀ x, foldedSetIterable iter env x = pure x) :
    wpAny (model prog w) A (comprehension (.ListComp elt [⟨.Name x px, iter, ifs, 0⟩] scope pos) scope env pos' (newList []) false (eval iter env) use) Q E s := by
  refine wpAny_comprehension_free rfl hs hclos hkind hnames (wpAny_mono h (fun xv s₁ h₁ => ?_) fun _ _ e => e)
  rcases h₁ with ⟨ax, its, k, news, J, rfl, hh, F, N, hm, hsz, R⟩ | ⟨r, a, b, t, u, v, n, news, J, rfl, hh, F, N, hr, hsm, hn, hsz, R⟩
  · have hl : s₁.heap.IsList ax its := ⟨_, (N _ hm).1, rfl, k, rfl⟩
    have hlt : ax < s₁.heap.objs.size := Heap.lt_size (N _ hm).1
    refine wpAny_pyIter_list hl ?_
    obtain ⟨hJ0, T, fin⟩ := R { s₁ with heap := s₁.heap.push { cls := .type "list_iterator", data := .fields #[.ref ax, .int 0 0] } } ⟨_, rfl⟩
    refine block_C J (Walks.list hh s₁.heap.objs.size ax (Nat.ne_of_lt hlt) its) hsz (fun i h st => by obtain ⟨o, e, _⟩ := st.1; exact ⟨o, e⟩) LCg.list_st h1 h2 hkind hx ⟨⟨_, Heap.get?_push_size _ rfl, rfl, rfl⟩, hl.push _⟩ (fun b hb => ?_)
      (F.keeps fun b o e => Heap.get?_push_of_some _ e) (N.grown fun b o e => Heap.get?_push_of_some _ e) (Nat.ne_of_lt F.ns.lt) (next_is_new F) (fun p hp => Nat.ne_of_lt (Heap.lt_size (N p hp).1)) srcAt_cell (fun q => .inr ⟨_, List.mem_cons_of_mem _ hm, rfl, _, rfl⟩) hJ0 T ?_
    · show b < (s₁.heap.push _).objs.size
      rw [Heap.size_push]
      rcases List.mem_cons.mp hb with rfl | hb
      · exact Nat.lt_succ_self _
      · rw [List.mem_singleton.mp hb]; exact Nat.lt_succ_of_lt hlt
    · intro D C h tk m' ys news' F' N' o1 hn hC₀ hD₀ hCL hDL hCD offC hj
      exact hfin { s₁ with heap := s₁.heap.push { cls := .type "list_iterator", data := .fields #[.ref ax, .int 0 0] } } D C h tk m' ys news' F' N' o1 hn hC₀ hD₀ hCL hDL hCD offC (fin _ _ hj)
  · refine wpAny_pyIter_range hr hsm ?_
    obtain ⟨hJ0, T, fin⟩ := R _ ⟨_, rfl⟩
    refine block_C J (LCg.range_walks hh a n) hsz (fun i h st => ⟨_, st⟩) LCg.range_st h1 h2 hkind hx (by show IsRangeIter _ _ _ _ _; rw [hn]; simpa using Heap.get?_push_size _ rfl) (fun b hb => ?_)
      (F.keeps fun _ _ e => Heap.get?_push_of_some _ e) (N.grown fun _ _ e => Heap.get?_push_of_some _ e) (Nat.ne_of_lt F.ns.lt) (next_is_new F) (fun p hp => Nat.ne_of_lt (Heap.lt_size (N p hp).1)) (fun _ _ _ _ _ _ _ => trivial) (fun _ => trivial) hJ0 T ?_
    · rw [List.mem_singleton.mp hb]
      show s₁.heap.objs.size < (s₁.heap.push _).objs.size
      rw [Heap.size_push]; exact Nat.lt_succ_self _
    · intro D C h tk m' ys news' F' N' o1 hn' hC₀ hD₀ hCL hDL hCD offC hj
      exact hfin _ D C h tk m' ys news' F' N' o1 hn' hC₀ hD₀ hCL hDL hCD offC (fin _ _ hj)

theorem ListComp_C {elt iter : PySem.Expr} {x : Str} {px : Pos} {ifs : List PySem.Expr} {scope : Scope} {cl : List (Str × Addr)} {pos : Pos} {Q : Value → Shared → Prop} (F₀ : Fr h₀ L s.heap m)
    (hclos : closureFor scope env = pure cl) (h1 : ∀ a acc, cellsFrom a scope.names acc = (x, a) :: acc) (h2 : ∀ h, pushCells h scope.names = h.push { cls := .type "cell", data := .cell none })
    (hkind : scope.kind = .function) (hnames : ∀ y ∈ scope.names, y.2 = .local → scope.names.lookup y.1 = some .local) (hx : ∀ C c, (compEnvC scope ((x, c) :: cl) C env).kindOf x = some .cell)
    (h : wpAny (model prog w) A (eval iter env) (SrcC prog w A h₀ L m env ifs elt x scope cl (fun s₂ => LCg.FinE h₀ L m s₂ Q)) E s)
    (hs : ∀ x, foldedSetIterable iter env x = pure x := by intro _; rfl) :
    wpAny (model prog w) A (eval (.ListComp elt [⟨.Name x px, iter, ifs, 0⟩] scope pos) env) Q E s := by
  rw [eval_ListComp]
  refine comp_C (use := none) hclos h1 h2 hkind hnames hx h (fun s₁ D C h tk m' ys news' F' N' o1 hn hC₀ hD₀ hCL hDL hCD offC fin => ?_) hs
  refine ⟨m', hn, fun h'' hs'' => fin D h'' tk (F'.change hs'' hCL hC₀) (fun p hp => ?_) o1⟩
  refine ⟨hs''.extBut _ _ ?_ (N' p hp).1, (N' p hp).2⟩
  rcases List.mem_cons.mp hp with rfl | hp
  · exact Ne.symm hCD
  · exact offC p hp

theorem Assign_ListComp_C {elt iter : PySem.Expr} {x y : Str} {px py : Pos} {ifs : List PySem.Expr} {scope : Scope} {cl : List (Str × Addr)} {pos spos : Pos} {Q : Flow → Shared → Prop} (F₀ : Fr h₀ L s.heap m) (hLe : env.locals = L)
    (hsw : swapsWith (.ListComp elt [⟨.Name x px, iter, ifs, 0⟩] scope pos) (some (.Name y py)) spos.line env = pure true)
    (hclos : closureFor scope env = pure cl) (h1 : ∀ a acc, cellsFrom a scope.names acc = (x, a) :: acc) (h2 : ∀ h, pushCells h scope.names = h.push { cls := .type "cell", data := .cell none })
    (hkind : scope.kind = .function) (hnames : ∀ y ∈ scope.names, y.2 = .local → scope.names.lookup y.1 = some .local) (hx : ∀ C c, (compEnvC scope ((x, c) :: cl) C env).kindOf x = some .cell)
    (hy : env.kindOf y = some .local) (hp : (env.scope.kind == .class || (env.scope.kind == .module && env.locals != env.globals)) = false)
    (h : wpAny (model prog w) A (eval iter env) (SrcC prog w A h₀ L m env ifs elt x scope cl (fun s₂ => LCg.FinA h₀ L m s₂ y Q)) E s)
    (hs : ∀ x, foldedSetIterable iter env x = pure x := by intro _; rfl) :
    wpAny (model prog w) A (exec (.Assign [.Name y py] (.ListComp elt [⟨.Name x px, iter, ifs, 0⟩] scope pos) spos) env) Q E s := by
  subst hLe
  rw [exec_Assign_Name_used _ _ _ _ hsw]
  refine wpAny_bind (wpAny_standAt (wpAny_bind ?_))
  show wpAny _ A (do let _ ← comprehension (.ListComp elt [⟨.Name x px, iter, ifs, 0⟩] scope pos) scope env _ (newList []) false (eval iter env) (some (assign (.Name y py) env))) _ _ s
  refine wpAny_bind (wpAny_mono (comp_C (use := some (assign (.Name y py) env)) (Q := fun _ s' => Q .next s') hclos h1 h2 hkind hnames hx h (fun s₁ D C h' tk m' ys news' F' N' o1 hn hC₀ hD₀ hCL hDL hCD offC fin => ?_) hs) (fun _ s' hq => wpAny_pure (wpAny_pure hq)) fun _ _ e => e)
  show wpAny _ A (assign (.Name y py) env (.ref D)) _ _ _
  refine wpAny_assign_Name (wpAny_storeName_local hy F'.ns (fun h₂ hn₂ hs₂ => ?_) hp)
  have hL₀ : h₀.get? env.locals = none := Heap.get?_none_of_le F'.above
  have F₂ : Fr h₀ env.locals h₂ (fun z => if z = y then some (.ref D) else m z) := ⟨hn₂, fun b o e => hs₂.extBut b o (fun q => by rw [q, hL₀] at e; cases e) (F'.keep b o e), F'.above⟩
  refine ⟨m', hn.sameBut hs₂ hCL, fun h'' hs'' => fin D h'' _ (F₂.change hs'' hCL hC₀) (fun p hp => ?_) o1⟩
  have z : h₂.get? p.1 = some p.2 := hs₂.extBut _ _ (N' p hp).2.1 (N' p hp).1
  refine ⟨hs''.extBut _ _ ?_ z, (N' p hp).2⟩
  rcases List.mem_cons.mp hp with rfl | hp
  · exact Ne.symm hCD
  · exact offC p hp

theorem SrcC.fix {ifs : List PySem.Expr} {elt : PySem.Expr} {x : Str} {scope : Scope} {cl : List (Str × Addr)} {Fin : Shared → List Value → List (Addr × Obj) → Prop} {ax : Addr} {its : Array Value} {k : Nat} {news : List (Addr × Obj)} {s₁ : Shared} (J : Nat → List Value → Prop)
    (hh : A.handled = none) (F : Fr h₀ L s₁.heap m) (N : News h₀ L s₁.heap news) (hm : (ax, ({ cls := .type "list", data := .seq its k } : Obj)) ∈ news) (hsz : its.size ≤ sizeLine) (h0 : J 0 [])
    (turn : ∀ g i v I oI C c oC oc D ys h tk (E' : Value → Shared → Prop), i < its.size → its[i]? = some v → J i ys → oc.data = .cell (some v) → LCg.SrcAt h₀ ax its ((c, oc) :: news) → Fr h₀ L h m → News h₀ L h ((I, oI) :: (C, oC) :: (D, LCg.lst ys) :: (c, oc) :: news) → LCg.Off3 I C D ((c, oc) :: news) → ((@Ne Nat I C) ∧ (@Ne Nat I D) ∧ (@Ne Nat C D)) → (∀ p ∈ news, p.1 ≠ c) →
      wpAny (model prog w) A (forIn ifs true fun t r => if r = true then do let ok ← isTrue t (compEnvC scope ((x, c) :: cl) C env) (eval t (compEnvC scope ((x, c) :: cl) C env)); pure (ForInStep.yield ok) else pure (ForInStep.yield r))
        (fun ok s' => if ok = true then wpAny (model prog w) A (eval elt (compEnvC scope ((x, c) :: cl) C env)) (LCg.CompEnd h₀ L m { ({ s₁ with heap := g } : Shared) with heap := h, toks := tk } I oI C oC D (LCg.lst ys) (LCg.SrcAt h₀ ax its) (fun y nw' => CellTail c (fun nw => nw = news ∧ J (i + 1) (ys ++ [y])) nw')) E' s'
          else LCg.CompEnd h₀ L m { ({ s₁ with heap := g } : Shared) with heap := h, toks := tk } I oI C oC D (LCg.lst ys) (LCg.SrcAt h₀ ax its) (fun _ nw' => CellTail c (fun nw => nw = news ∧ J (i + 1) ys) nw') Value.none s') E' { ({ s₁ with heap := g } : Shared) with heap := h, toks := tk })
    (fin : ∀ g ys, J its.size ys → Fin { s₁ with heap := g } ys news) : SrcC prog w A h₀ L m env ifs elt x scope cl Fin (.ref ax) s₁ := by
  refine .inl ⟨ax, its, k, news, (fun i ys nw => nw = news ∧ J i ys), rfl, hh, F, N, hm, hsz, ?_⟩
  rintro s₂ ⟨g, rfl⟩
  refine ⟨⟨rfl, h0⟩, ?_, ?_⟩
  · rintro i ys nw hi ⟨rfl, hJ⟩ v I oI C c oC oc D h tk E' hv hoc hS F' N' off ne offc
    exact turn g i v I oI C c oC oc D ys h tk E' hi hv hJ hoc hS F' N' off ne offc
  · rintro ys nw ⟨rfl, hJ⟩
    exact fin g ys hJ
theorem cellTail {c : Addr} {oc : Obj} {v : Option Value} {news : List (Addr × Obj)} {P : Prop} (hoc : oc.data = .cell v) (offc : ∀ p ∈ news, p.1 ≠ c) (h : P) : CellTail c (fun nw => nw = news ∧ P) ((c, oc) :: news) := ⟨oc, v, news, rfl, hoc, offc, rfl, h⟩
end
end Mine
namespace Mine
local macro_rules | `(tactic| k_room) => `(tactic| ktr_room)
local macro_rules | `(tactic| k_all) => `(tactic| first
  | with_reducible assumption
  | ((with_reducible refine' ne_app ?a ?b); (case a => k_all); (case b => k_all))
  | exact ne_ofL (by with_reducible assumption)
  | exact ne_lt (by with_reducible first | assumption | exact And.right (by assumption) | exact And.right (And.right (by assumption)) | exact And.right (And.right (And.right (by assumption))) | exact And.right (And.right (And.right (And.right (by assumption)))))
  | exact ne_up1 (by with_reducible assumption)
  | exact ne_up2 (by with_reducible assumption)
  | exact ne_up3 (by with_reducible assumption)
  | exact List.forall_mem_nil _
  | (refine' List.forall_mem_cons.mpr ⟨?a, ?b⟩; (case a => k_ne); (case b => k_all)))
local macro_rules | `(tactic| size_fits) => `(tactic| ((rw [PySem.sizeLine_eq]); omega))
local macro_rules | `(tactic| walk_at "call builtin:list.append") => `(tactic| (k_here; (show wpAny _ _ (call (Value.builtin "list.append") [Value.ref _, _]) _ _ _); k_dflt (refine' append_K ?k1 ?k2 ?k3 ?_ ?z; (case k1 => k_asm); (case k2 => k_asm); (case k3 => k_upd); (case z => size_fits); k_whole); intro h' F' N'; (try k_sweep)))
local macro_rules | `(tactic| walk_at "subscriptTail") => `(tactic| ((with_reducible show wpAny _ _ (subscriptTail _ _ (Value.str (alpha _) _) (Value.int _ _)) _ _ _); (refine item_alpha (by first | exact fmod_lo _ (by decide) | assumption) (by first | exact fmod_hi _ (by decide) | assumption) ?_); intro t' tk'; (try dsimp only); (try k_fold)))
local macro_rules | `(tactic| k_mem) => `(tactic| first | exact List.Mem.head _ | (refine' memTail ?_; k_mem) | ktr_member)
local macro_rules | `(tactic| units_room) => `(tactic| (simp only [units_under_make, units_in1, units_deeper, ktrTop]; omega))
local macro_rules | `(tactic| walk_at "compareOp NotIn int ref") => `(tactic| (k_here; k_dflt (refine' notin_L ?k1 ?k2 ?k3 ?_; (case k1 => k_asm); (case k2 => k_mem); (case k3 => assumption); k_whole)))
local macro_rules | `(tactic| walk_at "compareOp In int ref") => `(tactic| (k_here; k_dflt (refine' in_L ?k1 ?k2 ?k3 ?_; (case k1 => k_asm); (case k2 => k_mem); (case k3 => assumption); k_whole)))
local macro_rules | `(tactic| walk_at "subscriptTail Name Name str int") => `(tactic| ((with_reducible show wpAny _ _ (subscriptTail _ _ (Value.str (alpha _) _) (Value.int _ _)) _ _ _); (refine item_alpha (by first | exact fmod_lo _ (by decide) | assumption) (by first | exact fmod_hi _ (by decide) | assumption) ?_); intro t' tk'; (try dsimp only); (try k_fold)))
/-! C_record -/
section
set_option maxRecDepth 100000 in
set_option maxHeartbeats 8000000 in
theorem record_spec {w : World} {mean : ExcName → Option Value} {mg mb : Str → Option Value} {news : List (Addr × Obj)}
    {dp un : Nat} {gd : Option (List Code)} {cn : Str} {cs : Scope} {a : Addr} {ccd : Value} {cl : List (Str × Addr)} {outer : List Env} {A₀ : Around} {base h₀ : Heap} {L : Addr} {m : Str → Option Value} {s : Shared} {Q E : Value → Shared → Prop}
    {lm : Addr} {vm : List Value} {ms : List Int} {n : Nat} {k : Int} {tk tk2 : Tok} {b : Nat}
    (B : Below A₀ base outer h₀) (F : Fr h₀ L s.heap m) (KX : (hd.heap_39 w.params).In h₀) (N : News h₀ L s.heap news)
    (T : Top hd.view_39 (looseW hd.view_39 []) mean mg mb h₀) (hk : cs.kind = .function)
    (hm : (lm, listOf vm.toArray n) ∈ news) (hi : IntsAre vm ms) (hlen : ms.length ≤ 12) (hroom : dp + 4 < recursionLimit) (hun : un + 20 < cLine)
    (hQ : ∀ x d l r t1 t2 t3 t4 xs nn h' tk', StrsAre xs.toList (agents b ms k) → Fr h₀ L h' m →
      News h₀ L h' ((r, listOf #[] 0) :: (l, listOf xs nn) :: (x, instObj 59 d) :: (d, dictOf (recDict w.params l r t1 t2 t3 t4) 4) :: news) → (∀ p ∈ news, p.1 < d) → @LT.lt Nat _ d x → @LT.lt Nat _ x l → @LT.lt Nat _ l r → Q (.ref x) { s with heap := h', toks := tk' }) :
    wpAny (model PySem.Challenge.rw_sc0026_01.row.prog w) (ktrTop dp un gd cn cs L a ccd cl outer) (call (.ref 110) [.ref lm, .int k tk, .str (alpha b) tk2]) Q E s := by
  w_top off
  revert KX
  k_fill
  intro KX
  refine wpAny_call ?_
  k_dflt cell_enter
  k_steps
  rename Fr _ _ _ _ => lF
  rename News _ _ _ _ => lN
  with_unfolding_all refine' iter_app (pre := [_]) (post := _ :: _ :: _) (fun i xs => StrsAre xs.toList (agents b (ms.take i) k)) ?h1 ?h2 ?h3 lF lN ?h4 ?h5 ?h6
  case h1 => rfl
  case h2 => exact List.mem_append_right _ (.tail _ (.tail _ hm))
  case h3 => assumption
  case h4 => exact .cons _ _ .nil
  case h5 =>
    intro i n t xs nx h tk own hn hJ hoff F' N'
    clear lF lN
    (try dsimp only [List.nil_append, List.cons_append] at N')
    have hoff' := hoff.ne (b := _) (List.mem_map_of_mem (List.mem_append_right _ (.head _)))
    clear hoff
    dsimp only at hoff'
    have hz := strs_size hJ
    have hz2 : xs.size ≤ ms.length + 1 := by rw [hz, agents, List.length_cons, List.length_map, List.length_take]; omega
    clear hz
    k_steps
    refine appEnd (xs := xs.push _) (by assumption) (by assumption) ?_ ?_ (fun p hp => List.mem_append_left _ hp) (fun p hp => List.mem_append_right _ hp) rfl
    · rw [agents_snoc hn]; exact strs_push hJ
    · intro z hz; exact if_neg hz
  case h6 =>
    intro u xs nx h tk hJ F' N'
    clear lF lN
    (try dsimp only [List.nil_append, List.cons_append] at N')
    rw [List.take_length] at hJ
    k_steps
    exact hQ _ _ _ _ _ _ _ _ _ _ _ _ hJ (by assumption) (by assumption) (by assumption) (by assumption) (by rename _ < _ ∧ _ < _ ∧ AllLt _ _ => q; exact q.1) (by rename _ < _ ∧ _ < _ ∧ _ < _ ∧ AllLt _ _ => q; exact q.1)
end
/-! C_app -/
section
set_option maxRecDepth 100000 in
set_option maxHeartbeats 8000000 in
theorem applies_none {w : World} {mean : ExcName → Option Value} {mg mb : Str → Option Value} {news : List (Addr × Obj)}
    {dp un : Nat} {gd : Option (List Code)} {cn : Str} {cs : Scope} {a : Addr} {ccd : Value} {cl : List (Str × Addr)} {outer : List Env} {A₀ : Around} {base h₀ : Heap} {L : Addr} {m : Str → Option Value} {s : Shared} {Q E : Value → Shared → Prop}
    {x d l r : Addr} {t1 t2 t3 t4 : Tok} {xs : Array Value} {ss : List Str} {nn : Nat}
    (B : Below A₀ base outer h₀) (F : Fr h₀ L s.heap m) (KX : (hd.heap_39 w.params).In h₀) (N : News h₀ L s.heap news)
    (T : Top hd.view_39 (looseW hd.view_39 []) mean mg mb h₀) (hk : cs.kind = .function)
    (hx : (x, instObj 59 d) ∈ news) (hd' : (d, dictOf (recDict w.params l r t1 t2 t3 t4) 4) ∈ news) (hl : (l, listOf xs nn) ∈ news) (hss : StrsAre xs.toList ss) (hroom : dp + 4 < recursionLimit) (hun : un + 20 < cLine)
    (hQ : ∀ h' tk', Fr h₀ L h' m → News h₀ L h' news → Q (.bool (ss.any (· == Str.ofString "*"))) { s with heap := h', toks := tk' }) :
    wpAny (model PySem.Challenge.rw_sc0026_01.row.prog w) (ktrTop dp un gd cn cs L a ccd cl outer) (call (.ref 49) [.ref x, .none]) Q E s := by
  w_top off
  revert KX
  k_fill
  intro KX
  refine wpAny_call ?_
  k_dflt cell_enter
  k_steps
  refine in_list_strs (isListL_of hl (by assumption)) hss ?_
  k_steps
  exact hQ _ _ (by assumption) (by assumption)

set_option maxRecDepth 100000 in
set_option maxHeartbeats 8000000 in
theorem applies_text {w : World} {mean : ExcName → Option Value} {mg mb : Str → Option Value} {news : List (Addr × Obj)}
    {dp un : Nat} {gd : Option (List Code)} {cn : Str} {cs : Scope} {a : Addr} {ccd : Value} {cl : List (Str × Addr)} {outer : List Env} {A₀ : Around} {base h₀ : Heap} {L : Addr} {m : Str → Option Value} {s : Shared} {Q E : Value → Shared → Prop}
    {x d l r : Addr} {t1 t2 t3 t4 : Tok} {xs : Array Value} {ss : List Str} {nn : Nat} {u : Str} {tu : Tok}
    (B : Below A₀ base outer h₀) (F : Fr h₀ L s.heap m) (KX : (hd.heap_39 w.params).In h₀) (N : News h₀ L s.heap news)
    (T : Top hd.view_39 (looseW hd.view_39 []) mean mg mb h₀) (hk : cs.kind = .function)
    (hx : (x, instObj 59 d) ∈ news) (hd' : (d, dictOf (recDict w.params l r t1 t2 t3 t4) 4) ∈ news) (hl : (l, listOf xs nn) ∈ news) (hss : StrsAre xs.toList ss) (hu : u.length ≤ 100) (hsl : ∀ a ∈ ss, a.length ≤ 10) {y₀ : Str} (hy : (Txt.split u (Str.ofString "/"))[0]? = some y₀) (hroom : dp + 4 < recursionLimit) (hun : un + 20 < cLine)
    (hQ : ∀ h' tk', Fr h₀ L h' m → News h₀ L h' news → Q (.bool (ss.any (meets (Txt.lower y₀)))) { s with heap := h', toks := tk' }) :
    wpAny (model PySem.Challenge.rw_sc0026_01.row.prog w) (ktrTop dp un gd cn cs L a ccd cl outer) (call (.ref 49) [.ref x, .str u tu]) Q E s := by
  w_top off
  revert KX
  k_fill
  intro KX
  refine wpAny_call ?_
  k_dflt cell_enter
  k_steps
  refine SCL.lower ?hlow ?_
  case hlow =>
    rename (∀ a, a ∈ _ → Str.length a ≤ _) => hs'
    have h1 := hs' _ (List.mem_of_getElem? (by assumption))
    omega
  intro _
  rename List.map _ _ = Txt.split _ _ => hs0
  rename (List.map _ _)[_]? = some _ => hs1
  rw [hs0, show Int.toNat 0 = 0 from rfl, hy] at hs1
  cases hs1
  clear hs0
  k_steps
  rename Fr _ _ _ _ => lF
  rename News _ _ _ _ => lN
  with_unfolding_all refine' iter_look1 (x := Str.ofString "agent") (fun i => (ss.take i).any (meets (Txt.lower y₀)) = false) ?h1 ?h2 lF lN ?h3 ?h4 ?h5
  case h1 => rfl
  case h2 => exact .tail _ hl
  case h3 => rfl
  case h4 =>
    intro i v h tk own hv hJ F' N'
    clear lF lN
    obtain ⟨y, t, rfl, hy'⟩ := strs_item hss hv
    have hyl := hsl _ (List.mem_of_getElem? hy')
    k_steps
    · rename (_ != _) = true => hne
      rename List.isEmpty _ = true => hocc
      refine look1End (by assumption) (by assumption) (fun p hp => hp) (any_step hy' hJ (by unfold meets Txt.contains; rw [hocc]; simp)) (fun z hz => ?_)
      simp only [if_neg hz]
    · rename (_ != _) = true => hne
      rename List.isEmpty _ = false => hocc
      have hQ' := hQ _ tk (by assumption) (fun p hp => (by assumption : News h₀ L _ _) p (List.mem_append_right _ (.tail _ hp)))
      rw [any_hit hy' (by unfold meets Txt.contains; rw [hne, hocc]; rfl)] at hQ'
      exact hQ'
    · rename (_ != _) = false => hne
      refine look1End (by assumption) (by assumption) (fun p hp => hp) (any_step hy' hJ (by unfold meets; rw [hne]; rfl)) (fun z hz => ?_)
      simp only [if_neg hz]
  case h5 =>
    intro u h tk hJ F' N'
    clear lF lN
    k_steps
    have hQ' := hQ _ tk (by assumption) (fun p hp => (by assumption : News h₀ L _ _) p (.tail _ hp))
    rw [strs_size hss, List.take_length] at hJ
    rw [hJ] at hQ'
    exact hQ'
end
/-! C_merge -/
section
theorem drop2 {g h : Heap} {L : Addr} {a b c d e f : Addr × Obj} {rest : List (Addr × Obj)} (N : News g L h (a :: b :: c :: d :: e :: f :: rest)) : News g L h (a :: b :: e :: f :: rest) := by
  intro p hp
  refine N p ?_
  simp only [List.mem_cons] at hp ⊢
  rcases hp with h | h | h | h | h <;> simp [h]
set_option maxRecDepth 100000 in
set_option maxHeartbeats 8000000 in
theorem merge_spec {w : World} {mean : ExcName → Option Value} {mg mb : Str → Option Value} {news : List (Addr × Obj)}
    {dp un : Nat} {gd : Option (List Code)} {cn : Str} {cs : Scope} {a : Addr} {ccd : Value} {cl : List (Str × Addr)} {outer : List Env} {A₀ : Around} {base h₀ : Heap} {L : Addr} {m : Str → Option Value} {s : Shared} {Q E : Value → Shared → Prop}
    {x d l r : Addr} {t1 t2 t3 t4 : Tok} {xs : Array Value} {ss : List Str} {nn : Nat}
    {x' d' l' r' : Addr} {t1' t2' t3' t4' : Tok} {xs' : Array Value} {ss' : List Str} {nn' : Nat}
    (B : Below A₀ base outer h₀) (F : Fr h₀ L s.heap m) (KX : (hd.heap_39 w.params).In h₀) (N : News h₀ L s.heap news)
    (T : Top hd.view_39 (looseW hd.view_39 []) mean mg mb h₀) (hk : cs.kind = .function)
    (hx : (x, instObj 59 d) ∈ news) (hd' : (d, dictOf (recDict w.params l r t1 t2 t3 t4) 4) ∈ news) (hl : (l, listOf xs nn) ∈ news) (hss : StrsAre xs.toList ss) (hr : (r, listOf #[] 0) ∈ news)
    (hx2 : (x', instObj 59 d') ∈ news) (hd2 : (d', dictOf (recDict w.params l' r' t1' t2' t3' t4') 4) ∈ news) (hl2 : (l', listOf xs' nn') ∈ news) (hss2 : StrsAre xs'.toList ss') (hr2 : (r', listOf #[] 0) ∈ news)
    (hlen : ss.length ≤ 10) (hlen2 : ss'.length ≤ 10) (hroom : dp + 8 < recursionLimit) (hun : un + 60 < cLine)
    (hQ : ∀ x'' d'' l'' r'' t1 t2 t3 t4 ys k h' tk', StrsAre ys.toList (ss.filter fun q => ss'.any fun x => x == q) → Fr h₀ L h' m →
      News h₀ L h' ((r'', listOf #[] 0) :: (l'', listOf ys k) :: (x'', instObj 59 d'') :: (d'', dictOf (recDict w.params l'' r'' t1 t2 t3 t4) 4) :: news) → (∀ p ∈ news, p.1 < d'') → @LT.lt Nat _ d'' x'' → @LT.lt Nat _ x'' l'' → @LT.lt Nat _ l'' r'' → Q (.ref x'') { s with heap := h', toks := tk' }) :
    wpAny (model PySem.Challenge.rw_sc0026_01.row.prog w) (ktrTop dp un gd cn cs L a ccd cl outer) (call (.ref 70) [.ref x, .ref x']) Q E s := by
  w_top off
  revert KX
  k_fill
  intro KX
  refine wpAny_call ?_
  k_dflt cell_enter
  k_steps
  rename Fr _ _ _ _ => lF
  rename News _ _ _ _ => lN
  refine' set_K lF lN rfl ?h1 hss2 (by have := strs_size hss2; unfold scanBound; omega) ?_
  case h1 => k_mem
  intro h' tk c S es ep t hSet F' N'
  k_steps
  refine' contains_K F' N' ?h1 rfl (by show dp + 1 + 4 < recursionLimit; omega) (by show un + 3 + 40 < cLine; omega) ?_
  case h1 => k_mem
  intro h1' tk1 bm F1 N1
  k_steps
  refine wp_loose ?_
  refine' filter_K F1 N1 ?h1 (by show dp + 1 + 4 < recursionLimit; omega) (by show un + 3 + 40 < cLine; omega) ?_
  case h1 => k_mem
  intro h2' tk2 it fl hne hap F2 N2
  k_steps
  refine' list_K F2 N2 rfl hne hap ?m1 ?m2 hSet ?m3 hss (by rw [PySem.sizeLine_eq]; omega) (fun p hp => List.mem_cons_of_mem _ (List.mem_cons_of_mem _ hp)) ?_
  case m1 => k_mem
  case m2 => k_mem
  case m3 => k_mem
  intro h3' tk3 rr acc kk hacc F3 N3 l3
  k_lt l3
  k_steps
  rename Fr _ _ _ _ => lF
  rename News _ _ _ _ => lN
  exact hQ _ _ _ _ _ _ _ _ _ _ _ _ hacc lF (drop2 lN) (by assumption) (by assumption) l3.2.2.1 (by rename _ < _ ∧ _ < _ ∧ _ < _ ∧ _ < _ ∧ _ < _ ∧ AllLt _ _ => q; exact q.1)
end
/-! C_marks -/
section

/-- one size further round the ring -/
def markStep (a : Int × List Int) (n : Int) : Int × List Int := (Int.fmod (a.1 + n) 12, if a.2.any (· == Int.fmod (a.1 + n) 12) then a.2 else a.2 ++ [Int.fmod (a.1 + n) 12])
def marksOf (ns : List Int) : List Int := (ns.foldl markStep (0, [])).2
theorem take_fold {β : Type} {f : β → Int → β} {b : β} {ns : List Int} {i : Nat} {n : Int} (h : ns[i]? = some n) : (ns.take (i + 1)).foldl f b = f ((ns.take i).foldl f b) n := by
  rw [List.take_add_one, h]; simp
theorem fold_len (ns : List Int) : ∀ a : Int × List Int, (ns.foldl markStep a).2.length ≤ a.2.length + ns.length := by
  induction ns with
  | nil => intro a; exact Nat.le_refl _
  | cons n r ih =>
    intro a
    have h1 := ih (markStep a n)
    have h2 : (markStep a n).2.length ≤ a.2.length + 1 := by unfold markStep; dsimp only; split <;> simp
    simp only [List.foldl_cons, List.length_cons]; omega

set_option maxRecDepth 100000 in
set_option maxHeartbeats 8000000 in
theorem marks_spec {w : World} {mean : ExcName → Option Value} {mg mb : Str → Option Value} {news : List (Addr × Obj)}
    {dp un : Nat} {gd : Option (List Code)} {cn : Str} {cs : Scope} {a : Addr} {ccd : Value} {cl : List (Str × Addr)} {outer : List Env} {A₀ : Around} {base h₀ : Heap} {L : Addr} {m : Str → Option Value} {s : Shared} {Q E : Value → Shared → Prop}
    {ls : Addr} {vs : List Value} {ns : List Int} {n : Nat}
    (B : Below A₀ base outer h₀) (F : Fr h₀ L s.heap m) (KX : (hd.heap_39 w.params).In h₀) (N : News h₀ L s.heap news)
    (T : Top hd.view_39 (looseW hd.view_39 []) mean mg mb h₀) (hk : cs.kind = .function)
    (hm : (ls, listOf vs.toArray n) ∈ news) (hi : IntsAre vs ns) (hlen : ns.length ≤ 4) (hroom : dp + 8 < recursionLimit) (hun : un + 200 < cLine)
    (hQ : ∀ l xs k h' tk', IntsAre xs.toList (marksOf ns) → Fr h₀ L h' m → News h₀ L h' ((l, listOf xs k) :: news) → (∀ p ∈ news, p.1 < l) → Q (.ref l) { s with heap := h', toks := tk' }) :
    wpAny (model PySem.Challenge.rw_sc0026_01.row.prog w) (ktrTop dp un gd cn cs L a ccd cl outer) (call (.ref 103) [.ref ls]) Q E s := by
  w_top off
  revert KX
  k_fill
  intro KX
  refine wpAny_call ?_
  k_dflt cell_enter
  k_steps
  rename Fr _ _ _ _ => lF
  rename News _ _ _ _ => lN
  with_unfolding_all refine' iter_app1 (y := Str.ofString "place") (pre := []) (post := _) (fun i p xs => p = ((ns.take i).foldl markStep (0, [])).1 ∧ IntsAre xs.toList ((ns.take i).foldl markStep (0, [])).2) 0 _ ?h0 ?h1 ?h2 ?h3 lF lN ?h4 ?h7 ?h5 ?h6
  case h0 => decide
  case h1 => rfl
  case h2 => exact hm
  case h3 => assumption
  case h4 => exact ⟨rfl, .nil⟩
  case h7 => rfl
  case h5 =>
    intro i n t p tp xs nx h tk own hn hJ hoff F' N'
    clear lF lN
    (try dsimp only [List.nil_append, List.cons_append] at N')
    have hoff' := hoff.ne (b := _) (List.mem_map_of_mem (List.mem_append_right _ (.head _)))
    clear hoff
    dsimp only at hoff'
    obtain ⟨hp, hJ⟩ := hJ
    subst hp
    have hz2 : xs.size ≤ 4 := by
      have h1 := hJ.length
      have h2 := fold_len (ns.take i) (0, [])
      simp at h1 h2
      omega
    k_steps
    · refine app1End (xs := xs) (by assumption) (by assumption) ?_ rfl ?_ (fun p hp => List.mem_append_left _ hp) (fun p hp => List.mem_append_right _ hp) rfl
      · rw [take_fold hn]
        unfold markStep
        rw [if_pos (by assumption)]
        exact ⟨rfl, hJ⟩
      · intro z hz1 hz2
        simp [hz1, hz2]
    · refine app1End (xs := xs.push _) (by assumption) (by assumption) ?_ rfl ?_ (fun p hp => List.mem_append_left _ hp) (fun p hp => List.mem_append_right _ hp) rfl
      · rw [take_fold hn]
        unfold markStep
        rw [if_neg (by rw [Bool.not_eq_true]; assumption)]
        refine ⟨rfl, ?_⟩
        rw [Array.toList_push]
        exact hJ.append (.cons _ _ .nil)
      · intro z hz1 hz2
        simp [hz1, hz2]
  case h6 =>
    intro u p xs nx h tk hJ F' N'
    clear lF lN
    (try dsimp only [List.nil_append, List.cons_append] at N')
    rw [List.take_length] at hJ
    k_steps
    exact hQ _ _ _ _ _ hJ.2 (by assumption) (by assumption) (by assumption)
end
/-! C_new -/
section

set_option maxRecDepth 100000 in
set_option maxHeartbeats 16000000 in
/-- a new record -/
theorem new_spec {w : World} {mean : ExcName → Option Value} {mg mb : Str → Option Value} {news : List (Addr × Obj)}
    {dp un : Nat} {gd : Option (List Code)} {cn : Str} {cs : Scope} {a : Addr} {ccd : Value} {cl : List (Str × Addr)} {outer : List Env} {A₀ : Around} {base h₀ : Heap} {L : Addr} {m : Str → Option Value} {s : Shared} {Q E : Value → Shared → Prop}
    (B : Below A₀ base outer h₀) (F : Fr h₀ L s.heap m) (KX : (hd.heap_39 w.params).In h₀) (N : News h₀ L s.heap news)
    (T : Top hd.view_39 (looseW hd.view_39 []) mean mg mb h₀) (hk : cs.kind = .function)
    (hroom : dp + 4 < recursionLimit) (hun : un + 20 < cLine)
    (hQ : ∀ x d l r t1 t2 t3 t4 h' tk', Fr h₀ L h' m → News h₀ L h' ((r, listOf #[] 0) :: (l, listOf #[] 0) :: (x, instObj 59 d) :: (d, dictOf (recDict w.params l r t1 t2 t3 t4) 4) :: news) → (∀ p ∈ news, p.1 < d) → @LT.lt Nat _ d x → @LT.lt Nat _ x l → @LT.lt Nat _ l r → Q (.ref x) { s with heap := h', toks := tk' }) :
    wpAny (model PySem.Challenge.rw_sc0026_01.row.prog w) (ktrTop dp un gd cn cs L a ccd cl outer) (call (.ref 59) []) Q E s := by
  w_top off
  revert KX
  k_fill
  intro KX
  k_dflt (refine' call_cls ?k1 ?k2 ?k3 ?k4 ?k5 ?k6 ?_; (case k1 => k_asm); (case k2 => k_asm); (case k3 => k_asm); (case k4 => k_is); (case k5 => k_is); (case k6 => k_is); k_whole; intro x' d' h' F' N' l1 l2; (try k_lt l1); (try k_lt2 l2); (try k_sweep))
  k_dflt cell_enter
  k_steps
  rename Fr h₀ _ _ _ => lF
  rename News h₀ _ _ _ => lN
  exact hQ _ _ _ _ _ _ _ _ _ _ lF lN l1 l2 (by rename _ < _ ∧ _ < _ ∧ AllLt _ _ => q; exact q.1) (by rename _ < _ ∧ _ < _ ∧ _ < _ ∧ AllLt _ _ => q; exact q.1)
end
local macro_rules | `(tactic| walk_at $s:str) => if ["exec Assign cons ListComp", "eval ListComp", "CompSrc", "CompSrcT", "call ref"].contains s.getString then `(tactic| (k_here; refine hold ?_)) else Lean.Macro.throwUnsupported
/-! C_ways -/
section

/-- the twelve records stand in the ledger -/
def Recs (P : Params) (rs : List Value) (ms : List Int) (b : Nat) (news : List (Addr × Obj)) : Prop :=
  rs.length = 12 ∧ ∀ k : Nat, k < 12 → ∃ (x d l r : Addr) (t1 t2 t3 t4 : Tok) (xs : Array Value) (nn : Nat), rs[k]? = some (.ref x) ∧ (x, instObj 59 d) ∈ news ∧ (d, dictOf (recDict P l r t1 t2 t3 t4) 4) ∈ news ∧ (l, listOf xs nn) ∈ news ∧ StrsAre xs.toList (agents b ms (k : Int))
theorem Recs.mono {P : Params} {rs : List Value} {ms : List Int} {b : Nat} {news news' : List (Addr × Obj)} (h : Recs P rs ms b news) (hs : ∀ p ∈ news, p ∈ news') : Recs P rs ms b news' :=
  ⟨h.1, fun k hk => let ⟨x, d, l, r, t1, t2, t3, t4, xs, nn, a, b, c, e, f⟩ := h.2 k hk; ⟨x, d, l, r, t1, t2, t3, t4, xs, nn, a, hs _ b, hs _ c, hs _ e, f⟩⟩

theorem up6 {a b c d e f p : Addr × Obj} {news own : List (Addr × Obj)} (h : p ∈ news) : p ∈ a :: b :: c :: d :: e :: f :: (news ++ own) := by simp [h]
def WaysOk (w : World) (mean : ExcName → Option Value) (mg mb : Str → Option Value) (f : Nat) : Prop :=
  ∀ {news : List (Addr × Obj)}
    {dp un : Nat} {gd : Option (List Code)} {cn : Str} {cs : Scope} {a : Addr} {ccd : Value} {cl : List (Str × Addr)} {outer : List Env} {A₀ : Around} {base h₀ : Heap} {L : Addr} {m : Str → Option Value} {s : Shared} {Q E : Value → Shared → Prop}
    {lr lm lt : Addr} {rs vm vt : List Value} {ms ts : List Int} {n n2 n3 : Nat} {b b' : Nat} {tk : Tok}
    (B : Below A₀ base outer h₀) (F : Fr h₀ L s.heap m) (KX : (hd.heap_39 w.params).In h₀) (N : News h₀ L s.heap news)
    (T : Top hd.view_39 (looseW hd.view_39 []) mean mg mb h₀) (hk : cs.kind = .function)
    (hm : (lm, listOf vm.toArray n) ∈ news) (hi : IntsAre vm ms) (hlen : ms.length ≤ 4) (hms : Places ms) (hr : (lr, listOf rs.toArray n2) ∈ news) (hrec : Recs w.params rs ms b news) (ht : (lt, listOf vt.toArray n3) ∈ news) (hti : IntsAre vt ts) (hts : Places ts) (hb : b = 65 ∨ b = 97) (hb' : b' = 65 ∨ b' = 97) (hfu : (freeOf ts).length < f)
    (hroom : dp + 20 + f < recursionLimit) (hun : un + 200 + 20 * f < cLine)
    (hQ : ∀ t h' tk', Fr h₀ L h' m → News h₀ L h' news → Q (.int (waysL f ms ts) t) { s with heap := h', toks := tk' }),
    wpAny (model PySem.Challenge.rw_sc0026_01.row.prog w) (ktrTop dp un gd cn cs L a ccd cl outer) (call (.ref 115) [.ref lr, .ref lm, .str (alpha b') tk, .ref lt]) Q E s
set_option maxRecDepth 100000 in
set_option maxHeartbeats 16000000 in
theorem ways_step {w : World} {mean : ExcName → Option Value} {mg mb : Str → Option Value} {f : Nat} (ih : WaysOk w mean mg mb f) : WaysOk w mean mg mb (f + 1) := by
  intro news dp un gd cn cs a ccd cl outer A₀ base h₀ L m s Q E lr lm lt rs vm vt ms ts n n2 n3 b b' tk B F KX N T hk hm hi hlen hms hr hrec ht hti hts hb hb' hfu hroom hun hQ
  have htiK : Held (IntsAre vt ts) := hti
  have hiK : Held (IntsAre vm ms) := hi
  have htl := hts.len
  have htr := hts.2
  w_top off
  revert KX
  k_fill
  intro KX
  refine wpAny_call ?_
  k_dflt (refine' code_defC ?k1 ?k2 ?k3 ?k4 ?k5 ?kA ?kF ?kK ?k6 ?k7 ?k8 ?k9 ?kB ?kD ?_ ?c2 ?c3 ?c4; (case kA => exact rfl); (case kF => exact rfl); (case kK => assumption); (case k1 => k_asm); (case k2 => k_asm); (case k3 => k_asm); (case k4 => k_asm); (case k5 => k_asm); (case k6 => k_is); (case k7 => k_is); (case k8 => ktr_room); (case k9 => exact BindsTo.of_eq rfl); (case kB => exact rfl); (case kD => decide +kernel); (case c2 => exact rfl); (case c3 => exact rfl); (case c4 => exact rfl); k_whole; intro g' L' h' tk' cells' FG' F' N' Y' B' X' T' l1; (try k_lt l1); k_cells Y'; (try simp only [List.cons_append, List.nil_append] at N'); (try dsimp only); (try k_lift B'); (try k_fold))
  k_steps
  show wpAny _ _ _ _ _ _
  refine LCt.Assign_ListComp_T (F₀ := by k_asm) (by rfl) (by with_unfolding_all rfl) (by with_unfolding_all rfl) (by decide) (by rfl) (by decide) (by rfl) (by rfl) (by rfl) ?_
  k_steps
  show LCt.CompSrcT _ _ _ _ _ _ _ _ _ _ _ _ _ _ _
  refine LCt.CompSrcT.range (by rfl) (by k_asm) (by k_asm) (by assumption) (by decide) (by rfl) (by rw [PySem.sizeLine_eq]; decide) ?_
  intro g1
  refine rest_filter (ks := rangeKs 0 12) (fun k => !(ts.any (· == k))) rfl range_P trivial ?_ (fun _ => rfl) (fun _ => rfl) (by decide) ?_
  · intro k t I oI C oC D m2 ys h tk E1 hk1 hC hx F1 N1 off ne
    k_steps
    exact Only.intro
  intro ys hys
  replace hys : IntsAre ys (freeOf ts) := hys
  rcases hf : freeOf ts with _ | ⟨q, r⟩
  · rw [hf] at hys
    cases hys
    k_steps
    have := hQ
    unfold waysL at this
    rw [hf] at this
    rename News _ _ _ _ => lN
    exact this _ _ _ (by assumption) (fun p hp => lN p (by simp [hp]))
  rw [hf] at hys
  obtain ⟨tq, ys', rfl, hr'⟩ : ∃ tq ys', ys = Value.int q tq :: ys' ∧ IntsAre ys' r := by
    cases hys with
    | cons _ tq hr' => exact ⟨tq, _, rfl, hr'⟩
  have hfree : freeOf ts ≠ [] := by rw [hf]; simp
  k_steps
  · exact absurd (by assumption : decide (q :: r = []) = true) (by simp)
  show wpAny _ _ _ _ _ _
  refine LCg.ListComp_U (F₀ := by k_asm) (by with_unfolding_all rfl) (by decide) (by rfl) (by decide) (by rfl) ?_
  k_steps
  show LCg.CompSrc _ _ _ _ _ _ _ _ _ _ _ _ _ _
  refine' LCg.CompSrc.ledger (by rfl) (by k_asm) (by k_asm) ?m1 ?m2 ?_
  case m1 => k_mem
  case m2 => (have := (show IntsAre vt ts from htiK).length; rw [List.size_toArray, this, PySem.sizeLine_eq]; omega)
  intro g2
  refine' rest_map (fun i ys => StrsAre ys ((ts.take i).map fun k => letter b' k.toNat)) ?s1 .nil ?_ ?_
  case s1 => exact Or.inr ⟨_, by k_mem, rfl, _, rfl⟩
  · intro i v I oI C oC D m2 ys h tk E1 hi1 hv hJ hC hx F1 N1 off ne
    obtain ⟨k, t, hk1, rfl⟩ := ints_P (show IntsAre vt ts from htiK) i v hi1 hv
    have hk2 := (htr k (List.mem_of_getElem? hk1)).1
    have hk3 := (htr k (List.mem_of_getElem? hk1)).2
    k_steps
    · rw [List.take_add_one, hk1, List.map_append]
      exact StrsAre.append' hJ (.cons _ _ .nil)
    · exact Only.intro
  intro zs hzs
  rw [show vt.toArray.size = ts.length from by rw [List.size_toArray, (show IntsAre vt ts from htiK).length], List.take_length] at hzs
  k_steps
  rename News _ _ _ _ => lN
  refine' join_list (isList_of ?j1 lN) hzs ?j2 ?_
  case j1 => k_mem
  case j2 =>
    rw [letters_sum, List.length_map, show (Str.ofString "*").length = 1 from by decide]
    omega
  intro tj kj
  have hlj := taken_len b' ts
  unfold takenText at hlj
  k_steps
  refine add_str (hsz := by
    rw [PySem.sizeLine_eq, alpha_len]
    have e : (Txt.join (Str.ofString "*") (ts.map fun k => letter b' k.toNat) ++ Str.ofString "/").length = (Txt.join (Str.ofString "*") (ts.map fun k => letter b' k.toNat)).length + 1 := by
      rw [len_cps, cps_append, stroke_eq]; simp [len_cps]
    omega) ?_
  intro tj3 kj3
  rw [show Txt.join (Str.ofString "*") (ts.map fun k => letter b' k.toNat) ++ Str.ofString "/" ++ alpha b' = nameText b' ts from rfl]
  k_steps
  rename Fr _ _ _ _ => lF
  rename News _ _ _ _ => lN
  with_unfolding_all refine' iter_cell (x := Str.ofString "mark") (y := Str.ofString "ways") (pre := [_, _, _]) (post := _ :: _ :: _) (fun i p => p = ((ms.take i).map fun mark => if hitBy q mark ms ts then 0 else waysL f ms (ts ++ movedBy q mark ms)).sum) 0 _ ?h0 ?h1 ?h2 ?h3 lF lN ?h4 ?h7 ?h8 ?h5 ?h6
  case h0 => decide
  case h1 => rfl
  case h2 => exact List.mem_append_right _ (.tail _ (.tail _ hm))
  case h3 => assumption
  case h4 => assumption
  case h7 => rfl
  case h8 => rfl
  case h6 =>
    intro u p t o h tk hJ hu F' N'
    clear lF lN
    (try dsimp only [List.nil_append, List.cons_append] at N')
    rw [List.take_length] at hJ
    have hq := hQ
    unfold waysL at hq
    rw [hf] at hq
    dsimp only at hq
    rw [← hJ] at hq
    k_steps
    rename News _ _ _ _ => lN
    exact hq _ _ _ (by assumption) (fun p hp => lN p (by simp [hp]))
  intro i mk tm p tp o v h tk own hn hJ hov hoff F' N'
  clear lF lN
  (try dsimp only [List.nil_append, List.cons_append] at N')
  have hoff' := hoff.ne (b := _) (List.mem_map_of_mem (List.mem_append_right _ (.head _)))
  clear hoff
  dsimp only at hoff'
  k_steps
  have hmv0 : 0 ≤ Int.fmod ((q :: r).getD (Int.toNat 0) 0 - mk) 12 := fmod_lo _ (by decide)
  have hmv1 : Int.fmod ((q :: r).getD (Int.toNat 0) 0 - mk) 12 < 12 := fmod_hi _ (by decide)
  obtain ⟨xr, dr, l', r', t1, t2, t3, t4, xs, nn, hrs, hx1, hx2, hx3, hx4⟩ := hrec.2 (Int.fmod ((q :: r).getD (Int.toNat 0) 0 - mk) 12).toNat (by omega)
  rw [show (((Int.fmod ((q :: r).getD (Int.toNat 0) 0 - mk) 12).toNat : Nat) : Int) = Int.fmod (q - mk) 12 from Int.toNat_of_nonneg hmv0] at hx4
  rename News _ _ _ _ => lN
  with_unfolding_all refine' item_list (x := .ref xr) (isList_of ?m1 lN) hmv0 ?m2 ?m3 ?_
  case m1 => exact up6 hr
  case m2 => omega
  case m3 => simpa using hrs
  k_steps
  show wpAny _ _ (call (.ref 49) [.ref xr, .str (nameText b' ts) _]) _ _ _
  rename Fr _ _ _ _ => lF
  rename News _ _ _ _ => lN
  refine' applies_text (y₀ := takenText b' ts) B' lF X' lN T' rfl (up6 hx1) (up6 hx2) (up6 hx3) hx4 (name_len htl) agents_short (name_split hb') ?r1 ?r2 ?_
  case r1 => (show dp + 1 + 4 < recursionLimit; omega)
  case r2 => (show un + 3 + 20 < cLine; omega)
  rw [meets_agents hb' hb htr]
  rw [show (ms.any fun j => ts.any (· == Int.fmod (j + Int.fmod (q - mk) 12) 12)) = hitBy q mk ms ts from rfl]
  intro h2 tk2 F2 N2
  k_steps
  · have hhit : hitBy q mk ms ts = false := by simpa using (by assumption : (hitBy q mk ms ts == false) = true)
    show wpAny _ _ _ _ _ _
    refine LCg.ListComp_U (F₀ := by k_asm) (by with_unfolding_all rfl) (by decide) (by rfl) (by decide) (by rfl) ?_
    k_steps
    show LCg.CompSrc _ _ _ _ _ _ _ _ _ _ _ _ _ _
    refine' LCg.CompSrc.ledger (its := vm.toArray) (k := n) (by rfl) F2 N2 ?c1 ?c2 ?_
    case c1 => exact up6 hm
    case c2 => (have := (show IntsAre vm ms from hiK).length; rw [List.size_toArray, this, PySem.sizeLine_eq]; omega)
    intro g3
    refine' rest_map (fun i ys => IntsAre ys (movedBy q mk (ms.take i))) ?s2 .nil ?_ ?_
    case s2 => exact Or.inr ⟨_, up6 hm, rfl, _, rfl⟩
    · intro i v I oI C oC D m2 ys h tk E1 hi1 hv hJ hC hx F1 N1 off ne
      obtain ⟨k, t, hk1, rfl⟩ := ints_P (show IntsAre vm ms from hiK) i v hi1 hv
      k_steps
      · unfold movedBy
        rw [List.take_add_one, hk1, List.map_append]
        exact IntsAre.append hJ (.cons _ _ .nil)
      · exact Only.intro
    intro zs2 hzs2
    rw [show vm.toArray.size = ms.length from by rw [List.size_toArray, (show IntsAre vm ms from hiK).length], List.take_length] at hzs2
    k_steps
    rename Fr _ _ _ _ => lF
    rename News _ _ _ _ => lN
    refine' kmk_add_ints lF lN (isList_of ?d1 lN) (isList_of ?d2 lN) (show IntsAre vt ts from htiK) hzs2 ?_ ?d3
    case d1 => exact List.mem_cons_of_mem _ (up6 ht)
    case d2 => exact List.mem_cons_self ..
    case d3 => (unfold movedBy; rw [List.length_map, PySem.sizeLine_eq]; omega)
    intro D3 us h3 F3 N3 l3 hus
    k_lt l3
    k_steps
    show wpAny _ _ (call (.ref 115) [_, _, .str (alpha b') _, _]) _ _ _
    rename Fr _ _ _ _ => lF
    rename News _ _ _ _ => lN
    refine' ih (vt := us) B' lF X' lN T' rfl ?e1 (show IntsAre vm ms from hiK) hlen hms ?e2 (hrec.mono ?e3) ?e4 hus (join_places hms hts hhit) hb hb' ?e5 ?e6 ?e7 ?_
    case e1 => exact List.mem_cons_of_mem _ (List.mem_cons_of_mem _ (up6 hm))
    case e2 => exact List.mem_cons_of_mem _ (List.mem_cons_of_mem _ (up6 hr))
    case e3 => exact fun p hp => List.mem_cons_of_mem _ (List.mem_cons_of_mem _ (up6 hp))
    case e4 => exact List.mem_cons_self ..
    case e5 => exact Nat.lt_of_lt_of_le (free_lt hf (List.mem_of_getElem? hn)) (Nat.le_of_lt_succ hfu)
    case e6 => (show dp + 1 + 20 + f < recursionLimit; omega)
    case e7 => (show un + 3 + 200 + 20 * f < cLine; omega)
    intro t4' h4 tk4 F4 N4
    k_steps
    rename News _ _ _ _ => lN
    refine cellEnd (p := p + waysL f ms (ts ++ movedBy q mk ms)) (by assumption) lN (by assumption) ?_ rfl ?_ (fun p hp => List.mem_cons_of_mem _ (List.mem_cons_of_mem _ (List.mem_append_left own hp))) (fun p hp => by simp [hp]) rfl
    · rw [sum_snoc hn, hhit, hJ]; simp
    · intro z hz1 hz2; simp [hz1, hz2]
  · have hhit : hitBy q mk ms ts = true := by simpa using (by assumption : (hitBy q mk ms ts == false) = false)
    refine cellEnd (p := p) F2 N2 (by assumption) ?_ rfl ?_ (fun p hp => List.mem_append_left own hp) (fun p hp => by simp [hp]) rfl
    · rw [sum_snoc hn, hhit, hJ]; simp
    · intro z hz1 hz2; simp [hz1, hz2]
theorem ways_zero {w : World} {mean : ExcName → Option Value} {mg mb : Str → Option Value} : WaysOk w mean mg mb 0 := by
  intro news dp un gd cn cs a ccd cl outer A₀ base h₀ L m s Q E lr lm lt rs vm vt ms ts n n2 n3 b b' tk B F KX N T hk hm hi hlen hms hr hrec ht hti hts hb hb' hfu
  exact absurd hfu (Nat.not_lt_zero _)
theorem ways_spec {w : World} {mean : ExcName → Option Value} {mg mb : Str → Option Value} (f : Nat) : WaysOk w mean mg mb f := by
  induction f with
  | zero => exact ways_zero
  | succ f ih => exact ways_step ih
end
/-! C_due -/
section
local macro_rules | `(tactic| walk_at "binaryOp Pow int int") => `(tactic| (k_here; refine hold ?_))

def apartOf (ns : List Int) : List Int := (rangeKs 1 11).filter fun m => decide (ns.getD m.toNat 0 > 0)
def stepsOf (ns : List Int) : List Int := ([1, 2, 3, 4, 6] : List Int).filter fun st => decide ((apartOf ns).filter (fun m => decide (Int.fmod m st ≠ 0)) = [])
def dueL (ns : List Int) : Int :=
  if ns.getD 0 0 = 1 then 1 else
  if (apartOf ns).filter (fun m => decide (Int.fmod m (if ns.getD 0 0 = 3 then 3 else 4) = 0)) ≠ [] then 0 else
  if ns.getD 0 0 = 4 then ((([0, 3, 6, 9] : List Int).filter fun m => decide (ns.getD m.toNat 0 = 4)).length : Int) ^ 2 else
  ns.getD 0 0 ^ ((stepsOf ns).getD (-1 + ((stepsOf ns).length : Int)).toNat 0 - 1).toNat
theorem steps_pos {ns : List Int} : 0 < (stepsOf ns).length := by
  have h1 : (1 : Int) ∈ stepsOf ns := by
    unfold stepsOf
    refine List.mem_filter.mpr ⟨by simp, decide_eq_true ?_⟩
    rw [List.filter_eq_nil_iff]
    intro a _
    have : Int.fmod a 1 = 0 := by rw [Int.fmod_eq_emod_of_nonneg _ (by decide)]; omega
    simp [this]
  exact List.length_pos_of_mem h1
theorem steps_in {ns : List Int} : 1 ≤ (stepsOf ns).getD (-1 + ((stepsOf ns).length : Int)).toNat 0 ∧ (stepsOf ns).getD (-1 + ((stepsOf ns).length : Int)).toNat 0 ≤ 6 := by
  have hl := steps_pos (ns := ns)
  have hi : (-1 + ((stepsOf ns).length : Int)).toNat < (stepsOf ns).length := by omega
  have hm : (stepsOf ns).getD (-1 + ((stepsOf ns).length : Int)).toNat 0 ∈ stepsOf ns := by
    rw [List.getD_eq_getElem?_getD, List.getElem?_eq_getElem hi]
    exact List.getElem_mem hi
  have h2 := (List.mem_filter.mp hm).1
  simp only [List.mem_cons, List.not_mem_nil, or_false] at h2
  omega
set_option maxRecDepth 100000 in
set_option maxHeartbeats 16000000 in
theorem due_spec {w : World} {mean : ExcName → Option Value} {mg mb : Str → Option Value} {news : List (Addr × Obj)}
    {dp un : Nat} {gd : Option (List Code)} {cn : Str} {cs : Scope} {a : Addr} {ccd : Value} {cl : List (Str × Addr)} {outer : List Env} {A₀ : Around} {base h₀ : Heap} {L : Addr} {m : Str → Option Value} {s : Shared} {Q E : Value → Shared → Prop}
    {ls : Addr} {vs : List Value} {ns : List Int} {n : Nat}
    (B : Below A₀ base outer h₀) (F : Fr h₀ L s.heap m) (KX : (hd.heap_39 w.params).In h₀) (N : News h₀ L s.heap news)
    (T : Top hd.view_39 (looseW hd.view_39 []) mean mg mb h₀) (hk : cs.kind = .function)
    (hm : (ls, listOf vs.toArray n) ∈ news) (hi : IntsAre vs ns) (hlen : ns.length = 12) (hpos : ns.getD 0 0 = 1 ∨ ns.getD 0 0 = 2 ∨ ns.getD 0 0 = 3 ∨ ns.getD 0 0 = 4) (hroom : dp + 20 < recursionLimit) (hun : un + 200 < cLine)
    (hQ : ∀ t h' tk', Fr h₀ L h' m → News h₀ L h' news → Q (.int (dueL ns) t) { s with heap := h', toks := tk' }) :
    wpAny (model PySem.Challenge.rw_sc0026_01.row.prog w) (ktrTop dp un gd cn cs L a ccd cl outer) (call (.ref 120) [.ref ls]) Q E s := by
  w_top off
  revert KX
  k_fill
  intro KX
  refine wpAny_call ?_
  k_dflt (refine' code_defC ?k1 ?k2 ?k3 ?k4 ?k5 ?kA ?kF ?kK ?k6 ?k7 ?k8 ?k9 ?kB ?kD ?_ ?c2 ?c3 ?c4; (case kA => exact rfl); (case kF => exact rfl); (case kK => assumption); (case k1 => k_asm); (case k2 => k_asm); (case k3 => k_asm); (case k4 => k_asm); (case k5 => k_asm); (case k6 => k_is); (case k7 => k_is); (case k8 => ktr_room); (case k9 => exact BindsTo.of_eq rfl); (case kB => exact rfl); (case kD => decide +kernel); (case c2 => exact rfl); (case c3 => exact rfl); (case c4 => exact rfl); k_whole; intro g' L' h' tk' cells' FG' F' N' Y' B' X' T' l1; (try k_lt l1); k_cells Y'; (try simp only [List.cons_append, List.nil_append] at N'); (try dsimp only); (try k_lift B'); (try k_fold))
  k_steps
  · have hq := hQ
    unfold dueL at hq
    have h1 : ns.getD 0 0 = 1 := (by assumption : ns.getD (Int.toNat 0) 0 = 1)
    rw [if_pos h1] at hq
    rename News _ _ _ _ => lN
    exact hq _ _ _ (by assumption) (fun p hp => lN p (by simp [hp]))
  have hne1 : ns.getD 0 0 ≠ 1 := (by assumption : ns.getD (Int.toNat 0) 0 ≠ 1)
  show wpAny _ _ _ _ _ _
  refine wpAny_Assign_Name ?_ (by with_unfolding_all rfl)
  refine LCt.ListComp_T (F₀ := by k_asm) (by with_unfolding_all rfl) (by decide) (by rfl) (by decide) (by rfl) ?_
  k_steps
  show LCt.CompSrcT _ _ _ _ _ _ _ _ _ _ _ _ _ _ _
  refine LCt.CompSrcT.range (n := 11) (by rfl) (by k_asm) (by k_asm) (by assumption) (by decide) (by rfl) (by rw [PySem.sizeLine_eq]; decide) ?_
  intro g1
  refine rest_filter (ks := rangeKs 1 11) (fun m => decide (ns.getD m.toNat 0 > 0)) rfl range_P trivial ?_ (fun _ => rfl) (fun _ => rfl) (by decide) ?_
  · intro k t I oI C oC D m2 ys h tk E1 hk1 hC hx F1 N1 off ne
    have hk2 := (mem_rangeKs hk1).1
    have hk3 := (mem_rangeKs hk1).2
    k_steps
    exact Only.intro
  intro aps haps
  replace haps : IntsAre aps (apartOf ns) := haps
  k_steps
  show wpAny _ _ _ _ _ _
  refine LCt.ListComp_T (F₀ := by k_asm) (by with_unfolding_all rfl) (by decide) (by rfl) (by decide) (by rfl) ?_
  k_steps
  show LCt.CompSrcT _ _ _ _ _ _ _ _ _ _ _ _ _ _ _
  have hapl : (apartOf ns).length ≤ 11 := by
    have := List.length_filter_le (fun m => decide (ns.getD m.toNat 0 > 0)) (rangeKs 1 11)
    rw [rangeKs_length] at this
    exact this
  refine' LCt.CompSrcT.ledger (its := aps.toArray) (k := aps.length) (by rfl) (by k_asm) (by k_asm) ?m1 ?m2 ?_
  case m1 => exact List.mem_cons_self ..
  case m2 => (rw [List.size_toArray, haps.length, PySem.sizeLine_eq]; omega)
  intro g2
  refine' rest_filter (ks := apartOf ns) (fun m => decide (Int.fmod m (if ns.getD 0 0 = 3 then 3 else 4) = 0)) (by rw [List.size_toArray, haps.length]) (ints_P haps) ?s1 ?_ (fun _ => rfl) (fun _ => rfl) (by decide) ?_
  case s1 => exact Or.inr ⟨_, List.mem_cons_self .., rfl, _, rfl⟩
  · intro k t I oI C oC D m2 ys h tk E1 hk1 hC hx F1 N1 off ne
    k_steps
    all_goals first
      | exact Only.intro
      | (have h3 : ns.getD 0 0 = 3 := (by assumption : ns.getD (Int.toNat 0) 0 = 3)
         rw [if_pos h3, Bool.eq_iff_iff, beq_iff_eq, decide_eq_true_eq])
      | (have h3 : ns.getD 0 0 ≠ 3 := (by assumption : ns.getD (Int.toNat 0) 0 ≠ 3)
         rw [if_neg h3, Bool.eq_iff_iff, beq_iff_eq, decide_eq_true_eq])
  intro zs hzs
  k_steps
  · have h4 : ns.getD 0 0 = 4 := (by assumption : ns.getD (Int.toNat 0) 0 = 4)
    show wpAny _ _ _ _ _ _
    refine LCt.ListComp_T (F₀ := by k_asm) (by with_unfolding_all rfl) (by decide) (by rfl) (by decide) (by rfl) ?_
    k_steps
    show LCt.CompSrcT _ _ _ _ _ _ _ _ _ _ _ _ _ _ _
    refine' LCt.CompSrcT.ledger (by rfl) (by k_asm) (by k_asm) ?m1 ?m2 ?_
    case m1 => exact List.mem_cons_self ..
    case m2 => (rw [PySem.sizeLine_eq]; show (4 : Nat) ≤ _; decide)
    intro g3
    refine' rest_filter (ks := [0, 3, 6, 9]) (fun m => decide (ns.getD m.toNat 0 = 4)) rfl (ints_P (.cons _ _ (.cons _ _ (.cons _ _ (.cons _ _ .nil))))) ?s1 ?_ (fun _ => rfl) (fun _ => rfl) (by decide) ?_
    case s1 => exact Or.inr ⟨_, List.mem_cons_self .., rfl, _, rfl⟩
    · intro k t I oI C oC D m2 ys h tk E1 hk1 hC hx F1 N1 off ne
      have hk2 : 0 ≤ k ∧ k < 12 := by
        simp only [List.mem_cons, List.not_mem_nil, or_false] at hk1
        omega
      have hk3 := hk2.1
      have hk4 := hk2.2
      k_steps
      all_goals exact Only.intro
    intro us hus
    have hul : us.length ≤ 4 := by
      rw [hus.length]
      exact List.length_filter_le _ _
    k_steps
    rename News _ _ _ _ => lN
    refine len_list (isList_of (List.mem_cons_self ..) lN) (by rw [List.size_toArray]; omega) ?_
    k_steps
    show wpAny _ _ _ _ _ _
    have hsz2 : us.toArray.size ≤ 4 := by rw [List.size_toArray]; exact hul
    refine pow_int_small (by omega) (by omega) (by omega) ?_
    k_steps
    have heq0 := of_decide_eq_true (by assumption : decide (List.filter (fun m => decide (Int.fmod m (if ns.getD 0 0 = 3 then 3 else 4) = 0)) (apartOf ns) = []) = true)
    have hq := hQ
    unfold dueL at hq
    rw [if_neg hne1, if_neg (fun h => h heq0), if_pos h4] at hq
    have e : ((us.toArray.size : Nat) : Int) = ((([0, 3, 6, 9] : List Int).filter fun m => decide (ns.getD m.toNat 0 = 4)).length : Int) := by rw [List.size_toArray, hus.length]
    rw [← e] at hq
    rename News _ _ _ _ => lN
    exact hq _ _ _ (by assumption) (fun p hp => lN p (by simp [hp]))
  · have h4 : ns.getD 0 0 ≠ 4 := (by assumption : ns.getD (Int.toNat 0) 0 ≠ 4)
    show wpAny _ _ _ _ _ _
    refine Assign_ListComp_C (F₀ := by k_asm) (by rfl) (by with_unfolding_all rfl) (by with_unfolding_all rfl) (fun _ _ => rfl) (fun _ => rfl) (by rfl) (by decide) (fun _ _ => rfl) (by rfl) (by rfl) ?_
    k_steps
    rename Fr _ _ _ _ => lF
    rename News _ _ _ _ => lN
    refine' SrcC.fix (k := 0) (fun i ys => IntsAre ys ((([1, 2, 3, 4, 6] : List Int).take i).filter fun st => decide ((apartOf ns).filter (fun m => decide (Int.fmod m st ≠ 0)) = []))) (by rfl) lF lN ?t1 ?t2 .nil ?_ ?_
    case t1 => exact List.mem_cons_self ..
    case t2 => (rw [PySem.sizeLine_eq]; show (5 : Nat) ≤ _; decide)
    · intro g4 i v I oI C c oC oc D ys h tk E1 hi1 hv hJ hoc hS F1 N1 off ne offc
      obtain ⟨k, t, hk1, rfl⟩ := ints_P (ns := [1, 2, 3, 4, 6]) (.cons _ _ (.cons _ _ (.cons _ _ (.cons _ _ (.cons _ _ .nil))))) i v hi1 hv
      refine wpAny_tests_one ?_
      have hk0 : 1 ≤ k ∧ k ≤ 6 := by
        have := List.mem_of_getElem? hk1
        simp only [List.mem_cons, List.not_mem_nil, or_false] at this
        omega
      have hk00 : k ≠ 0 := by omega
      k_steps
      show wpAny _ _ _ _ _ _
      refine LCt.ListComp_T (F₀ := F1) (by with_unfolding_all rfl) (by decide) (by rfl) (by decide) (by rfl) ?_
      k_steps
      show LCt.CompSrcT _ _ _ _ _ _ _ _ _ _ _ _ _ _ _
      refine' LCt.CompSrcT.ledger (its := aps.toArray) (k := aps.length) (by rfl) F1 N1 ?m1 ?m2 ?_
      case m1 => simp
      case m2 => (rw [List.size_toArray, haps.length, PySem.sizeLine_eq]; omega)
      intro g5
      refine' rest_filter (ks := apartOf ns) (fun m => decide (Int.fmod m k ≠ 0)) (by rw [List.size_toArray, haps.length]) (ints_P haps) ?s1 ?_ (fun _ => rfl) (fun _ => rfl) (by decide) ?_
      case s1 => exact Or.inr ⟨_, (by simp : (_, ({ cls := .type "list", data := .seq aps.toArray aps.length } : Obj)) ∈ _), rfl, _, rfl⟩
      · intro k2 t2 I2 oI2 C2 oC2 D2 m3 ys2 h3 tk3 E3 hk3 hC3 hx3 F3 N3 off3 ne3
        k_steps
        all_goals first
          | exact Only.intro
          | (rw [Bool.eq_iff_iff]; simp; done)
      intro zs2 hzs2
      have hts := take_succ_filter (fun st => decide ((apartOf ns).filter (fun m => decide (Int.fmod m st ≠ 0)) = [])) [1, 2, 3, 4, 6] i k hk1
      k_steps
      · rename News _ _ _ _ => lN
        refine LCg.CompEnd.intro (by assumption) lN _ (fun p hp => List.mem_cons_of_mem _ (List.mem_cons_of_mem _ hp)) off hS (cellTail hoc offc ?_)
        rw [hts, if_pos (by assumption : decide (List.filter (fun m => decide (Int.fmod m k ≠ 0)) (apartOf ns) = []) = true)]
        exact hJ.append (.cons _ _ .nil)
      · rename News _ _ _ _ => lN
        refine LCg.CompEnd.intro (by assumption) lN _ (fun p hp => List.mem_cons_of_mem _ (List.mem_cons_of_mem _ hp)) off hS (cellTail hoc offc ?_)
        rw [hts, if_neg (by rw [Bool.not_eq_true]; exact (by assumption : decide (List.filter (fun m => decide (Int.fmod m k ≠ 0)) (apartOf ns) = []) = false)), List.append_nil]
        exact hJ
    · intro g4 ys hJ
      replace hJ : IntsAre ys (stepsOf ns) := hJ
      have hsp := steps_pos (ns := ns)
      have hsl : (stepsOf ns).length ≤ 5 := List.length_filter_le _ _
      k_steps
      show wpAny _ _ _ _ _ _
      have hst := steps_in (ns := ns)
      refine pow_int_small ?_ ?_ ?_ ?_
      · omega
      · omega
      · rcases hpos with e | e | e | e <;> (show (ns.getD 0 0).natAbs < 2 ^ 64; rw [e]; decide)
      k_steps
      have heq0 := of_decide_eq_true (by assumption : decide (List.filter (fun m => decide (Int.fmod m (if ns.getD 0 0 = 3 then 3 else 4) = 0)) (apartOf ns) = []) = true)
      have hq := hQ
      unfold dueL at hq
      rw [if_neg hne1, if_neg (fun h => h heq0), if_neg h4] at hq
      rename News _ _ _ _ => lN
      exact hq _ _ _ (by assumption) (fun p hp => lN p (by simp [hp]))
  · have hq := hQ
    unfold dueL at hq
    rw [if_neg hne1, if_pos (of_decide_eq_false (by assumption : decide (List.filter (fun m => decide (Int.fmod m (if ns.getD 0 0 = 3 then 3 else 4) = 0)) (apartOf ns) = []) = false))] at hq
    rename News _ _ _ _ => lN
    exact hq _ _ _ (by assumption) (fun p hp => lN p (by simp [hp]))
end
/-! C_row -/
section

theorem ints_some : ∀ (us : List Value), (∀ v ∈ us, ∃ k t, v = Value.int k t) → ∃ js, IntsAre us js
  | [], _ => ⟨[], .nil⟩
  | v :: r, h => by
    obtain ⟨k, t, rfl⟩ := h v (List.mem_cons_self ..)
    obtain ⟨js, hj⟩ := ints_some r fun u hu => h u (List.mem_cons_of_mem _ hu)
    exact ⟨k :: js, .cons k t hj⟩
theorem ints_all : ∀ {vs : List Value} {ns : List Int}, IntsAre vs ns → ∀ v ∈ vs, ∃ k t, v = Value.int k t
  | _, _, .nil, _, h => nomatch h
  | _, _, .cons k t r, v, h => by
    rcases List.mem_cons.mp h with rfl | h
    · exact ⟨k, t, rfl⟩
    · exact ints_all r v h
section
variable {prog : Program} {w : World} {A : Around} {E : Value → Shared → Prop} {s : Shared} {h₀ : Heap} {L : Addr} {m : Str → Option Value} {news : List (Addr × Obj)}
theorem slice3_some {value slice : PySem.Expr} {l : Addr} {vs : List Value} {ns : List Int} {vl vu vk : Value} {lo hi st : Option Int} {ops : List Value} {Q : Value → Shared → Prop}
    (F : Fr h₀ L s.heap m) (N : News h₀ L s.heap news) (hl : s.heap.IsList l vs.toArray) (hi' : IntsAre vs ns) (pl : IsPart vl lo) (pu : IsPart vu hi) (pk : IsPart vk st) (h0 : st ≠ some 0)
    (h : ∀ D (us : List Value) js h', Fr h₀ L h' m → News h₀ L h' ((D, listOf us.toArray 0) :: news) → (∀ p ∈ news, p.1 < D) → IntsAre us js → Q (.ref D) { s with heap := h' })
    (hs : subscripted slice false (.ref l) (.ref s.heap.objs.size) = operate ops (getItem (.ref l) (.ref s.heap.objs.size)) := by with_unfolding_all rfl)
    (ht : ∀ r, letTemporaryGo value (.ref l) r = pure () := by intro _; with_unfolding_all rfl)
    (hsz : ns.length ≤ sizeLine) :
    wpAny (model prog w) A (subscriptTail value slice (.ref l) (.ref s.heap.objs.size)) Q E { s with heap := s.heap.push { cls := .type "slice", data := .fields #[vl, vu, vk] } } := by
  obtain ⟨js, hj⟩ := ints_some (slicePick vs.toArray lo hi st).toList fun v hv => by
    unfold slicePick at hv
    rw [List.toList_toArray, List.mem_filterMap] at hv
    obtain ⟨i, _, hi2⟩ := hv
    exact ints_all hi' v (by simpa using Array.mem_of_getElem? hi2)
  refine slice_list3 F N hl pl pu pk h0 (fun h' F' N' => h _ (slicePick vs.toArray lo hi st).toList js h' F' ?_ (fun p hp => Nat.lt_succ_of_lt (Heap.lt_size (N p hp).1)) hj) hs ht (by rw [List.size_toArray, hi'.length]; exact hsz)
  rw [Array.toArray_toList]
  exact N'
theorem slice_take {value slice : PySem.Expr} {l : Addr} {vs : List Value} {ns : List Int} {k : Nat} {vu : Value} {b : Int} {ops : List Value} {Q : Value → Shared → Prop}
    (F : Fr h₀ L s.heap m) (N : News h₀ L s.heap news) (hl : (l, listOf vs.toArray k) ∈ news) (hi' : IntsAre vs ns) (pu : IsPart vu (some b)) (hb : 0 ≤ b)
    (h : ∀ D (us : List Value) h', Fr h₀ L h' m → News h₀ L h' ((D, listOf us.toArray 0) :: news) → (∀ p ∈ news, p.1 < D) → IntsAre us (ns.take b.toNat) → Q (.ref D) { s with heap := h' })
    (hs : subscripted slice false (.ref l) (.ref s.heap.objs.size) = operate ops (getItem (.ref l) (.ref s.heap.objs.size)) := by with_unfolding_all rfl)
    (ht : ∀ r, letTemporaryGo value (.ref l) r = pure () := by intro _; with_unfolding_all rfl)
    (hsz : ns.length ≤ sizeLine) :
    wpAny (model prog w) A (subscriptTail value slice (.ref l) (.ref s.heap.objs.size)) Q E { s with heap := s.heap.push { cls := .type "slice", data := .fields #[.none, vu, .none] } } := by
  refine slice_list3 F N (isList_of hl N) .none pu .none (by simp) (fun h' F' N' => h _ (slicePick vs.toArray none (some b) none).toList h' F' ?_ (fun p hp => Nat.lt_succ_of_lt (Heap.lt_size (N p hp).1)) (slice_ints_uptoW hi' hb)) hs ht (by rw [List.size_toArray, hi'.length]; exact hsz)
  rw [Array.toArray_toList]
  exact N'
theorem item_pick4 {value slice : PySem.Expr} {l a0 a1 a2 a3 : Addr} {i : Int} {u t1 t2 t3 t4 t5 : Tok} {k : Nat} {Q : Value → Shared → Prop} (N : News h₀ L s.heap news)
    (hl : (l, listOf #[.ref a0, .ref a1, .ref a2, .ref a3] k) ∈ news) (h0 : (a0, listOf #[] 0) ∈ news) (h1 : (a1, listOf #[.int 0 t1] 0) ∈ news) (h2 : (a2, listOf #[.int 127 t2, .int 5 t3] 0) ∈ news) (h3 : (a3, listOf #[.int 0 t4, .int 5 t5] 0) ∈ news)
    (hi0 : 0 ≤ i) (hi4 : i < 4)
    (h : ∀ l4 (vs4 : List Value) tl, (l4, listOf vs4.toArray 0) ∈ news → IntsAre vs4 tl → (tl = [] ∨ tl = [0] ∨ tl = [127, 5] ∨ tl = [0, 5]) → Q (.ref l4) s)
    (hs : subscripted slice false (.ref l) (.int i u) = operate [.ref l, .int i u] (getItem (.ref l) (.int i u)) := by with_unfolding_all rfl) :
    wpAny (model prog w) A (subscriptTail value slice (.ref l) (.int i u)) Q E s := by
  have hc : i = 0 ∨ i = 1 ∨ i = 2 ∨ i = 3 := by omega
  rcases hc with rfl | rfl | rfl | rfl
  · exact item_listR (x := .ref a0) (isList_of hl N) (by decide) (by decide) rfl (h a0 [] [] h0 .nil (.inl rfl)) hs
  · exact item_listR (x := .ref a1) (isList_of hl N) (by decide) (by decide) rfl (h a1 _ _ h1 (.cons 0 t1 .nil) (.inr (.inl rfl))) hs
  · exact item_listR (x := .ref a2) (isList_of hl N) (by decide) (by decide) rfl (h a2 _ _ h2 (.cons 127 t2 (.cons 5 t3 .nil)) (.inr (.inr (.inl rfl)))) hs
  · exact item_listR (x := .ref a3) (isList_of hl N) (by decide) (by decide) rfl (h a3 _ _ h3 (.cons 0 t4 (.cons 5 t5 .nil)) (.inr (.inr (.inr rfl)))) hs
end
section
variable {h₀ : Heap} {L a : Addr} {m : Str → Option Value} {news : List (Addr × Obj)} {M : Model} {A : Around} {E : Value → Shared → Prop} {s : Shared} {cn x : Str} {cs : Scope} {ccd : Value} {cl : List (Str × Addr)} {Q : Unit → Shared → Prop}
theorem store_I {k : Int} {t : Tok} (F : Fr h₀ L s.heap m) (N : News h₀ L s.heap news)
    (h : ∀ h' tk t', Fr h₀ L h' (fun y => if y = x then some (.int k t') else m y) → News h₀ L h' news → Q () ⟨h', s.gens, s.drawn, tk, s.os⟩)
    (hk : cs.kind = .function := by rfl) (hx : (envX cn cs L a ccd cl).kindOf x = some .local := by rfl) : wpAny M A (storeName (envX cn cs L a ccd cl) x (.int k t)) Q E s :=
  storeX_L F N (fun h' F' N' => h h' _ _ F' N') hk hx
theorem store_V {v : Value} (F : Fr h₀ L s.heap m) (N : News h₀ L s.heap news)
    (h : ∀ h' tk, Fr h₀ L h' (fun y => if y = x then some v else m y) → News h₀ L h' news → Q () ⟨h', s.gens, s.drawn, tk, s.os⟩)
    (hk : cs.kind = .function := by rfl) (hx : (envX cn cs L a ccd cl).kindOf x = some .local := by rfl) : wpAny M A (storeName (envX cn cs L a ccd cl) x v) Q E s :=
  storeX_L F N (fun h' F' N' => h h' _ F' N') hk hx
end
local macro_rules | `(tactic| walk_at "storeName") => `(tactic| (k_here; (try dsimp only); k_dflt (first
  | (refine' store_I ?F ?N ?_ ?a ?b; (case F => k_asm); (case N => k_asm); (case a => rfl); (case b => rfl); k_whole; intro h' tk' t' F' N'; (try k_sweep); (try dsimp only))
  | (refine' store_V ?F ?N ?_ ?a ?b; (case F => k_asm); (case N => k_asm); (case a => rfl); (case b => rfl); k_whole; intro h' tk' F' N'; (try k_sweep); (try dsimp only)))))
section
variable {h₀ : Heap} {L : Addr} {m : Str → Option Value} {news : List (Addr × Obj)} {M : Model} {A : Around} {E : Value → Shared → Prop} {s : Shared} {x : Str} {env : Env} {st : Stmt} {k : Int} {t : Tok} {Q : Flow → Shared → Prop}
/-- a name holds an int from lo to hi -/
def IntIn (h₀ : Heap) (L : Addr) (x : Str) (m : Str → Option Value) (news : List (Addr × Obj)) (s : Shared) (lo hi : Int) (s' : Shared) : Prop :=
  ∃ h tk k t, s' = ⟨h, s.gens, s.drawn, tk, s.os⟩ ∧ lo ≤ k ∧ k ≤ hi ∧ Fr h₀ L h (fun y => if y = x then some (.int k t) else m y) ∧ News h₀ L h news
theorem if_int (lo hi : Int) (_F : Fr h₀ L s.heap (fun y => if y = x then some (.int k t) else m y)) (_N : News h₀ L s.heap news)
    (h1 : wpAny M A (exec st env) (fun fl s' => fl = .next ∧ IntIn h₀ L x m news s lo hi s') E s)
    (h2 : ∀ h' tk k' t', lo ≤ k' → k' ≤ hi → Fr h₀ L h' (fun y => if y = x then some (.int k' t') else m y) → News h₀ L h' news → Q .next ⟨h', s.gens, s.drawn, tk, s.os⟩) :
    wpAny M A (exec st env) Q E s :=
  wpAny_mono h1 (fun fl s' h => by
    obtain ⟨rfl, h', tk, k', t', rfl, a, b, F', N'⟩ := h
    exact h2 h' tk k' t' a b F' N') (fun _ _ h => h)
theorem fr_twice {h : Heap} {v v' : Option Value} (F : Fr h₀ L h (fun y => if y = x then v else if y = x then v' else m y)) : Fr h₀ L h (fun y => if y = x then v else m y) := by
  have e : (fun y => if y = x then v else if y = x then v' else m y) = (fun y => if y = x then v else m y) := funext fun y => by by_cases q : y = x <;> simp [q]
  rw [e] at F; exact F
end
local macro_rules | `(tactic| walk_at $s:str) => if ["exec If", "subscriptTail Name Slice ref ref", "binaryOp Add ref ref", "subscriptTail Name BinOp ref int", "subscriptTail List BinOp ref int"].contains s.getString then `(tactic| (k_here; refine hold ?_)) else Lean.Macro.throwUnsupported
local macro_rules | `(tactic| walk_at "subscriptTail") => `(tactic| (k_here; (with_reducible show wpAny _ _ (subscriptTail _ (PySem.Expr.BinOp _ _ _ _) (Value.ref _) (Value.int _ _)) _ _ _); refine hold ?_))
theorem drop9 {g h : Heap} {L : Addr} {a b x1 x2 x3 x4 x5 x6 x7 x8 x9 : Addr × Obj} {news : List (Addr × Obj)} (N : News g L h (a :: b :: x1 :: x2 :: x3 :: x4 :: x5 :: x6 :: x7 :: x8 :: x9 :: news)) : News g L h (a :: b :: news) := by
  intro p hp
  refine N p ?_
  simp only [List.mem_cons] at hp ⊢
  rcases hp with h | h | h <;> simp [h]
/-- the rows that the script can lay -/
def RowShape (ns : List Int) : Prop := ∃ (p s t : Int) (c : Nat) (tl : List Int), (1 ≤ p ∧ p ≤ 24) ∧ (1 ≤ s ∧ s ≤ 24) ∧ (1 ≤ t ∧ t ≤ 45) ∧ (c = 2 ∨ c = 3 ∨ c = 4) ∧ (tl = [] ∨ tl = [0] ∨ tl = [127, 5] ∨ tl = [0, 5]) ∧ ns = [p, s, t, s].take c ++ tl
set_option maxRecDepth 100000 in
set_option maxHeartbeats 16000000 in
theorem row_spec {w : World} {mean : ExcName → Option Value} {mg mb : Str → Option Value} {news : List (Addr × Obj)}
    {dp un : Nat} {gd : Option (List Code)} {cn : Str} {cs : Scope} {a : Addr} {ccd : Value} {cl : List (Str × Addr)} {outer : List Env} {A₀ : Around} {base h₀ : Heap} {L : Addr} {m : Str → Option Value} {s : Shared} {Q E : Value → Shared → Prop}
    {ls : Addr} {vs : List Value} {ns : List Int}
    (B : Below A₀ base outer h₀) (F : Fr h₀ L s.heap m) (KX : (hd.heap_39 w.params).In h₀) (N : News h₀ L s.heap news)
    (T : Top hd.view_39 (looseW hd.view_39 []) mean mg mb h₀) (hk : cs.kind = .function)
    (hls : h₀.IsList ls vs.toArray) (hi : IntsAre vs ns) (hlen : ns.length ≤ 63) (hroom : dp + 20 < recursionLimit) (hun : un + 200 < cLine)
    (hQ : ∀ D R (us : List Value) (js : List Int) (kd : Int) td h' tk', RowShape js → (kd = 0 ∨ kd = 1) → IntsAre us js → Fr h₀ L h' m → News h₀ L h' ((D, ({ cls := .type "tuple", data := .seq #[.ref R, .int kd td] } : Obj)) :: (R, listOf us.toArray 0) :: news) → Q (.ref D) { s with heap := h', toks := tk' }) :
    wpAny (model PySem.Challenge.rw_sc0026_01.row.prog w) (ktrTop dp un gd cn cs L a ccd cl outer) (call (.ref 82) [.ref ls]) Q E s := by
  w_top off
  revert KX
  k_fill
  intro KX
  refine wpAny_call ?_
  k_dflt (refine' code_defC ?k1 ?k2 ?k3 ?k4 ?k5 ?kA ?kF ?kK ?k6 ?k7 ?k8 ?k9 ?kB ?kD ?_ ?c2 ?c3 ?c4; (case kA => exact rfl); (case kF => exact rfl); (case kK => assumption); (case k1 => k_asm); (case k2 => k_asm); (case k3 => k_asm); (case k4 => k_asm); (case k5 => k_asm); (case k6 => k_is); (case k7 => k_is); (case k8 => ktr_room); (case k9 => exact BindsTo.of_eq rfl); (case kB => exact rfl); (case kD => decide +kernel); (case c2 => exact rfl); (case c3 => exact rfl); (case c4 => exact rfl); k_whole; intro g' L' h' tk' cells' FG' F' N' Y' B' X' T' l1; (try k_lt l1); k_cells Y'; (try simp only [List.cons_append, List.nil_append] at N'); (try dsimp only); (try k_lift B'); (try k_fold))
  rename Fr h₀ L _ m => FG0
  have hiK : Held (IntsAre vs ns) := hi
  k_steps
  show wpAny _ _ _ _ _ _
  refine LCg.Assign_ListComp_U (F₀ := by k_asm) (by rfl) (by with_unfolding_all rfl) (by with_unfolding_all rfl) (by decide) (by rfl) (by decide) (by rfl) (by rfl) (by rfl) ?_
  k_steps
  show LCg.CompSrc _ _ _ _ _ _ _ _ _ _ _ _ _ _
  refine LCg.CompSrc.range (n := 5) (by rfl) (by k_asm) (by k_asm) (by assumption) (by decide) (by rfl) (by rw [PySem.sizeLine_eq]; decide) ?_
  intro g1
  refine rest_ind (fun i ys nw => nw = _ ∧ ∃ zs : List Int, IntsAre ys zs ∧ zs.length = i) ?_ ?_ 5 0 [] _ rfl ⟨rfl, [], .nil, rfl⟩
  · rintro i ys nw hi1 ⟨rfl, zs, hzs, hzl⟩ v I oI C oC D m2 h tk E1 ⟨t, rfl⟩ hC hx F1 N1 off ne
    have hi0 : (0 : Int) ≤ 0 + (i : Int) := by omega
    have hi5 : 0 + (i : Int) < 5 := by omega
    k_steps
    show wpAny _ _ _ _ _ _
    rename Fr _ _ _ _ => lF
    rename News _ _ _ _ => lN
    refine' slice3_some lF lN ?p1 (show IntsAre vs ns from hiK) (IsPart.int _ _) IsPart.none (IsPart.int _ _) (by decide) ?_ (by with_unfolding_all rfl) (by intro _; with_unfolding_all rfl) (by rw [PySem.sizeLine_eq]; omega)
    case p1 => exact (hls.at fun o e => FG0.keep _ _ e).at fun o e => lF.keep _ _ e
    intro D' us js h' F' N' l1' hus
    k_lt l1'
    k_steps
    rename News _ _ _ _ => lN
    refine LCg.CompEnd.intro (by assumption) lN _ (fun p hp => List.mem_cons_of_mem _ (List.mem_cons_of_mem _ hp)) off trivial ⟨rfl, _, hzs.append (.cons _ _ .nil), by rw [List.length_append, hzl]; rfl⟩
  · rintro ys nw ⟨rfl, zs, hzs, hzl⟩
    obtain ⟨z0, z1, z2, z3, z4, rfl⟩ : ∃ z0 z1 z2 z3 z4, zs = [z0, z1, z2, z3, z4] := by
      match zs, hzl with
      | [a, b, c, d, e], _ => exact ⟨a, b, c, d, e, rfl⟩
    obtain ⟨u0, u1, u2, u3, u4, rfl⟩ : ∃ u0 u1 u2 u3 u4, ys = [.int z0 u0, .int z1 u1, .int z2 u2, .int z3 u3, .int z4 u4] := by
      cases hzs with | cons _ u0 h => cases h with | cons _ u1 h => cases h with | cons _ u2 h => cases h with | cons _ u3 h => cases h with | cons _ u4 h => cases h; exact ⟨_, _, _, _, _, rfl⟩
    k_steps
    show wpAny _ _ _ _ _ _
    rename Fr _ _ _ _ => lF
    rename News _ _ _ _ => lN
    refine if_int 1 45 lF lN ?_ ?_
    · have b0 := fmod_lo ([z0, z1, z2, z3, z4].getD (Int.toNat 1) 0) (n := 24) (by decide)
      have b1 := fmod_hi ([z0, z1, z2, z3, z4].getD (Int.toNat 1) 0) (n := 24) (by decide)
      have d0 := fmod_lo (([z0, z1, z2, z3, z4].getD (Int.toNat 2) 0).fdiv 2) (n := 24) (by decide)
      have d1 := fmod_hi (([z0, z1, z2, z3, z4].getD (Int.toNat 2) 0).fdiv 2) (n := 24) (by decide)
      have e0 := fmod_lo (([z0, z1, z2, z3, z4].getD (Int.toNat 2) 0).fdiv 2) (n := 8) (by decide)
      have e1 := fmod_hi (([z0, z1, z2, z3, z4].getD (Int.toNat 2) 0).fdiv 2) (n := 8) (by decide)
      refine wpAny_If ?_
      k_steps
      · rename Fr _ _ _ _ => lF
        rename News _ _ _ _ => lN
        exact ⟨_, _, _, _, rfl, by omega, by omega, fr_twice lF, lN⟩
      · rename Fr _ _ _ _ => lF
        rename News _ _ _ _ => lN
        exact ⟨_, _, _, _, rfl, by omega, by omega, lF, lN⟩
    intro h6 tk6 tv tt tv0 tv1 F6 N6
    clear lF lN
    (try dsimp only)
    (try k_sweep)
    k_steps
    show wpAny _ _ _ _ _ _
    rename Fr _ _ _ _ => lF
    rename News _ _ _ _ => lN
    have hc0 := fmod_lo ([z0, z1, z2, z3, z4].getD (Int.toNat 3) 0) (n := 3) (by decide)
    have hc1 := fmod_hi ([z0, z1, z2, z3, z4].getD (Int.toNat 3) 0) (n := 3) (by decide)
    refine slice_take (k := 0) lF lN (List.mem_cons_self ..) (.cons _ _ (.cons _ _ (.cons _ _ (.cons _ _ .nil)))) (IsPart.int _ _) (by omega) ?_ (by with_unfolding_all rfl) (by intro _; with_unfolding_all rfl) (by rw [PySem.sizeLine_eq]; show (4 : Nat) ≤ _; decide)
    intro D' us h' F' N' l1' hus
    k_lt l1'
    clear hc0 hc1 lF lN
    obtain ⟨rr, hus, hrr⟩ : ∃ rr, IntsAre us rr ∧ Held (rr = _) := ⟨_, hus, rfl⟩
    have husK : Held (IntsAre us rr) := hus
    have hrl : rr.length ≤ 4 := by rw [show rr = _ from hrr, List.length_take]; exact Nat.min_le_right _ _
    (try dsimp only)
    (try k_sweep)
    k_steps
    show wpAny _ _ _ _ _ _
    rename News _ _ _ _ => lN
    have h40 := fmod_lo ([z0, z1, z2, z3, z4].getD (Int.toNat 4) 0) (n := 4) (by decide)
    have h41 := fmod_hi ([z0, z1, z2, z3, z4].getD (Int.toNat 4) 0) (n := 4) (by decide)
    refine item_pick4 lN (.head _) (.tail _ (.tail _ (.tail _ (.tail _ (.head _))))) (.tail _ (.tail _ (.tail _ (.head _)))) (.tail _ (.tail _ (.head _))) (.tail _ (.head _)) h40 h41 ?_ (by with_unfolding_all rfl)
    intro l4 vs4 tl hm4 hi4 htl
    have hi4K : Held (IntsAre vs4 tl) := hi4
    have htl' : Held (tl = [] ∨ tl = [0] ∨ tl = [127, 5] ∨ tl = [0, 5]) := htl
    have htll : tl.length ≤ 2 := by rcases htl with h | h | h | h <;> (subst h; decide)
    clear h40 h41 htl
    (try dsimp only)
    k_steps
    show wpAny _ _ _ _ _ _
    rename Fr _ _ _ _ => lF
    refine kmk_add_ints lF lN (isList_of (.tail _ (.tail _ (.tail _ (.tail _ (.tail _ (.head _)))))) lN) (isList_of hm4 lN) (show IntsAre us rr from husK) (show IntsAre vs4 tl from hi4K) ?_ (by rw [PySem.sizeLine_eq]; omega)
    intro D5 us5 h5 F5 N5 l5 hus5
    have hus5K : Held (IntsAre us5 (rr ++ tl)) := hus5
    k_lt l5
    (try dsimp only)
    (try k_sweep)
    k_steps
    rename Fr _ _ _ _ => lF
    rename News _ _ _ _ => lN
    have a0 := fmod_lo ([z0, z1, z2, z3, z4].getD (Int.toNat 0) 0) (n := 24) (by decide)
    have a1 := fmod_hi ([z0, z1, z2, z3, z4].getD (Int.toNat 0) 0) (n := 24) (by decide)
    have b0 := fmod_lo ([z0, z1, z2, z3, z4].getD (Int.toNat 1) 0) (n := 24) (by decide)
    have b1 := fmod_hi ([z0, z1, z2, z3, z4].getD (Int.toNat 1) 0) (n := 24) (by decide)
    have f0 := fmod_lo ([z0, z1, z2, z3, z4].getD (Int.toNat 3) 0) (n := 3) (by decide)
    have f1 := fmod_hi ([z0, z1, z2, z3, z4].getD (Int.toNat 3) 0) (n := 3) (by decide)
    have g0 := fmod_lo (([z0, z1, z2, z3, z4].getD (Int.toNat 4) 0).fdiv 4) (n := 2) (by decide)
    have g1 := fmod_hi (([z0, z1, z2, z3, z4].getD (Int.toNat 4) 0).fdiv 4) (n := 2) (by decide)
    refine hQ _ _ us5 (rr ++ tl) _ _ _ _ ⟨_, _, _, _, tl, ?_, ?_, ?_, ?_, htl', congrArg (· ++ tl) (show rr = _ from hrr)⟩ ?_ (show IntsAre us5 (rr ++ tl) from hus5K) lF (drop9 lN)
    all_goals omega
end
/-! C_plain -/
section
local macro_rules | `(tactic| walk_at "subscriptTail Name Slice ref ref") => `(tactic| (k_here; refine hold ?_))

section
variable {prog : Program} {w : World} {A : Around} {E : Value → Shared → Prop} {s : Shared} {h₀ : Heap} {L : Addr} {m : Str → Option Value} {news : List (Addr × Obj)}
theorem index_L {l : Addr} {vs : List Value} {ns : List Int} {n : Nat} {k : Int} {t : Tok} {Q : Value → Shared → Prop} (N : News h₀ L s.heap news) (hl : (l, listOf vs.toArray n) ∈ news) (hi : IntsAre vs ns)
    (hlen : ns.length ≤ 100) (hk : k ∈ ns) (h : Q (.int (ns.idxOf k : Nat) s.toks) { s with toks := s.toks + 1 }) :
    wpAny (model prog w) A (call (.builtin "list.index") [.ref l, .int k t]) Q E s := by
  have ho := (N _ hl).1
  have hl' := hi.length
  have hj : ns.idxOf k < ns.length := List.idxOf_lt_length_iff.mpr hk
  refine call_meets PySem.F.slot_list_index ⟨_, ho, rfl⟩ PySem.F.entry_list_index (PySem.F.args_list_index_2 _ _)
    (PySem.SeqAt.list_indexAt l vs.toArray n none #[] (.int k t) (isInt k) (ns.idxOf k) (by simpa [hl'] using hj) (by omega) ?_ ?_) ⟨ho, fun y hy => (eq_isInt k t hi y (by simpa using hy)).at _ _, h⟩
  · show isInt k vs[ns.idxOf k] = true
    rw [isInt_at k hi _ (by omega) hj]
    simpa using List.getElem_idxOf hj
  · intro j hjs hlt
    show isInt k vs[j] = false
    rw [isInt_at k hi j (by simpa using hjs) (by omega)]
    exact ne_of_lt_idxOf hlt _
end
def plainL (ns : List Int) : List Int :=
  if (ns.any fun x => x == 127) = true then (ns.take (ns.idxOf 127)).take 4
  else if (ns.any fun x => x == 0) = true then (ns.take (ns.idxOf 0) ++ (List.replicate 4 [(ns.take (ns.idxOf 0)).getD (-1 + ((ns.take (ns.idxOf 0)).length : Int)).toNat 0]).flatten).take 4
  else ns.take 4
theorem shape_pos {ns : List Int} (h : RowShape ns) : 0 < ns.idxOf 0 := by
  obtain ⟨p, s, t, c, tl, hp, hs, ht, hc, htl, rfl⟩ := h
  have hb : (p == 0) = false := by rw [beq_eq_false_iff_ne]; omega
  rcases hc with rfl | rfl | rfl <;> simp [List.idxOf_cons, hb]
theorem drop3 {g h : Heap} {L : Addr} {a x1 : Addr × Obj} {news : List (Addr × Obj)} (N : News g L h (a :: x1 :: news)) : News g L h (a :: news) := fun p hp => N p (by simp only [List.mem_cons] at hp ⊢; rcases hp with h | h <;> simp [h])
theorem shape_not {ns : List Int} (h : RowShape ns) (h1 : (ns.any fun x => x == 127) = true) (h2 : (ns.any fun x => x == 0) = true) : False := by
  obtain ⟨p, s, t, c, tl, hp, hs, ht, hc, htl, rfl⟩ := h
  simp only [List.any_append, Bool.or_eq_true] at h1 h2
  have h3 : ∀ k, (k = 127 ∨ k = 0) → (([p, s, t, s] : List Int).take c).any (fun x => x == k) = false := by
    intro k hk
    rw [List.any_eq_false]
    intro x hx
    have := List.mem_of_mem_take hx
    simp only [List.mem_cons, List.not_mem_nil, or_false] at this
    rw [beq_iff_eq]
    omega
  rw [h3 127 (.inl rfl)] at h1
  rw [h3 0 (.inr rfl)] at h2
  rcases htl with h | h | h | h <;> (subst h; revert h1 h2; decide)
set_option maxRecDepth 100000 in
set_option maxHeartbeats 16000000 in
theorem plain_spec {w : World} {mean : ExcName → Option Value} {mg mb : Str → Option Value} {news : List (Addr × Obj)}
    {dp un : Nat} {gd : Option (List Code)} {cn : Str} {cs : Scope} {a : Addr} {ccd : Value} {cl : List (Str × Addr)} {outer : List Env} {A₀ : Around} {base h₀ : Heap} {L : Addr} {m : Str → Option Value} {s : Shared} {Q E : Value → Shared → Prop}
    {ls : Addr} {vs : List Value} {ns : List Int} {n : Nat}
    (B : Below A₀ base outer h₀) (F : Fr h₀ L s.heap m) (KX : (hd.heap_39 w.params).In h₀) (N : News h₀ L s.heap news)
    (T : Top hd.view_39 (looseW hd.view_39 []) mean mg mb h₀) (hk : cs.kind = .function)
    (hm : (ls, listOf vs.toArray n) ∈ news) (hi : IntsAre vs ns) (hlen : ns.length ≤ 6) (hsh : RowShape ns) (hroom : dp + 20 < recursionLimit) (hun : un + 200 < cLine)
    (hQ : ∀ D (us : List Value) h' tk', IntsAre us (plainL ns) → Fr h₀ L h' m → News h₀ L h' ((D, listOf us.toArray 0) :: news) → Q (.ref D) { s with heap := h', toks := tk' }) :
    wpAny (model PySem.Challenge.rw_sc0026_01.row.prog w) (ktrTop dp un gd cn cs L a ccd cl outer) (call (.ref 89) [.ref ls]) Q E s := by
  w_top off
  revert KX
  k_fill
  intro KX
  refine wpAny_call ?_
  k_dflt cell_enter
  have hiK : Held (IntsAre vs ns) := hi
  k_steps
  · have hk127 : (127 : Int) ∈ ns := by
      obtain ⟨x, hx, e⟩ := List.any_eq_true.mp (by assumption : (ns.any fun x => x == 127) = true)
      rw [beq_iff_eq] at e; exact e ▸ hx
    have hj : ns.idxOf 127 < ns.length := List.idxOf_lt_length_iff.mpr hk127
    rename News _ _ _ _ => lN
    refine index_L lN hm (show IntsAre vs ns from hiK) (by omega) hk127 ?_
    (try dsimp only)
    (try k_sweep)
    k_steps
    show wpAny _ _ _ _ _ _
    rename Fr _ _ _ _ => lF
    refine slice_take lF lN hm (show IntsAre vs ns from hiK) (IsPart.int _ _) (by omega) ?_ (by with_unfolding_all rfl) (by intro _; with_unfolding_all rfl) (by rw [PySem.sizeLine_eq]; omega)
    intro D2 us h2 F2 N2 l2 hus
    rw [show ((ns.idxOf 127 : Nat) : Int).toNat = ns.idxOf 127 from Int.toNat_natCast _] at hus
    have husK : Held (IntsAre us (ns.take (ns.idxOf 127))) := hus
    (try k_lt l2)
    (try dsimp only)
    (try k_sweep)
    k_steps
    · exact (shape_not hsh (by assumption) (by assumption)).elim
    show wpAny _ _ _ _ _ _
    rename Fr _ _ _ _ => lF
    rename News _ _ _ _ => lN
    refine slice_take lF lN (.head _) (show IntsAre us (ns.take (ns.idxOf 127)) from husK) (IsPart.int _ _) (by decide) ?_ (by with_unfolding_all rfl) (by intro _; with_unfolding_all rfl) (by rw [PySem.sizeLine_eq, List.length_take]; omega)
    intro D3 us3 h3 F3 N3 l3 hus3
    have hus3K : Held _ := hus3
    (try dsimp only)
    (try k_sweep)
    k_steps
    refine hQ D3 us3 _ _ ?_ (by assumption) (fun p hp => (by assumption : News h₀ L h3 _) p (by simp only [List.mem_cons] at hp ⊢; rcases hp with h | h <;> simp [h]))
    unfold plainL
    rw [if_pos (by assumption)]
    exact hus3K
  · have hk0 : (0 : Int) ∈ ns := by
      obtain ⟨x, hx, e⟩ := List.any_eq_true.mp (by assumption : (ns.any fun x => x == 0) = true)
      rw [beq_iff_eq] at e; exact e ▸ hx
    have hj : ns.idxOf 0 < ns.length := List.idxOf_lt_length_iff.mpr hk0
    rename News _ _ _ _ => lN
    refine index_L lN hm (show IntsAre vs ns from hiK) (by omega) hk0 ?_
    (try dsimp only)
    (try k_sweep)
    k_steps
    show wpAny _ _ _ _ _ _
    rename Fr _ _ _ _ => lF
    refine slice_take lF lN hm (show IntsAre vs ns from hiK) (IsPart.int _ _) (by omega) ?_ (by with_unfolding_all rfl) (by intro _; with_unfolding_all rfl) (by rw [PySem.sizeLine_eq]; omega)
    intro D2 us h2 F2 N2 l2 hus
    rw [show ((ns.idxOf 0 : Nat) : Int).toNat = ns.idxOf 0 from Int.toNat_natCast _] at hus
    have hp0 : 0 < ns.idxOf 0 := shape_pos hsh
    have hlt : (ns.take (ns.idxOf 0)).length = ns.idxOf 0 := by rw [List.length_take]; omega
    (try dsimp only)
    (try k_sweep)
    k_steps
    show wpAny _ _ _ _ _ _
    rename Fr _ _ _ _ => lF
    rename News _ _ _ _ => lN
    rename IntsAre _ (_ ++ _) => hi9
    refine slice_take lF lN (.head _) hi9 (IsPart.int _ _) (by decide) ?_ (by with_unfolding_all rfl) (by intro _; with_unfolding_all rfl) (by rw [PySem.sizeLine_eq, List.length_append, List.length_take]; show _ + 4 ≤ _; omega)
    intro D3 us3 h3 F3 N3 l3 hus3
    have hus3K : Held _ := hus3
    (try dsimp only)
    (try k_sweep)
    k_steps
    refine hQ D3 us3 _ _ ?_ (by assumption) (fun p hp => (by assumption : News h₀ L h3 _) p (by simp only [List.mem_cons] at hp ⊢; rcases hp with h | h <;> simp [h]))
    unfold plainL
    rw [if_neg (by rw [Bool.not_eq_true]; assumption), if_pos (by assumption)]
    exact hus3K
  · show wpAny _ _ _ _ _ _
    rename Fr _ _ _ _ => lF
    rename News _ _ _ _ => lN
    refine slice_take lF lN hm (show IntsAre vs ns from hiK) (IsPart.int _ _) (by decide) ?_ (by with_unfolding_all rfl) (by intro _; with_unfolding_all rfl) (by rw [PySem.sizeLine_eq]; omega)
    intro D3 us3 h3 F3 N3 l3 hus3
    have hus3K : Held _ := hus3
    (try dsimp only)
    (try k_sweep)
    k_steps
    refine hQ D3 us3 _ _ ?_ (by assumption) (by assumption)
    unfold plainL
    rw [if_neg (by rw [Bool.not_eq_true]; assumption), if_neg (by rw [Bool.not_eq_true]; assumption)]
    exact hus3K
end
/-! C_told -/
section
local macro_rules | `(tactic| walk_at "call builtin:len") => `(tactic| (k_here; (with_reducible show wpAny _ _ (call (Value.builtin "len") [Value.ref _]) _ _ _); k_dflt (refine' len_L ?k1 ?k2 ?k3 ?_; (case k1 => k_asm); (case k2 => k_mem); (case k3 => (first | (rw [Array.size_push]; omega) | omega)); k_whole)))
local macro_rules | `(tactic| walk_at "exec For Name Call cons nil") => `(tactic| (k_here; refine hold ?_))

theorem mem_swap2 {α : Type} {a b p : α} {l : List α} (h : p ∈ a :: b :: ([] ++ l)) : p ∈ b :: a :: l := by
  cases h with
  | head => exact .tail _ (.head _)
  | tail _ h => cases h with
    | head => exact .head _
    | tail _ h => exact .tail _ (.tail _ h)
theorem news4 {g h : Heap} {L : Addr} {a b c d : Addr × Obj} {l : List (Addr × Obj)} (ha : h.get? a.1 = some a.2 ∧ a.1 ≠ L ∧ g.get? a.1 = none) (hb : h.get? b.1 = some b.2 ∧ b.1 ≠ L ∧ g.get? b.1 = none)
    (hc : h.get? c.1 = some c.2 ∧ c.1 ≠ L ∧ g.get? c.1 = none) (hd : h.get? d.1 = some d.2 ∧ d.1 ≠ L ∧ g.get? d.1 = none) (hl : ∀ p ∈ l, h.get? p.1 = some p.2 ∧ p.1 ≠ L ∧ g.get? p.1 = none) : News g L h (a :: b :: c :: d :: l) :=
  List.forall_mem_cons.mpr ⟨ha, List.forall_mem_cons.mpr ⟨hb, List.forall_mem_cons.mpr ⟨hc, List.forall_mem_cons.mpr ⟨hd, hl⟩⟩⟩⟩
set_option maxRecDepth 100000 in
set_option maxHeartbeats 16000000 in
theorem told_spec {w : World} {mean : ExcName → Option Value} {mg mb : Str → Option Value} {news : List (Addr × Obj)}
    {dp un : Nat} {gd : Option (List Code)} {cn : Str} {cs : Scope} {a : Addr} {ccd : Value} {cl : List (Str × Addr)} {outer : List Env} {A₀ : Around} {base h₀ : Heap} {L : Addr} {m : Str → Option Value} {s : Shared} {Q E : Value → Shared → Prop}
    {ls : Addr} {vs : List Value} {ns : List Int} {n : Nat}
    (B : Below A₀ base outer h₀) (F : Fr h₀ L s.heap m) (KX : (hd.heap_39 w.params).In h₀) (N : News h₀ L s.heap news)
    (T : Top hd.view_39 (looseW hd.view_39 []) mean mg mb h₀) (hk : cs.kind = .function)
    (hm : (ls, listOf vs.toArray n) ∈ news) (hi : IntsAre vs ns) (hlen : ns.length ≤ 6) (h0 : ∀ r, ns ≠ 0 :: r) (hroom : dp + 20 < recursionLimit) (hun : un + 200 < cLine)
    (hQ : ∀ D (us : List Value) (ks : List Int) h' tk' gs, gs.bare = true → IntsAre us ks → (∀ j, j < ks.length → ks[j]? = tl ns none j) → ks.length ≤ 4 → (ks.length = 4 ∨ tl ns none ks.length = none) →
      Fr h₀ L h' m → News h₀ L h' ((D, listOf us.toArray ks.length) :: news) → (∀ p ∈ news, p.1 < D) → Q (.ref D) ⟨h', s.gens.push gs, s.drawn, tk', s.os⟩) :
    wpAny (model PySem.Challenge.rw_sc0026_01.row.prog w) (ktrTop dp un gd cn cs L a ccd cl outer) (call (.ref 96) [.ref ls]) Q E s := by
  w_top off
  revert KX
  k_fill
  intro KX
  refine wpAny_call ?_
  k_dflt cell_enter
  k_steps
  show wpAny _ _ _ _ _ _
  refine wpAny_For ?_ (by intro _; with_unfolding_all rfl)
  k_steps
  show wpAny _ _ (call _ [_]) _ _ _
  rename_i gB Lt zz FG BB XX TT tkk lt zz2 l1 hh FF NN
  with_unfolding_all refine' call_gen (args := ⟨[.ref ls], []⟩) FF XX NN TT ?k6 ?k7 ?k8 ?k9 ?kB ?c5 ?c2 ?c3 ?c4 ?_
  case k6 => k_is
  case k7 => k_is
  case k8 => ktr_room
  case k9 => exact rfl
  case kB => exact locs rfl
  case c5 => decide
  case c2 => exact rfl
  case c3 => exact rfl
  case c4 => exact rfl
  intro h1 tk1 oG hfree F1 N1 hLg hG hz1
  dsimp only at F1 N1 hLg hG hz1 ⊢
  refine wpAny_pyIter_gen hG ?_
  have hLs : lt < hh.objs.size := Heap.lt_size (NN _ (.head _)).1
  have hls : ls < lt := l1 _ hm
  have gLg : gB.get? hh.objs.size = none := by
    cases q : gB.get? hh.objs.size with
    | none => rfl
    | some o => exact absurd (Heap.lt_size (FF.keep _ _ q)) (Nat.lt_irrefl _)
  have gIt : gB.get? h1.objs.size = none := by
    cases q : gB.get? h1.objs.size with
    | none => rfl
    | some o => exact absurd (Heap.lt_size (F1.keep _ _ q)) (Nat.lt_irrefl _)
  have hLs2 : lt < h1.objs.size := Heap.lt_size (N1 _ (.tail _ (.head _))).1
  have nLt : Lt ≠ hh.objs.size := Nat.ne_of_lt FF.ns.lt
  have nLt2 : Lt ≠ h1.objs.size := Nat.ne_of_lt F1.ns.lt
  have nlt : lt ≠ hh.objs.size := Nat.ne_of_lt hLs
  have nlt2 : lt ≠ h1.objs.size := Nat.ne_of_lt (Heap.lt_size (N1 _ (.tail _ (.head _))).1)
  have F1' := fr_split (Str.ofString "size") F1
  refine' codeAny_forLoop (IT PySem.Challenge.rw_sc0026_01.row.prog w _ gB Lt hh.objs.size h1.objs.size (hh.objs.size + 1) ls lt (listOf vs.toArray n) oG s.gens s.drawn s.os (Str.ofString "size") _ news (tl ns none)) ?turn 4 ⟨h1, tk1, _, #[], [], _, [], rfl, by decide, rfl, ?bare, .nil, ?nil, F1', ?nw, ?pv, ?goes⟩
  case bare => rfl
  case nil => intro j hj; cases hj
  case nw =>
    exact fun p hp => N1 p (mem_swap2 hp)
  case pv => intro p hp; cases hp
  case turn =>
    rintro k s' ⟨h, tk, gs, xs, ks, u, pv, rfl, hk0, hk4, hb, hi2, htold, F2, N2, hpv, hgo⟩
    have hlim := TT.nolimit.keeps F2.keep
    refine next_gen (n := k) rfl hlim ?room (IsGen_at hG (N1 _ (.head _)).1 (N2 _ (.tail _ (.head _))).1) (gs := gs) (by simp) (by unfold Shared.setGen; dsimp only; rw [setGen_last]; exact hgo) ?hY ?hP
    case room => ktr_room
    case hY =>
      rintro v ⟨h1', gens1, dr1, tk1', os1⟩ gs' hb' ⟨⟨x, t, htx, rfl⟩, ⟨e1, e2, e3, e4⟩, oL, oI, hoL, hoI, hnext⟩
      dsimp only [Shared.setGen] at e1 e2 e3 e4 hoL hoI hnext
      rw [setGen_last] at e1
      subst e1 e2 e3
      show wpAny _ _ (assign _ _ _) _ _ (Shared.setGen ⟨h1', s.gens.push .running, s.drawn, tk1', s.os⟩ s.gens.size gs')
      rw [show Shared.setGen ⟨h1', s.gens.push .running, s.drawn, tk1', s.os⟩ s.gens.size gs' = ⟨h1', s.gens.push gs', s.drawn, tk1', s.os⟩ from by unfold Shared.setGen; dsimp only; rw [setGen_last]]
      have keep1 : ∀ b o, gB.get? b = some o → h1'.get? b = some o := fun b o q => e4 b o (fun z => by rw [z, gLg] at q; cases q) (fun z => by rw [z, gIt] at q; cases q) (F2.keep b o q)
      obtain ⟨oT, _, _, hoT, _⟩ := id F2.ns
      have F3 := Fr_at F2 keep1 hoT (e4 Lt oT nLt nLt2 hoT)
      have N3 : News gB Lt h1' ((lt, listOf xs ks.length) :: ((hh.objs.size + 1, oG) :: (hh.objs.size, oL) :: (h1.objs.size, oI) :: news)) := by
        have old : ∀ p, p ∈ (lt, listOf xs ks.length) :: (hh.objs.size + 1, oG) :: (pv ++ news) → p.1 ≠ hh.objs.size → p.1 ≠ h1.objs.size → h1'.get? p.1 = some p.2 ∧ p.1 ≠ Lt ∧ gB.get? p.1 = none := fun p hp q1 q2 => ⟨e4 _ _ q1 q2 (N2 p hp).1, (N2 p hp).2⟩
        refine news4 ?_ ?_ ?_ ?_ ?_
        · exact old _ (.head _) nlt nlt2
        · exact old _ (.tail _ (.head _)) (Nat.succ_ne_self _) (by rw [hz1]; exact Nat.ne_of_lt (Nat.lt_succ_self _))
        · exact ⟨hoL, Ne.symm nLt, gLg⟩
        · exact ⟨hoI, Ne.symm nLt2, gIt⟩
        · intro p hp
          exact old _ (.tail _ (.tail _ (List.mem_append_right _ hp))) (Nat.ne_of_lt (Nat.lt_trans (l1 p hp) hLs)) (Nat.ne_of_lt (Nat.lt_trans (l1 p hp) hLs2))
      obtain ⟨rest, hrest⟩ : ∃ rest, rest = (hh.objs.size + 1, oG) :: (hh.objs.size, oL) :: (h1.objs.size, oI) :: news := ⟨_, rfl⟩
      rw [← hrest] at N3
      have hne : ∀ p ∈ rest, p.1 ≠ lt := by
        rw [hrest]
        exact List.forall_mem_cons.mpr ⟨Nat.ne_of_gt (Nat.lt_succ_of_lt hLs), List.forall_mem_cons.mpr ⟨Ne.symm nlt, List.forall_mem_cons.mpr ⟨Ne.symm nlt2, fun p hp => Nat.ne_of_lt (l1 p hp)⟩⟩⟩
      have hz2 : xs.size = ks.length := by rw [← hi2.length, Array.length_toList]
      have hz3 : xs.size ≤ 4 := by omega
      clear F1' hgo N2 F2
      k_steps
      · have hz4 : ks.length + 1 = 4 := by
          rename _ = (4 : Int) => q
          rw [Array.size_push] at q; omega
        rename Fr h₀ _ _ _ => lF
        rename News h₀ _ _ _ => lN
        refine hQ lt (xs.push (.int x t)).toList (ks ++ [x]) _ _ gs' hb' ?_ ?_ ?_ ?_ lF ?_ l1
        · rw [Array.toList_push]; exact hi2.append (.cons _ _ .nil)
        · exact told_snoc htold (by rw [← htx]; congr 1; omega)
        · simp; omega
        · left; simp; omega
        · rw [List.length_append]
          intro p hp
          rcases List.mem_cons.mp hp with rfl | hp
          · exact lN _ (.head _)
          · refine lN p (.tail _ ?_)
            rw [hrest]
            exact .tail _ (.tail _ (.tail _ hp))
      rotate_left 2
      exact k - 1
      · omega
      · have hz4 : ks.length + 1 ≠ 4 := by
          rename _ ≠ (4 : Int) => q
          rw [Array.size_push] at q; omega
        rename Fr gB _ _ _ => lF
        rename News gB _ _ _ => lN
        refine ⟨_, _, gs', xs.push (.int x t), ks ++ [x], _, [(hh.objs.size, oL), (h1.objs.size, oI)], rfl, ?_, ?_, hb', ?_, ?_, fr_or lF, ?_, ?_, ?_⟩
        · omega
        · rw [List.length_append]; show ks.length + 1 + _ = 4; omega
        · rw [Array.toList_push]; exact hi2.append (.cons _ _ .nil)
        · exact told_snoc htold (by rw [← htx]; congr 1; omega)
        · rw [List.length_append]
          rw [hrest] at lN
          exact lN
        · exact List.forall_mem_cons.mpr ⟨.inl rfl, List.forall_mem_cons.mpr ⟨.inr rfl, fun _ hp => nomatch hp⟩⟩
        · obtain ⟨k', rfl⟩ : ∃ k', k = k' + 1 := ⟨k - 1, by omega⟩
          exact hnext (by omega) ⟨_, _, _, _, _⟩ lF.keep (lN (hh.objs.size, oL) (by rw [hrest]; exact .tail _ (.tail _ (.head _)))).1 (lN (h1.objs.size, oI) (by rw [hrest]; exact .tail _ (.tail _ (.tail _ (.head _))))).1 (lN (ls, listOf vs.toArray n) (by rw [hrest]; exact .tail _ (.tail _ (.tail _ (.tail _ hm))))).1
    case hP =>
      rintro ⟨h1', gens1, dr1, tk1', os1⟩ ⟨ht, ⟨e1, e2, e3, e4⟩⟩ h2' hk2
      dsimp only [Shared.setGen] at e1 e2 e3 e4 hk2
      rw [setGen_last] at e1
      subst e1 e2 e3
      show wpAny _ _ (execs _ _) _ _ ⟨h2', (s.gens.push .running).setIfInBounds s.gens.size .finished, s.drawn, tk1', s.os⟩
      rw [setGen_last]
      have keep1 : ∀ b o, gB.get? b = some o → h2'.get? b = some o := fun b o q => hk2 b o (e4 b o (fun z => by rw [z, gLg] at q; cases q) (fun z => by rw [z, gIt] at q; cases q) (F2.keep b o q))
      obtain ⟨oT, _, _, hoT, _⟩ := id F2.ns
      have F3 := Fr_at F2 keep1 hoT (hk2 _ _ (e4 Lt oT nLt nLt2 hoT))
      have N3 : News gB Lt h2' ((lt, listOf xs ks.length) :: news) := by
        have old : ∀ p, p ∈ (lt, listOf xs ks.length) :: (hh.objs.size + 1, oG) :: (pv ++ news) → p.1 ≠ hh.objs.size → p.1 ≠ h1.objs.size → h2'.get? p.1 = some p.2 ∧ p.1 ≠ Lt ∧ gB.get? p.1 = none := fun p hp q1 q2 => ⟨hk2 _ _ (e4 _ _ q1 q2 (N2 p hp).1), (N2 p hp).2⟩
        intro p hp
        simp only [List.mem_cons] at hp
        rcases hp with rfl | hp
        · exact old _ (.head _) nlt nlt2
        · exact old _ (.tail _ (.tail _ (List.mem_append_right _ hp))) (Nat.ne_of_lt (Nat.lt_trans (l1 p hp) hLs)) (Nat.ne_of_lt (Nat.lt_trans (l1 p hp) hLs2))
      clear F1' hgo N2 F2
      k_steps
      rename Fr h₀ _ _ _ => lF
      rename News h₀ _ _ _ => lN
      refine hQ lt xs.toList ks _ _ .finished rfl hi2 htold (by omega) (.inr (by rw [← ht]; congr 1; omega)) lF lN l1
  case goes =>
    refine ⟨rfl, ?_⟩
    refine seg_func (seg_execs_cons (seg_plain (wpAny_Assign_Name ?_ (by with_unfolding_all rfl))))
    rw [eval_Constant]
    refine wpAny_pure (wpAny_storeName_local (by with_unfolding_all rfl) hLg (fun h2 hn2 hs2 => ?_) (by rfl))
    show Seg _ _ _ _ _ _ _ ((execs _ _).wrap _ _ _ _) _ _
    refine seg_execs_cons (seg_For (by intro _; with_unfolding_all rfl) ?_)
    have keep2 : ∀ b o, gB.get? b = some o → h2.get? b = some o := fun b o q => (hs2.2 b (fun z => by have z' : b = hh.objs.size := z; rw [z', gLg] at q; cases q)).trans (F1.keep b o q)
    have FG2 : Fr gB hh.objs.size h2 _ := ⟨hn2, keep2, Nat.le_trans FF.above (Nat.le_of_lt FF.ns.lt)⟩
    refine nameX_L FG2 (v := .ref ls) (by with_unfolding_all rfl) ?_
    have hls2 : h2.get? ls = some (listOf vs.toArray n) := (hs2.2 ls (Nat.ne_of_lt (Nat.lt_trans hls hLs))).trans (N1 (ls, listOf vs.toArray n) (.tail _ (.tail _ hm))).1
    refine wpAny_pyIter_list ⟨_, hls2, rfl, n, rfl⟩ ?_
    intro p
    have hz2 : h2.objs.size = h1.objs.size := hs2.1
    have eI : (Value.ref h2.objs.size) = .ref h1.objs.size := by rw [hz2]
    dsimp only
    rw [eI]
    have F3 : Fr gB hh.objs.size (h2.push { cls := .type "list_iterator", data := .fields #[.ref ls, .int 0 0] }) _ := gmap_start FG2 |>.push _
    have nIL : h1.objs.size ≠ hh.objs.size := by rw [hz1]; exact Nat.ne_of_gt (Nat.lt_succ_of_lt (Nat.lt_succ_self _))
    have nLs : ls ≠ hh.objs.size := Nat.ne_of_lt (Nat.lt_trans hls hLs)
    have nIs : ls ≠ h1.objs.size := Nat.ne_of_lt (Nat.lt_trans hls hLs2)
    have hIt : (h2.push { cls := .type "list_iterator", data := .fields #[.ref ls, .int 0 0] }).get? h1.objs.size = some { cls := .type "list_iterator", data := .fields #[.ref ls, .int 0 0] } := hz2 ▸ Heap.get?_push_size _ rfl
    refine' seg_ind (IG gB hh.objs.size h1.objs.size ls (listOf vs.toArray n) _ ns (tl ns none)) ?g0 ?gstep 4 _ _ ⟨0, none, .none, _, _, _, ({ cls := .type "list_iterator", data := .fields #[.ref ls, .int 0 0] } : Obj), by decide, rfl, rfl, F1.keep, F3, rfl, ?gnw, ⟨_, hIt, rfl, rfl⟩, ?gls, ?gtl, fun _ => h0⟩
    case g0 => rintro s₀' s' ⟨_, _, _, _, _, _, _, q, _⟩; cases q
    case gnw =>
      intro p hp
      rcases List.mem_cons.mp hp with rfl | hp
      · exact ⟨hIt, nIL, gIt⟩
      · obtain ⟨q1, q2, q3, q4⟩ := mem_restOf.mp (show (p.1, p.2) ∈ _ from hp)
        exact ⟨Heap.get?_push_of_some _ ((hs2.2 _ q1).trans q4), q1, q3⟩
    case gls => exact mem_restOf.mpr ⟨nLs, nIs, (N1 (ls, listOf vs.toArray n) (.tail _ (.tail _ hm))).2.2, (N1 (ls, listOf vs.toArray n) (.tail _ (.tail _ hm))).1⟩
    case gtl => intro j; rw [Nat.zero_add]; rfl
    case gstep =>
      rintro nn s₀' s' ⟨i, last, lv, u, h, tk, oI, hn0, hin, rfl, hg, F2, hlv, N2, hit, hls', htl, hz⟩ ih
      refine seg_forLoop rfl ?_
      have hisl : h.IsList ls vs.toArray := ⟨_, (N2 _ (.tail _ hls')).1, rfl, n, rfl⟩
      have hln := hi.length
      cases hx : ns[i]? with
      | none =>
        refine wpAny_pyNext_list_end rfl hit hisl ?_ (fun h' he => ?_)
        · have := List.getElem?_eq_none_iff.mp hx
          simp; omega
        dsimp only
        refine seg_block_nil ?_
        show Seg _ _ _ _ _ _ _ (leafOf (.ok (.ret .none))) [] _
        refine seg_end _ ⟨rfl, ?_, ?_⟩
        · have := htl 0
          rw [List.drop_eq_nil_of_le (List.getElem?_eq_none_iff.mp hx)] at this
          rw [show 4 - (nn + 1) = i + 0 from by omega, this]
          rfl
        · have N4 : News gB hh.objs.size h' (restOf gB s₀'.heap hh.objs.size h1.objs.size) := fun p hp => ⟨he _ _ (mem_restOf.mp (show (p.1, p.2) ∈ _ from hp)).2.1 (N2 p (.tail _ hp)).1, (N2 p (.tail _ hp)).2⟩
          have F4 : Fr gB hh.objs.size h' _ := Fr_at F2 (fun b o q => he b o (fun z => by rw [z, gIt] at q; cases q) (F2.keep b o q)) F2.ns.choose_spec.choose_spec.choose_spec.1 (he _ _ (Ne.symm nIL) F2.ns.choose_spec.choose_spec.choose_spec.1)
          exact same3_of hg F4 N4 fun _ hp => hp
      | some x =>
        obtain ⟨t, hv⟩ := ints_at hi hx
        refine wpAny_pyNext_list_item hit hisl hv (fun h' hit' hs' => ?_)
        dsimp only
        obtain ⟨oI', hoI', rI⟩ := id hit'
        have N4 : News gB hh.objs.size h' ((h1.objs.size, oI') :: restOf gB s₀'.heap hh.objs.size h1.objs.size) := by
          intro p hp
          rcases List.mem_cons.mp hp with rfl | hp
          · exact ⟨hoI', nIL, gIt⟩
          · exact ⟨(hs'.2 _ (mem_restOf.mp (show (p.1, p.2) ∈ _ from hp)).2.1).trans (N2 p (.tail _ hp)).1, (N2 p (.tail _ hp)).2⟩
        have F4 : Fr gB hh.objs.size h' _ := Fr_at F2 (fun b o q => (hs'.2 b (fun z => by rw [z, gIt] at q; cases q)).trans (F2.keep b o q)) F2.ns.choose_spec.choose_spec.choose_spec.1 ((hs'.2 _ (Ne.symm nIL)).trans F2.ns.choose_spec.choose_spec.choose_spec.1)
        clear F2 N2 hit
        unfold gmap at F4
        k_steps
        refine seg_execs_cons (seg_If ?_)
        k_steps
        show Seg _ _ _ _ _ _ _ ((if _ then execs _ _ else execs _ _).wrap _ _ _ _) _ _
        split
        · rename _ = true => q1
          have e1 : x = 127 := by simpa using q1
          refine seg_execs_cons (seg_plain ?_)
          k_steps
          show Seg _ _ _ _ _ _ _ (leafOf (.ok (.ret .none))) (_ :: _) _
          refine seg_leaf (.ok (.ret .none)) ?_
          show Seg _ _ _ _ _ _ _ (leafOf (.ok (.ret .none))) [] _
          rename Fr gB hh.objs.size _ _ => lF
          rename News gB hh.objs.size _ _ => lN
          refine seg_end _ ⟨rfl, ?_, same3_of hg lF lN fun _ hp => .tail _ hp⟩
          have := htl 0
          rw [List.drop_eq_getElem_cons (List.getElem?_eq_some_iff.mp hx).1, (List.getElem?_eq_some_iff.mp hx).2] at this
          rw [show 4 - (nn + 1) = i + 0 from by omega, this]
          simp [tl, e1]
        rename ¬ _ = true => q1
        have e1 : x ≠ 127 := by simpa using q1
        have htl' : ∀ j, tl ns none (i + j) = if x = 0 then last else match j with
            | 0 => some x
            | j + 1 => tl (ns.drop (i + 1)) (some x) j := by
          intro j
          rw [htl j, List.drop_eq_getElem_cons (List.getElem?_eq_some_iff.mp hx).1, (List.getElem?_eq_some_iff.mp hx).2]
          cases j <;> simp [tl, e1]
        refine seg_execs_nil ?_
        show Seg _ _ _ _ _ _ _ ((execs _ _).wrap _ _ _ _) _ _
        refine seg_execs_cons (seg_If ?_)
        k_steps
        show Seg _ _ _ _ _ _ _ ((if _ then execs _ _ else execs _ _).wrap _ _ _ _) _ _
        split
        · rename _ = true => q2
          have e2 : x = 0 := by simpa using q2
          obtain ⟨y, ty, rfl, rfl⟩ : ∃ y ty, last = some y ∧ lv = .int y ty := by
            cases last with
            | none =>
              refine absurd ?_ (hz rfl (ns.drop (i + 1)))
              rw [List.drop_eq_getElem_cons (List.getElem?_eq_some_iff.mp hx).1, (List.getElem?_eq_some_iff.mp hx).2, e2]
            | some y => obtain ⟨ty, e⟩ := hlv; exact ⟨y, ty, rfl, e⟩
          refine seg_execs_cons (seg_If ?_)
          k_steps
          show Seg _ _ _ _ _ _ _ ((if _ then execs _ _ else execs _ _).wrap _ _ _ _) _ _
          rw [if_neg (by first | exact Bool.false_ne_true | decide)]
          refine seg_execs_nil ?_
          show Seg _ _ _ _ _ _ _ ((execs _ _).wrap _ _ _ _) _ _
          refine seg_execs_cons (seg_While fun p2 => ?_)
          rename Fr gB hh.objs.size _ _ => lF
          rename News gB hh.objs.size _ _ => lN
          refine' seg_ind (IW gB hh.objs.size h1.objs.size _ (tl ns none)) ?w0 ?wstep (nn + 1) _ _ ⟨y, ty, _, _, _, oI', by omega, rfl, hg, gmap_here lF, lN, ?wtl⟩
          case w0 => rintro s₀' s' ⟨_, _, _, _, _, _, q, _⟩; cases q
          case wtl =>
            intro j hj
            have := htl' (j - i)
            rw [if_pos e2] at this
            rw [show j = i + (j - i) from by omega, this]
          case wstep =>
            clear lF lN
            rintro n2 s₁' s' ⟨z, tz, uz, hz3, tkz, oZ, hn2, rfl, hg2, F2, N2, htz⟩ ih2
            unfold gmap at F2
            refine seg_whileLoop ?_
            k_steps
            refine seg_execs_cons (seg_Expr_Yield rfl rfl rfl ?_)
            k_steps
            rename_i kap hkap
            rename Fr gB hh.objs.size _ _ => lF
            rename News gB hh.objs.size _ _ => lN
            obtain ⟨oL, _, _, hoL, _⟩ := id lF.ns
            refine ⟨⟨z, tz, htz _ (by omega), rfl⟩, same3_of hg2 lF lN (fun _ hp => .tail _ hp), oL, oZ, hoL, (lN _ (.head _)).1, fun hn s'' gk hL hI hl' => hkap .none s'' ?_⟩
            have F6 : Fr gB hh.objs.size s''.heap _ := Fr_at lF gk hoL hL
            have N6 : News gB hh.objs.size s''.heap ((h1.objs.size, oZ) :: restOf gB s''.heap hh.objs.size h1.objs.size) := news_again lN hI
            refine seg_execs_nil ?_
            show Seg _ _ _ _ _ _ _ (.pure (.again _)) _ _
            exact seg_again rfl (ih2 _ _ ⟨z, tz, uz, _, _, oZ, by omega, rfl, gk, F6, N6, fun j hj => htz j (by omega)⟩)
        · rename ¬ _ = true => q2
          have e2 : x ≠ 0 := by simpa using q2
          refine seg_execs_nil ?_
          show Seg _ _ _ _ _ _ _ ((execs _ _).wrap _ _ _ _) _ _
          refine seg_execs_cons (seg_Expr_Yield rfl rfl rfl ?_)
          k_steps
          rename_i kap hkap
          rename Fr gB hh.objs.size _ _ => lF
          rename News gB hh.objs.size _ _ => lN
          obtain ⟨oL, _, _, hoL, _⟩ := id lF.ns
          refine ⟨⟨x, t, ?_, rfl⟩, same3_of hg lF lN (fun _ hp => .tail _ hp), oL, oI', hoL, (lN _ (.head _)).1, fun hn s'' gk hL hI hl' => hkap .none s'' ?_⟩
          · have := htl' 0
            rw [if_neg e2] at this
            rw [show 3 - nn = i + 0 from by omega, this]
          show Seg _ _ _ _ _ _ _ ((execs _ _).wrap _ _ _ _) _ _
          have F6 : Fr gB hh.objs.size s''.heap _ := Fr_at lF gk hoL hL
          have N6 : News gB hh.objs.size s''.heap ((h1.objs.size, oI') :: restOf gB s''.heap hh.objs.size h1.objs.size) := news_again lN hI
          refine seg_execs_cons (seg_plain ?_)
          clear lF lN
          k_steps
          refine seg_execs_nil ?_
          show Seg _ _ _ _ _ _ _ (.pure (.again _)) _ _
          rename Fr gB hh.objs.size _ _ => lF
          rename News gB hh.objs.size _ _ => lN
          refine seg_again rfl (ih _ _ ⟨i + 1, some x, .int x t, _, _, _, oI', by omega, by omega, rfl, gk, gmap_turn lF, ⟨t, rfl⟩, lN, IsListIter_at hit' hoI' (lN _ (.head _)).1, ?_, ?_, fun q => by cases q⟩)
          · exact mem_restOf.mpr ⟨nLs, nIs, (N1 (ls, listOf vs.toArray n) (.tail _ (.tail _ hm))).2.2, hl'⟩
          · intro j
            have := htl' (j + 1)
            rw [if_neg e2] at this
            rw [show i + 1 + j = i + (j + 1) from by omega, this]
end
/-! Tell -/
section
theorem told_same {ns ks ps : List Int} (h1 : ∀ j, j < ks.length → ks[j]? = tl ns none j) (h2 : ks.length ≤ 4) (h3 : ks.length = 4 ∨ tl ns none ks.length = none)
    (p1 : ∀ j, j < ps.length → ps[j]? = tl ns none j) (p2 : ps.length ≤ 4) (p3 : ps.length = 4 ∨ tl ns none ps.length = none) : ks = ps := by
  have hlen : ks.length = ps.length := by
    rcases Nat.lt_trichotomy ks.length ps.length with h | h | h
    · rcases h3 with q | q
      · omega
      · have := p1 _ h
        rw [q] at this
        exact absurd (List.getElem?_eq_none_iff.mp this) (by omega)
    · exact h
    · rcases p3 with q | q
      · omega
      · have := h1 _ h
        rw [q] at this
        exact absurd (List.getElem?_eq_none_iff.mp this) (by omega)
  apply List.ext_getElem?
  intro j
  by_cases hj : j < ks.length
  · rw [h1 j hj, p1 j (hlen ▸ hj)]
  · rw [List.getElem?_eq_none_iff.mpr (by omega), List.getElem?_eq_none_iff.mpr (by omega)]
/-- neither of the two numbers that end a row -/
def Plain2 (a : List Int) : Prop := ∀ x ∈ a, x ≠ 127 ∧ x ≠ 0
theorem tl_app : ∀ {a : List Int} (r : List Int) (last : Option Int) (j : Nat), Plain2 a → tl (a ++ r) last j = if j < a.length then a[j]? else tl r (a.getLast?.or last) (j - a.length)
  | [], r, last, j, _ => by simp
  | x :: a, r, last, j, h => by
    have hx := h x (.head _)
    have ih := fun j => tl_app r (some x) j fun y hy => h y (.tail _ hy)
    cases j with
    | zero => rw [List.cons_append, tl, if_neg hx.1, if_neg hx.2]; rfl
    | succ j =>
      rw [List.cons_append, tl, if_neg hx.1, if_neg hx.2]
      show tl (a ++ r) (some x) j = _
      rw [ih j]
      have e : a.getLast?.or (some x) = (x :: a).getLast?.or last := by
        cases a with
        | nil => rfl
        | cons b a => rw [List.getLast?_cons_cons, List.getLast?_cons]; rfl
      rw [e]
      simp
theorem idx_app {a : List Int} {k : Int} (h : ∀ x ∈ a, x ≠ k) (r : List Int) : (a ++ k :: r).idxOf k = a.length := by
  rw [List.idxOf_append, if_neg fun q => h k q rfl, List.idxOf_cons_self, Nat.zero_add]
theorem any_no {a : List Int} {k : Int} (h : ∀ x ∈ a, x ≠ k) (r : List Int) : ((a ++ r).any fun x => x == k) = r.any fun x => x == k := by
  rw [List.any_append, List.any_eq_false.mpr (fun x hx => by rw [beq_iff_eq]; exact h x hx), Bool.false_or]
/-- the plain one's answer: the sizes ahead of the end; behind a 0 the last one again and again -/
theorem plain_is {a r : List Int} (h : Plain2 a) (hr : r = [] ∨ r = [0] ∨ r = [127, 5] ∨ r = [0, 5]) :
    plainL (a ++ r) = if r.head? = some 0 then (a ++ List.replicate 4 (a.getD (-1 + (a.length : Int)).toNat 0)).take 4 else a.take 4 := by
  have h1 : ∀ x ∈ a, x ≠ 127 := fun x hx => (h x hx).1
  have h0 : ∀ x ∈ a, x ≠ 0 := fun x hx => (h x hx).2
  unfold plainL
  rw [any_no h1, any_no h0]
  rcases hr with rfl | rfl | rfl | rfl
  · simp
  · rw [idx_app h0, List.take_left]; simp
  · rw [idx_app h1, List.take_left]; simp
  · rw [idx_app h0, List.take_left]; simp
theorem rep_at {k : Nat} {x : Int} {j : Nat} (h : j < k) : (List.replicate k x)[j]? = some x := by
  rw [List.getElem?_replicate, if_pos h]
theorem shape_app {ns : List Int} (h : RowShape ns) : ∃ a r, ns = a ++ r ∧ Plain2 a ∧ a ≠ [] ∧ a.length ≤ 4 ∧ (r = [] ∨ r = [0] ∨ r = [127, 5] ∨ r = [0, 5]) := by
  obtain ⟨p, s, t, c, tl', hp, hs, ht, hc, htl, rfl⟩ := h
  refine ⟨_, _, rfl, fun x hx => ?_, ?_, by rw [List.length_take]; exact Nat.min_le_right _ _, htl⟩
  · have hm := List.mem_of_mem_take hx
    simp only [List.mem_cons, List.not_mem_nil, or_false] at hm
    omega
  · rcases hc with rfl | rfl | rfl <;> exact List.cons_ne_nil _ _
theorem last_or {a : List Int} (h : a ≠ []) : (a.getLast?.or none) = some (a.getD (-1 + (a.length : Int)).toNat 0) := by
  have hl : 0 < a.length := List.length_pos_iff.mpr h
  rw [Option.or_none, List.getLast?_eq_getElem?, List.getD_eq_getElem?_getD, show (-1 + (a.length : Int)).toNat = a.length - 1 from by omega, List.getElem?_eq_getElem (by omega)]
  rfl
theorem told_plain {ns ks : List Int} (h : RowShape ns) (h1 : ∀ j, j < ks.length → ks[j]? = tl ns none j) (h2 : ks.length ≤ 4) (h3 : ks.length = 4 ∨ tl ns none ks.length = none) : ks = plainL ns := by
  obtain ⟨a, r, rfl, ha, hne, hl, hr⟩ := shape_app h
  have hlast := last_or hne
  rw [plain_is ha hr]
  by_cases q : r.head? = some 0
  · rw [if_pos q]
    have hz : ∀ j l, tl r l j = l := by
      rcases hr with rfl | rfl | rfl | rfl
      · cases q
      · intro j l; cases j <;> rfl
      · cases q
      · intro j l; cases j <;> rfl
    have hlen : ((a ++ List.replicate 4 (a.getD (-1 + (a.length : Int)).toNat 0)).take 4).length = 4 := by
      rw [List.length_take, List.length_append, List.length_replicate]; omega
    refine told_same h1 h2 h3 (fun j hj => ?_) (Nat.le_of_eq hlen) (.inl hlen)
    rw [hlen] at hj
    rw [List.getElem?_take, if_pos hj, tl_app _ _ _ ha, hz, hlast]
    by_cases p : j < a.length
    · rw [if_pos p, List.getElem?_append_left p]
    · rw [if_neg p, List.getElem?_append_right (by omega), rep_at (by omega)]
  · rw [if_neg q, List.take_of_length_le hl]
    have hz : tl r (a.getLast?.or none) 0 = none := by
      rcases hr with rfl | rfl | rfl | rfl
      · rfl
      · exact absurd rfl q
      · rfl
      · exact absurd rfl q
    refine told_same h1 h2 h3 (fun j hj => ?_) hl (.inr ?_)
    · rw [tl_app _ _ _ ha, if_pos hj]
    · rw [tl_app _ _ _ ha, if_neg (Nat.lt_irrefl _), Nat.sub_self, hz]
theorem plain_some {ns : List Int} (h : RowShape ns) : plainL ns ≠ [] := by
  obtain ⟨a, r, rfl, ha, hne, hl, hr⟩ := shape_app h
  rw [plain_is ha hr]
  intro e
  have hz := List.length_pos_iff.mpr hne
  split at e
  · have e' := congrArg List.length e
    rw [List.length_take, List.length_append, List.length_nil] at e'
    omega
  · have e' := congrArg List.length e
    rw [List.length_take, List.length_nil] at e'
    omega
theorem shape_first {ns : List Int} (h : RowShape ns) : ∀ r, ns ≠ 0 :: r := by
  obtain ⟨p, s, t, c, tl', hp, hs, ht, hc, htl, rfl⟩ := h
  rintro r e
  rcases hc with rfl | rfl | rfl <;> simp at e <;> omega
theorem shape_len {ns : List Int} (h : RowShape ns) : ns.length ≤ 6 := by
  obtain ⟨p, s, t, c, tl', hp, hs, ht, hc, htl, rfl⟩ := h
  rcases hc with rfl | rfl | rfl <;> rcases htl with rfl | rfl | rfl | rfl <;> simp
end
/-! Laws -/
section
/-- the first c records, with all that is theirs -/
def RecsR (P : Params) (rs : List Value) (ms : List Int) (b : Nat) (c : Nat) (news : List (Addr × Obj)) : Prop :=
  rs.length = c ∧ ∀ k : Nat, k < c → ∃ (x d l r : Addr) (t1 t2 t3 t4 : Tok) (xs : Array Value) (nn : Nat), rs[k]? = some (.ref x) ∧ (x, instObj 59 d) ∈ news ∧ (d, dictOf (recDict P l r t1 t2 t3 t4) 4) ∈ news ∧ (l, listOf xs nn) ∈ news ∧ StrsAre xs.toList (agents b ms (k : Int)) ∧ (r, listOf #[] 0) ∈ news
theorem RecsR.mono {P : Params} {rs : List Value} {ms : List Int} {b c : Nat} {news news' : List (Addr × Obj)} (h : RecsR P rs ms b c news) (hs : ∀ p ∈ news, p ∈ news') : RecsR P rs ms b c news' :=
  ⟨h.1, fun k hk => let ⟨x, d, l, r, t1, t2, t3, t4, xs, nn, a, q1, q2, q3, q4, q5⟩ := h.2 k hk; ⟨x, d, l, r, t1, t2, t3, t4, xs, nn, a, hs _ q1, hs _ q2, hs _ q3, q4, hs _ q5⟩⟩
theorem RecsR.recs {P : Params} {rs : List Value} {ms : List Int} {b : Nat} {news : List (Addr × Obj)} (h : RecsR P rs ms b 12 news) : Recs P rs ms b news :=
  ⟨h.1, fun k hk => let ⟨x, d, l, r, t1, t2, t3, t4, xs, nn, a, q1, q2, q3, q4, _⟩ := h.2 k hk; ⟨x, d, l, r, t1, t2, t3, t4, xs, nn, a, q1, q2, q3, q4⟩⟩
theorem RecsR.nil {P : Params} {ms : List Int} {b : Nat} {news : List (Addr × Obj)} : RecsR P [] ms b 0 news := ⟨rfl, fun _ h => absurd h (Nat.not_lt_zero _)⟩
theorem RecsR.snoc {P : Params} {rs : List Value} {ms : List Int} {b c : Nat} {news : List (Addr × Obj)} (h : RecsR P rs ms b c news) {x d l r : Addr} {t1 t2 t3 t4 : Tok} {xs : Array Value} {nn : Nat}
    (q1 : (x, instObj 59 d) ∈ news) (q2 : (d, dictOf (recDict P l r t1 t2 t3 t4) 4) ∈ news) (q3 : (l, listOf xs nn) ∈ news) (q4 : StrsAre xs.toList (agents b ms (c : Int))) (q5 : (r, listOf #[] 0) ∈ news) : RecsR P (rs ++ [.ref x]) ms b (c + 1) news := by
  refine ⟨by rw [List.length_append, h.1]; rfl, fun k hk => ?_⟩
  by_cases e : k < c
  · obtain ⟨x', d', l', r', t1', t2', t3', t4', xs', nn', a, w1, w2, w3, w4, w5⟩ := h.2 k e
    exact ⟨x', d', l', r', t1', t2', t3', t4', xs', nn', by rw [List.getElem?_append_left (by rw [h.1]; exact e)]; exact a, w1, w2, w3, w4, w5⟩
  · have : k = c := by omega
    subst this
    exact ⟨x, d, l, r, t1, t2, t3, t4, xs, nn, by rw [← h.1]; simp, q1, q2, q3, q4, q5⟩
/-- four more behind a ledger's head -/
theorem off_four {I C D : Addr} {oI oC oD : Obj} {head own : List (Addr × Obj)} {d x l r : Addr × Obj} (off : LCg.Off3 I C D (head ++ own)) (h1 : ∀ p ∈ (I, oI) :: (C, oC) :: (D, oD) :: (head ++ own), p.1 < d.1) (h2 : @LT.lt Nat _ d.1 x.1) (h3 : @LT.lt Nat _ x.1 l.1) (h4 : @LT.lt Nat _ l.1 r.1) :
    LCg.Off3 I C D (head ++ r :: l :: x :: d :: own) := by
  have hI : @LT.lt Nat _ I d.1 := h1 (I, oI) (.head _)
  have hC : @LT.lt Nat _ C d.1 := h1 (C, oC) (.tail _ (.head _))
  have hD : @LT.lt Nat _ D d.1 := h1 (D, oD) (.tail _ (.tail _ (.head _)))
  have far : ∀ y : Nat, d.1 ≤ y → y ≠ I ∧ y ≠ C ∧ y ≠ D := fun y hy => ⟨Nat.ne_of_gt (Nat.lt_of_lt_of_le hI hy), Nat.ne_of_gt (Nat.lt_of_lt_of_le hC hy), Nat.ne_of_gt (Nat.lt_of_lt_of_le hD hy)⟩
  refine LCg.Off3.of fun p hp => ?_
  rcases List.mem_append.mp hp with hp | hp
  · exact off.mem p (List.mem_append_left _ hp)
  · simp only [List.mem_cons] at hp
    rcases hp with rfl | rfl | rfl | rfl | hp
    · exact far _ (Nat.le_of_lt (Nat.lt_trans h2 (Nat.lt_trans h3 h4)))
    · exact far _ (Nat.le_of_lt (Nat.lt_trans h2 h3))
    · exact far _ (Nat.le_of_lt h2)
    · exact far _ (Nat.le_refl _)
    · exact off.mem p (List.mem_append_right _ hp)
theorem own_four {z : Nat} {own : List (Addr × Obj)} {d x l r : Addr × Obj} (h : ∀ p ∈ own, @LT.lt Nat _ z p.1) (h1 : @LT.lt Nat _ z d.1) (h2 : @LT.lt Nat _ d.1 x.1) (h3 : @LT.lt Nat _ x.1 l.1) (h4 : @LT.lt Nat _ l.1 r.1) : ∀ p ∈ r :: l :: x :: d :: own, @LT.lt Nat _ z p.1 := by
  intro p hp
  simp only [List.mem_cons] at hp
  rcases hp with rfl | rfl | rfl | rfl | hp
  · exact Nat.lt_trans h1 (Nat.lt_trans h2 (Nat.lt_trans h3 h4))
  · exact Nat.lt_trans h1 (Nat.lt_trans h2 h3)
  · exact Nat.lt_trans h1 h2
  · exact h1
  · exact h p hp
theorem sub_four {I C D d x l r : Addr × Obj} {head own : List (Addr × Obj)} : ∀ p ∈ I :: C :: D :: (head ++ r :: l :: x :: d :: own), p ∈ r :: l :: x :: d :: I :: C :: D :: (head ++ own) := by
  intro p hp
  simp only [List.mem_cons, List.mem_append] at hp ⊢
  rcases hp with h | h | h | h | h | h | h | h | h <;> simp [h]
theorem marks_len (ns : List Int) (h : ns.length ≤ 4) : (marksOf ns).length ≤ 4 := by
  have := fold_len ns (0, [])
  unfold marksOf
  simp at this
  omega
theorem agents_len {b : Nat} {ms : List Int} {k : Int} : (agents b ms k).length = ms.length + 1 := by simp [agents]
/-- what two records have in common, by the merge -/
def bothOf (b : Nat) (ms : List Int) (k : Nat) : List Str := (agents b ms 0).filter fun q => (agents b ms (k : Int)).any fun x => x == q
def ListsR (f : Nat → List Str) (rs : List Value) (c : Nat) (news : List (Addr × Obj)) : Prop :=
  rs.length = c ∧ ∀ k : Nat, k < c → ∃ (l : Addr) (xs : Array Value) (nn : Nat), rs[k]? = some (.ref l) ∧ (l, listOf xs nn) ∈ news ∧ StrsAre xs.toList (f k)
theorem ListsR.mono {f : Nat → List Str} {rs : List Value} {c : Nat} {news news' : List (Addr × Obj)} (h : ListsR f rs c news) (hs : ∀ p ∈ news, p ∈ news') : ListsR f rs c news' :=
  ⟨h.1, fun k hk => let ⟨l, xs, nn, a, q1, q2⟩ := h.2 k hk; ⟨l, xs, nn, a, hs _ q1, q2⟩⟩
theorem ListsR.nil {f : Nat → List Str} {news : List (Addr × Obj)} : ListsR f [] 0 news := ⟨rfl, fun _ h => absurd h (Nat.not_lt_zero _)⟩
theorem ListsR.snoc {f : Nat → List Str} {rs : List Value} {c : Nat} {news : List (Addr × Obj)} (h : ListsR f rs c news) {l : Addr} {xs : Array Value} {nn : Nat} (q1 : (l, listOf xs nn) ∈ news) (q2 : StrsAre xs.toList (f c)) : ListsR f (rs ++ [.ref l]) (c + 1) news := by
  refine ⟨by rw [List.length_append, h.1]; rfl, fun k hk => ?_⟩
  by_cases e : k < c
  · obtain ⟨l', xs', nn', a, w1, w2⟩ := h.2 k e
    exact ⟨l', xs', nn', by rw [List.getElem?_append_left (by rw [h.1]; exact e)]; exact a, w1, w2⟩
  · have : k = c := by omega
    subst this
    exact ⟨l, xs, nn, by rw [← h.1]; simp, q1, q2⟩
theorem own_ne {HD own : List (Addr × Obj)} {c : Addr} {o : Obj} (h : ∀ p ∈ own, ∀ q ∈ HD, @LT.lt Nat _ q.1 p.1) (hq : (c, o) ∈ HD) : ∀ p ∈ own, p.1 ≠ c := fun p hp => Nat.ne_of_gt (h p hp _ hq)
theorem ledger_is {g h : Heap} {L : Addr} {news : List (Addr × Obj)} (N : News g L h news) : ∃ HD, HD = news ∧ News g L h HD := ⟨news, rfl, N⟩
theorem own_four' {HD own : List (Addr × Obj)} {I C D d x l r : Addr × Obj} (h : ∀ p ∈ own, ∀ q ∈ HD, @LT.lt Nat _ q.1 p.1) (h1 : ∀ p ∈ I :: C :: D :: (HD ++ own), p.1 < d.1) (h2 : @LT.lt Nat _ d.1 x.1) (h3 : @LT.lt Nat _ x.1 l.1) (h4 : @LT.lt Nat _ l.1 r.1) :
    ∀ p ∈ r :: l :: x :: d :: own, ∀ q ∈ HD, @LT.lt Nat _ q.1 p.1 := fun p hp q hq =>
  own_four (z := q.1) (fun p hp => h p hp q hq) (h1 q (.tail _ (.tail _ (.tail _ (List.mem_append_left _ hq))))) h2 h3 h4 p hp
end
/-! Laws2 -/
section
section
variable {prog : Program} {w : World} {A : Around} {h₀ : Heap} {L : Addr} {m : Str → Option Value} {env : Env} {ct elt : PySem.Expr} {x : Str} {scope : Scope} {cl : List (Str × Addr)} {s : Shared} {S : List (Addr × Obj) → Prop} {P : Nat → Value → Prop} {Fin : List Value → List (Addr × Obj) → Prop} {news : List (Addr × Obj)}
theorem take_strs {p : Int → Bool} {f : Int → Str} (ks : List Int) {i : Nat} {k : Int} (h : ks[i]? = some k) : (((ks.take (i + 1)).filter p).map f) = ((ks.take i).filter p).map f ++ (if p k = true then [f k] else []) := by
  rw [List.take_add_one, h]
  cases hp : p k <;> simp [hp]
/-- [e for x in .. if test]: texts of the ints that pass -/
theorem rest_pick {n : Nat} {ks : List Int} (p : Int → Bool) (f : Int → Str) (hks : ks.length = n) (hP : ∀ i v, i < n → P i v → ∃ k t, ks[i]? = some k ∧ v = .int k t) (hS : S news)
    (test : ∀ k t I oI C oC D m₂ ys h tk (E' : Value → Shared → Prop), k ∈ ks → LCg.NsObj oC m₂ → m₂ x = some (.int k t) → Fr h₀ L h m → News h₀ L h ((I, oI) :: (C, oC) :: (D, LCg.lst ys) :: news) → LCg.Off3 I C D news → ((@Ne Nat I C) ∧ (@Ne Nat I D) ∧ (@Ne Nat C D)) →
      wpAny (model prog w) A (isTrue ct (compEnvC scope cl C env) (eval ct (compEnvC scope cl C env))) (fun b s' => b = p k ∧ Only { s with heap := h, toks := tk } s') E' { s with heap := h, toks := tk })
    (val : ∀ k t I oI C oC D m₂ ys h tk (E' : Value → Shared → Prop), k ∈ ks → LCg.NsObj oC m₂ → m₂ x = some (.int k t) → Fr h₀ L h m → News h₀ L h ((I, oI) :: (C, oC) :: (D, LCg.lst ys) :: news) → LCg.Off3 I C D news → ((@Ne Nat I C) ∧ (@Ne Nat I D) ∧ (@Ne Nat C D)) →
      wpAny (model prog w) A (eval elt (compEnvC scope cl C env)) (fun y s' => (∃ t', y = .str (f k) t') ∧ Only { s with heap := h, toks := tk } s') E' { s with heap := h, toks := tk })
    (fin : ∀ ys, StrsAre ys ((ks.filter p).map f) → Fin ys news) : LCt.CompRestT prog w A h₀ L m env ct elt x scope cl s S P Fin n 0 [] news := by
  have key : ∀ (j i : Nat) (ys : List Value), i + j = n → StrsAre ys (((ks.take i).filter p).map f) → LCt.CompRestT prog w A h₀ L m env ct elt x scope cl s S P Fin j i ys news := by
    intro j
    induction j with
    | zero =>
      intro i ys hi hy
      have e : i = ks.length := by omega
      subst e
      rw [List.take_length] at hy
      exact LCt.CompRestT.zero (fin ys hy)
    | succ j ih =>
      intro i ys hi hy
      refine LCt.CompRestT.succ ?_
      intro v I oI C oC D m₂ h tk E' hv hC hx F N off ne
      obtain ⟨k, t, hk, hv'⟩ := hP i v (by omega) hv
      rw [hv'] at hx
      have hkm := List.mem_of_getElem? hk
      refine wpAny_mono (test k t I oI C oC D m₂ ys h tk E' hkm hC hx F N off ne) (fun b s₂ hq => ?_) fun _ _ e => e
      obtain ⟨rfl, tk', rfl⟩ := hq
      have hs := take_strs (p := p) (f := f) ks hk
      cases hpk : p k with
      | true =>
        simp only [if_true]
        refine wpAny_mono (val k t I oI C oC D m₂ ys h tk' E' hkm hC hx F N off ne) (fun y s₃ hq => ?_) fun _ _ e => e
        obtain ⟨⟨t', rfl⟩, tk3, rfl⟩ := hq
        refine LCg.CompEnd.intro F N news (fun p hp => hp) off hS (ih (i + 1) _ (by omega) ?_)
        rw [hs, hpk, if_pos rfl]
        exact hy.append' (.cons _ _ .nil)
      | false =>
        simp only [Bool.false_eq_true, if_false]
        refine LCg.CompEnd.intro F N news (fun p hp => hp) off hS (ih (i + 1) _ (by omega) ?_)
        rw [hs, hpk]
        simpa using hy
  exact key n 0 [] (by omega) .nil
end
section
variable {prog : Program} {w : World} {A : Around} {E : Value → Shared → Prop} {s : Shared} {h₀ : Heap} {L : Addr} {m : Str → Option Value} {env : Env}
theorem SrcC.range {ifs : List PySem.Expr} {elt : PySem.Expr} {x : Str} {scope : Scope} {cl : List (Str × Addr)} {Fin : Shared → List Value → List (Addr × Obj) → Prop} {r : Addr} {a b : Int} {t u v : Tok} {n : Nat} {news : List (Addr × Obj)} {s₁ : Shared} (J : Nat → List Value → List (Addr × Obj) → Prop)
    (hh : A.handled = none) (F : Fr h₀ L s₁.heap m) (N : News h₀ L s₁.heap news) (hr : IsRange s₁.heap r a b 1 t u v) (hsm : Builtin.Range.small a b 1 = true) (hn : Builtin.Range.rangeSize a b 1 = ((n : Nat) : Int)) (hsz : n ≤ sizeLine) (h0 : J 0 [] news)
    (turn : ∀ g, TurnsC prog w A h₀ L m env ifs elt x scope cl { s₁ with heap := g } (fun _ => True) (fun i v => ∃ t, v = .int (a + (i : Int)) t) n J)
    (fin : ∀ g ys nw, J n ys nw → Fin { s₁ with heap := g } ys nw) : SrcC prog w A h₀ L m env ifs elt x scope cl Fin (.ref r) s₁ :=
  .inr ⟨r, a, b, t, u, v, n, news, J, rfl, hh, F, N, hr, hsm, hn, hsz, fun s₂ ⟨g, e⟩ => e ▸ ⟨h0, turn g, fin g⟩⟩
theorem add_strs {a b : Addr} {vs ws : List Value} {ss ts : List Str} {na nb : Nat} {news : List (Addr × Obj)} {Q : Value → Shared → Prop} (F : Fr h₀ L s.heap m) (N : News h₀ L s.heap news) (ha : (a, listOf vs.toArray na) ∈ news) (hb : (b, listOf ws.toArray nb) ∈ news) (hi : StrsAre vs ss) (hj : StrsAre ws ts)
    (h : ∀ D us h', Fr h₀ L h' m → News h₀ L h' ((D, listOf (List.toArray us) 0) :: news) → (∀ p ∈ news, p.1 < D) → StrsAre us (ss ++ ts) → Q (.ref D) { s with heap := h' })
    (hz : ss.length + ts.length ≤ 100) : wpAny (model prog w) A (binaryOp .Add (.ref a) (.ref b)) Q E s :=
  add_lists (hsz := by rw [hi.length, hj.length, PySem.sizeLine_eq]; omega) F N (isList_of ha N) (isList_of hb N) fun h' F' N' => h _ _ h' F' N' (fun p hp => Heap.lt_size (N p hp).1) (hi.append' hj)
end
/-- what the law expects of the k-th: the star and the places that come again -/
def wantOf (b : Nat) (ms : List Int) (k : Nat) : List Str := Str.ofString "*" :: (ms.filter fun j => ms.any (· == Int.fmod (j - (k : Int)) 12)).map fun j => letter b j.toNat
theorem off_one {I C D : Addr} {cc z : Addr × Obj} {HF own : List (Addr × Obj)} (off : LCg.Off3 I C D (cc :: (HF ++ own))) (hI : @LT.lt Nat _ I z.1) (hC : @LT.lt Nat _ C z.1) (hD : @LT.lt Nat _ D z.1) : LCg.Off3 I C D (cc :: (HF ++ z :: own)) := by
  refine LCg.Off3.of fun p hp => ?_
  simp only [List.mem_cons, List.mem_append] at hp
  rcases hp with rfl | hp | rfl | hp
  · exact off.mem _ (.head _)
  · exact off.mem p (.tail _ (List.mem_append_left _ hp))
  · exact ⟨Nat.ne_of_gt hI, Nat.ne_of_gt hC, Nat.ne_of_gt hD⟩
  · exact off.mem p (.tail _ (List.mem_append_right _ hp))
theorem sub_one {I C D cc z : Addr × Obj} {HF own : List (Addr × Obj)} : ∀ p ∈ I :: C :: D :: cc :: (HF ++ z :: own), p ∈ z :: I :: C :: D :: cc :: (HF ++ own) := by
  intro p hp
  simp only [List.mem_cons, List.mem_append] at hp ⊢
  rcases hp with h | h | h | h | h | h | h <;> simp [h]
theorem drop_two {g h : Heap} {L : Addr} {a x y : Addr × Obj} {r : List (Addr × Obj)} (N : News g L h (a :: x :: y :: r)) : News g L h (a :: r) := fun p hp => N p (by simp only [List.mem_cons] at hp ⊢; rcases hp with h | h <;> simp [h])
theorem own_one {HF own : List (Addr × Obj)} {z : Addr × Obj} (h : ∀ p ∈ own, ∀ q ∈ HF, @LT.lt Nat _ q.1 p.1) (hz : ∀ q ∈ HF, @LT.lt Nat _ q.1 z.1) : ∀ p ∈ z :: own, ∀ q ∈ HF, @LT.lt Nat _ q.1 p.1 := fun p hp => by
  rcases List.mem_cons.mp hp with rfl | hp
  · exact hz
  · exact h p hp
theorem offc_one {HF own : List (Addr × Obj)} {z : Addr × Obj} {c : Addr} (h : ∀ p ∈ HF ++ own, p.1 ≠ c) (hz : z.1 ≠ c) : ∀ p ∈ HF ++ z :: own, p.1 ≠ c := fun p hp => by
  simp only [List.mem_cons, List.mem_append] at hp
  rcases hp with hp | rfl | hp
  · exact h p (List.mem_append_left _ hp)
  · exact hz
  · exact h p (List.mem_append_right _ hp)
end
/-! Plain -/
section
theorem step_places {a : Int × List Int} {n : Int} (h : Places a.2) : Places (markStep a n).2 := by
  unfold markStep
  dsimp only
  split
  · exact h
  · rename_i hn
    rw [Bool.not_eq_true, List.any_eq_false] at hn
    refine ⟨List.nodup_append.mpr ⟨h.1, (by simp), fun x hx y hy e => ?_⟩, fun k hk => ?_⟩
    · rw [List.mem_singleton] at hy
      exact hn x hx (by rw [beq_iff_eq, e, hy])
    · rcases List.mem_append.mp hk with hk | hk
      · exact h.2 k hk
      · rw [List.mem_singleton] at hk
        rw [hk]
        exact ⟨fmod_lo _ (by decide), fmod_hi _ (by decide)⟩
theorem fold_places (ns : List Int) : ∀ a : Int × List Int, Places a.2 → Places (ns.foldl markStep a).2 := by
  induction ns with
  | nil => exact fun _ h => h
  | cons n r ih => exact fun a h => ih _ (step_places h)
theorem marks_places (ns : List Int) : Places (marksOf ns) := fold_places ns (0, []) ⟨List.nodup_nil, fun _ h => by cases h⟩
theorem step_grows (ns : List Int) : ∀ a : Int × List Int, a.2 ≠ [] → (ns.foldl markStep a).2 ≠ [] := by
  induction ns with
  | nil => exact fun _ h => h
  | cons n r ih =>
    intro a h
    refine ih _ ?_
    unfold markStep
    dsimp only
    split
    · exact h
    · simp
theorem marks_some {ns : List Int} (h : ns ≠ []) : marksOf ns ≠ [] := by
  cases ns with
  | nil => exact absurd rfl h
  | cons n r =>
    refine step_grows r _ ?_
    simp [markStep]
theorem letter_inj {b p q : Nat} : letter b p = letter b q ↔ p = q := by
  unfold letter
  constructor
  · intro h
    have := congrArg Str.cps h
    simp at this
    omega
  · rintro rfl; rfl
theorem star_letter {b p : Nat} (hb : b = 65 ∨ b = 97) : Str.ofString "*" ≠ letter b p := by
  intro h
  have e : (Str.ofString "*").cps = #[42] := by decide
  have := congrArg Str.cps h
  rw [e] at this
  simp [letter] at this
  omega
theorem hit_iff {ms : List Int} (h : Places ms) {j : Int} {k : Nat} (hj : 0 ≤ j ∧ j < 12) : (∃ i ∈ ms, Int.fmod (i + (k : Int)) 12 = j) ↔ Int.fmod (j - (k : Int)) 12 ∈ ms := by
  constructor
  · rintro ⟨i, hi, rfl⟩
    have := h.2 i hi
    have e : Int.fmod (Int.fmod (i + (k : Int)) 12 - (k : Int)) 12 = i := by
      rw [Int.fmod_eq_emod_of_nonneg _ (by decide), Int.fmod_eq_emod_of_nonneg _ (by decide)]; omega
    rw [e]; exact hi
  · intro hm
    refine ⟨_, hm, ?_⟩
    rw [Int.fmod_eq_emod_of_nonneg _ (by decide), Int.fmod_eq_emod_of_nonneg _ (by decide)]; omega
/-- what the merges have in common is what the law expects -/
theorem both_want {b : Nat} {ms : List Int} (hb : b = 65 ∨ b = 97) (h : Places ms) (k : Nat) : bothOf b ms k = wantOf b ms k := by
  have hz : agents b ms 0 = Str.ofString "*" :: ms.map fun j => letter b j.toNat := by
    unfold agents
    congr 1
    refine List.map_congr_left fun j hj => ?_
    have := h.2 j hj
    rw [show Int.fmod (j + 0) 12 = j from by rw [Int.fmod_eq_emod_of_nonneg _ (by decide)]; omega]
  unfold bothOf wantOf
  rw [hz, List.filter_cons]
  have hs : ((agents b ms (k : Int)).any fun x => x == Str.ofString "*") = true := by simp [agents]
  rw [if_pos hs, List.filter_map]
  congr 1
  congr 1
  refine List.filter_congr fun j hj => ?_
  have hj2 := h.2 j hj
  simp only [Function.comp]
  rw [Bool.eq_iff_iff, List.any_eq_true, List.any_eq_true]
  have hit := hit_iff (k := k) h hj2
  constructor
  · rintro ⟨x, hx, e⟩
    rw [beq_iff_eq] at e
    subst e
    unfold agents at hx
    rcases List.mem_cons.mp hx with e | hx
    · exact absurd e.symm (star_letter hb)
    · obtain ⟨i, hi, e⟩ := List.mem_map.mp hx
      rw [letter_inj] at e
      have h1 := fmod_lo (i + (k : Int)) (n := 12) (by decide)
      exact ⟨_, hit.mp ⟨i, hi, by omega⟩, by rw [beq_iff_eq]⟩
  · rintro ⟨x, hx, e⟩
    rw [beq_iff_eq] at e
    subst e
    obtain ⟨i, hi, e⟩ := hit.mpr hx
    refine ⟨letter b j.toNat, ?_, by rw [beq_iff_eq]⟩
    unfold agents
    exact List.mem_cons_of_mem _ (List.mem_map.mpr ⟨i, hi, by rw [e]⟩)
end
/-! Same -/
section
theorem lists_reads {h : Heap} : ∀ (rs : List Value) (g : Nat → List Str), (∀ k, k < rs.length → ∃ (l : Addr) (xs : Array Value) (nn : Nat), rs[k]? = some (.ref l) ∧ h.get? l = some (listOf xs nn) ∧ StrsAre xs.toList (g k)) →
    ∃ as, ReadsAll h rs ((List.range rs.length).map fun k => PyData.list ((g k).map .str)) as
  | [], _, _ => ⟨[], .nil⟩
  | v :: rs, g, hk => by
    obtain ⟨as, ih⟩ := lists_reads rs (fun k => g (k + 1)) fun k hk' => by
      obtain ⟨l, xs, nn, a, b, c⟩ := hk (k + 1) (by simpa using hk')
      exact ⟨l, xs, nn, by simpa using a, b, c⟩
    obtain ⟨l, xs, nn, a, b, c⟩ := hk 0 (Nat.zero_lt_succ _)
    obtain rfl : v = .ref l := by simpa using a
    refine ⟨(l :: []) ++ as, ?_⟩
    rw [List.length_cons, List.range_succ_eq_map, List.map_cons, List.map_map]
    exact .cons (reads_list_at b rfl rfl (c.reads h)) ih
theorem canAll : ∀ {ds : List PyData}, (∀ d ∈ ds, d.canLay0 = true) → PyData.canLayAll0 ds = true
  | [], _ => by simp [PyData.canLayAll0]
  | d :: ds, h => by
    have := canAll (ds := ds) fun x hx => h x (List.mem_cons_of_mem _ hx)
    simp [PyData.canLayAll0, h d (List.mem_cons_self ..), this]
theorem depAll {n : Nat} : ∀ {ds : List PyData}, (∀ d ∈ ds, d.depth ≤ n) → PyData.depthAll ds ≤ n
  | [], _ => by simp [PyData.depthAll]
  | d :: ds, h => by
    have h1 := depAll (ds := ds) fun x hx => h x (List.mem_cons_of_mem _ hx)
    have h2 := h d (List.mem_cons_self ..)
    simp [PyData.depthAll]
    omega
theorem lists_shaped {f : Nat → List Str} {c : Nat} (h : ∀ k, ∀ s ∈ f k, PyData.strOk s = true) : SeqAt.shaped (PyData.list ((List.range c).map fun k => PyData.list ((f k).map .str))) = true := by
  have hc : ∀ k, (PyData.list ((f k).map .str)).canLay0 = true := fun k => by
    simp only [PyData.canLay0]
    refine canAll fun d hd => ?_
    obtain ⟨s, hs, rfl⟩ := List.mem_map.mp hd
    simpa [PyData.canLay0] using h k s hs
  have hd : ∀ k, (PyData.list ((f k).map .str)).depth ≤ 1 := fun k => by
    simp only [PyData.depth]
    have := depAll (n := 0) (ds := (f k).map .str) fun d hd => by
      obtain ⟨s, _, rfl⟩ := List.mem_map.mp hd
      simp [PyData.depth]
    omega
  unfold SeqAt.shaped
  rw [Bool.and_eq_true]
  constructor
  · simp only [PyData.canLay0]
    refine canAll fun d hd => ?_
    obtain ⟨k, _, rfl⟩ := List.mem_map.mp hd
    exact hc k
  · simp only [PyData.depth]
    have := depAll (n := 1) (ds := (List.range c).map fun k => PyData.list ((f k).map .str)) fun d hd' => by
      obtain ⟨k, _, rfl⟩ := List.mem_map.mp hd'
      exact hd k
    simp; omega
theorem want_ok {b : Nat} {ms : List Int} (hb : b = 65 ∨ b = 97) (h : Places ms) : ∀ k, ∀ s ∈ wantOf b ms k, PyData.strOk s = true := by
  intro k s hs
  rcases List.mem_cons.mp hs with rfl | hs
  · decide +kernel
  · obtain ⟨j, hj, rfl⟩ := List.mem_map.mp hs
    have := h.2 j (List.mem_filter.mp hj).1
    simp [PyData.strOk, letter]
    omega
section
variable {prog : Program} {w : World} {A : Around} {E : Value → Shared → Prop} {s : Shared} {h₀ : Heap} {L : Addr} {news : List (Addr × Obj)} {Q : Value → Shared → Prop}
/-- two lists of lists of texts that read alike -/
theorem ne_lists {a b : Addr} {rs es : List Value} {na nb c : Nat} {f : Nat → List Str} {n1 n2 : List (Addr × Obj)} (N : News h₀ L s.heap news) (ha : (a, listOf rs.toArray na) ∈ news) (hb : (b, listOf es.toArray nb) ∈ news)
    (h1 : ListsR f rs c n1) (s1 : ∀ p ∈ n1, p ∈ news) (h2 : ListsR f es c n2) (s2 : ∀ p ∈ n2, p ∈ news) (ok : ∀ k, ∀ s ∈ f k, PyData.strOk s = true) (hu : A.units + 64 < cLine) (h : Q (.bool false) s) :
    wpAny (model prog w) A (compareOp .NotEq (.ref a) (.ref b)) Q E s := by
  obtain ⟨as, r1⟩ := lists_reads (h := s.heap) rs f fun k hk => by
    obtain ⟨l, xs, nn, q1, q2, q3⟩ := h1.2 k (h1.1 ▸ hk)
    exact ⟨l, xs, nn, q1, (N _ (s1 _ q2)).1, q3⟩
  obtain ⟨bs, r2⟩ := lists_reads (h := s.heap) es f fun k hk => by
    obtain ⟨l, xs, nn, q1, q2, q3⟩ := h2.2 k (h2.1 ▸ hk)
    exact ⟨l, xs, nn, q1, (N _ (s2 _ q2)).1, q3⟩
  rw [h1.1] at r1
  rw [h2.1] at r2
  have sh := lists_shaped (c := c) ok
  refine ne_dataH (reads_list_at (N _ ha).1 rfl rfl r1) (reads_list_at (N _ hb).1 rfl rfl r2) sh sh hu ?_
  rw [show PyData.eqv _ _ = true from SeqAt.eqv_refl _ (SeqAt.canLay_of_shaped sh)]
  exact h
end
theorem news_of_eq {g h : Heap} {L : Addr} {l l' : List (Addr × Obj)} (e : l = l') (N : News g L h l') : News g L h l := e ▸ N
/-- a record (or a new one) and what it answers to None -/
def RecAny (P : Params) (v : Value) (ans : Bool) (news : List (Addr × Obj)) : Prop :=
  ∃ (x d l r : Addr) (t1 t2 t3 t4 : Tok) (xs : Array Value) (ss : List Str) (nn : Nat), v = .ref x ∧ (x, instObj 59 d) ∈ news ∧ (d, dictOf (recDict P l r t1 t2 t3 t4) 4) ∈ news ∧ (l, listOf xs nn) ∈ news ∧ StrsAre xs.toList ss ∧ (ss.any (· == Str.ofString "*")) = ans
theorem recs_any {P : Params} {rs : List Value} {ms : List Int} {b : Nat} {own news : List (Addr × Obj)} (h : RecsR P rs ms b 12 own) (hs : ∀ p ∈ own, p ∈ news) {v : Value} {xe d l r : Addr} {t1 t2 t3 t4 : Tok}
    (q1 : (xe, instObj 59 d) ∈ news) (q2 : (d, dictOf (recDict P l r t1 t2 t3 t4) 4) ∈ news) (q3 : (l, listOf #[] 0) ∈ news) {i : Nat} (hv : (rs ++ [.ref xe])[i]? = some v) : RecAny P v (decide (i < 12)) news := by
  by_cases e : i < 12
  · obtain ⟨x, d, l, r, t1, t2, t3, t4, xs, nn, a, w1, w2, w3, w4, _⟩ := h.2 i e
    rw [List.getElem?_append_left (by rw [h.1]; exact e), a] at hv
    cases hv
    exact ⟨x, d, l, r, t1, t2, t3, t4, xs, _, nn, rfl, hs _ w1, hs _ w2, hs _ w3, w4, by rw [decide_eq_true e]; simp [agents]⟩
  · rw [List.getElem?_append_right (by rw [h.1]; omega), h.1] at hv
    have hi : i - 12 = 0 := by
      have := (List.getElem?_eq_some_iff.mp hv).1
      simp at this; omega
    rw [hi] at hv
    cases hv
    exact ⟨xe, d, l, r, t1, t2, t3, t4, #[], [], 0, rfl, q1, q2, q3, .nil, by rw [decide_eq_false e]; rfl⟩
def answers : List Value := List.replicate 12 (Value.bool true) ++ [.bool false]
theorem answers_snoc {i : Nat} (h : i < 13) : answers.take i ++ [.bool (decide (i < 12))] = answers.take (i + 1) := by
  have : ∀ i, i < 13 → answers.take i ++ [Value.bool (decide (i < 12))] = answers.take (i + 1) := by decide
  exact this i h
end
/-! Count -/
section
/-- the places of a set, told by its bits -/
def bitsM (M : Nat) : List Nat := (List.range 12).filter fun k => Nat.testBit M k
def rotM (M d : Nat) : Nat := Nat.lor (Nat.land (Nat.shiftLeft M d) 4095) (Nat.shiftRight M (Nat.sub 12 d))
def lowM (t : Nat) : Nat → Nat → Nat
  | 0, i => i
  | f + 1, i => bif Nat.testBit t i then lowM t f (Nat.succ i) else i
def waysM (M : Nat) (S : List Nat) : Nat → Nat → Nat
  | 0, _ => 0
  | f + 1, t => bif Nat.beq t 4095 then 1 else
    S.foldr (fun mark a => Nat.add (bif Nat.beq (Nat.land (rotM M (Nat.mod (Nat.sub (Nat.add (lowM t 12 0) 12) mark) 12)) t) 0 then waysM M S f (Nat.lor t (rotM M (Nat.mod (Nat.sub (Nat.add (lowM t 12 0) 12) mark) 12))) else 0) a) 0
def sharesM (M : Nat) (S : List Nat) : List Int := (List.range 12).map fun k => (((S.filter fun j => Nat.testBit M (Nat.mod (Nat.sub (Nat.add j 12) k) 12)).length : Nat) : Int)
def checkM (M : Nat) : Bool := let S := bitsM M; bif (Nat.ble S.length 4 && Nat.ble 1 S.length) then decide (((waysM M S 13 M : Nat) : Int) = dueL (sharesM M S)) else true
def HasM (M : Nat) (ms : List Int) : Prop := M < 4096 ∧ ∀ k : Nat, k < 12 → (Nat.testBit M k = true ↔ (k : Int) ∈ ms)
theorem bit_high {M k : Nat} (h : M < 4096) (hk : 12 ≤ k) : Nat.testBit M k = false := Nat.testBit_lt_two_pow (Nat.lt_of_lt_of_le h (Nat.pow_le_pow_right (by decide) hk : 2 ^ 12 ≤ 2 ^ k))
theorem rot_lt {M d : Nat} (h : M < 4096) : rotM M d < 4096 := by
  show (M <<< d &&& 4095) ||| (M >>> (12 - d)) < 2 ^ 12
  refine Nat.or_lt_two_pow ?_ ?_
  · exact Nat.lt_of_le_of_lt Nat.and_le_right (by decide)
  · rw [Nat.shiftRight_eq_div_pow]
    exact Nat.lt_of_le_of_lt (Nat.div_le_self _ _) h
theorem rot_bit {M d k : Nat} (h : M < 4096) (hd : d < 12) (hk : k < 12) : Nat.testBit (rotM M d) k = Nat.testBit M ((k + 12 - d) % 12) := by
  show Nat.testBit ((M <<< d &&& 4095) ||| (M >>> (12 - d))) k = _
  rw [Nat.testBit_or, Nat.testBit_and, Nat.testBit_shiftLeft, Nat.testBit_shiftRight, show (4095 : Nat) = 2 ^ 12 - 1 from rfl, Nat.testBit_two_pow_sub_one, decide_eq_true hk, Bool.and_true]
  by_cases hkd : d ≤ k
  · rw [show (k + 12 - d) % 12 = k - d from by omega, bit_high h (by omega : 12 ≤ 12 - d + k)]
    simp [hkd]
  · rw [show (k + 12 - d) % 12 = 12 - d + k from by omega]
    simp [hkd]
theorem low_head {t : Nat} : ∀ f i, i + f = 12 → ((List.range' i f).filter fun k => !Nat.testBit t k).head? = (if lowM t f i < 12 then some (lowM t f i) else none) ∧ lowM t f i ≤ 12
  | 0, i, h => by
    have : i = 12 := by omega
    subst this
    exact ⟨by simp [lowM], by simp [lowM]⟩
  | f + 1, i, h => by
    have ih := low_head (t := t) f (i + 1) (by omega)
    rw [List.range'_succ, List.filter_cons]
    unfold lowM
    cases hb : Nat.testBit t i with
    | true => simpa using ih
    | false =>
      simp only [Bool.not_false, if_true, cond_false, List.head?_cons]
      exact ⟨by rw [if_pos (by omega)], by omega⟩
theorem free_map {t : Nat} {ts : List Int} (h : HasM t ts) : freeOf ts = ((List.range' 0 12).filter fun k => !Nat.testBit t k).map fun k : Nat => (0 : Int) + (k : Int) := by
  unfold freeOf rangeKs
  rw [List.range_eq_range', List.filter_map]
  congr 1
  refine List.filter_congr fun k hk => ?_
  have hk' : k < 12 := by have := List.mem_range'.mp hk; omega
  have := h.2 k hk'
  simp only [Function.comp]
  congr 1
  rw [Bool.eq_iff_iff, List.any_eq_true, this]
  constructor
  · rintro ⟨x, hx, e⟩
    rw [beq_iff_eq] at e
    rw [Int.zero_add] at e
    exact e ▸ hx
  · intro hm
    exact ⟨_, hm, by rw [beq_iff_eq, Int.zero_add]⟩
theorem all_full {t : Nat} (h : t < 4096) (hf : ((List.range' 0 12).filter fun k => !Nat.testBit t k) = []) : t = 4095 := by
  apply Nat.eq_of_testBit_eq
  intro k
  rw [show (4095 : Nat) = 2 ^ 12 - 1 from rfl, Nat.testBit_two_pow_sub_one]
  by_cases hk : k < 12
  · rw [decide_eq_true hk]
    have := List.filter_eq_nil_iff.mp hf k (List.mem_range'.mpr ⟨k, hk, by omega⟩)
    simpa using this
  · rw [decide_eq_false hk]
    exact bit_high h (by omega)
theorem free_full {ts : List Int} (h : HasM 4095 ts) : freeOf ts = [] := by
  rw [free_map h]
  have : ((List.range' 0 12).filter fun k => !Nat.testBit 4095 k) = [] := by decide
  rw [this]; rfl
theorem free_first {t : Nat} {ts : List Int} (h : HasM t ts) (hne : t ≠ 4095) : lowM t 12 0 < 12 ∧ ∃ r, freeOf ts = ((lowM t 12 0 : Nat) : Int) :: r := by
  have h1 := low_head (t := t) 12 0 (by decide)
  have h2 : ((List.range' 0 12).filter fun k => !Nat.testBit t k) ≠ [] := fun e => hne (all_full h.1 e)
  have hl : lowM t 12 0 < 12 := by
    refine Decidable.byContradiction fun hc => ?_
    rw [if_neg hc] at h1
    exact h2 (List.head?_eq_none_iff.mp h1.1)
  rw [if_pos hl] at h1
  obtain ⟨q, r, e⟩ := List.exists_cons_of_ne_nil h2
  rw [e, List.head?_cons] at h1
  refine ⟨hl, r.map fun k : Nat => (0 : Int) + (k : Int), ?_⟩
  rw [free_map h, e, List.map_cons]
  congr 1
  have := Option.some.inj h1.1
  rw [this, Int.zero_add]
/-- the shift that takes a mark to a place -/
theorem shift_eq {q mk : Nat} (hq : q < 12) (hm : mk < 12) : Int.fmod ((q : Int) - (mk : Int)) 12 = (((q + 12 - mk) % 12 : Nat) : Int) := by
  rw [Int.fmod_eq_emod_of_nonneg _ (by decide)]
  omega
theorem moved_bit {M d k : Nat} {ms : List Int} (h : HasM M ms) (hp : Places ms) (hd : d < 12) (hk : k < 12) : Nat.testBit (rotM M d) k = true ↔ ∃ o ∈ ms, Int.fmod (o + (d : Int)) 12 = (k : Int) := by
  rw [rot_bit h.1 hd hk, h.2 _ (Nat.mod_lt _ (by decide))]
  constructor
  · intro hm
    refine ⟨_, hm, ?_⟩
    rw [Int.fmod_eq_emod_of_nonneg _ (by decide)]
    omega
  · rintro ⟨o, ho, e⟩
    have := hp.2 o ho
    rw [Int.fmod_eq_emod_of_nonneg _ (by decide)] at e
    have e2 : (((k + 12 - d) % 12 : Nat) : Int) = o := by omega
    rw [e2]; exact ho
theorem moved_has {M q mk : Nat} {ms : List Int} (h : HasM M ms) (hp : Places ms) (hq : q < 12) (hm : mk < 12) : HasM (rotM M ((q + 12 - mk) % 12)) (movedBy q mk ms) := by
  refine ⟨rot_lt h.1, fun k hk => ?_⟩
  rw [moved_bit h hp (Nat.mod_lt _ (by decide)) hk]
  unfold movedBy
  rw [List.mem_map, shift_eq hq hm]
theorem or_has {a b : Nat} {xs ys : List Int} (ha : HasM a xs) (hb : HasM b ys) : HasM (Nat.lor a b) (xs ++ ys) := by
  refine ⟨Nat.or_lt_two_pow (n := 12) ha.1 hb.1, fun k hk => ?_⟩
  show Nat.testBit (a ||| b) k = true ↔ _
  rw [Nat.testBit_or, Bool.or_eq_true, ha.2 k hk, hb.2 k hk, List.mem_append]
theorem hit_mask {M t q mk : Nat} {ms ts : List Int} (h : HasM M ms) (hp : Places ms) (ht : HasM t ts) (hq : q < 12) (hm : mk < 12) : Nat.beq (Nat.land (rotM M ((q + 12 - mk) % 12)) t) 0 = !hitBy q mk ms ts := by
  rw [Bool.eq_iff_iff, Bool.not_eq_true', Nat.beq_eq]
  have hd : (q + 12 - mk) % 12 < 12 := Nat.mod_lt _ (by decide)
  constructor
  · intro e
    unfold hitBy
    rw [List.any_eq_false]
    intro o ho
    rw [Bool.not_eq_true, List.any_eq_false]
    intro x hx
    rw [beq_iff_eq]
    intro ex
    rw [shift_eq hq hm] at ex
    have h0 := fmod_lo (o + (((q + 12 - mk) % 12 : Nat) : Int)) (n := 12) (by decide)
    have h1 := fmod_hi (o + (((q + 12 - mk) % 12 : Nat) : Int)) (n := 12) (by decide)
    obtain ⟨k, hk⟩ : ∃ k : Nat, Int.fmod (o + (((q + 12 - mk) % 12 : Nat) : Int)) 12 = (k : Int) := ⟨_, (Int.toNat_of_nonneg h0).symm⟩
    have hk12 : k < 12 := by omega
    have b1 := (moved_bit h hp hd hk12).mpr ⟨o, ho, hk⟩
    have b2 := (ht.2 k hk12).mpr (by rw [← hk, ← ex]; exact hx)
    have b3 : Nat.testBit (rotM M ((q + 12 - mk) % 12) &&& t) k = true := by rw [Nat.testBit_and, b1, b2]; rfl
    rw [show (rotM M ((q + 12 - mk) % 12) &&& t) = 0 from e, Nat.zero_testBit] at b3
    cases b3
  · intro e
    show (rotM M ((q + 12 - mk) % 12) &&& t) = 0
    apply Nat.eq_of_testBit_eq
    intro k
    rw [Nat.zero_testBit, Nat.testBit_and]
    by_cases hk : k < 12
    · cases b1 : Nat.testBit (rotM M ((q + 12 - mk) % 12)) k with
      | false => rfl
      | true =>
        cases b2 : Nat.testBit t k with
        | false => rfl
        | true =>
          obtain ⟨o, ho, eo⟩ := (moved_bit h hp hd hk).mp b1
          have hx := (ht.2 k hk).mp b2
          unfold hitBy at e
          rw [List.any_eq_false] at e
          have e1 := e o ho
          rw [Bool.not_eq_true, List.any_eq_false] at e1
          exact absurd (by rw [beq_iff_eq, shift_eq hq hm, eo]) (e1 _ hx)
    · rw [bit_high ht.1 (by omega)]; simp
theorem perm_of : ∀ l1 l2 : List Int, l1.Nodup → l2.Nodup → (∀ x, x ∈ l1 ↔ x ∈ l2) → l1.Perm l2
  | [], l2, _, _, h => by
    have : l2 = [] := List.eq_nil_iff_forall_not_mem.mpr fun x hx => by simpa using (h x).mpr hx
    rw [this]
  | a :: r, l2, h1, h2, h => by
    rw [List.nodup_cons] at h1
    have ha : a ∈ l2 := (h a).mp (List.mem_cons_self ..)
    refine List.Perm.trans (List.Perm.cons a (perm_of r (l2.erase a) h1.2 (h2.erase a) fun x => ?_)) (List.perm_cons_erase ha).symm
    rw [h2.mem_erase_iff, ← h x, List.mem_cons]
    constructor
    · intro hx
      exact ⟨fun e => h1.1 (e ▸ hx), .inr hx⟩
    · rintro ⟨hne, e | hx⟩
      · exact absurd e hne
      · exact hx
theorem sum_perm {l1 l2 : List Int} (h : l1.Perm l2) : l1.sum = l2.sum := by
  induction h with
  | nil => rfl
  | cons x _ ih => rw [List.sum_cons, List.sum_cons, ih]
  | swap x y l => simp only [List.sum_cons]; omega
  | trans _ _ i1 i2 => exact i1.trans i2
theorem mem_bits {M k : Nat} : k ∈ bitsM M ↔ k < 12 ∧ Nat.testBit M k = true := by
  unfold bitsM
  rw [List.mem_filter, List.mem_range]
theorem bits_perm {M : Nat} {ms : List Int} (h : HasM M ms) (hp : Places ms) : ms.Perm ((bitsM M).map fun k : Nat => (k : Int)) := by
  refine perm_of _ _ hp.1 ?_ fun x => ?_
  · unfold bitsM
    exact List.Pairwise.map (R := fun a b : Nat => a ≠ b) (S := fun a b : Int => a ≠ b) _ (fun a b hab e => hab (Int.ofNat.inj e)) (List.Pairwise.filter _ List.nodup_range)
  · rw [List.mem_map]
    constructor
    · intro hx
      have := hp.2 x hx
      have e : ((x.toNat : Nat) : Int) = x := Int.toNat_of_nonneg this.1
      exact ⟨x.toNat, mem_bits.mpr ⟨by omega, (h.2 _ (by omega)).mpr (by rw [e]; exact hx)⟩, e⟩
    · rintro ⟨k, hk, rfl⟩
      rw [mem_bits] at hk
      exact (h.2 k hk.1).mp hk.2
theorem foldr_sum (G : Nat → Nat) : ∀ S : List Nat, ((S.foldr (fun m a => Nat.add (G m) a) 0 : Nat) : Int) = (S.map fun m => (G m : Int)).sum
  | [] => rfl
  | m :: S => by
    rw [List.foldr_cons, List.map_cons, List.sum_cons, ← foldr_sum G S]
    exact Int.natCast_add _ _
theorem ways_mask {M : Nat} {ms : List Int} (h : HasM M ms) (hp : Places ms) : ∀ (f : Nat) (ts : List Int) (t : Nat), HasM t ts → waysL f ms ts = ((waysM M (bitsM M) f t : Nat) : Int)
  | 0, _, _, _ => rfl
  | f + 1, ts, t, ht => by
    unfold waysL waysM
    by_cases e : t = 4095
    · subst e
      rw [free_full ht]
      rfl
    · obtain ⟨hq, r, hr⟩ := free_first ht e
      have eb : Nat.beq t 4095 = false := by
        cases q : Nat.beq t 4095 with
        | false => rfl
        | true => exact absurd (Nat.eq_of_beq_eq_true q) e
      rw [hr, eb]
      show (ms.map fun mark => if hitBy ((lowM t 12 0 : Nat) : Int) mark ms ts then 0 else waysL f ms (ts ++ movedBy ((lowM t 12 0 : Nat) : Int) mark ms)).sum = _
      rw [cond_false, foldr_sum, sum_perm ((bits_perm h hp).map _), List.map_map]
      congr 1
      refine List.map_congr_left fun k hk => ?_
      rw [mem_bits] at hk
      have hm := hit_mask h hp ht hq hk.1
      simp only [Function.comp]
      have em : Nat.mod (Nat.sub (Nat.add (lowM t 12 0) 12) k) 12 = (lowM t 12 0 + 12 - k) % 12 := rfl
      rw [em, hm]
      cases hitBy ((lowM t 12 0 : Nat) : Int) (k : Int) ms ts with
      | true => rfl
      | false =>
        simp only [Bool.not_false, cond_true, Bool.false_eq_true, if_false]
        exact ways_mask h hp f _ _ (or_has ht (moved_has h hp hq hk.1))
def sharesL (ms : List Int) : List Int := (List.range 12).map fun k : Nat => (((ms.filter fun j => ms.any (· == Int.fmod (j - (k : Int)) 12)).length : Nat) : Int)
theorem shares_mask {M : Nat} {ms : List Int} (h : HasM M ms) (hp : Places ms) : sharesL ms = sharesM M (bitsM M) := by
  unfold sharesL sharesM
  refine List.map_congr_left fun k hk => ?_
  have hk' := List.mem_range.mp hk
  congr 1
  rw [((bits_perm h hp).filter _).length_eq, List.filter_map, List.length_map]
  congr 1
  refine List.filter_congr fun j hj => ?_
  rw [mem_bits] at hj
  simp only [Function.comp]
  show _ = Nat.testBit M ((j + 12 - k) % 12)
  rw [Bool.eq_iff_iff, List.any_eq_true, h.2 _ (Nat.mod_lt _ (by decide)), ← shift_eq hj.1 hk']
  constructor
  · rintro ⟨x, hx, e⟩
    rw [beq_iff_eq] at e
    exact e ▸ hx
  · intro hm
    exact ⟨_, hm, by rw [beq_iff_eq]⟩
theorem one_has {j : Int} (h : 0 ≤ j ∧ j < 12) : HasM (2 ^ j.toNat) [j] := by
  refine ⟨Nat.lt_of_lt_of_le (Nat.pow_lt_pow_right (by decide) (by omega : j.toNat < 12)) (Nat.le_refl _), fun k hk => ?_⟩
  rw [Nat.testBit_two_pow, decide_eq_true_iff, List.mem_singleton]
  omega
theorem mask_of : ∀ ms : List Int, (∀ k ∈ ms, 0 ≤ k ∧ k < 12) → ∃ M, HasM M ms
  | [], _ => ⟨0, by decide, fun k _ => by simp⟩
  | j :: r, h => by
    obtain ⟨M, hM⟩ := mask_of r fun k hk => h k (List.mem_cons_of_mem _ hk)
    exact ⟨_, or_has (one_has (h j (List.mem_cons_self ..))) hM⟩
def chunkM (c : Nat) : Bool := (List.range 256).all fun i => checkM (Nat.add (Nat.mul 256 c) i)
theorem ch0 : chunkM 0 = true := by decide +kernel
theorem ch1 : chunkM 1 = true := by decide +kernel
theorem ch2 : chunkM 2 = true := by decide +kernel
theorem ch3 : chunkM 3 = true := by decide +kernel
theorem ch4 : chunkM 4 = true := by decide +kernel
theorem ch5 : chunkM 5 = true := by decide +kernel
theorem ch6 : chunkM 6 = true := by decide +kernel
theorem ch7 : chunkM 7 = true := by decide +kernel
theorem ch8 : chunkM 8 = true := by decide +kernel
theorem ch9 : chunkM 9 = true := by decide +kernel
theorem ch10 : chunkM 10 = true := by decide +kernel
theorem ch11 : chunkM 11 = true := by decide +kernel
theorem ch12 : chunkM 12 = true := by decide +kernel
theorem ch13 : chunkM 13 = true := by decide +kernel
theorem ch14 : chunkM 14 = true := by decide +kernel
theorem ch15 : chunkM 15 = true := by decide +kernel
theorem check_all (M : Nat) (h : M < 4096) : checkM M = true := by
  have key : ∀ c, chunkM c = true → M / 256 = c → checkM M = true := fun c hc e => by
    have := List.all_eq_true.mp hc (M % 256) (List.mem_range.mpr (Nat.mod_lt _ (by decide)))
    have e2 : Nat.add (Nat.mul 256 c) (M % 256) = M := by show 256 * c + M % 256 = M; omega
    rwa [e2] at this
  have hc : M / 256 = 0 ∨ M / 256 = 1 ∨ M / 256 = 2 ∨ M / 256 = 3 ∨ M / 256 = 4 ∨ M / 256 = 5 ∨ M / 256 = 6 ∨ M / 256 = 7 ∨ M / 256 = 8 ∨ M / 256 = 9 ∨ M / 256 = 10 ∨ M / 256 = 11 ∨ M / 256 = 12 ∨ M / 256 = 13 ∨ M / 256 = 14 ∨ M / 256 = 15 := by omega
  rcases hc with q | q | q | q | q | q | q | q | q | q | q | q | q | q | q | q
  · exact key 0 ch0 q
  · exact key 1 ch1 q
  · exact key 2 ch2 q
  · exact key 3 ch3 q
  · exact key 4 ch4 q
  · exact key 5 ch5 q
  · exact key 6 ch6 q
  · exact key 7 ch7 q
  · exact key 8 ch8 q
  · exact key 9 ch9 q
  · exact key 10 ch10 q
  · exact key 11 ch11 q
  · exact key 12 ch12 q
  · exact key 13 ch13 q
  · exact key 14 ch14 q
  · exact key 15 ch15 q
/-- how many shares there are, is told by what the merges have in common -/
theorem ring_law {ms : List Int} (hp : Places ms) (hl : ms.length ≤ 4) (hne : ms ≠ []) : waysL 13 ms ms = dueL (sharesL ms) := by
  obtain ⟨M, hM⟩ := mask_of ms hp.2
  rw [ways_mask hM hp 13 ms M hM, shares_mask hM hp]
  have hlen : (bitsM M).length = ms.length := by rw [(bits_perm hM hp).length_eq, List.length_map]
  have hpos : 0 < ms.length := List.length_pos_iff.mpr hne
  have := check_all M hM.1
  unfold checkM at this
  have hb : (Nat.ble (bitsM M).length 4 && Nat.ble 1 (bitsM M).length) = true := by
    rw [Bool.and_eq_true, Nat.ble_eq, Nat.ble_eq]; omega
  simp only [hb, cond_true] at this
  exact of_decide_eq_true this
end
/-! Same2 -/
section
section
variable {prog : Program} {w : World} {A : Around} {E : Value → Shared → Prop} {s : Shared} {h₀ : Heap} {L : Addr} {m : Str → Option Value} {news : List (Addr × Obj)} {Q : Value → Shared → Prop}
theorem mul_trues {l : Addr} {u : Tok} {k : Nat} (F : Fr h₀ L s.heap m) (N : News h₀ L s.heap news) (hl : (l, listOf #[Value.bool true] k) ∈ news)
    (h : ∀ D h', Fr h₀ L h' m → News h₀ L h' ((D, listOf (List.replicate 12 (Value.bool true)).toArray 0) :: news) → Q (.ref D) { s with heap := h' }) : wpAny (model prog w) A (binaryOp .Mult (.ref l) (.int 12 u)) Q E s :=
  mul_list F N (N _ hl).1 (by decide) (by decide) (by decide) fun h' F' N' => h _ h' F' N'
theorem add_answers {a b : Addr} {na nb : Nat} (F : Fr h₀ L s.heap m) (N : News h₀ L s.heap news) (ha : (a, listOf (List.replicate 12 (Value.bool true)).toArray na) ∈ news) (hb : (b, listOf #[Value.bool false] nb) ∈ news)
    (h : ∀ D h', Fr h₀ L h' m → News h₀ L h' ((D, listOf answers.toArray 0) :: news) → Q (.ref D) { s with heap := h' }) : wpAny (model prog w) A (binaryOp .Add (.ref a) (.ref b)) Q E s :=
  add_lists (vs := List.replicate 12 (Value.bool true)) (ws := [Value.bool false]) F N (isList_of ha N) (isList_of hb N) (fun h' F' N' => h _ h' F' N') (by rw [PySem.sizeLine_eq]; decide)
theorem answers_read {h : Heap} : ReadsAll h answers (List.replicate 12 (PyData.bool true) ++ [.bool false]) [] := by
  unfold answers
  simp only [List.replicate, List.cons_append, List.nil_append]
  repeat' first | exact .nil | refine ReadsAll.cons (as := []) (.bool _) ?_
theorem ne_answers {a b : Addr} {na nb : Nat} (N : News h₀ L s.heap news) (ha : (a, listOf answers.toArray na) ∈ news) (hb : (b, listOf answers.toArray nb) ∈ news) (hu : A.units + 64 < cLine) (h : Q (.bool false) s) :
    wpAny (model prog w) A (compareOp .NotEq (.ref a) (.ref b)) Q E s := by
  have sh : SeqAt.shaped (PyData.list (List.replicate 12 (PyData.bool true) ++ [.bool false])) = true := by decide +kernel
  refine ne_dataH (reads_list_at (N _ ha).1 rfl rfl answers_read) (reads_list_at (N _ hb).1 rfl rfl answers_read) sh sh hu ?_
  rw [show PyData.eqv _ _ = true from SeqAt.eqv_refl _ (SeqAt.canLay_of_shaped sh)]
  exact h
end
theorem news_sub {g h : Heap} {L : Addr} {r r' : List (Addr × Obj)} (N : News g L h r) (hs : ∀ p ∈ r', p ∈ r) : News g L h r' := fun p hp => N p (hs p hp)
theorem news_tail5 {g h : Heap} {L : Addr} {a b c d e : Addr × Obj} {r : List (Addr × Obj)} (N : News g L h (a :: b :: c :: d :: e :: r)) : News g L h (a :: e :: r) := fun p hp => N p (by simp only [List.mem_cons] at hp ⊢; rcases hp with h | h | h <;> simp [h])
theorem free_short {ts : List Int} : (freeOf ts).length < 13 := by
  have := List.length_filter_le (fun k => !(ts.any (· == k))) (rangeKs 0 12)
  rw [rangeKs_length] at this
  unfold freeOf
  omega
theorem shares_len {ms : List Int} : (sharesL ms).length = 12 := by simp [sharesL]
theorem shares_at {ms : List Int} {i : Nat} (h : i < 12) : (sharesL ms)[i]? = some (((ms.filter fun j => ms.any (· == Int.fmod (j - (i : Int)) 12)).length : Nat) : Int) := by simp [sharesL, h]
theorem want_len {b : Nat} {ms : List Int} {i : Nat} : (wantOf b ms i).length = (ms.filter fun j => ms.any (· == Int.fmod (j - (i : Int)) 12)).length + 1 := by simp [wantOf]
theorem shares_zero {ms : List Int} (hp : Places ms) : (sharesL ms).getD 0 0 = (ms.length : Int) := by
  rw [List.getD_eq_getElem?_getD, shares_at (by decide)]
  simp only [Option.getD_some]
  congr 1
  rw [List.filter_eq_self.mpr]
  intro j hj
  have := hp.2 j hj
  rw [List.any_eq_true]
  refine ⟨j, hj, ?_⟩
  rw [beq_iff_eq, Int.fmod_eq_emod_of_nonneg _ (by decide)]
  omega
theorem shares_first {ms : List Int} (hp : Places ms) (hl : ms.length ≤ 4) (hne : ms ≠ []) : (sharesL ms).getD 0 0 = 1 ∨ (sharesL ms).getD 0 0 = 2 ∨ (sharesL ms).getD 0 0 = 3 ∨ (sharesL ms).getD 0 0 = 4 := by
  rw [shares_zero hp]
  have := List.length_pos_iff.mpr hne
  omega
theorem shares_snoc {ms : List Int} {i : Nat} {ys : List Value} {z : Int} {t : Tok} (h : IntsAre ys ((sharesL ms).take i)) (hi : i < 12) (hz : z = (((ms.filter fun j => ms.any (· == Int.fmod (j - (i : Int)) 12)).length : Nat) : Int)) : IntsAre (ys ++ [.int z t]) ((sharesL ms).take (i + 1)) := by
  rw [List.take_add_one, shares_at hi, hz]
  exact h.append (.cons _ _ .nil)
end
/-! WaysLaw -/
section

theorem ways_law {w : World} {mean : ExcName → Option Value} {mg mb : Str → Option Value} {news : List (Addr × Obj)}
    {dp un : Nat} {gd : Option (List Code)} {cn : Str} {cs : Scope} {a : Addr} {ccd : Value} {cl : List (Str × Addr)} {outer : List Env} {A₀ : Around} {base h₀ : Heap} {L : Addr} {m : Str → Option Value} {s : Shared} {Q E : Value → Shared → Prop}
    {lr lm lt : Addr} {rs vm vt : List Value} {ms ts : List Int} {n n2 n3 : Nat} {b b' : Nat} {tk : Tok}
    (B : Below A₀ base outer h₀) (F : Fr h₀ L s.heap m) (KX : (hd.heap_39 w.params).In h₀) (N : News h₀ L s.heap news)
    (T : Top hd.view_39 (looseW hd.view_39 []) mean mg mb h₀) (hk : cs.kind = .function)
    (hm : (lm, listOf vm.toArray n) ∈ news) (hi : IntsAre vm ms) (hlen : ms.length ≤ 4) (hms : Places ms) (hr : (lr, listOf rs.toArray n2) ∈ news) (hrec : Recs w.params rs ms b news) (ht : (lt, listOf vt.toArray n3) ∈ news) (hti : IntsAre vt ts) (hts : Places ts) (hb : b = 65 ∨ b = 97) (hb' : b' = 65 ∨ b' = 97)
    (hroom : dp + 40 < recursionLimit) (hun : un + 500 < cLine)
    (hQ : ∀ t h' tk', Fr h₀ L h' m → News h₀ L h' news → Q (.int (waysL 13 ms ts) t) { s with heap := h', toks := tk' }) :
    wpAny (model PySem.Challenge.rw_sc0026_01.row.prog w) (ktrTop dp un gd cn cs L a ccd cl outer) (call (.ref 115) [.ref lr, .ref lm, .str (alpha b') tk, .ref lt]) Q E s :=
  ways_spec 13 B F KX N T hk hm hi hlen hms hr hrec ht hti hts hb hb' free_short (by omega) (by omega) hQ
end
/-! L1 -/
section
theorem law_end {c : ClaimW} {cl : Str → Option Addr} {mean : ExcName → Option Value} {args : List WData} {s₁ : Shared} {L : Addr} {h : Heap} {m : Str → Option Value} {gs : GenState} {t : Nat}
    (F : Fr s₁.heap L h m) (hg : s₁.gens = #[]) (hb : gs.bare = true) (hr : ∀ cls, c.raises args cls = false := by intro _; rfl) (hp : c.post args (.bool true) args = true := by rfl) :
    GoodWG c cl mean args s₁ (.ok (.ret (.bool true))) ⟨h, s₁.gens.push gs, s₁.drawn, t, s₁.os⟩ :=
  ⟨.inl ⟨_, _, [], rfl, hr, ReadsW.bool true, hp, fun _ => ⟨List.nodup_nil, fun _ hm => (nomatch hm)⟩⟩, .of_keep F.keep, rfl, (AllBare.of_eq hg).push hb⟩
local macro_rules | `(tactic| walk_at "subscriptTail") => `(tactic| (k_here; (with_reducible show wpAny _ _ (subscriptTail (PySem.Expr.Name _ _) (PySem.Expr.Constant _ _ _) (Value.ref _) (Value.int _ _)) _ _ _); refine hold ?_))
def tup2 (u v : Str) (t t' : Tok) : Obj := { cls := .type "tuple", data := .seq #[.str u t, .str v t'] }
section
variable {prog : Program} {w : World} {A : Around} {E : Value → Shared → Prop} {s : Shared} {h₀ : Heap} {L : Addr}
theorem item_pick2 {value slice : PySem.Expr} {l a0 a1 : Addr} {i : Int} {u t1 t2 t3 t4 : Tok} {k : Nat} {rest : List (Addr × Obj)} {Q : Value → Shared → Prop}
    (N : News h₀ L s.heap ((l, listOf #[.ref a0, .ref a1] k) :: (a1, ({ cls := .type "tuple", data := .seq #[.str (Str.ofString "abcdefghijkl") t1, .str (Str.ofString "ABCDEFGHIJKL") t2] } : Obj)) :: (a0, ({ cls := .type "tuple", data := .seq #[.str (Str.ofString "ABCDEFGHIJKL") t3, .str (Str.ofString "abcdefghijkl") t4] } : Obj)) :: rest)) (hi : i = 0 ∨ i = 1)
    (h : ∀ ax b b' t t', (@Eq Nat ax a0 ∨ @Eq Nat ax a1) → (b' = 65 ∨ b' = 97) → (b = 65 ∨ b = 97) → News h₀ L s.heap ((ax, ({ cls := .type "tuple", data := .seq #[.str (alpha b') t, .str (alpha b) t'] } : Obj)) :: rest) → Q (.ref ax) s)
    (hs : subscripted slice false (.ref l) (.int i u) = operate [.ref l, .int i u] (getItem (.ref l) (.int i u)) := by with_unfolding_all rfl) :
    wpAny (model prog w) A (subscriptTail value slice (.ref l) (.int i u)) Q E s := by
  have e1 : Str.ofString "ABCDEFGHIJKL" = alpha 65 := by decide
  have e2 : Str.ofString "abcdefghijkl" = alpha 97 := by decide
  rw [e1, e2] at N
  rcases hi with rfl | rfl
  · refine item_listR (x := .ref a0) (isList_of (.head _) N) (by decide) (by decide) rfl (h a0 97 65 t3 t4 (.inl rfl) (.inl rfl) (.inr rfl) fun p hp => N p ?_) hs
    rcases List.mem_cons.mp hp with rfl | hp
    · exact .tail _ (.tail _ (.head _))
    · exact .tail _ (.tail _ (.tail _ hp))
  · refine item_listR (x := .ref a1) (isList_of (.head _) N) (by decide) (by decide) rfl (h a1 65 97 t1 t2 (.inr rfl) (.inr rfl) (.inl rfl) fun p hp => N p ?_) hs
    rcases List.mem_cons.mp hp with rfl | hp
    · exact .tail _ (.head _)
    · exact .tail _ (.tail _ (.tail _ hp))
end
local macro_rules | `(tactic| walk_at "subscriptTail") => `(tactic| (k_here; (with_reducible show wpAny _ _ (subscriptTail (PySem.Expr.List _ _) _ (Value.ref _) (Value.int _ _)) _ _ _); refine hold ?_))
local macro_rules | `(tactic| walk_at $s:str) => if ["call builtin:len", "binaryOp Mult ref int", "compareOp NotEq ref ref", "binaryOp Add ref ref", "subscriptTail Name Constant ref int", "subscriptTail List Name ref int"].contains s.getString then `(tactic| (k_here; refine hold ?_)) else Lean.Macro.throwUnsupported
theorem drop_row {g h : Heap} {L : Addr} {a b c d : Addr × Obj} {r : List (Addr × Obj)} (N : News g L h (a :: b :: c :: d :: r)) : News g L h (b :: r) := fun p hp => N p (by simp only [List.mem_cons] at hp ⊢; rcases hp with h | h <;> simp [h])
set_option maxRecDepth 100000 in
set_option maxHeartbeats 16000000 in
theorem law_holds : PySem.Challenge.rw_sc0026_01.Holds := hd (by
  k_fill
  intro w s₀ s₁ mg mb G Y fa o pm cd doc dV kV ho hd hcd hD hmg hg args vals as hpre hlay hrd hwl hlo
  have KX := kIn_of Y
  have X := (Ground.X G).1
  have V := (Ground.X G).2
  refine Ground.open G ?_
  intro T B D TE TW
  try (refine guard_noD D (by decide +kernel) ?_; clear D)
  obtain ⟨_, _, M⟩ := bmod_of_top T
  have TA := at_of_top T
  try (obtain ⟨_, _, he, B0⟩ := based_of_top T rfl hmg ho hd; have he' : cd = _ := he; subst he'; clear he)
  clear hmg
  wrow_args hpre hlay hrd hwl hlo
  first | refine callC_kw (enter_call ?_) | refine enter_call ?_ | refine callC_kw (enter_callW ?_) | refine enter_callW ?_
  w_top on
  have K0 := below_caller (Top.heap T)
  w_call any ho hd hcd hD T F
  clear hd TA
  k_drop
  (all_goals try k_fold)
  k_steps
  show wpAny _ _ (call _ [_]) _ _ _
  rename Fr _ _ _ _ => lF
  rename News _ _ _ _ => lN
  rename IntsAre _ _ => lI
  rename Heap.IsList _ _ _ => lL
  have hl63 := (by assumption : ¬ (((63 : Nat) : Int) < _))
  refine row_spec (below_caller _) lF (by assumption) lN (by assumption) rfl lL lI (by omega) (by decide) (by decide) ?_
  intro D R us js kd td h2 tk2 hsh hkd hus F2 N2
  clear lF lN
  (try dsimp only)
  (try k_sweep)
  k_steps
  show wpAny _ _ (call _ [_]) _ _ _
  rename Fr _ _ _ _ => lF
  rename News _ _ _ _ => lN
  refine' told_spec (below_caller _) lF (by assumption) lN (by assumption) rfl ?t1 hus ?t2 ?t3 (by decide) (by decide) ?_
  case t1 => k_mem
  case t2 => exact shape_len hsh
  case t3 => exact shape_first hsh
  intro D2 us2 ks h3 tk3 gs hgs hus2 hks hkl hkn F3 N3 l3
  obtain rfl := told_plain hsh hks hkl hkn
  clear lF lN hks hkn
  k_lt l3
  (try dsimp only)
  (try k_sweep)
  k_steps
  show wpAny _ _ (call _ [_]) _ _ _
  rename Fr _ _ _ _ => lF
  rename News _ _ _ _ => lN
  refine' plain_spec (below_caller _) lF (by assumption) lN (by assumption) rfl ?p1 hus (shape_len hsh) hsh (by decide) (by decide) ?_
  case p1 => k_mem
  intro D3 us3 h4 tk4 hus3 F4 N4
  clear lF lN
  (try dsimp only)
  (try k_sweep)
  k_steps
  show wpAny _ _ _ _ _ _
  rename News _ _ _ _ => lN
  refine ke_ne_ints (isList_of (.tail _ (.head _)) lN) (isList_of (.head _) lN) hus2 hus3 (by ke_room) ?_
  rw [decide_eq_true rfl, Bool.not_true]
  k_steps
  show wpAny _ _ (call _ [_]) _ _ _
  rename Fr _ _ _ _ => lF
  rename News _ _ _ _ => lN
  have N5 := drop_row lN
  clear lN
  refine' marks_spec (below_caller _) lF (by assumption) N5 (by assumption) rfl ?q1 hus2 hkl (by decide) (by decide) ?_
  case q1 => k_mem
  intro lm xm km h5 tk5 him F6 N6 l5
  k_lt l5
  clear lF N5
  (try dsimp only)
  (try k_sweep)
  k_steps
  show wpAny _ _ (subscriptTail _ _ (Value.ref _) (Value.int _ _)) _ _ _
  rename Fr _ _ _ _ => lF
  rename News _ _ _ _ => lN
  refine item_pick2 lN hkd ?_ (by with_unfolding_all rfl)
  intro ax b b' tb tb' hax hb' hb N7
  clear lN
  (try dsimp only at N7)
  (try dsimp only)
  (try k_sweep)
  k_steps
  show wpAny _ _ _ _ _ _
  refine wpAny_Assign_Name ?_ (by with_unfolding_all rfl)
  refine LCg.ListComp_U (F₀ := by k_asm) (by with_unfolding_all rfl) (by decide) (by rfl) (by decide) (by rfl) ?_
  k_steps
  show LCg.CompSrc _ _ _ _ _ _ _ _ _ _ _ _ _ _
  rename News _ _ _ _ => lN
  obtain ⟨HD, hHD, N8⟩ := ledger_is lN
  clear lN
  obtain ⟨ms, hms⟩ : ∃ ms, ms = marksOf (plainL js) := ⟨_, rfl⟩
  have hml : ms.length ≤ 4 := hms ▸ marks_len _ hkl
  have hpl : Places ms := hms ▸ marks_places _
  rename IntsAre _ (marksOf _) => him
  rw [← hms] at him
  have him0 : Held (IntsAre xm.toList ms) := him
  refine LCg.CompSrc.range (n := 12) (by rfl) (by k_asm) N8 (by assumption) (by decide) (by rfl) (by rw [PySem.sizeLine_eq]; decide) ?_
  rename World => ww
  intro g1
  refine rest_ind (n := 12) (fun i ys nw => ∃ own, nw = HD ++ own ∧ (∀ p ∈ own, ∀ q ∈ HD, @LT.lt Nat _ q.1 p.1) ∧ RecsR ww.params ys ms b i own) ?_ ?_ 12 0 [] HD rfl ⟨[], (List.append_nil _).symm, (fun _ hp => by cases hp), RecsR.nil⟩
  · rintro i ys nw hi1 ⟨own, rfl, hown, hR⟩ v I oI C oC D m2 h tk E1 ⟨t, rfl⟩ hC hx F1 N1 off ne
    have N1x := N1
    rw [hHD] at N1x
    simp only [List.cons_append, List.nil_append] at N1x
    k_steps
    show wpAny _ _ (call _ _) _ _ _
    have hlm : (lm, listOf xm.toList.toArray km) ∈ (I, oI) :: (C, oC) :: (D, LCg.lst ys) :: (HD ++ own) := by
      rw [hHD]; exact .tail _ (.tail _ (.tail _ (.tail _ (.head _))))
    refine record_spec (below_caller _) F1 (by assumption) N1 (by assumption) rfl hlm him (by omega) (by decide) (by decide) ?_
    intro x d l r t1 t2 t3 t4 xs nn h' tk' hss F2 N2 l1 l2 l3 l4
    refine LCg.CompEnd.intro F2 N2 (HD ++ (r, listOf #[] 0) :: (l, listOf xs nn) :: (x, instObj 59 d) :: (d, dictOf (recDict ww.params l r t1 t2 t3 t4) 4) :: own) sub_four (off_four off l1 l2 l3 l4) trivial ⟨_, rfl, own_four' hown l1 l2 l3 l4, ?_⟩
    refine RecsR.snoc (hR.mono fun p hp => .tail _ (.tail _ (.tail _ (.tail _ hp)))) (.tail _ (.tail _ (.head _))) (.tail _ (.tail _ (.tail _ (.head _)))) (.tail _ (.head _)) ?_ (.head _)
    rw [Int.zero_add] at hss; exact hss
  · rintro rs nw ⟨own, rfl, hown, hR⟩ Dr hr tkr Fr1 Nr offr
    rw [hHD] at Nr
    simp only [List.cons_append, List.nil_append] at Nr
    have hoffr := offr
    rw [hHD] at hoffr
    simp only [List.cons_append, List.nil_append] at hoffr
    obtain ⟨o1, o2, o3, o4, o5, o6, o7⟩ := hoffr
    have hne3 := own_ne hown (by rw [hHD]; exact .tail _ (.tail _ (.tail _ (.head _))))
    have hne4 := own_ne hown (by rw [hHD]; exact .tail _ (.tail _ (.tail _ (.tail _ (.head _)))))
    have hne5 := own_ne hown (by rw [hHD]; exact .tail _ (.tail _ (.tail _ (.tail _ (.tail _ (.head _))))))
    k_steps
    show wpAny _ _ _ _ _ _
    refine LCg.Assign_ListComp_U (F₀ := by k_asm) (by rfl) (by with_unfolding_all rfl) (by with_unfolding_all rfl) (by decide) (by rfl) (by decide) (by rfl) (by rfl) (by rfl) ?_
    k_steps
    show LCg.CompSrc _ _ _ _ _ _ _ _ _ _ _ _ _ _
    rename News _ _ _ _ => lN
    obtain ⟨HE, hHE, N10⟩ := ledger_is lN
    clear lN
    have hrsl := hR.1
    refine' LCg.CompSrc.ledger (its := rs.toArray) (k := rs.length) (by rfl) (by k_asm) N10 ?mm1 ?mm2 ?_
    case mm1 => rw [hHE]; exact .head _
    case mm2 => rw [List.size_toArray, hrsl, PySem.sizeLine_eq]; decide
    intro g2
    have ownE : ∀ p ∈ own, p ∈ HE := fun p hp => by rw [hHE]; exact .tail _ (.tail _ (.tail _ (.tail _ (.tail _ (.tail _ (.tail _ hp))))))
    refine' rest_ind (n := rs.toArray.size) (fun i ys nw => ∃ own2, nw = HE ++ own2 ∧ (∀ p ∈ own2, ∀ q ∈ HE, @LT.lt Nat _ q.1 p.1) ∧ ListsR (bothOf b ms) ys i own2) ?_ ?_ rs.toArray.size 0 [] HE (Nat.zero_add _) ⟨[], (List.append_nil _).symm, (fun _ hp => by cases hp), ListsR.nil⟩
    · rintro i ys nw hi1 ⟨own2, rfl, hown2, hM⟩ v I oI C oC D m2 h tk E1 hv hC hx F1 N1 off ne
      rw [List.size_toArray, hrsl] at hi1
      obtain ⟨x0, d0, l0, r0, t01, t02, t03, t04, xs0, nn0, a0, w01, w02, w03, w04, w05⟩ := hR.2 0 (by decide)
      obtain ⟨x1, d1, l1, r1, t11, t12, t13, t14, xs1, nn1, a1, w11, w12, w13, w14, w15⟩ := hR.2 i hi1
      obtain rfl : v = .ref x1 := by
        have hv' : rs[i]? = some v := by simpa using hv
        rw [a1] at hv'; cases hv'; rfl
      have N1x := N1
      rw [hHE] at N1x
      simp only [List.cons_append, List.nil_append] at N1x
      k_steps
      show wpAny _ _ (subscriptTail _ _ (Value.ref _) (Value.int _ _)) _ _ _
      have up : ∀ p ∈ own, p ∈ (I, oI) :: (C, oC) :: (D, LCg.lst ys) :: (HE ++ own2) := fun p hp => .tail _ (.tail _ (.tail _ (List.mem_append_left _ (ownE p hp))))
      have hDr : (Dr, LCg.lst rs) ∈ (I, oI) :: (C, oC) :: (D, LCg.lst ys) :: (HE ++ own2) := by
        rw [hHE]; exact .tail _ (.tail _ (.tail _ (.head _)))
      refine item_listR (x := .ref x0) (isList_of hDr N1) (by decide) (by decide) (by simpa using a0) ?_ (by with_unfolding_all rfl)
      k_steps
      show wpAny _ _ (call _ _) _ _ _
      refine merge_spec (below_caller _) F1 (by assumption) N1 (by assumption) rfl (up _ w01) (up _ w02) (up _ w03) w04 (up _ w05) (up _ w11) (up _ w12) (up _ w13) w14 (up _ w15) (by rw [agents_len]; omega) (by rw [agents_len]; omega) (by decide) (by decide) ?_
      intro x d l r t1 t2 t3 t4 xs nn h' tk' hss F2 N2 l1 l2 l3 l4
      clear N1x
      (try dsimp only)
      (try k_sweep)
      k_steps
      refine LCg.CompEnd.intro F2 N2 (HE ++ (r, listOf #[] 0) :: (l, listOf xs nn) :: (x, instObj 59 d) :: (d, dictOf (recDict ww.params l r t1 t2 t3 t4) 4) :: own2) sub_four (off_four off l1 l2 l3 l4) (.inr ⟨LCg.lst rs, by rw [hHE]; exact .head _, rfl, _, rfl⟩) ⟨_, rfl, own_four' hown2 l1 l2 l3 l4, ?_⟩
      exact (hM.mono fun p hp => .tail _ (.tail _ (.tail _ (.tail _ hp)))).snoc (.tail _ (.head _)) hss
    · rintro shs nw ⟨own2, rfl, hown2, hM⟩ Ds hs tks Fs Ns offs
      rw [List.size_toArray, hrsl] at hM
      rw [hHE] at Ns
      simp only [List.cons_append, List.nil_append] at Ns
      k_steps
      show wpAny _ _ _ _ _ _
      refine ListComp_C (F₀ := by k_asm) (by with_unfolding_all rfl) (fun _ _ => rfl) (fun _ => rfl) (by rfl) (by decide) (fun _ _ => rfl) ?_
      k_steps
      rename Fr _ _ _ _ => lF
      rename News _ _ _ _ => lN
      obtain ⟨HF, hHF, N11⟩ := ledger_is lN
      refine SrcC.range (n := 12) (fun i ys nw => ∃ own3, nw = HF ++ own3 ∧ (∀ p ∈ own3, ∀ q ∈ HF, @LT.lt Nat _ q.1 p.1) ∧ ListsR (wantOf b ms) ys i own3) (by rfl) lF N11 (by assumption) (by decide) (by rfl) (by rw [PySem.sizeLine_eq]; decide) ⟨[], (List.append_nil _).symm, (fun _ hp => by cases hp), ListsR.nil⟩ ?_ ?_
      · rintro g3 i ys nw hi1 ⟨own3, rfl, hown3, hE⟩ v I oI C c oC oc D h tk E1 ⟨t, rfl⟩ hoc hS F1 N1 off ne offc
        refine wpAny_tests_nil ?_
        simp only [if_true]
        have N1x := N1
        rw [hHF] at N1x
        simp only [List.cons_append, List.nil_append] at N1x
        clear lF lN N11
        k_steps
        show wpAny _ _ _ _ _ _
        have him : IntsAre xm.toList ms := him0
        have lml := him.length
        refine LCt.ListComp_T (F₀ := by k_asm) (by with_unfolding_all rfl) (by decide) (by rfl) (by decide) (by rfl) ?_
        k_steps
        show LCt.CompSrcT _ _ _ _ _ _ _ _ _ _ _ _ _ _ _
        refine' LCt.CompSrcT.ledger (its := xm) (k := km) (by rfl) (by k_asm) (by k_asm) ?e1 ?e2 ?_
        case e1 => k_mem
        case e2 => rw [← Array.length_toList, lml, PySem.sizeLine_eq]; omega
        intro g4
        refine' rest_pick (ks := ms) (fun j => ms.any (· == Int.fmod (j - (0 + (i : Int))) 12)) (fun j => letter b j.toNat) (by rw [← lml, Array.length_toList]) (ints_P him) ?e3 ?_ ?_ ?_
        case e3 => exact Or.inr ⟨_, by k_mem, rfl, _, rfl⟩
        · intro k t2 I2 oI2 C2 oC2 D2' m3 ys2 h2 tk2 E2 hk1 hC2 hx2 F2 N2 off2 ne2
          k_steps
          exact ⟨_, rfl⟩
        · intro k t2 I2 oI2 C2 oC2 D2' m3 ys2 h2 tk2 E2 hk1 hC2 hx2 F2 N2 off2 ne2
          have hk2 := (hpl.2 k hk1).1
          have hk3 := (hpl.2 k hk1).2
          k_steps
          exact ⟨_, rfl⟩
        intro us hus
        k_steps
        show wpAny _ _ _ _ _ _
        rename Fr _ _ _ _ => lF
        rename News _ _ _ _ => lN
        refine add_strs (vs := [_]) lF lN (.tail _ (.head _)) (.head _) (.cons _ _ .nil) hus ?_ (by have := List.length_filter_le (fun j => ms.any (· == Int.fmod (j - (0 + (i : Int))) 12)) ms; rw [List.length_map]; show 1 + _ ≤ 100; omega)
        intro D5 us5 h5 F5 N5 l5 hus5
        have N5' := news_of_eq (l := (D5, listOf us5.toArray 0) :: (I, oI) :: (C, oC) :: (D, LCg.lst ys) :: (c, oc) :: (HF ++ own3)) (by rw [hHF]; simp only [List.cons_append, List.nil_append]) (drop_two N5)
        have l5' : ∀ p ∈ (I, oI) :: (C, oC) :: (D, LCg.lst ys) :: (c, oc) :: (HF ++ own3), p.1 < D5 := by
          rw [hHF]; simp only [List.cons_append, List.nil_append]
          exact fun p hp => l5 p (.tail _ (.tail _ hp))
        refine LCg.CompEnd.intro F5 N5' ((c, oc) :: (HF ++ (D5, listOf us5.toArray 0) :: own3)) sub_one (off_one off (l5' _ (.head _)) (l5' _ (.tail _ (.head _))) (l5' _ (.tail _ (.tail _ (.head _))))) trivial ⟨oc, _, _, rfl, hoc, offc_one offc (Nat.ne_of_gt (l5' (c, oc) (.tail _ (.tail _ (.tail _ (.head _)))))), _, rfl, own_one hown3 (fun q hq => l5' q (.tail _ (.tail _ (.tail _ (.tail _ (List.mem_append_left _ hq)))))), ?_⟩
        refine (hE.mono fun p hp => .tail _ hp).snoc (.head _) ?_
        rw [Int.zero_add] at hus5
        exact hus5
      · rintro g5 es nw ⟨own3, rfl, hown3, hE⟩ De he tke Fe Ne offe
        rw [hHF] at Ne
        simp only [List.cons_append, List.nil_append] at Ne
        clear lF lN N11
        k_steps
        show wpAny _ _ _ _ _ _
        rename News _ _ _ _ => lN
        have hMw : ListsR (wantOf b ms) shs 12 own2 := (funext fun k => both_want hb hpl k : bothOf b ms = wantOf b ms) ▸ hM
        have hsub2 : ∀ p ∈ own2, p ∈ HF ++ own3 := fun p hp => List.mem_append_left _ (by rw [hHF]; simp [hp])
        refine ne_lists lN (.tail _ (.head _)) (.head _) hMw (fun p hp => ?_) hE (fun p hp => ?_) (want_ok hb hpl) (by ke_room) ?_
        · have := hsub2 p hp
          rw [hHF] at this
          simp only [List.cons_append, List.nil_append] at this
          exact .tail _ this
        · have : p ∈ HF ++ own3 := List.mem_append_right _ hp
          rw [hHF] at this
          simp only [List.cons_append, List.nil_append] at this
          exact .tail _ this
        clear hMw hsub2
        k_steps
        show wpAny _ _ _ _ _ _
        refine LCg.ListComp_U (F₀ := by k_asm) (by with_unfolding_all rfl) (by decide) (by rfl) (by decide) (by rfl) ?_
        k_steps
        show wpAny _ _ (call (Value.ref 59) _) _ _ _
        rename Fr _ _ _ _ => lF
        rename News _ _ _ _ => lN
        obtain ⟨HG, hHG, N12⟩ := ledger_is lN
        clear lN
        refine new_spec (below_caller _) lF (by assumption) N12 (by assumption) rfl (by decide) (by decide) ?_
        intro xe de le re te1 te2 te3 te4 h13 tk13 F13 N13 l13a l13b l13c l13d
        clear lF
        (try dsimp only)
        (try k_sweep)
        k_steps
        show wpAny _ _ (binaryOp _ _ _) _ _ _
        rename Fr _ _ _ _ => lF
        rename News _ _ _ _ => lN
        have hDr : (Dr, listOf rs.toArray rs.length) ∈ HG := by rw [hHG]; exact .tail _ (.tail _ (.head _))
        have hlm : (lm, listOf xm km) ∈ HG := by rw [hHG]; exact .tail _ (.tail _ (.tail _ (.tail _ (.head _))))
        have hDs : (Ds, listOf shs.toArray shs.length) ∈ HG := by rw [hHG]; exact .tail _ (.head _)
        have ownG : ∀ p ∈ own, p ∈ HG := fun p hp => by rw [hHG]; simp [hp]
        have own2G : ∀ p ∈ own2, p ∈ HG := fun p hp => by rw [hHG]; simp [hp]
        refine add_lists (vs := rs) (ws := [Value.ref xe]) lF lN (isList_of (.tail _ (.tail _ (.tail _ (.tail _ (.tail _ hDr))))) lN) (isList_of (.head _) lN) ?_ (by rw [hrsl, PySem.sizeLine_eq]; show 12 + 1 ≤ _; decide)
        intro h14 F14 N14
        obtain ⟨LG, hLG, N15⟩ := ledger_is N14
        have ownL : ∀ p ∈ HG, p ∈ LG := fun p hp => by rw [hLG]; simp [hp]
        refine LCg.CompSrc.ledger (its := (rs ++ [Value.ref xe]).toArray) (k := 0) (by rfl) F14 N15 (by rw [hLG]; exact .head _) (by rw [List.size_toArray, List.length_append, hrsl, PySem.sizeLine_eq]; show 12 + 1 ≤ _; decide) ?_
        intro g6
        refine rest_ind (n := (rs ++ [Value.ref xe]).toArray.size) (fun i ys nw => nw = LG ∧ ys = answers.take i) ?_ ?_ _ 0 [] LG (Nat.zero_add _) ⟨rfl, rfl⟩
        · rintro i ys nw hi1 ⟨hnw, rfl⟩ v I oI C oC D m2 h tk E1 hv hC hx F1 N1 off ne
          subst hnw
          rw [List.size_toArray, List.length_append, hrsl] at hi1
          obtain ⟨x, d, l, r, t1, t2, t3, t4, xs, ss, nn, rfl, w1, w2, w3, w4, w5⟩ := recs_any hR (fun p hp => ownL p (ownG p hp)) (by rw [hLG]; simp : (xe, instObj 59 de) ∈ nw) (by rw [hLG]; simp : (de, dictOf (recDict ww.params le re te1 te2 te3 te4) 4) ∈ nw) (by rw [hLG]; simp : (le, listOf #[] 0) ∈ nw) (by simpa using hv)
          clear lF lN N14
          k_steps
          show wpAny _ _ (call (Value.ref 49) _) _ _ _
          refine applies_none (below_caller _) F1 (by assumption) N1 (by assumption) rfl (.tail _ (.tail _ (.tail _ w1))) (.tail _ (.tail _ (.tail _ w2))) (.tail _ (.tail _ (.tail _ w3))) w4 (by decide) (by decide) ?_
          intro h' tk' F2 N2
          refine LCg.CompEnd.intro F2 N2 nw (fun p hp => hp) off (.inr ⟨_, by rw [hLG]; exact .head _, rfl, _, rfl⟩) ⟨rfl, ?_⟩
          rw [w5]
          exact answers_snoc hi1
        · rintro ans nw ⟨hnw, rfl⟩ Da ha tka Fa Na offa
          subst hnw
          rw [show List.take (rs ++ [Value.ref xe]).toArray.size answers = answers from by rw [List.size_toArray, List.length_append, hrsl]; rfl] at Na
          clear lF lN N14
          k_steps
          show wpAny _ _ (binaryOp _ _ _) _ _ _
          rename Fr _ _ _ _ => lF
          rename News _ _ _ _ => lN
          refine mul_trues lF lN (.head _) ?_
          intro Dm h15 F15 N15'
          clear lF lN
          k_steps
          show wpAny _ _ (binaryOp _ _ _) _ _ _
          rename Fr _ _ _ _ => lF
          rename News _ _ _ _ => lN
          refine add_answers lF lN (.tail _ (.head _)) (.head _) ?_
          intro Dz h16 F16 N16
          clear lF lN
          have N17 := news_tail5 N16
          clear N16
          show wpAny _ _ (compareOp _ _ _) _ _ _
          refine ne_answers N17 (.tail _ (.head _)) (.head _) (by ke_room) ?_
          -- here
          have N18 := news_sub N17 (fun p hp => .tail _ (.tail _ (ownL p hp)))
          clear N17
          rw [hHG] at N18
          k_steps
          show wpAny _ _ (call (Value.ref 115) _) _ _ _
          rename Fr _ _ _ _ => lF
          have N18h := news_of_eq hHG N18
          have hlm' : (lm, listOf xm.toList.toArray km) ∈ HG := hlm
          refine ways_law (below_caller _) lF (by assumption) N18h (by assumption) rfl hlm' (show IntsAre xm.toList ms from him0) hml hpl hDr (hR.recs.mono ownG) hlm' (show IntsAre xm.toList ms from him0) hpl hb hb' (by decide) (by decide) ?_
          intro tw h17 tk17 F17 N20
          rw [hHG] at N20
          clear lF N18 N18h
          (try dsimp only)
          (try k_sweep)
          k_steps
          show wpAny _ _ _ _ _ _
          refine LCg.ListComp_U (F₀ := by k_asm) (by with_unfolding_all rfl) (by decide) (by rfl) (by decide) (by rfl) ?_
          k_steps
          show LCg.CompSrc _ _ _ _ _ _ _ _ _ _ _ _ _ _
          have hMw : ListsR (wantOf b ms) shs 12 own2 := (funext fun k => both_want hb hpl k : bothOf b ms = wantOf b ms) ▸ hM
          rename News _ _ _ _ => lN
          have N21 := news_of_eq hHG lN
          refine LCg.CompSrc.ledger (its := shs.toArray) (k := shs.length) (by rfl) (by k_asm) N21 hDs (by rw [List.size_toArray, hM.1, PySem.sizeLine_eq]; decide) ?_
          intro g7
          refine rest_map (fun i ys => IntsAre ys ((sharesL ms).take i)) (.inr ⟨_, hDs, rfl, _, rfl⟩) .nil ?_ ?_
          · intro i v I oI C oC D m2 ys h tk E1 hi1 hv hJ hC hx F1 N1 off ne
            rw [List.size_toArray, hM.1] at hi1
            obtain ⟨l, xs, nn, q1, q2, q3⟩ := hMw.2 i hi1
            obtain rfl : v = .ref l := by
              have hv' : shs[i]? = some v := by simpa using hv
              rw [q1] at hv'; cases hv'; rfl
            have hxs := strs_size q3
            rw [want_len] at hxs
            k_steps
            show wpAny _ _ (call _ [_]) _ _ _
            refine len_L N1 (.tail _ (.tail _ (.tail _ (own2G _ q2)))) (by have := List.length_filter_le (fun j => ms.any (· == Int.fmod (j - (i : Int)) 12)) ms; omega) ?_
            k_steps
            · exact shares_snoc hJ hi1 (by rw [hxs]; omega)
            · exact ⟨_, rfl⟩
          · intro ys hys Dq hq tkq Fq Nq offq
            have hys' : IntsAre ys (sharesL ms) := by
              rw [List.size_toArray, hM.1, List.take_of_length_le (Nat.le_of_eq shares_len)] at hys
              exact hys
            k_steps
            show wpAny _ _ (call (Value.ref 120) _) _ _ _
            rename Fr _ _ _ _ => lF
            refine due_spec (below_caller _) lF (by assumption) Nq (by assumption) rfl (.head _) hys' shares_len (shares_first hpl hml (hms ▸ marks_some (plain_some hsh))) (by decide) (by decide) ?_
            intro td h18 tk18 F18 N22
            clear lF
            (try dsimp only)
            (try k_sweep)
            k_steps
            rw [ring_law hpl hml (hms ▸ marks_some (plain_some hsh)), beq_self_eq_true]
            refine law_end F18 hg hgs (fun _ => rfl) ?_
            wrow_post)
end
end Mine
theorem PySem.Challenge.cw_sc0026_01_holds : PySem.Challenge.rw_sc0026_01.Holds := by
  exact Mine.law_holds
