import PyProof.Rows.All
import Wide.All
import OpenK.AllK
import Wide.FinOn
import PySem.Challenge.RW_ah6001_01
set_option Elab.async false
/-! part LawTop -/
section
open PySem PySem.W PyProof.Rows
namespace Mine
set_option maxRecDepth 100000 in
set_option maxHeartbeats 8000000 in
open_top hd for PySem.Challenge.rw_ah6001_01
end Mine
end
/-! part Laws -/
section
open PySem PySem.W PySem.Calls PyProof.Rows
namespace Mine
/-! the plain functions that the text reckons -/
def alpha : Str := Str.ofString "ABCDEFGHIJKLMNOPQRSTUVWXYZabcdefghijklmnopqrstuvwxyz0123456789+/"
def bitsOf (x k : Int) : List Int := (rangeKs 0 (Int.toNat (k - 0))).map fun j => Builtin.bitAnd (Int.fdiv x (2 ^ Int.toNat (k - 1 - j))) 1
def worthOf (ns : List Int) : Int := ns.foldl (fun a b => 2 * a + b) 0
def bitsAll (l : List UInt8) : List Int := l.flatMap fun c => bitsOf (c.toNat : Int) 8
def signC (ns : List Int) (q : Nat) : Nat := alpha.cps.getD (Int.toNat (worthOf ((ns.drop (6 * q)).take 6))) 0
/-- single signs as texts -/
def ones (cs : List Nat) : List Str := cs.map fun c => (⟨#[c]⟩ : Str)

/-- what _law_told tells -/
def padBits (l : List UInt8) : List Int := bitsAll l ++ List.replicate ((6 - 8 * l.length % 6) % 6) 0
def toldCs (l : List UInt8) : List Nat := (List.range ((padBits l).length / 6)).map (signC (padBits l))
def toldOf (l : List UInt8) : List Nat := toldCs l ++ List.replicate ((4 - (toldCs l).length % 4) % 4) 61
def asB (l : List Nat) : List UInt8 := l.map fun c => c.toUInt8

/-- what b64encode tells -/
def valueB (l : List UInt8) : Int := (l.map fun c => (c.toNat : Int)).foldl (fun a k => a * 256 + k) 0
def encN (p : List UInt8) : Int := valueB p * 2 ^ Int.toNat (8 * (3 - (p.length : Int)))
def rowC (i : Int) : Nat := alpha.cps.getD i.toNat 0
def encRow (p : List UInt8) : List Nat := [rowC (Int.fdiv (encN p) 262144)] ++ [rowC (Int.fmod (Int.fdiv (encN p) 4096) 64)] ++ [rowC (Int.fmod (Int.fdiv (encN p) 64) 64)] ++ [rowC (Int.fmod (encN p) 64)]
def encTo (b : List UInt8) (i : Nat) : List Nat := (List.range i).flatMap fun q => (encRow ((b.drop (3 * q)).take 3)).take (Int.toNat ((((b.drop (3 * q)).take 3).length : Int) + 1)) ++ List.replicate (Int.toNat (3 - (((b.drop (3 * q)).take 3).length : Int))) 61
def encOf (b : List UInt8) : List Nat := encTo b ((b.length + 3 - 1) / 3)

theorem bits_01 {x k n : Int} (h : n ∈ bitsOf x k) : n = 0 ∨ n = 1 := by
  obtain ⟨j, _, rfl⟩ := List.mem_map.mp h
  rw [bitAnd_m1]
  omega
theorem bitsOf_len (x k : Int) : (bitsOf x k).length = k.toNat := by
  unfold bitsOf
  rw [List.length_map, rangeKs_length]
  omega
theorem bitsAll_01 {l : List UInt8} {n : Int} (h : n ∈ bitsAll l) : n = 0 ∨ n = 1 := by
  obtain ⟨c, _, hc⟩ := List.mem_flatMap.mp h
  exact bits_01 hc
theorem bitsAll_len (l : List UInt8) : (bitsAll l).length = 8 * l.length := by
  induction l with
  | nil => rfl
  | cons c l ih =>
    have e : bitsAll (c :: l) = bitsOf (c.toNat : Int) 8 ++ bitsAll l := rfl
    rw [e, List.length_append, bitsOf_len, ih, List.length_cons]
    omega
theorem bitsAll_take {b : Array UInt8} {i : Nat} {n : UInt8} (h : b[i]? = some n) : bitsAll (b.toList.take (i + 1)) = bitsAll (b.toList.take i) ++ bitsOf (n.toNat : Int) 8 := by
  have h' : b.toList[i]? = some n := by simpa using h
  rw [List.take_add_one, h']
  simp [bitsAll]
theorem worth_step (ns : List Int) (n : Int) : worthOf (ns ++ [n]) = 2 * worthOf ns + n := by
  unfold worthOf; rw [List.foldl_append]; rfl
theorem worth_from (ns : List Int) : ∀ (k : Nat) (a : Int), 0 ≤ a → a < 2 ^ k → (∀ n ∈ ns, n = 0 ∨ n = 1) → 0 ≤ ns.foldl (fun a b => 2 * a + b) a ∧ ns.foldl (fun a b => 2 * a + b) a < 2 ^ (k + ns.length) := by
  induction ns with
  | nil => intro k a h0 h1 _; exact ⟨h0, h1⟩
  | cons n ns ih =>
    intro k a h0 h1 h
    have hn := h n (List.mem_cons_self)
    have e : k + (n :: ns).length = (k + 1) + ns.length := by rw [List.length_cons]; omega
    rw [List.foldl_cons, e]
    refine ih (k + 1) _ (by omega) ?_ fun x hx => h x (List.mem_cons_of_mem _ hx)
    rw [Int.pow_succ]; omega
theorem worth_lt {ns : List Int} (h : ∀ n ∈ ns, n = 0 ∨ n = 1) : 0 ≤ worthOf ns ∧ worthOf ns < 2 ^ ns.length := by
  have := worth_from ns 0 0 (by decide) (by decide) h
  rw [Nat.zero_add] at this
  exact this
/-- six bits or fewer are below 64 -/
theorem worth_64 {ns : List Int} (h : ∀ n ∈ ns, n = 0 ∨ n = 1) (hl : ns.length ≤ 6) : 0 ≤ worthOf ns ∧ worthOf ns < 64 := by
  obtain ⟨h0, h1⟩ := worth_lt h
  have h2 : (2 : Int) ^ ns.length ≤ 2 ^ 6 := by
    have := Nat.pow_le_pow_right (n := 2) (by decide) hl
    exact_mod_cast this
  exact ⟨h0, by omega⟩
theorem worth_256 {ns : List Int} (h : ∀ n ∈ ns, n = 0 ∨ n = 1) (hl : ns.length ≤ 8) : 0 ≤ worthOf ns ∧ worthOf ns < 256 := by
  obtain ⟨h0, h1⟩ := worth_lt h
  have h2 : (2 : Int) ^ ns.length ≤ 2 ^ 8 := by
    have := Nat.pow_le_pow_right (n := 2) (by decide) hl
    exact_mod_cast this
  exact ⟨h0, by omega⟩
theorem alpha_len : alpha.length = 64 := by decide +kernel
theorem value_from (p : List UInt8) : ∀ (k : Nat) (a : Int), 0 ≤ a → a < 256 ^ k → 0 ≤ (p.map fun c => (c.toNat : Int)).foldl (fun a k => a * 256 + k) a ∧ (p.map fun c => (c.toNat : Int)).foldl (fun a k => a * 256 + k) a < 256 ^ (k + p.length) := by
  induction p with
  | nil => intro k a h0 h1; exact ⟨h0, h1⟩
  | cons n p ih =>
    intro k a h0 h1
    have hn := n.toNat_lt
    have e : k + (n :: p).length = (k + 1) + p.length := by rw [List.length_cons]; omega
    rw [List.map_cons, List.foldl_cons, e]
    refine ih (k + 1) _ (by omega) ?_
    rw [Int.pow_succ]; omega
theorem valueB_lt (p : List UInt8) : 0 ≤ valueB p ∧ valueB p < 256 ^ p.length := by
  have := value_from p 0 0 (by decide) (by decide)
  rw [Nat.zero_add] at this
  exact this
theorem encN_lt {p : List UInt8} (h : p.length ≤ 3) : 0 ≤ encN p ∧ encN p < 16777216 := by
  obtain ⟨h0, h1⟩ := valueB_lt p
  unfold encN
  have hc : p.length = 0 ∨ p.length = 1 ∨ p.length = 2 ∨ p.length = 3 := by omega
  rcases hc with e | e | e | e <;> rw [e] at h1 ⊢ <;> simp at h1 ⊢ <;> omega
theorem valueB_60 {p : List UInt8} (h : p.length ≤ 3) : 0 ≤ valueB p ∧ valueB p < 2 ^ 60 := by
  obtain ⟨h0, h1⟩ := valueB_lt p
  have hc : p.length = 0 ∨ p.length = 1 ∨ p.length = 2 ∨ p.length = 3 := by omega
  rcases hc with e | e | e | e <;> rw [e] at h1 <;> omega
theorem encTo_succ (b : List UInt8) (i : Nat) : encTo b (i + 1) = encTo b i ++ ((encRow ((b.drop (3 * i)).take 3)).take (Int.toNat ((((b.drop (3 * i)).take 3).length : Int) + 1)) ++ List.replicate (Int.toNat (3 - (((b.drop (3 * i)).take 3).length : Int))) 61) := by
  unfold encTo
  rw [List.range_succ, List.flatMap_append]
  simp
theorem encTo_len (b : List UInt8) (i : Nat) : (encTo b i).length ≤ 8 * i := by
  induction i with
  | zero => exact Nat.le_refl _
  | succ i ih =>
    rw [encTo_succ, List.length_append, List.length_append, List.length_replicate, List.length_take]
    have : (encRow ((b.drop (3 * i)).take 3)).length = 4 := rfl
    omega
theorem alpha_lt (i : Nat) : alpha.cps.getD i 0 < 128 := by
  have h : ∀ c ∈ alpha.cps.toList, c < 128 := by decide +kernel
  by_cases hi : i < alpha.cps.size
  · rw [Array.getD_eq_getD_getElem?, Array.getElem?_eq_getElem hi, Option.getD_some]
    exact h _ (Array.mem_toList_iff.mpr (Array.getElem_mem hi))
  · rw [Array.getD_eq_getD_getElem?, Array.getElem?_eq_none (by omega), Option.getD_none]; decide
theorem signC_lt (ns : List Int) (q : Nat) : signC ns q < 128 := alpha_lt _
theorem encTo_lt (b : List UInt8) (i : Nat) : ∀ c ∈ encTo b i, c < 128 := by
  intro c hc
  obtain ⟨q, _, hq⟩ := List.mem_flatMap.mp hc
  rcases List.mem_append.mp hq with hq | hq
  · have := List.mem_of_mem_take hq
    unfold encRow at this
    simp only [List.mem_append, List.mem_singleton] at this
    rcases this with ((h | h) | h) | h <;> (rw [h]; exact alpha_lt _)
  · rw [(List.mem_replicate.mp hq).2]; decide
theorem idx_a {z : Int} (h : 0 ≤ z ∧ z < 16777216) : 0 ≤ Int.fdiv z 262144 ∧ Int.fdiv z 262144 < 64 := by
  rw [Int.fdiv_eq_ediv_of_nonneg _ (by decide)]; omega
theorem idx_m (z : Int) : 0 ≤ Int.fmod z 64 ∧ Int.fmod z 64 < 64 := by
  rw [Int.fmod_eq_emod_of_nonneg _ (by decide)]; omega
end Mine
end
/-! part Base -/
section
open PySem PySem.W PySem.Calls PyProof.Rows
namespace Mine

/-! loops over a state of one's own: the ledger may grow, the names may turn -/
section
variable {prog : Program} {w : World} {A : Around} {E : Value → Shared → Prop} {s : Shared} {env : Env} {h₀ : Heap} {x : Str} {body : List Stmt} {Q : Flow → Shared → Prop}

def TEnd {σ : Type} (h₀ : Heap) (L : Addr) (Led : σ → List (Addr × Obj)) (ps : σ → List (Str × Value)) (stored : List Str) (x : Str) (m₀ : Str → Option Value) (P : σ → Prop) (I : Addr) (oI : Obj) (s₁ s₂ : Shared) : Prop :=
  ∃ c h' tk m', s₂ = { s₁ with heap := h', toks := tk } ∧ Fr h₀ L h' m' ∧ News h₀ L h' ((I, oI) :: Led c) ∧ (∀ q ∈ Led c, @Ne Nat q.1 I) ∧ (∀ q ∈ ps c, m' q.1 = some q.2) ∧
    (∀ z, z ≠ x → (∀ q ∈ ps c, z ≠ q.1) → stored.contains z = false → m' z = m₀ z) ∧ P c
def TPost {σ : Type} (h₀ : Heap) (L : Addr) (Led : σ → List (Addr × Obj)) (ps : σ → List (Str × Value)) (stored : List Str) (x : Str) (m₀ : Str → Option Value) (P : σ → Prop) (I : Addr) (oI : Obj) (s₁ : Shared) (Q : Flow → Shared → Prop) (f : Flow) (s₂ : Shared) : Prop :=
  match f with
  | .ret v => Q (.ret v) s₂
  | .brk => Q .next s₂
  | _ => TEnd h₀ L Led ps stored x m₀ P I oI s₁ s₂

theorem TPost_next {σ : Type} {L I : Addr} {Led : σ → List (Addr × Obj)} {ps : σ → List (Str × Value)} {stored : List Str} {m₀ m' : Str → Option Value} {P : σ → Prop} {oI : Obj} {s₁ : Shared} {h' : Heap} {nx : List (Addr × Obj)} {tk : Nat} (c : σ)
    (F : Fr h₀ L h' m') (N : News h₀ L h' nx) (hN : ∀ q ∈ (I, oI) :: Led c, q ∈ nx) (ha : ∀ q ∈ Led c, @Ne Nat q.1 I) (hk : ∀ q ∈ ps c, m' q.1 = some q.2)
    (hz : ∀ z, z ≠ x → (∀ q ∈ ps c, z ≠ q.1) → stored.contains z = false → m' z = m₀ z) (hP : P c) :
    TPost h₀ L Led ps stored x m₀ P I oI s₁ Q .next { s₁ with heap := h', toks := tk } :=
  ⟨c, h', tk, m', rfl, F, fun q hq => N q (hN q hq), ha, hk, hz, hP⟩

theorem loopS {σ : Type} {I : Addr} {n : Nat} {Pv : Nat → Value → Prop} {St : Nat → Heap → Prop} {m₀ : Str → Option Value} (Led : σ → List (Addr × Obj)) (ps : σ → List (Str × Value)) (stored : List Str) (P : Nat → σ → Prop) (c₀ : σ)
    (W : Walks prog w A I [I] [I] n Pv St) (hLI : env.locals ≠ I) (hI₀ : h₀.get? I = none) (hlive : ∀ i h, St i h → ∃ o, h.get? I = some o)
    (hst : St 0 s.heap) (F : Fr h₀ env.locals s.heap m₀) (N : News h₀ env.locals s.heap (Led c₀)) (hnw : ∀ q ∈ Led c₀, @Ne Nat q.1 I) (hk : ∀ q ∈ ps c₀, m₀ q.1 = some q.2) (hp : P 0 c₀)
    (turn : ∀ i v (c : σ) (u : Str → Option Value) h tk oI, i < n → Pv i v → P i c →
      Fr h₀ env.locals h (fun y => if y = x then some v else kstB (fun z => if stored.contains z then u z else m₀ z) (ps c) y) → News h₀ env.locals h ((I, oI) :: Led c) → (∀ q ∈ Led c, @Ne Nat q.1 I) →
      wpAny (model prog w) A (execs body env) (TPost h₀ env.locals Led ps stored x m₀ (P (i + 1)) I oI { s with heap := h, toks := tk } Q) E { s with heap := h, toks := tk })
    (done : ∀ (c : σ) (u : Str → Option Value) h tk, P n c → Fr h₀ env.locals h (fun y => if y = x then u y else kstB (fun z => if stored.contains z then u z else m₀ z) (ps c) y) → News h₀ env.locals h (Led c) → Q .next { s with heap := h, toks := tk }) :
    LoopAtV prog w A h₀ env x body Q E (.ref I) s := by
  let J : Nat → (Str → Option Value) → List (Addr × Obj) → Prop := fun i m nx => ∃ c, nx = Led c ∧ (∀ q ∈ ps c, m q.1 = some q.2) ∧ (∀ z, z ≠ x → (∀ q ∈ ps c, z ≠ q.1) → stored.contains z = false → m z = m₀ z) ∧ P i c
  refine ⟨I, [I], [I], n, Pv, St, m₀, Led c₀, J, rfl, W, ?_, ?_, ?_, hst, F, N, ⟨c₀, rfl, hk, fun _ _ _ _ => rfl, hp⟩, ?_, ?_⟩
  · intro hm; exact hLI (List.mem_singleton.mp hm)
  · intro b hb; rw [List.mem_singleton.mp hb]; exact hI₀
  · intro q hq hm; exact hnw q hq (List.mem_singleton.mp hm)
  · rintro i v m₁ nx s₁ own ⟨hh, tk, rfl⟩ hi hv ⟨c, rfl, h1, h2, hP⟩ hoff hown hget hall hst₁ F₁ N₁
    obtain ⟨oI, hoI⟩ := hlive _ _ hst₁
    have hIo : (I, oI) ∈ own := hall I (List.mem_singleton.mpr rfl) hI₀ oI hoI
    have N₂ : News h₀ env.locals hh ((I, oI) :: Led c) := fun q hq => by
      rcases List.mem_cons.mp hq with rfl | hq
      · exact N₁ _ (List.mem_append_left _ hIo)
      · exact N₁ _ (List.mem_append_right _ hq)
    refine wpAny_mono (turn i v c m₁ hh tk oI hi hv hP (kst_fr h1 h2 F₁) N₂ (fun q hq e => hoff q hq (List.mem_singleton.mpr e))) (fun f s₂ hq => ?_) fun _ _ e => e
    have fin : TEnd h₀ env.locals Led ps stored x m₀ (P (i + 1)) I oI { s with heap := hh, toks := tk } s₂ → LoopStepU h₀ env.locals [I] own (J (i + 1)) { s with heap := hh, toks := tk } .next s₂ := by
      rintro ⟨c', h', tk', m', e, F', N', a', k1, k2, P'⟩
      refine ⟨rfl, h', tk', m', Led c', e, F', fun q hq => ?_, fun q hq hm => a' q hq (List.mem_singleton.mp hm), c', rfl, k1, k2, P'⟩
      rcases List.mem_append.mp hq with hq | hq
      · have e1 : q.1 = I := List.mem_singleton.mp (hown q hq)
        have e2 := hget q hq
        rw [e1, hoI] at e2
        have e3 : q = (I, oI) := by
          obtain ⟨q1, q2⟩ := q
          cases e1; cases e2; rfl
        rw [e3]
        exact N' _ (List.mem_cons_self)
      · exact N' _ (List.mem_cons_of_mem _ hq)
    cases f with
    | ret v => exact .ret hq
    | brk => exact .brk hq
    | next => exact .next (fin hq)
    | cont => exact .cont (fin hq)
  · rintro h' tk m' nx F' N' hoff ⟨c, rfl, h1, h2, hP⟩
    exact done c m' h' tk hP (kst_frOut h1 h2 F') N'

theorem iterS_bytes {σ : Type} {b : Array UInt8} {tb : Tok} {m₀ : Str → Option Value} (Led : σ → List (Addr × Obj)) (ps : σ → List (Str × Value)) (stored : List Str) (P : Nat → σ → Prop) (c₀ : σ)
    (hh : A.handled = none) (F : Fr h₀ env.locals s.heap m₀) (N : News h₀ env.locals s.heap (Led c₀)) (hk : ∀ q ∈ ps c₀, m₀ q.1 = some q.2) (hp : P 0 c₀)
    (turn : ∀ i (n : UInt8) t (c : σ) (u : Str → Option Value) h tk I oI, b[i]? = some n → P i c →
      Fr h₀ env.locals h (fun y => if y = x then some (.int (n.toNat : Int) t) else kstB (fun z => if stored.contains z then u z else m₀ z) (ps c) y) → News h₀ env.locals h ((I, oI) :: Led c) → (∀ q ∈ Led c, @Ne Nat q.1 I) →
      wpAny (model prog w) A (execs body env) (TPost h₀ env.locals Led ps stored x m₀ (P (i + 1)) I oI { s with heap := h, toks := tk } Q) E { s with heap := h, toks := tk })
    (done : ∀ (c : σ) (u : Str → Option Value) h tk, P b.size c → Fr h₀ env.locals h (fun y => if y = x then u y else kstB (fun z => if stored.contains z then u z else m₀ z) (ps c) y) → News h₀ env.locals h (Led c) → Q .next { s with heap := h, toks := tk }) :
    wpAny (model prog w) A (pyIter (.bytes b tb)) (fun it s₂ => LoopAtV prog w A h₀ env x body Q E it s₂) E s := by
  refine KBw.pyIter_bytes ?_
  have W := KBw.walks (prog := prog) (w := w) hh s.heap.objs.size b tb
  refine loopS Led ps stored P c₀ W (Nat.ne_of_lt F.ns.lt) (next_is_new F) (fun i h st => by obtain ⟨o, e, _⟩ := st; exact ⟨o, e⟩) ⟨_, Heap.get?_push_size _ rfl, rfl, rfl⟩ (F.push _) (fun q hq => ⟨Heap.get?_push_of_some _ (N q hq).1, (N q hq).2⟩) (fun q hq => Nat.ne_of_lt (Heap.lt_size (N q hq).1)) hk hp ?_ done
  rintro i v c u h tk oI hi ⟨n, t, hn, rfl⟩ hP F₁ N₁ a₁
  exact turn i n t c u h tk _ oI hn hP F₁ N₁ a₁

theorem iterS_str {σ : Type} {y : Str} {ty : Tok} {m₀ : Str → Option Value} (Led : σ → List (Addr × Obj)) (ps : σ → List (Str × Value)) (stored : List Str) (P : Nat → σ → Prop) (c₀ : σ)
    (hh : A.handled = none) (ha : y.cps.all (· < 128) = true) (F : Fr h₀ env.locals s.heap m₀) (N : News h₀ env.locals s.heap (Led c₀)) (hk : ∀ q ∈ ps c₀, m₀ q.1 = some q.2) (hp : P 0 c₀)
    (turn : ∀ i (n : Nat) t (c : σ) (u : Str → Option Value) h tk I oI, y.cps[i]? = some n → P i c →
      Fr h₀ env.locals h (fun z => if z = x then some (.str ⟨#[n]⟩ t) else kstB (fun z => if stored.contains z then u z else m₀ z) (ps c) z) → News h₀ env.locals h ((I, oI) :: Led c) → (∀ q ∈ Led c, @Ne Nat q.1 I) →
      wpAny (model prog w) A (execs body env) (TPost h₀ env.locals Led ps stored x m₀ (P (i + 1)) I oI { s with heap := h, toks := tk } Q) E { s with heap := h, toks := tk })
    (done : ∀ (c : σ) (u : Str → Option Value) h tk, P y.cps.size c → Fr h₀ env.locals h (fun z => if z = x then u z else kstB (fun z => if stored.contains z then u z else m₀ z) (ps c) z) → News h₀ env.locals h (Led c) → Q .next { s with heap := h, toks := tk }) :
    wpAny (model prog w) A (pyIter (.str y ty)) (fun it s₂ => LoopAtV prog w A h₀ env x body Q E it s₂) E s := by
  refine wpAny_pyIter_ascii ha ?_
  have W := Walks.strAscii (prog := prog) (w := w) hh s.heap.objs.size y ty
  refine loopS Led ps stored P c₀ W (Nat.ne_of_lt F.ns.lt) (next_is_new F) (fun i h st => by obtain ⟨o, e, _⟩ := st; exact ⟨o, e⟩) ⟨_, Heap.get?_push_size _ rfl, rfl, rfl⟩ (F.push _) (fun q hq => ⟨Heap.get?_push_of_some _ (N q hq).1, (N q hq).2⟩) (fun q hq => Nat.ne_of_lt (Heap.lt_size (N q hq).1)) hk hp ?_ done
  rintro i v c u h tk oI hi ⟨n, t, hn, rfl⟩ hP F₁ N₁ a₁
  exact turn i n t c u h tk _ oI hn hP F₁ N₁ a₁

theorem iterS_range {σ : Type} {r : Addr} {a₀ b₀ d₀ : Int} {t₀ u₀ v₀ : Tok} {n : Nat} {m₀ : Str → Option Value} (Led : σ → List (Addr × Obj)) (ps : σ → List (Str × Value)) (stored : List Str) (P : Nat → σ → Prop) (c₀ : σ)
    (hh : A.handled = none) (hr : IsRange s.heap r a₀ b₀ d₀ t₀ u₀ v₀) (hsmall : Builtin.Range.small a₀ b₀ d₀ = true) (hn : Builtin.Range.rangeSize a₀ b₀ d₀ = (n : Int)) (F : Fr h₀ env.locals s.heap m₀) (N : News h₀ env.locals s.heap (Led c₀)) (hk : ∀ q ∈ ps c₀, m₀ q.1 = some q.2) (hp : P 0 c₀)
    (turn : ∀ (i : Nat) (k : Int) t (c : σ) (u : Str → Option Value) h tk I oI, i < n → k = a₀ + (i : Int) * d₀ → P i c →
      Fr h₀ env.locals h (fun z => if z = x then some (.int k t) else kstB (fun z => if stored.contains z then u z else m₀ z) (ps c) z) → News h₀ env.locals h ((I, oI) :: Led c) → (∀ q ∈ Led c, @Ne Nat q.1 I) →
      wpAny (model prog w) A (execs body env) (TPost h₀ env.locals Led ps stored x m₀ (P (i + 1)) I oI { s with heap := h, toks := tk } Q) E { s with heap := h, toks := tk })
    (done : ∀ (c : σ) (u : Str → Option Value) h tk, P n c → Fr h₀ env.locals h (fun z => if z = x then u z else kstB (fun z => if stored.contains z then u z else m₀ z) (ps c) z) → News h₀ env.locals h (Led c) → Q .next { s with heap := h, toks := tk }) :
    wpAny (model prog w) A (pyIter (.ref r)) (fun it s₂ => LoopAtV prog w A h₀ env x body Q E it s₂) E s := by
  refine wpAny_pyIter_range hr hsmall ?_
  have W : Walks prog w A s.heap.objs.size [s.heap.objs.size] [s.heap.objs.size] n (fun i v => i < n ∧ ∃ t, v = .int (a₀ + i * d₀) t)
      (fun i h => IsRangeIter h s.heap.objs.size (a₀ + (i : Nat) * d₀) ((n : Int) - (i : Nat)) d₀) := (Walks.range hh _ a₀ d₀ n).bound
  refine loopS Led ps stored P c₀ W (Nat.ne_of_lt F.ns.lt) (next_is_new F) (fun i h st => ⟨_, st⟩) (by show IsRangeIter _ _ _ _ _; rw [hn]; simpa using Heap.get?_push_size _ rfl) (F.push _) (fun q hq => ⟨Heap.get?_push_of_some _ (N q hq).1, (N q hq).2⟩) (fun q hq => Nat.ne_of_lt (Heap.lt_size (N q hq).1)) hk hp ?_ done
  rintro i v c u h tk oI hi ⟨_, t, rfl⟩ hP F₁ N₁ a₁
  exact turn i _ t c u h tk _ oI hi rfl hP F₁ N₁ a₁
end

/-- to name the newest text's token -/
theorem tok_str {h₀ h : Heap} {L : Addr} {x v : Str} {t : Tok} {r : Str → Option Value} (_ : Fr h₀ L h (fun y => if y = x then some (.str v t) else r y)) : ∃ t₀ : Tok, t₀ = t := ⟨t, rfl⟩
theorem tok_bytes {h₀ h : Heap} {L : Addr} {x : Str} {v : Array UInt8} {t : Tok} {r : Str → Option Value} (_ : Fr h₀ L h (fun y => if y = x then some (.bytes v t) else r y)) : ∃ t₀ : Tok, t₀ = t := ⟨t, rfl⟩
theorem tok_int {h₀ h : Heap} {L : Addr} {x : Str} {v : Int} {t : Tok} {r : Str → Option Value} (_ : Fr h₀ L h (fun y => if y = x then some (.int v t) else r y)) : ∃ t₀ : Tok, t₀ = t := ⟨t, rfl⟩
theorem tok_ref {h₀ h : Heap} {L l : Addr} {x : Str} {r : Str → Option Value} (_ : Fr h₀ L h (fun y => if y = x then some (.ref l) else r y)) : ∃ t₀ : Addr, t₀ = l := ⟨l, rfl⟩
/-- here the walk is to stop -/
structure Hold (p : Prop) : Prop where
  out : p
theorem of_hold {p : Prop} (h : Hold p) : p := h.out
theorem hold_of {p : Prop} (h : p) : Hold p := ⟨h⟩
/-- < of addresses, as numbers -/
abbrev NLt (a b : Nat) : Prop := a < b
theorem all_ne {news : List (Addr × Obj)} {d e : Nat} (h : ∀ p ∈ news, p.1 < d) (hd : d ≤ e) : ∀ p ∈ news, p.1 ≠ e := fun p hp => Nat.ne_of_lt (Nat.lt_of_lt_of_le (h p hp) hd)
theorem AllLt_mem {d : Nat} {l : List (Addr × Obj)} (h : AllLt d l) : ∀ p ∈ l, p.1 < d := by
  induction l with
  | nil => intro p hp; cases hp
  | cons q r ih =>
    intro p hp
    rcases List.mem_cons.mp hp with rfl | hp
    · exact h.1
    · exact ih h.2 p hp
theorem all_neA {news : List (Addr × Obj)} {d e : Nat} (h : AllLt d news) (hd : d ≤ e) : ∀ p ∈ news, p.1 ≠ e := all_ne (AllLt_mem h) hd
end Mine
end
/-! part Steps -/
section
open PySem PySem.W PySem.Calls PyProof.Rows
namespace Mine
section
variable {prog : Program} {w : World} {A : Around} {E : Value → Shared → Prop} {s : Shared} {h₀ : Heap} {L D : Addr} {m : Str → Option Value} {news news' : List (Addr × Obj)} {Q : Value → Shared → Prop}

/-- xs + ys of two lists that the call has made -/
theorem add_L {l b : Addr} {vs ws : List Value} {n1 n2 : Nat} (F : Fr h₀ L s.heap m) (N : News h₀ L s.heap news) (hl : (l, listOf vs.toArray n1) ∈ news) (hb : (b, listOf ws.toArray n2) ∈ news) (hsz : vs.length + ws.length ≤ 65536)
    (h : ∀ r h', Fr h₀ L h' m → News h₀ L h' ((r, listOf (vs ++ ws).toArray 0) :: news) → AllLt r news → Q (.ref r) { s with heap := h' }) :
    wpAny (model prog w) A (binaryOp .Add (.ref l) (.ref b)) Q E s := by
  have h1 : s.heap.IsList l vs.toArray := ⟨_, (N _ hl).1, rfl, _, rfl⟩
  have h2 : s.heap.IsList b ws.toArray := ⟨_, (N _ hb).1, rfl, _, rfl⟩
  refine add_arrays F N h1 h2 (fun h' F' N' => h _ h' F' ?_ ?_) ?_
  · simpa using N'
  · exact allLt_of fun p hp => Heap.lt_size (N p hp).1
  · rw [sizeLine_eq, List.size_toArray, List.size_toArray]; omega
/-- len(xs) -/
theorem len_L {l : Addr} {vs : List Value} {n1 : Nat} (N : News h₀ L s.heap news) (hl : (l, listOf vs.toArray n1) ∈ news) (hsz : vs.length ≤ 65536)
    (h : ∀ t tk, Q (.int (vs.length : Int) t) { s with toks := tk }) :
    wpAny (model prog w) A (call (.builtin "len") [.ref l]) Q E s := by
  have h1 : s.heap.IsList l vs.toArray := ⟨_, (N _ hl).1, rfl, _, rfl⟩
  exact len_list h1 (by rw [List.size_toArray]; omega) (by rw [List.size_toArray]; exact h _ _)
theorem lit_eq : Str.ofString "=" = ⟨[61].toArray⟩ := by decide
theorem lit_empty : Str.ofString "" = ⟨([] : List Nat).toArray⟩ := by decide
/-- x + y of texts -/
theorem add_SL {x y : Str} {t u : Tok} {l r : List Nat} (hx : x = ⟨l.toArray⟩) (hy : y = ⟨r.toArray⟩) (hz : l.length + r.length ≤ 65536) (h : ∀ t' tk, Q (.str ⟨(l ++ r).toArray⟩ t') { s with toks := tk }) :
    wpAny (model prog w) A (binaryOp .Add (.str x t) (.str y u)) Q E s := by
  subst hx hy
  refine KXadd.add (K := l.length) (L := r.length) (by show (l.toArray).size ≤ _; rw [List.size_toArray]; exact Nat.le_refl _) (by show (r.toArray).size ≤ _; rw [List.size_toArray]; exact Nat.le_refl _) (by omega) fun t' k _ => ?_
  have e : (⟨l.toArray⟩ : Str) ++ ⟨r.toArray⟩ = ⟨(l ++ r).toArray⟩ := by
    apply Str.ext'
    rw [Str.cps_append]
    simp
  rw [e]
  exact h _ _
/-- len of a text -/
theorem len_SL {l : List Nat} {t : Tok} (hz : l.length ≤ 65536) (h : ∀ t' tk, Q (.int (l.length : Int) t') { s with toks := tk }) :
    wpAny (model prog w) A (call (.builtin "len") [.str ⟨l.toArray⟩ t]) Q E s := by
  have e : Str.length ⟨l.toArray⟩ = l.length := List.size_toArray
  exact P.len_str (by rw [e]; omega) (by rw [e]; exact h _ _)
/-- x[i] of a text -/
theorem item_S {value slice : Expr} {x : Str} {t u : Tok} {i : Int} (hz : x.length ≤ 65536) (h : ∀ t tk, Q (.str ⟨#[x.cps.getD i.toNat 0]⟩ t) { s with toks := tk }) (hs0 : Hold (0 ≤ i ∧ i < x.length))
    (hs : subscripted slice false (.str x t) (.int i u) = operate [.str x t, .int i u] (getItem (.str x t) (.int i u)) := by with_unfolding_all rfl) :
    wpAny (model prog w) A (subscriptTail value slice (.str x t) (.int i u)) Q E s := by
  obtain ⟨h0, h1⟩ := hs0.out
  have hsz : x.length = x.cps.size := rfl
  have hi : i.toNat < x.cps.size := by omega
  refine tail_any (typeIs_str s x t) F.slot_str_getitem.lookup (P.getItem_str (c := x.cps.getD i.toNat 0) ?_ ?_ (h _ _)) hs
  · rw [Bool.or_eq_false_iff]; constructor <;> (rw [decide_eq_false_iff_not]; omega)
  · have e : seqIndex? i x.length = some i.toNat := by
      unfold seqIndex?
      have : ¬ i < 0 := by omega
      simp only [this, if_false]
      rw [if_pos (by simp only [Bool.and_eq_true, decide_eq_true_eq]; omega)]
    rw [e, Option.bind_some, Array.getElem?_eq_getElem hi, Array.getD_eq_getD_getElem?, Array.getElem?_eq_getElem hi]
    rfl
/-- "".join of a made list of signs -/
theorem join_S {D : Addr} {vs : List Value} {n1 : Nat} {cs : List Nat} {t : Tok} (N : News h₀ L s.heap news) (hm : (D, listOf vs.toArray n1) ∈ news) (hi : StrsAre vs (cs.map fun c => (⟨#[c]⟩ : Str))) (hl : cs.length ≤ 65536)
    (h : ∀ t' k, Q (.str ⟨cs.toArray⟩ t') { s with toks := k }) : wpAny (model prog w) A (call (.builtin "str.join") [.str (Str.ofString "") t, .ref D]) Q E s := by
  have h1 : s.heap.IsList D vs.toArray := ⟨_, (N _ hm).1, rfl, _, rfl⟩
  have hs : ((cs.map fun c => (⟨#[c]⟩ : Str)).map (·.length)).sum = cs.length := by
    clear hi h hl
    induction cs with
    | nil => rfl
    | cons c cs ih => simp only [List.map_cons, List.sum_cons, List.length_cons, ih]; show 1 + _ = _; omega
  refine join_listW h1 hi (by decide) (by rw [hs, List.length_map]; omega) fun t' k => ?_
  have e : Txt.join (Str.ofString "") (cs.map fun c => (⟨#[c]⟩ : Str)) = ⟨cs.toArray⟩ := by
    rw [show Str.ofString "" = (⟨#[]⟩ : Str) from by decide]
    exact (StrLaws.glued_eq_join _ _).trans (join_ones cs)
  rw [e]
  exact h t' k
theorem range_size (n d : Nat) (hd : 0 < d) : Builtin.Range.rangeSize 0 (n : Int) (d : Int) = (((n + d - 1) / d : Nat) : Int) := by
  unfold Builtin.Range.rangeSize
  rw [if_pos (by omega)]
  by_cases hn : n = 0
  · subst hn
    rw [if_neg (by decide), Nat.zero_add, Nat.div_eq_of_lt (by omega)]; rfl
  · rw [if_pos (by omega)]
    obtain ⟨m, rfl⟩ : ∃ m, n = m + 1 := ⟨n - 1, by omega⟩
    have e : ((m + 1 : Nat) : Int) - 0 - 1 = (m : Int) := by omega
    have e2 : m + 1 + d - 1 = m + d := by omega
    rw [e, e2, Nat.add_div_right _ hd]
    omega
theorem range_small (n d : Nat) (hn : n ≤ 65536) (hd : 0 < d) (hd2 : d ≤ 64) : Builtin.Range.small 0 (n : Int) (d : Int) = true := by
  unfold Builtin.Range.small
  rw [range_size n d hd]
  have h1 : (n + d - 1) / d ≤ n + d - 1 := Nat.div_le_self _ _
  have h2 : ((n + d - 1) / d : Nat) ≤ 70000 := by omega
  generalize ((n + d - 1) / d : Nat) = q at h2 ⊢
  rw [if_pos (by omega)]
  unfold Builtin.Range.rangeFitsLong
  simp only [Bool.and_eq_true, Bool.or_eq_true, decide_eq_true_eq, beq_iff_eq]
  omega

/-! a list comprehension over a range (any step), its state one's own -/
section
variable {env : Env} {σ : Type}
theorem rangeStep_st {I : Addr} {a d : Int} {n : Nat} (i : Nat) (h h' : Heap) (o : Obj) (nw : List (Addr × Obj)) (st : IsRangeIter h I (a + (i : Nat) * d) ((n : Int) - (i : Nat)) d) (e : h.get? I = some o) (e' : h'.get? I = some o)
    (_ : ∀ b o, h₀.get? b = some o → h'.get? b = some o) (_ : News h₀ L h' nw) (_ : True) : IsRangeIter h' I (a + (i : Nat) * d) ((n : Int) - (i : Nat)) d := by
  have st' : h.get? I = some _ := st
  show h'.get? I = some _
  rw [e', ← e]; exact st'

/-- where an element has been walked -/
def CEnd (h₀ : Heap) (L : Addr) (m : Str → Option Value) (Led : σ → List (Addr × Obj)) (s₁ : Shared) (I : Addr) (oI : Obj) (C : Addr) (oC : Obj) (D : Addr) (oD : Obj) (P : Value → σ → Prop) (y : Value) (s₂ : Shared) : Prop :=
  ∃ c h' tk, s₂ = { s₁ with heap := h', toks := tk } ∧ Fr h₀ L h' m ∧ News h₀ L h' ((I, oI) :: (C, oC) :: (D, oD) :: Led c) ∧ LCg.Off3 I C D (Led c) ∧ P y c

theorem CEnd_intro {L : Addr} {m : Str → Option Value} {Led : σ → List (Addr × Obj)} {s₁ : Shared} {I C D : Addr} {oI oC oD : Obj} {P : Value → σ → Prop} {y : Value} {h' : Heap} {nx : List (Addr × Obj)} {tk : Nat} (c : σ)
    (F : Fr h₀ L h' m) (N : News h₀ L h' nx) (hN : ∀ q ∈ (I, oI) :: (C, oC) :: (D, oD) :: Led c, q ∈ nx) (off : LCg.Off3 I C D (Led c)) (hP : P y c) :
    CEnd h₀ L m Led s₁ I oI C oC D oD P y { s₁ with heap := h', toks := tk } := ⟨c, h', tk, rfl, F, fun q hq => N q (hN q hq), off, hP⟩

/-- the source of a comprehension, a range, and what its turns and its end show -/
def CSrc (prog : Program) (w : World) (A : Around) (h₀ : Heap) (L : Addr) (m : Str → Option Value) (env : Env) (elt : Expr) (x : Str) (scope : Scope) (cl : List (Str × Addr)) (Led : σ → List (Addr × Obj)) (P : Nat → List Value → σ → Prop) (Q : Value → Shared → Prop) (xv : Value) (s₁ : Shared) : Prop :=
  ∃ r a b d t u v n c₀, xv = .ref r ∧ A.handled = none ∧ Fr h₀ L s₁.heap m ∧ News h₀ L s₁.heap (Led c₀) ∧ IsRange s₁.heap r a b d t u v ∧ Builtin.Range.small a b d = true ∧ Builtin.Range.rangeSize a b d = ((n : Nat) : Int) ∧ n ≤ sizeLine ∧ P 0 [] c₀ ∧
    (∀ (i : Nat) (k : Int) t (c : σ) ys I oI C oC D m₂ h tk (E' : Value → Shared → Prop), i < n → k = a + (i : Int) * d → P i ys c → LCg.NsObj oC m₂ → m₂ x = some (.int k t) → Fr h₀ L h m → News h₀ L h ((I, oI) :: (C, oC) :: (D, LCg.lst ys) :: Led c) → LCg.Off3 I C D (Led c) → ((@Ne Nat I C) ∧ (@Ne Nat I D) ∧ (@Ne Nat C D)) →
      wpAny (model prog w) A (eval elt (compEnvC scope cl C env)) (CEnd h₀ L m Led { s₁ with heap := h, toks := tk } I oI C oC D (LCg.lst ys) (fun y c => P (i + 1) (ys ++ [y]) c)) E' { s₁ with heap := h, toks := tk }) ∧
    (∀ c ys D h tk, P n ys c → Fr h₀ L h m → News h₀ L h ((D, LCg.lst ys) :: Led c) → LCg.Off1 D (Led c) → Q (.ref D) { s₁ with heap := h, toks := tk })

theorem ListComp_R {elt iter : Expr} {x : Str} {px : Pos} {scope : Scope} {cl : List (Str × Addr)} {pos : Pos} (Led : σ → List (Addr × Obj)) (P : Nat → List Value → σ → Prop) (F00 : Fr h₀ L s.heap m)
    (hclos : closureFor scope env = pure cl) (hcell : ∀ y ∈ scope.names, y.2 ≠ .cell) (hkind : scope.kind = .function)
    (hnames : ∀ y ∈ scope.names, y.2 = .local → scope.names.lookup y.1 = some .local) (hx : scope.names.lookup x = some .local)
    (hs : ∀ x, foldedSetIterable iter env x = pure x)
    (h : wpAny (model prog w) A (eval iter env) (CSrc prog w A h₀ L m env elt x scope cl Led P Q) E s) :
    wpAny (model prog w) A (eval (.ListComp elt [⟨.Name x px, iter, [], 0⟩] scope pos) env) Q E s := by
  rw [eval_ListComp]
  refine wpAny_comprehension_free (use := none) rfl hs hclos hkind hnames (wpAny_mono h (fun xv s₁ h₁ => ?_) fun _ _ e => e)
  obtain ⟨r, a, b, d, t, u, v, n, c₀, rfl, hh, F, N, hr, hsm, hn, hsz, hp, turn, done⟩ := h₁
  refine wpAny_pyIter_range hr hsm ?_
  have W : Walks prog w A s₁.heap.objs.size [s₁.heap.objs.size] [s₁.heap.objs.size] n (fun i v => i < n ∧ ∃ t, v = .int (a + i * d) t)
      (fun i h => IsRangeIter h s₁.heap.objs.size (a + (i : Nat) * d) ((n : Int) - (i : Nat)) d) := (Walks.range hh _ a d n).bound
  have rest : ∀ g j i ys c, i + j = n → P i ys c → LCg.CompRest prog w A h₀ L m env elt x scope cl { s₁ with heap := g } (fun _ => True) (fun i v => i < n ∧ ∃ t, v = .int (a + i * d) t) (fun ys news => ∃ c, news = Led c ∧ P n ys c) j i ys (Led c) := by
    intro g j
    induction j with
    | zero =>
      intro i ys c hi hP
      have e : i = n := by omega
      subst e
      exact LCg.CompRest.zero ⟨c, rfl, hP⟩
    | succ j ih =>
      intro i ys c hi hP
      refine LCg.CompRest.succ ?_
      rintro v I oI C oC D m₂ h tk E' ⟨hin, t', rfl⟩ hC hx' F' N' off ne
      refine wpAny_mono (turn i _ t' c ys I oI C oC D m₂ h tk E' hin rfl hP hC hx' F' N' off ne) (fun y s₂ hq => ?_) fun _ _ e => e
      obtain ⟨c', h', tk', e, F₂, N₂, off₂, hP₂⟩ := hq
      exact ⟨h', tk', Led c', e, F₂, N₂, off₂, trivial, ih (i + 1) _ c' (by omega) hP₂⟩
  refine LCg.block_U W hsz (fun i h st => ⟨_, st⟩) rangeStep_st hcell hkind hx (by show IsRangeIter _ _ _ _ _; rw [hn]; simpa using Heap.get?_push_size _ rfl) (fun b hb => ?_)
    (F.keeps fun _ _ e => Heap.get?_push_of_some _ e) (N.grown fun _ _ e => Heap.get?_push_of_some _ e) (Nat.ne_of_lt F.ns.lt) (next_is_new F) (fun p hp => Nat.ne_of_lt (Heap.lt_size (N p hp).1)) trivial (rest _ n 0 [] c₀ (by omega) hp) ?_
  · rw [List.mem_singleton.mp hb]
    show s₁.heap.objs.size < (s₁.heap.push _).objs.size
    rw [Heap.size_push]; exact Nat.lt_succ_self _
  · rintro D C h tk m' ys news' F' N' o1 hn hC₀ hD₀ hCL hDL hCD offC ⟨c, rfl, hP⟩
    refine ⟨m', hn, fun h'' hs'' => done c ys D h'' tk hP (F'.change hs'' hCL hC₀) (fun p hp => ?_) o1⟩
    refine ⟨hs''.extBut _ _ ?_ (N' p hp).1, (N' p hp).2⟩
    rcases List.mem_cons.mp hp with rfl | hp
    · exact Ne.symm hCD
    · exact offC p hp
end
end
end Mine
end
/-! part StepsB -/
section
open PySem PySem.W PySem.Calls PyProof.Rows
namespace Mine
section
variable {prog : Program} {w : World} {A : Around} {E : Value → Shared → Prop} {s : Shared} {h₀ : Heap} {L D : Addr} {m : Str → Option Value} {news news' : List (Addr × Obj)} {Q : Value → Shared → Prop}
/-! bytes as lists of octets -/
theorem clip_in {n : Nat} {i : Int} (h0 : 0 ≤ i) : clipAt n i = min i.toNat n := by
  unfold clipAt
  rw [if_neg (by omega)]
  omega
theorem picked_ij {l : List UInt8} {i j : Int} (h0 : 0 ≤ i) (h1 : i ≤ j) : KBy.picked l.toArray (some i) (some j) = ((l.drop i.toNat).take (j.toNat - i.toNat)).toArray := by
  rw [KBc.picked_eq]
  show ((l.drop (clipAt l.toArray.size i)).take (clipAt l.toArray.size j - clipAt l.toArray.size i)).toArray = _
  rw [clip_in h0, clip_in (by omega), List.size_toArray]
  apply congrArg
  by_cases hi : i.toNat ≤ l.length
  · rw [Nat.min_eq_left hi, List.take_eq_take_iff, List.length_drop]
    omega
  · rw [List.drop_of_length_le (by omega : l.length ≤ min i.toNat l.length), List.drop_of_length_le (by omega : l.length ≤ i.toNat)]
    simp
theorem picked_j {l : List UInt8} {j : Int} (h0 : 0 ≤ j) : KBy.picked l.toArray none (some j) = (l.take j.toNat).toArray := by
  rw [KBc.picked_eq]
  show ((l.drop 0).take (clipAt l.toArray.size j - 0)).toArray = _
  rw [clip_in h0, List.size_toArray, Nat.sub_zero, List.drop_zero]
  apply congrArg
  rw [List.take_eq_take_iff]
  omega
/-- b[i:j] -/
theorem cutB_ij {value slice : Expr} {l : List UInt8} {t ti tj : Tok} {i j : Int} (F : Fr h₀ L s.heap m) (N : News h₀ L s.heap news) (h0 : 0 ≤ i ∧ i ≤ j) (hz : l.length ≤ 65536)
    (h : ∀ h' t' k, Fr h₀ L h' m → News h₀ L h' news → Q (.bytes ((l.drop i.toNat).take (j.toNat - i.toNat)).toArray t') { s with heap := h', toks := k })
    (hs : subscripted slice false (.bytes l.toArray t) (.ref s.heap.objs.size) = operate [.ref s.heap.objs.size, .bytes l.toArray t] (getItem (.bytes l.toArray t) (.ref s.heap.objs.size)) := by with_unfolding_all rfl)
    (ht : ∀ r, letTemporaryGo value (.bytes l.toArray t) r = pure () := by intro _; with_unfolding_all rfl) :
    wpAny (model prog w) A (subscriptTail value slice (.bytes l.toArray t) (.ref s.heap.objs.size)) Q E { s with heap := s.heap.push { cls := .type "slice", data := .fields #[.int i ti, .int j tj, .none] } } := by
  refine KBc.slice_K F N (ks := KBw.bInts l.toArray) rfl (lo := some i) (hi := some j) (by constructor) (by constructor) (by rw [KBw.ints_length, List.size_toArray]; omega) (fun h' t' k F' N' _ => ?_) hs ht
  rw [picked_ij h0.1 h0.2]
  exact h h' t' k F' N'
/-- b[:j] -/
theorem cutB_j {value slice : Expr} {l : List UInt8} {t tj : Tok} {j : Int} (F : Fr h₀ L s.heap m) (N : News h₀ L s.heap news) (h0 : 0 ≤ j) (hz : l.length ≤ 65536)
    (h : ∀ h' t' k, Fr h₀ L h' m → News h₀ L h' news → Q (.bytes (l.take j.toNat).toArray t') { s with heap := h', toks := k })
    (hs : subscripted slice false (.bytes l.toArray t) (.ref s.heap.objs.size) = operate [.ref s.heap.objs.size, .bytes l.toArray t] (getItem (.bytes l.toArray t) (.ref s.heap.objs.size)) := by with_unfolding_all rfl)
    (ht : ∀ r, letTemporaryGo value (.bytes l.toArray t) r = pure () := by intro _; with_unfolding_all rfl) :
    wpAny (model prog w) A (subscriptTail value slice (.bytes l.toArray t) (.ref s.heap.objs.size)) Q E { s with heap := s.heap.push { cls := .type "slice", data := .fields #[.none, .int j tj, .none] } } := by
  refine KBc.slice_K F N (ks := KBw.bInts l.toArray) rfl (lo := none) (hi := some j) (by constructor) (by constructor) (by rw [KBw.ints_length, List.size_toArray]; omega) (fun h' t' k F' N' _ => ?_) hs ht
  rw [picked_j h0]
  exact h h' t' k F' N'
/-- len(b) -/
theorem lenB {l : List UInt8} {t : Tok} (hz : l.length ≤ 65536) (h : ∀ t' tk, Q (.int (l.length : Int) t') { s with toks := tk }) :
    wpAny (model prog w) A (call (.builtin "len") [.bytes l.toArray t]) Q E s :=
  len_bytes (by rw [List.size_toArray]; omega) (by rw [List.size_toArray]; exact h _ _)
/-- b + c -/
theorem addB {l r : List UInt8} {t u : Tok} (hz : l.length + r.length ≤ 65536) (h : ∀ t' tk, Q (.bytes (l ++ r).toArray t') { s with toks := tk }) :
    wpAny (model prog w) A (binaryOp .Add (.bytes l.toArray t) (.bytes r.toArray u)) Q E s := by
  refine KBa.add_K (ks := KBw.bInts l.toArray) (ls := KBw.bInts r.toArray) rfl rfl (by rw [KBw.ints_length, KBw.ints_length, List.size_toArray, List.size_toArray]; omega) fun t' k _ => ?_
  rw [List.append_toArray]
  exact h _ _
/-- x[:j] of a text, j in it -/
theorem cutS_j {value slice : Expr} {l : List Nat} {t tj : Tok} {j : Int} (F : Fr h₀ L s.heap m) (N : News h₀ L s.heap news) (h0 : 0 ≤ j ∧ j ≤ l.length) (hz : l.length ≤ 65536)
    (h : ∀ h' t' k, Fr h₀ L h' m → News h₀ L h' news → Q (.str ⟨(l.take j.toNat).toArray⟩ t') { s with heap := h', toks := k })
    (hs : subscripted slice false (.str ⟨l.toArray⟩ t) (.ref s.heap.objs.size) = operate [.ref s.heap.objs.size, .str ⟨l.toArray⟩ t] (getItem (.str ⟨l.toArray⟩ t) (.ref s.heap.objs.size)) := by with_unfolding_all rfl)
    (ht : ∀ r, letTemporaryGo value (.str ⟨l.toArray⟩ t) r = pure () := by intro _; with_unfolding_all rfl) :
    wpAny (model prog w) A (subscriptTail value slice (.str ⟨l.toArray⟩ t) (.ref s.heap.objs.size)) Q E { s with heap := s.heap.push { cls := .type "slice", data := .fields #[.none, .int j tj, .none] } } := by
  refine slice_strN_ns F N (fun h' t' k F' N' => ?_) hs ht (by show l.toArray.size ≤ _; rw [List.size_toArray, sizeLine_eq]; omega)
  have e : Txt.slice ⟨l.toArray⟩ none (some j) = ⟨(l.take j.toNat).toArray⟩ := by
    refine (StrLaws.sliceText_to (x := ⟨l.toArray⟩) h0).trans ?_
    show (⟨((l.drop 0).take (j - 0).toNat).toArray⟩ : Str) = _
    rw [List.drop_zero, Int.sub_zero]
  rw [e]
  exact h h' t' k F' N'
theorem mul_three {n : Int} (h0 : 0 ≤ n ∧ n ≤ 3) : Txt.mul (Str.ofString "=") n = ⟨(List.replicate n.toNat 61).toArray⟩ := by
  have h : n = 0 ∨ n = 1 ∨ n = 2 ∨ n = 3 := by omega
  rcases h with rfl | rfl | rfl | rfl <;> decide
/-- '=' * n -/
theorem mulS {n : Int} {t u : Tok} (h0 : 0 ≤ n ∧ n ≤ 3) (h : ∀ t' k, Q (.str ⟨(List.replicate n.toNat 61).toArray⟩ t') { s with toks := k }) :
    wpAny (model prog w) A (binaryOp .Mult (.str (Str.ofString "=") t) (.int n u)) Q E s := by
  refine SB.mul (mulOk_of 16 1048576 (by decide) (by omega) (by omega) (by decide) (by decide)) fun t' k => ?_
  rw [mul_three h0]
  exact h t' k
/-- x << n -/
theorem shlS {a n : Int} {t u : Tok} (h : ∀ t' k, Q (.int (a * 2 ^ n.toNat) t') { s with toks := k }) (h0 : Hold (0 ≤ n ∧ n ≤ 1000 ∧ 0 ≤ a ∧ a < 2 ^ 60)) :
    wpAny (model prog w) A (binaryOp .LShift (.int a t) (.int n u)) Q E s :=
  lshift_int_small h0.out.1 (by have := h0.out.2.1; omega) (by have := h0.out.2.2; omega) (h _ _)
/-- int.from_bytes(b, 'big') -/
theorem fromB {x : Addr} {l : List UInt8} {t u : Tok} (N : News h₀ L s.heap news) (hm : (x, KFB.bound) ∈ news) (hl : l.length ≤ 8)
    (h : ∀ t' k, Q (.int (valueB l) t') { s with toks := k }) : wpAny (model prog w) A (call (.ref x) [.bytes l.toArray t, .str (PySem.Str.ofString "big") u]) Q E s :=
  KFB.call_big N hm (ks := KBw.bInts l.toArray) rfl (by rw [KBw.ints_length, List.size_toArray]; exact hl) h
/-- bytes of a made list of ints -/
theorem bytesL {vs : List Value} {ns : List Int} {n1 : Nat} (F : Fr h₀ L s.heap m) (N : News h₀ L s.heap news) (hm : (D, listOf vs.toArray n1) ∈ news) (hh : A.handled = none) (hi : IntsAre vs ns) (hn : ns.length ≤ 65536)
    (h : ∀ h' t' k, Fr h₀ L h' m → News h₀ L h' news → Q (.bytes (ns.map fun n => n.toNat.toUInt8).toArray t') { s with heap := h', toks := k }) (hr : Hold (∀ n ∈ ns, 0 ≤ n ∧ n < 256)) :
    wpAny (model prog w) A (call (.type "bytes") [.ref D]) Q E s := by
  have h1 : s.heap.IsList D vs.toArray := ⟨_, (N _ hm).1, rfl, _, rfl⟩
  exact KBa.make_K F N hh h1 hi hr.out (by omega) fun h' t' k F' N' _ => h h' t' k F' N'
end
end Mine
end
/-! part Enc -/
section
open PySem PySem.W PySem.Calls PyProof.Rows
namespace Mine
/-! str.encode('ascii') of a text of ASCII signs -/
theorem forIn_two {σ : Type} (n : Nat) (init st1 : σ) (f : Nat → σ → Sem (ForInStep σ)) (h0 : 0 < n → f 0 init = pure (.yield st1)) (h1 : ∀ i, f i st1 = pure (.done st1)) :
    (forIn [0:n] init f : Sem σ) = pure (if n = 0 then init else st1) := by
  rw [Std.Legacy.Range.forIn_eq_forIn_range']
  match n with
  | 0 => rfl
  | 1 =>
    show (f 0 init >>= _) = _
    rw [h0 (by decide)]
    rfl
  | n + 2 =>
    have e : ∃ l, List.range' ([0:n+2] : Std.Legacy.Range).start ([0:n+2] : Std.Legacy.Range).size ([0:n+2] : Std.Legacy.Range).step = 0 :: 1 :: l := by
      refine ⟨List.range' 2 n, ?_⟩
      simp [Std.Legacy.Range.size, List.range'_succ]
    obtain ⟨l, e⟩ := e
    rw [e, List.forIn_cons, h0 (by omega)]
    show (forIn (1 :: l) st1 f : Sem σ) = _
    rw [List.forIn_cons, h1]
    rfl
theorem foldl_one {α β : Type} (g : α → β) (l : List α) : ∀ acc : Array β, l.foldl (fun acc y => acc ++ [g y].toArray) acc = acc ++ (l.map g).toArray := by
  induction l with
  | nil => intro acc; simp
  | cons a l ih => intro acc; rw [List.foldl_cons, ih]; simp
open Builtin Builtin._codecs in
theorem encodeNarrow_ascii (id : String) (self : Value) (s : Str) (ha : ∀ c ∈ s.cps.toList, c < 128) (hsz : s.length ≤ sizeLine) : encodeNarrow id asciiCodec none self s = pure (s.cps.map fun c => c.toUInt8) := by
  have hb : ∀ c ∈ s.cps.toList, asciiCodec.bad c = false := fun c hc => by
    show decide (c ≥ 128) = false
    have := ha c hc
    rw [decide_eq_false_iff_not]; omega
  unfold encodeNarrow
  dsimp only
  have hbad : ∀ (t : Array Nat), (∀ c ∈ t.toList, c ∈ s.cps.toList) → Array.findIdx? asciiCodec.bad t = none := fun t ht => by
    rw [Array.findIdx?_eq_none_iff]
    intro c hc
    exact hb c (ht c (Array.mem_toList_iff.mpr hc))
  rw [forIn_two s.length (σ := Nat × Array UInt8 × Faults) (0, #[], {}) (s.cps.size, s.cps.map (fun c => c.toUInt8), {})]
  · by_cases hz : s.length = 0
    · rw [if_pos hz]
      have : s.cps = #[] := Array.size_eq_zero_iff.mp hz
      rw [this, Array.map_empty]; rfl
    · rw [if_neg hz]; rfl
  · intro hpos
    have hpos' : 0 < s.cps.size := hpos
    have hx : s.cps[0]? = some s.cps[0] := Array.getElem?_eq_getElem hpos'
    dsimp only
    rw [hx]
    rw [if_neg (by simp)]
    dsimp only
    rw [hb _ (Array.mem_toList_iff.mpr (Array.getElem_mem _))]
    rw [if_pos (by decide)]
    rw [hbad _ (by simp)]
    have e0 : s.cps.extract = s.cps := by simp
    rw [e0, Option.getD_none, Nat.zero_add]
    have e1 : s.cps.extract 0 s.cps.size = s.cps := by simp
    rw [e1]
    have e2 : Array.foldl (fun acc y => acc ++ (asciiCodec.bytesOf y).toArray) (#[] : Array UInt8) s.cps = s.cps.map (fun c => c.toUInt8) := by
      rw [← Array.foldl_toList]
      refine (foldl_one (fun c : Nat => c.toUInt8) s.cps.toList #[]).trans ?_
      apply Array.toList_inj.mp
      simp
    rw [e2]
  · intro i
    dsimp only
    have hx : s.cps[s.cps.size]? = none := Array.getElem?_eq_none (Nat.le_refl _)
    rw [hx, if_neg (by rw [Array.size_map]; exact Nat.not_lt.mpr hsz)]
open Builtin Builtin._codecs in
theorem str_encode_ascii (x : Str) (t u : Tok) : «str.encode» ⟨[.str x t, .str (Str.ofString "ascii") u], []⟩ = (do ret (← encodeRoad "str.encode" (.str x t) x (Str.ofString "ascii") none)) := by with_unfolding_all rfl
open Builtin Builtin._codecs in
theorem encodeRoad_ascii (id : String) (self : Value) (x : Str) (errors : Option Str) : encodeRoad id self x (Str.ofString "ascii") errors = (do mkBytes (← encodeNarrow id asciiCodec errors self x)) := by
  first | rfl | (unfold encodeRoad; rfl)
section
variable {prog : Program} {w : World} {A : Around} {E : Value → Shared → Prop} {s : Shared} {Q : Value → Shared → Prop}
theorem meth_encode {x : Str} {t : Tok} {pl : Sem Bool} {Q : Value × List Value → Shared → Prop} (h : Q (.builtin "str.encode", [.str x t]) s) : wpAny (model prog w) A (getMethod (.str x t) "encode" pl) Q E s := by
  with_reducible exact GM.of (.str x t) (typeIs_str _ _ _) F.slot_str_encode F.type_str_encode GM.noRef h
/-- x.encode('ascii') -/
theorem encode_S {x : Str} {t u : Tok} (ha : Hold (∀ c ∈ x.cps.toList, c < 128)) (hsz : x.length ≤ 65536) (h : ∀ t' tk, Q (.bytes (x.cps.map fun c => c.toUInt8) t') { s with toks := tk }) :
    wpAny (model prog w) A (call (.builtin "str.encode") [.str x t, .str (Str.ofString "ascii") u]) Q E s := by
  refine wpAny_call_entry F.slot_str_encode (typeIs_str s x t) F.entry_str_encode ?_ (F.args_str_encode_2 _ _)
  rw [str_encode_ascii, encodeRoad_ascii, encodeNarrow_ascii _ _ _ ha.out (by rw [sizeLine_eq]; omega)]
  refine wpAny_bind (wpAny_bind (wpAny_pure ?_))
  unfold mkBytes
  rw [if_neg (by rw [Array.size_map, sizeLine_eq]; have : x.length = x.cps.size := rfl; omega)]
  exact wpAny_bind (nd_fresh (wpAny_pure (wpAny_pure (wpAny_pure ⟨_, rfl, h _ _⟩))))
theorem encode_SL {l : List Nat} {t u : Tok} (hsz : l.length ≤ 65536) (h : ∀ t' tk, Q (.bytes (l.map fun c => c.toUInt8).toArray t') { s with toks := tk }) (ha : Hold (∀ c ∈ l, c < 128)) :
    wpAny (model prog w) A (call (.builtin "str.encode") [.str ⟨l.toArray⟩ t, .str (Str.ofString "ascii") u]) Q E s := by
  refine encode_S (hold_of fun c hc => ha.out c (by simpa using hc)) (by show l.toArray.size ≤ _; rw [List.size_toArray]; exact hsz) fun t' tk => ?_
  have e : (Str.mk l.toArray).cps.map (fun c => c.toUInt8) = (l.map fun c => c.toUInt8).toArray := by
    apply Array.toList_inj.mp; simp
  rw [e]
  exact h t' tk
end
end Mine
end
/-! part Comp2 -/
section
open PySem PySem.W PySem.Calls PyProof.Rows
namespace Mine
section
variable {prog : Program} {w : World} {A : Around} {E : Value → Shared → Prop} {s : Shared} {h₀ : Heap} {L : Addr} {m : Str → Option Value} {news : List (Addr × Obj)} {Q : Value → Shared → Prop} {env : Env}
/-! a list comprehension over a text, with a test -/
def CSrcT (prog : Program) (w : World) (A : Around) (h₀ : Heap) (L : Addr) (m : Str → Option Value) (env : Env) (ct elt : Expr) (x : Str) (scope : Scope) (cl : List (Str × Addr)) (news : List (Addr × Obj)) (P : Nat → List Value → Prop) (Q : Value → Shared → Prop) (xv : Value) (s₁ : Shared) : Prop :=
  ∃ y ty, xv = .str y ty ∧ A.handled = none ∧ y.cps.all (· < 128) = true ∧ y.cps.size ≤ 65536 ∧ Fr h₀ L s₁.heap m ∧ News h₀ L s₁.heap news ∧ P 0 [] ∧
    (∀ (i : Nat) (n : Nat) t ys I oI C oC D m₂ h tk (E' : Value → Shared → Prop), y.cps[i]? = some n → P i ys → LCg.NsObj oC m₂ → m₂ x = some (.str ⟨#[n]⟩ t) → Fr h₀ L h m → News h₀ L h ((I, oI) :: (C, oC) :: (D, LCg.lst ys) :: news) → LCg.Off3 I C D news → ((@Ne Nat I C) ∧ (@Ne Nat I D) ∧ (@Ne Nat C D)) →
      wpAny (model prog w) A (isTrue ct (compEnvC scope cl C env) (eval ct (compEnvC scope cl C env))) (fun ok s' => if ok = true then
        wpAny (model prog w) A (eval elt (compEnvC scope cl C env)) (CEnd (σ := Unit) h₀ L m (fun _ => news) { s₁ with heap := h, toks := tk } I oI C oC D (LCg.lst ys) (fun v _ => P (i + 1) (ys ++ [v]))) E' s'
        else CEnd (σ := Unit) h₀ L m (fun _ => news) { s₁ with heap := h, toks := tk } I oI C oC D (LCg.lst ys) (fun _ _ => P (i + 1) ys) Value.none s') E' { s₁ with heap := h, toks := tk }) ∧
    (∀ ys D h tk, P y.cps.size ys → Fr h₀ L h m → News h₀ L h ((D, LCg.lst ys) :: news) → LCg.Off1 D news → Q (.ref D) { s₁ with heap := h, toks := tk })

theorem ListComp_ST {ct elt iter : Expr} {x : Str} {px : Pos} {scope : Scope} {cl : List (Str × Addr)} {pos : Pos} (P : Nat → List Value → Prop) (F00 : Fr h₀ L s.heap m) (N00 : News h₀ L s.heap news)
    (hclos : closureFor scope env = pure cl) (hcell : ∀ y ∈ scope.names, y.2 ≠ .cell) (hkind : scope.kind = .function)
    (hnames : ∀ y ∈ scope.names, y.2 = .local → scope.names.lookup y.1 = some .local) (hx : scope.names.lookup x = some .local)
    (hs : ∀ x, foldedSetIterable iter env x = pure x)
    (h : wpAny (model prog w) A (eval iter env) (CSrcT prog w A h₀ L m env ct elt x scope cl news P Q) E s) :
    wpAny (model prog w) A (eval (.ListComp elt [⟨.Name x px, iter, [ct], 0⟩] scope pos) env) Q E s := by
  rw [eval_ListComp]
  refine wpAny_comprehension_free (use := none) rfl hs hclos hkind hnames (wpAny_mono h (fun xv s₁ h₁ => ?_) fun _ _ e => e)
  obtain ⟨y, ty, rfl, hh, ha, hsz, F, N, hp, turn, done⟩ := h₁
  refine wpAny_pyIter_ascii ha ?_
  have W := Walks.strAscii (prog := prog) (w := w) hh s₁.heap.objs.size y ty
  have rest : ∀ g j i ys, i + j = y.cps.size → P i ys → LCt.CompRestT prog w A h₀ L m env ct elt x scope cl { s₁ with heap := g } (fun _ => True) (SignAt y) (fun ys nx => nx = news ∧ P y.cps.size ys) j i ys news := by
    intro g j
    induction j with
    | zero =>
      intro i ys hi hP
      have e : i = y.cps.size := by omega
      subst e
      exact LCt.CompRestT.zero ⟨rfl, hP⟩
    | succ j ih =>
      intro i ys hi hP
      refine LCt.CompRestT.succ ?_
      rintro v I oI C oC D m₂ h tk E' ⟨n, t', hin, rfl⟩ hC hx' F' N' off ne
      refine wpAny_mono (turn i n t' ys I oI C oC D m₂ h tk E' hin hP hC hx' F' N' off ne) (fun ok s₂ hq => ?_) fun _ _ e => e
      cases ok with
      | true =>
        rw [if_pos rfl] at hq ⊢
        refine wpAny_mono hq (fun v s₃ hq => ?_) fun _ _ e => e
        obtain ⟨_, h', tk', e, F₂, N₂, off₂, hP₂⟩ := hq
        exact ⟨h', tk', news, e, F₂, N₂, off₂, trivial, ih (i + 1) _ (by omega) hP₂⟩
      | false =>
        rw [if_neg (by decide)] at hq ⊢
        obtain ⟨_, h', tk', e, F₂, N₂, off₂, hP₂⟩ := hq
        exact ⟨h', tk', news, e, F₂, N₂, off₂, trivial, ih (i + 1) _ (by omega) hP₂⟩
  refine LCt.block_T W (by rw [sizeLine_eq]; omega) (fun i h st => by obtain ⟨o, e, _⟩ := st; exact ⟨o, e⟩) (fun i h h' o nw st e e' _ _ _ => by obtain ⟨o', q, r⟩ := st; rw [e] at q; cases q; exact ⟨o, e', r⟩) hcell hkind hx ⟨_, Heap.get?_push_size _ rfl, rfl, rfl⟩ (fun b hb => ?_)
    (F.keeps fun _ _ e => Heap.get?_push_of_some _ e) (N.grown fun _ _ e => Heap.get?_push_of_some _ e) (Nat.ne_of_lt F.ns.lt) (next_is_new F) (fun p hp => Nat.ne_of_lt (Heap.lt_size (N p hp).1)) trivial (rest _ y.cps.size 0 [] (by omega) hp) ?_
  · rw [List.mem_singleton.mp hb]
    show s₁.heap.objs.size < (s₁.heap.push _).objs.size
    rw [Heap.size_push]; exact Nat.lt_succ_self _
  · rintro D C h tk m' ys news' F' N' o1 hn hC₀ hD₀ hCL hDL hCD offC ⟨rfl, hP⟩
    refine ⟨m', hn, fun h'' hs'' => done ys D h'' tk hP (F'.change hs'' hCL hC₀) (fun p hp => ?_) o1⟩
    refine ⟨hs''.extBut _ _ ?_ (N' p hp).1, (N' p hp).2⟩
    rcases List.mem_cons.mp hp with rfl | hp
    · exact Ne.symm hCD
    · exact offC p hp

/-! a list comprehension over a list of the ground -/
def CSrcB (prog : Program) (w : World) (A : Around) (h₀ : Heap) (L : Addr) (m : Str → Option Value) (env : Env) (elt : Expr) (x : Str) (scope : Scope) (cl : List (Str × Addr)) (news : List (Addr × Obj)) (P : Nat → List Value → Prop) (Q : Value → Shared → Prop) (xv : Value) (s₁ : Shared) : Prop :=
  ∃ ax its, xv = .ref ax ∧ A.handled = none ∧ Fr h₀ L s₁.heap m ∧ News h₀ L s₁.heap news ∧ h₀.IsList ax its ∧ its.size ≤ 65536 ∧ P 0 [] ∧
    (∀ (i : Nat) (v : Value) ys I oI C oC D m₂ h tk (E' : Value → Shared → Prop), its[i]? = some v → P i ys → LCg.NsObj oC m₂ → m₂ x = some v → Fr h₀ L h m → News h₀ L h ((I, oI) :: (C, oC) :: (D, LCg.lst ys) :: news) → LCg.Off3 I C D news → ((@Ne Nat I C) ∧ (@Ne Nat I D) ∧ (@Ne Nat C D)) →
      wpAny (model prog w) A (eval elt (compEnvC scope cl C env)) (CEnd (σ := Unit) h₀ L m (fun _ => news) { s₁ with heap := h, toks := tk } I oI C oC D (LCg.lst ys) (fun v _ => P (i + 1) (ys ++ [v]))) E' { s₁ with heap := h, toks := tk }) ∧
    (∀ ys D h tk, P its.size ys → Fr h₀ L h m → News h₀ L h ((D, LCg.lst ys) :: news) → LCg.Off1 D news → Q (.ref D) { s₁ with heap := h, toks := tk })

theorem ListComp_B {elt iter : Expr} {x : Str} {px : Pos} {scope : Scope} {cl : List (Str × Addr)} {pos : Pos} (P : Nat → List Value → Prop) (F₀ : Fr h₀ L s.heap m) (N00 : News h₀ L s.heap news)
    (hclos : closureFor scope env = pure cl) (hcell : ∀ y ∈ scope.names, y.2 ≠ .cell) (hkind : scope.kind = .function)
    (hnames : ∀ y ∈ scope.names, y.2 = .local → scope.names.lookup y.1 = some .local) (hx : scope.names.lookup x = some .local)
    (hs : ∀ x, foldedSetIterable iter env x = pure x)
    (h : wpAny (model prog w) A (eval iter env) (CSrcB prog w A h₀ L m env elt x scope cl news P Q) E s) :
    wpAny (model prog w) A (eval (.ListComp elt [⟨.Name x px, iter, [], 0⟩] scope pos) env) Q E s := by
  refine LCg.ListComp_U F₀ hclos hcell hkind hnames hx (wpAny_mono h (fun xv s₁ h₁ => ?_) fun _ _ e => e) hs
  obtain ⟨ax, its, rfl, hh, F, N, hl, hsz, hp, turn, done⟩ := h₁
  refine LCg.CompSrc.base hh F N hl (by rw [sizeLine_eq]; omega) fun g => ?_
  have rest : ∀ j i ys, i + j = its.size → P i ys → LCg.CompRest prog w A h₀ L m env elt x scope cl { s₁ with heap := g } (LCg.SrcAt h₀ ax its) (fun i v => its[i]? = some v) (LCg.FinE h₀ L m { s₁ with heap := g } Q) j i ys news := by
    intro j
    induction j with
    | zero =>
      intro i ys hi hP
      have e : i = its.size := by omega
      subst e
      exact LCg.CompRest.zero fun D h tk F N o => done ys D h tk hP F N o
    | succ j ih =>
      intro i ys hi hP
      refine LCg.CompRest.succ ?_
      rintro v I oI C oC D m₂ h tk E' hin hC hx' F' N' off ne
      refine wpAny_mono (turn i v ys I oI C oC D m₂ h tk E' hin hP hC hx' F' N' off ne) (fun y s₂ hq => ?_) fun _ _ e => e
      obtain ⟨_, h', tk', e, F₂, N₂, off₂, hP₂⟩ := hq
      exact ⟨h', tk', news, e, F₂, N₂, off₂, .inl hl, ih (i + 1) _ (by omega) hP₂⟩
  exact rest _ 0 [] (by omega) hp
end
end Mine
end
/-! part Dec0 -/
section
open PySem PySem.W PySem.Calls PyProof.Rows
namespace Mine
/-! bytes.rstrip(b'=') -/
theorem slot_rs : Slot "bytes" "rstrip" "bytes.rstrip" :=
  .of (owner := "bytes") (n := "rstrip") (by rw [typeLookup_type, builtinLookup_eq_fast]; kernel_rfl) (by decide +kernel) (by decide +kernel) (by decide +kernel)
    (by first | exact .inl (by decide +kernel) | exact .inr (by decide +kernel)) (by rw [isSubtype_type]; kernel_rfl)
theorem type_rs : typeOf (.builtin "bytes.rstrip") = pure (.type "method_descriptor") := by show builtinType _ = _; rw [builtinType_eq_fast]; kernel_rfl
theorem entry_rs : entryFor table "bytes.rstrip" = some Builtin.«bytes.rstrip» := entryFor_of_tree (by kernel_rfl)
theorem args_rs (a b : Value) : argsOk "bytes.rstrip" ⟨[a, b], []⟩ := by unfold argsOk; kernel_rfl
def bare (l : List UInt8) : List UInt8 := (l.reverse.dropWhile fun c => c == 61).reverse
theorem bare_len (l : List UInt8) : (bare l).length ≤ l.length := by
  unfold bare
  rw [List.length_reverse]
  have := (List.dropWhile_sublist (fun c : UInt8 => c == 61) (l := l.reverse)).length_le
  rw [List.length_reverse] at this
  exact this
section
variable {prog : Program} {w : World} {A : Around} {E : Value → Shared → Prop} {s : Shared}
theorem meth_rstrip {b : Array UInt8} {t : Tok} {pl : Sem Bool} {Q : Value × List Value → Shared → Prop} (h : Q (.builtin "bytes.rstrip", [.bytes b t]) s) : wpAny (model prog w) A (getMethod (.bytes b t) "rstrip" pl) Q E s := by
  with_reducible exact KBd.method_of (.bytes b t) (typeIs_bytes _ _ _) slot_rs type_rs KBd.noRef h
open Builtin Builtin.Bytes in
theorem rstripB {l : List UInt8} {t u : Tok} {Q : Value → Shared → Prop} (hz : l.length ≤ 65536) (h : ∀ t' tk, Q (.bytes (bare l).toArray t') { s with toks := tk }) :
    wpAny (model prog w) A (call (.builtin "bytes.rstrip") [.bytes l.toArray t, .bytes [61].toArray u]) Q E s := by
  have hle : (bare l).length ≤ l.length := by
    unfold bare
    rw [List.length_reverse]
    have := (List.dropWhile_sublist (fun c : UInt8 => c == 61) (l := l.reverse)).length_le
    rw [List.length_reverse] at this
    exact this
  refine wpAny_call_entry slot_rs (typeIs_bytes s _ t) entry_rs ?_ (args_rs _ _)
  show wpAny _ _ (stripM .bytes "rstrip" false true ⟨[.bytes l.toArray t, .bytes [61].toArray u], []⟩) _ _ s
  unfold stripM
  refine wpAny_bind (wpAny_of_eq (a := (.bytes l.toArray t, [.bytes [61].toArray u])) (by kernel_rfl) ?_)
  refine wpAny_bind (wpAny_bind (wpAny_of_eq KBy.buffer_eq (wpAny_pure (wpAny_bind (wpAny_pure ?_)))))
  dsimp only
  refine wpAny_bind (wpAny_of_eq (a := l.toArray) (by kernel_rfl) ?_)
  have hset : (([61].toArray : Array UInt8).contains) = fun c : UInt8 => c == 61 := by
    funext c
    simp [Bool.beq_eq_decide_eq]
  rw [hset]
  show wpAny _ _ (if ((bare l).length == l.toArray.size) = true then _ else _) _ _ s
  by_cases hl : (bare l).length = l.length
  · have e : bare l = l := by
      unfold bare at hl ⊢
      have hs := (List.dropWhile_sublist (fun c : UInt8 => c == 61) (l := l.reverse))
      have := hs.eq_of_length (by simpa using hl)
      rw [this, List.reverse_reverse]
    rw [if_pos (by simp [hl])]
    rw [e] at h
    refine wpAny_bind (wpAny_rule ?_)
    refine wpAny_bind (wpAny_of_eq (a := .bytes l.toArray t) (by kernel_rfl) ?_)
    exact wpAny_pure ⟨_, rfl, h t s.toks⟩
  · rw [if_neg (by simp [hl])]
    show wpAny _ _ (mkBytes (bare l).toArray >>= fun r => ret r) _ _ s
    refine wpAny_bind (wpAny_mkBytes (wpAny_pure ⟨_, rfl, h _ _⟩) ?_)
    rw [List.size_toArray, sizeLine_eq]; omega
end
end Mine
end
/-! part Rais -/
section
set_option maxRecDepth 100000
open PySem PySem.W PySem.Calls PyProof.Rows
namespace Mine
/-! raise Error, the bare name of an exception class of the text -/
section
variable {prog : Program} {w : World} {A : Around} {h : Heap} {g : Array GenState} {d : Drawn} {t : Nat} {os : OsState}
variable {nm q : Str} {C N : Addr} {bs bm bmB : List Value} {hdct : Bool} {sn : List Str} {sub : List Value} {ab : Bool} {col : Option Bool} {dd : Option Addr} {k0 k1 k2 k3 k5 : Option Value} {B newId initId : String}
theorem issub_nested {k : Value} {dep : Int} {tk : Tok} {E : Value → Shared → Prop} {Q : Fin → Shared → Prop} (hk : k = .int dep tk) (hC : h.get? C = some (excClassObj nm q C N bs bm hdct sn sub ab col dd k0 k1 k2 k3 k5 newId)) (hq : Q (.done (.ret (.bool true))) ⟨h, g, d, t, os⟩) :
    wpAny (model prog w) A (Builtin.«issubclass.nested» ⟨[.ref C, .ref C, k], []⟩) Q E ⟨h, g, d, t, os⟩ := by
  subst hk
  have hcC : (Value.ref C :: bm).contains (.ref C) = true := by simp
  repeat (any_goals (first | assumption | with_reducible refine wpAny_loadPart_at hC ?_ | (with_reducible refine wpAny_isSubtype_exc hC ?_; rw [hcC]) | wp_step))
theorem call_issub {E : Value → Shared → Prop} {Q : Value → Shared → Prop} (hC : h.get? C = some (excClassObj nm q C N bs bm hdct sn sub ab col dd k0 k1 k2 k3 k5 newId)) (hq : Q (.bool true) ⟨h, g, d, t, os⟩) :
    wpAny (model prog w) A (call (.builtin "issubclass") [.ref C, .ref C]) Q E ⟨h, g, d, t, os⟩ := by
  have me : Meets (Builtin.«issubclass» ⟨[.ref C, .ref C], []⟩) (fun _ R s => s = ⟨h, g, d, t, os⟩ ∧ R (.ok (.ret (.bool true))) s) := by
    rintro _ _ _ _ _ ⟨rfl, hs⟩
    exact issubclass_outer (issub_nested rfl hC hs)
  exact call_function_meets F.kind_issubclass F.plain_issubclass F.entry_issubclass (F.args_issubclass_2 _ _) me ⟨rfl, hq⟩
end
section
variable {prog : Program} {w : World} {A : Around} {E : Value → Shared → Prop} {s : Shared} {name : Str} {scope : Scope} {L a : Addr} {cd : Value} {h₀ : Heap} {m mg : Str → Option Value}
  {x : Str} {C : Addr} {B newId initId : String} {bm : List Value} {np pos : Pos} {Q : Flow → Shared → Prop}
theorem Raise_ownC (F : Fr h₀ L s.heap m) (hg : h₀.Ns mainGlobals mg) (O : OwnCls x C bm newId mg h₀) (FB : ExcBaseFacts B newId initId bm) (hh : A.handled = none)
    (h : ∀ h' e, Heap.MadeExcOf s.heap h' e (.ref C) [] → E (.ref e) { s with heap := h' })
    (hk : scope.kind = .function := by rfl) (hx : (envOf name scope L a cd).kindOf x = some .globalImplicit := by rfl) (hd : (x == ("__debug__" : Str)) = false := by decide) :
    wpAny (model prog w) A (exec (.Raise (some (.Name x np)) none pos) (envOf name scope L a cd)) Q E s := by
  obtain ⟨tl, N, nm, q, bs, hdct, sn, sub, ab, col, dd, k0, k1, k2, k3, k5, mN, hC, hN, hni, T⟩ := O.obj
  have hC' := F.keep _ _ hC
  have hN' := hN.keeps F.keep
  have T' := T.keeps F.keep
  have hcB : (Value.ref C :: tl).contains (.type "BaseException") = true := by rw [List.contains_cons, T.hasType FB.hasBase, Bool.or_true]
  show wpAny (model prog w) A (do standAt pos; raiseStmt _ (some (do let v ← eval (.Name x np) (envOf name scope L a cd); standAt pos; pure v)) none) Q E s
  refine wpAny_bind (wpAny_standAt ?_)
  unfold raiseStmt
  dsimp only
  refine wpAny_bind (wpAny_bind (ld_own F hg O (wpAny_bind (wpAny_standAt (wpAny_pure ?_))) hk hx hd))
  refine wpAny_bind (wpAny_pure ?_)
  dsimp only
  obtain ⟨hp, g, d, tk, os⟩ := s
  refine wpAny_bind (wpAny_holding ?_)
  unfold excFromValue
  refine wpAny_bind ?_
  unfold isExcClass
  refine wpAny_bind (ks_wpAny_isType_cls hC' rfl ?_)
  dsimp only
  refine wpAny_isSubtype_exc hC' ?_
  rw [hcB]
  refine wpAny_bind (wpAny_call_exc_subT (hrest := Nat.zero_le _) FB T' hC' hN' hni fun h' e hm => ?_)
  obtain ⟨t, ht, _, _⟩ := hm.there
  have hC₂ := hm.keeps _ _ hC'
  have hE := h h' e hm
  dsimp only at hC₂ ht hE
  have hcC : (Value.ref C :: tl).contains (.ref C) = true := by simp
  repeat (first | with_reducible refine call_issub hC₂ ?_ | with_reducible refine wpAny_loadPart_at ht ?_ | with_reducible refine wpAny_loadPart_at hC₂ ?_ | (with_reducible refine wpAny_isSubtype_exc hC₂ ?_; rw [hcB]) | wp_step)
  exact wpAny_raiseNew_none hh hE
end
end Mine
end
/-! part DecL -/
section
open PySem PySem.W PySem.Calls PyProof.Rows
namespace Mine
/-! what b64decode tells -/
def placeC (c : Nat) : Int := Txt.find alpha ⟨#[c]⟩
theorem placeC_lt : ∀ c < 256, -1 ≤ placeC c ∧ placeC c < 64 := by decide +kernel
def nOf (p : List UInt8) : Int := p.foldl (fun a x => a * 64 + placeC x.toNat) 0
def decN (p : List UInt8) : Int := nOf p * 2 ^ Int.toNat (6 * (4 - (p.length : Int)))
def threeB (n : Int) : List UInt8 := [(n / 65536 % 256).toNat.toUInt8, (n / 256 % 256).toNat.toUInt8, (n % 256).toNat.toUInt8]
def decRow (p : List UInt8) : List UInt8 := (threeB (decN p)).take (Int.toNat ((p.length : Int) - 1))
def decTo (b : List UInt8) (i : Nat) : List UInt8 := (List.range i).flatMap fun q => decRow ((b.drop (4 * q)).take 4)
def chunksOf (b : List UInt8) : Nat := (b.length + 4 - 1) / 4
def goodC (x : UInt8) : Prop := 0 ≤ placeC x.toNat
def goodB (b : List UInt8) : Prop := b.length % 4 = 0 ∧ b.length - (bare b).length ≤ 2 ∧ ∀ x ∈ bare b, goodC x
def decOf (b : List UInt8) : List UInt8 := decTo (bare b) (chunksOf (bare b))
theorem decTo_succ (b : List UInt8) (i : Nat) : decTo b (i + 1) = decTo b i ++ decRow ((b.drop (4 * i)).take 4) := by
  unfold decTo
  rw [List.range_succ, List.flatMap_append]
  simp
theorem decRow_len (p : List UInt8) : (decRow p).length ≤ 3 := by
  unfold decRow
  rw [List.length_take]
  have : (threeB (decN p)).length = 3 := rfl
  omega
theorem decTo_len (b : List UInt8) (i : Nat) : (decTo b i).length ≤ 3 * i := by
  induction i with
  | zero => exact Nat.le_refl _
  | succ i ih =>
    rw [decTo_succ, List.length_append]
    have := decRow_len ((b.drop (4 * i)).take 4)
    omega
theorem nOf_from (p : List UInt8) : ∀ (k : Nat) (a : Int), 0 ≤ a → a < 64 ^ k → (∀ x ∈ p, goodC x) → 0 ≤ p.foldl (fun a x => a * 64 + placeC x.toNat) a ∧ p.foldl (fun a x => a * 64 + placeC x.toNat) a < 64 ^ (k + p.length) := by
  induction p with
  | nil => intro k a h0 h1 _; exact ⟨h0, h1⟩
  | cons n p ih =>
    intro k a h0 h1 h
    have hn := h n (List.mem_cons_self)
    have hl := placeC_lt n.toNat n.toNat_lt
    have hn' : 0 ≤ placeC n.toNat := hn
    have e : k + (n :: p).length = (k + 1) + p.length := by rw [List.length_cons]; omega
    rw [List.foldl_cons, e]
    refine ih (k + 1) _ (by omega) ?_ fun x hx => h x (List.mem_cons_of_mem _ hx)
    rw [Int.pow_succ]; omega
theorem nOf_lt {p : List UInt8} (h : ∀ x ∈ p, goodC x) : 0 ≤ nOf p ∧ nOf p < 64 ^ p.length := by
  have := nOf_from p 0 0 (by decide) (by decide) h
  rw [Nat.zero_add] at this
  exact this
theorem nOf_60 {p : List UInt8} (h : ∀ x ∈ p, goodC x) (hl : p.length ≤ 4) : 0 ≤ nOf p ∧ nOf p < 16777216 := by
  obtain ⟨h0, h1⟩ := nOf_lt h
  have hc : p.length = 0 ∨ p.length = 1 ∨ p.length = 2 ∨ p.length = 3 ∨ p.length = 4 := by omega
  rcases hc with e | e | e | e | e <;> rw [e] at h1 <;> omega
theorem decN_lt {p : List UInt8} (h : ∀ x ∈ p, goodC x) (hl : p.length ≤ 4) : 0 ≤ decN p ∧ decN p < 16777216 := by
  obtain ⟨h0, h1⟩ := nOf_lt h
  unfold decN
  have hc : p.length = 0 ∨ p.length = 1 ∨ p.length = 2 ∨ p.length = 3 ∨ p.length = 4 := by omega
  rcases hc with e | e | e | e | e <;> rw [e] at h1 ⊢ <;> simp at h1 ⊢ <;> omega
theorem nOf_snoc (p : List UInt8) (x : UInt8) : nOf (p ++ [x]) = nOf p * 64 + placeC x.toNat := by
  unfold nOf; rw [List.foldl_append]; rfl
section
variable {prog : Program} {w : World} {A : Around} {E : Value → Shared → Prop} {s : Shared}
theorem chrB {n : UInt8} {t : Tok} {Q : Value → Shared → Prop} (h : ∀ t' tk, Q (.str ⟨#[n.toNat]⟩ t') { s with toks := tk }) : wpAny (model prog w) A (call (.builtin "chr") [.int (n.toNat : Int) t]) Q E s := by
  have := n.toNat_lt
  exact chr_of_range (by omega) (by omega) (h _ _)
theorem findA {c : Nat} {t u : Tok} {Q : Value → Shared → Prop} (h : ∀ t' tk, Q (.int (placeC c) t') { s with toks := tk }) :
    wpAny (model prog w) A (call (.builtin "str.find") [.str (Str.ofString "ABCDEFGHIJKLMNOPQRSTUVWXYZabcdefghijklmnopqrstuvwxyz0123456789+/") t, .str ⟨#[c]⟩ u]) Q E s := SC.find (h _ _)
theorem threeB_of {b : Array UInt8} {x : Int} (h : KBw.bInts b = (KTBy.little 3 x).reverse) : b = (threeB x).toArray := by
  have e : (KTBy.little 3 x).reverse = (threeB x).map fun c : UInt8 => ((c.toNat : Nat) : Int) := by
    have e2 : x / 256 / 256 = x / 65536 := by omega
    have key : ∀ y : Int, (((y % 256).toNat.toUInt8).toNat : Int) = y % 256 := fun y => by
      show ((UInt8.ofNat (y % 256).toNat).toNat : Int) = _
      rw [UInt8.toNat_ofNat']
      omega
    simp only [KTBy.little, threeB, List.reverse_cons, List.reverse_nil, List.nil_append, List.cons_append, List.map_cons, List.map_nil, e2, key]
  rw [e] at h
  have h2 : b.toList = threeB x := by
    have inj : ∀ (p q : List UInt8), p.map (fun c : UInt8 => ((c.toNat : Nat) : Int)) = q.map (fun c : UInt8 => ((c.toNat : Nat) : Int)) → p = q := by
      intro p
      induction p with
      | nil => intro q hq; cases q with
        | nil => rfl
        | cons _ _ => cases hq
      | cons a p ih => intro q hq; cases q with
        | nil => cases hq
        | cons b q =>
          simp only [List.map_cons, List.cons.injEq] at hq
          have : a = b := UInt8.toNat_inj.mp (by omega)
          rw [this, ih q hq.2]
    exact inj _ _ h
  rw [← h2]
theorem toB3 {x : Int} {t u v : Tok} {Q : Value → Shared → Prop} (h : ∀ t' k', Q (.bytes (threeB x).toArray t') { s with toks := k' }) (h0 : Hold (0 ≤ x ∧ x < 16777216)) :
    wpAny (model prog w) A (call (.builtin "int.to_bytes") [.int x t, .int 3 u, .str (PySem.Str.ofString "big") v]) Q E s := by
  refine KTBy.to_big (k := 3) (B := 16777216) (by decide) (by decide) h0.out.1 h0.out.2 fun b t' k' hb _ => ?_
  rw [threeB_of hb]
  exact h t' k'
end
end Mine
end
/-! part ReadL -/
section
open PySem PySem.W PySem.Calls PyProof.Rows
namespace Mine
/-! a def that catches, called from the law's own frame (which has cells) -/
section
variable {prog : Program} {w : World} {A₀ A : Around} {s : Shared} {base h₀ g₀ : Heap} {L a : Addr} {m : Str → Option Value} {news : List (Addr × Obj)} {K : Frag} {p : Program} {loose : List Str} {mean : ExcName → Option Value} {mg mb : Str → Option Value}
    {R : Result → Shared → Prop} {name qual : Str} {params : Arguments} {body : List Stmt} {scope : Scope} {dV kV doc pm cdv ct oc : Value} {an od : Option Addr} {osl : Array (Option Value)} {f : Addr} {args : Args} {binds : List (Str × Value)} {env : Env}
theorem code_defR (B : Below A₀ base [] h₀) (F : Fr h₀ L s.heap m) (X₀ : K.In h₀) (N : News h₀ L s.heap news) (T : Top p loose mean mg mb h₀) (hA : A.frames = some [env]) (hf : env.frame = some L) (hke : env.scope.kind = .function)
    (ho : K.lookup f = some ⟨oc, od, .func (fnOf name qual params body scope dV kV doc pm an cdv ct), osl⟩) (hcd : codeIn K cdv qual = true) (hroom : A.depth < recursionLimit)
    (hbind : BindsTo s (fnOf name qual params body scope dV kV doc pm an cdv ct) args binds) (hloc : ∀ y ∈ binds, scope.names.lookup y.1 = some .local)
    (h : ∀ g L' h₁, Fr h₀ L g m → Fr g L' h₁ (fun y => binds.reverse.lookup y) → News g L' h₁ news → Below A base [env] g → K.In g → Top p loose mean mg mb g → KtsDicts ([env].filterMap (·.frame)) g →
      wpAny (model prog w) (A.deeper (envOf qual scope L' f cdv)) (execs body (envOf qual scope L' f cdv))
        (fun fl s' => LeaveS0 ([env].filterMap (·.frame)) h₀ L m g R (match fl with | .ret v => v | _ => .none) s')
        (fun e s' => wpAny (model prog w) (A.deeper (envOf qual scope L' f cdv)) (leaving (envOf qual scope L' f cdv) e) (fun _ s'' => R (.error e) s'') (fun e' s'' => R (.error e') s'') s')
        { s with heap := h₁, toks := s.toks + binds.length })
    (hco : scope.isCoroutine = false) (hgen : scope.isGenerator = false) (hk : scope.kind = .function)
    (hcell : ∀ x ∈ scope.names, x.2 ≠ .cell) : codeAny (model prog w) A (.call (.ref f) args) R s := by
  have X := X₀.keeps F.keep
  refine codeAny_call_def (fd := fnOf name qual params body scope dV kV doc pm an cdv ct) (body := body) (binds := binds) hroom (X _ _ ho) rfl (T.nolimit.keeps F.keep) (codeRec_of X hcd) rfl hbind hcell hloc (fun h₁ hns hk₁ => ?_) hco hgen hk
  obtain ⟨FG, B₂, st, _⟩ := groundX (R := R) B F N hA hf hke
  obtain ⟨oL, es, ep, hL, hLd, hLk, hLf⟩ := F.ns
  have nL : L ∉ news.map (·.1) := fun q => by
    obtain ⟨p, hp, e⟩ := List.mem_map.mp q
    exact (N p hp).2.1 e
  have hLg := hideAll_get (news.map (·.1)) hL nL
  have hNs : ∀ (sl : Array (Option Value)) h', h'.get? L = some { oL with slots := sl } → Heap.Ns h' L m := fun sl h' e => ⟨_, es, ep, e, hLd, hLk, hLf⟩
  have mem1 : ∀ b, b ∈ [env].filterMap (·.frame) → b = L := fun b hb => by
    simp only [List.filterMap_cons, hf, List.filterMap_nil, List.mem_singleton] at hb
    exact hb
  refine wpAny_mono (h _ s.heap.objs.size h₁ FG ⟨hns, fun b o e => hk₁ b o (of_hideAll _ e), Nat.le_of_eq (hideAll_size _ _)⟩
    (fun p hp => ⟨hk₁ _ _ (N p hp).1, Nat.ne_of_lt (Heap.lt_size (N p hp).1), hideAll_none _ (List.mem_map_of_mem hp)⟩) B₂ (X₀.keeps st) (T.keeps st) (fun b hb => by
      rw [mem1 b hb]; exact ⟨oL, es, ep, hLg, hLd⟩)) (fun fl s' hl => ?_) fun _ _ y => y
  obtain ⟨g', L', m', news', T', F', N', k⟩ := hl
  have nL₀ : h₀.get? L = none := kts_self F
  obtain ⟨sl, hs⟩ := T'.up hLg
  refine k ⟨hNs sl _ (F'.keep _ _ hs), fun b o e => F'.keep b o (T'.other b o (st b o e) (fun q => by
    rw [mem1 b q, nL₀] at e; cases e)), F.above⟩ fun p hp => ⟨(N' p hp).1, fun q => ?_, ?_⟩
  · have := (N' p hp).2.2; rw [q, hs] at this; cases this
  · cases q : h₀.get? p.1 with
    | none => rfl
    | some o =>
      obtain ⟨sl', hs'⟩ := T'.up (st _ _ q)
      have := (N' p hp).2.2
      rw [hs'] at this
      cases this
end
end Mine
end
/-! part DueL -/
section
open PySem PySem.W PySem.Calls PyProof.Rows
namespace Mine
/-! what _law_due tells -/
def manyOf (l : List Nat) : Nat := (l.filter (· == 61)).length
def bodyOf (l : List Nat) : List Nat := l.take (l.length - manyOf l)
def goodD (l : List Nat) : Prop := l.length % 4 = 0 ∧ manyOf l ≤ 2 ∧ ∀ c ∈ bodyOf l, 0 ≤ placeC c
def bitsD (b : List Nat) : List Int := b.flatMap fun c => bitsOf (placeC c) 6
def dueOf (l : List Nat) : List UInt8 := (List.range ((bitsD (bodyOf l)).length / 8)).map fun i => (worthOf (((bitsD (bodyOf l)).drop (8 * i)).take 8)).toNat.toUInt8
theorem one_eq (n : Nat) : ((⟨#[n]⟩ : Str) == Str.ofString "=") = (n == 61) := by
  have e : Str.ofString "=" = ⟨#[61]⟩ := by decide
  rw [e, Bool.eq_iff_iff, beq_iff_eq, beq_iff_eq]
  constructor
  · intro h
    have := congrArg Str.cps h
    simpa using this
  · rintro rfl; rfl
theorem filter_take {l : List Nat} {i n : Nat} (h : l[i]? = some n) : ((l.take (i + 1)).filter (· == 61)).length = ((l.take i).filter (· == 61)).length + (if n = 61 then 1 else 0) := by
  rw [List.take_add_one, h, List.filter_append, List.length_append]
  by_cases hn : n = 61
  · subst hn; simp
  · simp [hn]
theorem many_le (l : List Nat) : manyOf l ≤ l.length := List.length_filter_le _ _
theorem in_alpha : ∀ n < 128, ((Builtin.Str.occurrences alpha ⟨#[n]⟩ 0 alpha.length 1).isEmpty = true ↔ ¬ 0 ≤ placeC n) := by decide +kernel
theorem at_alpha : ∀ n < 128, 0 ≤ placeC n → (Builtin.Str.occurrences alpha ⟨#[n]⟩ 0 alpha.length 1).head? = some (placeC n).toNat := by decide +kernel
theorem strs_carried : ∀ {vs : List Value} {zs : List Str}, StrsAre vs zs → CarriedAll vs (zs.map PyData.str)
  | _, _, .nil => .nil
  | _, _, .cons _ t r => .cons (.str _ t) (strs_carried r)
theorem strOk_one : ∀ n < 128, PyData.strOk ⟨#[n]⟩ = true := by decide +kernel
theorem strs_canLay : ∀ zs : List Str, (∀ z ∈ zs, PyData.strOk z = true) → PyData.canLayAll0 (zs.map PyData.str) = true
  | [], _ => rfl
  | z :: r, h => by simp [PyData.canLayAll0, PyData.canLay0, strs_canLay r (fun y hy => h y (List.mem_cons_of_mem _ hy)), h z List.mem_cons_self]
theorem strs_depth : ∀ zs : List Str, PyData.depthAll (zs.map PyData.str) = 0
  | [] => rfl
  | _ :: r => by simp [PyData.depthAll, PyData.depth, strs_depth r]
theorem strs_shaped (zs : List Str) (h : ∀ z ∈ zs, PyData.strOk z = true) : SeqAt.shaped (.list (zs.map PyData.str)) = true := by
  simp [SeqAt.shaped, PyData.canLay0, PyData.depth, strs_canLay zs h, strs_depth]
section
variable {prog : Program} {w : World} {A : Around} {E : Value → Shared → Prop} {s : Shared} {a b : Addr} {Q : Value → Shared → Prop}
/-- a list of texts is not [] -/
theorem ne_nil {vs : List Value} {zs : List Str} (ha : s.heap.IsList a vs.toArray) (hz : StrsAre vs zs) (hok : ∀ z ∈ zs, PyData.strOk z = true) (hb : s.heap.IsList b ([] : List Value).toArray) (hu : A.units + 64 < cLine) (h : Q (.bool (!decide (vs = []))) s) :
    wpAny (model prog w) A (compareOp .NotEq (.ref a) (.ref b)) Q E s := by
  refine ne_dataH_same (reads_newData ha (strs_carried hz)) (reads_newData hb (strs_carried StrsAre.nil)) (strs_shaped _ hok) (strs_shaped _ fun _ h => nomatch h) hu (SeqAt.noMix_of_shape (.list .str) rfl _ _ (list_map_has fun _ => rfl) (list_map_has fun _ => rfl)) ?_
  have e : PySem.Spec.same (.list (zs.map PyData.str)) (.list (([] : List Str).map PyData.str)) = decide (vs = []) := by
    simp only [PySem.Spec.same]
    cases hz with
    | nil => simp [PySem.Spec.sameAll]
    | cons _ _ _ => simp [PySem.Spec.sameAll]
  rw [e]; exact h
end
theorem cell_ref {o : Obj} {a : Addr} (_ : o.data = .cell (some (.ref a))) : ∃ (o₀ : Obj) (a₀ : Addr), o₀ = o ∧ a₀ = a := ⟨o, a, rfl, rfl⟩
theorem News_sub {h₀ h : Heap} {L : Addr} {nx nx' : List (Addr × Obj)} (N : News h₀ L h nx) (hs : ∀ q ∈ nx', q ∈ nx) : News h₀ L h nx' := fun q hq => N q (hs q hq)
section
variable {prog : Program} {w : World} {A : Around} {E : Value → Shared → Prop} {s : Shared}
theorem indexA {c : Nat} {t u : Tok} {Q : Value → Shared → Prop} (h : ∀ t' tk, Q (.int (placeC c) t') { s with toks := tk }) (hs : Hold (c < 128 ∧ 0 ≤ placeC c)) :
    wpAny (model prog w) A (call (.builtin "str.index") [.str (Str.ofString "ABCDEFGHIJKLMNOPQRSTUVWXYZabcdefghijklmnopqrstuvwxyz0123456789+/") t, .str ⟨#[c]⟩ u]) Q E s := by
  obtain ⟨h0, h1⟩ := hs.out
  have e := at_alpha c h0 h1
  generalize ho : Builtin.Str.occurrences alpha ⟨#[c]⟩ 0 alpha.length 1 = o at e
  cases o with
  | nil => cases e
  | cons i rest =>
    have ei : i = (placeC c).toNat := Option.some.inj e
    refine SC.index (i := i) (rest := rest) ho ?_
    have : (i : Int) = placeC c := by omega
    rw [this]; exact h _ _
end
theorem bitsD_take {b : List Nat} {i n : Nat} (h : b[i]? = some n) : bitsD (b.take (i + 1)) = bitsD (b.take i) ++ bitsOf (placeC n) 6 := by
  rw [List.take_add_one, h]
  simp [bitsD]
theorem bitsD_len (b : List Nat) : (bitsD b).length = 6 * b.length := by
  induction b with
  | nil => rfl
  | cons c l ih =>
    have e : bitsD (c :: l) = bitsOf (placeC c) 6 ++ bitsD l := rfl
    rw [e, List.length_append, bitsOf_len, ih, List.length_cons]
    omega
theorem bitsD_01 {l : List Nat} {n : Int} (h : n ∈ bitsD l) : n = 0 ∨ n = 1 := by
  obtain ⟨c, _, hc⟩ := List.mem_flatMap.mp h
  exact bits_01 hc
theorem range8_size (n : Nat) : Builtin.Range.rangeSize 0 ((n : Int) - 7) 8 = ((n / 8 : Nat) : Int) := by
  unfold Builtin.Range.rangeSize
  rw [if_pos (by omega)]
  by_cases h : n ≤ 7
  · rw [if_neg (by omega)]; omega
  · rw [if_pos (by omega)]; omega
theorem range8_small (n : Nat) (hn : n ≤ 65536) : Builtin.Range.small 0 ((n : Int) - 7) 8 = true := by
  unfold Builtin.Range.small
  rw [range8_size n]
  have h2 : n / 8 ≤ 70000 := by omega
  generalize n / 8 = q at h2 ⊢
  rw [if_pos (by omega)]
  unfold Builtin.Range.rangeFitsLong
  simp only [Bool.and_eq_true, Bool.or_eq_true, decide_eq_true_eq, beq_iff_eq]
  omega
end Mine
end
/-! part DrawL -/
section
open PySem PySem.W PySem.Calls PyProof.Rows
namespace Mine
section
variable {prog : Program} {w : World} {A : Around} {E : Value → Shared → Prop} {s : Shared} {env : Env} {h₀ : Heap} {x : Str} {body : List Stmt} {Q : Flow → Shared → Prop}
/-- a loop over a list of the ground, its state one's own -/
theorem iterS_list {σ : Type} {ax : Addr} {its : Array Value} {m₀ : Str → Option Value} (Led : σ → List (Addr × Obj)) (ps : σ → List (Str × Value)) (stored : List Str) (P : Nat → σ → Prop) (c₀ : σ)
    (hh : A.handled = none) (hl : h₀.IsList ax its) (F : Fr h₀ env.locals s.heap m₀) (N : News h₀ env.locals s.heap (Led c₀)) (hk : ∀ q ∈ ps c₀, m₀ q.1 = some q.2) (hp : P 0 c₀)
    (turn : ∀ i (v : Value) (c : σ) (u : Str → Option Value) h tk I oI, its[i]? = some v → P i c →
      Fr h₀ env.locals h (fun y => if y = x then some v else kstB (fun z => if stored.contains z then u z else m₀ z) (ps c) y) → News h₀ env.locals h ((I, oI) :: Led c) → (∀ q ∈ Led c, @Ne Nat q.1 I) →
      wpAny (model prog w) A (execs body env) (TPost h₀ env.locals Led ps stored x m₀ (P (i + 1)) I oI { s with heap := h, toks := tk } Q) E { s with heap := h, toks := tk })
    (done : ∀ (c : σ) (u : Str → Option Value) h tk, P its.size c → Fr h₀ env.locals h (fun y => if y = x then u y else kstB (fun z => if stored.contains z then u z else m₀ z) (ps c) y) → News h₀ env.locals h (Led c) → Q .next { s with heap := h, toks := tk }) :
    wpAny (model prog w) A (pyIter (.ref ax)) (fun it s₂ => LoopAtV prog w A h₀ env x body Q E it s₂) E s := by
  have hl' : s.heap.IsList ax its := by
    obtain ⟨o, e, r⟩ := hl
    exact ⟨o, F.keep _ _ e, r⟩
  have hax : ∃ o, h₀.get? ax = some o := by obtain ⟨o, e, _⟩ := hl; exact ⟨o, e⟩
  have hlt : ax < s.heap.objs.size := by obtain ⟨_, e, _⟩ := hl'; exact Heap.lt_size e
  refine wpAny_pyIter_list hl' ?_
  have W := Walks.list (prog := prog) (w := w) hh s.heap.objs.size ax (Nat.ne_of_lt hlt) its
  have F' := F.push { cls := .type "list_iterator", data := .fields #[.ref ax, .int 0 0] }
  have hL0 : h₀.get? env.locals = none := kts_self F
  let J : Nat → (Str → Option Value) → List (Addr × Obj) → Prop := fun i m nx => ∃ c, nx = Led c ∧ (∀ q ∈ ps c, m q.1 = some q.2) ∧ (∀ z, z ≠ x → (∀ q ∈ ps c, z ≠ q.1) → stored.contains z = false → m z = m₀ z) ∧ P i c
  refine ⟨s.heap.objs.size, [s.heap.objs.size, ax], [s.heap.objs.size], its.size, _, _, m₀, Led c₀, J, rfl, W, ?_, ?_, ?_, ⟨⟨_, Heap.get?_push_size _ rfl, rfl, rfl⟩, hl'.push _⟩, F', (fun q hq => ⟨Heap.get?_push_of_some _ (N q hq).1, (N q hq).2⟩), ⟨c₀, rfl, hk, fun _ _ _ _ => rfl, hp⟩, ?_, ?_⟩
  · intro hm
    rcases List.mem_cons.mp hm with e | hm
    · exact Nat.ne_of_lt F.ns.lt e
    · rw [List.mem_singleton.mp hm] at hL0
      obtain ⟨o, e⟩ := hax
      rw [hL0] at e; cases e
  · intro b hb; rw [List.mem_singleton.mp hb]; exact next_is_new F
  · intro q hq hm; exact Nat.ne_of_lt (Heap.lt_size (N q hq).1) (List.mem_singleton.mp hm)
  · rintro i v m₁ nx s₁ own ⟨hh, tk, rfl⟩ hi hv ⟨c, rfl, h1, h2, hP⟩ hoff hown hget hall hst₁ F₁ N₁
    obtain ⟨oI, hoI⟩ : ∃ o, hh.get? s.heap.objs.size = some o := by obtain ⟨o, e, _⟩ := hst₁.1; exact ⟨o, e⟩
    have hI₀ : h₀.get? s.heap.objs.size = none := next_is_new F
    have hIo : (s.heap.objs.size, oI) ∈ own := hall _ (List.mem_cons_self) hI₀ oI hoI
    have N₂ : News h₀ env.locals hh ((s.heap.objs.size, oI) :: Led c) := fun q hq => by
      rcases List.mem_cons.mp hq with rfl | hq
      · exact N₁ _ (List.mem_append_left _ hIo)
      · exact N₁ _ (List.mem_append_right _ hq)
    refine wpAny_mono (turn i v c m₁ hh tk _ oI hv hP (kst_fr h1 h2 F₁) N₂ (fun q hq e => hoff q hq (List.mem_singleton.mpr e))) (fun f s₂ hq => ?_) fun _ _ e => e
    have fin : TEnd h₀ env.locals Led ps stored x m₀ (P (i + 1)) s.heap.objs.size oI { s with heap := hh, toks := tk } s₂ → LoopStepU h₀ env.locals [s.heap.objs.size] own (J (i + 1)) { s with heap := hh, toks := tk } .next s₂ := by
      rintro ⟨c', h', tk', m', e, F', N', a', k1, k2, P'⟩
      refine ⟨rfl, h', tk', m', Led c', e, F', fun q hq => ?_, fun q hq hm => a' q hq (List.mem_singleton.mp hm), c', rfl, k1, k2, P'⟩
      rcases List.mem_append.mp hq with hq | hq
      · have e1 : q.1 = s.heap.objs.size := by
          rcases List.mem_cons.mp (hown q hq) with e | e
          · exact e
          · obtain ⟨o, ho⟩ := hax
            have := (N₁ q (List.mem_append_left _ hq)).2.2
            rw [List.mem_singleton.mp e, ho] at this; cases this
        have e2 := hget q hq
        rw [e1, hoI] at e2
        have e3 : q = (s.heap.objs.size, oI) := by
          obtain ⟨q1, q2⟩ := q
          cases e1; cases e2; rfl
        rw [e3]
        exact N' _ (List.mem_cons_self)
      · exact N' _ (List.mem_cons_of_mem _ hq)
    cases f with
    | ret v => exact .ret hq
    | brk => exact .brk hq
    | next => exact .next (fin hq)
    | cont => exact .cont (fin hq)
  · rintro h' tk m' nx F' N' hoff ⟨c, rfl, h1, h2, hP⟩
    exact done c m' h' tk hP (kst_frOut h1 h2 F') N'
end
section
variable {prog : Program} {w : World} {A : Around} {E : Value → Shared → Prop} {s : Shared} {Q : Value → Shared → Prop}
/-- abs(x), of which only 0 <= is kept -/
theorem absQ {x : Int} {t : Tok} (h : ∀ r u tk, 0 ≤ r → Q (.int r u) { s with toks := tk }) : wpAny (model prog w) A (call (.builtin "abs") [.int x t]) Q E s :=
  call_abs_int fun u tk => h _ u tk (by split <;> omega)
theorem addQ {a b : Int} {t u : Tok} (h : ∀ t' tk, Q (.int (a + b) t') { s with toks := tk }) : wpAny (model prog w) A (binaryOp .Add (.int a t) (.int b u)) Q E s := add_int (h _ _)
theorem mulQ {a b : Int} {t u : Tok} (m : IntMulOk a b) (h : ∀ t' tk, Q (.int (a * b) t') { s with toks := tk }) : wpAny (model prog w) A (binaryOp .Mult (.int a t) (.int b u)) Q E s := mul_int (h _ _) m
/-- x % n, of which only its bounds are kept -/
theorem modQ {x n : Int} {t u : Tok} (hn : 0 < n) (h : ∀ r t' tk, 0 ≤ r → r < n → Q (.int r t') { s with toks := tk }) : wpAny (model prog w) A (binaryOp .Mod (.int x t) (.int n u)) Q E s := by
  refine mod_int' (by omega) (h _ _ _ ?_ ?_)
  · rw [Int.fmod_eq_emod_of_nonneg _ (by omega)]; exact Int.emod_nonneg _ (by omega)
  · rw [Int.fmod_eq_emod_of_nonneg _ (by omega)]; exact Int.emod_lt_of_pos _ hn
end
end Mine
end
/-! part LawL -/
section
open PySem PySem.W PySem.Calls PyProof.Rows
namespace Mine
theorem News_mid {h₀ h : Heap} {L : Addr} {pre mid rest : List (Addr × Obj)} (N : News h₀ L h (pre ++ (mid ++ rest))) : News h₀ L h (mid ++ (pre ++ rest)) := fun q hq => N q (by
  simp only [List.mem_append] at hq ⊢
  rcases hq with h | h | h
  · exact .inr (.inl h)
  · exact .inl h
  · exact .inr (.inr h))
theorem cell_obj {o : Obj} {v : Option Value} (_ : o.data = .cell v) : ∃ (o₀ : Obj), o₀ = o := ⟨o, rfl⟩
section
variable {prog : Program} {w : World} {A : Around} {E : Value → Shared → Prop} {s : Shared}
/-- an item of a made list, of which only P is kept -/
theorem pick_P {value slice : PySem.Expr} {l : Addr} {vs : List Value} {k : Int} {u : Tok} {Q : Value → Shared → Prop} (P : Value → Prop) (hl : s.heap.IsList l vs.toArray) (h0 : 0 ≤ k) (h1 : k < vs.length) (hz : vs.length ≤ 1000) (hP : ∀ v ∈ vs, P v) (h : ∀ v, P v → Q v s)
    (hs : subscripted slice false (.ref l) (.int k u) = operate [.ref l, .int k u] (getItem (.ref l) (.int k u)) := by with_unfolding_all rfl) :
    wpAny (model prog w) A (subscriptTail value slice (.ref l) (.int k u)) Q E s := by
  have hk : k.toNat < vs.length := by omega
  refine tail_any hl.typeIs slot_list_getitem.lookup (wpAny_getItem_list hl h0 (by omega) (x := vs[k.toNat]) (by simp [List.getElem?_eq_getElem hk]) (h _ (hP _ (List.getElem_mem hk)))) hs
end
section
variable {prog : Program} {w : World} {A : Around} {E : Value → Shared → Prop} {s : Shared} {h₀ : Heap} {L : Addr} {m : Str → Option Value} {news : List (Addr × Obj)} {Q : Value → Shared → Prop}
/-- x[:j] of a text: some first part of it -/
theorem cutS_any {value slice : Expr} {l : List Nat} {t tj : Tok} {j : Int} (F : Fr h₀ L s.heap m) (N : News h₀ L s.heap news) (h0 : -(l.length : Int) ≤ j ∧ j ≤ l.length) (hz : l.length ≤ 65536)
    (h : ∀ n h' t' k, Fr h₀ L h' m → News h₀ L h' news → Q (.str ⟨(l.take n).toArray⟩ t') { s with heap := h', toks := k })
    (hs : subscripted slice false (.str ⟨l.toArray⟩ t) (.ref s.heap.objs.size) = operate [.ref s.heap.objs.size, .str ⟨l.toArray⟩ t] (getItem (.str ⟨l.toArray⟩ t) (.ref s.heap.objs.size)) := by with_unfolding_all rfl)
    (ht : ∀ r, letTemporaryGo value (.str ⟨l.toArray⟩ t) r = pure () := by intro _; with_unfolding_all rfl) :
    wpAny (model prog w) A (subscriptTail value slice (.str ⟨l.toArray⟩ t) (.ref s.heap.objs.size)) Q E { s with heap := s.heap.push { cls := .type "slice", data := .fields #[.none, .int j tj, .none] } } := by
  refine slice_strN_ns F N (fun h' t' k F' N' => ?_) hs ht (by show l.toArray.size ≤ _; rw [List.size_toArray, sizeLine_eq]; omega)
  have key : ∀ i : Int, 0 ≤ i → i ≤ l.length → StrLaws.sliceText ⟨l.toArray⟩ none (some i) = ⟨(l.take i.toNat).toArray⟩ := fun i h0 h1 => by
    refine (StrLaws.sliceText_to (x := ⟨l.toArray⟩) ⟨h0, h1⟩).trans ?_
    show (⟨((l.drop 0).take (i - 0).toNat).toArray⟩ : Str) = _
    rw [List.drop_zero, Int.sub_zero]
  have e : ∃ n, Txt.slice ⟨l.toArray⟩ none (some j) = ⟨(l.take n).toArray⟩ := by
    by_cases hj : 0 ≤ j
    · exact ⟨_, key j hj h0.2⟩
    · have e1 : (Str.length ⟨l.toArray⟩ : Nat) = l.length := List.size_toArray
      refine ⟨_, (StrLaws.sliceText_neg_hi ⟨l.toArray⟩ none (j := j) (by omega) (by rw [e1]; exact h0.1)).trans (key (j + _) ?_ ?_)⟩
      · rw [e1]; omega
      · rw [e1]; omega
  obtain ⟨n, e⟩ := e
  rw [e]
  exact h n h' t' k F' N'
end
theorem mix_len : (Str.ofString "A=+/z9Qb -_x*=").length = 14 := by decide +kernel
theorem mix_lt (i : Nat) : (Str.ofString "A=+/z9Qb -_x*=").cps.getD i 0 < 128 := by
  have h : ∀ c ∈ (Str.ofString "A=+/z9Qb -_x*=").cps.toList, c < 128 := by decide +kernel
  by_cases hi : i < (Str.ofString "A=+/z9Qb -_x*=").cps.size
  · rw [Array.getD_eq_getD_getElem?, Array.getElem?_eq_getElem hi, Option.getD_some]
    exact h _ (Array.mem_toList_iff.mpr (Array.getElem_mem hi))
  · rw [Array.getD_eq_getD_getElem?, Array.getElem?_eq_none (by omega), Option.getD_none]; decide
theorem ends_P {t0 t1 t2 : Tok} : ∀ v ∈ [Value.str (Str.ofString "") t0, .str (Str.ofString "=") t1, .str (Str.ofString "==") t2], ∃ e t, v = .str ⟨(List.replicate e 61).toArray⟩ t ∧ e ≤ 2 := by
  intro v hv
  simp only [List.mem_cons, List.not_mem_nil, or_false] at hv
  rcases hv with rfl | rfl | rfl
  · exact ⟨0, t0, rfl, by decide⟩
  · exact ⟨1, t1, rfl, by decide⟩
  · exact ⟨2, t2, rfl, by decide⟩
theorem str_list {h₀ h : Heap} {L : Addr} {x : Str} {l : List Nat} {t : Tok} {r : Str → Option Value} (_ : Fr h₀ L h (fun y => if y = x then some (.str ⟨l.toArray⟩ t) else r y)) : ∃ l₀ : List Nat, l₀ = l := ⟨l, rfl⟩
end Mine
end
/-! part PL1 -/
section
open PySem PySem.W PySem.Calls PyProof.Rows
namespace Mine
theorem bit_at (x : Int) (k : Nat) : Builtin.bitAnd (Int.fdiv x (2 ^ k)) 1 = x / 2 ^ k % 2 := by
  rw [bitAnd_m1, Int.fdiv_eq_ediv_of_nonneg _ (by exact Int.le_of_lt (Int.pow_pos (by decide)))]
theorem bits8 (x : Int) : bitsOf x 8 = [x / 128 % 2, x / 64 % 2, x / 32 % 2, x / 16 % 2, x / 8 % 2, x / 4 % 2, x / 2 % 2, x % 2] := by
  have e : rangeKs 0 (Int.toNat (8 - 0)) = [0, 1, 2, 3, 4, 5, 6, 7] := by decide
  unfold bitsOf
  rw [e]
  simp only [List.map_cons, List.map_nil, bit_at]
  show [x / 128 % 2, x / 64 % 2, x / 32 % 2, x / 16 % 2, x / 8 % 2, x / 4 % 2, x / 2 % 2, x / 1 % 2] = _
  rw [Int.ediv_one]
theorem bits6 (x : Int) : bitsOf x 6 = [x / 32 % 2, x / 16 % 2, x / 8 % 2, x / 4 % 2, x / 2 % 2, x % 2] := by
  have e : rangeKs 0 (Int.toNat (6 - 0)) = [0, 1, 2, 3, 4, 5] := by decide
  unfold bitsOf
  rw [e]
  simp only [List.map_cons, List.map_nil, bit_at]
  show [x / 32 % 2, x / 16 % 2, x / 8 % 2, x / 4 % 2, x / 2 % 2, x / 1 % 2] = _
  rw [Int.ediv_one]
theorem row_place : ∀ i < 64, placeC ((alpha.cps.getD i 0).toUInt8.toNat) = (i : Int) := by decide +kernel
theorem placeC_61 : placeC 61 = -1 := by decide +kernel
theorem row_place' {i : Int} (h0 : 0 ≤ i) (h1 : i < 64) : placeC ((rowC i).toUInt8.toNat) = i := by
  have := row_place i.toNat (by omega)
  unfold rowC
  rw [this]; omega

/-! the groups of six and of eight -/
def signsOf (ns : List Int) : List Nat := (List.range (ns.length / 6)).map (signC ns)
def bytesOf (ns : List Int) : List UInt8 := (List.range (ns.length / 8)).map fun i => (worthOf ((ns.drop (8 * i)).take 8)).toNat.toUInt8
theorem signs_cons (a b c d e f : Int) (ns : List Int) : signsOf (a :: b :: c :: d :: e :: f :: ns) = rowC (worthOf [a, b, c, d, e, f]) :: signsOf ns := by
  unfold signsOf
  have hl : (a :: b :: c :: d :: e :: f :: ns).length / 6 = ns.length / 6 + 1 := by simp only [List.length_cons]; omega
  rw [hl, List.range_succ_eq_map, List.map_cons, List.map_map]
  rfl
theorem bytes_cons (a b c d e f g h : Int) (ns : List Int) : bytesOf (a :: b :: c :: d :: e :: f :: g :: h :: ns) = (worthOf [a, b, c, d, e, f, g, h]).toNat.toUInt8 :: bytesOf ns := by
  unfold bytesOf
  have hl : (a :: b :: c :: d :: e :: f :: g :: h :: ns).length / 8 = ns.length / 8 + 1 := by simp only [List.length_cons]; omega
  rw [hl, List.range_succ_eq_map, List.map_cons, List.map_map]
  rfl
theorem told_signs (l : List UInt8) : toldCs l = signsOf (padBits l) := rfl
theorem w8 {x : Int} (h0 : 0 ≤ x) (h1 : x < 256) : worthOf [x / 128 % 2, x / 64 % 2, x / 32 % 2, x / 16 % 2, x / 8 % 2, x / 4 % 2] = x / 4 := by
  simp only [worthOf, List.foldl]; omega
theorem w9 {x y : Int} (h2 : 0 ≤ y) (h3 : y < 256) : worthOf [x / 2 % 2, x % 2, y / 128 % 2, y / 64 % 2, y / 32 % 2, y / 16 % 2] = x % 4 * 16 + y / 16 := by
  simp only [worthOf, List.foldl]; omega
theorem w10 {y z : Int} (h2 : 0 ≤ z) (h3 : z < 256) : worthOf [y / 8 % 2, y / 4 % 2, y / 2 % 2, y % 2, z / 128 % 2, z / 64 % 2] = y % 16 * 4 + z / 64 := by
  simp only [worthOf, List.foldl]; omega
theorem w11 (z : Int) : worthOf [z / 32 % 2, z / 16 % 2, z / 8 % 2, z / 4 % 2, z / 2 % 2, z % 2] = z % 64 := by
  simp only [worthOf, List.foldl]; omega
theorem w9e (x : Int) : worthOf [x / 2 % 2, x % 2, 0, 0, 0, 0] = x % 4 * 16 := by
  simp only [worthOf, List.foldl]; omega
theorem w10e (y : Int) : worthOf [y / 8 % 2, y / 4 % 2, y / 2 % 2, y % 2, 0, 0] = y % 16 * 4 := by
  simp only [worthOf, List.foldl]; omega
theorem u8 (x : UInt8) : (0 : Int) ≤ (x.toNat : Int) ∧ (x.toNat : Int) < 256 := by have := x.toNat_lt; omega

theorem enc3 (x y z : UInt8) : encRow [x, y, z] = [rowC ((x.toNat : Int) / 4), rowC ((x.toNat : Int) % 4 * 16 + (y.toNat : Int) / 16), rowC ((y.toNat : Int) % 16 * 4 + (z.toNat : Int) / 64), rowC ((z.toNat : Int) % 64)] := by
  have hx := u8 x
  have hy := u8 y
  have hz := u8 z
  have hn : encN [x, y, z] = (x.toNat : Int) * 65536 + (y.toNat : Int) * 256 + (z.toNat : Int) := by
    show (((0 * 256 + (x.toNat : Int)) * 256 + (y.toNat : Int)) * 256 + (z.toNat : Int)) * 1 = _
    omega
  unfold encRow
  rw [hn]
  generalize (x.toNat : Int) = X at *
  generalize (y.toNat : Int) = Y at *
  generalize (z.toNat : Int) = Z at *
  simp only [Int.fdiv_eq_ediv_of_nonneg _ (show (0 : Int) ≤ 262144 by decide), Int.fdiv_eq_ediv_of_nonneg _ (show (0 : Int) ≤ 4096 by decide), Int.fdiv_eq_ediv_of_nonneg _ (show (0 : Int) ≤ 64 by decide), Int.fmod_eq_emod_of_nonneg _ (show (0 : Int) ≤ 64 by decide), List.cons_append, List.nil_append]
  have e1 : (X * 65536 + Y * 256 + Z) / 262144 = X / 4 := by omega
  have e2 : (X * 65536 + Y * 256 + Z) / 4096 % 64 = X % 4 * 16 + Y / 16 := by omega
  have e3 : (X * 65536 + Y * 256 + Z) / 64 % 64 = Y % 16 * 4 + Z / 64 := by omega
  have e4 : (X * 65536 + Y * 256 + Z) % 64 = Z % 64 := by omega
  rw [e1, e2, e3, e4]
theorem enc2 (x y : UInt8) : (encRow [x, y]).take 3 = [rowC ((x.toNat : Int) / 4), rowC ((x.toNat : Int) % 4 * 16 + (y.toNat : Int) / 16), rowC ((y.toNat : Int) % 16 * 4)] := by
  have hx := u8 x
  have hy := u8 y
  have hn : encN [x, y] = (x.toNat : Int) * 65536 + (y.toNat : Int) * 256 := by
    show ((0 * 256 + (x.toNat : Int)) * 256 + (y.toNat : Int)) * 256 = _
    omega
  unfold encRow
  rw [hn]
  generalize (x.toNat : Int) = X at *
  generalize (y.toNat : Int) = Y at *
  simp only [Int.fdiv_eq_ediv_of_nonneg _ (show (0 : Int) ≤ 262144 by decide), Int.fdiv_eq_ediv_of_nonneg _ (show (0 : Int) ≤ 4096 by decide), Int.fdiv_eq_ediv_of_nonneg _ (show (0 : Int) ≤ 64 by decide), Int.fmod_eq_emod_of_nonneg _ (show (0 : Int) ≤ 64 by decide), List.cons_append, List.nil_append]
  have e1 : (X * 65536 + Y * 256) / 262144 = X / 4 := by omega
  have e2 : (X * 65536 + Y * 256) / 4096 % 64 = X % 4 * 16 + Y / 16 := by omega
  have e3 : (X * 65536 + Y * 256) / 64 % 64 = Y % 16 * 4 := by omega
  rw [e1, e2, e3]
  rfl
theorem enc1 (x : UInt8) : (encRow [x]).take 2 = [rowC ((x.toNat : Int) / 4), rowC ((x.toNat : Int) % 4 * 16)] := by
  have hx := u8 x
  have hn : encN [x] = (x.toNat : Int) * 65536 := by
    show (0 * 256 + (x.toNat : Int)) * 65536 = _
    omega
  unfold encRow
  rw [hn]
  generalize (x.toNat : Int) = X at *
  simp only [Int.fdiv_eq_ediv_of_nonneg _ (show (0 : Int) ≤ 262144 by decide), Int.fdiv_eq_ediv_of_nonneg _ (show (0 : Int) ≤ 4096 by decide), Int.fmod_eq_emod_of_nonneg _ (show (0 : Int) ≤ 64 by decide), List.cons_append, List.nil_append]
  have e1 : (X * 65536) / 262144 = X / 4 := by omega
  have e2 : (X * 65536) / 4096 % 64 = X % 4 * 16 := by omega
  rw [e1, e2]
  rfl
theorem encOf_cons (x y z : UInt8) (r : List UInt8) : encOf (x :: y :: z :: r) = encRow [x, y, z] ++ encOf r := by
  unfold encOf encTo
  have hl : ((x :: y :: z :: r).length + 3 - 1) / 3 = (r.length + 3 - 1) / 3 + 1 := by simp only [List.length_cons]; omega
  rw [hl, List.range_succ_eq_map, List.flatMap_cons, List.flatMap_map]
  rfl
theorem pad_cons (x y z : UInt8) (r : List UInt8) : padBits (x :: y :: z :: r) = bitsOf (x.toNat : Int) 8 ++ (bitsOf (y.toNat : Int) 8 ++ (bitsOf (z.toNat : Int) 8 ++ padBits r)) := by
  unfold padBits
  have e : bitsAll (x :: y :: z :: r) = bitsOf (x.toNat : Int) 8 ++ (bitsOf (y.toNat : Int) 8 ++ (bitsOf (z.toNat : Int) 8 ++ bitsAll r)) := rfl
  have hl : (6 - 8 * (x :: y :: z :: r).length % 6) % 6 = (6 - 8 * r.length % 6) % 6 := by simp only [List.length_cons]; omega
  rw [e, hl]
  simp only [List.append_assoc]
theorem toldCs_cons (x y z : UInt8) (r : List UInt8) : toldCs (x :: y :: z :: r) = encRow [x, y, z] ++ toldCs r := by
  have hx := u8 x
  have hy := u8 y
  have hz := u8 z
  rw [told_signs, told_signs, pad_cons, enc3, bits8, bits8, bits8]
  simp only [List.cons_append, List.nil_append]
  rw [signs_cons, signs_cons, signs_cons, signs_cons, w8 hx.1 hx.2, w9 hy.1 hy.2, w10 hz.1 hz.2, w11]
theorem range_one : List.range 1 = [0] := rfl
theorem encOf_1 (x : UInt8) : encOf [x] = (encRow [x]).take 2 ++ [61, 61] := by
  unfold encOf encTo
  have h : ([x].length + 3 - 1) / 3 = 1 := by simp
  rw [h, range_one, List.flatMap_cons, List.flatMap_nil, List.append_nil]
  have h2 : (([x].drop (3 * 0)).take 3) = [x] := rfl
  rw [h2]
  rfl
theorem encOf_2 (x y : UInt8) : encOf [x, y] = (encRow [x, y]).take 3 ++ [61] := by
  unfold encOf encTo
  have h : ([x, y].length + 3 - 1) / 3 = 1 := by simp
  rw [h, range_one, List.flatMap_cons, List.flatMap_nil, List.append_nil]
  have h2 : (([x, y].drop (3 * 0)).take 3) = [x, y] := rfl
  rw [h2]
  rfl
theorem pad_1 (x : UInt8) : padBits [x] = bitsOf (x.toNat : Int) 8 ++ [0, 0, 0, 0] := by
  unfold padBits
  have e : bitsAll [x] = bitsOf (x.toNat : Int) 8 ++ [] := rfl
  have h : (6 - 8 * [x].length % 6) % 6 = 4 := by simp
  rw [e, h, List.append_nil]
  rfl
theorem pad_2 (x y : UInt8) : padBits [x, y] = bitsOf (x.toNat : Int) 8 ++ (bitsOf (y.toNat : Int) 8 ++ [0, 0]) := by
  unfold padBits
  have e : bitsAll [x, y] = bitsOf (x.toNat : Int) 8 ++ (bitsOf (y.toNat : Int) 8 ++ []) := rfl
  have h : (6 - 8 * [x, y].length % 6) % 6 = 2 := by simp
  rw [e, h, List.append_nil, List.append_assoc]
  rfl
theorem signs_nil : signsOf [] = [] := rfl
theorem enc_told : ∀ b : List UInt8, toldOf b = encOf b
  | [] => rfl
  | [x] => by
    have hx := u8 x
    have e : toldCs [x] = [rowC ((x.toNat : Int) / 4), rowC ((x.toNat : Int) % 4 * 16)] := by
      rw [told_signs]
      rw [pad_1, bits8]
      simp only [List.cons_append, List.nil_append]
      rw [signs_cons, signs_cons, w8 hx.1 hx.2, w9e, signs_nil]
    unfold toldOf
    rw [e]
    rw [encOf_1, enc1]; rfl
  | [x, y] => by
    have hx := u8 x
    have hy := u8 y
    have e : toldCs [x, y] = [rowC ((x.toNat : Int) / 4), rowC ((x.toNat : Int) % 4 * 16 + (y.toNat : Int) / 16), rowC ((y.toNat : Int) % 16 * 4)] := by
      rw [told_signs]
      rw [pad_2, bits8, bits8]
      simp only [List.cons_append, List.nil_append]
      rw [signs_cons, signs_cons, signs_cons, w8 hx.1 hx.2, w9 hy.1 hy.2, w10e, signs_nil]
    unfold toldOf
    rw [e]
    rw [encOf_2, enc2]; rfl
  | x :: y :: z :: r => by
    have ih := enc_told r
    unfold toldOf at ih ⊢
    rw [encOf_cons, toldCs_cons, ← ih]
    have h4 : (encRow [x, y, z]).length = 4 := rfl
    have hl : (4 - (encRow [x, y, z] ++ toldCs r).length % 4) % 4 = (4 - (toldCs r).length % 4) % 4 := by rw [List.length_append, h4]; omega
    rw [hl, List.append_assoc]
theorem enc_len : ∀ b : List UInt8, (encOf b).length = 4 * ((b.length + 2) / 3)
  | [] => rfl
  | [x] => by rw [encOf_1, enc1]; simp
  | [x, y] => by rw [encOf_2, enc2]; simp
  | x :: y :: z :: r => by
    rw [encOf_cons, List.length_append, enc_len r]
    have h4 : (encRow [x, y, z]).length = 4 := rfl
    rw [h4]
    simp only [List.length_cons]
    omega
end Mine
end
/-! part PL2 -/
section
open PySem PySem.W PySem.Calls PyProof.Rows
namespace Mine
/-! the signs of equality at the end -/
theorem dropW_rep (q : List UInt8) : ∀ k : Nat, ((List.replicate k (61 : UInt8)) ++ q).dropWhile (fun c : UInt8 => c == 61) = q.dropWhile (fun c : UInt8 => c == 61)
  | 0 => rfl
  | k + 1 => by
    rw [List.replicate_succ, List.cons_append, List.dropWhile_cons_of_pos (by decide)]
    exact dropW_rep q k
theorem bare_spec {p : List UInt8} (h : ∀ c ∈ p, c ≠ 61) (k : Nat) : bare (p ++ List.replicate k 61) = p := by
  unfold bare
  rw [List.reverse_append, List.reverse_replicate, dropW_rep]
  cases hp : p.reverse with
  | nil => rw [List.reverse_eq_nil_iff.mp hp]; rfl
  | cons c r =>
    have hc : c ≠ 61 := h c (by rw [← List.mem_reverse, hp]; exact List.mem_cons_self)
    rw [List.dropWhile_cons_of_neg (by simpa using hc), ← hp, List.reverse_reverse]
theorem takeW_all (p : UInt8 → Bool) : ∀ (l : List UInt8), ∀ b ∈ l.takeWhile p, p b = true
  | [] => fun _ h => nomatch h
  | a :: l => by
    intro b hb
    cases ha : p a with
    | true =>
      rw [List.takeWhile_cons_of_pos ha] at hb
      rcases List.mem_cons.mp hb with rfl | hb
      · exact ha
      · exact takeW_all p l b hb
    | false =>
      rw [List.takeWhile_cons_of_neg (by simp [ha])] at hb
      cases hb
theorem bare_split (l : List UInt8) : l = bare l ++ List.replicate (l.length - (bare l).length) 61 := by
  have h := List.takeWhile_append_dropWhile (p := fun c : UInt8 => c == 61) (l := l.reverse)
  have h2 : l = (l.reverse.dropWhile fun c : UInt8 => c == 61).reverse ++ (l.reverse.takeWhile fun c : UInt8 => c == 61).reverse := by
    rw [← List.reverse_append, h, List.reverse_reverse]
  have h3 : (l.reverse.takeWhile fun c : UInt8 => c == 61).reverse = List.replicate (l.length - (bare l).length) 61 := by
    have hl : (l.reverse.takeWhile fun c : UInt8 => c == 61).reverse.length = l.length - (bare l).length := by
      have := congrArg List.length h2
      rw [List.length_append] at this
      unfold bare
      omega
    rw [← hl]
    refine List.eq_replicate_iff.mpr ⟨rfl, fun b hb => ?_⟩
    have hb' := List.mem_reverse.mp hb
    have := takeW_all _ _ b hb'
    simpa using this
  unfold bare at h3 ⊢
  rw [← h3]
  exact h2
/-! chunks of four -/
theorem decTo_cons (a b c d : UInt8) (r : List UInt8) (n : Nat) : decTo (a :: b :: c :: d :: r) (n + 1) = decRow [a, b, c, d] ++ decTo r n := by
  unfold decTo
  rw [List.range_succ_eq_map, List.flatMap_cons, List.flatMap_map]
  rfl
theorem chunks_cons (a b c d : UInt8) (r : List UInt8) : chunksOf (a :: b :: c :: d :: r) = chunksOf r + 1 := by
  unfold chunksOf
  simp only [List.length_cons]; omega
theorem decTo_one {p : List UInt8} (h : p.length ≤ 4) : decTo p 1 = decRow p := by
  unfold decTo
  rw [range_one, List.flatMap_cons, List.flatMap_nil, List.append_nil, Nat.mul_zero, List.drop_zero, List.take_of_length_le h]
theorem dec4 (a b c d : UInt8) : decRow [a, b, c, d] = threeB (((placeC a.toNat * 64 + placeC b.toNat) * 64 + placeC c.toNat) * 64 + placeC d.toNat) := by
  have hn : decN [a, b, c, d] = ((placeC a.toNat * 64 + placeC b.toNat) * 64 + placeC c.toNat) * 64 + placeC d.toNat := by
    show ((((0 * 64 + placeC a.toNat) * 64 + placeC b.toNat) * 64 + placeC c.toNat) * 64 + placeC d.toNat) * 1 = _
    omega
  unfold decRow
  rw [hn]
  rfl
theorem dec3 (a b c : UInt8) : decRow [a, b, c] = (threeB (((placeC a.toNat * 64 + placeC b.toNat) * 64 + placeC c.toNat) * 64)).take 2 := by
  have hn : decN [a, b, c] = ((placeC a.toNat * 64 + placeC b.toNat) * 64 + placeC c.toNat) * 64 := by
    show (((0 * 64 + placeC a.toNat) * 64 + placeC b.toNat) * 64 + placeC c.toNat) * 64 = _
    omega
  unfold decRow
  rw [hn]
  rfl
theorem dec2 (a b : UInt8) : decRow [a, b] = (threeB ((placeC a.toNat * 64 + placeC b.toNat) * 4096)).take 1 := by
  have hn : decN [a, b] = (placeC a.toNat * 64 + placeC b.toNat) * 4096 := by
    show ((0 * 64 + placeC a.toNat) * 64 + placeC b.toNat) * 4096 = _
    omega
  unfold decRow
  rw [hn]
  rfl
theorem dec1 (a : UInt8) : decRow [a] = [] := rfl
theorem toU (x : UInt8) : ((x.toNat : Int)).toNat.toUInt8 = x := by
  rw [Int.toNat_natCast]
  exact UInt8.ofNat_toNat
/-! decode after encode -/
def coreOf : List UInt8 → List UInt8
  | [] => []
  | [x] => asB [rowC ((x.toNat : Int) / 4), rowC ((x.toNat : Int) % 4 * 16)]
  | [x, y] => asB [rowC ((x.toNat : Int) / 4), rowC ((x.toNat : Int) % 4 * 16 + (y.toNat : Int) / 16), rowC ((y.toNat : Int) % 16 * 4)]
  | x :: y :: z :: r => asB [rowC ((x.toNat : Int) / 4), rowC ((x.toNat : Int) % 4 * 16 + (y.toNat : Int) / 16), rowC ((y.toNat : Int) % 16 * 4 + (z.toNat : Int) / 64), rowC ((z.toNat : Int) % 64)] ++ coreOf r
theorem asB_append (p q : List Nat) : asB (p ++ q) = asB p ++ asB q := by unfold asB; rw [List.map_append]
theorem core_split : ∀ b : List UInt8, ∃ k, k ≤ 2 ∧ asB (encOf b) = coreOf b ++ List.replicate k 61
  | [] => ⟨0, by decide, rfl⟩
  | [x] => ⟨2, by decide, by rw [encOf_1, enc1, asB_append]; rfl⟩
  | [x, y] => ⟨1, by decide, by rw [encOf_2, enc2, asB_append]; rfl⟩
  | x :: y :: z :: r => by
    obtain ⟨k, hk, e⟩ := core_split r
    refine ⟨k, hk, ?_⟩
    rw [encOf_cons, enc3, asB_append, e]
    show _ = (asB _ ++ coreOf r) ++ _
    rw [List.append_assoc]
theorem good_row {i : Int} (h0 : 0 ≤ i) (h1 : i < 64) : goodC (rowC i).toUInt8 := by
  unfold goodC
  rw [row_place' h0 h1]; exact h0
theorem core_good : ∀ b : List UInt8, ∀ c ∈ coreOf b, goodC c
  | [] => fun _ h => nomatch h
  | [x] => by
    have hx := u8 x
    show ∀ c ∈ [(rowC _).toUInt8, (rowC _).toUInt8], goodC c
    simp only [List.forall_mem_cons]
    exact ⟨good_row (by omega) (by omega), good_row (by omega) (by omega), fun _ h => nomatch h⟩
  | [x, y] => by
    have hx := u8 x
    have hy := u8 y
    show ∀ c ∈ [(rowC _).toUInt8, (rowC _).toUInt8, (rowC _).toUInt8], goodC c
    simp only [List.forall_mem_cons]
    exact ⟨good_row (by omega) (by omega), good_row (by omega) (by omega), good_row (by omega) (by omega), fun _ h => nomatch h⟩
  | x :: y :: z :: r => by
    have hx := u8 x
    have hy := u8 y
    have hz := u8 z
    have ih := core_good r
    show ∀ c ∈ ([(rowC _).toUInt8, (rowC _).toUInt8, (rowC _).toUInt8, (rowC _).toUInt8] ++ coreOf r), goodC c
    intro c hc
    rcases List.mem_append.mp hc with hc | hc
    · simp only [List.mem_cons, List.not_mem_nil, or_false] at hc
      rcases hc with rfl | rfl | rfl | rfl <;> exact good_row (by omega) (by omega)
    · exact ih c hc
theorem not61 {c : UInt8} (h : goodC c) : c ≠ 61 := by
  rintro rfl
  unfold goodC at h
  have e : (61 : UInt8).toNat = 61 := rfl
  rw [e, placeC_61] at h
  omega
theorem core_dec : ∀ b : List UInt8, decTo (coreOf b) (chunksOf (coreOf b)) = b
  | [] => rfl
  | [x] => by
    have hx := u8 x
    have e : chunksOf (coreOf [x]) = 1 := by simp [chunksOf, coreOf, asB]
    rw [e, decTo_one (by exact Nat.le_of_ble_eq_true rfl)]
    show decRow [(rowC _).toUInt8, (rowC _).toUInt8] = _
    rw [dec2, row_place' (by omega) (by omega), row_place' (by omega) (by omega)]
    have e1 : ((x.toNat : Int) / 4 * 64 + (x.toNat : Int) % 4 * 16) * 4096 / 65536 % 256 = (x.toNat : Int) := by omega
    unfold threeB
    rw [e1, toU]
    rfl
  | [x, y] => by
    have hx := u8 x
    have hy := u8 y
    have e : chunksOf (coreOf [x, y]) = 1 := by simp [chunksOf, coreOf, asB]
    rw [e, decTo_one (by exact Nat.le_of_ble_eq_true rfl)]
    show decRow [(rowC _).toUInt8, (rowC _).toUInt8, (rowC _).toUInt8] = _
    rw [dec3, row_place' (by omega) (by omega), row_place' (by omega) (by omega), row_place' (by omega) (by omega)]
    generalize hX : (x.toNat : Int) = X at *
    generalize hY : (y.toNat : Int) = Y at *
    have e1 : ((X / 4 * 64 + (X % 4 * 16 + Y / 16)) * 64 + Y % 16 * 4) * 64 / 65536 % 256 = X := by omega
    have e2 : ((X / 4 * 64 + (X % 4 * 16 + Y / 16)) * 64 + Y % 16 * 4) * 64 / 256 % 256 = Y := by omega
    unfold threeB
    rw [e1, e2, ← hX, ← hY, toU, toU]
    rfl
  | x :: y :: z :: r => by
    have hx := u8 x
    have hy := u8 y
    have hz := u8 z
    have ih := core_dec r
    show decTo ((rowC _).toUInt8 :: (rowC _).toUInt8 :: (rowC _).toUInt8 :: (rowC _).toUInt8 :: coreOf r) (chunksOf ((rowC _).toUInt8 :: (rowC _).toUInt8 :: (rowC _).toUInt8 :: (rowC _).toUInt8 :: coreOf r)) = _
    rw [chunks_cons, decTo_cons, ih, dec4, row_place' (by omega) (by omega), row_place' (by omega) (by omega), row_place' (by omega) (by omega), row_place' (by omega) (by omega)]
    generalize hX : (x.toNat : Int) = X at *
    generalize hY : (y.toNat : Int) = Y at *
    generalize hZ : (z.toNat : Int) = Z at *
    have e0 : ((X / 4 * 64 + (X % 4 * 16 + Y / 16)) * 64 + (Y % 16 * 4 + Z / 64)) * 64 + Z % 64 = X * 65536 + Y * 256 + Z := by omega
    have e1 : (X * 65536 + Y * 256 + Z) / 65536 % 256 = X := by omega
    have e2 : (X * 65536 + Y * 256 + Z) / 256 % 256 = Y := by omega
    have e3 : (X * 65536 + Y * 256 + Z) % 256 = Z := by omega
    unfold threeB
    rw [e0, e1, e2, e3, ← hX, ← hY, ← hZ, toU, toU, toU]
    rfl
theorem bare_enc (b : List UInt8) : ∃ k, k ≤ 2 ∧ asB (encOf b) = coreOf b ++ List.replicate k 61 ∧ bare (asB (encOf b)) = coreOf b := by
  obtain ⟨k, hk, e⟩ := core_split b
  refine ⟨k, hk, e, ?_⟩
  rw [e]
  exact bare_spec (fun c hc => not61 (core_good b c hc)) k
theorem enc_good (b : List UInt8) : goodB (asB (encOf b)) := by
  obtain ⟨k, hk, e, hb⟩ := bare_enc b
  refine ⟨?_, ?_, ?_⟩
  · unfold asB
    rw [List.length_map, enc_len]; omega
  · rw [hb, e, List.length_append, List.length_replicate]; omega
  · rw [hb]; exact core_good b
theorem dec_enc (b : List UInt8) : decOf (asB (encOf b)) = b := by
  obtain ⟨k, hk, e, hb⟩ := bare_enc b
  unfold decOf
  rw [hb]
  exact core_dec b
end Mine
end
/-! part PL3 -/
section
open PySem PySem.W PySem.Calls PyProof.Rows
namespace Mine
theorem u_of {c : Nat} (h : c < 128) : c.toUInt8.toNat = c := by
  show (UInt8.ofNat c).toNat = c
  rw [UInt8.toNat_ofNat']; omega
theorem bytes_short {ns : List Int} (h : ns.length < 8) : bytesOf ns = [] := by
  unfold bytesOf; rw [Nat.div_eq_of_lt h]; rfl
theorem v1 {a b : Int} (h0 : 0 ≤ a ∧ a < 64) (h1 : 0 ≤ b ∧ b < 64) : worthOf [a / 32 % 2, a / 16 % 2, a / 8 % 2, a / 4 % 2, a / 2 % 2, a % 2, b / 32 % 2, b / 16 % 2] = a * 4 + b / 16 := by
  simp only [worthOf, List.foldl]; omega
theorem v2 {b c : Int} (h1 : 0 ≤ c ∧ c < 64) : worthOf [b / 8 % 2, b / 4 % 2, b / 2 % 2, b % 2, c / 32 % 2, c / 16 % 2, c / 8 % 2, c / 4 % 2] = b % 16 * 16 + c / 4 := by
  simp only [worthOf, List.foldl]; omega
theorem v3 {c d : Int} (h1 : 0 ≤ d ∧ d < 64) : worthOf [c / 2 % 2, c % 2, d / 32 % 2, d / 16 % 2, d / 8 % 2, d / 4 % 2, d / 2 % 2, d % 2] = c % 4 * 64 + d := by
  simp only [worthOf, List.foldl]; omega
theorem decB : ∀ p : List Nat, (∀ c ∈ p, c < 128) → (∀ c ∈ p, 0 ≤ placeC c) → decTo (asB p) (chunksOf (asB p)) = bytesOf (bitsD p)
  | [], _, _ => rfl
  | [a], _, _ => by
    have e : chunksOf (asB [a]) = 1 := by simp [chunksOf, asB]
    rw [e, decTo_one (by simp [asB])]
    show [] = bytesOf (bitsOf (placeC a) 6 ++ [])
    rw [bits6, bytes_short (by simp)]
  | [a, b], h8, h0 => by
    simp only [List.forall_mem_cons, List.not_mem_nil, false_implies, implies_true, and_true] at h8 h0
    have ha := (placeC_lt a (by omega)).2
    have hb := (placeC_lt b (by omega)).2
    have e : chunksOf (asB [a, b]) = 1 := by simp [chunksOf, asB]
    rw [e, decTo_one (by simp [asB])]
    show decRow [a.toUInt8, b.toUInt8] = bytesOf (bitsOf (placeC a) 6 ++ (bitsOf (placeC b) 6 ++ []))
    rw [dec2, u_of h8.1, u_of h8.2, bits6, bits6]
    simp only [List.cons_append, List.nil_append]
    rw [bytes_cons, bytes_short (by simp), v1 ⟨h0.1, ha⟩ ⟨h0.2, hb⟩]
    generalize placeC a = A at *
    generalize placeC b = B at *
    have e1 : (A * 64 + B) * 4096 / 65536 % 256 = A * 4 + B / 16 := by omega
    unfold threeB
    rw [e1]; rfl
  | [a, b, c], h8, h0 => by
    simp only [List.forall_mem_cons, List.not_mem_nil, false_implies, implies_true, and_true] at h8 h0
    have ha := (placeC_lt a (by omega)).2
    have hb := (placeC_lt b (by omega)).2
    have hc := (placeC_lt c (by omega)).2
    have e : chunksOf (asB [a, b, c]) = 1 := by simp [chunksOf, asB]
    rw [e, decTo_one (by simp [asB])]
    show decRow [a.toUInt8, b.toUInt8, c.toUInt8] = bytesOf (bitsOf (placeC a) 6 ++ (bitsOf (placeC b) 6 ++ (bitsOf (placeC c) 6 ++ [])))
    rw [dec3, u_of h8.1, u_of h8.2.1, u_of h8.2.2, bits6, bits6, bits6]
    simp only [List.cons_append, List.nil_append]
    rw [bytes_cons, bytes_cons, bytes_short (by simp), v1 ⟨h0.1, ha⟩ ⟨h0.2.1, hb⟩, v2 ⟨h0.2.2, hc⟩]
    generalize placeC a = A at *
    generalize placeC b = B at *
    generalize placeC c = C at *
    have e1 : ((A * 64 + B) * 64 + C) * 64 / 65536 % 256 = A * 4 + B / 16 := by omega
    have e2 : ((A * 64 + B) * 64 + C) * 64 / 256 % 256 = B % 16 * 16 + C / 4 := by omega
    unfold threeB
    rw [e1, e2]; rfl
  | a :: b :: c :: d :: r, h8, h0 => by
    simp only [List.forall_mem_cons] at h8 h0
    have ih := decB r h8.2.2.2.2 h0.2.2.2.2
    have ha := (placeC_lt a (by omega)).2
    have hb := (placeC_lt b (by omega)).2
    have hc := (placeC_lt c (by omega)).2
    have hd := (placeC_lt d (by omega)).2
    show decTo (a.toUInt8 :: b.toUInt8 :: c.toUInt8 :: d.toUInt8 :: asB r) (chunksOf (a.toUInt8 :: b.toUInt8 :: c.toUInt8 :: d.toUInt8 :: asB r)) = bytesOf (bitsOf (placeC a) 6 ++ (bitsOf (placeC b) 6 ++ (bitsOf (placeC c) 6 ++ (bitsOf (placeC d) 6 ++ bitsD r))))
    rw [chunks_cons, decTo_cons, ih, dec4, u_of h8.1, u_of h8.2.1, u_of h8.2.2.1, u_of h8.2.2.2.1, bits6, bits6, bits6, bits6]
    simp only [List.cons_append, List.nil_append]
    rw [bytes_cons, bytes_cons, bytes_cons, v1 ⟨h0.1, ha⟩ ⟨h0.2.1, hb⟩, v2 ⟨h0.2.2.1, hc⟩, v3 ⟨h0.2.2.2.1, hd⟩]
    generalize placeC a = A at *
    generalize placeC b = B at *
    generalize placeC c = C at *
    generalize placeC d = D at *
    have e1 : (((A * 64 + B) * 64 + C) * 64 + D) / 65536 % 256 = A * 4 + B / 16 := by omega
    have e2 : (((A * 64 + B) * 64 + C) * 64 + D) / 256 % 256 = B % 16 * 16 + C / 4 := by omega
    have e3 : (((A * 64 + B) * 64 + C) * 64 + D) % 256 = C % 4 * 64 + D := by omega
    unfold threeB
    rw [e1, e2, e3]; rfl
/-! the two ways to read a text -/
theorem parts {p : List Nat} {k : Nat} (h8 : ∀ c ∈ p, c < 128) (h : ∀ c ∈ p, c ≠ 61) : bare (asB (p ++ List.replicate k 61)) = asB p ∧ manyOf (p ++ List.replicate k 61) = k ∧ bodyOf (p ++ List.replicate k 61) = p := by
  have e : asB (List.replicate k 61) = List.replicate k (61 : UInt8) := by unfold asB; rw [List.map_replicate]; rfl
  have hm : manyOf (p ++ List.replicate k 61) = k := by
    unfold manyOf
    rw [List.filter_append, List.length_append]
    have e1 : p.filter (· == 61) = [] := List.filter_eq_nil_iff.mpr fun c hc => by simpa using h c hc
    have e2 : (List.replicate k (61 : Nat)).filter (· == 61) = List.replicate k 61 := List.filter_eq_self.mpr fun c hc => by rw [(List.mem_replicate.mp hc).2]; rfl
    rw [e1, e2, List.length_replicate]; simp
  refine ⟨?_, hm, ?_⟩
  · rw [asB_append, e]
    refine bare_spec (fun c hc => ?_) k
    obtain ⟨a, ha, rfl⟩ := List.mem_map.mp hc
    intro q
    have := congrArg UInt8.toNat q
    rw [u_of (h8 a ha)] at this
    exact h a ha this
  · unfold bodyOf
    rw [hm, List.length_append, List.length_replicate, Nat.add_sub_cancel]
    exact List.take_left' rfl
theorem no61 {c : Nat} (h : 0 ≤ placeC c) : c ≠ 61 := by
  rintro rfl
  rw [placeC_61] at h; omega
theorem split_D {l : List Nat} (h : goodD l) : ∃ p k, l = p ++ List.replicate k 61 ∧ ∀ c ∈ p, 0 ≤ placeC c := by
  refine ⟨bodyOf l, manyOf l, ?_, h.2.2⟩
  have hs : l = bodyOf l ++ l.drop (l.length - manyOf l) := (List.take_append_drop _ _).symm
  have hml := many_le l
  have hlen : (l.drop (l.length - manyOf l)).length = manyOf l := by rw [List.length_drop]; omega
  have hc : manyOf l = ((l.drop (l.length - manyOf l)).filter (· == 61)).length := by
    have e := congrArg (fun q : List Nat => (q.filter (· == 61)).length) hs
    have e1 : (bodyOf l).filter (· == 61) = [] := List.filter_eq_nil_iff.mpr fun c hc => by simpa using no61 (h.2.2 c hc)
    rw [List.filter_append, e1, List.nil_append] at e
    exact e
  have hall : ∀ c ∈ l.drop (l.length - manyOf l), c = 61 := by
    have hf : (l.drop (l.length - manyOf l)).filter (· == 61) = l.drop (l.length - manyOf l) := List.Sublist.eq_of_length List.filter_sublist (by rw [← hc, hlen])
    intro c hcm
    simpa using List.filter_eq_self.mp hf c hcm
  have hr : l.drop (l.length - manyOf l) = List.replicate (manyOf l) 61 := List.eq_replicate_iff.mpr ⟨hlen, hall⟩
  rw [hr] at hs
  exact hs
theorem asB_drop (l : List Nat) (n : Nat) : asB (l.drop n) = (asB l).drop n := by unfold asB; rw [List.map_drop]
theorem asB_take (l : List Nat) (n : Nat) : asB (l.take n) = (asB l).take n := by unfold asB; rw [List.map_take]
theorem split_B {l : List Nat} (ha : ∀ c ∈ l, c < 128) (h : goodB (asB l)) : ∃ p k, l = p ++ List.replicate k 61 ∧ ∀ c ∈ p, 0 ≤ placeC c := by
  have hs := bare_split (asB l)
  have hbl := bare_len (asB l)
  have hl : (asB l).length = l.length := by unfold asB; rw [List.length_map]
  generalize hn : (bare (asB l)).length = n at hs hbl
  refine ⟨l.take n, (asB l).length - n, ?_, ?_⟩
  · have hd : asB (l.drop n) = List.replicate ((asB l).length - n) 61 := by
      rw [asB_drop]
      have := congrArg (List.drop n) hs
      rw [List.drop_left' hn] at this
      exact this
    have hr : l.drop n = List.replicate ((asB l).length - n) 61 := by
      refine List.eq_replicate_iff.mpr ⟨by rw [List.length_drop, hl], fun c hc => ?_⟩
      have h1 : c.toUInt8 ∈ asB (l.drop n) := List.mem_map_of_mem hc
      rw [hd] at h1
      have h2 := congrArg UInt8.toNat (List.mem_replicate.mp h1).2
      rw [u_of (ha c (List.mem_of_mem_drop hc))] at h2
      exact h2
    rw [← hr, List.take_append_drop]
  · intro c hc
    have ht : asB (l.take n) = bare (asB l) := by
      rw [asB_take]
      have := congrArg (List.take n) hs
      rw [List.take_left' hn] at this
      exact this
    have h1 : c.toUInt8 ∈ bare (asB l) := by rw [← ht]; exact List.mem_map_of_mem hc
    have h2 := h.2.2 _ h1
    unfold goodC at h2
    rw [u_of (ha c (List.mem_of_mem_take hc))] at h2
    exact h2
theorem good_same {l : List Nat} (ha : ∀ c ∈ l, c < 128) : goodB (asB l) ↔ goodD l := by
  have key : ∀ p k, l = p ++ List.replicate k 61 → (∀ c ∈ p, 0 ≤ placeC c) → (goodB (asB l) ↔ goodD l) := by
    rintro p k rfl hp
    have hp8 : ∀ c ∈ p, c < 128 := fun c hc => ha c (List.mem_append_left _ hc)
    obtain ⟨e1, e2, e3⟩ := parts (k := k) hp8 (fun c hc => no61 (hp c hc))
    unfold goodB goodD
    rw [e1, e2, e3]
    have hl : (asB (p ++ List.replicate k 61)).length = (p ++ List.replicate k 61).length := by unfold asB; rw [List.length_map]
    have hl2 : (asB p).length = p.length := by unfold asB; rw [List.length_map]
    rw [hl, hl2]
    have hl3 : (p ++ List.replicate k 61).length = p.length + k := by rw [List.length_append, List.length_replicate]
    have g1 : ∀ x ∈ asB p, goodC x := by
      intro x hx
      obtain ⟨c, hc, rfl⟩ := List.mem_map.mp hx
      unfold goodC
      rw [u_of (hp8 c hc)]
      exact hp c hc
    rw [hl3]
    constructor
    · rintro ⟨q1, q2, _⟩; exact ⟨q1, by omega, hp⟩
    · rintro ⟨q1, q2, _⟩; exact ⟨q1, by omega, g1⟩
  constructor
  · intro h
    obtain ⟨p, k, e, hp⟩ := split_B ha h
    exact (key p k e hp).mp h
  · intro h
    obtain ⟨p, k, e, hp⟩ := split_D h
    exact (key p k e hp).mpr h
theorem dec_due {l : List Nat} (ha : ∀ c ∈ l, c < 128) (h : goodD l) : decOf (asB l) = dueOf l := by
  obtain ⟨p, k, rfl, hp⟩ := split_D h
  have hp8 : ∀ c ∈ p, c < 128 := fun c hc => ha c (List.mem_append_left _ hc)
  obtain ⟨e1, e2, e3⟩ := parts (k := k) hp8 (fun c hc => no61 (hp c hc))
  have ed : dueOf (p ++ List.replicate k 61) = bytesOf (bitsD p) := by
    unfold dueOf
    rw [e3]; rfl
  unfold decOf
  rw [e1, ed]
  exact decB p hp8 hp
end Mine
end
/-! part C_take -/
section
open PySem PySem.W PyProof.Rows
namespace Mine
local macro_rules | `(tactic| ktr_enter) => `(tactic| (refine' code_defC ?k1 ?k2 ?k3 ?k4 ?k5 ?kA ?kF ?kK ?k6 ?k7 ?k8 ?k9 ?kB ?kD ?_ ?c2 ?c3 ?c4; (case kA => exact rfl); (case kF => exact rfl); (case kK => assumption); (case k1 => k_asm); (case k2 => k_asm); (case k3 => k_asm); (case k4 => k_asm); (case k5 => k_asm); (case k6 => k_is); (case k7 => k_is); (case k8 => ktr_room); (case k9 => first | exact BindsTo.of_eq rfl | exact binds_K (by k_in) rfl (by k_is) rfl rfl rfl | fail "k_enter: no rule for these arguments"); (case kB => exact rfl); (case kD => decide +kernel); (case c2 => exact rfl); (case c3 => exact rfl); (case c4 => exact rfl); k_whole; intro g' L' h' tk' cells' FG' F' N' Y' B' X' T' l1; (try k_lt l1); k_cells Y'; (try simp only [List.cons_append, List.nil_append] at N'); (try dsimp only); (try k_lift B'); (try k_fold)))

section
variable {w : World} {p : Program} {loose : List Str} {mean : ExcName → Option Value} {mg mb : Str → Option Value} {dp un : Nat} {gd : Option (List Code)} {cn : Str} {cs : Scope} {a : Addr} {ccd : Value} {cl : List (Str × Addr)} {outer : List Env} {A₀ : Around} {base h₀ : Heap} {L : Addr} {m : Str → Option Value} {news : List (Addr × Obj)} {s : Shared}
    {Q E : Value → Shared → Prop}
local macro_rules | `(tactic| k_all) => `(tactic| assumption)
/-- the draw's two lists: of ints that are 0 or more, and the seed -/
def DrawAt (d l : Addr) (nx : List (Addr × Obj)) : Prop :=
  ∃ sd t vs ns n1 n2, nx = [(d, listOf #[.ref l, .int sd t] n1), (l, listOf (List.toArray vs) n2)] ∧ IntsAre vs ns ∧ (∀ x ∈ ns, (0 : Int) ≤ x) ∧ (0 : Int) ≤ sd ∧ ns.length ≤ 60

theorem pop0_step {prog : Program} {w : World} {A : Around} {E : Value → Shared → Prop} {s : Shared} {h₀ : Heap} {L D : Addr} {m : Str → Option Value} {news news' : List (Addr × Obj)} {n : Nat} {u : Tok} {q : List Value} {y : Value} {Q : Value → Shared → Prop}
    (F : Fr h₀ L s.heap m) (N : News h₀ L s.heap news) (U : Upd D (listOf (y :: q).toArray n) (listOf q.toArray (n + 1)) news news')
    (hz : (y :: q).length ≤ sizeLine) (h : ∀ h', Fr h₀ L h' m → News h₀ L h' news' → Q y { s with heap := h' }) :
    wpAny (model prog w) A (call (.builtin "list.pop") [.ref D, .int 0 u]) Q E s :=
  kl_popAt (its := (y :: q).toArray) (k := 0) (p := []) (q := q) F N rfl (by simp [seqIndex?]) rfl U hz h

local macro_rules | `(tactic| walk_at "call builtin:list.pop") => `(tactic| (k_here; k_dflt (refine' pop0_step ?F ?N ?U ?z ?_; (case F => k_asm); (case N => k_asm); (case U => k_upd); (case z => (rw [sizeLine_eq]; have hiL := IntsAre.length (by assumption); simp only [List.length_cons] at *; omega)); k_whole); intro h' F' N'))
set_option maxRecDepth 100000 in
set_option maxHeartbeats 8000000 in
theorem take_does {d l : Addr} {many : Int} {t2 : Tok} {nx : List (Addr × Obj)} (B : Below A₀ base outer h₀) (F : Fr h₀ L s.heap m) (X : (hd.heap_39 w.params).In h₀) (N : News h₀ L s.heap (nx ++ news)) (T : Top p loose mean mg mb h₀) (hk : cs.kind = .function) (hd : dp + 1 < recursionLimit) (hu : un + 100 < cLine)
    (D : DrawAt d l nx) (hdl : @Ne Nat d l) (hnd : ∀ p ∈ news, @Ne Nat p.1 d) (hnl : ∀ p ∈ news, @Ne Nat p.1 l) (hm : 0 < many)
    (ret : ∀ r t nx' h' tk', 0 ≤ r → r < many → DrawAt d l nx' → Fr h₀ L h' m → News h₀ L h' (nx' ++ news) → Q (.int r t) { s with heap := h', toks := tk' }) :
    wpAny (model PySem.Challenge.rw_ah6001_01.row.prog w) (ktrTop dp un gd cn cs L a ccd cl outer) (call (.ref 54) [.ref d, .int many t2]) Q E s := by
  revert X; k_fill; intro X
  obtain ⟨sd, t, vs, ns, n1, n2, rfl, hi, hns, hsd, hlen⟩ := D
  simp only [List.cons_append, List.nil_append] at N
  cases hi with
  | nil =>
    refine wpAny_call ?_
    k_dflt ktr_enter
    k_steps
    all_goals (
      rename Fr _ _ _ _ => kF
      rename News _ _ _ _ => kN
      refine ret _ _ [(d, _), (l, _)] _ _ ?_ ?_ ⟨_, _, _, _, _, _, rfl, IntsAre.nil, (fun _ h => nomatch h), ?_, Nat.zero_le _⟩ kF (fun q hq => kN q (List.mem_cons_of_mem _ hq))
      · rw [Int.fmod_eq_emod_of_nonneg _ (by omega)]; exact Int.emod_nonneg _ (by omega)
      · rw [Int.fmod_eq_emod_of_nonneg _ (by omega)]; exact Int.emod_lt_of_pos _ hm
      · rw [Int.fmod_eq_emod_of_nonneg _ (by omega)]; exact Int.emod_nonneg _ (by omega))
  | cons i ti hi =>
    refine wpAny_call ?_
    k_dflt ktr_enter
    k_steps
    · rename decide _ = true => hab
      exact absurd hab (by simp)
    · rename Fr _ _ _ _ => kF
      rename News _ _ _ _ => kN
      simp only [List.length_cons] at hlen
      refine ret _ _ [(d, _), (l, _)] _ _ ?_ ?_ ⟨_, _, _, _, _, _, rfl, hi, fun x h => hns x (List.mem_cons_of_mem _ h), hsd, by omega⟩ kF (fun q hq => kN q (List.mem_cons_of_mem _ hq))
      · rw [Int.fmod_eq_emod_of_nonneg _ (by omega)]; exact Int.emod_nonneg _ (by omega)
      · rw [Int.fmod_eq_emod_of_nonneg _ (by omega)]; exact Int.emod_lt_of_pos _ hm
end
end Mine
end
/-! part C_bits -/
section
open PySem PySem.W PyProof.Rows
namespace Mine
local macro_rules | `(tactic| ktr_enter) => `(tactic| (refine' code_defC ?k1 ?k2 ?k3 ?k4 ?k5 ?kA ?kF ?kK ?k6 ?k7 ?k8 ?k9 ?kB ?kD ?_ ?c2 ?c3 ?c4; (case kA => exact rfl); (case kF => exact rfl); (case kK => assumption); (case k1 => k_asm); (case k2 => k_asm); (case k3 => k_asm); (case k4 => k_asm); (case k5 => k_asm); (case k6 => k_is); (case k7 => k_is); (case k8 => ktr_room); (case k9 => first | exact BindsTo.of_eq rfl | exact binds_K (by k_in) rfl (by k_is) rfl rfl rfl | fail "k_enter: no rule for these arguments"); (case kB => exact rfl); (case kD => decide +kernel); (case c2 => exact rfl); (case c3 => exact rfl); (case c4 => exact rfl); k_whole; intro g' L' h' tk' cells' FG' F' N' Y' B' X' T' l1; (try k_lt l1); k_cells Y'; (try simp only [List.cons_append, List.nil_append] at N'); (try dsimp only); (try k_lift B'); (try k_fold)))
local macro_rules | `(tactic| k_all) => `(tactic| first | assumption | exact all_ne (by assumption) (by omega) | exact all_neA (by assumption) (by omega))
local macro_rules | `(tactic| k_allIn) => `(tactic| first | (refine List.forall_mem_cons.mpr ⟨by k_memK, ?_⟩; k_allIn) | (intro q hq; (repeat (first | exact hq | refine List.Mem.tail _ ?_)); done))

section
variable {w : World} {p : Program} {loose : List Str} {mean : ExcName → Option Value} {mg mb : Str → Option Value} {dp un : Nat} {gd : Option (List Code)} {cn : Str} {cs : Scope} {a : Addr} {ccd : Value} {cl : List (Str × Addr)} {outer : List Env} {A₀ : Around} {base h₀ : Heap} {L : Addr} {m : Str → Option Value} {news : List (Addr × Obj)} {s : Shared}
    {Q E : Value → Shared → Prop}
set_option maxRecDepth 100000 in
set_option maxHeartbeats 8000000 in
theorem bits_does {x k : Int} {t₁ t₂ : Tok} (B : Below A₀ base outer h₀) (F : Fr h₀ L s.heap m) (X : (hd.heap_39 w.params).In h₀) (N : News h₀ L s.heap news) (T : Top p loose mean mg mb h₀) (hk : cs.kind = .function) (hd : dp + 1 < recursionLimit) (hu : un + 100 < cLine)
    (hx0 : 0 ≤ x) (hx : x < 256) (hk0 : 0 ≤ k) (hk1 : k ≤ 8)
    (ret : ∀ l ys h' tk', IntsAre ys (bitsOf x k) → (ys.length : Int) = k → LCg.Off1 l news → Fr h₀ L h' m → News h₀ L h' ((l, listOf ys.toArray ys.length) :: news) → Q (.ref l) { s with heap := h', toks := tk' }) :
    wpAny (model PySem.Challenge.rw_ah6001_01.row.prog w) (ktrTop dp un gd cn cs L a ccd cl outer) (call (.ref 66) [.int x t₁, .int k t₂]) Q E s := by
  revert X; k_fill; intro X
  refine wpAny_call ?_
  k_dflt ktr_enter
  k_steps
  · rename IntsAre _ _ => hI
    rename Fr _ _ _ _ => kF
    rename News _ _ _ _ => kN
    rename _ ∧ _ ∧ LCg.Off1 _ _ => hO
    refine ret _ _ _ _ hI ?_ hO.2.2 kF (fun q hq => kN q ?_)
    · rw [hI.length, List.length_map, rangeKs_length]; omega
    rcases List.mem_cons.mp hq with rfl | hq
    · exact List.mem_cons_self
    · exact List.mem_cons_of_mem _ (List.mem_cons_of_mem _ (List.mem_cons_of_mem _ hq))

end
end Mine
end
/-! part C_signs -/
section
open PySem PySem.W PyProof.Rows
namespace Mine
local macro_rules | `(tactic| ktr_enter) => `(tactic| (refine' code_defC ?k1 ?k2 ?k3 ?k4 ?k5 ?kA ?kF ?kK ?k6 ?k7 ?k8 ?k9 ?kB ?kD ?_ ?c2 ?c3 ?c4; (case kA => exact rfl); (case kF => exact rfl); (case kK => assumption); (case k1 => k_asm); (case k2 => k_asm); (case k3 => k_asm); (case k4 => k_asm); (case k5 => k_asm); (case k6 => k_is); (case k7 => k_is); (case k8 => ktr_room); (case k9 => first | exact BindsTo.of_eq rfl | exact binds_K (by k_in) rfl (by k_is) rfl rfl rfl | fail "k_enter: no rule for these arguments"); (case kB => exact rfl); (case kD => decide +kernel); (case c2 => exact rfl); (case c3 => exact rfl); (case c4 => exact rfl); k_whole; intro g' L' h' tk' cells' FG' F' N' Y' B' X' T' l1; (try k_lt l1); k_cells Y'; (try simp only [List.cons_append, List.nil_append] at N'); (try dsimp only); (try k_lift B'); (try k_fold)))
local macro_rules | `(tactic| k_all) => `(tactic| first | assumption | exact all_ne (by assumption) (by omega) | exact all_neA (by assumption) (by omega))
local macro_rules | `(tactic| k_allIn) => `(tactic| first | (refine List.forall_mem_cons.mpr ⟨by k_memK, ?_⟩; k_allIn) | (intro q hq; (repeat (first | exact hq | refine List.Mem.tail _ ?_)); done))

section
variable {w : World} {p : Program} {loose : List Str} {mean : ExcName → Option Value} {mg mb : Str → Option Value} {dp un : Nat} {gd : Option (List Code)} {cn : Str} {cs : Scope} {a : Addr} {ccd : Value} {cl : List (Str × Addr)} {outer : List Env} {A₀ : Around} {base h₀ : Heap} {L : Addr} {m : Str → Option Value} {news : List (Addr × Obj)} {s : Shared}
    {Q E : Value → Shared → Prop}
set_option maxRecDepth 100000 in
set_option maxHeartbeats 8000000 in
theorem signs_does (B : Below A₀ base outer h₀) (F : Fr h₀ L s.heap m) (X : (hd.heap_39 w.params).In h₀) (N : News h₀ L s.heap news) (T : Top p loose mean mg mb h₀) (hk : cs.kind = .function) (hd : dp + 1 < recursionLimit) (hu : un + 100 < cLine)
    (ret : ∀ t h' tk', Fr h₀ L h' m → News h₀ L h' news → Q (.str alpha t) { s with heap := h', toks := tk' }) :
    wpAny (model PySem.Challenge.rw_ah6001_01.row.prog w) (ktrTop dp un gd cn cs L a ccd cl outer) (call (.ref 61) []) Q E s := by
  revert X; k_fill; intro X
  refine wpAny_call ?_
  k_dflt ktr_enter
  k_steps
  · rename Fr _ _ _ _ => kF
    rename News _ _ _ _ => kN
    exact ret _ _ _ kF kN

end
end Mine
end
/-! part C_worth -/
section
open PySem PySem.W PyProof.Rows
namespace Mine
local macro_rules | `(tactic| ktr_enter) => `(tactic| (refine' code_defC ?k1 ?k2 ?k3 ?k4 ?k5 ?kA ?kF ?kK ?k6 ?k7 ?k8 ?k9 ?kB ?kD ?_ ?c2 ?c3 ?c4; (case kA => exact rfl); (case kF => exact rfl); (case kK => assumption); (case k1 => k_asm); (case k2 => k_asm); (case k3 => k_asm); (case k4 => k_asm); (case k5 => k_asm); (case k6 => k_is); (case k7 => k_is); (case k8 => ktr_room); (case k9 => first | exact BindsTo.of_eq rfl | exact binds_K (by k_in) rfl (by k_is) rfl rfl rfl | fail "k_enter: no rule for these arguments"); (case kB => exact rfl); (case kD => decide +kernel); (case c2 => exact rfl); (case c3 => exact rfl); (case c4 => exact rfl); k_whole; intro g' L' h' tk' cells' FG' F' N' Y' B' X' T' l1; (try k_lt l1); k_cells Y'; (try simp only [List.cons_append, List.nil_append] at N'); (try dsimp only); (try k_lift B'); (try k_fold)))
local macro_rules | `(tactic| k_all) => `(tactic| first | assumption | exact all_ne (by assumption) (by omega) | exact all_neA (by assumption) (by omega))
local macro_rules | `(tactic| k_allIn) => `(tactic| first | (refine List.forall_mem_cons.mpr ⟨by k_memK, ?_⟩; k_allIn) | (intro q hq; (repeat (first | exact hq | refine List.Mem.tail _ ?_)); done))

section
variable {w : World} {p : Program} {loose : List Str} {mean : ExcName → Option Value} {mg mb : Str → Option Value} {dp un : Nat} {gd : Option (List Code)} {cn : Str} {cs : Scope} {a : Addr} {ccd : Value} {cl : List (Str × Addr)} {outer : List Env} {A₀ : Around} {base h₀ : Heap} {L : Addr} {m : Str → Option Value} {news : List (Addr × Obj)} {s : Shared}
    {Q E : Value → Shared → Prop}
theorem fold_unit {α β : Type} (f : α → β → α) (l : List β) : ∀ a : α, (l.foldl (fun (σ : α × Unit) n => (f σ.1 n, ())) (a, ())).1 = l.foldl f a := by
  induction l with
  | nil => intro a; rfl
  | cons b l ih => intro a; exact ih (f a b)

set_option maxRecDepth 100000 in
set_option maxHeartbeats 8000000 in
theorem worth_does {l : Addr} {vs : List Value} {ns : List Int} {nn : Nat} (B : Below A₀ base outer h₀) (F : Fr h₀ L s.heap m) (X : (hd.heap_39 w.params).In h₀) (N : News h₀ L s.heap ((l, listOf vs.toArray nn) :: news)) (T : Top p loose mean mg mb h₀) (hk : cs.kind = .function) (hd : dp + 1 < recursionLimit) (hu : un + 100 < cLine)
    (hi : IntsAre vs ns)
    (ret : ∀ t h' tk', Fr h₀ L h' m → News h₀ L h' ((l, listOf vs.toArray nn) :: news) → Q (.int (worthOf ns) t) { s with heap := h', toks := tk' }) :
    wpAny (model PySem.Challenge.rw_ah6001_01.row.prog w) (ktrTop dp un gd cn cs L a ccd cl outer) (call (.ref 73) [.ref l]) Q E s := by
  revert X; k_fill; intro X
  refine wpAny_call ?_
  k_dflt ktr_enter
  k_steps
  · rename Fr _ _ _ _ => kF
    rename News _ _ _ _ => kN
    exact Eq.mp (congrArg (fun z => Q (.int z _) _) (show worthOf ns = _ from (fold_unit (fun a n : Int => 2 * a + n) ns 0).symm)) (ret _ _ _ kF kN)

end
end Mine
end
/-! part C_told -/
section
open PySem PySem.W PyProof.Rows
namespace Mine
local macro_rules | `(tactic| ktr_enter) => `(tactic| (refine' code_defC ?k1 ?k2 ?k3 ?k4 ?k5 ?kA ?kF ?kK ?k6 ?k7 ?k8 ?k9 ?kB ?kD ?_ ?c2 ?c3 ?c4; (case kA => exact rfl); (case kF => exact rfl); (case kK => assumption); (case k1 => k_asm); (case k2 => k_asm); (case k3 => k_asm); (case k4 => k_asm); (case k5 => k_asm); (case k6 => k_is); (case k7 => k_is); (case k8 => ktr_room); (case k9 => first | exact BindsTo.of_eq rfl | exact binds_K (by k_in) rfl (by k_is) rfl rfl rfl | fail "k_enter: no rule for these arguments"); (case kB => exact rfl); (case kD => decide +kernel); (case c2 => exact rfl); (case c3 => exact rfl); (case c4 => exact rfl); k_whole; intro g' L' h' tk' cells' FG' F' N' Y' B' X' T' l1; (try k_lt l1); k_cells Y'; (try simp only [List.cons_append, List.nil_append] at N'); (try dsimp only); (try k_lift B'); (try k_fold)))
local macro_rules | `(tactic| k_all) => `(tactic| first | assumption | exact all_ne (by assumption) (by omega) | exact all_neA (by assumption) (by omega))
local macro_rules | `(tactic| k_allIn) => `(tactic| first | (refine List.forall_mem_cons.mpr ⟨by k_memK, ?_⟩; k_allIn) | (intro q hq; (repeat (first | exact hq | refine List.Mem.tail _ ?_)); done))

section
variable {w : World} {p : Program} {loose : List Str} {mean : ExcName → Option Value} {mg mb : Str → Option Value} {dp un : Nat} {gd : Option (List Code)} {cn : Str} {cs : Scope} {a : Addr} {ccd : Value} {cl : List (Str × Addr)} {outer : List Env} {A₀ : Around} {base h₀ : Heap} {L : Addr} {m : Str → Option Value} {news : List (Addr × Obj)} {s : Shared}
    {Q E : Value → Shared → Prop}
local macro_rules | `(tactic| walk_at "spliced") => `(tactic| first | refine PyProof.Rows.args_cons ?_ | (refine PyProof.Rows.args_nil ?_; try simp only [List.cons_append, List.nil_append]))
local macro_rules | `(tactic| walk_at "call ref") => `(tactic| (k_here; k_dflt (refine' bits_does ?B ?F ?X ?N ?T ?hk ?hd ?hu ?a ?b ?c ?d ?_; (case B => k_asm); (case F => k_asm); (case X => k_asm); (case N => k_asm); (case T => k_asm); (case hk => first | exact rfl | assumption); (case hd => ktr_room); (case hu => ktr_units); (case a => omega); (case b => omega); (case c => omega); (case d => omega); intro l' ys' h' tk' hI' hLn' hO' F' N'; (try simp only [LCg.Off1, and_true] at hO'))))
local macro_rules | `(tactic| walk_at "call ref") => `(tactic| (k_here; k_dflt (refine' signs_does ?B ?F ?X ?N ?T ?hk ?hd ?hu ?_; (case B => k_asm); (case F => k_asm); (case X => k_asm); (case N => k_asm); (case T => k_asm); (case hk => first | exact rfl | assumption); (case hd => ktr_room); (case hu => ktr_units); intro t' h' tk' F' N')))
local macro_rules | `(tactic| walk_at "call ref") => `(tactic| (k_here; k_dflt (refine' worth_does ?B ?F ?X ?N ?T ?hk ?hd ?hu ?i ?_; (case B => k_asm); (case F => k_asm); (case X => k_asm); (case N => k_asm); (case T => k_asm); (case hk => first | exact rfl | assumption); (case hd => ktr_room); (case hu => ktr_units); (case i => assumption); intro t' h' tk' F' N')))
local macro_rules | `(tactic| walk_at "binaryOp Add ref ref") => `(tactic| (k_here; k_dflt (refine' add_L ?F ?N ?a ?b ?z ?_; (case F => k_asm); (case N => k_asm); (case a => k_mem); (case b => k_mem); (case z => omega); intro r' h' F' N' l1'; (try simp only [AllLt, and_true] at l1'))))
local macro_rules | `(tactic| walk_at "call builtin:len") => `(tactic| (k_here; (with_reducible show wpAny _ _ (call (Value.builtin "len") [Value.ref _]) _ _ _); k_dflt (refine' len_L ?N ?a ?z ?_; (case N => k_asm); (case a => k_mem); (case z => omega); intro t' tk')))
local macro_rules | `(tactic| walk_at "eval ListComp") => `(tactic| (refine' of_hold ?_))
local macro_rules | `(tactic| walk_at "exec While Compare cons nil") => `(tactic| (refine' of_hold ?_))
local macro_rules | `(tactic| walk_at "call builtin:str.encode") => `(tactic| (k_here; k_dflt (refine' encode_SL ?z ?_ ?_; (case z => ((try simp only [List.length_append, List.length_replicate, List.length_map, List.length_cons, List.length_nil, List.length_take, List.length_drop]); omega)); intro t' tk')))
local macro_rules | `(tactic| walk_at "getMethod") => `(tactic| (k_here; (with_reducible show wpAny _ _ (getMethod _ (PySem.Str.ofString "encode") _) _ _ _); (try dsimp only); k_dflt (refine' meth_encode ?_)))
local macro_rules | `(tactic| walk_at "binaryOp Add str str") => `(tactic| (k_here; (with_reducible show wpAny _ _ (binaryOp Operator.Add (Value.str _ _) (Value.str _ _)) _ _ _); k_dflt (refine' add_SL ?a ?b ?z ?_; (case a => first | exact lit_eq | exact lit_empty | exact rfl); (case b => first | exact lit_eq | exact lit_empty | exact rfl); (case z => ((try simp only [List.length_append, List.length_replicate, List.length_map, List.length_cons, List.length_nil, List.length_take, List.length_drop]); omega)); intro t' tk')))
local macro_rules | `(tactic| walk_at "call builtin:len") => `(tactic| (k_here; (with_reducible show wpAny _ _ (call (Value.builtin "len") [Value.str (Str.mk (List.toArray _)) _]) _ _ _); k_dflt (refine' len_SL ?z ?_; (case z => ((try simp only [List.length_append, List.length_replicate, List.length_map, List.length_cons, List.length_nil, List.length_take, List.length_drop]); omega)); intro t' tk')))
local macro_rules | `(tactic| walk_at "subscriptTail") => `(tactic| (k_here; (with_reducible show wpAny _ _ (subscriptTail _ _ (Value.str _ _) (Value.int _ _)) _ _ _); k_dflt (refine' item_S ?z ?_ ?_ ?b; (case z => first | (exact Nat.le_of_ble_eq_true rfl) | omega); (case b => with_unfolding_all rfl))))
local macro_rules | `(tactic| walk_at "subscriptTail Name BinOp str int") => `(tactic| (k_here; (with_reducible show wpAny _ _ (subscriptTail _ _ (Value.str _ _) (Value.int _ _)) _ _ _); k_dflt (refine' item_S ?z ?_ ?_ ?b; (case z => first | (exact Nat.le_of_ble_eq_true rfl) | omega); (case b => with_unfolding_all rfl))))
local macro_rules | `(tactic| walk_at "subscriptTail Constant Call str int") => `(tactic| (k_here; (with_reducible show wpAny _ _ (subscriptTail _ _ (Value.str _ _) (Value.int _ _)) _ _ _); k_dflt (refine' item_S ?z ?_ ?_ ?b; (case z => first | (exact Nat.le_of_ble_eq_true rfl) | omega); (case b => with_unfolding_all rfl))))
local macro_rules | `(tactic| walk_at "subscriptTail Call Call str int") => `(tactic| (k_here; (with_reducible show wpAny _ _ (subscriptTail _ _ (Value.str _ _) (Value.int _ _)) _ _ _); k_dflt (refine' item_S ?z ?_ ?_ ?b; (case z => first | (exact Nat.le_of_ble_eq_true rfl) | omega); (case b => with_unfolding_all rfl))))
local macro_rules | `(tactic| walk_at "call builtin:str.join") => `(tactic| (k_here; (with_reducible show wpAny _ _ (call (Value.builtin "str.join") [Value.str _ _, Value.ref _]) _ _ _); k_dflt (refine' join_S ?N ?a ?i ?z ?_; (case N => k_asm); (case a => k_mem); (case i => assumption); (case z => ((try simp only [List.length_map, List.length_range]); omega)); intro t' tk')))
set_option maxRecDepth 100000 in
set_option maxHeartbeats 8000000 in
theorem told_does {b : Array UInt8} {t : Tok} (B : Below A₀ base outer h₀) (F : Fr h₀ L s.heap m) (X : (hd.heap_39 w.params).In h₀) (N : News h₀ L s.heap news) (T : Top p loose mean mg mb h₀) (hk : cs.kind = .function) (hd : dp + 5 < recursionLimit) (hu : un + 200 < cLine)
    (hb : b.size ≤ 12)
    (ret : ∀ t h' tk', Fr h₀ L h' m → News h₀ L h' news → Q (.bytes (asB (toldOf b.toList)).toArray t) { s with heap := h', toks := tk' }) :
    wpAny (model PySem.Challenge.rw_ah6001_01.row.prog w) (ktrTop dp un gd cn cs L a ccd cl outer) (call (.ref 78) [.bytes b t]) Q E s := by
  revert X; k_fill; intro X
  refine wpAny_call ?_
  k_dflt (refine' code_defC ?k1 ?k2 ?k3 ?k4 ?k5 ?kA ?kF ?kK ?k6 ?k7 ?k8 ?k9 ?kB ?kD ?_ ?c2 ?c3 ?c4; (case kA => exact rfl); (case kF => exact rfl); (case kK => assumption); (case k1 => k_asm); (case k2 => k_asm); (case k3 => k_asm); (case k4 => k_asm); (case k5 => k_asm); (case k6 => k_is); (case k7 => k_is); (case k8 => ktr_room); (case k9 => exact BindsTo.of_eq rfl); (case kB => exact rfl); (case kD => decide +kernel); (case c2 => exact rfl); (case c3 => exact rfl); (case c4 => exact rfl))
  intro g1 L1 h1 tk1 cells1 FG1 F1 N1 Y1 B1 X1 T1 l1
  k_cells Y1
  (try simp only [List.cons_append, List.nil_append] at N1)
  k_steps
  · rename Fr _ _ _ _ => F2
    rename News _ _ _ _ => N2
    refine iterS_bytes (σ := Addr × Obj × List Value × Nat) (fun c => (c.1, listOf c.2.2.1.toArray c.2.2.2) :: (L1 + 1, c.2.1) :: news) (fun _ => []) [] (fun i c => c.2.1.data = .cell (some (.ref c.1)) ∧ IntsAre c.2.2.1 (bitsAll (b.toList.take i)) ∧ c.2.2.1.length = 8 * i ∧ NLt (L1 + 1) c.1) (_, _, [], _) rfl F2 N2 (fun _ h => nomatch h) ⟨by assumption, .nil, rfl, by (dsimp only); omega⟩ ?_ ?_
    · rintro i n t ⟨l, o, vs, nn⟩ u h2 tk2 I oI hn ⟨hco, hi, hlen, hl⟩ F3 N3 a3
      dsimp only at hco hi hlen hl F3 N3 a3
      clear F2 N2
      simp only [List.forall_mem_cons] at a3
      obtain ⟨a4, a5, a6⟩ := a3
      have hn8 : n.toNat < 256 := n.toNat_lt
      have hib : i < b.size := (Array.getElem?_eq_some_iff.mp hn).1
      k_steps
      rename Fr _ _ _ _ => F4
      rename News _ _ _ _ => N4
      rename Obj.data _ = Data.cell (some (Value.ref _)) => d4
      rename IntsAre _ (bitsOf _ _) => i4
      rename (List.length _ : Int) = 8 => l4
      rename _ ∧ _ ∧ _ ∧ _ ∧ AllLt _ _ => a7
      have i5 := hi.append i4
      rw [← bitsAll_take hn] at i5
      refine TPost_next (_, _, vs ++ _, 0) F4 N4 ?_ (List.forall_mem_cons.mpr ⟨Nat.ne_of_gt a7.2.1, List.forall_mem_cons.mpr ⟨a5, a6⟩⟩) (fun _ h => nomatch h) ?_ ⟨d4, i5, by rw [List.length_append]; omega, a7.2.2.2.1⟩
      · k_allIn
      · intro z hz _ _
        show (if z = _ then _ else _) = _
        rw [if_neg hz]
        rfl
    · rintro ⟨l, o, vs, nn⟩ u h2 tk2 ⟨hco, hi, hlen, hl⟩ F3 N3
      dsimp only at hco hi hlen hl F3 N3
      clear F2 N2
      dsimp only
      have hi0 : IntsAre vs (bitsAll b.toList ++ List.replicate 0 0) := by
        rw [List.take_of_length_le (Nat.le_of_eq Array.length_toList)] at hi
        simpa using hi
      refine wpAny_execs_cons ?_
      refine ksw_while (σ := List Value × Nat × Nat) (fun c => (l, listOf c.1.toArray c.2.1) :: (L1 + 1, o) :: news) (fun _ => []) (fun _ => True) [] (fun c => IntsAre c.1 (bitsAll b.toList ++ List.replicate c.2.2 0) ∧ c.1.length = 8 * b.size + c.2.2 ∧ c.2.2 ≤ (6 - 8 * b.size % 6) % 6) (fun c => 6 - c.2.2) (vs, nn, 0) F3 N3 trivial (fun _ h => nomatch h) ⟨hi0, hlen, Nat.zero_le _⟩ ?_
      rintro ⟨ws, n2, j⟩ u2 h3 tk3 _ ⟨hiw, hlw, hj⟩ F4 N4
      dsimp only at hiw hlw hj F4 N4
      clear F3 N3
      k_steps
      · rename Fr _ _ _ _ => F5
        rename News _ _ _ _ => N5
        rename Int.fmod _ _ ≠ 0 => hne
        simp only [List.push_toArray] at N5
        rw [Int.fmod_eq_emod_of_nonneg _ (by omega), hlw] at hne
        have hq : ∀ tk, IntsAre (ws ++ [Value.int 0 tk]) (bitsAll b.toList ++ List.replicate (j + 1) 0) := fun tk => by
          have := hiw.append (IntsAre.cons 0 tk .nil)
          simpa [List.replicate_succ', List.append_assoc] using this
        refine' ksw_end (ws ++ [Value.int 0 _], n2 + 1, j + 1) F5 N5 ?hn trivial (fun _ h => nomatch h) ?hz ⟨hq _, ?hl, ?hj⟩ ?hm
        case hn => k_allIn
        case hz => intro z _ _; rfl
        case hl => rw [List.length_append, hlw]; rfl
        case hj => dsimp only; omega
        case hm => dsimp only; omega
      · rename Int.fmod _ _ = 0 => hz6
        rw [Int.fmod_eq_emod_of_nonneg _ (by omega), hlw] at hz6
        refine hold_of (ListComp_R (h₀ := g1) (L := L1) (σ := Unit) (fun _ => (l, listOf ws.toArray n2) :: (L1 + 1, o) :: news) (fun i ys _ => StrsAre ys (ones ((List.range i).map (signC (bitsAll b.toList ++ List.replicate j 0))))) F4 rfl (by decide) rfl (by decide) rfl (fun _ => rfl) ?_)
        k_steps
        · refine ⟨_, _, _, _, _, _, _, (8 * b.size + j) / 6, (), rfl, rfl, by assumption, by assumption, by assumption, ?_, ?_, ?_, .nil, ?_, ?_⟩
          · exact range_small _ 6 (by omega) (by decide) (by decide)
          · refine (range_size ws.length 6 (by decide)).trans ?_
            rw [hlw]
            omega
          · rw [sizeLine_eq]; omega
          · intro i k t c ys I oI C oC D m₂ h4 tk4 E' hi6 hk6 hP hC hx F6 N6 off ne
            dsimp only at N6 off
            simp only [LCg.Off3] at off
            have h01 : ∀ n ∈ bitsAll b.toList ++ List.replicate j 0, n = 0 ∨ n = 1 := fun n hn => (List.mem_append.mp hn).elim bitsAll_01 fun q => .inl (List.mem_replicate.mp q).2
            have hLL : (bitsAll b.toList ++ List.replicate j (0 : Int)).length = 8 * b.size + j := by rw [List.length_append, bitsAll_len, List.length_replicate, Array.length_toList]
            k_steps
            · rename Fr _ _ _ _ => F7
              rename News _ _ _ _ => N7
              have e6 : List.take (min (Int.toNat (k + 6)) (List.length (bitsAll b.toList ++ List.replicate j 0)) - Int.toNat k) (List.drop (Int.toNat k) (bitsAll b.toList ++ List.replicate j 0)) = ((bitsAll b.toList ++ List.replicate j 0).drop (6 * i)).take 6 := by
                have ek : Int.toNat k = 6 * i := by omega
                rw [ek, List.take_eq_take_iff, List.length_drop, hLL]
                omega
              rw [e6]
              refine' CEnd_intro () F7 N7 ?hn off ?hP
              case hn => k_allIn
              case hP =>
                rw [List.range_succ, List.map_append]
                unfold ones
                rw [List.map_append]
                exact StrsAre.append' hP (.cons _ _ .nil)
            · refine hold_of ?_
              have := worth_64 (ns := List.take (min (Int.toNat (k + 6)) (List.length (bitsAll b.toList ++ List.replicate j 0)) - Int.toNat k) (List.drop (Int.toNat k) (bitsAll b.toList ++ List.replicate j 0))) (fun n hn => h01 n (List.mem_of_mem_drop (List.mem_of_mem_take hn))) (by rw [List.length_take]; omega)
              rw [alpha_len]; exact this
          · intro c ys D h4 tk4 hP F6 N6 off
            dsimp only at N6
            unfold ones at hP
            k_steps
            rename Fr _ _ _ _ => F8
            rename News _ _ _ _ => N8
            have hn16 : ((List.range ((8 * b.size + j) / 6)).map (signC (bitsAll b.toList ++ List.replicate j 0))).length = (8 * b.size + j) / 6 := by rw [List.length_map, List.length_range]
            generalize hcs : (List.range ((8 * b.size + j) / 6)).map (signC (bitsAll b.toList ++ List.replicate j 0)) = cs16 at F8 hn16
            have hLL2 : (bitsAll b.toList ++ List.replicate j (0 : Int)).length = 8 * b.size + j := by rw [List.length_append, bitsAll_len, List.length_replicate, Array.length_toList]
            have e0 : cs16 = cs16 ++ List.replicate 0 61 := by simp
            rw [e0] at F8
            obtain ⟨tk0, htk0⟩ := tok_str F8
            subst htk0
            refine' hold_of (ksw_while (σ := Nat × Tok) (fun _ => news) (fun c => [(Str.ofString "text", .str ⟨(cs16 ++ List.replicate c.1 61).toArray⟩ c.2)]) (fun _ => True) [] (fun c => c.1 ≤ (4 - cs16.length % 4) % 4) (fun c => 4 - c.1) (0, tk0) F8 (fun q hq => N8 q ?hN) trivial ?hk (Nat.zero_le _) ?_)
            case hk => exact List.forall_mem_singleton.mpr (if_pos rfl)
            case hN => repeat (first | exact hq | refine List.Mem.tail _ ?_)
            rintro ⟨j2, tt⟩ u3 h5 tk5 _ hj2 F9 N9
            dsimp only at hj2 F9 N9
            k_steps
            · rename Fr _ _ _ _ => F10
              rename News _ _ _ _ => N10
              rename Int.fmod _ _ ≠ 0 => hne4
              rw [Int.fmod_eq_emod_of_nonneg _ (by omega), List.length_append, List.length_replicate] at hne4
              have e1 : cs16 ++ List.replicate j2 61 ++ [61] = cs16 ++ List.replicate (j2 + 1) 61 := by rw [List.append_assoc, List.replicate_succ']
              rw [e1] at F10
              obtain ⟨tk11, htk11⟩ := tok_str F10
              subst htk11
              refine' ksw_end (j2 + 1, tk11) F10 N10 (fun q hq => hq) trivial ?hk ?hz ?hP ?hm
              case hk => exact List.forall_mem_singleton.mpr (if_pos rfl)
              case hz =>
                intro z hz _
                have hz' := hz _ (List.mem_singleton.mpr rfl)
                show (if z = _ then _ else _) = _
                rw [if_neg hz']
                show (if z = _ then _ else _) = _
                rw [if_neg hz']
                rfl
              case hP => dsimp only; omega
              case hm => dsimp only; omega
            · rename Fr _ _ _ _ => F10
              rename News _ _ _ _ => N10
              rename Int.fmod _ _ = 0 => hz4
              rw [Int.fmod_eq_emod_of_nonneg _ (by omega), List.length_append, List.length_replicate] at hz4
              have hbl : b.toList.length = b.size := Array.length_toList
              have ej : j = (6 - 8 * b.toList.length % 6) % 6 := by omega
              have ep : padBits b.toList = bitsAll b.toList ++ List.replicate j 0 := by unfold padBits; rw [← ej]
              have ec : toldCs b.toList = cs16 := by
                unfold toldCs
                rw [ep, hLL2, hcs]
              have et : toldOf b.toList = cs16 ++ List.replicate j2 61 := by
                unfold toldOf
                rw [ec]
                have : (4 - cs16.length % 4) % 4 = j2 := by omega
                rw [this]
              have key := ret
              rw [et] at key
              exact key _ _ _ F10 N10
            · refine hold_of fun c hc => (List.mem_append.mp hc).elim (fun q => ?_) fun q => ?_
              · rw [← hcs] at q
                obtain ⟨q1, _, rfl⟩ := List.mem_map.mp q
                exact signC_lt _ _
              · rw [(List.mem_replicate.mp q).2]; decide

end
end Mine
end
/-! part C_enc -/
section
open PySem PySem.W PyProof.Rows
namespace Mine
local macro_rules | `(tactic| ktr_enter) => `(tactic| (refine' code_defC ?k1 ?k2 ?k3 ?k4 ?k5 ?kA ?kF ?kK ?k6 ?k7 ?k8 ?k9 ?kB ?kD ?_ ?c2 ?c3 ?c4; (case kA => exact rfl); (case kF => exact rfl); (case kK => assumption); (case k1 => k_asm); (case k2 => k_asm); (case k3 => k_asm); (case k4 => k_asm); (case k5 => k_asm); (case k6 => k_is); (case k7 => k_is); (case k8 => ktr_room); (case k9 => first | exact BindsTo.of_eq rfl | exact binds_K (by k_in) rfl (by k_is) rfl rfl rfl | fail "k_enter: no rule for these arguments"); (case kB => exact rfl); (case kD => decide +kernel); (case c2 => exact rfl); (case c3 => exact rfl); (case c4 => exact rfl); k_whole; intro g' L' h' tk' cells' FG' F' N' Y' B' X' T' l1; (try k_lt l1); k_cells Y'; (try simp only [List.cons_append, List.nil_append] at N'); (try dsimp only); (try k_lift B'); (try k_fold)))
local macro_rules | `(tactic| k_all) => `(tactic| first | assumption | exact all_ne (by assumption) (by omega) | exact all_neA (by assumption) (by omega))
local macro_rules | `(tactic| k_allIn) => `(tactic| first | (refine List.forall_mem_cons.mpr ⟨by k_memK, ?_⟩; k_allIn) | (intro q hq; (repeat (first | exact hq | refine List.Mem.tail _ ?_)); done))

section
variable {w : World} {p : Program} {loose : List Str} {mean : ExcName → Option Value} {mg mb : Str → Option Value} {dp un : Nat} {gd : Option (List Code)} {cn : Str} {cs : Scope} {a : Addr} {ccd : Value} {cl : List (Str × Addr)} {outer : List Env} {A₀ : Around} {base h₀ : Heap} {L : Addr} {m : Str → Option Value} {news : List (Addr × Obj)} {s : Shared}
    {Q E : Value → Shared → Prop}
local macro_rules | `(tactic| walk_at "binaryOp Add str str") => `(tactic| (k_here; (with_reducible show wpAny _ _ (binaryOp Operator.Add (Value.str _ _) (Value.str _ _)) _ _ _); k_dflt (refine' add_SL ?a ?b ?z ?_; (case a => first | exact lit_eq | exact lit_empty | exact rfl); (case b => first | exact lit_eq | exact lit_empty | exact rfl); (case z => ((try simp only [List.length_append, List.length_replicate, List.length_map, List.length_cons, List.length_nil, List.length_take, List.length_drop]); omega)); intro t' tk')))
local macro_rules | `(tactic| walk_at "call builtin:len") => `(tactic| (k_here; (with_reducible show wpAny _ _ (call (Value.builtin "len") [Value.str (Str.mk (List.toArray _)) _]) _ _ _); k_dflt (refine' len_SL ?z ?_; (case z => ((try simp only [List.length_append, List.length_replicate, List.length_map, List.length_cons, List.length_nil, List.length_take, List.length_drop]); omega)); intro t' tk')))
local macro_rules | `(tactic| walk_at "subscriptTail") => `(tactic| (k_here; (with_reducible show wpAny _ _ (subscriptTail _ _ (Value.str _ _) (Value.int _ _)) _ _ _); k_dflt (refine' item_S ?z ?_ ?_ ?b; (case z => first | (exact Nat.le_of_ble_eq_true rfl) | omega); (case b => with_unfolding_all rfl))))
local macro_rules | `(tactic| walk_at "subscriptTail Name BinOp str int") => `(tactic| (k_here; (with_reducible show wpAny _ _ (subscriptTail _ _ (Value.str _ _) (Value.int _ _)) _ _ _); k_dflt (refine' item_S ?z ?_ ?_ ?b; (case z => first | (exact Nat.le_of_ble_eq_true rfl) | omega); (case b => with_unfolding_all rfl))))
local macro_rules | `(tactic| walk_at "call builtin:str.encode") => `(tactic| (k_here; k_dflt (refine' encode_SL ?z ?_ ?_; (case z => ((try simp only [List.length_append, List.length_replicate, List.length_map, List.length_cons, List.length_nil, List.length_take, List.length_drop]); omega)); intro t' tk')))
local macro_rules | `(tactic| walk_at "getMethod") => `(tactic| (k_here; (with_reducible show wpAny _ _ (getMethod _ (PySem.Str.ofString "encode") _) _ _ _); (try dsimp only); k_dflt (refine' meth_encode ?_)))
local macro_rules | `(tactic| walk_at "subscriptTail") => `(tactic| (k_here; (with_reducible show wpAny _ _ (subscriptTail _ (Expr.Slice _ _ none _) (Value.bytes _ _) (Value.ref _)) _ _ _); (with_reducible rename Fr _ _ _ _ => F'); (with_reducible rename News _ _ _ _ => N'); k_dflt (refine' cutB_ij (s := ⟨_, _, _, _, _⟩) F' N' ?a ?z ?_; (case a => (constructor <;> omega)); (case z => ((try simp only [List.length_append, List.length_replicate, List.length_map, List.length_cons, List.length_nil, List.length_take, List.length_drop]); omega)); intro h' t' k' F' N')))
local macro_rules | `(tactic| walk_at "call builtin:len") => `(tactic| (k_here; (with_reducible show wpAny _ _ (call (Value.builtin "len") [Value.bytes (List.toArray _) _]) _ _ _); k_dflt (refine' lenB ?z ?_; (case z => ((try simp only [List.length_append, List.length_replicate, List.length_map, List.length_cons, List.length_nil, List.length_take, List.length_drop]); omega)); intro t' tk')))
local macro_rules | `(tactic| walk_at "binaryOp Add bytes bytes") => `(tactic| (k_here; (with_reducible show wpAny _ _ (binaryOp Operator.Add (Value.bytes (List.toArray _) _) (Value.bytes (List.toArray _) _)) _ _ _); k_dflt (refine' addB ?z ?_; (case z => ((try simp only [List.length_append, List.length_replicate, List.length_map, List.length_cons, List.length_nil, List.length_take, List.length_drop]); omega)); intro t' tk')))
local macro_rules | `(tactic| walk_at "call ref") => `(tactic| (k_here; (with_reducible show wpAny _ _ (call (Value.ref _) [Value.bytes (List.toArray _) _, Value.str _ _]) _ _ _); k_dflt (refine' fromB ?N ?a ?z ?_; (case N => k_asm); (case a => k_mem); (case z => ((try simp only [List.length_append, List.length_replicate, List.length_map, List.length_cons, List.length_nil, List.length_take, List.length_drop]); omega)); intro t' tk')))
local macro_rules | `(tactic| walk_at "subscriptTail") => `(tactic| (k_here; (with_reducible show wpAny _ _ (subscriptTail _ (Expr.Slice none _ none _) (Value.str _ _) (Value.ref _)) _ _ _); (with_reducible rename Fr _ _ _ _ => F'); (with_reducible rename News _ _ _ _ => N'); k_dflt (refine' cutS_j (s := ⟨_, _, _, _, _⟩) F' N' ?a ?z ?_; (case a => ((try simp only [List.length_append, List.length_replicate, List.length_map, List.length_cons, List.length_nil, List.length_take, List.length_drop]); (constructor <;> omega))); (case z => ((try simp only [List.length_append, List.length_replicate, List.length_map, List.length_cons, List.length_nil, List.length_take, List.length_drop]); omega)); intro h' t' k' F' N')))
local macro_rules | `(tactic| walk_at "subscriptTail Name Slice str ref") => `(tactic| (k_here; (with_reducible show wpAny _ _ (subscriptTail _ (Expr.Slice none _ none _) (Value.str _ _) (Value.ref _)) _ _ _); (with_reducible rename Fr _ _ _ _ => F'); (with_reducible rename News _ _ _ _ => N'); k_dflt (refine' cutS_j (s := ⟨_, _, _, _, _⟩) F' N' ?a ?z ?_; (case a => ((try simp only [List.length_append, List.length_replicate, List.length_map, List.length_cons, List.length_nil, List.length_take, List.length_drop]); (constructor <;> omega))); (case z => ((try simp only [List.length_append, List.length_replicate, List.length_map, List.length_cons, List.length_nil, List.length_take, List.length_drop]); omega)); intro h' t' k' F' N')))
local macro_rules | `(tactic| walk_at "binaryOp Mult str int") => `(tactic| (k_here; (with_reducible show wpAny _ _ (binaryOp Operator.Mult (Value.str (Str.ofString "=") _) (Value.int _ _)) _ _ _); k_dflt (refine' mulS ?a ?_; (case a => ((try simp only [List.length_append, List.length_replicate, List.length_map, List.length_cons, List.length_nil, List.length_take, List.length_drop]); (constructor <;> omega))); intro t' tk')))
local macro_rules | `(tactic| walk_at "binaryOp LShift int int") => `(tactic| (k_here; k_dflt (refine' shlS ?_ ?_; intro t' tk')))
local macro_rules | `(tactic| walk_at "pyIter ref") => `(tactic| (refine of_hold ?_))
set_option maxRecDepth 100000 in
set_option maxHeartbeats 8000000 in
theorem enc_does {b : List UInt8} {t : Tok} (B : Below A₀ base outer h₀) (F : Fr h₀ L s.heap m) (X : (hd.heap_39 w.params).In h₀) (N : News h₀ L s.heap news) (T : Top p loose mean mg mb h₀) (hk : cs.kind = .function) (hd : dp + 5 < recursionLimit) (hu : un + 200 < cLine)
    (hb : b.length ≤ 12)
    (ret : ∀ t h' tk', Fr h₀ L h' m → News h₀ L h' news → Q (.bytes (asB (encOf b)).toArray t) { s with heap := h', toks := tk' }) :
    wpAny (model PySem.Challenge.rw_ah6001_01.row.prog w) (ktrTop dp un gd cn cs L a ccd cl outer) (call (.ref 34) [.bytes b.toArray t]) Q E s := by
  revert X; k_fill; intro X
  refine wpAny_call ?_
  k_dflt (refine' code_def ?k1 ?k2 ?k3 ?k4 ?k5 ?kA ?kF ?kK ?k6 ?k7 ?k8 ?k9 ?kB ?_ ?c2 ?c3 ?c4 ?c5; (case kA => exact rfl); (case kF => exact rfl); (case kK => assumption); (case k1 => k_asm); (case k2 => k_asm); (case k3 => k_asm); (case k4 => k_asm); (case k5 => k_asm); (case k6 => k_is); (case k7 => k_is); (case k8 => ktr_room); (case k9 => exact BindsTo.of_eq rfl); (case c5 => decide); (case kB => exact locs rfl); (case c2 => exact rfl); (case c3 => exact rfl); (case c4 => exact rfl))
  intro g1 L1 h1 FG1 F1 N1 B1 X1 T1
  k_steps
  · rename Fr _ _ _ _ => F2
    rename News _ _ _ _ => N2
    rename IsRange _ _ _ _ _ _ _ _ => R2
    rw [lit_empty] at F2
    obtain ⟨tk0, htk0⟩ := tok_str F2
    rw [← htk0] at F2
    have hrange : (b.length + 3 - 1) / 3 ≤ 5 := by omega
    refine hold_of (iterS_range (n := (b.length + 3 - 1) / 3) (σ := Nat × Tok) (fun _ => news) (fun c => [(Str.ofString "out", .str ⟨(encTo b c.1).toArray⟩ c.2)]) [Str.ofString "part", Str.ofString "n", Str.ofString "row"] (fun i c => c.1 = i) (0, tk0) rfl R2 (range_small _ 3 (by omega) (by decide) (by decide)) (range_size _ 3 (by decide)) F2 N2 (List.forall_mem_singleton.mpr (if_pos rfl)) rfl ?_ ?_)
    · rintro i k t ⟨_, c⟩ u h2 tk2 I oI hi hk3 rfl F3 N3 a3
      dsimp only at F3 N3 a3 hi hk3
      rename_i i
      have hel := encTo_len b i
      have e1 : Int.toNat (k + 3) - Int.toNat k = 3 := by omega
      have e2 : Int.toNat k = 3 * i := by omega
      have hpl : ((b.drop (3 * i)).take 3).length ≤ 3 := by rw [List.length_take]; omega
      have al : ((Str.length alpha : Nat) : Int) = 64 := by rw [alpha_len]; rfl
      k_steps
      · rename Fr _ _ _ _ => F4
        rename News _ _ _ _ => N4
        rw [e1, e2] at F4
        obtain ⟨tk4, htk4⟩ := tok_str F4
        rw [← htk4] at F4
        refine TPost_next (i + 1, tk4) F4 N4 ?_ a3 ?_ ?_ rfl
        · k_allIn
        · refine List.forall_mem_singleton.mpr ?_
          rw [encTo_succ, ← List.append_assoc]
          exact if_pos rfl
        · intro z hz1 hz2 hz3
          have q1 : z ≠ Str.ofString "out" := hz2 _ (List.mem_singleton.mpr rfl)
          have q2 : z ≠ Str.ofString "part" ∧ z ≠ Str.ofString "n" ∧ z ≠ Str.ofString "row" := by simpa using hz3
          simp only [kstB, if_neg q1, if_neg hz1, if_neg q2.1, if_neg q2.2.1, if_neg q2.2.2, hz3, Bool.false_eq_true, if_false]
      · refine hold_of ?_
        have := idx_m (valueB ((b.drop (Int.toNat k)).take (Int.toNat (k + 3) - Int.toNat k)) * 2 ^ Int.toNat (8 * (3 - ((((b.drop (Int.toNat k)).take (Int.toNat (k + 3) - Int.toNat k)).length : Nat) : Int))))
        rw [← al] at this; exact this
      · refine hold_of ?_
        have := idx_m (Int.fdiv (valueB ((b.drop (Int.toNat k)).take (Int.toNat (k + 3) - Int.toNat k)) * 2 ^ Int.toNat (8 * (3 - ((((b.drop (Int.toNat k)).take (Int.toNat (k + 3) - Int.toNat k)).length : Nat) : Int)))) 64)
        rw [← al] at this; exact this
      · refine hold_of ?_
        have := idx_m (Int.fdiv (valueB ((b.drop (Int.toNat k)).take (Int.toNat (k + 3) - Int.toNat k)) * 2 ^ Int.toNat (8 * (3 - ((((b.drop (Int.toNat k)).take (Int.toNat (k + 3) - Int.toNat k)).length : Nat) : Int)))) 4096)
        rw [← al] at this; exact this
      · refine hold_of ?_
        have := idx_a (encN_lt (p := ((b.drop (Int.toNat k)).take (Int.toNat (k + 3) - Int.toNat k))) (by rw [e1, e2]; exact hpl))
        rw [← al] at this; exact this
      · refine hold_of ?_
        rw [e1, e2]
        have := valueB_60 hpl
        omega
    · rintro ⟨_, c⟩ u h2 tk2 rfl F3 N3
      dsimp only at F3 N3
      have hel := encTo_len b ((b.length + 3 - 1) / 3)
      k_steps
      · rename Fr _ _ _ _ => F4
        rename News _ _ _ _ => N4
        exact ret _ _ _ F4 N4
      · exact hold_of (encTo_lt _ _)

end
end Mine
end
/-! part C_dec -/
section
open PySem PySem.W PyProof.Rows
namespace Mine
local macro_rules | `(tactic| ktr_enter) => `(tactic| (refine' code_defC ?k1 ?k2 ?k3 ?k4 ?k5 ?kA ?kF ?kK ?k6 ?k7 ?k8 ?k9 ?kB ?kD ?_ ?c2 ?c3 ?c4; (case kA => exact rfl); (case kF => exact rfl); (case kK => assumption); (case k1 => k_asm); (case k2 => k_asm); (case k3 => k_asm); (case k4 => k_asm); (case k5 => k_asm); (case k6 => k_is); (case k7 => k_is); (case k8 => ktr_room); (case k9 => first | exact BindsTo.of_eq rfl | exact binds_K (by k_in) rfl (by k_is) rfl rfl rfl | fail "k_enter: no rule for these arguments"); (case kB => exact rfl); (case kD => decide +kernel); (case c2 => exact rfl); (case c3 => exact rfl); (case c4 => exact rfl); k_whole; intro g' L' h' tk' cells' FG' F' N' Y' B' X' T' l1; (try k_lt l1); k_cells Y'; (try simp only [List.cons_append, List.nil_append] at N'); (try dsimp only); (try k_lift B'); (try k_fold)))
local macro_rules | `(tactic| k_all) => `(tactic| first | assumption | exact all_ne (by assumption) (by omega) | exact all_neA (by assumption) (by omega))
local macro_rules | `(tactic| k_allIn) => `(tactic| first | (refine List.forall_mem_cons.mpr ⟨by k_memK, ?_⟩; k_allIn) | (intro q hq; (repeat (first | exact hq | refine List.Mem.tail _ ?_)); done))

section
variable {w : World} {p : Program} {loose : List Str} {mean : ExcName → Option Value} {mg mb : Str → Option Value} {dp un : Nat} {gd : Option (List Code)} {cn : Str} {cs : Scope} {a : Addr} {ccd : Value} {cl : List (Str × Addr)} {outer : List Env} {A₀ : Around} {base h₀ : Heap} {L : Addr} {m : Str → Option Value} {news : List (Addr × Obj)} {s : Shared}
    {Q E : Value → Shared → Prop}
local macro_rules | `(tactic| walk_at "getMethod") => `(tactic| (k_here; (with_reducible show wpAny _ _ (getMethod _ (PySem.Str.ofString "rstrip") _) _ _ _); (try dsimp only); k_dflt (refine' meth_rstrip ?_)))
local macro_rules | `(tactic| walk_at "call builtin:bytes.rstrip") => `(tactic| (k_here; k_dflt (refine' rstripB ?z ?_; (case z => ((try simp only [List.length_append, List.length_replicate, List.length_map, List.length_cons, List.length_nil, List.length_take, List.length_drop]); omega)); intro t' tk')))
local macro_rules | `(tactic| walk_at "call builtin:len") => `(tactic| (k_here; (with_reducible show wpAny _ _ (call (Value.builtin "len") [Value.bytes (List.toArray _) _]) _ _ _); k_dflt (refine' lenB ?z ?_; (case z => ((try simp only [List.length_append, List.length_replicate, List.length_map, List.length_cons, List.length_nil, List.length_take, List.length_drop]); omega)); intro t' tk')))
local macro_rules | `(tactic| walk_at "subscriptTail") => `(tactic| (k_here; (with_reducible show wpAny _ _ (subscriptTail _ (Expr.Slice _ _ none _) (Value.bytes _ _) (Value.ref _)) _ _ _); (with_reducible rename Fr _ _ _ _ => F'); (with_reducible rename News _ _ _ _ => N'); k_dflt (refine' cutB_ij (s := ⟨_, _, _, _, _⟩) F' N' ?a ?z ?_; (case a => (constructor <;> omega)); (case z => ((try simp only [List.length_append, List.length_replicate, List.length_map, List.length_cons, List.length_nil, List.length_take, List.length_drop]); omega)); intro h' t' k' F' N')))
local macro_rules | `(tactic| walk_at "subscriptTail") => `(tactic| (k_here; (with_reducible show wpAny _ _ (subscriptTail _ (Expr.Slice none _ none _) (Value.bytes _ _) (Value.ref _)) _ _ _); (with_reducible rename Fr _ _ _ _ => F'); (with_reducible rename News _ _ _ _ => N'); k_dflt (refine' cutB_j (s := ⟨_, _, _, _, _⟩) F' N' ?a ?z ?_; (case a => ((try simp only [List.length_append, List.length_replicate, List.length_map, List.length_cons, List.length_nil, List.length_take, List.length_drop]); omega)); (case z => first | ((try simp only [List.length_append, List.length_replicate, List.length_map, List.length_cons, List.length_nil, List.length_take, List.length_drop]); omega) | exact (show (3 : Nat) ≤ 65536 from by decide)); intro h' t' k' F' N')))
local macro_rules | `(tactic| walk_at "binaryOp Add bytes bytes") => `(tactic| (k_here; (with_reducible show wpAny _ _ (binaryOp Operator.Add (Value.bytes (List.toArray _) _) (Value.bytes (List.toArray _) _)) _ _ _); k_dflt (refine' addB ?z ?_; (case z => ((try simp only [List.length_append, List.length_replicate, List.length_map, List.length_cons, List.length_nil, List.length_take, List.length_drop]); omega)); intro t' tk')))
local macro_rules | `(tactic| walk_at "binaryOp LShift int int") => `(tactic| (k_here; k_dflt (refine' shlS ?_ ?_; intro t' tk')))
local macro_rules | `(tactic| walk_at "call builtin:chr") => `(tactic| (k_here; k_dflt (refine' chrB ?_; intro t' tk')))
local macro_rules | `(tactic| walk_at "call builtin:str.find") => `(tactic| (k_here; k_dflt (refine' findA ?_; intro t' tk')))
local macro_rules | `(tactic| walk_at "call builtin:int.to_bytes") => `(tactic| (k_here; k_dflt (refine' toB3 ?_ ?_; intro t' tk')))
local macro_rules | `(tactic| walk_at "exec Raise some none") => `(tactic| (k_here; (with_reducible show wpAny _ _ (exec (Stmt.Raise (some (Expr.Name _ _)) none _) _) _ _ _); k_dflt (refine' Raise_ownC ?F ?g ?O PySem.F.excBase_ValueError ?h ?_ ?c ?d ?e; (case F => k_asm); (case g => exact TopRead.g (by k_asm)); (case O => exact own_of_in (by k_asm) (by k_asm) (by k_is) (by k_exc)); (case h => first | rfl | assumption); (case c => rfl); (case d => rfl); (case e => decide); k_whole)))
local macro_rules | `(tactic| walk_at "leaving ref") => `(tactic| (k_here; k_dflt (refine' leave_raiseS ?k1 ?k0 ?k2 ?k3 ?_; (case k0 => first | assumption | exact Heap.MadeExc.of (by assumption)); (case k2 => assumption); (case k1 => assumption); (case k3 => k_asm); k_whole; intro h' t' S' R' U'; (try dsimp only at S' R' U' ⊢))))
theorem RaisedS_less {base G : Heap} {l : List Env} {e : Addr} {cls : Value} {t : Addr} {vs : List Value} {news news' : List (Addr × Obj)} {h : Heap} (R : RaisedS base G l e cls t vs news' h) (hn : ∀ q ∈ news, q ∈ news') : RaisedS base G l e cls t vs news h := by
  obtain ⟨⟨B, hB, hBG, hl, hfl, hnew⟩, htup⟩ := R
  exact ⟨⟨B, hB, hBG, fun q hq => hl q (hn q hq), hfl, hnew⟩, htup⟩
local macro_rules | `(tactic| walk_at "pyIter ref") => `(tactic| (refine of_hold ?_))
local macro_rules | `(tactic| walk_at "pyIter bytes") => `(tactic| (refine of_hold ?_))
set_option maxRecDepth 100000 in
set_option maxHeartbeats 8000000 in
theorem dec_does {b : List UInt8} {t : Tok} (B : Below A₀ base outer h₀) (F : Fr h₀ L s.heap m) (X : (hd.heap_39 w.params).In h₀) (N : News h₀ L s.heap news) (T : Top p loose mean mg mb h₀) (hk : cs.kind = .function) (hd : dp + 5 < recursionLimit) (hu : un + 200 < cLine)
    (hb : b.length ≤ 16)
    (ret : ∀ t h' tk', goodB b → Fr h₀ L h' m → News h₀ L h' news → Q (.bytes (decOf b).toArray t) { s with heap := h', toks := tk' })
    (raised : ∀ G e t h' tk', ¬ goodB b → Fr h₀ L G m → RaisedS base G (envX cn cs L a ccd cl :: outer) e (.ref 24) t [] news h' → G.UpToSlots h' → E (.ref e) { s with heap := h', toks := tk' }) :
    wpAny (model PySem.Challenge.rw_ah6001_01.row.prog w) (ktrTop dp un gd cn cs L a ccd cl outer) (call (.ref 42) [.bytes b.toArray t]) Q E s := by
  have hbl := bare_len b
  revert X; k_fill; intro X
  refine wpAny_call ?_
  k_dflt (refine' code_def ?k1 ?k2 ?k3 ?k4 ?k5 ?kA ?kF ?kK ?k6 ?k7 ?k8 ?k9 ?kB ?_ ?c2 ?c3 ?c4 ?c5; (case kA => exact rfl); (case kF => exact rfl); (case kK => assumption); (case k1 => k_asm); (case k2 => k_asm); (case k3 => k_asm); (case k4 => k_asm); (case k5 => k_asm); (case k6 => k_is); (case k7 => k_is); (case k8 => ktr_room); (case k9 => exact binds_K (by k_in) rfl (by k_is) rfl rfl rfl); (case c5 => decide); (case kB => exact locs rfl); (case c2 => exact rfl); (case c3 => exact rfl); (case c4 => exact rfl))
  intro g1 L1 h1 FG1 F1 N1 B1 X1 T1
  k_steps
  · rename RaisedS _ _ _ _ _ _ _ _ _ => R2
    rename Heap.UpToSlots g1 _ => U2
    refine raised _ _ _ _ _ ?_ FG1 R2 U2
    rintro ⟨q1, _⟩
    rename Int.fmod _ 4 ≠ 0 => q2
    rw [Int.fmod_eq_emod_of_nonneg _ (by decide)] at q2
    omega
  · rename RaisedS _ _ _ _ _ _ _ _ _ => R2
    rename Heap.UpToSlots g1 _ => U2
    refine raised _ _ _ _ _ ?_ FG1 R2 U2
    rintro ⟨_, q1, _⟩
    omega
  · rename Fr _ _ _ _ => F2
    rename News _ _ _ _ => N2
    rename IsRange _ _ _ _ _ _ _ _ => R2
    rename Int.fmod _ 4 = 0 => q2
    rw [Int.fmod_eq_emod_of_nonneg _ (by decide)] at q2
    obtain ⟨tk0, htk0⟩ := tok_bytes F2
    rw [← htk0] at F2
    have hrange : chunksOf (bare b) ≤ 4 := by unfold chunksOf; omega
    refine hold_of (iterS_range (n := chunksOf (bare b)) (σ := List UInt8 × Tok) (fun _ => news) (fun c => [(Str.ofString "out", .bytes c.1.toArray c.2)]) [Str.ofString "part", Str.ofString "n", Str.ofString "place", Str.ofString "x"] (fun i c => c.1 = decTo (bare b) i ∧ ∀ x ∈ (bare b).take (4 * i), goodC x) ([], tk0) rfl R2 (range_small _ 4 (by omega) (by decide) (by decide)) (range_size _ 4 (by decide)) F2 N2 (List.forall_mem_singleton.mpr (if_pos rfl)) ⟨rfl, by simp⟩ ?_ ?_)
    · rintro i k t ⟨_, c⟩ u h2 tk2 I oI hi hk3 ⟨rfl, hg⟩ F3 N3 a3
      dsimp only at F3 N3 a3 hi hk3 hg
      rename_i i
      have hel := decTo_len (bare b) i
      have e1 : Int.toNat (k + 4) - Int.toNat k = 4 := by omega
      have e2 : Int.toNat k = 4 * i := by omega
      have hpl : ((bare b).drop (4 * i)).take 4 = ((bare b).drop (Int.toNat k)).take (Int.toNat (k + 4) - Int.toNat k) := by rw [e1, e2]
      generalize hpart : ((bare b).drop (Int.toNat k)).take (Int.toNat (k + 4) - Int.toNat k) = part at hpl
      have hp4 : part.length ≤ 4 := by rw [← hpl, List.length_take]; omega
      have hp1 : 1 ≤ part.length := by rw [← hpl, List.length_take, List.length_drop]; unfold chunksOf at hi; omega
      k_steps
      rw [hpart]
      rename Fr _ _ _ _ => F4
      rename News _ _ _ _ => N4
      rw [hpart] at F4
      obtain ⟨tk4, htk4⟩ := tok_int F4
      rw [← htk4] at F4
      refine hold_of (iterS_bytes (σ := Int × Tok) (fun _ => (I, oI) :: news) (fun c => [(Str.ofString "n", .int c.1 c.2)]) [Str.ofString "place"] (fun i c => c.1 = nOf (part.take i) ∧ ∀ x ∈ part.take i, goodC x) (0, tk4) rfl F4 N4 (List.forall_mem_singleton.mpr (if_pos rfl)) ⟨rfl, by simp⟩ ?_ ?_)
      · rintro j n t ⟨_, c'⟩ u' h3 tk3 I' oI' hj ⟨rfl, hg'⟩ F5 N5 a5
        dsimp only at F5 N5 a5 hg'
        have hj' : part[j]? = some n := by simpa using hj
        have hjm : n ∈ bare b := by
          have h1 := List.mem_of_getElem? hj'
          rw [← hpl] at h1
          exact List.mem_of_mem_drop (List.mem_of_mem_take h1)
        k_steps
        · rename RaisedS _ _ _ _ _ _ _ _ _ => R6
          rename Heap.UpToSlots g1 _ => U6
          refine raised _ _ _ _ _ ?_ FG1 (RaisedS_less R6 ?_) U6
          · rintro ⟨_, _, q3⟩
            have q4 : 0 ≤ placeC n.toNat := q3 n hjm
            omega
          · k_allIn
        · rename Fr _ _ _ _ => F6
          rename News _ _ _ _ => N6
          obtain ⟨tk6, htk6⟩ := tok_int F6
          rw [← htk6] at F6
          refine TPost_next (nOf (part.take j) * 64 + placeC n.toNat, tk6) F6 N6 ?_ a5 ?_ ?_ ?_
          · k_allIn
          · exact List.forall_mem_singleton.mpr (if_pos rfl)
          · intro z hz1 hz2 hz3
            have q1 : z ≠ Str.ofString "n" := hz2 _ (List.mem_singleton.mpr rfl)
            have q2 : z ≠ Str.ofString "place" := by simpa using hz3
            simp only [kstB, if_neg q1, if_neg hz1, if_neg q2, hz3, Bool.false_eq_true, if_false]
          · have e6 : part.take (j + 1) = part.take j ++ [n] := by rw [List.take_add_one, hj']; rfl
            rw [e6]
            refine ⟨(nOf_snoc _ _).symm, fun x hx => ?_⟩
            rcases List.mem_append.mp hx with hx | hx
            · exact hg' x hx
            · rw [List.mem_singleton.mp hx]; show 0 ≤ placeC n.toNat; omega
      · rintro ⟨_, c'⟩ u' h3 tk3 ⟨rfl, hg'⟩ F5 N5
        dsimp only at F5 N5 hg'
        rw [List.size_toArray, List.take_length] at F5 hg'
        have hn4 := decN_lt hg' hp4
        have hn5 := nOf_60 hg' hp4
        k_steps
        · rename Fr _ _ _ _ => F6
          rename News _ _ _ _ => N6
          obtain ⟨tk6, htk6⟩ := tok_bytes F6
          rw [← htk6] at F6
          refine TPost_next (decTo (bare b) i ++ decRow part, tk6) F6 N6 ?_ a3 ?_ ?_ ?_
          · k_allIn
          · exact List.forall_mem_singleton.mpr (if_pos rfl)
          · intro z hz1 hz2 hz3
            have q1 : z ≠ Str.ofString "out" := hz2 _ (List.mem_singleton.mpr rfl)
            have q2 : z ≠ Str.ofString "part" ∧ z ≠ Str.ofString "n" ∧ z ≠ Str.ofString "place" ∧ z ≠ Str.ofString "x" := by simpa using hz3
            have q5 : [Str.ofString "place"].contains z = false := by simpa using q2.2.2.1
            simp only [kstB, if_neg q1, if_neg hz1, if_neg q2.1, if_neg q2.2.1, if_neg q2.2.2.2, hz3, q5, Bool.false_eq_true, if_false]
          · refine ⟨?_, ?_⟩
            · show decTo (bare b) i ++ decRow part = _
              rw [decTo_succ, hpl]
            · intro x hx
              have e7 : (bare b).take (4 * (i + 1)) = (bare b).take (4 * i) ++ part := by
                rw [← hpl, ← List.take_add]; rfl
              rw [e7] at hx
              rcases List.mem_append.mp hx with hx | hx
              · exact hg x hx
              · exact hg' x hx
        · exact hold_of hn4
        · refine hold_of ?_
          omega
    · rintro ⟨_, c⟩ u h2 tk2 ⟨rfl, hg⟩ F3 N3
      dsimp only at F3 N3 hg
      k_steps
      rename Fr _ _ _ _ => F4
      rename News _ _ _ _ => N4
      refine ret _ _ _ ⟨by omega, by omega, ?_⟩ F4 N4
      rw [List.take_of_length_le (by unfold chunksOf; omega)] at hg
      exact hg

end
end Mine
end
/-! part C_deck -/
section
open PySem PySem.W PyProof.Rows
namespace Mine
local macro_rules | `(tactic| ktr_enter) => `(tactic| (refine' code_defC ?k1 ?k2 ?k3 ?k4 ?k5 ?kA ?kF ?kK ?k6 ?k7 ?k8 ?k9 ?kB ?kD ?_ ?c2 ?c3 ?c4; (case kA => exact rfl); (case kF => exact rfl); (case kK => assumption); (case k1 => k_asm); (case k2 => k_asm); (case k3 => k_asm); (case k4 => k_asm); (case k5 => k_asm); (case k6 => k_is); (case k7 => k_is); (case k8 => ktr_room); (case k9 => first | exact BindsTo.of_eq rfl | exact binds_K (by k_in) rfl (by k_is) rfl rfl rfl | fail "k_enter: no rule for these arguments"); (case kB => exact rfl); (case kD => decide +kernel); (case c2 => exact rfl); (case c3 => exact rfl); (case c4 => exact rfl); k_whole; intro g' L' h' tk' cells' FG' F' N' Y' B' X' T' l1; (try k_lt l1); k_cells Y'; (try simp only [List.cons_append, List.nil_append] at N'); (try dsimp only); (try k_lift B'); (try k_fold)))
local macro_rules | `(tactic| k_all) => `(tactic| first | assumption | exact all_ne (by assumption) (by omega) | exact all_neA (by assumption) (by omega))
local macro_rules | `(tactic| k_allIn) => `(tactic| first | (refine List.forall_mem_cons.mpr ⟨by k_memK, ?_⟩; k_allIn) | (intro q hq; (repeat (first | exact hq | refine List.Mem.tail _ ?_)); done))

section
variable {w : World} {p : Program} {loose : List Str} {mean : ExcName → Option Value} {mg mb : Str → Option Value} {dp un : Nat} {gd : Option (List Code)} {cn : Str} {cs : Scope} {a : Addr} {ccd : Value} {cl : List (Str × Addr)} {outer : List Env} {A₀ : Around} {base h₀ : Heap} {L : Addr} {m : Str → Option Value} {news : List (Addr × Obj)} {s : Shared}
    {Q E : Value → Shared → Prop}
local macro_rules | `(tactic| walk_at "getMethod") => `(tactic| (k_here; (with_reducible show wpAny _ _ (getMethod _ (PySem.Str.ofString "rstrip") _) _ _ _); (try dsimp only); k_dflt (refine' meth_rstrip ?_)))
local macro_rules | `(tactic| walk_at "call builtin:bytes.rstrip") => `(tactic| (k_here; k_dflt (refine' rstripB ?z ?_; (case z => ((try simp only [List.length_append, List.length_replicate, List.length_map, List.length_cons, List.length_nil, List.length_take, List.length_drop]); omega)); intro t' tk')))
local macro_rules | `(tactic| walk_at "call builtin:len") => `(tactic| (k_here; (with_reducible show wpAny _ _ (call (Value.builtin "len") [Value.bytes (List.toArray _) _]) _ _ _); k_dflt (refine' lenB ?z ?_; (case z => ((try simp only [List.length_append, List.length_replicate, List.length_map, List.length_cons, List.length_nil, List.length_take, List.length_drop]); omega)); intro t' tk')))
local macro_rules | `(tactic| walk_at "subscriptTail") => `(tactic| (k_here; (with_reducible show wpAny _ _ (subscriptTail _ (Expr.Slice _ _ none _) (Value.bytes _ _) (Value.ref _)) _ _ _); (with_reducible rename Fr _ _ _ _ => F'); (with_reducible rename News _ _ _ _ => N'); k_dflt (refine' cutB_ij (s := ⟨_, _, _, _, _⟩) F' N' ?a ?z ?_; (case a => (constructor <;> omega)); (case z => ((try simp only [List.length_append, List.length_replicate, List.length_map, List.length_cons, List.length_nil, List.length_take, List.length_drop]); omega)); intro h' t' k' F' N')))
local macro_rules | `(tactic| walk_at "subscriptTail") => `(tactic| (k_here; (with_reducible show wpAny _ _ (subscriptTail _ (Expr.Slice none _ none _) (Value.bytes _ _) (Value.ref _)) _ _ _); (with_reducible rename Fr _ _ _ _ => F'); (with_reducible rename News _ _ _ _ => N'); k_dflt (refine' cutB_j (s := ⟨_, _, _, _, _⟩) F' N' ?a ?z ?_; (case a => ((try simp only [List.length_append, List.length_replicate, List.length_map, List.length_cons, List.length_nil, List.length_take, List.length_drop]); omega)); (case z => first | ((try simp only [List.length_append, List.length_replicate, List.length_map, List.length_cons, List.length_nil, List.length_take, List.length_drop]); omega) | exact (show (3 : Nat) ≤ 65536 from by decide)); intro h' t' k' F' N')))
local macro_rules | `(tactic| walk_at "binaryOp Add bytes bytes") => `(tactic| (k_here; (with_reducible show wpAny _ _ (binaryOp Operator.Add (Value.bytes (List.toArray _) _) (Value.bytes (List.toArray _) _)) _ _ _); k_dflt (refine' addB ?z ?_; (case z => ((try simp only [List.length_append, List.length_replicate, List.length_map, List.length_cons, List.length_nil, List.length_take, List.length_drop]); omega)); intro t' tk')))
local macro_rules | `(tactic| walk_at "binaryOp LShift int int") => `(tactic| (k_here; k_dflt (refine' shlS ?_ ?_; intro t' tk')))
local macro_rules | `(tactic| walk_at "call builtin:chr") => `(tactic| (k_here; k_dflt (refine' chrB ?_; intro t' tk')))
local macro_rules | `(tactic| walk_at "call builtin:str.find") => `(tactic| (k_here; k_dflt (refine' findA ?_; intro t' tk')))
local macro_rules | `(tactic| walk_at "call builtin:int.to_bytes") => `(tactic| (k_here; k_dflt (refine' toB3 ?_ ?_; intro t' tk')))
local macro_rules | `(tactic| walk_at "exec Raise some none") => `(tactic| (k_here; (with_reducible show wpAny _ _ (exec (Stmt.Raise (some (Expr.Name _ _)) none _) _) _ _ _); k_dflt (refine' Raise_ownC ?F ?g ?O PySem.F.excBase_ValueError ?h ?_ ?c ?d ?e; (case F => k_asm); (case g => exact TopRead.g (by k_asm)); (case O => exact own_of_in (by k_asm) (by k_asm) (by k_is) (by k_exc)); (case h => first | rfl | assumption); (case c => rfl); (case d => rfl); (case e => decide); k_whole)))
local macro_rules | `(tactic| walk_at "leaving ref") => `(tactic| (k_here; k_dflt (refine' leave_raiseS ?k1 ?k0 ?k2 ?k3 ?_; (case k0 => first | assumption | exact Heap.MadeExc.of (by assumption)); (case k2 => assumption); (case k1 => assumption); (case k3 => k_asm); k_whole; intro h' t' S' R' U'; (try dsimp only at S' R' U' ⊢))))
local macro_rules | `(tactic| walk_at "pyIter ref") => `(tactic| (refine of_hold ?_))
local macro_rules | `(tactic| walk_at "pyIter bytes") => `(tactic| (refine of_hold ?_))
set_option maxRecDepth 100000 in
set_option maxHeartbeats 8000000 in
theorem deck_does {b : List UInt8} {t : Tok} (B : Below A₀ base outer h₀) (F : Fr h₀ L s.heap m) (X : (hd.heap_39 w.params).In h₀) (N : News h₀ L s.heap news) (T : Top p loose mean mg mb h₀) (hk : cs.kind = .function) (hd : dp + 5 < recursionLimit) (hu : un + 200 < cLine)
    (hb : b.length ≤ 16)
    (ret : ∀ t h' tk', goodB b → Fr h₀ L h' m → News h₀ L h' news → Q (.bytes (decOf b).toArray t) { s with heap := h', toks := tk' })
    (raised : ∀ G e t h' tk', ¬ goodB b → Fr h₀ L G m → RaisedS base G (envX cn cs L a ccd cl :: outer) e (.ref 24) t [] news h' → G.UpToSlots h' → E (.ref e) { s with heap := h', toks := tk' }) :
    wpAny (model PySem.Challenge.rw_ah6001_01.row.prog w) (ktrTop dp un gd cn cs L a ccd cl outer) (call (.ref 42) [.bytes b.toArray t] [(Str.ofString "validate", .bool true)]) Q E s := by
  have hbl := bare_len b
  revert X; k_fill; intro X
  refine wpAny_call ?_
  k_dflt (refine' code_def ?k1 ?k2 ?k3 ?k4 ?k5 ?kA ?kF ?kK ?k6 ?k7 ?k8 ?k9 ?kB ?_ ?c2 ?c3 ?c4 ?c5; (case kA => exact rfl); (case kF => exact rfl); (case kK => assumption); (case k1 => k_asm); (case k2 => k_asm); (case k3 => k_asm); (case k4 => k_asm); (case k5 => k_asm); (case k6 => k_is); (case k7 => k_is); (case k8 => ktr_room); (case k9 => exact binds_K (by k_in) rfl (by k_is) rfl rfl rfl); (case c5 => decide); (case kB => exact locs rfl); (case c2 => exact rfl); (case c3 => exact rfl); (case c4 => exact rfl))
  intro g1 L1 h1 FG1 F1 N1 B1 X1 T1
  k_steps
  · rename RaisedS _ _ _ _ _ _ _ _ _ => R2
    rename Heap.UpToSlots g1 _ => U2
    refine raised _ _ _ _ _ ?_ FG1 R2 U2
    rintro ⟨q1, _⟩
    rename Int.fmod _ 4 ≠ 0 => q2
    rw [Int.fmod_eq_emod_of_nonneg _ (by decide)] at q2
    omega
  · rename RaisedS _ _ _ _ _ _ _ _ _ => R2
    rename Heap.UpToSlots g1 _ => U2
    refine raised _ _ _ _ _ ?_ FG1 R2 U2
    rintro ⟨_, q1, _⟩
    omega
  · rename Fr _ _ _ _ => F2
    rename News _ _ _ _ => N2
    rename IsRange _ _ _ _ _ _ _ _ => R2
    rename Int.fmod _ 4 = 0 => q2
    rw [Int.fmod_eq_emod_of_nonneg _ (by decide)] at q2
    obtain ⟨tk0, htk0⟩ := tok_bytes F2
    rw [← htk0] at F2
    have hrange : chunksOf (bare b) ≤ 4 := by unfold chunksOf; omega
    refine hold_of (iterS_range (n := chunksOf (bare b)) (σ := List UInt8 × Tok) (fun _ => news) (fun c => [(Str.ofString "out", .bytes c.1.toArray c.2)]) [Str.ofString "part", Str.ofString "n", Str.ofString "place", Str.ofString "x"] (fun i c => c.1 = decTo (bare b) i ∧ ∀ x ∈ (bare b).take (4 * i), goodC x) ([], tk0) rfl R2 (range_small _ 4 (by omega) (by decide) (by decide)) (range_size _ 4 (by decide)) F2 N2 (List.forall_mem_singleton.mpr (if_pos rfl)) ⟨rfl, by simp⟩ ?_ ?_)
    · rintro i k t ⟨_, c⟩ u h2 tk2 I oI hi hk3 ⟨rfl, hg⟩ F3 N3 a3
      dsimp only at F3 N3 a3 hi hk3 hg
      rename_i i
      have hel := decTo_len (bare b) i
      have e1 : Int.toNat (k + 4) - Int.toNat k = 4 := by omega
      have e2 : Int.toNat k = 4 * i := by omega
      have hpl : ((bare b).drop (4 * i)).take 4 = ((bare b).drop (Int.toNat k)).take (Int.toNat (k + 4) - Int.toNat k) := by rw [e1, e2]
      generalize hpart : ((bare b).drop (Int.toNat k)).take (Int.toNat (k + 4) - Int.toNat k) = part at hpl
      have hp4 : part.length ≤ 4 := by rw [← hpl, List.length_take]; omega
      have hp1 : 1 ≤ part.length := by rw [← hpl, List.length_take, List.length_drop]; unfold chunksOf at hi; omega
      k_steps
      rw [hpart]
      rename Fr _ _ _ _ => F4
      rename News _ _ _ _ => N4
      rw [hpart] at F4
      obtain ⟨tk4, htk4⟩ := tok_int F4
      rw [← htk4] at F4
      refine hold_of (iterS_bytes (σ := Int × Tok) (fun _ => (I, oI) :: news) (fun c => [(Str.ofString "n", .int c.1 c.2)]) [Str.ofString "place"] (fun i c => c.1 = nOf (part.take i) ∧ ∀ x ∈ part.take i, goodC x) (0, tk4) rfl F4 N4 (List.forall_mem_singleton.mpr (if_pos rfl)) ⟨rfl, by simp⟩ ?_ ?_)
      · rintro j n t ⟨_, c'⟩ u' h3 tk3 I' oI' hj ⟨rfl, hg'⟩ F5 N5 a5
        dsimp only at F5 N5 a5 hg'
        have hj' : part[j]? = some n := by simpa using hj
        have hjm : n ∈ bare b := by
          have h1 := List.mem_of_getElem? hj'
          rw [← hpl] at h1
          exact List.mem_of_mem_drop (List.mem_of_mem_take h1)
        k_steps
        · rename RaisedS _ _ _ _ _ _ _ _ _ => R6
          rename Heap.UpToSlots g1 _ => U6
          refine raised _ _ _ _ _ ?_ FG1 (RaisedS_less R6 ?_) U6
          · rintro ⟨_, _, q3⟩
            have q4 : 0 ≤ placeC n.toNat := q3 n hjm
            omega
          · k_allIn
        · rename Fr _ _ _ _ => F6
          rename News _ _ _ _ => N6
          obtain ⟨tk6, htk6⟩ := tok_int F6
          rw [← htk6] at F6
          refine TPost_next (nOf (part.take j) * 64 + placeC n.toNat, tk6) F6 N6 ?_ a5 ?_ ?_ ?_
          · k_allIn
          · exact List.forall_mem_singleton.mpr (if_pos rfl)
          · intro z hz1 hz2 hz3
            have q1 : z ≠ Str.ofString "n" := hz2 _ (List.mem_singleton.mpr rfl)
            have q2 : z ≠ Str.ofString "place" := by simpa using hz3
            simp only [kstB, if_neg q1, if_neg hz1, if_neg q2, hz3, Bool.false_eq_true, if_false]
          · have e6 : part.take (j + 1) = part.take j ++ [n] := by rw [List.take_add_one, hj']; rfl
            rw [e6]
            refine ⟨(nOf_snoc _ _).symm, fun x hx => ?_⟩
            rcases List.mem_append.mp hx with hx | hx
            · exact hg' x hx
            · rw [List.mem_singleton.mp hx]; show 0 ≤ placeC n.toNat; omega
      · rintro ⟨_, c'⟩ u' h3 tk3 ⟨rfl, hg'⟩ F5 N5
        dsimp only at F5 N5 hg'
        rw [List.size_toArray, List.take_length] at F5 hg'
        have hn4 := decN_lt hg' hp4
        have hn5 := nOf_60 hg' hp4
        k_steps
        · rename Fr _ _ _ _ => F6
          rename News _ _ _ _ => N6
          obtain ⟨tk6, htk6⟩ := tok_bytes F6
          rw [← htk6] at F6
          refine TPost_next (decTo (bare b) i ++ decRow part, tk6) F6 N6 ?_ a3 ?_ ?_ ?_
          · k_allIn
          · exact List.forall_mem_singleton.mpr (if_pos rfl)
          · intro z hz1 hz2 hz3
            have q1 : z ≠ Str.ofString "out" := hz2 _ (List.mem_singleton.mpr rfl)
            have q2 : z ≠ Str.ofString "part" ∧ z ≠ Str.ofString "n" ∧ z ≠ Str.ofString "place" ∧ z ≠ Str.ofString "x" := by simpa using hz3
            have q5 : [Str.ofString "place"].contains z = false := by simpa using q2.2.2.1
            simp only [kstB, if_neg q1, if_neg hz1, if_neg q2.1, if_neg q2.2.1, if_neg q2.2.2.2, hz3, q5, Bool.false_eq_true, if_false]
          · refine ⟨?_, ?_⟩
            · show decTo (bare b) i ++ decRow part = _
              rw [decTo_succ, hpl]
            · intro x hx
              have e7 : (bare b).take (4 * (i + 1)) = (bare b).take (4 * i) ++ part := by
                rw [← hpl, ← List.take_add]; rfl
              rw [e7] at hx
              rcases List.mem_append.mp hx with hx | hx
              · exact hg x hx
              · exact hg' x hx
        · exact hold_of hn4
        · refine hold_of ?_
          omega
    · rintro ⟨_, c⟩ u h2 tk2 ⟨rfl, hg⟩ F3 N3
      dsimp only at F3 N3 hg
      k_steps
      rename Fr _ _ _ _ => F4
      rename News _ _ _ _ => N4
      refine ret _ _ _ ⟨by omega, by omega, ?_⟩ F4 N4
      rw [List.take_of_length_le (by unfold chunksOf; omega)] at hg
      exact hg

end
end Mine
end
/-! part C_read -/
section
open PySem PySem.W PyProof.Rows
namespace Mine
local macro_rules | `(tactic| ktr_enter) => `(tactic| (refine' code_defC ?k1 ?k2 ?k3 ?k4 ?k5 ?kA ?kF ?kK ?k6 ?k7 ?k8 ?k9 ?kB ?kD ?_ ?c2 ?c3 ?c4; (case kA => exact rfl); (case kF => exact rfl); (case kK => assumption); (case k1 => k_asm); (case k2 => k_asm); (case k3 => k_asm); (case k4 => k_asm); (case k5 => k_asm); (case k6 => k_is); (case k7 => k_is); (case k8 => ktr_room); (case k9 => first | exact BindsTo.of_eq rfl | exact binds_K (by k_in) rfl (by k_is) rfl rfl rfl | fail "k_enter: no rule for these arguments"); (case kB => exact rfl); (case kD => decide +kernel); (case c2 => exact rfl); (case c3 => exact rfl); (case c4 => exact rfl); k_whole; intro g' L' h' tk' cells' FG' F' N' Y' B' X' T' l1; (try k_lt l1); k_cells Y'; (try simp only [List.cons_append, List.nil_append] at N'); (try dsimp only); (try k_lift B'); (try k_fold)))
local macro_rules | `(tactic| k_all) => `(tactic| first | assumption | exact all_ne (by assumption) (by omega) | exact all_neA (by assumption) (by omega))
local macro_rules | `(tactic| k_allIn) => `(tactic| first | (refine List.forall_mem_cons.mpr ⟨by k_memK, ?_⟩; k_allIn) | (intro q hq; (repeat (first | exact hq | refine List.Mem.tail _ ?_)); done))

section
variable {w : World} {p : Program} {loose : List Str} {mean : ExcName → Option Value} {mg mb : Str → Option Value} {dp un : Nat} {gd : Option (List Code)} {cn : Str} {cs : Scope} {a : Addr} {ccd : Value} {cl : List (Str × Addr)} {outer : List Env} {A₀ : Around} {base h₀ : Heap} {L : Addr} {m : Str → Option Value} {news : List (Addr × Obj)} {s : Shared}
    {Q E : Value → Shared → Prop}
local macro_rules | `(tactic| walk_at "call builtin:str.encode") => `(tactic| (k_here; k_dflt (refine' encode_SL ?z ?_ ?_; (case z => ((try simp only [List.length_append, List.length_replicate, List.length_map, List.length_cons, List.length_nil, List.length_take, List.length_drop]); omega)); intro t' tk')))
local macro_rules | `(tactic| walk_at "getMethod") => `(tactic| (k_here; (with_reducible show wpAny _ _ (getMethod _ (PySem.Str.ofString "encode") _) _ _ _); (try dsimp only); k_dflt (refine' meth_encode ?_)))
local macro_rules | `(tactic| walk_at "call ref") => `(tactic| (k_here; k_dflt (refine' dec_does ?B ?F ?X ?N ?T ?hk ?hd ?hu ?z (fun t' h' tk' hG' F' N' => ?_) (fun G' e' t' h' tk' hG' FG' R' U' => ?_); (case B => k_asm); (case F => k_asm); (case X => k_asm); (case N => k_asm); (case T => k_asm); (case hk => first | exact rfl | assumption); (case hd => ktr_room); (case hu => ktr_units); (case z => ((try unfold asB); (try simp only [List.length_map]); omega)))))
set_option maxRecDepth 100000 in
set_option maxHeartbeats 8000000 in
theorem read_does {l : List Nat} {t : Tok} (B : Below A₀ base [] h₀) (F : Fr h₀ L s.heap m) (X : (hd.heap_39 w.params).In h₀) (XB : (hd.heap_39 w.params).In base) (N : News h₀ L s.heap news) (T : Top p loose mean mg mb h₀) (TB : Top p loose mean mg mb base) (hk : cs.kind = .function) (hd : dp + 6 < recursionLimit) (hu : un + 300 < cLine)
    (hb : l.length ≤ 16) (ha : ∀ c ∈ l, c < 128)
    (ret : ∀ t h' tk', goodB (asB l) → Fr h₀ L h' m → News h₀ L h' news → Q (.bytes (decOf (asB l)).toArray t) { s with heap := h', toks := tk' })
    (retN : ∀ h' tk', ¬ goodB (asB l) → Fr h₀ L h' m → News h₀ L h' news → Q .none { s with heap := h', toks := tk' }) :
    wpAny (model PySem.Challenge.rw_ah6001_01.row.prog w) (ktrTop dp un gd cn cs L a ccd cl []) (call (.ref 90) [.str ⟨l.toArray⟩ t]) Q E s := by
  revert X XB; k_fill; intro X XB
  refine wpAny_call ?_
  k_dflt (refine' code_defR ?k1 ?k2 ?k3 ?k4 ?k5 ?kA ?kF ?kK ?k6 ?k7 ?k8 ?k9 ?kB ?_ ?c2 ?c3 ?c4 ?c5; (case kA => exact rfl); (case kF => exact rfl); (case kK => assumption); (case k1 => k_asm); (case k2 => k_asm); (case k3 => assumption); (case k4 => k_asm); (case k5 => assumption); (case k6 => k_is); (case k7 => k_is); (case k8 => ktr_room); (case k9 => exact BindsTo.of_eq rfl); (case c5 => decide); (case kB => exact locs rfl); (case c2 => exact rfl); (case c3 => exact rfl); (case c4 => exact rfl))
  intro g1 L1 h1 FG1 F1 N1 B1 X1 T1 D1
  k_steps
  · rename Fr _ _ _ _ => F2
    rename News _ _ _ _ => N2
    rename goodB _ => hg
    exact ret _ _ _ hg F2 N2
  · rename Fr _ _ _ _ => F2
    rename News _ _ _ _ => N2
    rename ¬ goodB _ => hg
    exact retN _ _ hg F2 N2
  · exact hold_of ha

end
end Mine
end
/-! part C_due -/
section
open PySem PySem.W PyProof.Rows
namespace Mine
local macro_rules | `(tactic| ktr_enter) => `(tactic| (refine' code_defC ?k1 ?k2 ?k3 ?k4 ?k5 ?kA ?kF ?kK ?k6 ?k7 ?k8 ?k9 ?kB ?kD ?_ ?c2 ?c3 ?c4; (case kA => exact rfl); (case kF => exact rfl); (case kK => assumption); (case k1 => k_asm); (case k2 => k_asm); (case k3 => k_asm); (case k4 => k_asm); (case k5 => k_asm); (case k6 => k_is); (case k7 => k_is); (case k8 => ktr_room); (case k9 => first | exact BindsTo.of_eq rfl | exact binds_K (by k_in) rfl (by k_is) rfl rfl rfl | fail "k_enter: no rule for these arguments"); (case kB => exact rfl); (case kD => decide +kernel); (case c2 => exact rfl); (case c3 => exact rfl); (case c4 => exact rfl); k_whole; intro g' L' h' tk' cells' FG' F' N' Y' B' X' T' l1; (try k_lt l1); k_cells Y'; (try simp only [List.cons_append, List.nil_append] at N'); (try dsimp only); (try k_lift B'); (try k_fold)))
local macro_rules | `(tactic| k_all) => `(tactic| first | assumption | exact all_ne (by assumption) (by omega) | exact all_neA (by assumption) (by omega))
local macro_rules | `(tactic| k_allIn) => `(tactic| first | (refine List.forall_mem_cons.mpr ⟨by k_memK, ?_⟩; k_allIn) | (intro q hq; (repeat (first | exact hq | refine List.Mem.tail _ ?_)); done))

section
variable {w : World} {p : Program} {loose : List Str} {mean : ExcName → Option Value} {mg mb : Str → Option Value} {dp un : Nat} {gd : Option (List Code)} {cn : Str} {cs : Scope} {a : Addr} {ccd : Value} {cl : List (Str × Addr)} {outer : List Env} {A₀ : Around} {base h₀ : Heap} {L : Addr} {m : Str → Option Value} {news : List (Addr × Obj)} {s : Shared}
    {Q E : Value → Shared → Prop}
local macro_rules | `(tactic| walk_at "call ref") => `(tactic| (k_here; k_dflt (refine' bits_does ?B ?F ?X ?N ?T ?hk ?hd ?hu ?a ?b ?c ?d ?_; (case B => k_asm); (case F => k_asm); (case X => k_asm); (case N => k_asm); (case T => k_asm); (case hk => first | exact rfl | assumption); (case hd => ktr_room); (case hu => ktr_units); (case a => omega); (case b => omega); (case c => omega); (case d => omega); intro l' ys' h' tk' hI' hLn' hO' F' N'; (try simp only [LCg.Off1, and_true] at hO'))))
local macro_rules | `(tactic| walk_at "call ref") => `(tactic| (k_here; k_dflt (refine' signs_does ?B ?F ?X ?N ?T ?hk ?hd ?hu ?_; (case B => k_asm); (case F => k_asm); (case X => k_asm); (case N => k_asm); (case T => k_asm); (case hk => first | exact rfl | assumption); (case hd => ktr_room); (case hu => ktr_units); intro t' h' tk' F' N')))
local macro_rules | `(tactic| walk_at "call ref") => `(tactic| (k_here; k_dflt (refine' worth_does ?B ?F ?X ?N ?T ?hk ?hd ?hu ?i ?_; (case B => k_asm); (case F => k_asm); (case X => k_asm); (case N => k_asm); (case T => k_asm); (case hk => first | exact rfl | assumption); (case hd => ktr_room); (case hu => ktr_units); (case i => assumption); intro t' h' tk' F' N')))
local macro_rules | `(tactic| walk_at "binaryOp Add ref ref") => `(tactic| (k_here; k_dflt (refine' add_L ?F ?N ?a ?b ?z ?_; (case F => k_asm); (case N => k_asm); (case a => k_mem); (case b => k_mem); (case z => omega); intro r' h' F' N' l1'; (try simp only [AllLt, and_true] at l1'))))
local macro_rules | `(tactic| walk_at "call builtin:len") => `(tactic| (k_here; (with_reducible show wpAny _ _ (call (Value.builtin "len") [Value.ref _]) _ _ _); k_dflt (refine' len_L ?N ?a ?z ?_; (case N => k_asm); (case a => k_mem); (case z => omega); intro t' tk')))
local macro_rules | `(tactic| walk_at "eval ListComp") => `(tactic| (refine' of_hold ?_))
local macro_rules | `(tactic| walk_at "call builtin:len") => `(tactic| (k_here; (with_reducible show wpAny _ _ (call (Value.builtin "len") [Value.str (Str.mk (List.toArray _)) _]) _ _ _); k_dflt (refine' len_SL ?z ?_; (case z => ((try simp only [List.length_append, List.length_replicate, List.length_map, List.length_cons, List.length_nil, List.length_take, List.length_drop]); omega)); intro t' tk')))
local macro_rules | `(tactic| walk_at "subscriptTail") => `(tactic| (k_here; (with_reducible show wpAny _ _ (subscriptTail _ (Expr.Slice none _ none _) (Value.str _ _) (Value.ref _)) _ _ _); (with_reducible rename Fr _ _ _ _ => F'); (with_reducible rename News _ _ _ _ => N'); k_dflt (refine' cutS_j (s := ⟨_, _, _, _, _⟩) F' N' ?a ?z ?_; (case a => ((try simp only [List.length_append, List.length_replicate, List.length_map, List.length_cons, List.length_nil, List.length_take, List.length_drop]); (constructor <;> omega))); (case z => ((try simp only [List.length_append, List.length_replicate, List.length_map, List.length_cons, List.length_nil, List.length_take, List.length_drop]); omega)); intro h' t' k' F' N')))
local macro_rules | `(tactic| walk_at "subscriptTail Name Slice str ref") => `(tactic| (k_here; (with_reducible show wpAny _ _ (subscriptTail _ (Expr.Slice none _ none _) (Value.str _ _) (Value.ref _)) _ _ _); (with_reducible rename Fr _ _ _ _ => F'); (with_reducible rename News _ _ _ _ => N'); k_dflt (refine' cutS_j (s := ⟨_, _, _, _, _⟩) F' N' ?a ?z ?_; (case a => ((try simp only [List.length_append, List.length_replicate, List.length_map, List.length_cons, List.length_nil, List.length_take, List.length_drop]); (constructor <;> omega))); (case z => ((try simp only [List.length_append, List.length_replicate, List.length_map, List.length_cons, List.length_nil, List.length_take, List.length_drop]); omega)); intro h' t' k' F' N')))
local macro_rules | `(tactic| walk_at "compareOp NotEq ref ref") => `(tactic| (k_here; k_dflt (refine' ne_nil ?a ?z ?o ?b ?u ?_; (case a => is_list); (case z => assumption); (case o => assumption); (case b => is_list); (case u => ktr_units))))
local macro_rules | `(tactic| walk_at "exec For Name Name cons nil") => `(tactic| (k_here; (rename Fr _ _ _ _ => lF'); (with_unfolding_all refine' For_invVF lF' ?k1 ?k2 ?_; (case k1 => exact rfl); (case k2 => exact rfl); k_whole)))
local macro_rules | `(tactic| walk_at "call builtin:str.index") => `(tactic| (k_here; k_dflt (refine' indexA ?_ ?_; intro t' tk')))
local macro_rules | `(tactic| walk_at "call type:bytes") => `(tactic| (k_here; (with_reducible show wpAny _ _ (call (Value.type "bytes") [Value.ref _]) _ _ _); k_dflt (refine' bytesL ?F ?N ?a ?hh ?i ?z ?_ ?_; (case F => k_asm); (case N => k_asm); (case a => k_mem); (case hh => rfl); (case i => assumption); (case z => ((try simp only [List.length_map, List.length_range]); omega)); intro h' t' k' F' N')))
local macro_rules | `(tactic| walk_at "pyIter str") => `(tactic| (refine of_hold ?_))
set_option maxRecDepth 100000 in
set_option maxHeartbeats 8000000 in
theorem due_does {l : List Nat} {t : Tok} (B : Below A₀ base outer h₀) (F : Fr h₀ L s.heap m) (X : (hd.heap_39 w.params).In h₀) (N : News h₀ L s.heap news) (T : Top p loose mean mg mb h₀) (hk : cs.kind = .function) (hd : dp + 5 < recursionLimit) (hu : un + 200 < cLine)
    (hb : l.length ≤ 12) (ha : ∀ c ∈ l, c < 128)
    (ret : ∀ t h' tk', goodD l → Fr h₀ L h' m → News h₀ L h' news → Q (.bytes (dueOf l).toArray t) { s with heap := h', toks := tk' })
    (retN : ∀ h' tk', ¬ goodD l → Fr h₀ L h' m → News h₀ L h' news → Q .none { s with heap := h', toks := tk' }) :
    wpAny (model PySem.Challenge.rw_ah6001_01.row.prog w) (ktrTop dp un gd cn cs L a ccd cl outer) (call (.ref 83) [.str ⟨l.toArray⟩ t]) Q E s := by
  revert X; k_fill; intro X
  refine wpAny_call ?_
  k_dflt (refine' code_defC ?k1 ?k2 ?k3 ?k4 ?k5 ?kA ?kF ?kK ?k6 ?k7 ?k8 ?k9 ?kB ?kD ?_ ?c2 ?c3 ?c4; (case kA => exact rfl); (case kF => exact rfl); (case kK => assumption); (case k1 => k_asm); (case k2 => k_asm); (case k3 => k_asm); (case k4 => k_asm); (case k5 => k_asm); (case k6 => k_is); (case k7 => k_is); (case k8 => ktr_room); (case k9 => exact BindsTo.of_eq rfl); (case kB => exact rfl); (case kD => decide +kernel); (case c2 => exact rfl); (case c3 => exact rfl); (case c4 => exact rfl))
  intro g1 L1 h1 tk1 cells1 FG1 F1 N1 Y1 B1 X1 T1 l1
  k_cells Y1
  (try simp only [List.cons_append, List.nil_append] at N1)
  k_steps
  · refine hold_of (ListComp_ST (h₀ := g1) (L := L1) (fun i ys => ys.length = ((l.take i).filter (· == 61)).length) F1 N1 rfl (by decide) rfl (by decide) rfl (fun _ => rfl) ?_)
    k_steps
    refine ⟨_, _, rfl, rfl, ?_, ?_, by assumption, by assumption, rfl, ?_, ?_⟩
    · simpa using ha
    · rw [List.size_toArray]; omega
    · intro i n t ys I oI C oC D m₂ h2 tk2 E' hn hP hC hx F2 N2 off ne
      have hn' : l[i]? = some n := by simpa using hn
      simp only [LCg.Off3] at off
      k_steps
      · rename Fr _ _ _ _ => F3
        rename News _ _ _ _ => N3
        rename (_ == Str.ofString "=") = true => q
        rw [one_eq, beq_iff_eq] at q
        refine' CEnd_intro () F3 N3 ?hn off ?hP
        case hn => k_allIn
        case hP => (dsimp only; rw [filter_take hn', if_pos q, List.length_append, hP]; rfl)
      · rename Fr _ _ _ _ => F3
        rename News _ _ _ _ => N3
        rename (_ == Str.ofString "=") = false => q
        rw [one_eq, beq_eq_false_iff_ne] at q
        refine' CEnd_intro () F3 N3 ?hn off ?hP
        case hn => k_allIn
        case hP => (dsimp only; rw [filter_take hn', if_neg q, hP]; rfl)
    · intro ys D h2 tk2 hP F2 N2 off
      rw [List.size_toArray, List.take_length] at hP
      have hmany : ys.length = manyOf l := hP
      simp only [LCg.Off1] at off
      have hml := many_le l
      k_steps
      · rename Fr _ _ _ _ => F3
        rename News _ _ _ _ => N3
        rename Int.fmod _ 4 ≠ 0 => q
        rw [Int.fmod_eq_emod_of_nonneg _ (by decide)] at q
        exact retN _ _ (fun hg => by have := hg.1; omega) F3 (fun q hq => N3 q (List.mem_cons_of_mem _ (List.mem_cons_of_mem _ hq)))
      · rename Fr _ _ _ _ => F3
        rename News _ _ _ _ => N3
        exact retN _ _ (fun hg => by have := hg.2.1; omega) F3 (fun q hq => N3 q (List.mem_cons_of_mem _ (List.mem_cons_of_mem _ hq)))
      · rename Fr _ _ _ _ => F3
        rename News _ _ _ _ => N3
        have ebody : l.take (Int.toNat ((l.length : Int) - (ys.length : Int))) = bodyOf l := by
          unfold bodyOf; rw [hmany]; congr 1; omega
        rw [ebody] at F3
        refine hold_of (ListComp_ST (h₀ := g1) (L := L1) (fun i ys => (ys = [] ↔ ∀ c ∈ (bodyOf l).take i, 0 ≤ placeC c) ∧ ∃ zs, StrsAre ys zs ∧ ∀ z ∈ zs, PyData.strOk z = true) F3 N3 rfl (by decide) rfl (by decide) rfl (fun _ => rfl) ?_)
        k_steps
        refine ⟨_, _, rfl, rfl, ?_, ?_, by assumption, by assumption, ⟨by simp, [], .nil, fun _ h => nomatch h⟩, ?_, ?_⟩
        · have : ∀ c ∈ bodyOf l, c < 128 := fun c hc => ha c (List.mem_of_mem_take hc)
          simpa using this
        · have : (bodyOf l).length ≤ l.length := by unfold bodyOf; rw [List.length_take]; omega
          rw [List.size_toArray]; omega
        · intro i n t ys I oI C oC D m₂ h2 tk2 E' hn hP hC hx F2 N2 off ne
          have hn' : (bodyOf l)[i]? = some n := by simpa using hn
          simp only [LCg.Off3] at off
          k_steps
          · rename Fr _ _ _ _ => F5
            rename News _ _ _ _ => N5
            rename (List.isEmpty _) = true => q
            have hnb : n < 128 := ha n (List.mem_of_mem_take (List.mem_of_getElem? hn'))
            have hna : ¬ 0 ≤ placeC n := (in_alpha n hnb).mp q
            obtain ⟨hnil, zs, hzs, hok⟩ := hP
            refine' CEnd_intro () F5 N5 ?hn off ⟨⟨fun q => absurd q (by simp), fun q => absurd (q n ?hm) hna⟩, _, StrsAre.append' hzs (.cons ⟨#[n]⟩ _ .nil), ?ho⟩
            case hn => k_allIn
            case hm => rw [List.take_add_one, hn']; simp
            case ho =>
              intro z hz
              rcases List.mem_append.mp hz with hz | hz
              · exact hok z hz
              · have hz1 : z = ⟨#[n]⟩ := by simpa using hz
                rw [hz1]; exact strOk_one n hnb
          · rename Fr _ _ _ _ => F5
            rename News _ _ _ _ => N5
            rename (List.isEmpty _) = false => q
            have hnb : n < 128 := ha n (List.mem_of_mem_take (List.mem_of_getElem? hn'))
            have hna : 0 ≤ placeC n := Decidable.byContradiction fun hq => by
              rw [(in_alpha n hnb).mpr hq] at q; cases q
            obtain ⟨hnil, zs, hzs, hok⟩ := hP
            refine' CEnd_intro () F5 N5 ?hn off ⟨?hi, zs, hzs, hok⟩
            case hn => k_allIn
            case hi =>
              rw [hnil, List.take_add_one, hn']
              constructor
              · intro q c hc
                rcases List.mem_append.mp hc with hc | hc
                · exact q c hc
                · have hc1 : c ∈ [n] := hc
                  rw [List.mem_singleton.mp hc1]; exact hna
              · intro q c hc
                exact q c (List.mem_append_left _ hc)
        · intro zs D' h3 tk3 hP F4 N4 off'
          rw [List.size_toArray, List.take_length] at hP
          obtain ⟨hnil, zs', hzs, hok⟩ := hP
          simp only [LCg.Off1] at off'
          k_steps
          · rename Fr _ _ _ _ => F5
            rename News _ _ _ _ => N5
            rename Obj.data _ = Data.cell (some (Value.ref _)) => d5
            obtain ⟨o2, l2, rfl, rfl⟩ := cell_ref d5
            have hall := hnil.mp (by assumption)
            have hbl : (bodyOf l).length ≤ l.length := by unfold bodyOf; rw [List.length_take]; omega
            refine hold_of (iterS_str (σ := Addr × Obj × List Value × Nat) (fun c => (c.1, listOf c.2.2.1.toArray c.2.2.2) :: (L1 + 1, c.2.1) :: news) (fun _ => []) [] (fun i c => c.2.1.data = .cell (some (.ref c.1)) ∧ IntsAre c.2.2.1 (bitsD ((bodyOf l).take i)) ∧ c.2.2.1.length = 6 * i ∧ NLt (L1 + 1) c.1) (l2, o2, [], _) rfl ?_ F5 (News_sub N5 (by k_allIn)) (fun _ h => nomatch h) ⟨d5, .nil, rfl, by (dsimp only); omega⟩ ?_ ?_)
            · have : ∀ c ∈ bodyOf l, c < 128 := fun c hc => ha c (List.mem_of_mem_take hc)
              simpa using this
            · rintro i n t ⟨lb, o, vs, nn⟩ u h2 tk2 I oI hn ⟨hco, hi, hlen, hl⟩ F3 N3 a3
              dsimp only at hco hi hlen hl F3 N3 a3
              simp only [List.forall_mem_cons] at a3
              obtain ⟨a4, a5, a6⟩ := a3
              have hn' : (bodyOf l)[i]? = some n := by simpa using hn
              have hnb : n < 128 := ha n (List.mem_of_mem_take (List.mem_of_getElem? hn'))
              have hnp : 0 ≤ placeC n := hall n (List.mem_of_getElem? hn')
              have hnq := (placeC_lt n (by omega)).2
              have hib : i < (bodyOf l).length := (List.getElem?_eq_some_iff.mp hn').1
              k_steps
              · rename Fr _ _ _ _ => F4
                rename News _ _ _ _ => N4
                rename Obj.data _ = Data.cell (some (Value.ref _)) => d4
                rename IntsAre _ (bitsOf _ _) => i4
                rename (List.length _ : Int) = 6 => l4
                rename _ ∧ _ ∧ _ ∧ _ ∧ AllLt _ _ => a7
                have i5 := hi.append i4
                rw [← bitsD_take hn'] at i5
                refine TPost_next (_, _, vs ++ _, 0) F4 N4 ?_ (List.forall_mem_cons.mpr ⟨Nat.ne_of_gt a7.2.1, List.forall_mem_cons.mpr ⟨a5, a6⟩⟩) (fun _ h => nomatch h) ?_ ⟨d4, i5, by rw [List.length_append]; omega, a7.2.2.2.1⟩
                · k_allIn
                · intro z hz _ _
                  show (if z = _ then _ else _) = _
                  rw [if_neg hz]
                  rfl
              · exact hold_of ⟨hnb, hnp⟩
            · rintro ⟨lb, o, vs, nn⟩ u h2 tk2 ⟨hco, hi, hlen, hl⟩ F3 N3
              dsimp only at hco hi hlen hl F3 N3
              rw [List.size_toArray] at hlen
              rw [List.size_toArray, List.take_length] at hi
              dsimp only
              k_steps
              refine hold_of (ListComp_R (h₀ := g1) (L := L1) (σ := Unit) (fun _ => (lb, listOf vs.toArray nn) :: (L1 + 1, o) :: news) (fun i ys _ => IntsAre ys ((List.range i).map fun q => worthOf (((bitsD (bodyOf l)).drop (8 * q)).take 8))) F3 rfl (by decide) rfl (by decide) rfl (fun _ => rfl) ?_)
              k_steps
              refine ⟨_, _, _, _, _, _, _, (6 * (bodyOf l).length) / 8, (), rfl, rfl, by assumption, by assumption, by assumption, ?_, ?_, ?_, .nil, ?_, ?_⟩
              · exact range8_small _ (by omega)
              · refine (range8_size vs.length).trans ?_
                rw [hlen]
              · rw [sizeLine_eq]; omega
              · intro i k t c ys I oI C oC D m₂ h4 tk4 E' hi8 hk8 hP hC hx F6 N6 off8
                intro ne8
                dsimp only at N6 off8
                simp only [LCg.Off3] at off8
                have hLL := bitsD_len (bodyOf l)
                k_steps
                rename Fr _ _ _ _ => F7
                rename News _ _ _ _ => N7
                have e8 : List.take (min (Int.toNat (k + 8)) (List.length (bitsD (bodyOf l))) - Int.toNat k) (List.drop (Int.toNat k) (bitsD (bodyOf l))) = ((bitsD (bodyOf l)).drop (8 * i)).take 8 := by
                  have ek : Int.toNat k = 8 * i := by omega
                  rw [ek, List.take_eq_take_iff, List.length_drop, hLL]
                  omega
                rw [e8]
                refine' CEnd_intro () F7 N7 ?hn off8 ?hP
                case hn => k_allIn
                case hP =>
                  rw [List.range_succ, List.map_append]
                  exact hP.append (.cons _ _ .nil)
              · intro c ys D h4 tk4 hP F6 N6 off8
                dsimp only at N6
                have hLL := bitsD_len (bodyOf l)
                have hdue : ((List.range (6 * (bodyOf l).length / 8)).map fun q => worthOf (((bitsD (bodyOf l)).drop (8 * q)).take 8)).map (fun n => n.toNat.toUInt8) = dueOf l := by
                  unfold dueOf
                  rw [hLL, List.map_map]; rfl
                k_steps
                · rename Fr _ _ _ _ => F8
                  rename News _ _ _ _ => N8
                  rw [hdue]
                  refine ret _ _ _ ⟨?_, ?_, hall⟩ F8 (News_sub N8 (by k_allIn))
                  · rename Int.fmod _ 4 = 0 => q
                    rw [Int.fmod_eq_emod_of_nonneg _ (by decide)] at q
                    omega
                  · omega
                · refine hold_of fun n hn => ?_
                  obtain ⟨q, _, rfl⟩ := List.mem_map.mp hn
                  exact worth_256 (fun n hn => bitsD_01 (List.mem_of_mem_drop (List.mem_of_mem_take hn))) (by rw [List.length_take]; omega)
          · rename Fr _ _ _ _ => F5
            rename News _ _ _ _ => N5
            exact retN _ _ (fun hg => absurd (hnil.mpr hg.2.2) (by assumption)) F5 (News_sub N5 (by k_allIn))

end
end Mine
end
/-! part C_draw -/
section
open PySem PySem.W PyProof.Rows
namespace Mine
local macro_rules | `(tactic| ktr_enter) => `(tactic| (refine' code_defC ?k1 ?k2 ?k3 ?k4 ?k5 ?kA ?kF ?kK ?k6 ?k7 ?k8 ?k9 ?kB ?kD ?_ ?c2 ?c3 ?c4; (case kA => exact rfl); (case kF => exact rfl); (case kK => assumption); (case k1 => k_asm); (case k2 => k_asm); (case k3 => k_asm); (case k4 => k_asm); (case k5 => k_asm); (case k6 => k_is); (case k7 => k_is); (case k8 => ktr_room); (case k9 => first | exact BindsTo.of_eq rfl | exact binds_K (by k_in) rfl (by k_is) rfl rfl rfl | fail "k_enter: no rule for these arguments"); (case kB => exact rfl); (case kD => decide +kernel); (case c2 => exact rfl); (case c3 => exact rfl); (case c4 => exact rfl); k_whole; intro g' L' h' tk' cells' FG' F' N' Y' B' X' T' l1; (try k_lt l1); k_cells Y'; (try simp only [List.cons_append, List.nil_append] at N'); (try dsimp only); (try k_lift B'); (try k_fold)))
local macro_rules | `(tactic| k_all) => `(tactic| first | assumption | exact all_ne (by assumption) (by omega) | exact all_neA (by assumption) (by omega))
local macro_rules | `(tactic| k_allIn) => `(tactic| first | (refine List.forall_mem_cons.mpr ⟨by k_memK, ?_⟩; k_allIn) | (intro q hq; (repeat (first | exact hq | refine List.Mem.tail _ ?_)); done))

section
variable {w : World} {p : Program} {loose : List Str} {mean : ExcName → Option Value} {mg mb : Str → Option Value} {dp un : Nat} {gd : Option (List Code)} {cn : Str} {cs : Scope} {a : Addr} {ccd : Value} {cl : List (Str × Addr)} {outer : List Env} {A₀ : Around} {base h₀ : Heap} {L : Addr} {m : Str → Option Value} {news : List (Addr × Obj)} {s : Shared}
    {Q E : Value → Shared → Prop}
local macro_rules | `(tactic| walk_at "eval ListComp") => `(tactic| (refine' of_hold ?_))
local macro_rules | `(tactic| walk_at "exec For Name Name cons nil") => `(tactic| (k_here; (rename Fr _ _ _ _ => lF'); (with_unfolding_all refine' For_invVF lF' ?k1 ?k2 ?_; (case k1 => exact rfl); (case k2 => exact rfl); k_whole)))
local macro_rules | `(tactic| walk_at "call builtin:abs") => `(tactic| (k_here; k_dflt (refine' absQ ?_; intro r' t' tk' hr0)))
local macro_rules | `(tactic| walk_at "binaryOp Mod int int") => `(tactic| (k_here; k_dflt (refine' modQ ?n ?_; (case n => decide); intro r' t' tk' hr0 hr1)))
local macro_rules | `(tactic| walk_at "binaryOp Add int int") => `(tactic| (k_here; k_dflt (refine' addQ ?_; intro t' tk')))
local macro_rules | `(tactic| walk_at "binaryOp Mult int int") => `(tactic| (k_here; k_dflt (refine' mulQ ?m ?_; (case m => mul_fits); intro t' tk')))
local macro_rules | `(tactic| walk_at "pyIter ref") => `(tactic| (refine of_hold ?_))
set_option maxRecDepth 100000 in
set_option maxHeartbeats 8000000 in
theorem draw_does {l : Addr} {vs : List Value} {ns : List Int} (B : Below A₀ base outer h₀) (F : Fr h₀ L s.heap m) (X : (hd.heap_39 w.params).In h₀) (N : News h₀ L s.heap news) (T : Top p loose mean mg mb h₀) (hk : cs.kind = .function) (hd : dp + 5 < recursionLimit) (hu : un + 100 < cLine)
    (hl : h₀.IsList l vs.toArray) (hi : IntsAre vs ns) (hn : ns.length ≤ 63)
    (ret : ∀ d l nx h' tk', DrawAt d l nx → @Ne Nat d l → (∀ p ∈ news, @Ne Nat p.1 d) → (∀ p ∈ news, @Ne Nat p.1 l) → Fr h₀ L h' m → News h₀ L h' (nx ++ news) → Q (.ref d) { s with heap := h', toks := tk' }) :
    wpAny (model PySem.Challenge.rw_ah6001_01.row.prog w) (ktrTop dp un gd cn cs L a ccd cl outer) (call (.ref 47) [.ref l]) Q E s := by
  revert X; k_fill; intro X
  refine wpAny_call ?_
  k_dflt (refine' code_def ?k1 ?k2 ?k3 ?k4 ?k5 ?kA ?kF ?kK ?k6 ?k7 ?k8 ?k9 ?kB ?_ ?c2 ?c3 ?c4 ?c5; (case kA => exact rfl); (case kF => exact rfl); (case kK => assumption); (case k1 => k_asm); (case k2 => k_asm); (case k3 => k_asm); (case k4 => k_asm); (case k5 => k_asm); (case k6 => k_is); (case k7 => k_is); (case k8 => ktr_room); (case k9 => exact BindsTo.of_eq rfl); (case c5 => decide); (case kB => exact locs rfl); (case c2 => exact rfl); (case c3 => exact rfl); (case c4 => exact rfl))
  intro g1 L1 h1 FG1 F1 N1 B1 X1 T1
  have hl1 : g1.IsList l vs.toArray := by
    obtain ⟨o, e, r⟩ := hl
    exact ⟨o, FG1.keep _ _ e, r⟩
  have hvs : vs.length = ns.length := hi.length
  k_steps
  · rename Fr _ _ _ _ => F2
    rename News _ _ _ _ => N2
    obtain ⟨tk0, htk0⟩ := tok_int F2
    rw [← htk0] at F2
    refine hold_of (iterS_list (σ := Int × Tok) (fun _ => news) (fun c => [(Str.ofString "seed", .int c.1 c.2)]) [] (fun _ c => 0 ≤ c.1 ∧ c.1 < 2147483647) (7, tk0) rfl hl1 F2 N2 (List.forall_mem_singleton.mpr (if_pos rfl)) ⟨show (0:Int) ≤ 7 from by decide, show (7:Int) < 2147483647 from by decide⟩ ?_ ?_)
    · rintro i v ⟨sd, c⟩ u h2 tk2 I oI hn ⟨hs0, hs1⟩ F3 N3 a3
      dsimp only at F3 N3 a3 hs0 hs1
      obtain ⟨x, tx, rfl⟩ : ∃ x tx, v = .int x tx := by
        have : vs[i]? = some v := by simpa using hn
        obtain ⟨x, tx, e, _⟩ := hi.at i v this
        exact ⟨x, tx, e⟩
      clear hi hl hl1 hvs F2 N2 hn
      k_steps
      rename Fr _ _ _ _ => F4
      rename News _ _ _ _ => N4
      obtain ⟨tk4, htk4⟩ := tok_int F4
      rw [← htk4] at F4
      refine' TPost_next (_, tk4) F4 N4 ?hn a3 (List.forall_mem_singleton.mpr (if_pos rfl)) ?hz ⟨by assumption, by assumption⟩
      case hn => k_allIn
      case hz =>
        intro z hz1 hz2 hz3
        have q1 : z ≠ Str.ofString "seed" := hz2 _ (List.mem_singleton.mpr rfl)
        simp only [kstB, if_neg q1, if_neg hz1, hz3, Bool.false_eq_true, if_false]
    · rintro ⟨sd, c⟩ u h2 tk2 ⟨hs0, hs1⟩ F3 N3
      dsimp only at F3 N3 hs0 hs1
      k_steps
      refine hold_of (ListComp_B (h₀ := g1) (L := L1) (fun i ys => ∃ ms, IntsAre ys ms ∧ (∀ x ∈ ms, (0 : Int) ≤ x) ∧ ms.length = i) F3 N3 rfl (by decide) rfl (by decide) rfl (fun _ => rfl) ?_)
      k_steps
      refine ⟨_, _, rfl, rfl, by assumption, by assumption, hl1, ?_, ⟨[], .nil, (fun _ h => nomatch h), rfl⟩, ?_, ?_⟩
      · rw [List.size_toArray]; omega
      · intro i v ys I oI C oC D m₂ h4 tk4 E' hv hP hC hx F6 N6 off ne
        obtain ⟨x, tx, rfl⟩ : ∃ x tx, v = .int x tx := by
          have : vs[i]? = some v := by simpa using hv
          obtain ⟨x, tx, e, _⟩ := hi.at i v this
          exact ⟨x, tx, e⟩
        k_steps
        rename Fr _ _ _ _ => F7
        rename News _ _ _ _ => N7
        obtain ⟨ms, h1, h2, h3⟩ := hP
        refine' CEnd_intro () F7 N7 ?hn off ⟨ms ++ [_], h1.append (.cons _ _ .nil), ?hm, ?hl⟩
        case hn => k_allIn
        case hm =>
          intro x hx
          rcases List.mem_append.mp hx with hx | hx
          · exact h2 x hx
          · rw [List.mem_singleton.mp hx]; assumption
        case hl => rw [List.length_append, h3]; rfl
      · rintro ys D h4 tk4 ⟨ms, him, hms, hml⟩ F6 N6 off
        rw [List.size_toArray] at hml
        k_steps
        rename Fr _ _ _ _ => F8
        rename News _ _ _ _ => N8
        rename IntsAre _ (List.take 60 ms) => i8
        rename _ ∧ _ ∧ AllLt _ _ => a2
        rename _ ∧ AllLt _ _ => a1
        refine' ret _ _ [(_, _), (_, _)] _ _ ⟨sd, _, _, _, 0, 0, rfl, i8, fun x hx => hms x (List.mem_of_mem_take hx), hs0, ?hl⟩ (Nat.ne_of_gt a2.1) (fun p hp => Nat.ne_of_lt (AllLt_mem a2.2.2 p hp)) (fun p hp => Nat.ne_of_lt (AllLt_mem a1.2 p hp)) F8 (fun q hq => N8 q ?hN)
        case hl => rw [List.length_take]; omega
        case hN =>
          rcases List.mem_cons.mp hq with rfl | hq
          · exact List.mem_cons_self
          rcases List.mem_cons.mp hq with rfl | hq
          · exact List.mem_cons_of_mem _ List.mem_cons_self
          · exact List.mem_cons_of_mem _ (List.mem_cons_of_mem _ (List.mem_cons_of_mem _ hq))

end
end Mine
end
/-! part C_law0 -/
section
open PySem PySem.W PyProof.Rows
namespace Mine
local macro_rules | `(tactic| ktr_enter) => `(tactic| (refine' code_defC ?k1 ?k2 ?k3 ?k4 ?k5 ?kA ?kF ?kK ?k6 ?k7 ?k8 ?k9 ?kB ?kD ?_ ?c2 ?c3 ?c4; (case kA => exact rfl); (case kF => exact rfl); (case kK => assumption); (case k1 => k_asm); (case k2 => k_asm); (case k3 => k_asm); (case k4 => k_asm); (case k5 => k_asm); (case k6 => k_is); (case k7 => k_is); (case k8 => ktr_room); (case k9 => first | exact BindsTo.of_eq rfl | exact binds_K (by k_in) rfl (by k_is) rfl rfl rfl | fail "k_enter: no rule for these arguments"); (case kB => exact rfl); (case kD => decide +kernel); (case c2 => exact rfl); (case c3 => exact rfl); (case c4 => exact rfl); k_whole; intro g' L' h' tk' cells' FG' F' N' Y' B' X' T' l1; (try k_lt l1); k_cells Y'; (try simp only [List.cons_append, List.nil_append] at N'); (try dsimp only); (try k_lift B'); (try k_fold)))
local macro_rules | `(tactic| k_all) => `(tactic| first | assumption | exact all_ne (by assumption) (by omega) | exact all_neA (by assumption) (by omega))
local macro_rules | `(tactic| k_allIn) => `(tactic| first | (refine List.forall_mem_cons.mpr ⟨by k_memK, ?_⟩; k_allIn) | (intro q hq; (repeat (first | exact hq | refine List.Mem.tail _ ?_)); done))

section
variable {w : World} {p : Program} {loose : List Str} {mean : ExcName → Option Value} {mg mb : Str → Option Value} {dp un : Nat} {gd : Option (List Code)} {cn : Str} {cs : Scope} {a : Addr} {ccd : Value} {cl : List (Str × Addr)} {outer : List Env} {A₀ : Around} {base h₀ : Heap} {L : Addr} {m : Str → Option Value} {news : List (Addr × Obj)} {s : Shared}
    {Q E : Value → Shared → Prop}
def DrawO (d l : Addr) (o1 o2 : Obj) : Prop := DrawAt d l [(d, o1), (l, o2)]
theorem draw_names {d l : Addr} {o1 o2 : Obj} (_ : DrawO d l o1 o2) : ∃ (d' l' : Addr) (o1' o2' : Obj), d' = d ∧ l' = l ∧ o1' = o1 ∧ o2' = o2 := ⟨d, l, o1, o2, rfl, rfl, rfl, rfl⟩
theorem draw_D {l : Addr} {vs : List Value} {ns : List Int} (B : Below A₀ base outer h₀) (F : Fr h₀ L s.heap m) (X : (hd.heap_39 w.params).In h₀) (N : News h₀ L s.heap news) (T : Top p loose mean mg mb h₀) (hk : cs.kind = .function) (hd : dp + 5 < recursionLimit) (hu : un + 100 < cLine)
    (hl : h₀.IsList l vs.toArray) (hi : IntsAre vs ns) (hn : ns.length ≤ 63)
    (ret : ∀ d l o1 o2 h' tk', DrawO d l o1 o2 → @Ne Nat d l → (∀ p ∈ news, @Ne Nat p.1 d) → (∀ p ∈ news, @Ne Nat p.1 l) → Fr h₀ L h' m → News h₀ L h' ((d, o1) :: (l, o2) :: news) → Q (.ref d) { s with heap := h', toks := tk' }) :
    wpAny (model PySem.Challenge.rw_ah6001_01.row.prog w) (ktrTop dp un gd cn cs L a ccd cl outer) (call (.ref 47) [.ref l]) Q E s := by
  refine draw_does B F X N T hk hd hu hl hi hn fun d l nx h' tk' D e n1 n2 F' N' => ?_
  obtain ⟨sd, t, vs, ns, k1, k2, rfl, hi, hns, hsd, hlen⟩ := D
  exact ret d l _ _ h' tk' ⟨sd, t, vs, ns, k1, k2, rfl, hi, hns, hsd, hlen⟩ e n1 n2 F' N'
theorem take_D {d l : Addr} {o1 o2 : Obj} {many : Int} {t2 : Tok} (B : Below A₀ base outer h₀) (F : Fr h₀ L s.heap m) (X : (hd.heap_39 w.params).In h₀) (N : News h₀ L s.heap ([(d, o1), (l, o2)] ++ news)) (T : Top p loose mean mg mb h₀) (hk : cs.kind = .function) (hd : dp + 1 < recursionLimit) (hu : un + 100 < cLine)
    (D : DrawO d l o1 o2) (hdl : @Ne Nat d l) (hnd : ∀ p ∈ news, @Ne Nat p.1 d) (hnl : ∀ p ∈ news, @Ne Nat p.1 l) (hm : 0 < many)
    (ret : ∀ r t o1 o2 h' tk', 0 ≤ r → r < many → DrawO d l o1 o2 → Fr h₀ L h' m → News h₀ L h' ((d, o1) :: (l, o2) :: news) → Q (.int r t) { s with heap := h', toks := tk' }) :
    wpAny (model PySem.Challenge.rw_ah6001_01.row.prog w) (ktrTop dp un gd cn cs L a ccd cl outer) (call (.ref 54) [.ref d, .int many t2]) Q E s := by
  refine take_does B F X N T hk hd hu D hdl hnd hnl hm fun r t nx h' tk' h0 h1 D' F' N' => ?_
  obtain ⟨sd, t', vs, ns, k1, k2, rfl, hi, hns, hsd, hlen⟩ := D'
  exact ret r t _ _ h' tk' h0 h1 ⟨sd, t', vs, ns, k1, k2, rfl, hi, hns, hsd, hlen⟩ F' N'
theorem told_D {b : List UInt8} {t : Tok} (B : Below A₀ base outer h₀) (F : Fr h₀ L s.heap m) (X : (hd.heap_39 w.params).In h₀) (N : News h₀ L s.heap news) (T : Top p loose mean mg mb h₀) (hk : cs.kind = .function) (hd : dp + 5 < recursionLimit) (hu : un + 200 < cLine)
    (hb : b.length ≤ 12)
    (ret : ∀ t h' tk', Fr h₀ L h' m → News h₀ L h' news → Q (.bytes (asB (encOf b)).toArray t) { s with heap := h', toks := tk' }) :
    wpAny (model PySem.Challenge.rw_ah6001_01.row.prog w) (ktrTop dp un gd cn cs L a ccd cl outer) (call (.ref 78) [.bytes b.toArray t]) Q E s := by
  refine told_does B F X N T hk hd hu (by rw [List.size_toArray]; exact hb) fun t h' tk' F' N' => ?_
  have e : toldOf b.toArray.toList = encOf b := enc_told b
  rw [e]
  exact ret t h' tk' F' N'
theorem dec_D {b : List UInt8} {t : Tok} (B : Below A₀ base outer h₀) (F : Fr h₀ L s.heap m) (X : (hd.heap_39 w.params).In h₀) (N : News h₀ L s.heap news) (T : Top p loose mean mg mb h₀) (hk : cs.kind = .function) (hd : dp + 5 < recursionLimit) (hu : un + 200 < cLine)
    (hb : b.length ≤ 12)
    (ret : ∀ t h' tk', Fr h₀ L h' m → News h₀ L h' news → Q (.bytes b.toArray t) { s with heap := h', toks := tk' }) :
    wpAny (model PySem.Challenge.rw_ah6001_01.row.prog w) (ktrTop dp un gd cn cs L a ccd cl outer) (call (.ref 42) [.bytes (asB (encOf b)).toArray t]) Q E s := by
  have hl : (asB (encOf b)).length ≤ 16 := by unfold asB; rw [List.length_map, enc_len]; omega
  refine dec_does B F X N T hk hd hu hl (fun t h' tk' _ F' N' => ?_) fun G e t h' tk' hg _ _ _ => absurd (enc_good b) hg
  rw [dec_enc]
  exact ret t h' tk' F' N'
theorem deck_D {b : List UInt8} {t : Tok} (B : Below A₀ base outer h₀) (F : Fr h₀ L s.heap m) (X : (hd.heap_39 w.params).In h₀) (N : News h₀ L s.heap news) (T : Top p loose mean mg mb h₀) (hk : cs.kind = .function) (hd : dp + 5 < recursionLimit) (hu : un + 200 < cLine)
    (hb : b.length ≤ 12)
    (ret : ∀ t h' tk', Fr h₀ L h' m → News h₀ L h' news → Q (.bytes b.toArray t) { s with heap := h', toks := tk' }) :
    wpAny (model PySem.Challenge.rw_ah6001_01.row.prog w) (ktrTop dp un gd cn cs L a ccd cl outer) (call (.ref 42) [.bytes (asB (encOf b)).toArray t] [(Str.ofString "validate", .bool true)]) Q E s := by
  have hl : (asB (encOf b)).length ≤ 16 := by unfold asB; rw [List.length_map, enc_len]; omega
  refine deck_does B F X N T hk hd hu hl (fun t h' tk' _ F' N' => ?_) fun G e t h' tk' hg _ _ _ => absurd (enc_good b) hg
  rw [dec_enc]
  exact ret t h' tk' F' N'
theorem dec_nil {t : Tok} (B : Below A₀ base outer h₀) (F : Fr h₀ L s.heap m) (X : (hd.heap_39 w.params).In h₀) (N : News h₀ L s.heap news) (T : Top p loose mean mg mb h₀) (hk : cs.kind = .function) (hd : dp + 5 < recursionLimit) (hu : un + 200 < cLine)
    (ret : ∀ t h' tk', Fr h₀ L h' m → News h₀ L h' news → Q (.bytes #[] t) { s with heap := h', toks := tk' }) :
    wpAny (model PySem.Challenge.rw_ah6001_01.row.prog w) (ktrTop dp un gd cn cs L a ccd cl outer) (call (.ref 42) [.bytes #[] t]) Q E s :=
  dec_D (b := []) B F X N T hk hd hu (Nat.zero_le _) ret
theorem enc_nil {t : Tok} (B : Below A₀ base outer h₀) (F : Fr h₀ L s.heap m) (X : (hd.heap_39 w.params).In h₀) (N : News h₀ L s.heap news) (T : Top p loose mean mg mb h₀) (hk : cs.kind = .function) (hd : dp + 5 < recursionLimit) (hu : un + 200 < cLine)
    (ret : ∀ t h' tk', Fr h₀ L h' m → News h₀ L h' news → Q (.bytes #[] t) { s with heap := h', toks := tk' }) :
    wpAny (model PySem.Challenge.rw_ah6001_01.row.prog w) (ktrTop dp un gd cn cs L a ccd cl outer) (call (.ref 34) [.bytes #[] t]) Q E s :=
  enc_does (b := []) B F X N T hk hd hu (Nat.zero_le _) ret
local macro_rules | `(tactic| walk_at "call ref") => `(tactic| (k_here; k_dflt (refine' told_D ?B ?F ?X ?N ?T ?hk ?hd ?hu ?z (fun t' h' tk' F' N' => ?_); (case B => k_asm); (case F => k_asm); (case X => k_asm); (case N => k_asm); (case T => k_asm); (case hk => first | exact rfl | assumption); (case hd => ktr_room); (case hu => ktr_units); (case z => omega))))
local macro_rules | `(tactic| walk_at "call ref") => `(tactic| (k_here; k_dflt (refine' enc_does ?B ?F ?X ?N ?T ?hk ?hd ?hu ?z (fun t' h' tk' F' N' => ?_); (case B => k_asm); (case F => k_asm); (case X => k_asm); (case N => k_asm); (case T => k_asm); (case hk => first | exact rfl | assumption); (case hd => ktr_room); (case hu => ktr_units); (case z => omega))))
local macro_rules | `(tactic| walk_at "call ref") => `(tactic| (k_here; k_dflt (refine' dec_D ?B ?F ?X ?N ?T ?hk ?hd ?hu ?z (fun t' h' tk' F' N' => ?_); (case B => k_asm); (case F => k_asm); (case X => k_asm); (case N => k_asm); (case T => k_asm); (case hk => first | exact rfl | assumption); (case hd => ktr_room); (case hu => ktr_units); (case z => omega))))
local macro_rules | `(tactic| walk_at "call ref") => `(tactic| (k_here; k_dflt (refine' deck_D ?B ?F ?X ?N ?T ?hk ?hd ?hu ?z (fun t' h' tk' F' N' => ?_); (case B => k_asm); (case F => k_asm); (case X => k_asm); (case N => k_asm); (case T => k_asm); (case hk => first | exact rfl | assumption); (case hd => ktr_room); (case hu => ktr_units); (case z => omega))))
local macro_rules | `(tactic| walk_at "call ref") => `(tactic| (k_here; k_dflt (refine' dec_nil ?B ?F ?X ?N ?T ?hk ?hd ?hu (fun t' h' tk' F' N' => ?_); (case B => k_asm); (case F => k_asm); (case X => k_asm); (case N => k_asm); (case T => k_asm); (case hk => first | exact rfl | assumption); (case hd => ktr_room); (case hu => ktr_units))))
local macro_rules | `(tactic| walk_at "call ref") => `(tactic| (k_here; k_dflt (refine' enc_nil ?B ?F ?X ?N ?T ?hk ?hd ?hu (fun t' h' tk' F' N' => ?_); (case B => k_asm); (case F => k_asm); (case X => k_asm); (case N => k_asm); (case T => k_asm); (case hk => first | exact rfl | assumption); (case hd => ktr_room); (case hu => ktr_units))))
local macro_rules | `(tactic| walk_at "call type:bytes") => `(tactic| (k_here; (with_reducible show wpAny _ _ (call (Value.type "bytes") [Value.ref _]) _ _ _); k_dflt (refine' bytesL ?F ?N ?a ?hh ?i ?z ?_ ?_; (case F => k_asm); (case N => k_asm); (case a => k_mem); (case hh => rfl); (case i => assumption); (case z => ((try simp only [List.length_map, List.length_range]); omega)); intro h' t' k' F' N')))
local macro_rules | `(tactic| walk_at "subscriptTail") => `(tactic| (k_here; (with_reducible show wpAny _ _ (subscriptTail _ _ (Value.str _ _) (Value.int _ _)) _ _ _); k_dflt (refine' item_S ?z ?_ ?_ ?b; (case z => first | (exact Nat.le_of_ble_eq_true rfl) | omega); (case b => with_unfolding_all rfl))))
local macro_rules | `(tactic| walk_at "subscriptTail Name BinOp str int") => `(tactic| (k_here; (with_reducible show wpAny _ _ (subscriptTail _ _ (Value.str _ _) (Value.int _ _)) _ _ _); k_dflt (refine' item_S ?z ?_ ?_ ?b; (case z => first | (exact Nat.le_of_ble_eq_true rfl) | omega); (case b => with_unfolding_all rfl))))
local macro_rules | `(tactic| walk_at "subscriptTail Constant Call str int") => `(tactic| (k_here; (with_reducible show wpAny _ _ (subscriptTail _ _ (Value.str _ _) (Value.int _ _)) _ _ _); k_dflt (refine' item_S ?z ?_ ?_ ?b; (case z => first | (exact Nat.le_of_ble_eq_true rfl) | omega); (case b => with_unfolding_all rfl))))
local macro_rules | `(tactic| walk_at "subscriptTail Call Call str int") => `(tactic| (k_here; (with_reducible show wpAny _ _ (subscriptTail _ _ (Value.str _ _) (Value.int _ _)) _ _ _); k_dflt (refine' item_S ?z ?_ ?_ ?b; (case z => first | (exact Nat.le_of_ble_eq_true rfl) | omega); (case b => with_unfolding_all rfl))))
local macro_rules | `(tactic| walk_at "call ref") => `(tactic| (k_here; k_dflt (refine' signs_does ?B ?F ?X ?N ?T ?hk ?hd ?hu ?_; (case B => k_asm); (case F => k_asm); (case X => k_asm); (case N => k_asm); (case T => k_asm); (case hk => first | exact rfl | assumption); (case hd => ktr_room); (case hu => ktr_units); intro t' h' tk' F' N')))
local macro_rules | `(tactic| walk_at "call builtin:str.join") => `(tactic| (k_here; (with_reducible show wpAny _ _ (call (Value.builtin "str.join") [Value.str _ _, Value.ref _]) _ _ _); k_dflt (refine' join_S ?N ?a ?i ?z ?_; (case N => k_asm); (case a => k_mem); (case i => assumption); (case z => ((try simp only [List.length_map, List.length_range]); omega)); intro t' tk')))
local macro_rules | `(tactic| walk_at "call builtin:len") => `(tactic| (k_here; (with_reducible show wpAny _ _ (call (Value.builtin "len") [Value.str (Str.mk (List.toArray _)) _]) _ _ _); k_dflt (refine' len_SL ?z ?_; (case z => ((try simp only [List.length_append, List.length_replicate, List.length_map, List.length_cons, List.length_nil, List.length_take, List.length_drop]); omega)); intro t' tk')))
local macro_rules | `(tactic| walk_at "binaryOp Add str str") => `(tactic| (k_here; (with_reducible show wpAny _ _ (binaryOp Operator.Add (Value.str _ _) (Value.str _ _)) _ _ _); k_dflt (refine' add_SL ?a ?b ?z ?_; (case a => first | exact lit_eq | exact lit_empty | exact rfl); (case b => first | exact lit_eq | exact lit_empty | exact rfl); (case z => ((try simp only [List.length_append, List.length_replicate, List.length_map, List.length_cons, List.length_nil, List.length_take, List.length_drop]); omega)); intro t' tk')))
theorem read_G {l : List Nat} {t : Tok} (B : Below A₀ base [] h₀) (F : Fr h₀ L s.heap m) (X : (Mine.hd.heap_39 w.params).In h₀) (XB : (Mine.hd.heap_39 w.params).In base) (N : News h₀ L s.heap news) (T : Top p loose mean mg mb h₀) (TB : Top p loose mean mg mb base) (hk : cs.kind = .function) (hd : dp + 6 < recursionLimit) (hu : un + 300 < cLine)
    (hb : l.length ≤ 12) (ha : ∀ c ∈ l, c < 128) (hg : goodD l)
    (ret : ∀ t h' tk', Fr h₀ L h' m → News h₀ L h' news → Q (.bytes (dueOf l).toArray t) { s with heap := h', toks := tk' }) :
    wpAny (model PySem.Challenge.rw_ah6001_01.row.prog w) (ktrTop dp un gd cn cs L a ccd cl []) (call (.ref 90) [.str ⟨l.toArray⟩ t]) Q E s := by
  refine read_does B F X XB N T TB hk hd hu (by omega) ha (fun t h' tk' _ F' N' => ?_) fun h' tk' hn _ _ => absurd ((good_same ha).mpr hg) hn
  rw [dec_due ha hg]
  exact ret t h' tk' F' N'
theorem read_N {l : List Nat} {t : Tok} (B : Below A₀ base [] h₀) (F : Fr h₀ L s.heap m) (X : (Mine.hd.heap_39 w.params).In h₀) (XB : (Mine.hd.heap_39 w.params).In base) (N : News h₀ L s.heap news) (T : Top p loose mean mg mb h₀) (TB : Top p loose mean mg mb base) (hk : cs.kind = .function) (hd : dp + 6 < recursionLimit) (hu : un + 300 < cLine)
    (hb : l.length ≤ 12) (ha : ∀ c ∈ l, c < 128) (hg : ¬ goodD l)
    (ret : ∀ h' tk', Fr h₀ L h' m → News h₀ L h' news → Q .none { s with heap := h', toks := tk' }) :
    wpAny (model PySem.Challenge.rw_ah6001_01.row.prog w) (ktrTop dp un gd cn cs L a ccd cl []) (call (.ref 90) [.str ⟨l.toArray⟩ t]) Q E s :=
  read_does B F X XB N T TB hk hd hu (by omega) ha (fun t h' tk' hq _ _ => absurd ((good_same ha).mp hq) hg) fun h' tk' _ F' N' => ret h' tk' F' N'
theorem due_G {l : List Nat} {t : Tok} (B : Below A₀ base outer h₀) (F : Fr h₀ L s.heap m) (X : (hd.heap_39 w.params).In h₀) (N : News h₀ L s.heap news) (T : Top p loose mean mg mb h₀) (hk : cs.kind = .function) (hd : dp + 6 < recursionLimit) (hu : un + 300 < cLine)
    (hb : l.length ≤ 12) (ha : ∀ c ∈ l, c < 128) (hg : goodD l)
    (ret : ∀ t h' tk', Fr h₀ L h' m → News h₀ L h' news → Q (.bytes (dueOf l).toArray t) { s with heap := h', toks := tk' }) :
    wpAny (model PySem.Challenge.rw_ah6001_01.row.prog w) (ktrTop dp un gd cn cs L a ccd cl outer) (call (.ref 83) [.str ⟨l.toArray⟩ t]) Q E s :=
  due_does B F X N T hk (by omega) (by omega) hb ha (fun t h' tk' _ F' N' => ret t h' tk' F' N') fun h' tk' hn _ _ => absurd hg hn
theorem due_N {l : List Nat} {t : Tok} (B : Below A₀ base outer h₀) (F : Fr h₀ L s.heap m) (X : (hd.heap_39 w.params).In h₀) (N : News h₀ L s.heap news) (T : Top p loose mean mg mb h₀) (hk : cs.kind = .function) (hd : dp + 6 < recursionLimit) (hu : un + 300 < cLine)
    (hb : l.length ≤ 12) (ha : ∀ c ∈ l, c < 128) (hg : ¬ goodD l)
    (ret : ∀ h' tk', Fr h₀ L h' m → News h₀ L h' news → Q .none { s with heap := h', toks := tk' }) :
    wpAny (model PySem.Challenge.rw_ah6001_01.row.prog w) (ktrTop dp un gd cn cs L a ccd cl outer) (call (.ref 83) [.str ⟨l.toArray⟩ t]) Q E s :=
  due_does B F X N T hk (by omega) (by omega) hb ha (fun t h' tk' hq _ _ => absurd hq hg) fun h' tk' _ F' N' => ret h' tk' F' N'
local macro_rules | `(tactic| walk_at "call ref") => `(tactic| (k_here; k_dflt (refine' due_G ?B ?F ?X ?N ?T ?hk ?hd ?hu ?z ?a ?g (fun t' h' tk' F' N' => ?_); (case B => k_asm); (case F => k_asm); (case X => k_asm); (case N => k_asm); (case T => k_asm); (case hk => first | exact rfl | assumption); (case hd => ktr_room); (case hu => ktr_units); (case z => ((try simp only [List.length_append, List.length_replicate, List.length_map, List.length_cons, List.length_nil, List.length_take, List.length_drop]); omega)); (case a => assumption); (case g => assumption))))
local macro_rules | `(tactic| walk_at "call ref") => `(tactic| (k_here; k_dflt (refine' due_N ?B ?F ?X ?N ?T ?hk ?hd ?hu ?z ?a ?g (fun h' tk' F' N' => ?_); (case B => k_asm); (case F => k_asm); (case X => k_asm); (case N => k_asm); (case T => k_asm); (case hk => first | exact rfl | assumption); (case hd => ktr_room); (case hu => ktr_units); (case z => ((try simp only [List.length_append, List.length_replicate, List.length_map, List.length_cons, List.length_nil, List.length_take, List.length_drop]); omega)); (case a => assumption); (case g => assumption))))
local macro_rules | `(tactic| walk_at "call ref") => `(tactic| (k_here; (with_reducible show wpAny _ _ (call (Value.ref 90) _) _ _ _); (refine' (of_hold : _) ?_)))
local macro_rules | `(tactic| walk_at "subscriptTail") => `(tactic| (k_here; (with_reducible show wpAny _ _ (subscriptTail _ (Expr.Slice none _ none _) (Value.str _ _) (Value.ref _)) _ _ _); (with_reducible rename Fr _ _ _ _ => F'); (with_reducible rename News _ _ _ _ => N'); k_dflt (refine' cutS_any (s := ⟨_, _, _, _, _⟩) F' N' ?a ?z ?_; (case a => ((try simp only [List.length_append, List.length_replicate, List.length_map, List.length_cons, List.length_nil, List.length_take, List.length_drop]); (constructor <;> omega))); (case z => ((try simp only [List.length_append, List.length_replicate, List.length_map, List.length_cons, List.length_nil, List.length_take, List.length_drop]); omega)); intro n' h' t' k' F' N')))
local macro_rules | `(tactic| walk_at "subscriptTail Name Slice str ref") => `(tactic| (k_here; (with_reducible show wpAny _ _ (subscriptTail _ (Expr.Slice none _ none _) (Value.str _ _) (Value.ref _)) _ _ _); (with_reducible rename Fr _ _ _ _ => F'); (with_reducible rename News _ _ _ _ => N'); k_dflt (refine' cutS_any (s := ⟨_, _, _, _, _⟩) F' N' ?a ?z ?_; (case a => ((try simp only [List.length_append, List.length_replicate, List.length_map, List.length_cons, List.length_nil, List.length_take, List.length_drop]); (constructor <;> omega))); (case z => ((try simp only [List.length_append, List.length_replicate, List.length_map, List.length_cons, List.length_nil, List.length_take, List.length_drop]); omega)); intro n' h' t' k' F' N')))
local macro_rules | `(tactic| walk_at "call ref") => `(tactic| (k_here; k_dflt (refine' draw_D ?B ?F ?X ?N ?T ?hk ?hd ?hu ?l ?i ?n (fun d' l' o1' o2' h' tk' D' e' n1' n2' F' N' => ?_); (case B => k_asm); (case F => k_asm); (case X => k_asm); (case N => k_asm); (case T => k_asm); (case hk => first | exact rfl | assumption); (case hd => ktr_room); (case hu => ktr_units); (case l => k_asm); (case i => assumption); (case n => omega)); (try simp only [List.forall_mem_singleton] at n1' n2')))
local macro_rules | `(tactic| walk_at "call ref") => `(tactic| (k_here; (with_reducible show wpAny _ _ (call (Value.ref 54) _) _ _ _); (refine' of_hold ?_)))
local macro_rules | `(tactic| walk_at "eval ListComp") => `(tactic| (refine' of_hold ?_))
local macro_rules | `(tactic| walk_at "subscriptTail") => `(tactic| (k_here; (with_reducible show wpAny _ _ (subscriptTail _ _ (Value.ref _) (Value.int _ _)) _ _ _); (refine' of_hold ?_)))
local macro_rules | `(tactic| walk_at "subscriptTail List Call ref int") => `(tactic| (k_here; (with_reducible show wpAny _ _ (subscriptTail _ _ (Value.ref _) (Value.int _ _)) _ _ _); (refine' of_hold ?_)))
set_option maxRecDepth 100000 in
set_option maxHeartbeats 8000000 in
theorem law_ok : PySem.Challenge.rw_ah6001_01.Holds := by
  refine hd ?_
  k_go0
  rename ¬ (63 : Int) < _ => hlen63
  rename Shared => s1
  k_steps
  rename DrawO _ _ _ _ => D1
  rename Obj.data _ = Data.cell (some (Value.ref _)) => c1
  obtain ⟨d, l, o1, o2, rfl, rfl, rfl, rfl⟩ := draw_names D1
  obtain ⟨o, rfl⟩ := cell_obj c1
  rename Fr _ _ _ _ => F1
  rename News _ _ _ _ => N1
  rename @Ne Nat d l => ne3
  rename @Ne Nat (_ + 1) d => ne1
  rename @Ne Nat (_ + 1) l => ne2
  refine hold_of (ListComp_R (h₀ := s1.heap) (L := s1.heap.objs.size) (σ := Obj × Obj) (fun c => [(d, c.1), (l, c.2), (s1.heap.objs.size + 1, o)]) (fun i ys c => DrawO d l c.1 c.2 ∧ ∃ ms, IntsAre ys ms ∧ (∀ x ∈ ms, (0 : Int) ≤ x ∧ x < 256) ∧ ms.length = i) F1 rfl (by decide) rfl (by decide) rfl (fun _ => rfl) ?_)
  k_steps
  refine hold_of (take_D (news := [(s1.heap.objs.size + 1, o)]) (by k_asm) F1 (by k_asm) N1 (by k_asm) rfl (by ktr_room) (by ktr_units) D1 ne3 (List.forall_mem_singleton.mpr ne1) (List.forall_mem_singleton.mpr ne2) (by decide) fun r13 t13 o1 o2 h2 tk2 hr0 hr1 D2 F2 N2 => ?_)
  obtain ⟨n13, rfl⟩ := Int.eq_ofNat_of_zero_le hr0
  k_steps
  refine ⟨_, _, _, _, _, _, _, n13, (o1, o2), rfl, rfl, by assumption, by assumption, by assumption, range_small n13 1 (by omega) (by decide) (by decide), (range_size n13 1 (by decide)).trans (by simp), by rw [sizeLine_eq]; omega, ⟨D2, [], .nil, (fun _ h => nomatch h), rfl⟩, ?_, ?_⟩
  · rintro i k t ⟨p1, p2⟩ ys I oI C oC D m₂ h4 tk4 E' hi hk' ⟨D3, ms, hms, hmb, hml⟩ hC hx F6 N6 off ne
    dsimp only at N6 off D3
    simp only [LCg.Off3] at off
    k_steps
    refine hold_of (take_D (news := [(I, oI), (C, oC), (D, LCg.lst ys), (s1.heap.objs.size + 1, o)]) (by k_asm) F6 (by k_asm) (News_mid (pre := [_, _, _]) (mid := [_, _]) (rest := [_]) N6) (by k_asm) rfl (by ktr_room) (by ktr_units) D3 ne3 (by simp only [List.forall_mem_cons, List.not_mem_nil, false_implies, implies_true, and_true]; omega) (by simp only [List.forall_mem_cons, List.not_mem_nil, false_implies, implies_true, and_true]; omega) (by decide) fun r t o3 o4 h5 tk5 hq0 hq1 D4 F7 N7 => ?_)
    k_steps
    rename Fr _ _ _ _ => F8
    rename News _ _ _ _ => N8
    refine' CEnd_intro (o3, o4) F8 N8 ?hn (by simp only [LCg.Off3]; exact off) ⟨D4, ms ++ [r], hms.append (.cons _ _ .nil), ?hm, ?hl⟩
    case hn => k_allIn
    case hm =>
      intro x hx
      rcases List.mem_append.mp hx with hx | hx
      · exact hmb x hx
      · rw [List.mem_singleton.mp hx]; exact ⟨hq0, hq1⟩
    case hl => rw [List.length_append, hml]; rfl
  · rintro ⟨p1, p2⟩ ys D h4 tk4 ⟨D3, ms, hms, hmb, hml⟩ F6 N6 off
    dsimp only at N6 off D3
    simp only [LCg.Off1] at off
    have hol : (ms.map fun n => n.toNat.toUInt8).length ≤ 12 := by rw [List.length_map]; omega
    k_steps
    · rename Fr _ _ _ _ => F7
      rename News _ _ _ _ => N7
      rename _ ∧ _ ∧ _ ∧ _ < _ => l7
      refine hold_of (take_D (news := _) (by k_asm) F7 (by k_asm) (News_mid (pre := [_, _]) (mid := [_, _]) (rest := [_]) N7) (by k_asm) rfl (by ktr_room) (by ktr_units) D3 ne3 (by simp only [List.cons_append, List.nil_append, List.forall_mem_cons, List.not_mem_nil, false_implies, implies_true, and_true]; omega) (by simp only [List.cons_append, List.nil_append, List.forall_mem_cons, List.not_mem_nil, false_implies, implies_true, and_true]; omega) (by decide) fun r6 t6 o3 o4 h8 tk8 hq0 hq1 D4 F8 N8 => ?_)
      simp only [List.cons_append, List.nil_append] at N8
      k_steps
      refine hold_of (pick_P (vs := [.int 4 _, .int 8 _, .int 4 _, .int 8 _, .int 5 _, .int 1 _]) (fun v => ∃ n t, v = .int n t ∧ (1 : Int) ≤ n ∧ n ≤ 8) (by is_list) hq0 hq1 (Nat.le_of_ble_eq_true rfl) (by simp) ?_)
      rintro _ ⟨many, tm, rfl, hm1, hm8⟩
      obtain ⟨nm, rfl⟩ := Int.eq_ofNat_of_zero_le (show 0 ≤ many by omega)
      k_steps
      rename Fr _ _ _ _ => F9
      rename News _ _ _ _ => N9
      refine hold_of (ListComp_R (h₀ := s1.heap) (L := s1.heap.objs.size) (σ := Obj × Obj) (fun c => [(d, c.1), (l, c.2), (s1.heap.objs.size + 1, o)]) (fun i ys c => DrawO d l c.1 c.2 ∧ ∃ cs, StrsAre ys (ones cs) ∧ (∀ x ∈ cs, x < 128) ∧ cs.length = i) F9 rfl (by decide) rfl (by decide) rfl (fun _ => rfl) ?_)
      k_steps
      rename News _ _ _ _ => N10
      refine ⟨_, _, _, _, _, _, _, nm, (o3, o4), rfl, rfl, by assumption, News_sub N10 (by k_allIn), by assumption, range_small nm 1 (by omega) (by decide) (by decide), (range_size nm 1 (by decide)).trans (by simp), by rw [sizeLine_eq]; omega, ⟨D4, [], .nil, (fun _ h => nomatch h), rfl⟩, ?_, ?_⟩
      · rintro i k t ⟨p1, p2⟩ zs I oI C oC D' m₂ h9 tk9 E' hi hk' ⟨D5, cs, hcs, hcb, hcl⟩ hC hx F11 N11 off' ne
        dsimp only at N11 off' D5
        simp only [LCg.Off3] at off'
        k_steps
        refine hold_of (take_D (news := _) (by k_asm) F11 (by k_asm) (News_mid (pre := [_, _, _]) (mid := [_, _]) (rest := [_]) N11) (by k_asm) rfl (by ktr_room) (by ktr_units) D5 ne3 (by simp only [List.cons_append, List.nil_append, List.forall_mem_cons, List.not_mem_nil, false_implies, implies_true, and_true]; omega) (by simp only [List.cons_append, List.nil_append, List.forall_mem_cons, List.not_mem_nil, false_implies, implies_true, and_true]; omega) (by decide) fun r t o5 o6 h10 tk10 hv0 hv1 D6 F12 N12 => ?_)
        simp only [List.cons_append, List.nil_append] at N12
        k_steps
        · refine hold_of (take_D (news := _) (by k_asm) F12 (by k_asm) N12 (by k_asm) rfl (by ktr_room) (by ktr_units) D6 ne3 (by simp only [List.cons_append, List.nil_append, List.forall_mem_cons, List.not_mem_nil, false_implies, implies_true, and_true]; omega) (by simp only [List.cons_append, List.nil_append, List.forall_mem_cons, List.not_mem_nil, false_implies, implies_true, and_true]; omega) (by decide) fun r' t' o7 o8 h11 tk11 hw0 hw1 D7 F13 N13 => ?_)
          k_steps
          · rename Fr _ _ _ _ => F14
            rename News _ _ _ _ => N14
            refine' CEnd_intro (o7, o8) F14 N14 ?hn (by simp only [LCg.Off3]; exact off') ⟨D7, cs ++ [(Str.ofString "A=+/z9Qb -_x*=").cps.getD r'.toNat 0], ?hs, ?hb, ?hl⟩
            case hn => k_allIn
            case hs =>
              unfold ones
              rw [List.map_append]
              exact StrsAre.append' hcs (.cons _ _ .nil)
            case hb =>
              intro x hx
              rcases List.mem_append.mp hx with hx | hx
              · exact hcb x hx
              · rw [List.mem_singleton.mp hx]; exact mix_lt _
            case hl => rw [List.length_append, hcl]; rfl
          · refine hold_of ⟨hw0, ?_⟩
            rw [mix_len]; exact hw1
        · rename Fr _ _ _ _ => F15
          rename News _ _ _ _ => N15
          refine hold_of (take_D (news := _) (by k_asm) F15 (by k_asm) N15 (by k_asm) rfl (by ktr_room) (by ktr_units) D6 ne3 (by simp only [List.cons_append, List.nil_append, List.forall_mem_cons, List.not_mem_nil, false_implies, implies_true, and_true]; omega) (by simp only [List.cons_append, List.nil_append, List.forall_mem_cons, List.not_mem_nil, false_implies, implies_true, and_true]; omega) (by decide) fun r' t' o7 o8 h11 tk11 hw0 hw1 D7 F13 N13 => ?_)
          k_steps
          · rename Fr _ _ _ _ => F14
            rename News _ _ _ _ => N14
            refine' CEnd_intro (o7, o8) F14 N14 ?hn (by simp only [LCg.Off3]; exact off') ⟨D7, cs ++ [alpha.cps.getD r'.toNat 0], ?hs, ?hb, ?hl⟩
            case hn => k_allIn
            case hs =>
              unfold ones
              rw [List.map_append]
              exact StrsAre.append' hcs (.cons _ _ .nil)
            case hb =>
              intro x hx
              rcases List.mem_append.mp hx with hx | hx
              · exact hcb x hx
              · rw [List.mem_singleton.mp hx]; exact alpha_lt _
            case hl => rw [List.length_append, hcl]; rfl
          · refine hold_of ⟨hw0, ?_⟩
            rw [alpha_len]; exact hw1
      · rintro ⟨p1, p2⟩ zs D' h9 tk9 ⟨D5, cs, hcs, hcb, hcl⟩ F11 N11 off'
        dsimp only at N11 off' D5
        simp only [LCg.Off1] at off'
        unfold ones at hcs
        k_steps
        rename Fr _ _ _ _ => F12
        rename News _ _ _ _ => N12
        rename _ ∧ _ ∧ _ ∧ _ < _ => l12
        refine hold_of (take_D (news := _) (by k_asm) F12 (by k_asm) (News_mid (pre := [_, _]) (mid := [_, _]) (rest := [_]) N12) (by k_asm) rfl (by ktr_room) (by ktr_units) D5 ne3 (by simp only [List.cons_append, List.nil_append, List.forall_mem_cons, List.not_mem_nil, false_implies, implies_true, and_true]; omega) (by simp only [List.cons_append, List.nil_append, List.forall_mem_cons, List.not_mem_nil, false_implies, implies_true, and_true]; omega) (by decide) fun r3 t3 o5 o6 h10 tk10 hv0 hv1 D6 F13 N13 => ?_)
        simp only [List.cons_append, List.nil_append] at N13
        k_steps
        refine hold_of (pick_P (vs := [.str (Str.ofString "") _, .str (Str.ofString "=") _, .str (Str.ofString "==") _]) (fun v => ∃ e t, v = .str ⟨(List.replicate e 61).toArray⟩ t ∧ e ≤ 2) (by is_list) hv0 hv1 (Nat.le_of_ble_eq_true rfl) ends_P ?_)
        rintro _ ⟨e, te, rfl, he⟩
        k_steps
        rename Fr _ _ _ _ => F16
        rename News _ _ _ _ => N16
        obtain ⟨l2, hl2⟩ := str_list F16
        have hlen2 : l2.length ≤ 12 := by rw [hl2, List.length_append, List.length_take, List.length_replicate]; omega
        have hb2 : ∀ c ∈ l2, c < 128 := by
          rw [hl2]
          intro c hc
          rcases List.mem_append.mp hc with hc | hc
          · exact hcb c (List.mem_of_mem_take hc)
          · rw [(List.mem_replicate.mp hc).2]; decide
        rw [← hl2] at F16 ⊢
        clear hl2
        by_cases hg : goodD l2
        · refine hold_of (read_G (by k_asm) F16 (by k_asm) (by k_asm) N16 (by k_asm) (by k_asm) rfl (by ktr_room) (by ktr_units) hlen2 hb2 hg fun t h' tk' F17 N17 => ?_)
          k_steps
        · refine hold_of (read_N (by k_asm) F16 (by k_asm) (by k_asm) N16 (by k_asm) (by k_asm) rfl (by ktr_room) (by ktr_units) hlen2 hb2 hg fun h' tk' F17 N17 => ?_)
          k_steps
    · refine hold_of fun n hn => hmb n hn

end
end Mine
end
set_option maxRecDepth 100000 in
set_option maxHeartbeats 8000000 in
theorem PySem.Challenge.cw_ah6001_01_holds : PySem.Challenge.rw_ah6001_01.Holds := by
  exact Mine.law_ok
