import PyProof.Rows.All
import Wide.All
import OpenK.AllK
import Wide.FinOn
import PySem.Challenge.RW_bq0024_01
open PySem PySem.W PyProof.Rows PySem.Calls PyProof.V PySem.Spec
set_option Elab.async false
set_option maxRecDepth 100000
set_option maxHeartbeats 8000000
set_option linter.unusedVariables false
namespace Mine
open_top hd for PySem.Challenge.rw_bq0024_01
section
section
variable {prog : Program} {w : World} {A : Around} {E : Value → Shared → Prop} {s : Shared} {env : Env} {h₀ : Heap} {x : Str} {body : List Stmt} {Q : Flow → Shared → Prop}

def BrkEnd (h₀ : Heap) (L : Addr) (JB : (Str → Option Value) → List (Addr × Obj) → Prop) (s₁ s₂ : Shared) : Prop :=
  ∃ h' tk m' nx, s₂ = { s₁ with heap := h', toks := tk } ∧ Fr h₀ L h' m' ∧ News h₀ L h' nx ∧ JB m' nx
theorem BrkEnd.intro {L : Addr} {JB : (Str → Option Value) → List (Addr × Obj) → Prop} {m' : Str → Option Value} {nx : List (Addr × Obj)} {s₁ : Shared} {h' : Heap} {tk : Nat}
    (F : Fr h₀ L h' m') (N : News h₀ L h' nx) (hj : JB m' nx) : BrkEnd h₀ L JB s₁ { s₁ with heap := h', toks := tk } := ⟨h', tk, m', nx, rfl, F, N, hj⟩
/-- a turn's end: a return, a break (JB), or on to the next turn (J) -/
def InvPostB (h₀ : Heap) (L : Addr) (J JB : (Str → Option Value) → List (Addr × Obj) → Prop) (own : List (Addr × Obj)) (adr : List Addr) (s₁ : Shared) (Q : Flow → Shared → Prop) (f : Flow) (s₂ : Shared) : Prop :=
  match f with
  | .ret v => Q (.ret v) s₂
  | .brk => BrkEnd h₀ L JB s₁ s₂
  | _ => InvEndN h₀ L J own adr s₁ s₂

theorem iter_rangeB {r : Addr} {a₀ b₀ : Int} {t₀ u₀ v₀ : Tok} {n : Nat} {m₀ : Str → Option Value} {news : List (Addr × Obj)}
    (J : Nat → (Str → Option Value) → List (Addr × Obj) → Prop) (JB : (Str → Option Value) → List (Addr × Obj) → Prop)
    (hh : A.handled = none) (hr : IsRange s.heap r a₀ b₀ 1 t₀ u₀ v₀) (hsmall : Builtin.Range.small a₀ b₀ 1 = true) (hn : Builtin.Range.rangeSize a₀ b₀ 1 = (n : Int)) (F : Fr h₀ env.locals s.heap m₀) (N : News h₀ env.locals s.heap news) (hj : J 0 m₀ news)
    (turn : ∀ i t m₁ nx h tk own, i < n → nx.map (·.1) = news.map (·.1) → OwnOff own (news.map (·.1)) → J i m₁ nx → Fr h₀ env.locals h (fun y => if y = x then some (.int (a₀ + (i : Int)) t) else m₁ y) → News h₀ env.locals h (nx ++ own) →
      wpAny (model prog w) A (execs body env) (InvPostB h₀ env.locals (J (i + 1)) JB own (news.map (·.1)) { s with heap := h, toks := tk } Q) E { s with heap := h, toks := tk })
    (done : ∀ m₁ nx, J n m₁ nx → JB m₁ nx)
    (fin : ∀ m₁ nx h tk, JB m₁ nx → Fr h₀ env.locals h m₁ → News h₀ env.locals h nx → Q .next { s with heap := h, toks := tk }) :
    wpAny (model prog w) A (pyIter (.ref r)) (fun it s₂ => LoopAtV prog w A h₀ env x body Q E it s₂) E s := by
  refine wpAny_pyIter_range hr hsmall ?_
  have W : Walks prog w A s.heap.objs.size [s.heap.objs.size] [s.heap.objs.size] n (fun i v => i < n ∧ ∃ t, v = .int (a₀ + i * 1) t)
      (fun i h => IsRangeIter h s.heap.objs.size (a₀ + (i : Nat) * 1) ((n : Int) - (i : Nat)) 1) := (Walks.range hh _ a₀ 1 n).bound
  refine loop_invN J W ?_ ?_ ?_ ?_ (by show IsRangeIter _ _ _ _ _; rw [hn]; simpa using Heap.get?_push_size _ rfl) (F.push _) (fun p hp => ⟨Heap.get?_push_of_some _ (N p hp).1, (N p hp).2⟩) hj ?_ ?_
  · intro hm
    exact absurd F.ns.lt ((List.mem_singleton.mp hm) ▸ Nat.lt_irrefl _)
  · intro b hb
    rw [List.mem_singleton.mp hb]
    exact next_is_new F
  · intro p hp hI
    exact absurd (Heap.lt_size (N p hp).1) ((List.mem_singleton.mp hI) ▸ Nat.lt_irrefl _)
  · intro p hp hI
    exact absurd (Heap.lt_size (N p hp).1) ((List.mem_singleton.mp hI) ▸ Nat.lt_irrefl _)
  · rintro i v m₁ nx h tk own hi ⟨_, t, rfl⟩ hadr hoff hJ F' N'
    rw [Int.mul_one] at F'
    refine wpAny_mono (turn i t m₁ nx h tk own hi hadr hoff hJ F' N') (fun f s₂ p => ?_) fun _ _ e => e
    cases f with
    | ret v => exact p
    | brk =>
      obtain ⟨h', tk', m', nx', e, F'', N'', hb⟩ := p
      subst e
      exact fin m' nx' h' tk' hb F'' N''
    | next => exact p
    | cont => exact p
  · intro m₁ nx h tk hJ F' N'
    exact fin m₁ nx h tk (done m₁ nx hJ) F' N'
end

section
variable {prog : Program} {w : World} {A : Around} {E : Value → Shared → Prop} {s : Shared} {env : Env} {h₀ : Heap} {x : Str} {body : List Stmt} {Q : Flow → Shared → Prop}
/-- what a turn of a search leaves: the loop's name alone is stored, the ledger stands -/
def SeekJ (x : Str) (m₀ : Str → Option Value) (news : List (Addr × Obj)) (k : Int) (P : Prop) (m' : Str → Option Value) (nx : List (Addr × Obj)) : Prop :=
  nx = news ∧ (∀ z, z ≠ x → m' z = m₀ z) ∧ (∃ t, m' x = some (.int k t)) ∧ P
def SeekB (x : Str) (m₀ : Str → Option Value) (news : List (Addr × Obj)) (a₀ : Int) (PB : Nat → Prop) (m' : Str → Option Value) (nx : List (Addr × Obj)) : Prop :=
  ∃ i : Nat, SeekJ x m₀ news (a₀ + (i : Int)) (PB i) m' nx
theorem SeekJ.of {k : Int} {P : Prop} {m₀ : Str → Option Value} {news : List (Addr × Obj)} {t : Tok} (hp : P) : SeekJ x m₀ news k P (fun y => if y = x then some (.int k t) else m₀ y) news :=
  ⟨rfl, fun z hz => by simp [hz], ⟨t, by simp⟩, hp⟩
theorem seek_brk {L : Addr} {J : (Str → Option Value) → List (Addr × Obj) → Prop} {m₀ : Str → Option Value} {news own : List (Addr × Obj)} {adr : List Addr} {a₀ : Int} {PB : Nat → Prop} {i : Nat} {t : Tok} {s₁ : Shared} {h' : Heap} {tk : Nat}
    (F : Fr h₀ L h' (fun y => if y = x then some (.int (a₀ + (i : Int)) t) else m₀ y)) (N : News h₀ L h' (news ++ own)) (hp : PB i) :
    InvPostB h₀ L J (SeekB x m₀ news a₀ PB) own adr s₁ Q .brk { s₁ with heap := h', toks := tk } :=
  BrkEnd.intro F (fun p h => N p (List.mem_append_left _ h)) ⟨i, SeekJ.of hp⟩
theorem seek_next {L : Addr} {JB : (Str → Option Value) → List (Addr × Obj) → Prop} {m₀ : Str → Option Value} {news own : List (Addr × Obj)} {k : Int} {P : Prop} {t : Tok} {s₁ : Shared} {h' : Heap} {tk : Nat}
    (F : Fr h₀ L h' (fun y => if y = x then some (.int k t) else m₀ y)) (N : News h₀ L h' (news ++ own)) (hp : P) :
    InvPostB h₀ L (SeekJ x m₀ news k P) JB own (news.map (·.1)) s₁ Q .next { s₁ with heap := h', toks := tk } :=
  InvEndN.intro F N (SeekJ.of hp) rfl (fun _ h => List.mem_append_left _ h) (fun _ h => List.mem_append_right _ h)
theorem iter_seek {r : Addr} {a₀ b₀ : Int} {t₀ u₀ v₀ : Tok} {n : Nat} {m₀ : Str → Option Value} {news : List (Addr × Obj)} (P PB : Nat → Prop)
    (hh : A.handled = none) (hr : IsRange s.heap r a₀ b₀ 1 t₀ u₀ v₀) (hsmall : Builtin.Range.small a₀ b₀ 1 = true) (hn : Builtin.Range.rangeSize a₀ b₀ 1 = (n : Int)) (F : Fr h₀ env.locals s.heap m₀) (N : News h₀ env.locals s.heap news) (hpos : 0 < n) (h0 : P 0)
    (turn : ∀ i t h tk own, i < n → OwnOff own (news.map (·.1)) → P i → Fr h₀ env.locals h (fun y => if y = x then some (.int (a₀ + (i : Int)) t) else m₀ y) → News h₀ env.locals h (news ++ own) →
      wpAny (model prog w) A (execs body env) (InvPostB h₀ env.locals (SeekJ x m₀ news (a₀ + (i : Int)) (P (i + 1))) (SeekB x m₀ news a₀ PB) own (news.map (·.1)) { s with heap := h, toks := tk } Q) E { s with heap := h, toks := tk })
    (done : P n → PB (n - 1))
    (fin : ∀ (i : Nat) t h tk, PB i → Fr h₀ env.locals h (fun y => if y = x then some (.int (a₀ + (i : Int)) t) else m₀ y) → News h₀ env.locals h news → Q .next { s with heap := h, toks := tk }) :
    wpAny (model prog w) A (pyIter (.ref r)) (fun it s₂ => LoopAtV prog w A h₀ env x body Q E it s₂) E s := by
  refine iter_rangeB (fun i m' nx => nx = news ∧ (∀ z, z ≠ x → m' z = m₀ z) ∧ (0 < i → ∃ t, m' x = some (.int (a₀ + (i : Int) - 1) t)) ∧ P i) (SeekB x m₀ news a₀ PB) hh hr hsmall hn F N ⟨rfl, fun _ _ => rfl, fun h => absurd h (Nat.lt_irrefl _), h0⟩ ?_ ?_ ?_
  · rintro i t m₁ nx h tk own hi _ hoff ⟨rfl, hm, _, hP⟩ F' N'
    have e : (fun y => if y = x then some (Value.int (a₀ + (i : Int)) t) else m₁ y) = fun y => if y = x then some (Value.int (a₀ + (i : Int)) t) else m₀ y := map_none hm
    rw [e] at F'
    refine wpAny_mono (turn i t h tk own hi hoff hP F' N') (fun f s₂ p => ?_) fun _ _ e => e
    have fin' : InvEndN h₀ env.locals (SeekJ x m₀ nx (a₀ + (i : Int)) (P (i + 1))) own (nx.map (·.1)) { s with heap := h, toks := tk } s₂ →
        InvEndN h₀ env.locals (fun m' nx' => nx' = nx ∧ (∀ z, z ≠ x → m' z = m₀ z) ∧ (0 < i + 1 → ∃ t, m' x = some (.int (a₀ + ((i + 1 : Nat) : Int) - 1) t)) ∧ P (i + 1)) own (nx.map (·.1)) { s with heap := h, toks := tk } s₂ := by
      rintro ⟨h', tk', m', news', nx', e, F'', N'', hn', ho, ha, h1, h2, ⟨t', h3⟩, h4⟩
      exact ⟨h', tk', m', news', nx', e, F'', N'', hn', ho, ha, h1, h2, fun _ => ⟨t', by rw [h3]; congr 2; omega⟩, h4⟩
    cases f with
    | ret v => exact p
    | brk => exact p
    | next => exact fin' p
    | cont => exact fin' p
  · rintro m₁ nx ⟨rfl, hm, hx, hP⟩
    obtain ⟨t, hx⟩ := hx hpos
    exact ⟨n - 1, rfl, hm, ⟨t, by rw [hx]; congr 2; omega⟩, done hP⟩
  · rintro m₁ nx h tk ⟨i, rfl, hm, ⟨t, hx⟩, hP⟩ F' N'
    have e : (fun y => if y = x then some (Value.int (a₀ + (i : Int)) t) else m₀ y) = m₁ := by
      funext z
      by_cases hz : z = x
      · simp [hz, hx]
      · simp only [if_neg hz]; exact (hm z hz).symm
    refine fin i t h tk hP ?_ N'
    rw [e]; exact F'
end

def Paused (P : Prop) : Prop := P
theorem pause {P : Prop} (h : Paused P) : P := h
theorem Paused.go {P : Prop} (h : P) : Paused P := h

theorem news_cons {h₀ h : Heap} {L : Addr} {a : Addr} {o : Obj} {big r : List (Addr × Obj)} (h1 : (a, o) ∈ big) (N : News h₀ L h big) (h2 : News h₀ L h r) : News h₀ L h ((a, o) :: r) := by
  intro p hp
  rcases List.mem_cons.mp hp with rfl | hp
  · exact N _ h1
  · exact h2 p hp
theorem allLt_mem {d : Addr} : ∀ {l : List (Addr × Obj)}, AllLt d l → ∀ p ∈ l, p.1 < d := by
  intro l
  induction l with
  | nil => intro _ p hp; cases hp
  | cons q r ih =>
    intro h p hp
    rcases List.mem_cons.mp hp with e | hp
    · rw [e]; exact h.1
    · exact ih h.2 p hp
theorem allLt_ne {d c : Addr} {l : List (Addr × Obj)} (h : AllLt d l) (hc : @LE.le Nat _ d c) : ∀ p ∈ l, p.1 ≠ c := fun p hp => Nat.ne_of_lt (Nat.lt_of_lt_of_le (allLt_mem h p hp) hc)
theorem all_append {c : Addr} {l r : List (Addr × Obj)} (h1 : ∀ p ∈ l, p.1 ≠ c) (h2 : ∀ p ∈ r, p.1 ≠ c) : ∀ p ∈ l ++ r, p.1 ≠ c := fun p hp => (List.mem_append.mp hp).elim (h1 p) (h2 p)
theorem ints_cast {vs : List Value} {ns ms : List Int} (h : IntsAre vs ns) (e : ns = ms) : IntsAre vs ms := e ▸ h

/-! the strip of leading noughts -/
def stripZ : List Int → List Int
  | [] => []
  | [x] => [x]
  | x :: y :: r => if x = 0 then stripZ (y :: r) else x :: y :: r
theorem stripZ_drop : ∀ (ns : List Int) (i : Nat), i < ns.length → (∀ j, j < i → ns.getD j 0 = 0) → (ns.getD i 0 ≠ 0 ∨ i + 1 = ns.length) → ns.drop i = stripZ ns
  | [], _, h, _, _ => absurd h (Nat.not_lt_zero _)
  | [x], i, h, _, _ => by
    have : i = 0 := by simp at h; omega
    subst this; rfl
  | x :: y :: r, 0, _, _, h => by
    have hx : x ≠ 0 := by
      rcases h with h | h
      · simpa using h
      · simp at h
    simp [stripZ, hx]
  | x :: y :: r, i + 1, h, hz, hs => by
    have hx : x = 0 := by simpa using hz 0 (Nat.succ_pos _)
    rw [stripZ, if_pos hx, List.drop_succ_cons]
    refine stripZ_drop (y :: r) i (by simpa using h) (fun j hj => by simpa using hz (j + 1) (Nat.succ_lt_succ hj)) ?_
    rcases hs with hs | hs
    · left; simpa using hs
    · right; simpa using hs
end
section
local macro_rules | `(tactic| walk_at "pad 0") => `(tactic| skip)
def expL : List Int := [1, 2, 4, 8, 16, 32, 64, 128, 29, 58, 116, 232, 205, 135, 19, 38, 76, 152, 45, 90, 180, 117, 234, 201, 143, 3, 6, 12, 24, 48, 96, 192, 157, 39, 78, 156, 37, 74, 148, 53, 106, 212, 181, 119, 238, 193, 159, 35, 70, 140, 5, 10, 20, 40, 80, 160, 93, 186, 105, 210, 185, 111, 222, 161, 95, 190, 97, 194, 153, 47, 94, 188, 101, 202, 137, 15, 30, 60, 120, 240, 253, 231, 211, 187, 107, 214, 177, 127, 254, 225, 223, 163, 91, 182, 113, 226, 217, 175, 67, 134, 17, 34, 68, 136, 13, 26, 52, 104, 208, 189, 103, 206, 129, 31, 62, 124, 248, 237, 199, 147, 59, 118, 236, 197, 151, 51, 102, 204, 133, 23, 46, 92, 184, 109, 218, 169, 79, 158, 33, 66, 132, 21, 42, 84, 168, 77, 154, 41, 82, 164, 85, 170, 73, 146, 57, 114, 228, 213, 183, 115, 230, 209, 191, 99, 198, 145, 63, 126, 252, 229, 215, 179, 123, 246, 241, 255, 227, 219, 171, 75, 150, 49, 98, 196, 149, 55, 110, 220, 165, 87, 174, 65, 130, 25, 50, 100, 200, 141, 7, 14, 28, 56, 112, 224, 221, 167, 83, 166, 81, 162, 89, 178, 121, 242, 249, 239, 195, 155, 43, 86, 172, 69, 138, 9, 18, 36, 72, 144, 61, 122, 244, 245, 247, 243, 251, 235, 203, 139, 11, 22, 44, 88, 176, 125, 250, 233, 207, 131, 27, 54, 108, 216, 173, 71, 142, 1]
def logL : List Int := [0, 0, 1, 25, 2, 50, 26, 198, 3, 223, 51, 238, 27, 104, 199, 75, 4, 100, 224, 14, 52, 141, 239, 129, 28, 193, 105, 248, 200, 8, 76, 113, 5, 138, 101, 47, 225, 36, 15, 33, 53, 147, 142, 218, 240, 18, 130, 69, 29, 181, 194, 125, 106, 39, 249, 185, 201, 154, 9, 120, 77, 228, 114, 166, 6, 191, 139, 98, 102, 221, 48, 253, 226, 152, 37, 179, 16, 145, 34, 136, 54, 208, 148, 206, 143, 150, 219, 189, 241, 210, 19, 92, 131, 56, 70, 64, 30, 66, 182, 163, 195, 72, 126, 110, 107, 58, 40, 84, 250, 133, 186, 61, 202, 94, 155, 159, 10, 21, 121, 43, 78, 212, 229, 172, 115, 243, 167, 87, 7, 112, 192, 247, 140, 128, 99, 13, 103, 74, 222, 237, 49, 197, 254, 24, 227, 165, 153, 119, 38, 184, 180, 124, 17, 68, 146, 217, 35, 32, 137, 46, 55, 63, 209, 91, 149, 188, 207, 205, 144, 135, 151, 178, 220, 252, 190, 97, 242, 86, 211, 171, 20, 42, 93, 158, 132, 60, 57, 83, 71, 109, 65, 162, 31, 45, 67, 216, 183, 123, 164, 118, 196, 23, 73, 236, 127, 12, 111, 246, 108, 161, 59, 82, 41, 157, 85, 170, 251, 96, 134, 177, 187, 204, 62, 90, 203, 89, 95, 176, 156, 169, 160, 81, 11, 245, 22, 235, 122, 117, 44, 215, 79, 174, 213, 233, 230, 231, 173, 232, 116, 214, 244, 234, 168, 80, 88, 175]

def intsB : List Value → List Int → Bool
  | [], [] => true
  | .int n _ :: vs, m :: ns => n == m && intsB vs ns
  | _, _ => false
theorem intsB_of : ∀ {vs : List Value} {ns : List Int}, intsB vs ns = true → IntsAre vs ns
  | [], [], _ => .nil
  | .int n t :: vs, m :: ns, h => by
    simp only [intsB, Bool.and_eq_true, beq_iff_eq] at h
    obtain ⟨rfl, h2⟩ := h
    exact .cons n t (intsB_of h2)
  | [], _ :: _, h => by simp [intsB] at h
  | .int _ _ :: _, [], h => by simp [intsB] at h
  | .none :: _, l, h => by cases l <;> simp [intsB] at h
  | .ellipsis :: _, l, h => by cases l <;> simp [intsB] at h
  | .notImplemented :: _, l, h => by cases l <;> simp [intsB] at h
  | .bool _ :: _, l, h => by cases l <;> simp [intsB] at h
  | .float _ _ :: _, l, h => by cases l <;> simp [intsB] at h
  | .str _ _ :: _, l, h => by cases l <;> simp [intsB] at h
  | .bytes _ _ :: _, l, h => by cases l <;> simp [intsB] at h
  | .type _ :: _, l, h => by cases l <;> simp [intsB] at h
  | .builtin _ :: _, l, h => by cases l <;> simp [intsB] at h
  | .ref _ :: _, l, h => by cases l <;> simp [intsB] at h
theorem ints_get {vs : List Value} {ns : List Int} {k : Int} (hi : IntsAre vs ns) (h0 : 0 ≤ k) (h1 : k < ns.length) : ∃ t, vs[k.toNat]? = some (.int (ns.getD k.toNat 0) t) := hi.get k.toNat _ (ints_getD h0 h1)

section
variable {prog : Program} {w : World} {A : Around} {E : Value → Shared → Prop} {s : Shared} {h₀ : Heap} {L a : Addr} {m : Str → Option Value} {K : Frag} {n : Nat} 
theorem topItemI {value slice : PySem.Expr} {l : List Value} {ns : List Int} {dd : Option Addr} {sl : Array (Option Value)} {k : Int} {u : Tok} {Q : Value → Shared → Prop} (F : Fr h₀ L s.heap m) (X₀ : K.In h₀) (hl : K.lookup a = some ⟨.type "list", dd, .seq l.toArray n, sl⟩)
    (hi : IntsAre l ns) (h0 : 0 ≤ k) (h1 : k < ns.length) (hhi : k < 2 ^ 63) (h : ∀ t, Q (.int (ns.getD k.toNat 0) t) s)
    (hs : subscripted slice false (.ref a) (.int k u) = operate [.ref a, .int k u] (getItem (.ref a) (.int k u)) := by with_unfolding_all rfl) :
    wpAny (model prog w) A (subscriptTail value slice (.ref a) (.int k u)) Q E s :=
  have hL := lstK (X₀.keeps F.keep) hl
  have ⟨t, hx⟩ := ints_get hi h0 h1
  tail_any hL.typeIs slot_list_getitem.lookup (wpAny_getItem_list hL h0 hhi (by simpa using hx) (h t)) hs
end
theorem expL_len : expL.length = 256 := by decide
theorem logL_len : logL.length = 256 := by decide

/-- what gexp gives -/
def gexpI (n : Int) : Int := expL.getD (n.fmod 255).toNat 0
/-- what glog gives -/
def glogI (n : Int) : Int := logL.getD n.toNat 0

/-! bits -/
theorem nat_xor_add (a b : Nat) : (a ^^^ b) + 2 * (a &&& b) = a + b := by
  induction a using Nat.strongRecOn generalizing b with
  | ind a ih =>
    cases a with
    | zero => simp
    | succ a =>
      have h := ih ((a + 1) / 2) (by omega) (b / 2)
      rw [← Nat.xor_div_two, ← Nat.and_div_two] at h
      have hx := @Nat.xor_mod_two_eq_one (a + 1) b
      have ha := @Nat.and_mod_two_eq_one (a + 1) b
      generalize (a + 1) ^^^ b = u at *
      generalize (a + 1) &&& b = v at *
      rcases Nat.mod_two_eq_zero_or_one (a + 1) with h1 | h1 <;> rcases Nat.mod_two_eq_zero_or_one b with h2 | h2 <;>
        rcases Nat.mod_two_eq_zero_or_one u with h3 | h3 <;> rcases Nat.mod_two_eq_zero_or_one v with h4 | h4 <;> simp only [h1, h2, h3, h4] at hx ha <;> simp at hx ha <;> omega
theorem bx_nat (a b : Nat) : Builtin.bitXor (a : Int) (b : Int) = ((a ^^^ b : Nat) : Int) := by
  rw [bitXor_and]
  have h : Builtin.bitAnd (a : Int) (b : Int) = ((a &&& b : Nat) : Int) := by
    unfold Builtin.bitAnd
    rw [decide_eq_true (Int.natCast_nonneg a), decide_eq_true (Int.natCast_nonneg b)]
    rfl
  rw [h]
  have := nat_xor_add a b
  omega
theorem bx_of {x y : Int} (hx : 0 ≤ x) (hy : 0 ≤ y) : Builtin.bitXor x y = ((x.toNat ^^^ y.toNat : Nat) : Int) := by
  obtain ⟨a, rfl⟩ := Int.eq_ofNat_of_zero_le hx
  obtain ⟨b, rfl⟩ := Int.eq_ofNat_of_zero_le hy
  exact bx_nat a b
theorem bx_byte {x y : Int} (hx : 0 ≤ x ∧ x < 256) (hy : 0 ≤ y ∧ y < 256) : 0 ≤ Builtin.bitXor x y ∧ Builtin.bitXor x y < 256 := by
  rw [bx_of hx.1 hy.1]
  have : x.toNat ^^^ y.toNat < 2 ^ 8 := Nat.xor_lt_two_pow (by omega) (by omega)
  omega
theorem getD_all {l : List Int} {P : Int → Prop} {i : Nat} (hi : i < l.length) (h : ∀ x ∈ l, P x) : P (l.getD i 0) := by
  have e : l.getD i 0 = l[i] := by simp [List.getD, hi]
  rw [e]
  exact h _ (List.getElem_mem hi)
theorem expL_byte : ∀ x ∈ expL, 1 ≤ x ∧ x < 256 := by decide +kernel
theorem gexpI_byte (n : Int) : 1 ≤ gexpI n ∧ gexpI n < 256 := by
  have h0 : 0 ≤ n.fmod 255 := Int.fmod_nonneg_of_pos _ (by decide)
  have h1 : n.fmod 255 < 255 := Int.fmod_lt_of_pos _ (by decide)
  exact getD_all (P := fun x => 1 ≤ x ∧ x < 256) (by rw [expL_len]; omega) expL_byte
theorem gexp_glogN : ∀ k : Nat, k < 256 → 1 ≤ k → gexpI (glogI (k : Int)) = (k : Int) := by decide +kernel
theorem gexp_glog {x : Int} (h1 : 1 ≤ x) (h2 : x < 256) : gexpI (glogI x) = x := by
  obtain ⟨a, rfl⟩ := Int.eq_ofNat_of_zero_le (show 0 ≤ x by omega)
  exact gexp_glogN a (by omega) (by omega)

/-! a polynomial's remainder, as the program reckons it -/
def modStep (xs ys : List Int) : List Int := List.zipWith (fun a b => Builtin.bitXor a (gexpI (glogI b + (glogI (xs.getD 0 0) - glogI (ys.getD 0 0))))) xs ys ++ xs.drop ys.length
def polyModF : Nat → List Int → List Int → List Int
  | 0, xs, _ => xs
  | k + 1, xs, ys => if xs.length < ys.length then xs else polyModF k (stripZ (modStep xs ys)) ys
theorem modStep_length {xs ys : List Int} (h : ys.length ≤ xs.length) : (modStep xs ys).length = xs.length := by
  unfold modStep
  rw [List.length_append, List.length_zipWith, List.length_drop]
  omega
theorem stripZ_len : ∀ xs : List Int, (stripZ xs).length ≤ xs.length
  | [] => Nat.le_refl _
  | [_] => Nat.le_refl _
  | x :: y :: r => by
    unfold stripZ
    split
    · exact Nat.le_succ_of_le (stripZ_len (y :: r))
    · exact Nat.le_refl _
theorem stripZ_pos : ∀ xs : List Int, 0 < xs.length → 0 < (stripZ xs).length
  | [], h => h
  | [_], h => h
  | x :: y :: r, h => by
    unfold stripZ
    split
    · exact stripZ_pos (y :: r) (by simp)
    · exact h
theorem stripZ_mem : ∀ (xs : List Int) (x : Int), x ∈ stripZ xs → x ∈ xs
  | [], _, h => h
  | [_], _, h => h
  | x :: y :: r, z, h => by
    unfold stripZ at h
    split at h
    · exact List.mem_cons_of_mem _ (stripZ_mem (y :: r) z h)
    · exact h
theorem stripZ_head : ∀ xs : List Int, 2 ≤ (stripZ xs).length → (stripZ xs).getD 0 0 ≠ 0
  | [], h => by simp [stripZ] at h
  | [_], h => by simp [stripZ] at h
  | x :: y :: r, h => by
    unfold stripZ at h ⊢
    split
    · rename_i hx
      rw [if_pos hx] at h
      exact stripZ_head (y :: r) h
    · simpa using ‹¬ x = 0›
theorem modStep_head {xs ys : List Int} (hx : 1 ≤ xs.getD 0 0) (hx' : xs.getD 0 0 < 256) (hxl : 0 < xs.length) (hy : 0 < ys.length) : (modStep xs ys).getD 0 0 = 0 := by
  cases xs with
  | nil => simp at hxl
  | cons a xs =>
    cases ys with
    | nil => simp at hy
    | cons b ys =>
      simp only [modStep, List.getD_cons_zero, List.zipWith_cons_cons, List.cons_append] at hx hx' ⊢
      rw [show glogI b + (glogI a - glogI b) = glogI a by omega, gexp_glog hx hx', bitXor_self]
theorem stripZ_lt {xs : List Int} (h : 2 ≤ xs.length) (h0 : xs.getD 0 0 = 0) : (stripZ xs).length < xs.length := by
  match xs, h with
  | x :: y :: r, _ =>
    have hx : x = 0 := by simpa using h0
    unfold stripZ
    rw [if_pos hx]
    exact Nat.lt_succ_of_le (stripZ_len (y :: r))
theorem modStep_byte {xs ys : List Int} (hx : ∀ x ∈ xs, 0 ≤ x ∧ x < 256) : ∀ x ∈ modStep xs ys, 0 ≤ x ∧ x < 256 := by
  intro x h
  unfold modStep at h
  rcases List.mem_append.mp h with h | h
  · rw [List.mem_iff_getElem] at h
    obtain ⟨i, hi, rfl⟩ := h
    rw [List.getElem_zipWith]
    rw [List.length_zipWith] at hi
    have := gexpI_byte (glogI ys[i] + (glogI (xs.getD 0 0) - glogI (ys.getD 0 0)))
    exact bx_byte (hx _ (List.getElem_mem (by omega))) ⟨by omega, this.2⟩
  · exact hx x (List.mem_of_mem_drop h)
theorem polyModF_short {k : Nat} {xs ys : List Int} (h : xs.length < ys.length) : polyModF k xs ys = xs := by
  cases k with
  | zero => rfl
  | succ k => exact if_pos h
theorem polyModF_step {k : Nat} {xs ys : List Int} (hk : 0 < k) (h : ys.length ≤ xs.length) : polyModF k xs ys = polyModF (k - 1) (stripZ (modStep xs ys)) ys := by
  cases k with
  | zero => exact absurd hk (Nat.lt_irrefl _)
  | succ k => exact if_neg (Nat.not_lt.mpr h)
end
section
/-! a list comprehension over pairs (two names), its turns handed an invariant ledger; then a zip of two lists -/
open LCg in
section
variable {prog : Program} {w : World} {A : Around} {E : Value → Shared → Prop} {s : Shared} {h₀ : Heap} {L : Addr} {m : Str → Option Value} {env : Env}
/-- what an element's evaluation leaves: the ledger stands, the value is as told -/
def ElEnd (h₀ : Heap) (L : Addr) (m : Str → Option Value) (big : List (Addr × Obj)) (R : Value → Prop) (s₁ : Shared) (y : Value) (s₂ : Shared) : Prop :=
  ∃ h' tk big', s₂ = { s₁ with heap := h', toks := tk } ∧ Fr h₀ L h' m ∧ News h₀ L h' big' ∧ (∀ p ∈ big, p ∈ big') ∧ R y
theorem ElEnd.intro {big big' : List (Addr × Obj)} {R : Value → Prop} {s₁ : Shared} {y : Value} {h' : Heap} {tk : Nat} (F : Fr h₀ L h' m) (N : News h₀ L h' big') (hs : ∀ p ∈ big, p ∈ big') (hr : R y) :
    ElEnd h₀ L m big R s₁ y { s₁ with heap := h', toks := tk } := ⟨h', tk, big', rfl, F, N, hs, hr⟩

theorem comp_pairs {elt iter : Expr} {x x₂ : Str} {px px₂ tp : Pos} {tk : Nat} {scope : Scope} {cl : List (Str × Addr)} {pos : Pos} {s₂ : Shared} {I : Addr} {fp wr : List Addr} {n : Nat} {Pt : Nat → Array Value → Prop} {St : Nat → Heap → Prop} {Mid : Nat → Addr → Heap → Prop}
    {P2 : Nat → Value → Value → Prop} {Rel : Nat → Value → Prop} {news : List (Addr × Obj)} {RR : Value → Addr → Result → Shared → Prop}
    (hh : A.handled = none) (W : WalksT prog w A I fp wr n Pt St Mid) (h2 : ∀ i vals, Pt i vals → ∃ v0 v1, vals = #[v0, v1] ∧ P2 i v0 v1) (hsz : n ≤ sizeLine)
    (hcell : ∀ y ∈ scope.names, y.2 ≠ .cell) (hkind : scope.kind = .function) (hx : scope.names.lookup x = some .local) (hx₂ : scope.names.lookup x₂ = some .local) (hxx : x ≠ x₂)
    (hst : St 0 s₂.heap) (hfp : ∀ b ∈ fp, b < s₂.heap.objs.size) (hLf : L ∉ fp) (hwr : ∀ b ∈ wr, h₀.get? b = none) (hnw : ∀ p ∈ news, p.1 ∉ wr)
    (F : Fr h₀ L s₂.heap m) (N : News h₀ L s₂.heap news)
    (turn : ∀ i v0 v1 C oC D ys own m₂ h tk (E' : Value → Shared → Prop), i < n → P2 i v0 v1 → NsObj oC m₂ → m₂ x = some v0 → m₂ x₂ = some v1 → Fr h₀ L h m → News h₀ L h ((C, oC) :: (D, lst ys) :: (news ++ own)) →
      wpAny (model prog w) A (eval elt (compEnvC scope cl C env)) (ElEnd h₀ L m ((C, oC) :: (D, lst ys) :: (news ++ own)) (Rel i) { s₂ with heap := h, toks := tk }) E' { s₂ with heap := h, toks := tk })
    (hRR : ∀ D C h tk m' ys, Fr h₀ L h m → News h₀ L h ((D, lst ys) :: news) → h.Ns C m' → h₀.get? C = none → C ≠ L → D ≠ C → (∀ p ∈ news, p.1 ≠ C) → (∀ p ∈ news, p.1 < D) → ys.length = n → (∀ (i : Nat) y, ys[i]? = some y → Rel i y) → RR (.ref D) C (.ok .next) { s₂ with heap := h, toks := tk }) :
    wpAny (model prog w) A (newList []) (fun acc s₃ => wpAny (model prog w) A (newFunctionEnv scope env.globals cl [] env.qual none .none (some env)) (fun cenv s₄ =>
      codeAny (model prog w) A (.compStart (.ListComp elt [⟨.Tuple [.Name x px, .Name x₂ px₂] tk tp, iter, [], 0⟩] scope pos) 0 (.ref I) acc { cenv with scope := relabel scope env }) (RR acc cenv.locals) s₄) E s₃) E s₂ := by
  refine wpAny_newObj_type (wpAny_newFunctionEnv hcell (by intro y hy; simp at hy) (fun h₁ hns₁ hsb₁ => ?_) hkind)
  dsimp only at hns₁ hsb₁ ⊢
  generalize hH2 : s₂.heap.push { cls := .type "list", dict := none, data := .seq ([] : List Value).toArray } = H2 at hns₁ hsb₁ ⊢
  have hC : H2.objs.size = s₂.heap.objs.size + 1 := by rw [← hH2, Heap.size_push]
  have hLlt : L < s₂.heap.objs.size := F.ns.lt
  have hgt : ∀ b, b < s₂.heap.objs.size → b ≠ H2.objs.size ∧ b ≠ s₂.heap.objs.size := fun b hb => ⟨by rw [hC]; exact Nat.ne_of_lt (Nat.lt_succ_of_lt hb), Nat.ne_of_lt hb⟩
  have old : ∀ b o, s₂.heap.get? b = some o → h₁.get? b = some o := fun b o e => hsb₁.extBut b o (hgt b (Heap.lt_size e)).1 (Heap.get?_push_of_some _ (hH2 ▸ Heap.get?_push_of_some _ e))
  have hDC : s₂.heap.objs.size ≠ H2.objs.size := by rw [hC]; exact Nat.ne_of_lt (Nat.lt_succ_self _)
  have hacc : h₁.get? s₂.heap.objs.size = some (lst []) := hsb₁.extBut _ _ hDC (Heap.get?_push_of_some _ (hH2 ▸ Heap.get?_push_size _ rfl))
  have none₀ : ∀ a, s₂.heap.objs.size ≤ a → h₀.get? a = none := fun a ha => by
    cases e : h₀.get? a with
    | none => rfl
    | some o' => exact absurd (Heap.lt_size (F.keep a o' e)) (Nat.not_lt.mpr ha)
  have hD₀ : h₀.get? s₂.heap.objs.size = none := none₀ _ (Nat.le_refl _)
  have hC₀ : h₀.get? H2.objs.size = none := none₀ _ (by rw [hC]; exact Nat.le_succ _)
  have hDL : s₂.heap.objs.size ≠ L := Ne.symm (hgt L hLlt).2
  have hCL : H2.objs.size ≠ L := Ne.symm (hgt L hLlt).1
  have hDf : s₂.heap.objs.size ∉ fp := fun h => Nat.lt_irrefl _ (hfp _ h)
  have hCf : H2.objs.size ∉ fp := fun h => by have := hfp _ h; rw [hC] at this; exact Nat.lt_irrefl _ (Nat.lt_of_succ_lt this)
  have hDw : s₂.heap.objs.size ∉ wr := fun h => hDf (W.sub _ h)
  have hCw : H2.objs.size ∉ wr := fun h => hCf (W.sub _ h)
  have hLw : L ∉ wr := fun h => hLf (W.sub _ h)
  have oldw : ∀ b o, h₀.get? b = some o → b ∉ wr := fun b o e hb => by rw [hwr b hb] at e; cases e
  have newsC : ∀ p ∈ news, p.1 ≠ H2.objs.size := fun p hp => (hgt _ (Heap.lt_size (N p hp).1)).1
  have newsD : ∀ p ∈ news, p.1 ≠ s₂.heap.objs.size := fun p hp => (hgt _ (Heap.lt_size (N p hp).1)).2
  have loop : ∀ s₃ : Shared, s₃ = { s₂ with heap := h₁, toks := s₂.toks + ([] : List (Str × Value)).length } →
      codeAny (model prog w) A (.compLoop (.ListComp elt [⟨.Tuple [.Name x px, .Name x₂ px₂] tk tp, iter, [], 0⟩] scope pos) 0 (.ref I) (.ref s₂.heap.objs.size) (compEnvC scope cl H2.objs.size env))
        (RR (.ref s₂.heap.objs.size) H2.objs.size) s₃ := by
    rintro s₃ rfl
    refine LCp.codeAny_compLoop_pair
      (fun k s' => ∃ h' tk i ys m', s' = { s₂ with heap := h', toks := tk } ∧ i ≤ n ∧ k = n + 1 - i ∧ ys.length = i ∧ St i h' ∧ Fr h₀ L h' m ∧ h'.Ns H2.objs.size m' ∧ News h₀ L h' ((s₂.heap.objs.size, lst ys) :: news) ∧ ∀ (j : Nat) y, ys[j]? = some y → Rel j y) ?_ (n + 1)
      ⟨h₁, _, 0, [], _, rfl, Nat.zero_le _, rfl, rfl, W.frame _ _ _ hst fun b _ o e => old b o e, F.keeps old, hns₁, fun p hp => ?_, by simp⟩
    · rintro k s' ⟨h', tk, i, ys, m', rfl, hi, rfl, hyl, hst', F', hn', N', hR'⟩
      have nx : ∀ h₂ : Heap, (∀ b o, b ∉ wr → h'.get? b = some o → h₂.get? b = some o) → Fr h₀ L h₂ m ∧ News h₀ L h₂ ((s₂.heap.objs.size, lst ys) :: news) ∧ h₂.Ns H2.objs.size m' := fun h₂ hk₂ =>
        ⟨⟨F'.ns.at' fun o e => hk₂ _ o hLw e, fun b o e => hk₂ b o (oldw b o e) (F'.keep b o e), F'.above⟩,
          fun p hp => ⟨hk₂ _ _ (by rcases List.mem_cons.mp hp with rfl | hp; exact hDw; exact hnw p hp) (N' p hp).1, (N' p hp).2⟩, hn'.at' fun o e => hk₂ _ o hCw e⟩
      by_cases hlt : i < n
      · refine W.item i _ _ _ hlt hst' fun T vals h₂ tk₂ hPt _ hT hMid hk₂ => ?_
        obtain ⟨v0, v1, rfl, hP2⟩ := h2 i vals hPt
        refine W.go _ _ _ i T _ _ _ hMid fun h₃ hst₃ hk₃ => ?_
        have hT₃ : h₃.IsTuple T #[v0, v1] := hT.at fun o e => hk₃ T o (W.apart i T h₂ hMid) e
        obtain ⟨F₃, N₃, n₃⟩ := nx h₃ fun b o hb e => hk₃ b o hb (hk₂ b o hb e)
        refine assign_Tuple_tuple hh hT₃ rfl rfl fun h₄ he => ?_
        have he' : ∀ b o, h₃.get? b = some o → h₄.get? b = some o := fun b o e => he b o (Nat.ne_of_lt (Heap.lt_size e)) e
        refine assignInOrder_cons (wpAny_assign_Name (wpAny_storeName_local (lookup_relabel_local hx) (n₃.at' fun o e => he' _ o e) (fun h₅ hn₅ hs₅ => ?_) (by simp [compEnvC, relabel, hkind])))
        refine assignInOrder_cons (wpAny_assign_Name (wpAny_storeName_local (lookup_relabel_local hx₂) hn₅ (fun h₆ hn₆ hs₆ => ?_) (by simp [compEnvC, relabel, hkind])))
        refine assignInOrder_nil ?_
        have up : ∀ b o, b ≠ H2.objs.size → h₃.get? b = some o → h₆.get? b = some o := fun b o hb e => hs₆.extBut b o hb (hs₅.extBut b o hb (he' b o e))
        have hst₆ : St (i + 1) h₆ := W.frame _ _ _ hst₃ fun b hb o e => up b o (fun q => hCf (q ▸ hb)) e
        have F₆ : Fr h₀ L h₆ m := ((F₃.keeps he').change hs₅ hCL hC₀).change hs₆ hCL hC₀
        obtain ⟨oC, heC, hoC⟩ := ns_obj hn₆
        have N₆ : News h₀ L h₆ ((s₂.heap.objs.size, lst ys) :: news) := fun p hp =>
          ⟨up _ _ (by rcases List.mem_cons.mp hp with rfl | hp; exact hDC; exact newsC p hp) (N₃ p hp).1, (N₃ p hp).2⟩
        have Nb : News h₀ L h₆ ((H2.objs.size, oC) :: (s₂.heap.objs.size, lst ys) :: (news ++ ownOf h₀ fp h₆)) := fun p hp => by
          rcases List.mem_cons.mp hp with rfl | hp
          · exact ⟨heC, hCL, hC₀⟩
          · rcases List.mem_cons.mp hp with rfl | hp
            · exact N₆ _ (.head _)
            · rcases List.mem_append.mp hp with hp | hp
              · exact N₆ p (.tail _ hp)
              · exact news_ownOf hLf p hp
        refine wpAny_mono (turn i v0 v1 H2.objs.size oC s₂.heap.objs.size ys (ownOf h₀ fp h₆) _ h₆ _ _ hlt hP2 hoC (by simp [hxx]) (by simp) F₆ Nb) (fun y s₄ h₄' => ?_) fun _ _ e => e
        obtain ⟨h₇, tk₇, big', rfl, F₇, N₇, hsub, hRy⟩ := h₄'
        have zC := (N₇ _ (hsub (H2.objs.size, oC) (.head _))).1
        have zD := (N₇ _ (hsub (s₂.heap.objs.size, lst ys) (.tail _ (.head _)))).1
        have hst₇ : St (i + 1) h₇ := W.frame _ _ _ hst₆ fun b hb o e => by
          cases hn : h₀.get? b with
          | some o₀ =>
            have : o₀ = o := by have := F₆.keep b o₀ hn; rw [e] at this; exact (Option.some.inj this).symm
            exact this ▸ F₇.keep b o₀ hn
          | none => exact (N₇ _ (hsub _ (.tail _ (.tail _ (List.mem_append_right _ (mem_ownOf hb hn e)))))).1
        refine append_at (hsz := by show ys.toArray.size ≤ sizeLine; rw [List.size_toArray, hyl]; exact Nat.le_trans hi hsz) zD fun h₈ hs₈ hD₈ => ?_
        refine ⟨n + 1 - (i + 1), by omega, h₈, tk₇, i + 1, ys ++ [y], _, rfl, hlt, rfl, by rw [List.length_append, List.length_singleton, hyl], W.frame _ _ _ hst₇ fun b hb o e => hs₈.extBut b o (fun q => hDf (q ▸ hb)) e, F₇.change hs₈ hDL hD₀,
          (hoC.ns zC).sameBut hs₈ (Ne.symm hDC), fun p hp => ?_, fun j z hz => ?_⟩
        · rcases List.mem_cons.mp hp with rfl | hp
          · exact ⟨hD₈.trans (congrArg some (lst_snoc ys y)), hDL, hD₀⟩
          · have z := N₇ p (hsub p (.tail _ (.tail _ (List.mem_append_left _ hp))))
            exact ⟨hs₈.extBut _ _ (newsD p hp) z.1, z.2⟩
        · rcases Nat.lt_or_ge j ys.length with hj | hj
          · rw [List.getElem?_append_left hj] at hz; exact hR' j z hz
          · rw [List.getElem?_append_right hj] at hz
            cases hd : j - ys.length with
            | zero =>
              rw [hd] at hz
              have : j = i := by omega
              subst this
              cases hz; exact hRy
            | succ q => rw [hd] at hz; simp at hz
      · obtain rfl : i = n := Nat.le_antisymm hi (Nat.not_lt.mp hlt)
        refine W.done _ _ _ hst' fun h₂ tk₂ hk₂ => ?_
        obtain ⟨F₃, N₃, n₃⟩ := nx h₂ hk₂
        exact hRR _ _ h₂ tk₂ _ ys F₃ N₃ n₃ hC₀ hCL hDC newsC (fun p hp => Heap.lt_size (N p hp).1) hyl hR'
    · rcases List.mem_cons.mp hp with rfl | hp
      · exact ⟨hacc, hDL, hD₀⟩
      · exact ⟨old _ _ (N p hp).1, (N p hp).2⟩
  exact codeAny_compStart_list (loop _ rfl) (W.self 0 _ _ _ (W.frame _ _ _ hst fun b _ o e => old b o e) (loop _ rfl))
end
end
section
local macro_rules | `(tactic| walk_at "pad 0") => `(tactic| skip)
/-! zip and enumerate over what has an __iter__ of its own -/
section
theorem hold_iter {M : Model} {A : Around} {E : Value → Shared → Prop} {s : Shared} {v : Value} {Q : Value → Shared → Prop} (h : Paused (wpAny M A (pyIter v) Q E s)) : wpAny M A (pyIter v) Q E s := h
abbrev zTI (h : Heap) (i1 i2 : Addr) : Heap := h.push { cls := .type "tuple", data := .seq #[.ref i1, .ref i2] }
abbrev zTO (h : Heap) (i1 i2 : Addr) : Heap := (zTI h i1 i2).push { cls := .type "tuple", data := .seq #[.none, .none] }
abbrev zZ (h : Heap) (i1 i2 : Addr) : Heap := (zTO h i1 i2).push { cls := .type "zip", data := .fields #[.none, .bool false, .bool false, .ref h.objs.size, .ref (zTI h i1 i2).objs.size] }
/-- the second iterator is there: the zip object is made -/
def ZipEnd (R : Value → Shared → Prop) (a b : Value) (s₂ : Shared) : Prop := ∃ i1 i2, a = .ref i1 ∧ b = .ref i2 ∧ R (.ref (zTO s₂.heap i1 i2).objs.size) { s₂ with heap := zZ s₂.heap i1 i2 }
theorem meets_zip_own (prog : Program) (w : World) (v1 v2 : Value) :
    MeetsIn prog w (Builtin.«zip.__new__» ⟨[.type "zip", v1, v2], []⟩) (fun A R s => 
      wpAny (model prog w) A.in1 (pyIter v1) (fun a s₁ => wpAny (model prog w) A.in1 (pyIter v2) (ZipEnd (fun v s' => R (.ok (.ret v)) s') a) (fun e s' => R (.error e) s') s₁) (fun e s' => R (.error e) s') s) :=
  .of_wp fun A R s h => by
    have hsub := sub_zip
    wp_walk using hold_iter
    refine Paused.go (wpAny_mono h (fun a s₁ h₁ => ?_) fun _ _ e => e)
    wp_walk using hold_iter
    refine Paused.go (wpAny_mono h₁ (fun b s₂ h₂ => ?_) fun _ _ e => e)
    obtain ⟨i1, i2, rfl, rfl, h₂⟩ := h₂
    obtain ⟨hp, g, d, tk, os⟩ := s₂
    wp_walk
    exact ⟨_, rfl, h₂⟩
/-- the iterator is there: the enumerate object is made -/
def EnumEnd (R : Value → Shared → Prop) (a : Value) (s₂ : Shared) : Prop := R (.ref s₂.heap.objs.size) { s₂ with heap := s₂.heap.push { cls := .type "enumerate", data := .fields #[.none, .bool false, a, rawInt 0, .none, .none] } }
theorem meets_enum_own (prog : Program) (w : World) (v : Value) :
    MeetsIn prog w (Builtin.«enumerate.__new__» ⟨[.type "enumerate", v], []⟩) (fun A R s => 
      wpAny (model prog w) A.in1 (pyIter v) (EnumEnd (fun v s' => R (.ok (.ret v)) s')) (fun e s' => R (.error e) s') s) :=
  .of_wp fun A R s h => by
    have hsub := sub_enumerate
    wp_walk using hold_iter
    refine wpAny_stack_any fun st => wpAny_pure ?_
    split
    · rename_i c _ _ _ _ _
      cases (c == Value.type "enumerate")
      all_goals
        wp_walk using hold_iter
        refine Paused.go (wpAny_mono h (fun a s₁ h₁ => ?_) fun _ _ e => e)
        obtain ⟨hp, g, d, tk, os⟩ := s₁
        wp_walk
        exact ⟨_, rfl, h₁⟩
    · wp_walk using hold_iter
      refine Paused.go (wpAny_mono h (fun a s₁ h₁ => ?_) fun _ _ e => e)
      obtain ⟨hp, g, d, tk, os⟩ := s₁
      wp_walk
      exact ⟨_, rfl, h₁⟩
end
section
variable {prog : Program} {w : World} {A : Around} {E : Value → Shared → Prop} {s : Shared} {h₀ : Heap} {L : Addr} {m : Str → Option Value} {env : Env}
theorem call_zip_own {v1 v2 : Value} {Q : Value → Shared → Prop} (h : wpAny (model prog w) A.in1.in1 (pyIter v1) (fun a s₁ => wpAny (model prog w) A.in1.in1 (pyIter v2) (ZipEnd Q a) E s₁) E s) :
    wpAny (model prog w) A (call (.type "zip") [v1, v2]) Q E s := by
  refine callType_newIn F.called_zip (by decide) (F.typeCall_zip_2 _ _) (F.newCall_zip_2 _ _) (fun obj => F.args_object_init_3 obj _ _) F.entry_zip_new (meets_zip_own prog w v1 v2) ?_
  refine wpAny_mono h (fun a s₁ h₁ => wpAny_mono h₁ (fun b s₂ h₂ => ?_) fun _ _ e => e) fun _ _ e => e
  obtain ⟨i1, i2, rfl, rfl, h₂⟩ := h₂
  exact ⟨i1, i2, rfl, rfl, ⟨_, Heap.get?_push_size _ rfl, rfl⟩, h₂⟩
theorem call_enum_own {v : Value} {Q : Value → Shared → Prop} (h : wpAny (model prog w) A.in1.in1 (pyIter v) (EnumEnd Q) E s) :
    wpAny (model prog w) A (call (.type "enumerate") [v]) Q E s := by
  refine callType_newIn F.called_enumerate (by decide) (F.typeCall_enumerate_1 _) (F.newCall_enumerate_1 _) (fun obj => F.args_object_init_2 obj _) F.entry_enumerate_new (meets_enum_own prog w v) ?_
  exact wpAny_mono h (fun a s₁ h₁ => ⟨⟨_, Heap.get?_push_size _ rfl, rfl⟩, h₁⟩) fun _ _ e => e

open LCg in
/-- what a comprehension over pairs asks of its iterable -/
def PairSrc (prog : Program) (w : World) (A : Around) (h₀ : Heap) (env : Env) (elt : Expr) (x x₂ : Str) (scope : Scope) (cl : List (Str × Addr)) (y : Str) (Q : Flow → Shared → Prop) (xv : Value) (s₁ : Shared) : Prop :=
  ∃ (I : Addr) (fp wr : List Addr) (n : Nat) (Pt : Nat → Array Value → Prop) (St : Nat → Heap → Prop) (Mid : Nat → Addr → Heap → Prop) (P2 : Nat → Value → Value → Prop) (Rel : Nat → Value → Prop) (m : Str → Option Value) (news : List (Addr × Obj)),
    xv = .ref I ∧ A.handled = none ∧ WalksT prog w A I fp wr n Pt St Mid ∧ (∀ i vals, Pt i vals → ∃ v0 v1, vals = #[v0, v1] ∧ P2 i v0 v1) ∧ n ≤ sizeLine ∧ St 0 s₁.heap ∧ (∀ b ∈ fp, b < s₁.heap.objs.size) ∧ env.locals ∉ fp ∧ (∀ b ∈ wr, h₀.get? b = none) ∧ (∀ p ∈ news, p.1 ∉ wr) ∧
    Fr h₀ env.locals s₁.heap m ∧ News h₀ env.locals s₁.heap news ∧
    (∀ i v0 v1 C oC D ys own m₂ h tk (E' : Value → Shared → Prop), i < n → P2 i v0 v1 → NsObj oC m₂ → m₂ x = some v0 → m₂ x₂ = some v1 → Fr h₀ env.locals h m → News h₀ env.locals h ((C, oC) :: (D, lst ys) :: (news ++ own)) →
      wpAny (model prog w) A (eval elt (compEnvC scope cl C env)) (ElEnd h₀ env.locals m ((C, oC) :: (D, lst ys) :: (news ++ own)) (Rel i) { s₁ with heap := h, toks := tk }) E' { s₁ with heap := h, toks := tk }) ∧
    (∀ D h tk ys, Fr h₀ env.locals h (fun z => if z = y then some (.ref D) else m z) → News h₀ env.locals h ((D, listOf (List.toArray ys) ys.length) :: news) → (∀ p ∈ news, p.1 < D) → ys.length = n → (∀ (i : Nat) v, ys[i]? = some v → Rel i v) → Q .next { s₁ with heap := h, toks := tk })

theorem assign_comp_pairs {elt iter : Expr} {x x₂ y : Str} {px px₂ tp py : Pos} {tk : Nat} {scope : Scope} {cl : List (Str × Addr)} {pos spos : Pos} {Q : Flow → Shared → Prop} (_F : Fr h₀ env.locals s.heap m)
    (hsw : swapsWith (.ListComp elt [⟨.Tuple [.Name x px, .Name x₂ px₂] tk tp, iter, [], 0⟩] scope pos) (some (.Name y py)) spos.line env = pure true)
    (hclos : closureFor scope env = pure cl) (hcell : ∀ z ∈ scope.names, z.2 ≠ .cell) (hkind : scope.kind = .function)
    (hnames : ∀ z ∈ scope.names, z.2 = .local → scope.names.lookup z.1 = some .local) (hx : scope.names.lookup x = some .local) (hx₂ : scope.names.lookup x₂ = some .local) (hxx : x ≠ x₂)
    (hy : env.kindOf y = some .local) (hp : (env.scope.kind == .class || (env.scope.kind == .module && env.locals != env.globals)) = false)
    (h : wpAny (model prog w) A (eval iter env) (PairSrc prog w A h₀ env elt x x₂ scope cl y Q) E s)
    (hs : ∀ x, foldedSetIterable iter env x = pure x := by intro _; rfl) :
    wpAny (model prog w) A (exec (.Assign [.Name y py] (.ListComp elt [⟨.Tuple [.Name x px, .Name x₂ px₂] tk tp, iter, [], 0⟩] scope pos) spos) env) Q E s := by
  rw [exec_Assign_Name_used _ _ _ _ hsw]
  refine wpAny_bind (wpAny_standAt (wpAny_bind ?_))
  show wpAny _ A (do let _ ← comprehension (.ListComp elt [⟨.Tuple [.Name x px, .Name x₂ px₂] tk tp, iter, [], 0⟩] scope pos) scope env _ (newList []) false (eval iter env) (some (assign (.Name y py) env))) _ _ s
  refine wpAny_bind (wpAny_mono (wpAny_comprehension_free (use := some (assign (.Name y py) env)) (Q := fun _ s' => Q .next s') rfl hs hclos hkind hnames
    (wpAny_mono h (fun xv s₁ h₁ => ?_) fun _ _ e => e)) (fun _ s' hq => wpAny_pure (wpAny_pure hq)) fun _ _ e => e)
  obtain ⟨I, fp, wr, n, Pt, St, Mid, P2, Rel, m, news, rfl, hh, W, h2, hsz, hst, hfp, hLf, hwr, hnw, F, N, turn, fin⟩ := h₁
  refine W.self 0 _ _ _ hst (comp_pairs hh W h2 hsz hcell hkind hx hx₂ hxx hst hfp hLf hwr hnw F N turn ?_)
  intro D C h' tk m' ys F' N' hn hC₀ hCL hDC offC hlt hl hR
  show wpAny _ A (assign (.Name y py) env (.ref D)) _ _ _
  refine wpAny_assign_Name (wpAny_storeName_local hy F'.ns (fun h₂ hn₂ hs₂ => ?_) hp)
  have hL₀ : h₀.get? env.locals = none := Heap.get?_none_of_le F'.above
  have F₂ : Fr h₀ env.locals h₂ (fun z => if z = y then some (.ref D) else m z) := ⟨hn₂, fun b o e => hs₂.extBut b o (fun q => by rw [q, hL₀] at e; cases e) (F'.keep b o e), F'.above⟩
  refine ⟨m', hn.sameBut hs₂ hCL, fun h'' hs'' => fin D h'' _ ys (F₂.change hs'' hCL hC₀) (fun p hp => ?_) hlt hl hR⟩
  refine ⟨hs''.extBut _ _ ?_ (hs₂.extBut _ _ (N' p hp).2.1 (N' p hp).1), (N' p hp).2⟩
  rcases List.mem_cons.mp hp with rfl | hp
  · exact hDC
  · exact offC p hp
end
section
variable {prog : Program} {w : World} {A : Around} {E : Value → Shared → Prop} {s : Shared} {h₀ : Heap} {env : Env} {m : Str → Option Value}
abbrev liO (l : Addr) : Obj := { cls := .type "list_iterator", data := .fields #[.ref l, .int 0 0] }
theorem iter_led {L l : Addr} {its : Array Value} {n : Nat} {news : List (Addr × Obj)} {Q : Value → Shared → Prop} (F : Fr h₀ L s.heap m) (N : News h₀ L s.heap news) (hl : (l, listOf its n) ∈ news)
    (h : ∀ I h', Fr h₀ L h' m → News h₀ L h' ((I, liO l) :: news) → (∀ p ∈ news, p.1 < I) → Q (.ref I) { s with heap := h' }) : wpAny (model prog w) A (pyIter (.ref l)) Q E s := by
  refine wpAny_pyIter_list (items := its) ⟨_, (N _ hl).1, rfl, n, rfl⟩ ?_
  refine h _ _ (F.push _) (fun p hp => ?_) (fun p hp => Heap.lt_size (N p hp).1)
  rcases List.mem_cons.mp hp with rfl | hp
  · exact ⟨Heap.get?_push_size _ rfl, fun e => absurd F.ns.lt (by rw [← e]; exact Nat.lt_irrefl _), next_is_new F⟩
  · exact ⟨Heap.get?_push_of_some _ (N p hp).1, (N p hp).2⟩
theorem ltNat {a b : Nat} (h : a < b) : a < b := h
theorem ints_zip (g : Int → Int → Int) : ∀ (ys : List Value) (ns1 ns2 : List Int), ys.length = min ns1.length ns2.length → (∀ (i : Nat) v, ys[i]? = some v → ∀ a b, ns1[i]? = some a → ns2[i]? = some b → ∃ t, v = .int (g a b) t) → IntsAre ys (List.zipWith g ns1 ns2) := by
  intro ys
  induction ys with
  | nil =>
    intro ns1 ns2 hl _
    have : List.zipWith g ns1 ns2 = [] := by
      apply List.eq_nil_of_length_eq_zero
      rw [List.length_zipWith]
      exact hl.symm
    rw [this]
    exact .nil
  | cons y ys ih =>
    intro ns1 ns2 hl h
    cases ns1 with
    | nil => simp at hl
    | cons a ns1 =>
      cases ns2 with
      | nil => simp at hl
      | cons b ns2 =>
        obtain ⟨t, rfl⟩ := h 0 y rfl a b rfl rfl
        rw [List.zipWith_cons_cons]
        refine .cons _ t (ih ns1 ns2 ?_ fun i v hv a' b' ha hb => h (i + 1) v (by simpa using hv) a' b' (by simpa using ha) (by simpa using hb))
        simp only [List.length_cons] at hl
        omega
theorem call_iter_own {v : Value} {Q : Value → Shared → Prop} (h : wpAny (model prog w) A.in1 (pyIter v) Q E s) : wpAny (model prog w) A (call (.builtin "iter") [v]) Q E s := by
  refine call_function_entry (by decide +kernel) (by decide +kernel) kdk_entry_iter (kdk_args_iter _) ?_
  unfold Builtin.«iter»
  refine wpAny_bind (m := someArgs "iter" 1 2 _) (wpAny_of_eq (a := [v]) (by first | rfl | kernel_rfl!) ?_)
  show wpAny _ _ (pyIter v >>= _) _ _ _
  exact wpAny_bind (wpAny_mono h (fun r s' hr => wpAny_pure ⟨_, rfl, hr⟩) fun _ _ e => e)
theorem call_iter_led {L l : Addr} {its : Array Value} {n : Nat} {news : List (Addr × Obj)} {Q : Value → Shared → Prop} (F : Fr h₀ L s.heap m) (N : News h₀ L s.heap news) (hl : (l, listOf its n) ∈ news)
    (h : ∀ I h', Fr h₀ L h' m → News h₀ L h' ((I, liO l) :: news) → (∀ p ∈ news, p.1 < I) → Q (.ref I) { s with heap := h' }) : wpAny (model prog w) A (call (.builtin "iter") [.ref l]) Q E s :=
  call_iter_own (iter_led F N hl h)
theorem owit_li {M : Model} {I l : Addr} {Q : Value → Shared → Prop} {L : Addr} {news : List (Addr × Obj)} (N : News h₀ L s.heap news) (hi : (I, liO l) ∈ news) (h : Q (.ref I) s) : OwitIt M A Q E (.ref I) s := by
  unfold OwitIt
  exact wpAny_specialOf ⟨_, (N _ hi).1, rfl⟩ slot_listiter_next.lookup h
open LCg in
theorem src_zip {elt : Expr} {x x₂ y : Str} {scope : Scope} {cl : List (Str × Addr)} {Q : Flow → Shared → Prop} {news big : List (Addr × Obj)} {i1 i2 l1 l2 : Addr} {vs1 vs2 : List Value} {ns1 ns2 : List Int} {n1 n2 : Nat} (g : Int → Int → Int)
    (hh : A.handled = none) (F : Fr h₀ env.locals s.heap m) (N : News h₀ env.locals s.heap big) (hi1 : (i1, liO l1) ∈ big) (hi2 : (i2, liO l2) ∈ big) (hsub : ∀ p ∈ news, p ∈ big) (hl1 : (l1, listOf vs1.toArray n1) ∈ news) (hl2 : (l2, listOf vs2.toArray n2) ∈ news)
    (h12 : (@Ne Nat i1 i2)) (h1 : ∀ p ∈ news, p.1 ≠ i1) (h2 : ∀ p ∈ news, p.1 ≠ i2) (I1 : IntsAre vs1 ns1) (I2 : IntsAre vs2 ns2) (hsz : ns1.length ≤ sizeLine)
    (turn : ∀ a b t u C oC D ys own m₂ h tk (E' : Value → Shared → Prop), a ∈ ns1 → b ∈ ns2 → NsObj oC m₂ → m₂ x = some (.int a t) → m₂ x₂ = some (.int b u) → Fr h₀ env.locals h m → News h₀ env.locals h ((C, oC) :: (D, lst ys) :: (news ++ own)) →
      wpAny (model prog w) A (eval elt (compEnvC scope cl C env)) (ElEnd h₀ env.locals m ((C, oC) :: (D, lst ys) :: (news ++ own)) (fun v => ∃ t, v = .int (g a b) t) { s with heap := h, toks := tk }) E' { s with heap := h, toks := tk })
    (fin : ∀ D h tk ys, Fr h₀ env.locals h (fun z => if z = y then some (.ref D) else m z) → News h₀ env.locals h ((D, listOf (List.toArray ys) ys.length) :: news) → (∀ p ∈ news, p.1 < D) → IntsAre ys (List.zipWith g ns1 ns2) → Q .next { s with heap := h, toks := tk }) :
    PairSrc prog w A h₀ env elt x x₂ scope cl y Q (.ref (zTO s.heap i1 i2).objs.size) { s with heap := zZ s.heap i1 i2 } := by
  have b1 := N _ hi1
  have b2 := N _ hi2
  have c1 := N _ (hsub _ hl1)
  have c2 := N _ (hsub _ hl2)
  have zI : (zTI s.heap i1 i2).objs.size = s.heap.objs.size + 1 := Heap.size_push ..
  have zO : (zTO s.heap i1 i2).objs.size = s.heap.objs.size + 2 := by rw [Heap.size_push, zI]
  have zz : (zZ s.heap i1 i2).objs.size = s.heap.objs.size + 3 := by rw [Heap.size_push, zO]
  have up : ∀ b o, s.heap.get? b = some o → (zZ s.heap i1 i2).get? b = some o := fun b o e => Heap.get?_push_of_some _ (Heap.get?_push_of_some _ (Heap.get?_push_of_some _ e))
  have gz : (zZ s.heap i1 i2).get? (zTO s.heap i1 i2).objs.size = some _ := Heap.get?_push_size _ rfl
  have gI : (zZ s.heap i1 i2).get? s.heap.objs.size = some _ := Heap.get?_push_of_some _ (Heap.get?_push_of_some _ (Heap.get?_push_size _ rfl))
  have gO : (zZ s.heap i1 i2).get? (zTI s.heap i1 i2).objs.size = some _ := Heap.get?_push_of_some _ (Heap.get?_push_size _ rfl)
  have lt1 : @LT.lt Nat _ i1 (s.heap.objs.size) := Heap.lt_size b1.1
  have lt2 : @LT.lt Nat _ i2 s.heap.objs.size := Heap.lt_size b2.1
  have lt3 : @LT.lt Nat _ l1 s.heap.objs.size := Heap.lt_size c1.1
  have lt4 : @LT.lt Nat _ l2 s.heap.objs.size := Heap.lt_size c2.1
  have ltL : @LT.lt Nat _ env.locals s.heap.objs.size := F.ns.lt
  have d1 : @Ne Nat l1 i1 := h1 _ hl1
  have d2 : @Ne Nat l1 i2 := h2 _ hl1
  have d3 : @Ne Nat l2 i1 := h1 _ hl2
  have d4 : @Ne Nat l2 i2 := h2 _ hl2
  have e1 : @Ne Nat i1 env.locals := b1.2.1
  have e2 : @Ne Nat i2 env.locals := b2.2.1
  have e3 : @Ne Nat l1 env.locals := c1.2.1
  have e4 : @Ne Nat l2 env.locals := c2.2.1
  have fresh : ∀ a, s.heap.objs.size ≤ a → h₀.get? a = none := fun a ha => by
    cases e : h₀.get? a with
    | none => rfl
    | some o' => exact absurd (Heap.lt_size (F.keep a o' e)) (Nat.not_lt.mpr ha)
  have D : ZipApart (zTO s.heap i1 i2).objs.size s.heap.objs.size (zTI s.heap i1 i2).objs.size i1 i2 l1 l2 := by
    rw [zI, zO]
    constructor <;> (refine neN ?_; omega)
  have W := WalksT.zip2 (prog := prog) (w := w) hh _ _ _ _ _ _ _ D vs1.toArray vs2.toArray
  refine ⟨_, _, _, _, _, _, _, (fun i v0 v1 => vs1.toArray[i]? = some v0 ∧ vs2.toArray[i]? = some v1), (fun i v => ∀ a b, ns1[i]? = some a → ns2[i]? = some b → ∃ t, v = .int (g a b) t), m, news, rfl, hh, W, ?_, ?_, ?_, ?_, ?_, ?_, ?_, F.keeps up, (fun p hp => ⟨up _ _ (N p (hsub p hp)).1, (N p (hsub p hp)).2⟩), ?_, ?_⟩
  · rintro i vals ⟨a, b, ha, hb, rfl⟩
    exact ⟨a, b, rfl, ha, hb⟩
  · have := I1.length
    simp only [List.size_toArray]
    omega
  · exact ⟨gz, gI, ⟨_, _, gO⟩, ⟨_, up _ _ b1.1, rfl, rfl⟩, ⟨_, up _ _ b2.1, rfl, rfl⟩, ⟨_, up _ _ c1.1, rfl, _, rfl⟩, ⟨_, up _ _ c2.1, rfl, _, rfl⟩⟩
  · intro b hb
    show b < (zZ s.heap i1 i2).objs.size
    rw [zz]
    simp only [zI, zO, List.mem_cons, List.not_mem_nil, or_false] at hb
    rcases hb with rfl | rfl | rfl | rfl | rfl | rfl | rfl <;> (refine ltNat ?_; omega)
  · intro hb
    simp only [zI, zO, List.mem_cons, List.not_mem_nil, or_false] at hb
    rcases hb with h | h | h | h | h | h | h
    · exact absurd h (neN (by omega))
    · exact absurd h (neN (by omega))
    · exact absurd h (neN (by omega))
    · exact e1 h.symm
    · exact e2 h.symm
    · exact e3 h.symm
    · exact e4 h.symm
  · intro b hb
    simp only [zI, zO, List.mem_cons, List.not_mem_nil, or_false] at hb
    rcases hb with rfl | rfl | rfl | rfl
    · exact fresh _ (by omega)
    · exact fresh _ (by omega)
    · exact b1.2.2
    · exact b2.2.2
  · intro p hp hb
    have hlt : @LT.lt Nat _ p.1 s.heap.objs.size := Heap.lt_size (N p (hsub p hp)).1
    simp only [zI, zO, List.mem_cons, List.not_mem_nil, or_false] at hb
    rcases hb with h | h | h | h
    · exact absurd h (neN (by omega))
    · exact absurd h (neN (by omega))
    · exact h1 p hp h
    · exact h2 p hp h
  · rintro i v0 v1 C oC D' ys own m₂ h tk E' hi ⟨hv0, hv1⟩ hC hx hx₂ F' N'
    obtain ⟨a, t, rfl, ha⟩ := IntsAre.at I1 i v0 (by simpa using hv0)
    obtain ⟨b, u, rfl, hb⟩ := IntsAre.at I2 i v1 (by simpa using hv1)
    refine wpAny_mono (turn a b t u C oC D' ys own m₂ h tk E' (List.mem_of_getElem? ha) (List.mem_of_getElem? hb) hC hx hx₂ F' N') (fun v s' q => ?_) fun _ _ e => e
    obtain ⟨h', tk', big', e, F'', N'', hs, r⟩ := q
    refine ⟨h', tk', big', e, F'', N'', hs, fun a' b' ha' hb' => ?_⟩
    rw [ha] at ha'
    rw [hb] at hb'
    cases ha'
    cases hb'
    exact r
  · intro D' h tk ys F' N' hlt hl hR
    refine fin D' h tk ys F' N' hlt (ints_zip g ys ns1 ns2 ?_ hR)
    rw [hl, List.size_toArray, List.size_toArray, I1.length, I2.length]
end
end
section
/-! a slice handed to an own __getitem__; a list's item at a slice that lies in the ledger; extend -/
section
variable {prog : Program} {w : World} {A : Around} {E : Value → Shared → Prop} {s : Shared} {K : Frag} {x C L f : Addr} {h₀ : Heap} {m : Str → Option Value} {ox : Obj} {od : Option Obj} {news : List (Addr × Obj)}
abbrev slO (a b : Value) : Obj := { cls := .type "slice", data := .fields #[a, b, .none] }
theorem sub_own_slice {lo hi : Option Expr} {vx : Expr} {sp : Pos} {a b : Value} {Q : Value → Shared → Prop} (F : Fr h₀ L s.heap m) (X₀ : K.In h₀) (N : News h₀ L s.heap news) (I : InstAt s.heap x ox C od) (hq : noSeq K C = true) (hs : findIn K (.ref C) "__getitem__" = some (some (.ref f))) (hf : fnIn K f = true) (hfn : isFn K (.ref f) = true)
    (h : ∀ sl h', Fr h₀ L h' m → News h₀ L h' ((sl, slO a b) :: news) → (∀ p ∈ news, p.1 < sl) → wpAny (model prog w) A (call (.ref f) [.ref x, .ref sl]) Q E { s with heap := h' }) :
    wpAny (model prog w) A (subscriptTail vx (.Slice lo hi none sp) (.ref x) (.ref s.heap.objs.size)) Q E { s with heap := s.heap.push (slO a b) } := by
  have F' := F.push (slO a b)
  have X := X₀.keeps F'.keep
  have I' : InstAt (s.heap.push (slO a b)) x ox C od := by
    obtain ⟨i1, i2, i3, i4⟩ := I
    refine ⟨Heap.get?_push_of_some _ i1, i2, i3, ?_⟩
    revert i4
    cases ox.dict <;> cases od <;> first | exact fun q => Heap.get?_push_of_some _ q | exact fun q => q
  have N' : News h₀ L (s.heap.push (slO a b)) ((s.heap.objs.size, slO a b) :: news) := News.push F N _ rfl
  unfold fnIn at hf
  split at hf
  · rename_i e
    unfold subscriptTail getitemInPython
    refine wpAny_bind (wpAny_bind (wpAny_bind (I'.type.here ((looks_findIn X hs).here ?_))))
    dsimp only
    refine wpAny_bind (wpAny_load (X _ _ e) (wpAny_pure ?_))
    show wpAny _ A (operate [.ref s.heap.objs.size, .ref x] (getItem (.ref x) (.ref s.heap.objs.size)) >>= _) Q E _
    refine wpAny_bind (wpAny_operating (getItem_K F' X₀ I' hq hs hfn ?_))
    refine wpAny_mono (h _ _ F' N' (fun p hp => Heap.lt_size (N p hp).1)) (fun v s' z => ?_) fun _ _ z => z
    exact wpAny_bind (wpAny_letTemporaryGo (wpAny_pure z))
  · cases hf
end
section
variable {prog : Program} {w : World} {A : Around} {E : Value → Shared → Prop} {s : Shared} {L : Addr} {h₀ : Heap} {m : Str → Option Value} {news : List (Addr × Obj)}
theorem sub_list_slice {value slice : Expr} {l sl : Addr} {vs : List Value} {ns ms : List Int} {n : Nat} {a b : Value} {lo hi : Option Int} {Q : Value → Shared → Prop} (F : Fr h₀ L s.heap m) (N : News h₀ L s.heap news)
    (hl : (l, listOf vs.toArray n) ∈ news) (hsl : (sl, slO a b) ∈ news) (pa : IsPart a lo) (pb : IsPart b hi) (hI : IntsAre vs ns) (hm : IntsAre (slicePick vs.toArray lo hi none).toList ms) (hsz : ns.length ≤ sizeLine)
    (h : ∀ D ws h', Fr h₀ L h' m → News h₀ L h' ((D, listOf (List.toArray ws) 0) :: news) → (∀ p ∈ news, p.1 < D) → IntsAre ws ms → Q (.ref D) { s with heap := h' })
    (hs : subscripted slice false (.ref l) (.ref sl) = operate [.ref l, .ref sl] (getItem (.ref l) (.ref sl)) := by with_unfolding_all rfl) :
    wpAny (model prog w) A (subscriptTail value slice (.ref l) (.ref sl)) Q E s := by
  have hL : s.heap.IsList l vs.toArray := ⟨_, (N _ hl).1, rfl, n, rfl⟩
  refine tail_any hL.typeIs slot_list_getitem.lookup (wpAny_getItem_list_slice hL ⟨_, (N _ hsl).1, rfl, rfl⟩ pa pb .none (by simp) ?_ (by rw [List.size_toArray, hI.length]; exact hsz)) hs
  have e : listOf (slicePick vs.toArray lo hi none) 0 = listOf (List.toArray (slicePick vs.toArray lo hi none).toList) 0 := by rw [Array.toArray_toList]
  refine h _ (slicePick vs.toArray lo hi none).toList _ (F.push _) ?_ (fun p hp => Heap.lt_size (N p hp).1) hm
  rw [← e]
  exact News.push F N _ rfl
end
section
variable {prog : Program} {w : World} {A : Around} {E : Value → Shared → Prop} {s : Shared} {L : Addr} {h₀ : Heap} {m : Str → Option Value} {news news' : List (Addr × Obj)}
theorem ext_ints {D b : Addr} {ys ws : List Value} {zs us : List Int} {n n2 : Nat} {Q : Value → Shared → Prop} (F : Fr h₀ L s.heap m) (N : News h₀ L s.heap news) (hb : (b, listOf ws.toArray n2) ∈ news)
    (U : Upd D (listOf ys.toArray n) (listOf (ys ++ ws).toArray (n + 1)) news news') (I1 : IntsAre ys zs) (I2 : IntsAre ws us) (hne : us.length ≠ 0) (h1 : zs.length < 2 ^ 20) (h2 : us.length < 2 ^ 20)
    (h : ∀ vs h', Fr h₀ L h' m → (vs = ys ++ ws) → News h₀ L h' news' → IntsAre vs (zs ++ us) → Q .none { s with heap := h' }) : wpAny (model prog w) A (call (.builtin "list.extend") [.ref D, .ref b]) Q E s := by
  have e1 := I1.length
  have e2 := I2.length
  refine kl_extend F N hb (by simp) (by simpa [e2] using hne) U ?_ ?_ ?_ (fun h' F' N' => h _ h' F' rfl N' (IntsAre.append I1 I2))
  · intro hq
    have hq' := (Bool.and_eq_true_iff.mp hq).2
    unfold Builtin.List.listTooLong at hq'
    have hq2 := of_decide_eq_true hq'
    rw [sizeLine_eq] at hq2
    simp only [List.size_toArray] at hq2
    omega
  · rw [sizeLine_eq]; simp only [List.size_toArray]; omega
  · rw [sizeLine_eq]; simp only [List.size_toArray]; omega
end
section
variable {prog : Program} {w : World} {A : Around} {E : Value → Shared → Prop} {s : Shared} {L : Addr} {h₀ : Heap} {m : Str → Option Value} {news news' : List (Addr × Obj)}
theorem app_ints {D : Addr} {ys : List Value} {zs : List Int} {n : Nat} {k : Int} {t : Tok} {Q : Value → Shared → Prop} (F : Fr h₀ L s.heap m) (N : News h₀ L s.heap news)
    (U : Upd D (listOf ys.toArray n) (listOf (ys ++ [Value.int k t]).toArray (n + 1)) news news') (I1 : IntsAre ys zs) (h1 : zs.length < 2 ^ 20)
    (h : ∀ vs h', Fr h₀ L h' m → (vs = ys ++ [Value.int k t]) → News h₀ L h' news' → IntsAre vs (zs ++ [k]) → Q .none { s with heap := h' }) : wpAny (model prog w) A (call (.builtin "list.append") [.ref D, .int k t]) Q E s := by
  have e1 := I1.length
  have e : (ys ++ [Value.int k t]).toArray = ys.toArray.push (.int k t) := by simp
  rw [e] at U
  exact append_K F N U (fun h' F' N' => h _ h' F' rfl N' (IntsAre.append I1 (.cons k t .nil))) (by rw [sizeLine_eq, List.size_toArray]; omega)
end
/-- what put_bit makes of the octets so far (len bits of them) -/
def bitPut (ns : List Int) (len : Int) (b : Bool) : List Int :=
  let ms := if (ns.length : Int) ≤ len.fdiv 8 then ns ++ [0] else ns
  if b = true then ms.set (len.fdiv 8).toNat (Builtin.bitOr (ms.getD (len.fdiv 8).toNat 0) (Int.fdiv 128 (2 ^ (len.fmod 8).toNat))) else ms
theorem bitPut_len {ns : List Int} {len : Int} {b : Bool} (h0 : 0 ≤ len) (hq : len.fdiv 8 ≤ ns.length) : (len + 1).fdiv 8 ≤ ((bitPut ns len b).length : Int) ∧ (bitPut ns len b).length ≤ ns.length + 1 := by
  rw [Int.fdiv_eq_ediv_of_nonneg _ (by decide)] at hq ⊢
  have e : (bitPut ns len b).length = if (ns.length : Int) ≤ len.fdiv 8 then ns.length + 1 else ns.length := by
    unfold bitPut
    dsimp only
    cases b <;> simp only [Bool.false_eq_true, if_false, if_true, List.length_set] <;> split <;> simp
  rw [e, Int.fdiv_eq_ediv_of_nonneg _ (by decide)]
  split <;> omega
/-- a ledger two of whose objects are changed: what is left of it -/
theorem two_upd {d l : Addr} {od ol : Obj} {big : List (Addr × Obj)} {g : Obj → List (Addr × Obj)} {g2 : Obj → Obj → List (Addr × Obj)} (U1 : UpdF d od big g) (U2 : ∀ o, UpdF l ol (g o) (g2 o)) :
    ∃ rest : List (Addr × Obj), (∀ p ∈ rest, p.1 ≠ d) ∧ (∀ p ∈ rest, p.1 ≠ l) ∧ (∀ q ∈ rest, q ∈ big) ∧ (d, od) ∈ big ∧ (l, ol) ∈ g od ∧ ∀ od' ol' q, q ∈ g2 od' ol' → q = (d, od') ∨ q = (l, ol') ∨ q ∈ rest := by
  obtain ⟨own, rest, hb, hg, h1, h2⟩ := U1.split
  refine ⟨(own ++ rest).filter (fun p : Addr × Obj => decide (p.1 ≠ l)), ?_, ?_, ?_, ?_, ?_, ?_⟩
  · intro p hp
    rcases List.mem_append.mp (List.mem_filter.mp hp).1 with h | h
    · exact h1 p h
    · exact h2 p h
  · intro p hp
    exact of_decide_eq_true (List.mem_filter.mp hp).2
  · intro q hq
    rw [hb]
    rcases List.mem_append.mp (List.mem_filter.mp hq).1 with h | h
    · exact List.mem_append_left _ h
    · exact List.mem_append_right _ (.tail _ h)
  · rw [hb]; exact List.mem_append_right _ (.head _)
  · obtain ⟨own2, rest2, hb2, _, _, _⟩ := (U2 od).split
    rw [hb2]; exact List.mem_append_right _ (.head _)
  · intro od' ol' q hq
    obtain ⟨own2, rest2, hb2, hg2, h3, h4⟩ := (U2 od').split
    rw [hg2] at hq
    have fin : q ∈ g od' → q.1 ≠ l → q = (d, od') ∨ q = (l, ol') ∨ q ∈ (own ++ rest).filter (fun p : Addr × Obj => decide (p.1 ≠ l)) := by
      intro hq1 hne
      rw [hg] at hq1
      rcases List.mem_append.mp hq1 with h | h
      · exact .inr (.inr (List.mem_filter.mpr ⟨List.mem_append_left _ h, decide_eq_true hne⟩))
      · rcases List.mem_cons.mp h with h | h
        · exact .inl h
        · exact .inr (.inr (List.mem_filter.mpr ⟨List.mem_append_right _ h, decide_eq_true hne⟩))
    rcases List.mem_append.mp hq with h | h
    · exact fin (by rw [hb2]; exact List.mem_append_left _ h) (h3 q h)
    · rcases List.mem_cons.mp h with h | h
      · exact .inr (.inl h)
      · exact fin (by rw [hb2]; exact List.mem_append_right _ (.tail _ h)) (h4 q h)
theorem two_news {h₀ h : Heap} {L b d l : Addr} {ob od ol : Obj} {big : List (Addr × Obj)} {g : Obj → List (Addr × Obj)} {g2 : Obj → Obj → List (Addr × Obj)} (N : News h₀ L h big) (hb : (b, ob) ∈ big) (hl : (l, ol) ∈ big)
    (U1 : UpdF d od big g) (U2 : ∀ o, UpdF l ol (g o) (g2 o)) :
    ∃ rest : List (Addr × Obj), (∀ p ∈ rest, p.1 ≠ d) ∧ (∀ p ∈ rest, p.1 ≠ l) ∧ News h₀ L h ((b, ob) :: (d, od) :: (l, ol) :: rest) ∧
      ∀ h' od' ol', News h₀ L h' ((b, ob) :: (d, od') :: (l, ol') :: rest) → News h₀ L h' (g2 od' ol') := by
  obtain ⟨rest, r1, r2, r3, r4, _, r6⟩ := two_upd U1 U2
  refine ⟨rest, r1, r2, news_cons hb N (news_cons r4 N (news_cons hl N fun p hp => N p (r3 p hp))), fun h' od' ol' N' p hp => N' p ?_⟩
  rcases r6 od' ol' p hp with rfl | rfl | h
  · exact .tail _ (.head _)
  · exact .tail _ (.tail _ (.head _))
  · exact .tail _ (.tail _ (.tail _ h))

theorem bp_first {ns : List Int} {len : Int} {b : Bool} (hl : len = 8 * (ns.length : Int)) : bitPut ns len b = ns ++ [if b = true then Builtin.bitOr 0 128 else 0] := by
  have h1 : len.fdiv 8 = ns.length := by rw [Int.fdiv_eq_ediv_of_nonneg _ (by decide)]; omega
  have h2 : len.fmod 8 = 0 := by rw [Int.fmod_eq_emod_of_nonneg _ (by decide)]; omega
  unfold bitPut
  rw [h1, h2]
  cases b
  · simp
  · simp [Int.toNat_natCast]; try rfl
theorem bp_next {ns : List Int} {x len : Int} {b : Bool} {k : Nat} (hl : len = 8 * (ns.length : Int) + k) (hk : k < 8) : bitPut (ns ++ [x]) len b = ns ++ [if b = true then Builtin.bitOr x (Int.fdiv 128 (2 ^ k)) else x] := by
  have h1 : len.fdiv 8 = ns.length := by rw [Int.fdiv_eq_ediv_of_nonneg _ (by decide)]; omega
  have h2 : len.fmod 8 = k := by rw [Int.fmod_eq_emod_of_nonneg _ (by decide)]; omega
  unfold bitPut
  rw [h1, h2]
  have h3 : ¬ (((ns ++ [x]).length : Nat) : Int) ≤ (ns.length : Int) := by rw [List.length_append]; simp; omega
  dsimp only
  rw [if_neg h3]
  cases b
  · simp
  · simp [Int.toNat_natCast]
def putX (num : Int) (k : Nat) : Int → Int := fun x => if (Builtin.bitAnd (num.fdiv (2 ^ (7 - k))) 1 == 1) = true then Builtin.bitOr x (Int.fdiv 128 (2 ^ k)) else x
theorem putX_all : ∀ n : Nat, n < 256 → putX n 7 (putX n 6 (putX n 5 (putX n 4 (putX n 3 (putX n 2 (putX n 1 (putX n 0 0))))))) = (n : Int) := by decide +kernel
theorem put8 {ns z1 z2 z3 z4 z5 z6 z7 z8 : List Int} {num len : Int} (hl : len = 8 * (ns.length : Int)) (h0 : 0 ≤ num) (h1 : num < 256)
    (e1 : z1 = bitPut ns (len) (Builtin.bitAnd (num.fdiv (2 ^ 7)) 1 == 1))
    (e2 : z2 = bitPut z1 (len + 1) (Builtin.bitAnd (num.fdiv (2 ^ 6)) 1 == 1))
    (e3 : z3 = bitPut z2 (len + 1 + 1) (Builtin.bitAnd (num.fdiv (2 ^ 5)) 1 == 1))
    (e4 : z4 = bitPut z3 (len + 1 + 1 + 1) (Builtin.bitAnd (num.fdiv (2 ^ 4)) 1 == 1))
    (e5 : z5 = bitPut z4 (len + 1 + 1 + 1 + 1) (Builtin.bitAnd (num.fdiv (2 ^ 3)) 1 == 1))
    (e6 : z6 = bitPut z5 (len + 1 + 1 + 1 + 1 + 1) (Builtin.bitAnd (num.fdiv (2 ^ 2)) 1 == 1))
    (e7 : z7 = bitPut z6 (len + 1 + 1 + 1 + 1 + 1 + 1) (Builtin.bitAnd (num.fdiv (2 ^ 1)) 1 == 1))
    (e8 : z8 = bitPut z7 (len + 1 + 1 + 1 + 1 + 1 + 1 + 1) (Builtin.bitAnd (num.fdiv (2 ^ 0)) 1 == 1))
    : z8 = ns ++ [num] ∧ len + 1 + 1 + 1 + 1 + 1 + 1 + 1 + 1 = 8 * ((ns ++ [num]).length : Int) := by
  obtain ⟨n, rfl⟩ := Int.eq_ofNat_of_zero_le h0
  have hn : n < 256 := by omega
  refine ⟨?_, by rw [List.length_append]; simp; omega⟩
  rw [bp_first hl] at e1
  rw [e1, bp_next (k := 1) (by rw [hl]; omega) (by decide)] at e2
  rw [e2, bp_next (k := 2) (by rw [hl]; omega) (by decide)] at e3
  rw [e3, bp_next (k := 3) (by rw [hl]; omega) (by decide)] at e4
  rw [e4, bp_next (k := 4) (by rw [hl]; omega) (by decide)] at e5
  rw [e5, bp_next (k := 5) (by rw [hl]; omega) (by decide)] at e6
  rw [e6, bp_next (k := 6) (by rw [hl]; omega) (by decide)] at e7
  rw [e7, bp_next (k := 7) (by rw [hl]; omega) (by decide)] at e8
  rw [e8]
  exact congrArg (fun y => ns ++ [y]) (putX_all n hn)
end
section
local macro_rules | `(tactic| walk_at "pad 0") => `(tactic| skip)
/-! loops over pairs that fill one list: an invariant for the turns of KTurns -/
section
variable {prog : Program} {w : World} {A : Around} {E : Value → Shared → Prop} {s : Shared} {env : Env} {h₀ : Heap} {target : Expr} {body : List Stmt} {Q : Flow → Shared → Prop}
theorem turn_inv {I : Addr} {fp wr : List Addr} {n : Nat} {P Md : Nat → Value → Heap → Prop} {St : Nat → Heap → Prop} {ws : List (Addr × String)} {keep : List (Addr × Obj)} {m₀ : Str → Option Value} {news : List (Addr × Obj)} {hp : Heap} {tk0 : Nat}
    (J : Nat → (Str → Option Value) → List (Addr × Obj) → Prop) (W : KTurns prog w A target I fp wr n P Md St)
    (hobj : ∀ i h, St i h → ∃ its, Objs ws its ∧ ∀ p ∈ its, h.get? p.1 = some p.2)
    (hws : ∀ b ∈ ws.map (·.1), b ∈ fp ∧ h₀.get? b = none) (hwr : ∀ b ∈ wr, b ∈ ws.map (·.1))
    (hfp : ∀ b ∈ fp, b ∈ ws.map (·.1) ∨ ∃ o, (b, o) ∈ keep) (hL : env.locals ∉ fp) (hnw : ∀ p ∈ news, p.1 ∉ wr) (hst : St 0 hp)
    (F : Fr h₀ env.locals hp m₀) (N : News h₀ env.locals hp news) (hk : ∀ i m' n', J i m' n' → ∀ p ∈ keep, p ∈ n') (h0 : J 0 m₀ news)
    (step : ∀ i v m₁ news₁ h₁ tk₁, i < n → P i v h₁ → J i m₁ news₁ → Fr h₀ env.locals h₁ m₁ → AllObj ws (fun its => News h₀ env.locals h₁ (its ++ news₁) →
      wpAny (model prog w) A (assign target env v) (fun _ s₂ => wpAny (model prog w) A (execs body env) (UnrPostW h₀ env.locals { s with heap := h₁, toks := tk₁ } its (J (i + 1)) Q) E s₂) E { s with heap := h₁, toks := tk₁ }))
    (fin : ∀ h' tk m' news', Fr h₀ env.locals h' m' → News h₀ env.locals h' news' → J n m' news' → Q .next { s with heap := h', toks := tk }) :
    TurnsAt prog w A h₀ env target body Q E (.ref I) { s with heap := hp, toks := tk0 } := by
  refine ⟨I, fp, wr, n, P, Md, St, m₀, news, J, rfl, W, hL, fun b hb => (hws b (hwr b hb)).2, hnw, hst, F, N, h0, ?_, ?_⟩
  · intro i v m₁ news₁ h₁ tk₁ own hin hPi hJ hoff hown hget hall hst₁ F₁ N₁
    obtain ⟨its, hits, hval⟩ := hobj (i + 1) h₁ hst₁
    have hmap := hits.map
    have hk₁ := hk _ _ _ hJ
    have N₂ : News h₀ env.locals h₁ (its ++ news₁) := fun p hp => by
      rcases List.mem_append.mp hp with hp | hp
      · have h1 : p.1 ∈ ws.map (·.1) := by rw [← hmap]; exact List.mem_map.mpr ⟨p, hp, rfl⟩
        exact N₁ _ (List.mem_append_left _ (hall p.1 (hws _ h1).1 (hws _ h1).2 p.2 (hval p hp)))
      · exact N₁ _ (List.mem_append_right _ hp)
    have fin : ∀ s₃, UnrEndW h₀ env.locals { s with heap := h₁, toks := tk₁ } its (J (i + 1)) s₃ → LoopStepU h₀ env.locals wr own (J (i + 1)) { s with heap := h₁, toks := tk₁ } .next s₃ := by
      rintro s₃ ⟨h', tk, m', news', e, F', N', ho, r⟩
      refine ⟨rfl, h', tk, m', news', e, F', ?_, ?_, r⟩
      · rintro ⟨pa, po⟩ hp
        rcases List.mem_append.mp hp with hp | hp
        · have h2 : h₁.get? pa = some po := hget _ hp
          rcases hfp pa (hown _ hp) with h3 | ⟨o, h3⟩
          · have h4 : pa ∈ its.map (·.1) := by rw [hmap]; exact h3
            obtain ⟨⟨qa, qo⟩, hq, hqe⟩ := List.mem_map.mp h4
            have hqe' : qa = pa := hqe
            subst hqe'
            have h5 : h₁.get? qa = some qo := hval _ hq
            have h6 : qo = po := Option.some.inj (h5.symm.trans h2)
            subst h6
            exact N' _ (List.mem_append_left _ hq)
          · have h4 : h₁.get? pa = some o := (N₁ _ (List.mem_append_right _ (hk₁ _ h3))).1
            have h6 : o = po := Option.some.inj (h4.symm.trans h2)
            subst h6
            exact N' _ (List.mem_append_right _ (hk _ _ _ r _ h3))
        · exact N' _ (List.mem_append_right _ hp)
      · intro p hp hI
        have h4 : p.1 ∈ its.map (·.1) := by rw [hmap]; exact hwr _ hI
        obtain ⟨q, hq, hqe⟩ := List.mem_map.mp h4
        exact ho p hp q hq hqe.symm
    refine wpAny_mono ((step i v m₁ news₁ h₁ tk₁ hin hPi hJ F₁).at hits N₂) (fun _ s₂ h₂ => wpAny_mono h₂ (fun f s₃ p => ?_) fun _ _ e => e) fun _ _ e => e
    cases f with
    | ret v => exact .ret p
    | brk => exact .brk p
    | next => exact .next (fin _ p)
    | cont => exact .cont (fin _ p)
  · intro h' tk m' news' F' N' _ hJ
    exact fin h' tk m' news' F' N' hJ
/-- one list is filled turn by turn (acc), and some names are forgotten (M) -/
def AccJ {σ : Type} (M : σ → Str → Option Value) (g : Obj → List (Addr × Obj)) (acc : Nat → List Int) (i : Nat) (m' : Str → Option Value) (n' : List (Addr × Obj)) : Prop :=
  (∃ c, m' = M c) ∧ ∃ ds k, n' = g (listOf (List.toArray ds) k) ∧ IntsAre ds (acc i)
theorem enum_acc {σ : Type} (M : σ → Str → Option Value) (g : Obj → List (Addr × Obj)) (acc : Nat → List Int) {elts : List Expr} {k : Nat} {pos : Pos} {I l : Addr} {vs : List Value} {ns : List Int} {n : Nat} {m : Str → Option Value} {big : List (Addr × Obj)} {ds : List Value} {kd : Nat}
    (hh : A.handled = none) (F : Fr h₀ env.locals s.heap m) (N : News h₀ env.locals s.heap big) (hi : (I, liO l) ∈ big) (hsub : ∀ p ∈ g (listOf ds.toArray kd), p ∈ big) (hl : ∀ o, (l, listOf vs.toArray n) ∈ g o) (hoff : ∀ p ∈ g (listOf ds.toArray kd), p.1 ≠ I) (hM : ∃ c, m = M c) (I1 : IntsAre vs ns) (I0 : IntsAre ds (acc 0))
    (step : ∀ i a c ds k h tk e, i < ns.length → ns.getD i 0 = a → a ∈ ns → IntsAre ds (acc i) → (∀ p ∈ big, p.1 < e) → Fr h₀ env.locals h (M c) → ∀ oe oi : Obj, oe.cls = .type "enumerate" → oi.cls = .type "list_iterator" → News h₀ env.locals h ((e, oe) :: (I, oi) :: g (listOf (List.toArray ds) k)) → ∀ T t u, IsTup h T #[.int i t, .int a u] → 
      wpAny (model prog w) A (assign (.Tuple elts k pos) env (.ref T)) (fun _ s₂ => wpAny (model prog w) A (execs body env) (UnrPostW h₀ env.locals { s with heap := h, toks := tk } [(e, oe), (I, oi)] (AccJ M g acc (i + 1)) Q) E s₂) E { s with heap := h, toks := tk })
    (fin : ∀ h' tk c ds k, Fr h₀ env.locals h' (M c) → News h₀ env.locals h' (g (listOf (List.toArray ds) k)) → IntsAre ds (acc ns.length) → Q .next { s with heap := h', toks := tk }) :
    EnumEnd (fun xv s₁ => wpAny (model prog w) A (pyIter xv) (fun it s₂ => TurnsAt prog w A h₀ env (.Tuple elts k pos) body Q E it s₂) E s₁) (.ref I) s := by
  have hI := N _ hi
  have hlb := N _ (hsub _ (hl _))
  have hIlt : @LT.lt Nat _ I s.heap.objs.size := Heap.lt_size hI.1
  have hllt : @LT.lt Nat _ l s.heap.objs.size := Heap.lt_size hlb.1
  have hlI : @Ne Nat l I := hoff _ (hl _)
  have hLs : @LT.lt Nat _ env.locals s.heap.objs.size := F.ns.lt
  show wpAny (model prog w) A (pyIter (.ref s.heap.objs.size)) _ E _
  have hE : IsEnum (s.heap.push { cls := .type "enumerate", data := .fields #[.none, .bool false, .ref I, rawInt 0, .none, .none] }) s.heap.objs.size I 0 .none := Heap.get?_push_size _ rfl
  have up : ∀ b o, s.heap.get? b = some o → (s.heap.push { cls := .type "enumerate", data := .fields #[.none, .bool false, .ref I, rawInt 0, .none, .none] }).get? b = some o := fun b o e => Heap.get?_push_of_some _ e
  refine wpAny_pyIter_enum hE ?_
  refine turn_inv (tk0 := s.toks) (keep := [(l, listOf vs.toArray n)]) (ws := [(s.heap.objs.size, "enumerate"), (I, "list_iterator")]) (AccJ M g acc) (KTurns.ofWalksU (WalksT.enumerate hh s.heap.objs.size I l (Nat.ne_of_gt hIlt) (Nat.ne_of_lt hllt) hlI vs.toArray).toU) ?_ ?_ ?_ ?_ ?_ ?_ ?_ (F.keeps up) (news := g (listOf ds.toArray kd)) (fun p hp => ⟨up _ _ (N p (hsub p hp)).1, (N p (hsub p hp)).2⟩) ?_ ⟨hM, ds, kd, rfl, I0⟩ ?_ ?_
  · rintro i h ⟨⟨old, he⟩, ⟨oi, hoi, hic, _⟩, _⟩
    have he' : ∃ oe : Obj, h.get? s.heap.objs.size = some oe ∧ oe.cls = .type "enumerate" := ⟨_, he, rfl⟩
    obtain ⟨oe, h1, h2⟩ := he'
    refine ⟨[(s.heap.objs.size, oe), (I, oi)], ⟨⟨rfl, h2⟩, ⟨rfl, hic⟩, trivial⟩, fun p hp => ?_⟩
    rcases List.mem_cons.mp hp with rfl | hp
    · exact h1
    · rw [List.mem_singleton.mp hp]; exact hoi
  · intro b hb
    have hb' : b = s.heap.objs.size ∨ b = I := by simpa using hb
    rcases hb' with rfl | rfl
    · exact ⟨by simp, ktu_new F (Nat.le_refl _)⟩
    · exact ⟨by simp, hI.2.2⟩
  · intro b hb
    simpa using hb
  · intro b hb
    have hb' : b = s.heap.objs.size ∨ b = I ∨ b = l := by simpa using hb
    rcases hb' with rfl | rfl | rfl
    · exact .inl (by simp)
    · exact .inl (by simp)
    · exact .inr ⟨_, List.mem_singleton.mpr rfl⟩
  · intro hI'
    have hb' : env.locals = s.heap.objs.size ∨ env.locals = I ∨ env.locals = l := by simpa using hI'
    rcases hb' with e | e | e
    · exact Nat.ne_of_lt hLs e
    · exact hI.2.1 e.symm
    · exact hlb.2.1 e.symm
  · intro p hp hI'
    have hb' : p.1 = s.heap.objs.size ∨ p.1 = I := by simpa using hI'
    rcases hb' with e | e
    · exact Nat.ne_of_lt (Heap.lt_size (N p (hsub p hp)).1) e
    · exact hoff p hp e
  · exact ⟨⟨.none, hE⟩, ⟨_, up _ _ hI.1, rfl, rfl⟩, ⟨_, up _ _ hlb.1, rfl, _, rfl⟩⟩
  · rintro i m' n' ⟨_, ds', k', rfl, _⟩ p hp
    rw [List.mem_singleton.mp hp]
    exact hl _
  · rintro i v m₁ news₁ h₁ tk₁ hin ⟨T, vals, rfl, ⟨t, x, hx, rfl⟩, hT⟩ ⟨⟨c, rfl⟩, ds', k', rfl, I'⟩ F₁
    obtain ⟨a, u, rfl, ha⟩ := IntsAre.at I1 i x (by simpa using hx)
    have hlen := I1.length
    refine AllObj.cons fun oe hoe => AllObj.cons fun oi hoi => AllObj.nil fun N' => ?_
    exact step i a c ds' k' h₁ tk₁ s.heap.objs.size (by rw [List.size_toArray] at hin; omega) (by rw [List.getD_eq_getElem?_getD, ha]; rfl) (List.mem_of_getElem? ha) I' (fun p hp => Heap.lt_size (N p hp).1) F₁ oe oi hoe hoi N' T t u hT
  · rintro h' tk m' news' F' N' ⟨⟨c, rfl⟩, ds', k', rfl, I'⟩
    have e : vs.toArray.size = ns.length := by rw [List.size_toArray]; exact I1.length
    rw [e] at I'
    exact fin h' tk c ds' k' F' N' I'
theorem acc_end {L : Addr} {σ : Type} {M : σ → Str → Option Value} {g : Obj → List (Addr × Obj)} {acc : Nat → List Int} {i : Nat} {s₁ : Shared} {h' : Heap} {tk : Nat} {m' : Str → Option Value} {e I : Addr} {oe oi : Obj} {ds : List Value} {k : Nat} {zs : List Int}
    (F : Fr h₀ L h' m') (N : News h₀ L h' ((e, oe) :: (I, oi) :: g (listOf (List.toArray ds) k))) (o1 : ∀ p ∈ g (listOf (List.toArray ds) k), p.1 ≠ e) (o2 : ∀ p ∈ g (listOf (List.toArray ds) k), p.1 ≠ I) (hM : ∃ c, m' = M c) (hI : IntsAre ds zs) (hz : zs = acc (i + 1)) :
    UnrEndW h₀ L s₁ [(e, oe), (I, oi)] (AccJ M g acc (i + 1)) { s₁ with heap := h', toks := tk } := by
  refine ⟨h', tk, m', _, rfl, F, N, ?_, hM, ds, k, rfl, hz ▸ hI⟩
  intro p hp q hq
  rcases List.mem_cons.mp hq with rfl | hq
  · exact o1 p hp
  · rw [List.mem_singleton.mp hq]
    exact o2 p hp
end
/-- names forgotten -/
def forget2 (x1 x2 : Str) (m : Str → Option Value) (c : Option Value × Option Value) : Str → Option Value := fun y => if y = x1 then c.1 else if y = x2 then c.2 else m y
theorem forget2_of {x1 x2 : Str} {m m' : Str → Option Value} (h : ∀ y, y ≠ x1 → y ≠ x2 → m' y = m y) : ∃ c, m' = forget2 x1 x2 m c := by
  refine ⟨(m' x1, m' x2), funext fun y => ?_⟩
  unfold forget2
  dsimp only
  split
  · rename_i e; rw [e]
  · split
    · rename_i e; rw [e]
    · exact h y (by assumption) (by assumption)
def forget4 (x1 x2 x3 x4 : Str) (m : Str → Option Value) (c : Option Value × Option Value × Option Value × Option Value) : Str → Option Value := fun y => if y = x1 then c.1 else if y = x2 then c.2.1 else if y = x3 then c.2.2.1 else if y = x4 then c.2.2.2 else m y
theorem forget4_of {x1 x2 x3 x4 : Str} {m m' : Str → Option Value} (h : ∀ y, y ≠ x1 → y ≠ x2 → y ≠ x3 → y ≠ x4 → m' y = m y) : ∃ c, m' = forget4 x1 x2 x3 x4 m c := by
  refine ⟨(m' x1, m' x2, m' x3, m' x4), funext fun y => ?_⟩
  unfold forget4
  dsimp only
  split
  · rename_i e; rw [e]
  · split
    · rename_i e; rw [e]
    · split
      · rename_i e; rw [e]
      · split
        · rename_i e; rw [e]
        · exact h y (by assumption) (by assumption) (by assumption) (by assumption)
/-- one row of the product: a times b, put at place i -/
def rowX (b : List Int) (i : Nat) (a : Int) (zs : List Int) : Nat → List Int
  | 0 => zs
  | j + 1 => (rowX b i a zs j).set (i + j) (Builtin.bitXor ((rowX b i a zs j).getD (i + j) 0) (gexpI (glogI a + glogI (b.getD j 0))))
def mulX (a b : List Int) : Nat → List Int
  | 0 => List.replicate (a.length + b.length - 1) 0
  | i + 1 => rowX b i (a.getD i 0) (mulX a b i) b.length
theorem rowX_length (b : List Int) (i : Nat) (a : Int) (zs : List Int) : ∀ k, (rowX b i a zs k).length = zs.length
  | 0 => rfl
  | k + 1 => by rw [rowX, List.length_set, rowX_length b i a zs k]
theorem mulX_length (a b : List Int) : ∀ k, (mulX a b k).length = a.length + b.length - 1
  | 0 => by rw [mulX, List.length_replicate]
  | k + 1 => by rw [mulX, rowX_length, mulX_length a b k]
theorem updF_same {d : Addr} {o : Obj} {l : List (Addr × Obj)} {g : Obj → List (Addr × Obj)} (U : UpdF d o l g) : g o = l := by
  obtain ⟨_, _, e, h, _, _⟩ := U.split
  rw [h, e]
section
variable {prog : Program} {w : World} {A : Around} {E : Value → Shared → Prop} {s : Shared} {env : Env} {h₀ : Heap} {target : Expr} {body : List Stmt} {Q : Flow → Shared → Prop}
theorem enum_acc2 {σ : Type} (M : σ → Str → Option Value) {g : Obj → List (Addr × Obj)} (acc : Nat → List Int) {elts : List Expr} {k : Nat} {pos : Pos} {I l D : Addr} {vs : List Value} {ns : List Int} {n : Nat} {m : Str → Option Value} {news0 : List (Addr × Obj)} {ds : List Value} {kd : Nat}
    (hh : A.handled = none) (F : Fr h₀ env.locals s.heap m) (N : News h₀ env.locals s.heap ((I, liO l) :: news0)) (_hD : (D, listOf ds.toArray kd) ∈ news0) (U : UpdF D (listOf ds.toArray kd) news0 g) (hl : ∀ o, (l, listOf vs.toArray n) ∈ g o) (hoff : ∀ p ∈ news0, p.1 ≠ I) (hM : ∃ c, m = M c) (I1 : IntsAre vs ns) (I0 : IntsAre ds (acc 0))
    (step : ∀ i a c ds k h tk e, i < ns.length → ns.getD i 0 = a → a ∈ ns → IntsAre ds (acc i) → (∀ p ∈ (I, liO l) :: news0, p.1 < e) → Fr h₀ env.locals h (M c) → ∀ oe oi : Obj, oe.cls = .type "enumerate" → oi.cls = .type "list_iterator" → News h₀ env.locals h ((e, oe) :: (I, oi) :: g (listOf (List.toArray ds) k)) → ∀ T t u, IsTup h T #[.int i t, .int a u] → 
      wpAny (model prog w) A (assign (.Tuple elts k pos) env (.ref T)) (fun _ s₂ => wpAny (model prog w) A (execs body env) (UnrPostW h₀ env.locals { s with heap := h, toks := tk } [(e, oe), (I, oi)] (AccJ M g acc (i + 1)) Q) E s₂) E { s with heap := h, toks := tk })
    (fin : ∀ h' tk c ds k, Fr h₀ env.locals h' (M c) → News h₀ env.locals h' (g (listOf (List.toArray ds) k)) → IntsAre ds (acc ns.length) → Q .next { s with heap := h', toks := tk }) :
    EnumEnd (fun xv s₁ => wpAny (model prog w) A (pyIter xv) (fun it s₂ => TurnsAt prog w A h₀ env (.Tuple elts k pos) body Q E it s₂) E s₁) (.ref I) s :=
  enum_acc M g acc (kd := kd) (ds := ds) hh F N (.head _) (by rw [updF_same U]; exact fun p hp => .tail _ hp) hl (by rw [updF_same U]; exact hoff) hM I1 I0 step fin
end
end
section
/-! a class whose own __new__ makes its objects (a tuple's child) -/
section
variable {prog : Program} {w : World} {A : Around} {K : Frag} {C : Addr} {R : Result → Shared → Prop} {h : Heap} {g : Array GenState} {d : Drawn} {t : Nat} {os : OsState}
/-- what __new__ must give: an object of the class; then its maker goes on -/
def NewBack (K : Frag) (C : Addr) (R : Result → Shared → Prop) (v : Value) (s' : Shared) : Prop :=
  ∃ x o, v = .ref x ∧ K.In s'.heap ∧ s'.heap.get? x = some o ∧ o.cls = .ref C ∧ R (.ok (.ret (.ref x))) s'
theorem own_new {f p : Addr} {mc : Value} {oc : Value} {od : Option Addr} {cd : ClassData} {sl : Array (Option Value)} {fs rest : List Value} (X : K.In h) (ho : K.lookup C = some ⟨oc, od, .cls cd, sl⟩) (e4 : cd.mro.isEmpty = false) (hs : (sl.toList[4]?).join = some .none)
    (hcall : specialIn K (.ref C) "__call__" = some (some (.builtin "type.__call__"))) (htyp : instIn K (.ref C) (.type "type") = some true) (hr : readsIn K C mc = true)
    (ef : findCls K (.ref C) mc "__new__" = some (.get (.builtin "staticmethod.__get__") (.ref p) .none (.ref C))) (hp : recIn K p "staticmethod" = some (.ref f :: fs)) (hh : handedIn (.ref f) = true)
    (hself : mroIn K C (.ref C) = some true) (hobj : mroIn K C (.type "object") = some true) (hi : findIn K (.ref C) "__init__" = some (some (.builtin "object.__init__")))
    (hq : wpAny (model prog w) (A.under (.builtin "type.__call__" ⟨.ref C :: rest, []⟩)) (call (.ref f) (.ref C :: rest)) (NewBack K C R) (fun e s' => R (.error e) s') ⟨h, g, d, t + 1, os⟩) :
    codeAny (model prog w) A (.call (.ref C) ⟨rest, []⟩) R ⟨h, g, d, t, os⟩ := by
  have hC : h.get? C = some ⟨oc, od, .cls cd, sl⟩ := X _ _ ho
  have hc : clsIn K C = some cd := by unfold clsIn; rw [ho]
  have hm : Looks (model prog w) h (mroOf (.ref C)) cd.mro := (looks_clsIn X hc).andThen .now
  obtain ⟨c, l, hl⟩ : ∃ c l, cd.mro = c :: l := by cases q : cd.mro with | nil => rw [q] at e4; cases e4 | cons c l => exact ⟨c, l, rfl⟩
  have madeAt : ∀ h', K.In h' → Looks (model prog w) h' (Bind.madeBy (.ref C)) none := by
    intro h' X A Q E s k q
    have hm : Looks (model prog w) h' (mroOf (.ref C)) cd.mro := (looks_clsIn X hc).andThen .now
    unfold Bind.madeBy
    refine wpAny_bind (hm A _ E s k ?_)
    rw [hl, List.forIn_cons]
    refine wpAny_bind (wpAny_bind (wpAny_bind (wpAny_bind (wpAny_loadPart (k _ _ (X _ _ ho)) (wpAny_pure ?_)))))
    dsimp only
    rw [← Array.getElem?_toList, hs]
    exact wpAny_pure (wpAny_pure (wpAny_pure q))
  have made := madeAt h X
  have call := looks_specialIn (M := model prog w) X hcall
  have typ := looks_instIn (M := model prog w) X htyp
  refine codeAny_of_tree ?_
  show wpAny _ _ (callAny (.ref C) _) _ _ _
  refine nd_load hC ?_
  show wpAny _ _ (callAny.viaDunder (.ref C) _) _ _ _
  unfold callAny.viaDunder
  refine wpAny_bind (call.at ?_)
  dsimp only
  rw [tc_bind]
  refine wpAny_bind (wpAny_pure (wpAny_bind (wpAny_pure ?_)))
  refine wpAny_pure (a := Fin.again (.call (.builtin "type.__call__") ⟨.ref C :: rest, []⟩)) (And.intro rfl ?_)
  refine codeAny_call_builtin_at (Code.quiet_builtin _ (by decide +kernel)) entry_typeCall (check_slot tc_kind tc_split typ (tc_args _ _ _) ?_)
  unfold Builtin.«type.__call__»
  have ga : ∀ {A' : Around} {E' : Value → Shared → Prop} {Q' : Value → Shared → Prop}, Q' (.ref f) ⟨h, g, d, t + 1, os⟩ → wpAny (model prog w) A' (getAttr (.ref C) "__new__") Q' E' ⟨h, g, d, t, os⟩ := fun hq' =>
    cls_bind X hr ef (wpAny_call (sm_get X hp (handed_on hh hq')))
  repeat (first | simp only [e4, Bool.false_eq_true, if_false] | with_reducible refine ga ?_ | with_reducible refine wpAny_mono hq ?_ ?_ | lk)
  · rintro v s' ⟨x, o, rfl, X', hx, hcls, hR⟩
    obtain ⟨h', g', d', t', os'⟩ := s'
    dsimp only at X' hx
    have t1 : Looks (model prog w) h' (typeOf (.ref x)) (.ref C) := hcls ▸ ((Looks.ld hx).andThen .now)
    have i1 : Looks (model prog w) h' (isInstance (.ref x) (.ref C)) true := t1.andThen (looks_mroIn X' hself)
    have i2 : Looks (model prog w) h' (isInstance (.ref x) (.type "object")) true := t1.andThen (looks_mroIn X' hobj)
    have l1 := looks_findIn (M := model prog w) X' hi
    have made' := madeAt h' X'
    refine wpAny_bind (i1.at ?_)
    simp only [Bool.not_true, Bool.false_eq_true, if_false]
    refine wpAny_bind (wpAny_holding ?_)
    unfold callSpecial? specialOf
    refine wpAny_bind (wpAny_bind (t1.at (l1.at ?_)))
    dsimp only
    refine wpAny_holding (wpAny_bind ?_)
    rw [oi_bind]
    refine wpAny_pure (wpAny_bind (wpAny_call ?_))
    refine codeAny_call_builtin oi_plain entry_oi (@check_slot (model prog w) _ _ _ "object.__init__" "object" "__init__" (.ref x) rest [] _ oi_kind oi_split i2 ?_ ?_)
    · unfold argsOk; kernel_rfl
    · unfold Builtin.«object.__init__»
      rcases rest with _ | ⟨r1, rs⟩
      · repeat lk
        exact hR
      · have hne : (some (Value.builtin "object.__init__") != some (Value.builtin "object.__init__")) = false := bne_self_eq_false _
        repeat (first | simp only [hne, List.isEmpty_cons, Bool.not_false, Bool.true_or, if_true, Bool.false_eq_true, if_false] | lk)
        exact hR
  · exact fun _ _ z => z
end
/-! tuple.__new__ for a child of tuple -/
abbrev childObj (C dx : Addr) (items : Array Value) : Obj := { cls := .ref C, dict := some dx, data := .seq items }
theorem tn_base : Builtin.Slots.bestBase [.type "tuple"] = pure (.type "tuple") := by first | rfl | kernel_rfl
theorem tn_plain : plainId "tuple.__new__" = true := by decide +kernel
theorem tn_kind : builtinKind "tuple.__new__" = some .builtinFn := by decide +kernel
theorem tn_split : splitId "tuple.__new__" = some ("tuple", "__new__") := by decide +kernel
section
variable {prog : Program} {w : World} {A : Around} {E : Value → Shared → Prop} {K : Frag} {C T : Addr} {s : Shared} {h₀ : Heap} {L : Addr} {m : Str → Option Value} {news : List (Addr × Obj)}
theorem tuple_child {Q : Value → Shared → Prop} {oc : Value} {od : Option Addr} {cd : ClassData} {sl : Array (Option Value)} {oT : Obj} {items : Array Value} {n : Nat} (F : Fr h₀ L s.heap m) (N : News h₀ L s.heap news) (X₀ : K.In h₀) (ho : K.lookup C = some ⟨oc, od, .cls cd, sl⟩)
    (e2 : cd.hasDel = false) (hl : cd.mro = [.ref C, .type "tuple", .type "object"]) (hb : cd.bases = [.type "tuple"]) (hs : (sl.toList[4]?).join = some .none)
    (hi : findIn K (.ref C) "__init__" = some (some (.builtin "object.__init__"))) (hT : s.heap.get? T = some oT) (hTc : oT.cls = .type "tuple") (hTd : oT.data = .seq items n) (hsz : items.size ≤ sizeLine)
    (h : ∀ x dx h', Fr h₀ L h' m → News h₀ L h' ((x, childObj C dx items) :: (dx, emptyDict) :: news) → (∀ p ∈ news, p.1 < dx) → dx < x → Q (.ref x) { s with heap := h' }) :
    wpAny (model prog w) A (call (.builtin "tuple.__new__") [.ref C, .ref T]) Q E s := by
  obtain ⟨hh, g, d, t, os⟩ := s
  dsimp only at hT
  have X : K.In hh := X₀.keeps F.keep
  have hC : hh.get? C = some ⟨oc, od, .cls cd, sl⟩ := X _ _ ho
  have hc : clsIn K C = some cd := by unfold clsIn; rw [ho]
  have hm : Looks (model prog w) hh (mroOf (.ref C)) cd.mro := (looks_clsIn X hc).andThen .now
  have made : Looks (model prog w) hh (Bind.madeBy (.ref C)) none := by
    intro A Q E s k q
    unfold Bind.madeBy
    refine wpAny_bind (hm A _ E s k ?_)
    rw [hl, List.forIn_cons]
    refine wpAny_bind (wpAny_bind (wpAny_bind (wpAny_bind (wpAny_loadPart (k _ _ (X _ _ ho)) (wpAny_pure ?_)))))
    dsimp only
    rw [← Array.getElem?_toList, hs]
    exact wpAny_pure (wpAny_pure (wpAny_pure q))
  have base : Looks (model prog w) hh (Bind.staticBase (.ref C)) (.type "tuple") := by
    intro A Q E s k q
    unfold Bind.staticBase
    refine wpAny_bind (hm A _ E s k ?_)
    rw [hl, List.forIn_cons]
    refine wpAny_bind (wpAny_bind (wpAny_bind (made A _ E s k ?_)))
    simp only [Option.isSome_none, Bool.false_eq_true, if_false]
    refine wpAny_bind ((looks_clsIn X hc) A _ E s k ?_)
    rw [hb, tn_base]
    refine wpAny_bind (wpAny_pure (wpAny_pure ?_))
    dsimp only
    rw [List.forIn_cons, PySem.F.called_tuple.made]
    refine wpAny_bind (wpAny_bind (wpAny_bind (wpAny_pure ?_)))
    simp only [Option.isSome_some, if_true]
    repeat (first | exact q | refine wpAny_pure ?_)
  have sub : Looks (model prog w) hh (isSubtype (.ref C) (.type "tuple")) true := looks_mroIn X (by unfold mroIn; rw [hc, Option.bind_some, hl]; simp)
  have madeT : Looks (model prog w) hh (Bind.madeBy (.type "tuple")) (some "tuple.__new__") := Looks.of_pure PySem.F.called_tuple.made
  have here : Looks (model prog w) hh (Bind.madeHere "tuple.__new__" (.ref C)) () := base.andThen (madeT.andThen (Looks.of_pure (by simp only [Option.map_some, bne_self_eq_false, Bool.false_eq_true, if_false])))
  have init := looks_findIn (M := model prog w) X hi
  refine wpAny_call ?_
  refine codeAny_call_builtin tn_plain PySem.F.entry_tuple_new ?_
  simp only [checkBuiltinCall, tn_kind, tn_split]
  repeat (first | simp only [bne_self_eq_false, Bool.false_eq_true, if_false, Bool.not_true] | with_reducible refine wpAny_collect_seq T (.inr rfl) hT hTc hTd ?_ hsz | lk)
  intro h' hk
  have N1 : Fr h₀ L h' m := F.keeps hk
  have N2 : News h₀ L h' news := N.grown hk
  refine wpAny_bind (wpAny_pure (wpAny_bind (wpAny_alloc (wpAny_bind ?_))))
  have e : items.toList.toArray = items := by simp
  rw [e]
  unfold newObj
  dsimp only
  rw [if_neg (Nat.not_lt.mpr hsz)]
  unfold newObjAsIs classHasDel
  have hC2 : h'.get? C = some ⟨oc, od, .cls cd, sl⟩ := hk _ _ hC
  refine wpAny_bind (wpAny_alloc ?_)
  dsimp only
  refine wpAny_bind (wpAny_bind (wpAny_bind (wpAny_load (Heap.get?_push_of_some _ (Heap.get?_push_of_some _ hC2)) (wpAny_pure ?_))))
  dsimp only
  rw [e2]
  refine wpAny_pure ?_
  simp only [Bool.false_eq_true, if_false]
  refine wpAny_pure (wpAny_pure ?_)
  have N3 := (N2.push N1 emptyDict).push (N1.push _) (childObj C h'.objs.size items)
  rw [Heap.size_push] at N3
  have z := h _ h'.objs.size _ ((N1.push _).push _) N3 (fun p hp => Heap.lt_size (N2 p hp).1) (Nat.lt_succ_self _)
  rw [Heap.size_push]
  exact z
end
end
section
local macro_rules | `(tactic| walk_at "pad 0") => `(tactic| skip)
/-! an attribute of a tuple's child that its class binds -/
theorem tg_plain : plainId "tuple.__getattribute__" = true := by decide +kernel
theorem tg_kind : builtinKind "tuple.__getattribute__" = some .slot := by decide +kernel
theorem tg_split : splitId "tuple.__getattribute__" = some ("tuple", "__getattribute__") := by decide +kernel
theorem tg_args (a b : Value) : argsOk "tuple.__getattribute__" ⟨[a, b], []⟩ := by unfold argsOk; kernel_rfl
theorem tg_slot : Slot "tuple" "__getattribute__" "tuple.__getattribute__" :=
  .of (owner := "tuple") (n := "__getattribute__") (by rw [typeLookup_type, builtinLookup_eq_fast]; kernel_rfl) (by decide +kernel) (by decide +kernel) (by decide +kernel)
    (.inl (by decide +kernel)) (by rw [isSubtype_type]; kernel_rfl)
section
variable {prog : Program} {w : World} {A : Around} {E : Value → Shared → Prop} {s : Shared} {K : Frag} {x C : Addr} {ox : Obj} {od : Option Obj} {name : Str} {expr : Bool}
theorem get_child {g a : Value} {Q : Value → Shared → Prop} (X : K.In s.heap) (I : InstAt s.heap x ox C od) (hga : findIn K (.ref C) "__getattribute__" = some (some (.builtin "tuple.__getattribute__")))
    (hf : findObj K C od name = some (.bind g a)) (hk : findIn K (.ref C) "__getattr__" = some none) (hsub : mroIn K C (.type "tuple") = some true)
    (h : wpAny (model prog w) A.in1 (call g [a, .ref x, .ref C]) (fun v s' => wpAny (model prog w) A (handedOut v) Q E s') (fun _ _ => False) { s with toks := s.toks + 1 }) :
    wpAny (model prog w) A (getAttr (.ref x) name expr) Q E s := by
  obtain ⟨hh, gg, d, t, os⟩ := s
  have L0 := I.type (M := model prog w)
  have L1 := looks_findIn (M := model prog w) X hga
  have L2 := looks_findIn (M := model prog w) X hk
  have L3 := looks_find (M := model prog w) X I hf
  have L4 : Looks (model prog w) hh (isInstance (.ref x) (.type "tuple")) true := L0.andThen (looks_mroIn X hsub)
  unfold getAttr getAttrBy
  refine wpAny_bind (wpAny_mkText (wpAny_holding (wpAny_bind (L0.at (wpAny_bind (L1.at ?_))))))
  dsimp only
  rw [show (onTheHeap (.ref C) && Value.builtin "tuple.__getattribute__" == Value.builtin "object.__getattribute__") = false from by rw [show (Value.builtin "tuple.__getattribute__" == Value.builtin "object.__getattribute__") = false from by decide +kernel, Bool.and_false], if_neg (by decide)]
  unfold getAttrByItsOwn hookBefore
  rw [if_pos (show onTheHeap (.ref C) = true from rfl)]
  refine wpAny_bind (L2.at (wpAny_bind (wpAny_attempt (wpAny_holding ?_))))
  unfold callGetattribute
  rw [show (expr && onTheHeap (Value.builtin "tuple.__getattribute__")) = false from Bool.and_false _, if_neg (by decide)]
  unfold boundAndCalled
  rw [tg_slot.bind]
  refine wpAny_bind (wpAny_pure ?_)
  show wpAny _ _ (call (.builtin "tuple.__getattribute__") [.ref x, .str name t]) _ _ _
  refine wpAny_call ?_
  refine codeAny_call_builtin tg_plain PySem.F.entry_tuple_ga ?_
  refine @check_slot (model prog w) _ _ ⟨hh, gg, d, t + 1, os⟩ "tuple.__getattribute__" "tuple" "__getattribute__" (.ref x) [.str name t] [] _ tg_kind tg_split L4 (tg_args (.ref x) (.str name t)) ?_
  unfold Builtin.«object.__getattribute__»
  refine wpAny_bind (wpAny_pure (wpAny_bind (wpAny_pure (wpAny_bind (L0.at (wpAny_bind (L3.at ?_)))))))
  show wpAny _ _ (holding [a] (call g [a, .ref x, .ref C]) >>= ret) _ _ _
  exact wpAny_bind (wpAny_holding (wpAny_mono h (fun v s' z => wpAny_pure z) fun _ _ z => z.elim))
end
end
section
/-! issubclass of a class of the program; an item of a tuple's child by tuple.__getitem__ -/
section
variable {prog : Program} {w : World} {A : Around} {E : Value → Shared → Prop} {s : Shared} {K : Frag} {C : Addr}
theorem isu_nested {k : Value} {dep : Int} {tk : Tok} {T : String} {b : Bool} {Q : Fin → Shared → Prop} (hk : k = .int dep tk) (X : K.In s.heap) (hm : typeOf (.type T) = pure (.type "type")) (h1 : (clsIn K C).isSome = true) (h2 : isType (.type T) = pure true) (h3 : mroIn K C (.type T) = some b) (hq : Q (.done (.ret (.bool b))) s) :
    wpAny (model prog w) A (Builtin.«issubclass.nested» ⟨[.ref C, .type T, k], []⟩) Q E s := by
  subst hk
  obtain ⟨hh, g, d, tt, os⟩ := s
  have L1 : Looks (model prog w) hh (isType (.ref C)) true := by
    unfold clsIn at h1
    split at h1
    · rename_i ho
      intro A Q E s k q
      unfold isType
      exact wpAny_bind (wpAny_loadPart (k _ _ (X _ _ ho)) (wpAny_pure q))
    · exact absurd h1 (by decide)
  have L3 : Looks (model prog w) hh (isSubtype (.ref C) (.type T)) b := looks_mroIn X h3
  unfold Builtin.«issubclass.nested»
  refine wpAny_bind (hm ▸ wpAny_pure ?_)
  rw [if_pos (by decide)]
  k_delta "plainIsSubclass"
  refine wpAny_bind (wpAny_bind (L1.at ?_))
  rw [h2]
  refine wpAny_bind (wpAny_pure ?_)
  simp only [Bool.and_self, if_true]
  refine L3.at ?_
  exact wpAny_bind (wpAny_pure (wpAny_pure hq))
theorem issub_call {T : String} {b : Bool} {Q : Value → Shared → Prop} (X : K.In s.heap) (hm : typeOf (.type T) = pure (.type "type")) (h1 : (clsIn K C).isSome = true) (h2 : isType (.type T) = pure true) (h3 : mroIn K C (.type T) = some b) (h : Q (.bool b) s) :
    wpAny (model prog w) A (call (.builtin "issubclass") [.ref C, .type T]) Q E s :=
  call_issubclass (S := fun _ R s => K.In s.heap ∧ R (.ok (.ret (.bool b))) s) (fun _ _ _ _ _ hs => issubclass_outer (isu_nested rfl hs.1 hm h1 h2 h3 hs.2)) ⟨X, h⟩
end
theorem tgi_kind : builtinKind "tuple.__getitem__" = some .slot := by decide +kernel
theorem tgi_plain : plainId "tuple.__getitem__" = true := by decide +kernel
theorem tgi_split : splitId "tuple.__getitem__" = some ("tuple", "__getitem__") := by decide +kernel
theorem meets_child_item {C dx l : Addr} (items : Array Value) (i : Int) (u : Tok) (y : Value) (k : Nat) (hlo : -2 ^ 63 ≤ i) (hhi : i < 2 ^ 63) (hk : seqIndex? i items.size = some k) (hy : items[k]? = some y) :
    Meets (Builtin.«tuple.__getitem__» ⟨[.ref l, .int i u], []⟩)
      (fun _ R s => s.heap.get? l = some (childObj C dx items) ∧ R (.ok (.ret y)) s) :=
  .of_wp fun prog w A R s h => by
    obtain ⟨hp, g, d, tk, os⟩ := s; obtain ⟨hl, h⟩ := h
    have f1 := AutoSeq1.idx_int
    have hf : ¬ (decide (i < -2 ^ 63) || decide (i ≥ 2 ^ 63)) = true := by simp; omega
    wp_walk using wpAny_loadPart' hl
    simp only [hk, hy, Option.bind_some]
    refine wpAny_ite_false (by simp; omega) ?_
    wp_walk
    exact ⟨_, rfl, h⟩
theorem child_item {prog : Program} {w : World} {A : Around} {E : Value → Shared → Prop} {s : Shared} {K : Frag} {C dx l : Addr} {items : Array Value} {i : Int} {u : Tok} {y : Value} {k : Nat} {Q : Value → Shared → Prop} {od : Option Obj}
    (X : K.In s.heap) (I : InstAt s.heap l (childObj C dx items) C od) (hsub : mroIn K C (.type "tuple") = some true) (hlo : -2 ^ 63 ≤ i) (hhi : i < 2 ^ 63) (hk : seqIndex? i items.size = some k) (hy : items[k]? = some y) (hq : Q y s) :
    wpAny (model prog w) A (call (.builtin "tuple.__getitem__") [.ref l, .int i u]) Q E s := by
  have L4 : Looks (model prog w) s.heap (isInstance (.ref l) (.type "tuple")) true := (I.type (M := model prog w)).andThen (looks_mroIn X hsub)
  exact wpAny_call (codeAny_call_builtin tgi_plain F.entry_tuple_getitem (check_slot tgi_kind tgi_split L4 (F.args_tuple_getitem_2 _ _) (meets_child_item items i u y k hlo hhi hk hy prog w A (wants Q E) s ⟨I.at_, hq⟩)))
end
section
local macro_rules | `(tactic| walk_at "pad 0") => `(tactic| skip)
/-! loops whose turns may add objects to the ledger -/
section
variable {prog : Program} {w : World} {A : Around} {E : Value → Shared → Prop} {s : Shared} {env : Env} {h₀ : Heap} {x : Str} {body : List Stmt} {Q : Flow → Shared → Prop}
def GrowEnd (h₀ : Heap) (L : Addr) (J : (Str → Option Value) → List (Addr × Obj) → Prop) (I : Addr) (oI : Obj) (s₁ s₂ : Shared) : Prop :=
  ∃ h' tk m' news' nx, s₂ = { s₁ with heap := h', toks := tk } ∧ Fr h₀ L h' m' ∧ News h₀ L h' news' ∧ (∀ p ∈ nx, p ∈ news') ∧ (I, oI) ∈ news' ∧ (∀ p ∈ nx, p.1 ≠ I) ∧ J m' nx
theorem GrowEnd.intro {L : Addr} {J : (Str → Option Value) → List (Addr × Obj) → Prop} {I : Addr} {oI : Obj} {s₁ : Shared} {h' : Heap} {tk : Nat} {m' : Str → Option Value} {news' : List (Addr × Obj)} (nx : List (Addr × Obj)) (F : Fr h₀ L h' m') (N : News h₀ L h' news')
    (h1 : ∀ p ∈ nx, p ∈ news') (h2 : (I, oI) ∈ news') (h3 : ∀ p ∈ nx, p.1 ≠ I) (hj : J m' nx) : GrowEnd h₀ L J I oI s₁ { s₁ with heap := h', toks := tk } := ⟨h', tk, m', news', nx, rfl, F, N, h1, h2, h3, hj⟩
/-- a turn's end: a return, a break, or on to the next turn -/
def GrowPost (h₀ : Heap) (L : Addr) (J : (Str → Option Value) → List (Addr × Obj) → Prop) (I : Addr) (oI : Obj) (s₁ : Shared) (Q : Flow → Shared → Prop) (f : Flow) (s₂ : Shared) : Prop :=
  match f with
  | .ret v => Q (.ret v) s₂
  | .brk => Q .next s₂
  | _ => GrowEnd h₀ L J I oI s₁ s₂
theorem grow_list {l : Addr} {vs : List Value} {n : Nat} {m₀ : Str → Option Value} {news : List (Addr × Obj)} (J : Nat → (Str → Option Value) → List (Addr × Obj) → Prop)
    (hh : A.handled = none) (F : Fr h₀ env.locals s.heap m₀) (N : News h₀ env.locals s.heap news) (hk : ∀ i m' nx, J i m' nx → (l, listOf vs.toArray n) ∈ nx) (hj : J 0 m₀ news)
    (turn : ∀ i v m₁ nx h tk I oI, vs[i]? = some v → J i m₁ nx → (∀ p ∈ nx, p.1 ≠ I) → oI.cls = .type "list_iterator" → Fr h₀ env.locals h (fun y => if y = x then some v else m₁ y) → News h₀ env.locals h ((I, oI) :: nx) →
      wpAny (model prog w) A (execs body env) (GrowPost h₀ env.locals (J (i + 1)) I oI { s with heap := h, toks := tk } Q) E { s with heap := h, toks := tk })
    (done : ∀ m₁ nx h tk, J vs.length m₁ nx → Fr h₀ env.locals h m₁ → News h₀ env.locals h nx → Q .next { s with heap := h, toks := tk }) :
    wpAny (model prog w) A (pyIter (.ref l)) (fun it s₂ => LoopAtV prog w A h₀ env x body Q E it s₂) E s := by
  have hl := N _ (hk _ _ _ hj)
  have hls : s.heap.IsList l vs.toArray := ⟨_, hl.1, rfl, n, rfl⟩
  have hlt : @LT.lt Nat _ l s.heap.objs.size := Heap.lt_size hl.1
  refine wpAny_pyIter_list hls ?_
  have W := Walks.list (prog := prog) (w := w) hh s.heap.objs.size l (Nat.ne_of_lt hlt) vs.toArray
  refine ⟨_, _, _, vs.toArray.size, _, _, m₀, news, J, rfl, W, ?_, ?_, ?_, ⟨⟨_, Heap.get?_push_size _ rfl, rfl, rfl⟩, hls.at fun o e => Heap.get?_push_of_some _ e⟩, F.push _, (fun p hp => ⟨Heap.get?_push_of_some _ (N p hp).1, (N p hp).2⟩), hj, ?_, ?_⟩
  · intro hm
    rcases List.mem_cons.mp hm with e | hm
    · exact absurd F.ns.lt (e ▸ Nat.lt_irrefl _)
    · exact hl.2.1 (List.mem_singleton.mp hm).symm
  · intro b hb
    rw [List.mem_singleton.mp hb]
    exact next_is_new F
  · intro p hp hI
    exact absurd (Heap.lt_size (N p hp).1) ((List.mem_singleton.mp hI) ▸ Nat.lt_irrefl _)
  · rintro i v m₁ news₁ s₁ own ⟨hh', tk', rfl⟩ hin hP hJ hoff hown hget hall hst F₁ N₁
    obtain ⟨⟨oI, hoI, hcls, hdat⟩, _⟩ := hst
    have hmI : (s.heap.objs.size, oI) ∈ own := hall _ (by simp) (next_is_new F) oI hoI
    have hoff' : ∀ p ∈ news₁, p.1 ≠ s.heap.objs.size := fun p hp e => hoff p hp (by simp [e])
    have hv : vs[i]? = some v := by simpa using hP
    have hkl := hk _ _ _ hJ
    have N₂ : News h₀ env.locals hh' ((s.heap.objs.size, oI) :: news₁) := fun p hp => by
      rcases List.mem_cons.mp hp with rfl | hp
      · exact N₁ _ (List.mem_append_left _ hmI)
      · exact N₁ _ (List.mem_append_right _ hp)
    refine wpAny_mono (turn i v m₁ news₁ hh' tk' _ oI hv hJ hoff' hcls F₁ N₂) (fun f s₂ p => ?_) fun _ _ e => e
    have fin : GrowEnd h₀ env.locals (J (i + 1)) s.heap.objs.size oI { s with heap := hh', toks := tk' } s₂ → LoopStepU h₀ env.locals [s.heap.objs.size] own (J (i + 1)) { s with heap := hh', toks := tk' } .next s₂ := by
      rintro ⟨h', tk, m', news', nx, e, F', N', h1, h2, h3, hj'⟩
      refine ⟨rfl, h', tk, m', nx, e, F', fun p hp => ?_, fun p hp hq => h3 p hp (List.mem_singleton.mp hq), hj'⟩
      rcases List.mem_append.mp hp with hp | hp
      · obtain ⟨pa, po⟩ := p
        have g1 := hget _ hp
        rcases List.mem_cons.mp (hown _ hp) with q | q
        · dsimp only at q g1
          subst q
          rw [hoI] at g1
          cases g1
          exact N' _ h2
        · have q := List.mem_singleton.mp q
          dsimp only at q g1
          subst q
          rw [(N₁ _ (List.mem_append_right _ hkl)).1] at g1
          cases g1
          exact N' _ (h1 _ (hk _ _ _ hj'))
      · exact N' p (h1 p hp)
    cases f with
    | ret v => exact .ret p
    | brk => exact .brk p
    | next => exact .next (fin p)
    | cont => exact .cont (fin p)
  · rintro h' tk m' news' F' N' _ hJ
    have e : vs.toArray.size = vs.length := by simp
    rw [e] at hJ
    exact done m' news' h' tk hJ F' N'
theorem grow_range {r : Addr} {a₀ b₀ : Int} {t₀ u₀ v₀ : Tok} {n : Nat} {m₀ : Str → Option Value} {news : List (Addr × Obj)} (J : Nat → (Str → Option Value) → List (Addr × Obj) → Prop)
    (hh : A.handled = none) (hr : IsRange s.heap r a₀ b₀ 1 t₀ u₀ v₀) (hsmall : Builtin.Range.small a₀ b₀ 1 = true) (hn : Builtin.Range.rangeSize a₀ b₀ 1 = (n : Int)) (F : Fr h₀ env.locals s.heap m₀) (N : News h₀ env.locals s.heap news) (hj : J 0 m₀ news)
    (turn : ∀ i t m₁ nx h tk I oI, i < n → J i m₁ nx → (∀ p ∈ nx, p.1 ≠ I) → oI.cls = .type "range_iterator" → Fr h₀ env.locals h (fun y => if y = x then some (.int (a₀ + (i : Int)) t) else m₁ y) → News h₀ env.locals h ((I, oI) :: nx) →
      wpAny (model prog w) A (execs body env) (GrowPost h₀ env.locals (J (i + 1)) I oI { s with heap := h, toks := tk } Q) E { s with heap := h, toks := tk })
    (done : ∀ m₁ nx h tk, J n m₁ nx → Fr h₀ env.locals h m₁ → News h₀ env.locals h nx → Q .next { s with heap := h, toks := tk }) :
    wpAny (model prog w) A (pyIter (.ref r)) (fun it s₂ => LoopAtV prog w A h₀ env x body Q E it s₂) E s := by
  refine wpAny_pyIter_range hr hsmall ?_
  have W : Walks prog w A s.heap.objs.size [s.heap.objs.size] [s.heap.objs.size] n (fun i v => i < n ∧ ∃ t, v = .int (a₀ + i * 1) t)
      (fun i h => IsRangeIter h s.heap.objs.size (a₀ + (i : Nat) * 1) ((n : Int) - (i : Nat)) 1) := (Walks.range hh _ a₀ 1 n).bound
  refine ⟨_, _, _, n, _, _, m₀, news, J, rfl, W, ?_, ?_, ?_, (by show IsRangeIter _ _ _ _ _; rw [hn]; simpa using Heap.get?_push_size _ rfl), F.push _, (fun p hp => ⟨Heap.get?_push_of_some _ (N p hp).1, (N p hp).2⟩), hj, ?_, ?_⟩
  · intro hm
    exact absurd F.ns.lt ((List.mem_singleton.mp hm) ▸ Nat.lt_irrefl _)
  · intro b hb
    rw [List.mem_singleton.mp hb]
    exact next_is_new F
  · intro p hp hI
    exact absurd (Heap.lt_size (N p hp).1) ((List.mem_singleton.mp hI) ▸ Nat.lt_irrefl _)
  · rintro i v m₁ news₁ s₁ own ⟨hh', tk', rfl⟩ hin ⟨hi, t, rfl⟩ hJ hoff hown hget hall hst F₁ N₁
    rw [Int.mul_one] at F₁
    have hst' : ∃ oI : Obj, hh'.get? s.heap.objs.size = some oI ∧ oI.cls = .type "range_iterator" := ⟨_, hst, rfl⟩
    obtain ⟨oI, hoI, hcls⟩ := hst'
    have hmI : (s.heap.objs.size, oI) ∈ own := hall _ (by simp) (next_is_new F) oI hoI
    have hoff' : ∀ p ∈ news₁, p.1 ≠ s.heap.objs.size := fun p hp e => hoff p hp (by simp [e])
    have N₂ : News h₀ env.locals hh' ((s.heap.objs.size, oI) :: news₁) := fun p hp => by
      rcases List.mem_cons.mp hp with rfl | hp
      · exact N₁ _ (List.mem_append_left _ hmI)
      · exact N₁ _ (List.mem_append_right _ hp)
    refine wpAny_mono (turn i t m₁ news₁ hh' tk' _ oI hi hJ hoff' hcls F₁ N₂) (fun f s₂ p => ?_) fun _ _ e => e
    have fin : GrowEnd h₀ env.locals (J (i + 1)) s.heap.objs.size oI { s with heap := hh', toks := tk' } s₂ → LoopStepU h₀ env.locals [s.heap.objs.size] own (J (i + 1)) { s with heap := hh', toks := tk' } .next s₂ := by
      rintro ⟨h', tk, m', news', nx, e, F', N', h1, h2, h3, hj'⟩
      refine ⟨rfl, h', tk, m', nx, e, F', fun p hp => ?_, fun p hp hq => h3 p hp (List.mem_singleton.mp hq), hj'⟩
      rcases List.mem_append.mp hp with hp | hp
      · obtain ⟨pa, po⟩ := p
        have g1 := hget _ hp
        have q := List.mem_singleton.mp (hown _ hp)
        dsimp only at q g1
        subst q
        rw [hoI] at g1
        cases g1
        exact N' _ h2
      · exact N' p (h1 p hp)
    cases f with
    | ret v => exact .ret p
    | brk => exact .brk p
    | next => exact .next (fin p)
    | cont => exact .cont (fin p)
  · rintro h' tk m' news' F' N' _ hJ
    exact done m' news' h' tk hJ F' N'
end
/-- two of the ledger that differ lie apart -/
theorem news_apart {h₀ h : Heap} {L a b : Addr} {o o' : Obj} {news : List (Addr × Obj)} (N : News h₀ L h news) (h1 : (a, o) ∈ news) (h2 : (b, o') ∈ news) (hne : o.cls ≠ o'.cls) : a ≠ b := by
  rintro rfl
  have e1 := (N _ h1).1
  have e2 := (N _ h2).1
  dsimp only at e1 e2
  rw [e1] at e2
  cases e2
  exact hne rfl
/-- names forgotten -/
def forgetL (xs : List Str) (m c : Str → Option Value) : Str → Option Value := fun y => if y ∈ xs then c y else m y
end
section
/-! what create_bytes computes -/
def genP : Nat → List Int
  | 0 => [1]
  | i + 1 => stripZ (mulX (genP i) [1, gexpI (i : Int)] (genP i).length)
def lut7 : List Int := [1, 127, 122, 154, 164, 11, 68, 117]
def rsP (M : Nat) : List Int := if M = 7 then lut7 else genP M
theorem genP_ok : ∀ M : Nat, M < 9 → (genP M).length = M + 1 ∧ ∀ x ∈ genP M, 1 ≤ x ∧ x < 256 := by decide +kernel
theorem lut7_ok : lut7.length = 8 ∧ ∀ x ∈ lut7, 1 ≤ x ∧ x < 256 := by decide +kernel
theorem rsP_ok {M : Nat} (h : M ≤ 8) : (rsP M).length = M + 1 ∧ ∀ x ∈ rsP M, 1 ≤ x ∧ x < 256 := by
  unfold rsP
  split
  · rename_i e; subst e; exact lut7_ok
  · exact genP_ok M (by omega)
def rawX (ds : List Int) (M : Nat) : List Int := stripZ ds ++ List.replicate M 0
def modX (ds : List Int) (M : Nat) : List Int := polyModF 38 (rawX ds M) (rsP M)
def ecAt (md : List Int) (M i : Nat) : Int := if 0 ≤ (i : Int) + ((md.length : Int) - (M : Int)) then md.getD ((i : Int) + ((md.length : Int) - (M : Int))).toNat 0 else 0
def ecX (ds : List Int) (M : Nat) : List Int := (List.range M).map (ecAt (modX ds M) M)
def blk (ns : List Int) (D k : Nat) : List Int := (ns.drop (k * D)).take D
/-- the octets of several lists of one length, dealt out -/
def deal (zss : List (List Int)) (D : Nat) : List Int := (List.range D).flatMap (fun i => zss.map (fun zs => zs.getD i 0))
def cbX (ns : List Int) (B D M : Nat) : List Int := deal ((List.range B).map (blk ns D)) D ++ deal ((List.range B).map (fun k => ecX (blk ns D k) M)) M
theorem stripZ_ne : ∀ (ds : List Int), (∃ x ∈ ds, x ≠ 0) → (stripZ ds).getD 0 0 ≠ 0
  | [], h => by simp at h
  | [x], h => by simpa [stripZ] using h
  | x :: y :: r, h => by
    unfold stripZ
    split
    · rename_i hx
      refine stripZ_ne (y :: r) ?_
      obtain ⟨z, hz, hz0⟩ := h
      rcases List.mem_cons.mp hz with rfl | hz
      · exact absurd hx hz0
      · exact ⟨z, hz, hz0⟩
    · simpa using ‹¬ x = 0›
theorem blk_length {ns : List Int} {D k B : Nat} (h : B * D ≤ ns.length) (hk : k < B) : (blk ns D k).length = D := by
  unfold blk
  have : (k + 1) * D ≤ B * D := Nat.mul_le_mul_right _ hk
  rw [Nat.add_mul, Nat.one_mul] at this
  rw [List.length_take, List.length_drop]
  omega
theorem blk_mem {ns : List Int} {D k : Nat} {x : Int} (h : x ∈ blk ns D k) : x ∈ ns := List.mem_of_mem_drop (List.mem_of_mem_take h)
theorem and255N : ∀ k : Nat, k < 256 → Builtin.bitAnd 255 (k : Int) = (k : Int) := by decide +kernel
theorem and255 {x : Int} (h : 0 ≤ x ∧ x < 256) : Builtin.bitAnd 255 x = x := by
  obtain ⟨a, rfl⟩ := Int.eq_ofNat_of_zero_le h.1
  exact and255N a (by omega)
/-- lists of ints that the ledger bears -/
def Held (rest : List (Addr × Obj)) (as : List Addr) (zss : List (List Int)) : Prop := as.length = zss.length ∧ ∀ (k : Nat) a zs, as[k]? = some a → zss[k]? = some zs → ∃ v n, (a, listOf (List.toArray v) n) ∈ rest ∧ IntsAre v zs
theorem Held.nil {rest : List (Addr × Obj)} : Held rest [] [] := ⟨rfl, fun k a zs h => by simp at h⟩
theorem Held.snoc {rest rest' : List (Addr × Obj)} {as : List Addr} {zss : List (List Int)} {a : Addr} {v : List Value} {n : Nat} {zs : List Int} (h : Held rest as zss) (hs : ∀ p ∈ rest, p ∈ rest') (hm : (a, listOf (List.toArray v) n) ∈ rest') (hi : IntsAre v zs) : Held rest' (as ++ [a]) (zss ++ [zs]) := by
  refine ⟨by simp [h.1], fun k a' zs' ha hz => ?_⟩
  rcases Nat.lt_or_ge k as.length with hk | hk
  · rw [List.getElem?_append_left hk] at ha
    rw [List.getElem?_append_left (by rw [← h.1]; exact hk)] at hz
    obtain ⟨v', n', h1, h2⟩ := h.2 k a' zs' ha hz
    exact ⟨v', n', hs _ h1, h2⟩
  · have e : k = as.length := by
      have := (List.getElem?_eq_some_iff.mp ha).1
      simp at this; omega
    subst e
    have ha' : a' = a := by simpa using ha.symm
    have hz' : zs' = zs := by
      rw [h.1] at hz
      simpa using hz.symm
    subst ha' hz'
    exact ⟨v, n, hm, hi⟩
theorem eq_ite {α : Type} {P : Prop} [Decidable P] {v a b : α} (h1 : P → v = a) (h2 : ¬ P → v = b) : v = if P then a else b := by
  by_cases h : P
  · rw [if_pos h]; exact h1 h
  · rw [if_neg h]; exact h2 h
/-- the names of create_bytes that its first loop keeps, and those that it forgets -/
def cbM (m0 : Str → Option Value) (c : Nat → Option Value) (DC EC : Addr) (mE mD : Value) : Str → Option Value := fun y =>
  if y = Str.ofString "ecdata" then some (.ref EC) else if y = Str.ofString "dcdata" then some (.ref DC) else if y = Str.ofString "maxEcCount" then some mE else if y = Str.ofString "maxDcCount" then some mD else
  if y = Str.ofString "rs_block" then c 0 else if y = Str.ofString "dcCount" then c 1 else if y = Str.ofString "ecCount" then c 2 else if y = Str.ofString "current_dc" then c 3 else if y = Str.ofString "rsPoly" then c 4 else if y = Str.ofString "i" then c 5 else
  if y = Str.ofString "rawPoly" then c 6 else if y = Str.ofString "modPoly" then c 7 else if y = Str.ofString "current_ec" then c 8 else if y = Str.ofString "mod_offset" then c 9 else if y = Str.ofString "modIndex" then c 10 else m0 y
theorem cbM_of {m0 m' : Str → Option Value} {DC EC : Addr} {mE mD : Value} (h1 : m' (Str.ofString "ecdata") = some (.ref EC)) (h2 : m' (Str.ofString "dcdata") = some (.ref DC)) (h3 : m' (Str.ofString "maxEcCount") = some mE) (h4 : m' (Str.ofString "maxDcCount") = some mD)
    (h : ∀ y, y ≠ Str.ofString "ecdata" → y ≠ Str.ofString "dcdata" → y ≠ Str.ofString "maxEcCount" → y ≠ Str.ofString "maxDcCount" → y ≠ Str.ofString "rs_block" → y ≠ Str.ofString "dcCount" → y ≠ Str.ofString "ecCount" → y ≠ Str.ofString "current_dc" → y ≠ Str.ofString "rsPoly" → y ≠ Str.ofString "i" → y ≠ Str.ofString "rawPoly" → y ≠ Str.ofString "modPoly" → y ≠ Str.ofString "current_ec" → y ≠ Str.ofString "mod_offset" → y ≠ Str.ofString "modIndex" → m' y = m0 y) : ∃ c, m' = cbM m0 c DC EC mE mD := by
  refine ⟨fun k => match k with
    | 0 => m' (Str.ofString "rs_block") | 1 => m' (Str.ofString "dcCount") | 2 => m' (Str.ofString "ecCount") | 3 => m' (Str.ofString "current_dc") | 4 => m' (Str.ofString "rsPoly") | 5 => m' (Str.ofString "i") | 6 => m' (Str.ofString "rawPoly") | 7 => m' (Str.ofString "modPoly") | 8 => m' (Str.ofString "current_ec") | 9 => m' (Str.ofString "mod_offset") | _ => m' (Str.ofString "modIndex"), funext fun y => ?_⟩
  unfold cbM
  iterate 15 refine eq_ite (fun e => by subst e; first | exact h1 | exact h2 | exact h3 | exact h4 | rfl) (fun _ => ?_)
  exact h y (by assumption) (by assumption) (by assumption) (by assumption) (by assumption) (by assumption) (by assumption) (by assumption) (by assumption) (by assumption) (by assumption) (by assumption) (by assumption) (by assumption) (by assumption)
theorem comp_blk {ns : List Int} {D i : Nat} (hby : ∀ x ∈ ns, 0 ≤ x ∧ x < 256) (hle : (i : Int) * (D : Int) + (D : Int) ≤ (ns.length : Int)) : (rangeKs 0 D).map (fun k => Builtin.bitAnd 255 (ns.getD (k + (i : Int) * (D : Int)).toNat 0)) = blk ns D i := by
  have hle' : i * D + D ≤ ns.length := by
    have : ((i * D + D : Nat) : Int) ≤ (ns.length : Int) := by rw [Int.natCast_add, Int.natCast_mul]; exact hle
    omega
  refine List.ext_getElem? fun k => ?_
  unfold blk
  by_cases hk : k < D
  · have e1 : (0 + (k : Int) + (i : Int) * (D : Int)).toNat = i * D + k := by
      rw [← Int.natCast_mul]; omega
    rw [List.getElem?_map, List.getElem?_take_of_lt hk, List.getElem?_drop]
    simp only [rangeKs]
    rw [List.getElem?_map, List.getElem?_range hk]
    simp only [Option.map_some, e1]
    have hlt : i * D + k < ns.length := by omega
    rw [List.getD_eq_getElem?_getD, List.getElem?_eq_getElem hlt, Option.getD_some, and255 (hby _ (List.getElem_mem hlt))]
  · rw [List.getElem?_eq_none (by simp [rangeKs_length]; omega), List.getElem?_eq_none (by rw [List.length_take]; omega)]
theorem lin_eq (x : Int) : stripZ [1, x] = [1, x] := by simp [stripZ]
theorem lin_ok (n : Int) : (stripZ [1, gexpI n]).length = 2 ∧ ∀ x ∈ stripZ [1, gexpI n], 1 ≤ x ∧ x < 256 := by
  rw [lin_eq]
  refine ⟨rfl, fun x hx => ?_⟩
  rcases List.mem_cons.mp hx with rfl | hx
  · decide
  · rw [List.mem_singleton.mp hx]; exact gexpI_byte n
theorem polyModF_length : ∀ (k : Nat) (xs ys : List Int), (polyModF k xs ys).length ≤ xs.length
  | 0, _, _ => Nat.le_refl _
  | k + 1, xs, ys => by
    unfold polyModF
    split
    · exact Nat.le_refl _
    · refine Nat.le_trans (polyModF_length k _ _) (Nat.le_trans (stripZ_len _) ?_)
      rw [modStep_length (by omega)]
      exact Nat.le_refl _
theorem rawX_length (ds : List Int) (M : Nat) : (rawX ds M).length ≤ ds.length + M := by
  unfold rawX
  rw [List.length_append, List.length_replicate]
  have := stripZ_len ds
  omega
theorem rawX_byte {ds : List Int} {M : Nat} (h : ∀ x ∈ ds, 0 ≤ x ∧ x < 256) : ∀ x ∈ rawX ds M, 0 ≤ x ∧ x < 256 := by
  intro x hx
  rcases List.mem_append.mp hx with hx | hx
  · exact h x (stripZ_mem _ _ hx)
  · rw [(List.mem_replicate.mp hx).2]; decide
theorem rawX_head {ds : List Int} {M : Nat} (hb : ∀ x ∈ ds, 0 ≤ x ∧ x < 256) (h : ∃ x ∈ ds, x ≠ 0) : 1 ≤ (rawX ds M).getD 0 0 := by
  have h0 := stripZ_ne ds h
  have hp : 0 < (stripZ ds).length := by
    cases e : stripZ ds with
    | nil => rw [e] at h0; simp at h0
    | cons a b => simp
  have hb' := getD_all (P := fun x => 0 ≤ x ∧ x < 256) hp (fun x hx => hb x (stripZ_mem _ _ hx))
  have e : (rawX ds M).getD 0 0 = (stripZ ds).getD 0 0 := by
    unfold rawX
    rw [List.getD_eq_getElem?_getD, List.getElem?_append_left hp, ← List.getD_eq_getElem?_getD]
  rw [e]
  omega
theorem ecX_take {ds : List Int} {M i : Nat} (h : i < M) : (ecX ds M).take (i + 1) = (ecX ds M).take i ++ [ecAt (modX ds M) M i] := by
  unfold ecX
  rw [List.take_add_one, List.getElem?_map, List.getElem?_range h]
  rfl
theorem ecX_length (ds : List Int) (M : Nat) : (ecX ds M).length = M := by unfold ecX; simp
theorem rawX_pos {ds : List Int} {M : Nat} (h : 1 ≤ (rawX ds M).getD 0 0) : 0 < (rawX ds M).length := by
  cases e : rawX ds M with
  | nil => rw [e] at h; simp at h
  | cons a b => simp
theorem modX_length (ds : List Int) (M : Nat) : (modX ds M).length ≤ ds.length + M := Nat.le_trans (polyModF_length _ _ _) (rawX_length ds M)
end
section
local macro_rules | `(tactic| walk_at "pad 0") => `(tactic| skip)
/-! the first loop of create_bytes: what stands between its turns -/
def CbJ (m0 : Str → Option Value) (news fx : List (Addr × Obj)) (EC DC oa : Addr) (ns : List Int) (D M : Nat) (i : Nat) (m' : Str → Option Value) (nx : List (Addr × Obj)) : Prop :=
  ∃ (c : Nat → Option Value) (oo : Obj) (tO tM tE : Tok) (as cs : List Addr) (kd ke : Nat) (rest : List (Addr × Obj)),
    m' = cbM m0 c DC EC (.int (if i = 0 then 0 else (M : Int)) tE) (.int (if i = 0 then 0 else (D : Int)) tM) ∧ oo.data = .cell (some (.int ((i : Int) * (D : Int)) tO)) ∧
    nx = (EC, listOf (List.toArray (cs.map Value.ref)) ke) :: (DC, listOf (List.toArray (as.map Value.ref)) kd) :: (oa, oo) :: (fx ++ rest) ∧ (∀ q ∈ news, q ∈ rest) ∧
    (∀ p ∈ rest, p.1 ≠ EC) ∧ (∀ p ∈ rest, p.1 ≠ DC) ∧ (∀ p ∈ rest, p.1 ≠ oa) ∧ Held rest as ((List.range i).map (blk ns D)) ∧ Held rest cs ((List.range i).map (fun k => ecX (blk ns D k) M))
section
variable {prog : Program} {w : World} {A : Around} {E : Value → Shared → Prop} {s : Shared} {env : Env} {h₀ : Heap} {body : List Stmt} {Q : Flow → Shared → Prop}
theorem for_of {m : Str → Option Value} {x : Str} {px pos : Pos} {iter : Expr} (_F : Fr h₀ env.locals s.heap m) (hx : env.kindOf x = some .local)
    (hp : (env.scope.kind == .class || (env.scope.kind == .module && env.locals != env.globals)) = false)
    (h : wpAny (model prog w) A (eval iter env) (fun xv s₁ => wpAny (model prog w) A (pyIter xv) (fun it s₂ => LoopAtV prog w A h₀ env x body Q E it s₂) E s₁) E s)
    (hs : ∀ x, foldedSetIterable iter env x = pure x := by intro _; rfl)
    (hE : PassesOwn (model prog w) A env E := by passes_own) :
    wpAny (model prog w) A (exec (.For (.Name x px) iter body [] pos) env) Q E s := For_invV h₀ hx hp h hs hE
theorem cb_loop {m0 : Str → Option Value} {news fx : List (Addr × Obj)} {EC DC oa R x : Addr} {oo : Obj} {tO tM tE : Tok} {ns : List Int} {B D M nR : Nat}
    (hh : A.handled = none) (F : Fr h₀ env.locals s.heap (fun y => if y = Str.ofString "ecdata" then some (.ref EC) else if y = Str.ofString "dcdata" then some (.ref DC) else if y = Str.ofString "maxEcCount" then some (.int 0 tE) else if y = Str.ofString "maxDcCount" then some (.int 0 tM) else m0 y))
    (N : News h₀ env.locals s.heap ((EC, listOf #[] 0) :: (DC, listOf #[] 0) :: (oa, oo) :: (fx ++ news))) (hO : oo.data = .cell (some (.int 0 tO))) (hR : (R, listOf (List.replicate B (Value.ref x)).toArray nR) ∈ fx)
    (o1 : ∀ p ∈ news, p.1 ≠ EC) (o2 : ∀ p ∈ news, p.1 ≠ DC) (o3 : ∀ p ∈ news, p.1 ≠ oa)
    (turn : ∀ (i : Nat) (c : Nat → Option Value) (oo : Obj) (tO tM tE : Tok) (as cs : List Addr) (kd ke : Nat) (rest : List (Addr × Obj)) h tk I oI, i < B → oo.data = .cell (some (.int ((i : Int) * (D : Int)) tO)) → (∀ q ∈ news, q ∈ rest) →
      (∀ p ∈ rest, p.1 ≠ EC) → (∀ p ∈ rest, p.1 ≠ DC) → (∀ p ∈ rest, p.1 ≠ oa) → Held rest as ((List.range i).map (blk ns D)) → Held rest cs ((List.range i).map (fun k => ecX (blk ns D k) M)) →
      (∀ p ∈ (EC, listOf (List.toArray (cs.map Value.ref)) ke) :: (DC, listOf (List.toArray (as.map Value.ref)) kd) :: (oa, oo) :: (fx ++ rest), p.1 ≠ I) → oI.cls = .type "list_iterator" →
      Fr h₀ env.locals h (fun y => if y = Str.ofString "rs_block" then some (.ref x) else cbM m0 c DC EC (.int (if i = 0 then 0 else (M : Int)) tE) (.int (if i = 0 then 0 else (D : Int)) tM) y) →
      News h₀ env.locals h ((I, oI) :: (EC, listOf (List.toArray (cs.map Value.ref)) ke) :: (DC, listOf (List.toArray (as.map Value.ref)) kd) :: (oa, oo) :: (fx ++ rest)) →
      wpAny (model prog w) A (execs body env) (GrowPost h₀ env.locals (CbJ m0 news fx EC DC oa ns D M (i + 1)) I oI { s with heap := h, toks := tk } Q) E { s with heap := h, toks := tk })
    (done : ∀ (c : Nat → Option Value) (oo : Obj) (tM tE : Tok) (as cs : List Addr) (kd ke : Nat) (rest : List (Addr × Obj)) h tk, (∀ q ∈ news, q ∈ rest) →
      Held rest as ((List.range B).map (blk ns D)) → Held rest cs ((List.range B).map (fun k => ecX (blk ns D k) M)) →
      Fr h₀ env.locals h (cbM m0 c DC EC (.int (if B = 0 then 0 else (M : Int)) tE) (.int (if B = 0 then 0 else (D : Int)) tM)) →
      News h₀ env.locals h ((EC, listOf (List.toArray (cs.map Value.ref)) ke) :: (DC, listOf (List.toArray (as.map Value.ref)) kd) :: (oa, oo) :: (fx ++ rest)) → Q .next { s with heap := h, toks := tk }) :
    wpAny (model prog w) A (pyIter (.ref R)) (fun it s₂ => LoopAtV prog w A h₀ env (Str.ofString "rs_block") body Q E it s₂) E s := by
  refine grow_list (vs := List.replicate B (Value.ref x)) (n := nR) (CbJ m0 news fx EC DC oa ns D M) hh F N ?_ ?_ ?_ ?_
  · rintro i m' nx ⟨c, oo, tO, tM, tE, as, cs, kd, ke, rest, _, _, rfl, _⟩
    exact .tail _ (.tail _ (.tail _ (List.mem_append_left _ hR)))
  · obtain ⟨c, hc⟩ := cbM_of (m0 := m0) (DC := DC) (EC := EC) (mE := .int 0 tE) (mD := .int 0 tM) (m' := (fun y => if y = Str.ofString "ecdata" then some (.ref EC) else if y = Str.ofString "dcdata" then some (.ref DC) else if y = Str.ofString "maxEcCount" then some (.int 0 tE) else if y = Str.ofString "maxDcCount" then some (.int 0 tM) else m0 y))
      (by simp) (by rw [if_neg (by decide), if_pos rfl]) (by rw [if_neg (by decide), if_neg (by decide), if_pos rfl]) (by rw [if_neg (by decide), if_neg (by decide), if_neg (by decide), if_pos rfl]) (fun y y1 y2 y3 y4 _ _ _ _ _ _ _ _ _ _ _ => by rw [if_neg y1, if_neg y2, if_neg y3, if_neg y4])
    exact ⟨c, oo, tO, tM, tE, [], [], 0, 0, news, by simpa using hc, by simpa using hO, rfl, fun _ h => h, o1, o2, o3, Held.nil, Held.nil⟩
  · rintro i v m₁ nx h tk I oI hv ⟨c, oo, tO, tM, tE, as, cs, kd, ke, rest, rfl, hO', rfl, h1, h2, h3, h4, h5, h6⟩ hI hcls F' N'
    obtain ⟨hi, e⟩ := List.getElem?_eq_some_iff.mp hv
    rw [List.length_replicate] at hi
    rw [List.getElem_replicate] at e
    subst e
    exact turn i c oo tO tM tE as cs kd ke rest h tk I oI hi hO' h1 h2 h3 h4 h5 h6 hI hcls F' N'
  · rintro m₁ nx h tk ⟨c, oo, tO, tM, tE, as, cs, kd, ke, rest, rfl, hO', rfl, h1, h2, h3, h4, h5, h6⟩ F' N'
    rw [List.length_replicate] at *
    exact done c oo tM tE as cs kd ke rest h tk h1 h5 h6 F' N'
end
section
variable {prog : Program} {w : World} {A : Around} {E : Value → Shared → Prop} {s : Shared} {h₀ : Heap} {L : Addr} {news : List (Addr × Obj)}
theorem led_item {value slice : PySem.Expr} {l : Addr} {vs : List Value} {ns : List Int} {n : Nat} {k : Int} {u : Tok} {Q : Value → Shared → Prop} (N : News h₀ L s.heap news) (hl : (l, listOf vs.toArray n) ∈ news) (hi : IntsAre vs ns) (h0 : 0 ≤ k) (h1 : k < ns.length) (hlen : ns.length < 2 ^ 20)
    (h : ∀ t, Q (.int (ns.getD k.toNat 0) t) s)
    (hs : subscripted slice false (.ref l) (.int k u) = operate [.ref l, .int k u] (getItem (.ref l) (.int k u)) := by with_unfolding_all rfl) :
    wpAny (model prog w) A (subscriptTail value slice (.ref l) (.int k u)) Q E s :=
  have hL : s.heap.IsList l vs.toArray := ⟨_, (N _ hl).1, rfl, n, rfl⟩
  have ⟨t, hx⟩ := ints_get hi h0 h1
  tail_any hL.typeIs slot_list_getitem.lookup (wpAny_getItem_list hL h0 (by omega) (by simpa using hx) (h t)) hs
end
theorem cell_at {h₀ h : Heap} {L c : Addr} {o : Obj} {v : Option Value} {news : List (Addr × Obj)} (hd : o.data = .cell v) (N : News h₀ L h news) (hm : (c, o) ∈ news) : h.IsCell c v := ⟨_, (N _ hm).1, hd⟩
theorem off1_all {D : Addr} : ∀ {l : List (Addr × Obj)}, LCg.Off1 D l → ∀ p ∈ l, p.1 ≠ D := by
  intro l
  induction l with
  | nil => intro _ p hp; cases hp
  | cons q r ih =>
    intro h p hp
    rcases List.mem_cons.mp hp with e | hp
    · rw [e]; exact h.1
    · exact ih h.2 p hp
/-- a statement that leaves a polynomial at rsPoly (and may forget i) -/
def PolyMid (h₀ : Heap) (L : Addr) (m₁ : Str → Option Value) (nx : List (Addr × Obj)) (zs : List Int) (s₁ : Shared) (f : Flow) (s₂ : Shared) : Prop :=
  f = .next ∧ ∃ (c : Option Value) (xp dp lp : Addr) (vp : List Value) (hs : Int) (tk0 : Tok) (k n : Nat) (h' : Heap) (tk' : Nat), s₂ = { s₁ with heap := h', toks := tk' } ∧ Fr h₀ L h' (fun y => if y = Str.ofString "rsPoly" then some (.ref xp) else if y = Str.ofString "i" then c else m₁ y) ∧
    News h₀ L h' ((xp, instObj 144 dp) :: (dp, dictOf [⟨hs, .str (Str.ofString "num") tk0, .ref lp⟩] k) :: (lp, listOf vp.toArray n) :: nx) ∧ IntsAre vp zs
theorem PolyMid.intro {h₀ : Heap} {L : Addr} {m₁ m' : Str → Option Value} {nx nx' : List (Addr × Obj)} {zs : List Int} {s₁ : Shared} {xp dp lp : Addr} {vp : List Value} {hs : Int} {tk0 : Tok} {k n : Nat} {h' : Heap} {tk' : Nat} (F : Fr h₀ L h' m') (N : News h₀ L h' nx')
    (a1 : (xp, instObj 144 dp) ∈ nx') (a2 : (dp, dictOf [⟨hs, .str (Str.ofString "num") tk0, .ref lp⟩] k) ∈ nx') (a3 : (lp, listOf vp.toArray n) ∈ nx') (hs : ∀ p ∈ nx, p ∈ nx') (hI : IntsAre vp zs) (e1 : m' (Str.ofString "rsPoly") = some (.ref xp)) (e2 : ∀ y, y ≠ Str.ofString "rsPoly" → y ≠ Str.ofString "i" → m' y = m₁ y) :
    PolyMid h₀ L m₁ nx zs s₁ .next { s₁ with heap := h', toks := tk' } := by
  have e : m' = fun y => if y = Str.ofString "rsPoly" then some (.ref xp) else if y = Str.ofString "i" then m' (Str.ofString "i") else m₁ y := by
    funext y
    refine eq_ite (fun q => by rw [q]; exact e1) (fun q => eq_ite (fun q => by rw [q]) (fun q2 => e2 y q q2))
  exact ⟨rfl, m' (Str.ofString "i"), xp, dp, lp, vp, _, _, _, _, h', tk', rfl, e ▸ F, news_cons a1 N (news_cons a2 N (news_cons a3 N (fun p hp => N p (hs p hp)))), hI⟩
theorem cut_poly {prog : Program} {w : World} {A : Around} {E : Value → Shared → Prop} {s : Shared} {env : Env} {h₀ : Heap} {L : Addr} {m₁ : Str → Option Value} {nx : List (Addr × Obj)} {st : Stmt} {Q : Flow → Shared → Prop} (zs : List Int) (_F : Fr h₀ L s.heap m₁) (_N : News h₀ L s.heap nx)
    (h1 : wpAny (model prog w) A (exec st env) (PolyMid h₀ L m₁ nx zs s) E s)
    (h2 : ∀ (c : Option Value) (xp dp lp : Addr) (vp : List Value) (hs : Int) (tk0 : Tok) (k n : Nat) (h' : Heap) (tk' : Nat), Fr h₀ L h' (fun y => if y = Str.ofString "rsPoly" then some (.ref xp) else if y = Str.ofString "i" then c else m₁ y) →
      News h₀ L h' ((xp, instObj 144 dp) :: (dp, dictOf [⟨hs, .str (Str.ofString "num") tk0, .ref lp⟩] k) :: (lp, listOf vp.toArray n) :: nx) → IntsAre vp zs → Q .next { s with heap := h', toks := tk' }) :
    wpAny (model prog w) A (exec st env) Q E s := by
  refine wpAny_mono h1 (fun f s₂ p => ?_) fun _ _ e => e
  obtain ⟨rfl, c, xp, dp, lp, vp, hs, tk0, k, n, h', tk', rfl, F', N', I'⟩ := p
  exact h2 c xp dp lp vp hs tk0 k n h' tk' F' N' I'
/-! a dict of the top by int keys -/
def keysIntB (es : List DictEntry) : Bool := es.all (fun e => match e.key with | .int x _ => e.hash == hashInt x | _ => false)
def intFind (K : Frag) (a : Addr) (k : Int) : Option (Option Value) :=
  match K.lookup a with
  | some o => match o.data with
    | .dict es _ => some ((es.toList.find? fun e => Value.isInt k e.key).map (·.val))
    | _ => none
  | none => none
def intTopB (K : Frag) (a : Addr) : Bool :=
  match K.lookup a with
  | some o => (match o.cls, o.dict, o.slots.size with | .type "dict", none, 0 => true | _, _, _ => false) && (match o.data with | .dict es _ => keysIntB es.toList | _ => false)
  | none => false
section
variable {prog : Program} {w : World} {A : Around} {E : Value → Shared → Prop} {s : Shared} {h : Heap} {a : Addr} {K : Frag} {t : Tok} {v : Value}
theorem mapOf_KI (X : K.In h) (hb : intTopB K a = true) : h.MapOf (intKind prog w) a (fun k => (intFind K a k).join) := by
  unfold intTopB at hb
  unfold intFind
  split at hb
  · rename_i o ho
    rw [Bool.and_eq_true] at hb
    obtain ⟨hb1, hb2⟩ := hb
    (try rw [ho])
    (try dsimp only)
    have hx : o.ExactDict := by
      split at hb1
      · rename_i e1 e2 e3
        exact ⟨e1, e2, by first | exact Array.eq_empty_of_size_eq_zero e3 | exact e3⟩
      · cases hb1
    cases hd : o.data with
    | dict es ep =>
      rw [hd] at hb2
      refine ⟨o, es, ep, X _ _ ho, hx, hd, fun e he => ?_, fun k => ?_⟩
      · have q := List.all_eq_true.mp hb2 e (Array.mem_toList_iff.mpr he)
        split at q
        · rename_i x t e1
          exact ⟨x, by rw [e1]; exact intKind_is prog w x t, eq_of_beq q⟩
        · cases q
      · obtain ⟨l⟩ := es
        unfold findBy
        rw [List.find?_toArray]
        rfl
    | _ => rw [hd] at hb2; cases hb2
  · cases hb
theorem topIn_KI {x : Int} {r : Option Value} {Q : Value → Shared → Prop} (X : K.In s.heap) (hb : intTopB K a = true) (lo : (a == sysModules) = false) (e : (intFind K a x).join = r)
    (hq : Q (.bool r.isSome) { s with toks := s.toks + 1 }) : wpAny (model prog w) A (compareOp .In (.int x t) (.ref a)) Q E s :=
  wpAny_in_of (intKind_is prog w x t) lo (mapOf_KI (prog := prog) (w := w) X hb) (by rw [e]; exact hq)
theorem topItem_KI {value slice : Expr} {x : Int} {Q : Value → Shared → Prop} (X : K.In s.heap) (hb : intTopB K a = true) (e : (intFind K a x).join = some v) (hq : Q v { s with toks := s.toks + 1 })
    (hs : subscripted slice false (.ref a) (.int x t) = operate [.ref a, .int x t] (getItem (.ref a) (.int x t)) := by with_unfolding_all rfl) :
    wpAny (model prog w) A (subscriptTail value slice (.ref a) (.int x t)) Q E s :=
  have hm := mapOf_KI (prog := prog) (w := w) X hb
  tail_any hm.typeIs slot_dict_getitem.lookup (wpAny_getItem_of (intKind_is prog w x t) hm e hq) hs
end
/-! the loop that builds the divisor -/
def PolJ (m₁ : Str → Option Value) (nx : List (Addr × Obj)) (i : Nat) (m' : Str → Option Value) (nx' : List (Addr × Obj)) : Prop :=
  ∃ (c : Option Value) (xp dp lp : Addr) (vp : List Value) (hs : Int) (tk0 : Tok) (k n : Nat), m' = (fun y => if y = Str.ofString "rsPoly" then some (.ref xp) else if y = Str.ofString "i" then c else m₁ y) ∧
    nx' = (xp, instObj 144 dp) :: (dp, dictOf [⟨hs, .str (Str.ofString "num") tk0, .ref lp⟩] k) :: (lp, listOf vp.toArray n) :: nx ∧ IntsAre vp (genP i)
theorem pol_map {m₁ m' : Str → Option Value} {xp : Addr} (e1 : m' (Str.ofString "rsPoly") = some (.ref xp)) (e2 : ∀ y, y ≠ Str.ofString "rsPoly" → y ≠ Str.ofString "i" → m' y = m₁ y) :
    m' = fun y => if y = Str.ofString "rsPoly" then some (.ref xp) else if y = Str.ofString "i" then m' (Str.ofString "i") else m₁ y := by
  funext y
  exact eq_ite (fun q => by rw [q]; exact e1) (fun q => eq_ite (fun q => by rw [q]) (fun q2 => e2 y q q2))
theorem pol_end {h₀ : Heap} {L : Addr} {Q : Flow → Shared → Prop} {m₁ m' : Str → Option Value} {nx nx' : List (Addr × Obj)} {i : Nat} {s₁ : Shared} {I : Addr} {oI : Obj} {xp dp lp : Addr} {vp : List Value} {hz : Int} {tk0 : Tok} {k n : Nat} {h' : Heap} {tk' : Nat} (F : Fr h₀ L h' m') (N : News h₀ L h' nx')
    (a1 : (xp, instObj 144 dp) ∈ nx') (a2 : (dp, dictOf [⟨hz, .str (Str.ofString "num") tk0, .ref lp⟩] k) ∈ nx') (a3 : (lp, listOf vp.toArray n) ∈ nx') (hs : ∀ p ∈ nx, p ∈ nx') (hi : (I, oI) ∈ nx') (hc : oI.cls = .type "range_iterator") (off : ∀ p ∈ nx, p.1 ≠ I) (hI : IntsAre vp (genP (i + 1)))
    (e1 : m' (Str.ofString "rsPoly") = some (.ref xp)) (e2 : ∀ y, y ≠ Str.ofString "rsPoly" → y ≠ Str.ofString "i" → m' y = m₁ y) :
    GrowPost h₀ L (PolJ m₁ nx (i + 1)) I oI s₁ Q .next { s₁ with heap := h', toks := tk' } := by
  refine GrowEnd.intro ((xp, instObj 144 dp) :: (dp, dictOf [⟨hz, .str (Str.ofString "num") tk0, .ref lp⟩] k) :: (lp, listOf vp.toArray n) :: nx) F N ?_ hi ?_ ⟨_, xp, dp, lp, vp, hz, tk0, k, n, pol_map e1 e2, rfl, hI⟩
  · intro p hp
    rcases List.mem_cons.mp hp with rfl | hp
    · exact a1
    · rcases List.mem_cons.mp hp with rfl | hp
      · exact a2
      · rcases List.mem_cons.mp hp with rfl | hp
        · exact a3
        · exact hs p hp
  · intro p hp
    rcases List.mem_cons.mp hp with rfl | hp
    · exact news_apart N a1 hi (by rw [hc]; intro z; cases z)
    · rcases List.mem_cons.mp hp with rfl | hp
      · exact news_apart N a2 hi (by rw [hc]; intro z; exact absurd (Value.type.inj z) (by decide))
      · rcases List.mem_cons.mp hp with rfl | hp
        · exact news_apart N a3 hi (by rw [hc]; intro z; exact absurd (Value.type.inj z) (by decide))
        · exact off p hp
section
variable {prog : Program} {w : World} {A : Around} {E : Value → Shared → Prop} {s : Shared} {env : Env} {h₀ : Heap} {body : List Stmt} {Q : Flow → Shared → Prop}
theorem poly_loop {r : Addr} {b₀ : Int} {t₀ u₀ v₀ : Tok} {M : Nat} {m₁ m' : Str → Option Value} {nx nx' : List (Addr × Obj)} {xp dp lp : Addr} {vp : List Value} {hs : Int} {tk0 : Tok} {k n : Nat} {h1 : Heap} (_hFN : Fr h₀ env.locals h1 m₁ ∧ News h₀ env.locals h1 nx)
    (hh : A.handled = none) (hr : IsRange s.heap r 0 b₀ 1 t₀ u₀ v₀) (hb : b₀ = (M : Int)) (hM : M ≤ 8) (F : Fr h₀ env.locals s.heap m') (N : News h₀ env.locals s.heap nx') (a1 : (xp, instObj 144 dp) ∈ nx') (a2 : (dp, dictOf [⟨hs, .str (Str.ofString "num") tk0, .ref lp⟩] k) ∈ nx') (a3 : (lp, listOf vp.toArray n) ∈ nx') (hsub : ∀ p ∈ nx, p ∈ nx')
    (hI : IntsAre vp (genP 0)) (e1 : m' (Str.ofString "rsPoly") = some (.ref xp)) (e2 : ∀ y, y ≠ Str.ofString "rsPoly" → y ≠ Str.ofString "i" → m' y = m₁ y)
    (turn : ∀ (i : Nat) t (c : Option Value) (xp dp lp : Addr) (vp : List Value) (hs : Int) (tk0 : Tok) (k n : Nat) h tk I oI, i < M → IntsAre vp (genP i) → (∀ p ∈ nx, p.1 ≠ I) → oI.cls = .type "range_iterator" →
      Fr h₀ env.locals h (fun y => if y = Str.ofString "i" then some (.int (i : Int) t) else if y = Str.ofString "rsPoly" then some (.ref xp) else if y = Str.ofString "i" then c else m₁ y) →
      News h₀ env.locals h ((I, oI) :: (xp, instObj 144 dp) :: (dp, dictOf [⟨hs, .str (Str.ofString "num") tk0, .ref lp⟩] k) :: (lp, listOf vp.toArray n) :: nx) →
      wpAny (model prog w) A (execs body env) (GrowPost h₀ env.locals (PolJ m₁ nx (i + 1)) I oI { s with heap := h, toks := tk } Q) E { s with heap := h, toks := tk })
    (done : ∀ (c : Option Value) (xp dp lp : Addr) (vp : List Value) (hs : Int) (tk0 : Tok) (k n : Nat) h tk, IntsAre vp (genP M) → Fr h₀ env.locals h (fun y => if y = Str.ofString "rsPoly" then some (.ref xp) else if y = Str.ofString "i" then c else m₁ y) →
      News h₀ env.locals h ((xp, instObj 144 dp) :: (dp, dictOf [⟨hs, .str (Str.ofString "num") tk0, .ref lp⟩] k) :: (lp, listOf vp.toArray n) :: nx) → Q .next { s with heap := h, toks := tk }) :
    wpAny (model prog w) A (pyIter (.ref r)) (fun it s₂ => LoopAtV prog w A h₀ env (Str.ofString "i") body Q E it s₂) E s := by
  subst hb
  refine grow_range (PolJ m₁ nx) (n := M) hh hr (small_one (by omega) (by omega) (by omega) (by omega)) (by rw [rangeSize_nat]; simp) F (news_cons a1 N (news_cons a2 N (news_cons a3 N (fun p hp => N p (hsub p hp))))) ⟨_, xp, dp, lp, vp, _, _, _, _, pol_map e1 e2, rfl, hI⟩ ?_ ?_
  · rintro i t m₁' nx₁ h tk I oI hi ⟨c, xp, dp, lp, vp, hs, tk0, k, n, rfl, rfl, hI'⟩ hoff hc F' N'
    rw [Int.zero_add] at F'
    exact turn i t c xp dp lp vp hs tk0 k n h tk I oI hi hI' (fun p hp => hoff p (.tail _ (.tail _ (.tail _ hp)))) hc F' N'
  · rintro m₁' nx₁ h tk ⟨c, xp, dp, lp, vp, hs, tk0, k, n, rfl, rfl, hI'⟩ F' N'
    exact done c xp dp lp vp hs tk0 k n h tk hI' F' N'
end
/-! the loop that fills current_ec -/
def EcJ (m₁ : Str → Option Value) (CE : Addr) (nx : List (Addr × Obj)) (zs : List Int) (i : Nat) (m' : Str → Option Value) (nx' : List (Addr × Obj)) : Prop :=
  ∃ (c : Option Value × Option Value) (es : List Value) (k : Nat), m' = forget2 (Str.ofString "i") (Str.ofString "modIndex") m₁ c ∧ nx' = (CE, listOf (List.toArray es) k) :: nx ∧ IntsAre es (zs.take i)
theorem ec_end {h₀ : Heap} {L : Addr} {Q : Flow → Shared → Prop} {m₁ m' : Str → Option Value} {nx nx' : List (Addr × Obj)} {zs ws : List Int} {i : Nat} {s₁ : Shared} {I CE : Addr} {oI : Obj} {es : List Value} {k : Nat} {h' : Heap} {tk' : Nat} (F : Fr h₀ L h' m') (N : News h₀ L h' nx')
    (a1 : (CE, listOf (List.toArray es) k) ∈ nx') (hs : ∀ p ∈ nx, p ∈ nx') (hi : (I, oI) ∈ nx') (off : ∀ p ∈ nx, p.1 ≠ I) (offC : CE ≠ I) (hI : IntsAre es ws) (hw : ws = zs.take (i + 1)) (e2 : ∀ y, y ≠ Str.ofString "i" → y ≠ Str.ofString "modIndex" → m' y = m₁ y) :
    GrowPost h₀ L (EcJ m₁ CE nx zs (i + 1)) I oI s₁ Q .next { s₁ with heap := h', toks := tk' } := by
  obtain ⟨c, hc⟩ := forget2_of e2
  refine GrowEnd.intro ((CE, listOf (List.toArray es) k) :: nx) F N ?_ hi ?_ ⟨c, es, k, hc, rfl, hw ▸ hI⟩
  · intro p hp
    rcases List.mem_cons.mp hp with rfl | hp
    · exact a1
    · exact hs p hp
  · intro p hp
    rcases List.mem_cons.mp hp with rfl | hp
    · exact offC
    · exact off p hp
section
variable {prog : Program} {w : World} {A : Around} {E : Value → Shared → Prop} {s : Shared} {env : Env} {h₀ : Heap} {body : List Stmt} {Q : Flow → Shared → Prop}
theorem ec_loop {r : Addr} {b₀ : Int} {t₀ u₀ v₀ : Tok} {M : Nat} {m' mB : Str → Option Value} {nxB nx : List (Addr × Obj)} {CE : Addr} {es0 : Array Value} {k0 : Nat} {zs : List Int} {h1 : Heap} (_hFN : Fr h₀ env.locals h1 mB ∧ News h₀ env.locals h1 nxB)
    (hh : A.handled = none) (hr : IsRange s.heap r 0 b₀ 1 t₀ u₀ v₀) (hb : b₀ = (M : Int)) (hM : M ≤ 8) (F : Fr h₀ env.locals s.heap m') (N : News h₀ env.locals s.heap ((CE, listOf es0 k0) :: nx)) (he : es0 = #[]) (hz : zs.length = M) (hsub : ∀ p ∈ nxB, p ∈ nx)
    (turn : ∀ (i : Nat) t (c : Option Value × Option Value) (es : List Value) (k : Nat) h tk I oI, i < M → IntsAre es (zs.take i) → (∀ p ∈ nx, p.1 ≠ I) → CE ≠ I → oI.cls = .type "range_iterator" →
      Fr h₀ env.locals h (fun y => if y = Str.ofString "i" then some (.int (i : Int) t) else if y = Str.ofString "i" then c.1 else if y = Str.ofString "modIndex" then c.2 else m' y) →
      News h₀ env.locals h ((I, oI) :: (CE, listOf (List.toArray es) k) :: nx) →
      wpAny (model prog w) A (execs body env) (GrowPost h₀ env.locals (EcJ m' CE nx zs (i + 1)) I oI { s with heap := h, toks := tk } Q) E { s with heap := h, toks := tk })
    (done : ∀ (c : Option Value × Option Value) (es : List Value) (k : Nat) h tk, IntsAre es zs → Fr h₀ env.locals h (fun y => if y = Str.ofString "i" then c.1 else if y = Str.ofString "modIndex" then c.2 else m' y) →
      News h₀ env.locals h ((CE, listOf (List.toArray es) k) :: nxB) → Q .next { s with heap := h, toks := tk }) :
    wpAny (model prog w) A (pyIter (.ref r)) (fun it s₂ => LoopAtV prog w A h₀ env (Str.ofString "i") body Q E it s₂) E s := by
  subst hb he
  obtain ⟨c0, hc0⟩ := forget2_of (x1 := Str.ofString "i") (x2 := Str.ofString "modIndex") (m := m') (m' := m') (fun _ _ _ => rfl)
  refine grow_range (EcJ m' CE nx zs) (n := M) hh hr (small_one (by omega) (by omega) (by omega) (by omega)) (by rw [rangeSize_nat]; simp) F N ⟨c0, [], k0, hc0, rfl, by simpa using IntsAre.nil⟩ ?_ ?_
  · rintro i t m₁' nx₁ h tk I oI hi ⟨c, es, k, rfl, rfl, hI'⟩ hoff hc F' N'
    rw [Int.zero_add] at F'
    exact turn i t c es k h tk I oI hi hI' (fun p hp => hoff p (.tail _ hp)) (hoff _ (.head _)) hc F' N'
  · rintro m₁' nx₁ h tk ⟨c, es, k, rfl, rfl, hI'⟩ F' N'
    refine done c es k h tk (by rw [← hz, List.take_length] at hI'; exact hI') F' (fun p hp => ?_)
    rcases List.mem_cons.mp hp with rfl | hp
    · exact N' _ (.head _)
    · exact N' p (.tail _ (hsub p hp))
end
/-- a turn of the first loop is through -/
theorem cbj_end {h₀ : Heap} {L : Addr} {Q : Flow → Shared → Prop} {m0 m' : Str → Option Value} {news fx rest nx' : List (Addr × Obj)} {EC DC oa D' CE I : Addr} {oI oo : Obj} {ns : List Int} {D M i : Nat} {s₁ : Shared} {as cs : List Addr} {ys es : List Value} {n1 n2 kd ke : Nat} {aD aE : Array Value} {xO : Int} {tO : Tok} {h' : Heap} {tk' : Nat}
    (F : Fr h₀ L h' m') (N : News h₀ L h' nx') (a1 : (EC, listOf aE ke) ∈ nx') (a2 : (DC, listOf aD kd) ∈ nx') (a3 : (oa, oo) ∈ nx') (hfx : ∀ p ∈ fx, p ∈ nx') (hrest : ∀ p ∈ rest, p ∈ nx') (a4 : (D', listOf (List.toArray ys) n1) ∈ nx') (a5 : (CE, listOf (List.toArray es) n2) ∈ nx') (hi : (I, oI) ∈ nx')
    (hE : aE = List.toArray ((cs ++ [CE]).map Value.ref)) (hD : aD = List.toArray ((as ++ [D']).map Value.ref)) (hO : oo.data = .cell (some (.int xO tO))) (hxO : xO = ((i + 1 : Nat) : Int) * (D : Int))
    (off : ∀ p ∈ (EC, aE) :: (DC, aD) :: [], p.1 ≠ I) (offo : oa ≠ I) (offx : ∀ p ∈ fx, p.1 ≠ I) (offr : ∀ p ∈ rest, p.1 ≠ I) (offD : D' ≠ I) (offC : CE ≠ I)
    (hnr : ∀ q ∈ news, q ∈ rest) (r1 : ∀ p ∈ rest, p.1 ≠ EC) (r2 : ∀ p ∈ rest, p.1 ≠ DC) (r3 : ∀ p ∈ rest, p.1 ≠ oa) (d1 : D' ≠ EC) (d2 : D' ≠ DC) (d3 : D' ≠ oa) (c1 : CE ≠ EC) (c2 : CE ≠ DC) (c3 : CE ≠ oa)
    (H1 : Held rest as ((List.range i).map (blk ns D))) (H2 : Held rest cs ((List.range i).map (fun k => ecX (blk ns D k) M))) (I1 : IntsAre ys (blk ns D i)) (I2 : IntsAre es (ecX (blk ns D i) M))
    (e1 : m' (Str.ofString "ecdata") = some (.ref EC)) (e2 : m' (Str.ofString "dcdata") = some (.ref DC)) (e3' : ∃ xE tE, m' (Str.ofString "maxEcCount") = some (.int xE tE) ∧ xE = (M : Int)) (e4' : ∃ xD tM, m' (Str.ofString "maxDcCount") = some (.int xD tM) ∧ xD = (D : Int))
    (e : ∀ y, y ≠ Str.ofString "ecdata" → y ≠ Str.ofString "dcdata" → y ≠ Str.ofString "maxEcCount" → y ≠ Str.ofString "maxDcCount" → y ≠ Str.ofString "rs_block" → y ≠ Str.ofString "dcCount" → y ≠ Str.ofString "ecCount" → y ≠ Str.ofString "current_dc" → y ≠ Str.ofString "rsPoly" → y ≠ Str.ofString "i" → y ≠ Str.ofString "rawPoly" → y ≠ Str.ofString "modPoly" → y ≠ Str.ofString "current_ec" → y ≠ Str.ofString "mod_offset" → y ≠ Str.ofString "modIndex" → m' y = m0 y) :
    GrowPost h₀ L (CbJ m0 news fx EC DC oa ns D M (i + 1)) I oI s₁ Q .next { s₁ with heap := h', toks := tk' } := by
  obtain ⟨xE, tE, e3, q3⟩ := e3'
  obtain ⟨xD, tM, e4, q4⟩ := e4'
  subst hE hD q3 q4 hxO
  obtain ⟨c, hc⟩ := cbM_of (m0 := m0) e1 e2 e3 e4 e
  refine GrowEnd.intro _ F N ?_ hi ?_ ⟨c, oo, tO, tM, tE, as ++ [D'], cs ++ [CE], kd, ke, (D', listOf (List.toArray ys) n1) :: (CE, listOf (List.toArray es) n2) :: rest, by rw [hc, if_neg (Nat.succ_ne_zero i), if_neg (Nat.succ_ne_zero i)], hO, rfl, fun q hq => .tail _ (.tail _ (hnr q hq)), ?_, ?_, ?_, ?_, ?_⟩
  · intro p hp
    rcases List.mem_cons.mp hp with rfl | hp
    · exact a1
    · rcases List.mem_cons.mp hp with rfl | hp
      · exact a2
      · rcases List.mem_cons.mp hp with rfl | hp
        · exact a3
        · rcases List.mem_append.mp hp with hp | hp
          · exact hfx p hp
          · rcases List.mem_cons.mp hp with rfl | hp
            · exact a4
            · rcases List.mem_cons.mp hp with rfl | hp
              · exact a5
              · exact hrest p hp
  · intro p hp
    rcases List.mem_cons.mp hp with rfl | hp
    · exact off (EC, _) (.head _)
    · rcases List.mem_cons.mp hp with rfl | hp
      · exact off (DC, _) (.tail _ (.head _))
      · rcases List.mem_cons.mp hp with rfl | hp
        · exact offo
        · rcases List.mem_append.mp hp with hp | hp
          · exact offx p hp
          · rcases List.mem_cons.mp hp with rfl | hp
            · exact offD
            · rcases List.mem_cons.mp hp with rfl | hp
              · exact offC
              · exact offr p hp
  · exact List.forall_mem_cons.mpr ⟨d1, List.forall_mem_cons.mpr ⟨c1, r1⟩⟩
  · exact List.forall_mem_cons.mpr ⟨d2, List.forall_mem_cons.mpr ⟨c2, r2⟩⟩
  · exact List.forall_mem_cons.mpr ⟨d3, List.forall_mem_cons.mpr ⟨c3, r3⟩⟩
  · rw [List.range_succ, List.map_append]
    exact H1.snoc (fun p hp => .tail _ (.tail _ hp)) (.head _) I1
  · rw [List.range_succ, List.map_append]
    exact H2.snoc (fun p hp => .tail _ (.tail _ hp)) (.tail _ (.head _)) I2
section
variable {prog : Program} {w : World} {A : Around} {E : Value → Shared → Prop} {s : Shared} {L : Addr} {h₀ : Heap} {m : Str → Option Value} {news news' : List (Addr × Obj)}
theorem app_refs {D a : Addr} {as : List Addr} {n : Nat} {Q : Value → Shared → Prop} (F : Fr h₀ L s.heap m) (N : News h₀ L s.heap news)
    (U : Upd D (listOf (List.toArray (as.map Value.ref)) n) (listOf (List.toArray ((as ++ [a]).map Value.ref)) (n + 1)) news news') (h1 : as.length < 2 ^ 20)
    (h : ∀ h', Fr h₀ L h' m → News h₀ L h' news' → Q .none { s with heap := h' }) : wpAny (model prog w) A (call (.builtin "list.append") [.ref D, .ref a]) Q E s := by
  have e : List.toArray ((as ++ [a]).map Value.ref) = (List.toArray (as.map Value.ref)).push (.ref a) := by simp
  rw [e] at U
  exact append_K F N U (fun h' F' N' => h _ F' N') (by rw [sizeLine_eq, List.size_toArray, List.length_map]; omega)
end
/-! the loops that deal the octets out -/
def DealJ (m₁ : Str → Option Value) (xn : Str) (Y : Addr) (nx : List (Addr × Obj)) (p0 : List Int) (zss : List (List Int)) (i : Nat) (m' : Str → Option Value) (nx' : List (Addr × Obj)) : Prop :=
  ∃ (c : Option Value × Option Value) (es : List Value) (k : Nat), m' = forget2 (Str.ofString "i") xn m₁ c ∧ nx' = (Y, listOf (List.toArray es) k) :: nx ∧ IntsAre es (p0 ++ deal zss i)
def DealI (m₂ : Str → Option Value) (xn : Str) (Y : Addr) (nx2 : List (Addr × Obj)) (p1 : List Int) (i : Nat) (zss : List (List Int)) (j : Nat) (m' : Str → Option Value) (nx' : List (Addr × Obj)) : Prop :=
  ∃ (c : Option Value) (es : List Value) (k : Nat), m' = (fun y => if y = xn then c else m₂ y) ∧ nx' = (Y, listOf (List.toArray es) k) :: nx2 ∧ IntsAre es (p1 ++ (zss.take j).map (fun zs => zs.getD i 0))
theorem deal_succ (zss : List (List Int)) (i : Nat) : deal zss (i + 1) = deal zss i ++ zss.map (fun zs => zs.getD i 0) := by
  unfold deal
  rw [List.range_succ, List.flatMap_append]
  simp
theorem deal_length (zss : List (List Int)) (i : Nat) : (deal zss i).length = i * zss.length := by
  induction i with
  | zero => simp [deal]
  | succ i ih => rw [deal_succ, List.length_append, ih, List.length_map, Nat.add_mul, Nat.one_mul]
theorem do_end {h₀ : Heap} {L : Addr} {Q : Flow → Shared → Prop} {m₁ m' : Str → Option Value} {xn : Str} {Y : Addr} {nx nx' : List (Addr × Obj)} {p0 ws : List Int} {zss : List (List Int)} {i : Nat} {s₁ : Shared} {I : Addr} {oI : Obj} {es : List Value} {k : Nat} {h' : Heap} {tk' : Nat} (F : Fr h₀ L h' m') (N : News h₀ L h' nx')
    (a1 : (Y, listOf (List.toArray es) k) ∈ nx') (hs : ∀ p ∈ nx, p ∈ nx') (hi : (I, oI) ∈ nx') (off : ∀ p ∈ nx, p.1 ≠ I) (offC : Y ≠ I) (hI : IntsAre es ws) (hw : ws = p0 ++ deal zss (i + 1)) (e2 : ∀ y, y ≠ Str.ofString "i" → y ≠ xn → m' y = m₁ y) :
    GrowPost h₀ L (DealJ m₁ xn Y nx p0 zss (i + 1)) I oI s₁ Q .next { s₁ with heap := h', toks := tk' } := by
  obtain ⟨c, hc⟩ := forget2_of e2
  refine GrowEnd.intro ((Y, listOf (List.toArray es) k) :: nx) F N ?_ hi ?_ ⟨c, es, k, hc, rfl, hw ▸ hI⟩
  · intro p hp
    rcases List.mem_cons.mp hp with rfl | hp
    · exact a1
    · exact hs p hp
  · intro p hp
    rcases List.mem_cons.mp hp with rfl | hp
    · exact offC
    · exact off p hp
theorem di_end {h₀ : Heap} {L : Addr} {Q : Flow → Shared → Prop} {m₂ m' : Str → Option Value} {xn : Str} {Y : Addr} {nx nx' : List (Addr × Obj)} {p1 ws : List Int} {zss : List (List Int)} {i j : Nat} {s₁ : Shared} {I I2 : Addr} {oI oI2 : Obj} {es : List Value} {k : Nat} {h' : Heap} {tk' : Nat} (F : Fr h₀ L h' m') (N : News h₀ L h' nx')
    (a1 : (Y, listOf (List.toArray es) k) ∈ nx') (a2 : (I, oI) ∈ nx') (hs : ∀ p ∈ nx, p ∈ nx') (hi : (I2, oI2) ∈ nx') (off : ∀ p ∈ nx, p.1 ≠ I2) (offC : Y ≠ I2) (offI : I ≠ I2) (hI : IntsAre es ws) (hw : ws = p1 ++ (zss.take (j + 1)).map (fun zs => zs.getD i 0)) (e2 : ∀ y, y ≠ xn → m' y = m₂ y) :
    GrowPost h₀ L (DealI m₂ xn Y ((I, oI) :: nx) p1 i zss (j + 1)) I2 oI2 s₁ Q .next { s₁ with heap := h', toks := tk' } := by
  refine GrowEnd.intro ((Y, listOf (List.toArray es) k) :: (I, oI) :: nx) F N ?_ hi ?_ ⟨m' xn, es, k, ?_, rfl, hw ▸ hI⟩
  · intro p hp
    rcases List.mem_cons.mp hp with rfl | hp
    · exact a1
    · rcases List.mem_cons.mp hp with rfl | hp
      · exact a2
      · exact hs p hp
  · intro p hp
    rcases List.mem_cons.mp hp with rfl | hp
    · exact offC
    · rcases List.mem_cons.mp hp with rfl | hp
      · exact offI
      · exact off p hp
  · funext y
    exact eq_ite (fun q => by rw [q]) (fun q => e2 y q)
section
variable {prog : Program} {w : World} {A : Around} {E : Value → Shared → Prop} {s : Shared} {env : Env} {h₀ : Heap} {body : List Stmt} {Q : Flow → Shared → Prop}
theorem deal_outer (xn : Str) {r : Addr} {b₀ : Int} {t₀ u₀ v₀ : Tok} {D : Nat} {m₁ : Str → Option Value} {nx : List (Addr × Obj)} {Y : Addr} {es0 : List Value} {a0 : Array Value} {k0 : Nat} {p0 : List Int} {zss : List (List Int)}
    (hh : A.handled = none) (hr : IsRange s.heap r 0 b₀ 1 t₀ u₀ v₀) (hb : b₀ = (D : Int)) (hD : D ≤ 60) (F : Fr h₀ env.locals s.heap m₁) (N : News h₀ env.locals s.heap ((Y, listOf a0 k0) :: nx)) (ha : a0 = List.toArray es0) (hI : IntsAre es0 p0)
    (turn : ∀ (i : Nat) t (c : Option Value × Option Value) (es : List Value) (k : Nat) h tk I oI, i < D → IntsAre es (p0 ++ deal zss i) → (∀ p ∈ nx, p.1 ≠ I) → Y ≠ I → oI.cls = .type "range_iterator" →
      Fr h₀ env.locals h (fun y => if y = Str.ofString "i" then some (.int (i : Int) t) else if y = Str.ofString "i" then c.1 else if y = xn then c.2 else m₁ y) →
      News h₀ env.locals h ((I, oI) :: (Y, listOf (List.toArray es) k) :: nx) →
      wpAny (model prog w) A (execs body env) (GrowPost h₀ env.locals (DealJ m₁ xn Y nx p0 zss (i + 1)) I oI { s with heap := h, toks := tk } Q) E { s with heap := h, toks := tk })
    (done : ∀ (c : Option Value × Option Value) (es : List Value) (k : Nat) h tk, IntsAre es (p0 ++ deal zss D) → Fr h₀ env.locals h (fun y => if y = Str.ofString "i" then c.1 else if y = xn then c.2 else m₁ y) →
      News h₀ env.locals h ((Y, listOf (List.toArray es) k) :: nx) → Q .next { s with heap := h, toks := tk }) :
    wpAny (model prog w) A (pyIter (.ref r)) (fun it s₂ => LoopAtV prog w A h₀ env (Str.ofString "i") body Q E it s₂) E s := by
  subst hb ha
  obtain ⟨c0, hc0⟩ := forget2_of (x1 := Str.ofString "i") (x2 := xn) (m := m₁) (m' := m₁) (fun _ _ _ => rfl)
  refine grow_range (DealJ m₁ xn Y nx p0 zss) (n := D) hh hr (small_one (by omega) (by omega) (by omega) (by omega)) (by rw [rangeSize_nat]; simp) F N ⟨c0, es0, k0, hc0, rfl, by simpa [deal] using hI⟩ ?_ ?_
  · rintro i t m₁' nx₁ h tk I oI hi ⟨c, es, k, rfl, rfl, hI'⟩ hoff hc F' N'
    rw [Int.zero_add] at F'
    exact turn i t c es k h tk I oI hi hI' (fun p hp => hoff p (.tail _ hp)) (hoff _ (.head _)) hc F' N'
  · rintro m₁' nx₁ h tk ⟨c, es, k, rfl, rfl, hI'⟩ F' N'
    exact done c es k h tk hI' F' N'
theorem deal_inner (xn : Str) {m₂ : Str → Option Value} {nx rest : List (Addr × Obj)} {DC Y I : Addr} {oI : Obj} {as : List Addr} {kd k0 : Nat} {es0 : List Value} {p1 : List Int} {i : Nat} {zss : List (List Int)}
    (hh : A.handled = none) (F : Fr h₀ env.locals s.heap m₂) (N : News h₀ env.locals s.heap ((I, oI) :: (Y, listOf (List.toArray es0) k0) :: nx)) (hD : (DC, listOf (List.toArray (as.map Value.ref)) kd) ∈ nx) (hsub : ∀ p ∈ rest, p ∈ nx) (hY : ∀ p ∈ rest, p.1 ≠ Y) (H : Held rest as zss) (hI : IntsAre es0 p1)
    (turn : ∀ (j : Nat) (A' : Addr) (va : List Value) (na : Nat) (zs : List Int) (c : Option Value) (es : List Value) (k : Nat) h tk I2 oI2, j < as.length → zss[j]? = some zs → IntsAre va zs → IntsAre es (p1 ++ (zss.take j).map (fun zs => zs.getD i 0)) → A' ≠ Y → Y ≠ I2 → I ≠ I2 → (∀ p ∈ nx, p.1 ≠ I2) → oI2.cls = .type "list_iterator" →
      Fr h₀ env.locals h (fun y => if y = xn then some (.ref A') else if y = xn then c else m₂ y) →
      News h₀ env.locals h ((A', listOf (List.toArray va) na) :: (I2, oI2) :: (Y, listOf (List.toArray es) k) :: (I, oI) :: nx) →
      wpAny (model prog w) A (execs body env) (GrowPost h₀ env.locals (DealI m₂ xn Y ((I, oI) :: nx) p1 i zss (j + 1)) I2 oI2 { s with heap := h, toks := tk } Q) E { s with heap := h, toks := tk })
    (done : ∀ (c : Option Value) (es : List Value) (k : Nat) h tk, IntsAre es (p1 ++ zss.map (fun zs => zs.getD i 0)) → Fr h₀ env.locals h (fun y => if y = xn then c else m₂ y) →
      News h₀ env.locals h ((Y, listOf (List.toArray es) k) :: (I, oI) :: nx) → Q .next { s with heap := h, toks := tk }) :
    wpAny (model prog w) A (pyIter (.ref DC)) (fun it s₂ => LoopAtV prog w A h₀ env xn body Q E it s₂) E s := by
  have N0 : News h₀ env.locals s.heap ((Y, listOf (List.toArray es0) k0) :: (I, oI) :: nx) := news_cons (.tail _ (.head _)) N (news_cons (.head _) N (fun p hp => N p (.tail _ (.tail _ hp))))
  refine grow_list (vs := as.map Value.ref) (n := kd) (DealI m₂ xn Y ((I, oI) :: nx) p1 i zss) hh F N0 ?_ ⟨m₂ xn, es0, k0, ?_, rfl, by simpa using hI⟩ ?_ ?_
  · rintro j m' nx' ⟨c, es, k, _, rfl, _⟩
    exact .tail _ (.tail _ hD)
  · funext y
    exact eq_ite (fun q => by rw [q]) (fun _ => rfl)
  · rintro j v m₁' nx₁ h tk I2 oI2 hv ⟨c, es, k, rfl, rfl, hI'⟩ hoff hc F' N'
    obtain ⟨hj, e⟩ := List.getElem?_eq_some_iff.mp hv
    rw [List.length_map] at hj
    rw [List.getElem_map] at e
    subst e
    have hz : zss[j]? = some (zss[j]'(H.1 ▸ hj)) := List.getElem?_eq_getElem (H.1 ▸ hj)
    obtain ⟨va, na, hm, hia⟩ := H.2 j _ _ (List.getElem?_eq_getElem hj) hz
    exact turn j as[j] va na _ c es k h tk I2 oI2 hj hz hia hI' (hY _ hm) (hoff _ (.head _)) (hoff _ (.tail _ (.head _))) (fun p hp => hoff p (.tail _ (.tail _ hp))) hc F' (news_cons (.tail _ (.tail _ (.tail _ (hsub _ hm)))) N' N')
  · rintro m₁' nx₁ h tk ⟨c, es, k, rfl, rfl, hI'⟩ F' N'
    rw [List.length_map, H.1, List.take_length] at hI'
    exact done c es k h tk hI' F' N'
end
end
section
/-! the field of 256 as octets: times a power of 2, rows by their values at powers of 2 -/
abbrev B8 := BitVec 8
def xt (a : B8) : B8 := (a <<< 1) ^^^ (if a.msb then 0x1d#8 else 0#8)
def pw : Nat → B8 → B8
  | 0, a => a
  | k + 1, a => xt (pw k a)
theorem xlc (a b c : B8) : a ^^^ (b ^^^ c) = b ^^^ (a ^^^ c) := by rw [← BitVec.xor_assoc, BitVec.xor_comm a b, BitVec.xor_assoc]
theorem xcc (a b : B8) : a ^^^ (a ^^^ b) = b := by rw [← BitVec.xor_assoc, BitVec.xor_self, BitVec.zero_xor]
theorem xt_xor (a b : B8) : xt (a ^^^ b) = xt a ^^^ xt b := by
  unfold xt
  rw [BitVec.shiftLeft_xor_distrib, BitVec.msb_xor]
  cases a.msb <;> cases b.msb <;> simp only [Bool.xor_false, Bool.xor_true, Bool.not_false, Bool.not_true, Bool.xor_self, Bool.false_eq_true, if_true, if_false, BitVec.xor_zero, BitVec.xor_assoc]
  · rw [BitVec.xor_comm 29#8, xlc]
  · rw [BitVec.xor_comm (b <<< 1) 29#8, xcc]
theorem pw_xor : ∀ (k : Nat) (a b : B8), pw k (a ^^^ b) = pw k a ^^^ pw k b
  | 0, _, _ => rfl
  | k + 1, a, b => by rw [pw, pw_xor k, xt_xor]; rfl
theorem pw_add (i j : Nat) (a : B8) : pw (i + j) a = pw i (pw j a) := by
  induction i with
  | zero => rw [Nat.zero_add]; rfl
  | succ i ih => rw [Nat.succ_add]; exact congrArg xt ih
theorem xt_zero : xt 0#8 = 0#8 := by decide
theorem pw_zero : ∀ k : Nat, pw k 0#8 = 0#8
  | 0 => rfl
  | k + 1 => by rw [pw, pw_zero k, xt_zero]
theorem ofNat_toNat8 (a : B8) : BitVec.ofNat 8 a.toNat = a := by simp
theorem all8 {P : B8 → Prop} (h : ∀ n : Nat, n < 256 → P (BitVec.ofNat 8 n)) (a : B8) : P a := by
  have := h a.toNat a.isLt
  rwa [ofNat_toNat8] at this
theorem pw255N : ∀ n : Nat, n < 256 → pw 255 (BitVec.ofNat 8 n) = BitVec.ofNat 8 n := by decide +kernel
theorem pw255 (a : B8) : pw 255 a = a := all8 (P := fun a => pw 255 a = a) pw255N a
theorem pw_mod (k : Nat) (a : B8) : pw (k % 255) a = pw k a := by
  have h : ∀ q r : Nat, pw (255 * q + r) a = pw r a := by
    intro q r
    induction q with
    | zero => rw [Nat.mul_zero, Nat.zero_add]
    | succ q ih => rw [show 255 * (q + 1) + r = 255 + (255 * q + r) by omega, pw_add, pw255, ih]
  have := h (k / 255) (k % 255)
  rw [Nat.div_add_mod] at this
  exact this.symm
theorem pw_inj {k : Nat} {a : B8} (h : pw k a = 0#8) : a = 0#8 := by
  have e : pw (255 * k) a = a := by rw [← pw_mod, Nat.mul_mod_right]; rfl
  rw [show 255 * k = 254 * k + k by omega, pw_add, h, pw_zero] at e
  exact e.symm
theorem pw_fixN : ∀ n : Nat, n < 256 → ∀ i : Nat, i < 9 → 1 ≤ i → pw i (BitVec.ofNat 8 n) ^^^ BitVec.ofNat 8 n = 0#8 → BitVec.ofNat 8 n = 0#8 := by decide +kernel
theorem pw_fix {a : B8} {i : Nat} (h1 : 1 ≤ i) (h2 : i < 9) (h : pw i a ^^^ a = 0#8) : a = 0#8 := all8 (P := fun a => ∀ i : Nat, i < 9 → 1 ≤ i → pw i a ^^^ a = 0#8 → a = 0#8) pw_fixN a i h2 h1 h
/-! a row's value at 2^j -/
def ev (j : Nat) : List B8 → B8
  | [] => 0#8
  | x :: xs => pw (j * xs.length) x ^^^ ev j xs
theorem ev_append (j : Nat) : ∀ xs ys : List B8, ev j (xs ++ ys) = pw (j * ys.length) (ev j xs) ^^^ ev j ys
  | [], ys => by rw [List.nil_append, ev, pw_zero, BitVec.zero_xor]
  | x :: xs, ys => by
    rw [List.cons_append, ev, ev_append j xs ys, ev, pw_xor, ← pw_add, List.length_append, Nat.mul_add, Nat.add_comm (j * xs.length), BitVec.xor_assoc]
def xz : List B8 → List B8 → List B8 := List.zipWith (· ^^^ ·)
theorem ev_xz (j : Nat) : ∀ xs ys : List B8, xs.length = ys.length → ev j (xz xs ys) = ev j xs ^^^ ev j ys
  | [], [], _ => by simp [xz, ev]
  | [], _ :: _, h => by simp at h
  | _ :: _, [], h => by simp at h
  | x :: xs, y :: ys, h => by
    have h' : xs.length = ys.length := by simpa using h
    have e : (xz xs ys).length = xs.length := by unfold xz; rw [List.length_zipWith]; omega
    show pw (j * (xz xs ys).length) (x ^^^ y) ^^^ ev j (xz xs ys) = (pw (j * xs.length) x ^^^ ev j xs) ^^^ (pw (j * ys.length) y ^^^ ev j ys)
    rw [e, ev_xz j xs ys h', pw_xor, ← h', BitVec.xor_assoc, BitVec.xor_assoc]
    congr 1
    rw [← BitVec.xor_assoc, ← BitVec.xor_assoc, BitVec.xor_comm (pw _ y)]
theorem ev_pw (j k : Nat) : ∀ xs : List B8, ev j (xs.map (pw k)) = pw k (ev j xs)
  | [] => by simp [ev, pw_zero]
  | x :: xs => by rw [List.map_cons, ev, ev_pw j k xs, List.length_map, ev, pw_xor, ← pw_add, ← pw_add, Nat.add_comm]
theorem ev_zeros (j : Nat) : ∀ n : Nat, ev j (List.replicate n 0#8) = 0#8
  | 0 => rfl
  | n + 1 => by rw [List.replicate_succ, ev, ev_zeros j n, pw_zero]; rfl
/-- a row that vanishes at as many powers as it is long is nought -/
def dm : List B8 → List B8
  | [] => []
  | [_] => []
  | x :: y :: r => (pw (r.length + 1) x ^^^ x) :: dm (y :: r)
theorem dm_length : ∀ xs : List B8, (dm xs).length = xs.length - 1
  | [] => rfl
  | [_] => rfl
  | x :: y :: r => by
    have := dm_length (y :: r)
    simp only [dm, List.length_cons] at this ⊢
    omega
theorem ev_dm (j : Nat) : ∀ xs : List B8, pw j (ev j (dm xs)) = ev (j + 1) xs ^^^ ev j xs
  | [] => by simp [dm, ev, pw_zero]
  | [x] => by simp [dm, ev, pw_zero, pw]
  | x :: y :: r => by
    have ih := ev_dm j (y :: r)
    have hl : (dm (y :: r)).length = r.length := by rw [dm_length]; simp
    rw [dm, ev, hl, pw_xor, ih, pw_xor, pw_xor, ← pw_add, ← pw_add, ← pw_add]
    show _ = (pw ((j + 1) * (y :: r).length) x ^^^ ev (j + 1) (y :: r)) ^^^ (pw (j * (y :: r).length) x ^^^ ev j (y :: r))
    simp only [List.length_cons]
    rw [show j + j * r.length + (r.length + 1) = (j + 1) * (r.length + 1) by rw [Nat.add_mul, Nat.mul_add]; omega, show j + j * r.length = j * (r.length + 1) by rw [Nat.mul_add]; omega]
    generalize pw ((j + 1) * (r.length + 1)) x = a
    generalize pw (j * (r.length + 1)) x = b
    generalize ev (j + 1) (y :: r) = c
    generalize ev j (y :: r) = d
    rw [BitVec.xor_assoc, BitVec.xor_assoc]
    congr 1
    rw [← BitVec.xor_assoc, ← BitVec.xor_assoc, BitVec.xor_comm b]
theorem dm_zero : ∀ xs : List B8, xs.length ≤ 9 → (∀ z ∈ dm xs, z = 0#8) → ∃ n l, xs = List.replicate n 0#8 ++ l ∧ l.length ≤ 1
  | [], _, _ => ⟨0, [], rfl, by simp⟩
  | [x], _, _ => ⟨0, [x], rfl, by simp⟩
  | x :: y :: r, hl, h => by
    obtain ⟨n, l, e, hl1⟩ := dm_zero (y :: r) (by simp at hl ⊢; omega) (fun z hz => h z (by rw [dm]; exact .tail _ hz))
    have hx : x = 0#8 := pw_fix (i := r.length + 1) (by omega) (by simp at hl; omega) (h _ (by rw [dm]; exact .head _))
    exact ⟨n + 1, l, by rw [List.replicate_succ, List.cons_append, ← e, hx], hl1⟩
theorem ev_none : ∀ (m : Nat) (d : List B8), m ≤ 9 → d.length = m → (∀ j, j < m → ev j d = 0#8) → d = List.replicate m 0#8
  | 0, d, _, hl, _ => by rw [List.length_eq_zero_iff.mp hl]; rfl
  | m + 1, d, hm, hl, h => by
    have hd : dm d = List.replicate m 0#8 := ev_none m (dm d) (by omega) (by rw [dm_length]; omega) (fun j hj => by
      refine pw_inj (k := j) ?_
      rw [ev_dm, h (j + 1) (by omega), h j (by omega)]
      rfl)
    obtain ⟨n, l, e, hl1⟩ := dm_zero d (by omega) (fun z hz => by rw [hd] at hz; exact (List.mem_replicate.mp hz).2)
    have h0 := h 0 (by omega)
    rw [e, ev_append, ev_zeros, pw_zero, BitVec.zero_xor] at h0
    match l, hl1 with
    | [], _ =>
      rw [List.append_nil] at e
      have : n = m + 1 := by rw [← hl, e]; simp
      rw [e, this]
    | [z], _ =>
      have hz : z = 0#8 := by simpa [ev, pw] using h0
      rw [hz] at e
      have : n = m := by have := congrArg List.length e; simp at this; omega
      rw [e, this, ← List.replicate_succ']
end
section
local macro_rules | `(tactic| walk_at "pad 0") => `(tactic| skip)
/-! what create_bytes computes, by values at powers of 2 -/
def toI (a : B8) : Int := (a.toNat : Int)
def ofI (x : Int) : B8 := BitVec.ofNat 8 x.toNat
def IsB (xs : List Int) : Prop := ∀ x ∈ xs, 0 ≤ x ∧ x < 256
def up (xs : List Int) : List B8 := xs.map ofI
theorem toI_ofI {x : Int} (h : 0 ≤ x ∧ x < 256) : toI (ofI x) = x := by
  unfold toI ofI
  rw [BitVec.toNat_ofNat, Nat.mod_eq_of_lt (by omega)]
  omega
theorem ofI_toI (a : B8) : ofI (toI a) = a := by unfold toI ofI; simp
theorem toI_byte (a : B8) : 0 ≤ toI a ∧ toI a < 256 := by unfold toI; have := a.isLt; omega
theorem ofI_inj {x y : Int} (hx : 0 ≤ x ∧ x < 256) (hy : 0 ≤ y ∧ y < 256) (h : ofI x = ofI y) : x = y := by rw [← toI_ofI hx, h, toI_ofI hy]
theorem ofI_zero {x : Int} (hx : 0 ≤ x ∧ x < 256) (h : ofI x = 0#8) : x = 0 := ofI_inj hx (by decide) h
theorem up_inj : ∀ {xs ys : List Int}, IsB xs → IsB ys → up xs = up ys → xs = ys := by
  intro xs
  induction xs with
  | nil => intro ys _ _ h; cases ys with
    | nil => rfl
    | cons y ys => simp [up] at h
  | cons x xs ih =>
    intro ys hx hy h
    cases ys with
    | nil => simp [up] at h
    | cons y ys =>
      simp only [up, List.map_cons, List.cons.injEq] at h
      rw [ofI_inj (hx x (.head _)) (hy y (.head _)) h.1, ih (fun z hz => hx z (.tail _ hz)) (fun z hz => hy z (.tail _ hz)) h.2]
theorem up_length (xs : List Int) : (up xs).length = xs.length := List.length_map ..
theorem up_append (xs ys : List Int) : up (xs ++ ys) = up xs ++ up ys := List.map_append ..
theorem ofI_xor {x y : Int} (hx : 0 ≤ x ∧ x < 256) (hy : 0 ≤ y ∧ y < 256) : ofI (Builtin.bitXor x y) = ofI x ^^^ ofI y := by
  rw [bx_of hx.1 hy.1]
  unfold ofI
  rw [Int.toNat_natCast, ← BitVec.ofNat_xor]
theorem gexp_nextN : ∀ n : Nat, n < 254 → ofI (gexpI ((n + 1 : Nat) : Int)) = xt (ofI (gexpI (n : Int))) := by decide +kernel
theorem gexp_pw : ∀ n : Nat, n < 255 → ofI (gexpI (n : Int)) = pw n 1#8
  | 0, _ => by decide +kernel
  | n + 1, h => by rw [gexp_nextN n (by omega), gexp_pw n (by omega)]; rfl
theorem gexp_mod (k : Int) : gexpI (k.fmod 255) = gexpI k := by
  unfold gexpI
  rw [Int.fmod_fmod]
theorem gexp_any (k : Int) : ofI (gexpI k) = pw (k.fmod 255).toNat 1#8 := by
  have h0 : 0 ≤ k.fmod 255 := Int.fmod_nonneg_of_pos _ (by decide)
  have h1 : k.fmod 255 < 255 := Int.fmod_lt_of_pos _ (by decide)
  rw [← gexp_mod]
  obtain ⟨n, e⟩ := Int.eq_ofNat_of_zero_le h0
  rw [e]
  exact gexp_pw n (by omega)
theorem glog_range : ∀ n : Nat, n < 256 → 0 ≤ glogI (n : Int) ∧ glogI (n : Int) < 255 := by decide +kernel
theorem gexp_shift {b r : Int} (hb : 1 ≤ b ∧ b < 256) : ofI (gexpI (glogI b + r)) = pw (r.fmod 255).toNat (ofI b) := by
  obtain ⟨n, rfl⟩ := Int.eq_ofNat_of_zero_le (show 0 ≤ b by omega)
  have hl := glog_range n (by omega)
  have h0 : 0 ≤ r.fmod 255 := Int.fmod_nonneg_of_pos _ (by decide)
  have e : ofI (n : Int) = pw (glogI (n : Int)).toNat 1#8 := by
    have q := gexp_any (glogI (n : Int))
    rw [gexp_glog hb.1 hb.2, Int.fmod_eq_emod_of_nonneg _ (by decide), Int.emod_eq_of_lt hl.1 hl.2] at q
    exact q
  rw [gexp_any, e, ← pw_add, ← pw_mod ((r.fmod 255).toNat + _)]
  congr 1
  rw [Int.fmod_eq_emod_of_nonneg _ (by decide), Int.fmod_eq_emod_of_nonneg _ (by decide)] at *
  omega
theorem up_zip {r : Int} : ∀ xs ys : List Int, IsB xs → (∀ y ∈ ys, 1 ≤ y ∧ y < 256) → up (List.zipWith (fun a b => Builtin.bitXor a (gexpI (glogI b + r))) xs ys) = xz (up xs) ((up ys).map (pw (r.fmod 255).toNat))
  | [], _, _, _ => by simp [up, xz]
  | _ :: _, [], _, _ => by simp [up, xz]
  | x :: xs, y :: ys, hx, hy => by
    have ih := up_zip (r := r) xs ys (fun z hz => hx z (.tail _ hz)) (fun z hz => hy z (.tail _ hz))
    have hg := gexpI_byte (glogI y + r)
    simp only [up, xz, List.zipWith_cons_cons, List.map_cons] at ih ⊢
    rw [ih, ofI_xor (hx x (.head _)) ⟨by omega, hg.2⟩, gexp_shift (hy y (.head _))]
theorem zip_take {α β γ : Type} (f : α → β → γ) : ∀ (xs : List α) (ys : List β), List.zipWith f xs ys = List.zipWith f (xs.take ys.length) ys
  | [], _ => by simp
  | _ :: _, [] => by simp
  | x :: xs, y :: ys => by rw [List.zipWith_cons_cons, List.length_cons, List.take_succ_cons, List.zipWith_cons_cons, zip_take f xs ys]
theorem ev_modStep {j : Nat} {xs ys : List Int} (hx : IsB xs) (hy : ∀ y ∈ ys, 1 ≤ y ∧ y < 256) (hl : ys.length ≤ xs.length) (h0 : ev j (up ys) = 0#8) : ev j (up (modStep xs ys)) = ev j (up xs) := by
  have ht : (xs.take ys.length).length = ys.length := by rw [List.length_take]; omega
  unfold modStep
  rw [zip_take, up_append, ev_append, up_zip _ _ (fun z hz => hx z (List.mem_of_mem_take hz)) hy, ev_xz _ _ _ (by rw [List.length_map, up_length, up_length, ht]), ev_pw, h0, pw_zero, BitVec.xor_zero, ← ev_append, ← up_append, List.take_append_drop]
theorem ev_strip (j : Nat) : ∀ xs : List Int, ev j (up (stripZ xs)) = ev j (up xs)
  | [] => rfl
  | [_] => rfl
  | x :: y :: r => by
    unfold stripZ
    split
    · rename_i hx
      rw [ev_strip j (y :: r), hx]
      show _ = pw _ (0#8) ^^^ _
      rw [pw_zero, BitVec.zero_xor]
      rfl
    · rfl
theorem strip_byte {xs : List Int} (h : IsB xs) : IsB (stripZ xs) := fun x hx => h x (stripZ_mem _ _ hx)
theorem polyMod_byte : ∀ (k : Nat) (xs ys : List Int), IsB xs → IsB (polyModF k xs ys)
  | 0, _, _, h => h
  | k + 1, xs, ys, h => by
    unfold polyModF
    split
    · exact h
    · exact polyMod_byte k _ _ (strip_byte (modStep_byte h))
theorem ev_polyMod {j : Nat} {ys : List Int} (hy : ∀ y ∈ ys, 1 ≤ y ∧ y < 256) (h0 : ev j (up ys) = 0#8) : ∀ (k : Nat) (xs : List Int), IsB xs → ev j (up (polyModF k xs ys)) = ev j (up xs)
  | 0, _, _ => rfl
  | k + 1, xs, h => by
    unfold polyModF
    split
    · rfl
    · rw [ev_polyMod hy h0 k _ (strip_byte (modStep_byte h)), ev_strip, ev_modStep h hy (by omega) h0]
theorem polyMod_len {ys : List Int} (h2 : 2 ≤ ys.length) : ∀ (k : Nat) (xs : List Int), IsB xs → xs.length < ys.length + k → (ys.length ≤ xs.length → 1 ≤ xs.getD 0 0) → (polyModF k xs ys).length < ys.length
  | 0, xs, _, hl, _ => by simpa [polyModF] using hl
  | k + 1, xs, h, hl, hz => by
    unfold polyModF
    split
    · assumption
    · rename_i hge
      have h1 := hz (by omega)
      have hb := (getD_all (P := fun x => 0 ≤ x ∧ x < 256) (l := xs) (i := 0) (by omega) h).2
      have hms : (modStep xs ys).length = xs.length := modStep_length (by omega)
      have hst := stripZ_lt (xs := modStep xs ys) (by omega) (modStep_head h1 hb (by omega) (by omega))
      refine polyMod_len h2 k _ (strip_byte (modStep_byte h)) (by omega) (fun hq => ?_)
      have hne := stripZ_head (modStep xs ys) (by omega)
      have hp := (getD_all (P := fun x => 0 ≤ x ∧ x < 256) (l := stripZ (modStep xs ys)) (i := 0) (by omega) (strip_byte (modStep_byte h))).1
      omega
theorem pad_eq {md : List Int} {M : Nat} (h : md.length ≤ M) : (List.range M).map (ecAt md M) = List.replicate (M - md.length) 0 ++ md := by
  refine List.ext_getElem (by simp; omega) fun i h1 h2 => ?_
  simp only [List.length_map, List.length_range] at h1
  rw [List.getElem_map, List.getElem_range]
  unfold ecAt
  rw [List.getElem_append]
  simp only [List.length_replicate]
  split
  · rename_i hi
    rw [dif_neg (by omega)]
    have e : ((i : Int) + ((md.length : Int) - (M : Int))).toNat = i - (M - md.length) := by omega
    rw [e, List.getD_eq_getElem?_getD, List.getElem?_eq_getElem (by omega)]
    rfl
  · rw [dif_pos (by omega), List.getElem_replicate]
theorem rsP_zeroN : ∀ M : Nat, M < 9 → ∀ j : Nat, j < M → ev j (up (rsP M)) = 0#8 := by decide +kernel
theorem up_zeros (n : Nat) : up (List.replicate n 0) = List.replicate n 0#8 := by unfold up; rw [List.map_replicate]; rfl
theorem modX_len {ds : List Int} {M : Nat} (hb : IsB ds) (hnz : ∃ x ∈ ds, x ≠ 0) (h1 : 1 ≤ M) (h8 : M ≤ 8) (hl : ds.length ≤ 30) : (modX ds M).length ≤ M := by
  have hg := rsP_ok h8
  have := polyMod_len (ys := rsP M) (by omega) 38 (rawX ds M) (rawX_byte hb) (by have := rawX_length ds M; omega) (fun _ => rawX_head hb hnz)
  unfold modX
  omega
theorem ec_byte {ds : List Int} {M : Nat} (hb : IsB ds) (hnz : ∃ x ∈ ds, x ≠ 0) (h1 : 1 ≤ M) (h8 : M ≤ 8) (hl : ds.length ≤ 30) : IsB (ecX ds M) := by
  unfold ecX
  rw [pad_eq (modX_len hb hnz h1 h8 hl)]
  intro x hx
  rcases List.mem_append.mp hx with hx | hx
  · rw [(List.mem_replicate.mp hx).2]; decide
  · exact polyMod_byte _ _ _ (rawX_byte hb) x hx
theorem ec_vanish {ds : List Int} {M j : Nat} (hb : IsB ds) (hnz : ∃ x ∈ ds, x ≠ 0) (h8 : M ≤ 8) (hl : ds.length ≤ 30) (hj : j < M) : ev j (up (ds ++ ecX ds M)) = 0#8 := by
  have hg := rsP_ok h8
  have e1 : ev j (up (ecX ds M)) = pw (j * M) (ev j (up ds)) := by
    unfold ecX
    rw [pad_eq (modX_len hb hnz (by omega) h8 hl), up_append, ev_append, up_zeros, ev_zeros, pw_zero, BitVec.zero_xor]
    unfold modX
    rw [ev_polyMod hg.2 (rsP_zeroN M (by omega) j hj) 38 _ (rawX_byte hb)]
    unfold rawX
    rw [up_append, ev_append, ev_strip, up_zeros, ev_zeros, List.length_replicate, BitVec.xor_zero]
  rw [up_append, ev_append, e1, up_length, ecX_length, BitVec.xor_self]
/-- a row that vanishes at the first powers of 2 tells itself -/
theorem tells {ds e : List Int} {M : Nat} (hb : IsB ds) (hnz : ∃ x ∈ ds, x ≠ 0) (h1 : 1 ≤ M) (h8 : M ≤ 8) (hl : ds.length ≤ 30) (he : IsB e) (hel : e.length = M) (hv : ∀ j, j < M → ev j (up (ds ++ e)) = 0#8) : ecX ds M = e := by
  refine up_inj (ec_byte hb hnz h1 h8 hl) he ?_
  have hlen : (up (ecX ds M)).length = (up e).length := by rw [up_length, up_length, ecX_length, hel]
  have hz : xz (up (ecX ds M)) (up e) = List.replicate M 0#8 := by
    refine ev_none M _ (by omega) (by unfold xz; rw [List.length_zipWith, ← hlen, up_length, ecX_length]; omega) (fun j hj => ?_)
    have q1 := ec_vanish hb hnz h8 hl hj
    have q2 := hv j hj
    rw [up_append, ev_append] at q1 q2
    rw [up_length, ecX_length] at q1
    rw [up_length, hel] at q2
    rw [ev_xz _ _ _ hlen]
    have : ev j (up (ecX ds M)) = ev j (up e) := by
      have q := q1.trans q2.symm
      have := congrArg (fun z => pw (j * M) (ev j (up ds)) ^^^ z) q
      simpa only [xcc] using this
    rw [this, BitVec.xor_self]
  have key : ∀ (a b : List B8) (n : Nat), a.length = b.length → xz a b = List.replicate n 0#8 → a = b := by
    intro a
    induction a with
    | nil => intro b n h _; exact (List.length_eq_zero_iff.mp h.symm).symm
    | cons x a ih =>
      intro b n h hq
      cases b with
      | nil => simp at h
      | cons y b =>
        cases n with
        | zero => simp [xz] at hq
        | succ n =>
          simp only [xz, List.zipWith_cons_cons, List.replicate_succ, List.cons.injEq] at hq
          have hxy : x = y := by
            have := congrArg (fun z => x ^^^ z) hq.1
            simpa only [xcc, BitVec.xor_zero] using this.symm
          rw [hxy, ih b n (by simpa using h) hq.2]
  exact key _ _ M hlen hz
theorem deal_one (zs : List Int) : deal [zs] zs.length = zs := by
  unfold deal
  refine List.ext_getElem? fun i => ?_
  simp only [List.map_cons, List.map_nil]
  rw [← List.map_eq_flatMap]
  by_cases h : i < zs.length
  · rw [List.getElem?_map, List.getElem?_range h, Option.map_some, List.getD_eq_getElem?_getD, List.getElem?_eq_getElem h]; rfl
  · rw [List.getElem?_eq_none (by simp; omega), List.getElem?_eq_none (by omega)]
/-- one block: the octets and their checks -/
theorem cbX_one {ns : List Int} {M : Nat} : cbX ns 1 ns.length M = ns ++ ecX ns M := by
  have e : blk ns ns.length 0 = ns := by unfold blk; simp
  unfold cbX
  rw [show List.range 1 = [0] from rfl, List.map_cons, List.map_nil, List.map_cons, List.map_nil, e, deal_one]
  congr 1
  have := deal_one (ecX ns M)
  rw [ecX_length] at this
  exact this
end
section
/-! octets put into a buffer; slices of displays; small maps of names -/
theorem map2 {x1 x2 : Str} {v1 v2 : Value} {m0 m' : Str → Option Value} (e1 : m' x1 = some v1) (e2 : m' x2 = some v2) (e : ∀ y, y ≠ x1 → y ≠ x2 → m' y = m0 y) :
    m' = fun y => if y = x1 then some v1 else if y = x2 then some v2 else m0 y := by
  funext y
  exact eq_ite (fun q => by rw [q]; exact e1) (fun q1 => eq_ite (fun q => by rw [q]; exact e2) (fun q2 => e y q1 q2))
theorem map3 {x1 x2 x3 : Str} {v1 v2 v3 : Value} {m0 m' : Str → Option Value} (e1 : m' x1 = some v1) (e2 : m' x2 = some v2) (e3 : m' x3 = some v3) (e : ∀ y, y ≠ x1 → y ≠ x2 → y ≠ x3 → m' y = m0 y) :
    m' = fun y => if y = x1 then some v1 else if y = x2 then some v2 else if y = x3 then some v3 else m0 y := by
  funext y
  exact eq_ite (fun q => by rw [q]; exact e1) (fun q1 => eq_ite (fun q => by rw [q]; exact e2) (fun q2 => eq_ite (fun q => by rw [q]; exact e3) (fun q3 => e y q1 q2 q3)))
section
variable {prog : Program} {w : World} {A : Around} {E : Value → Shared → Prop} {s : Shared} {L : Addr} {h₀ : Heap} {m : Str → Option Value} {news : List (Addr × Obj)}
theorem sub_disp_slice {value slice : Expr} {l : Addr} {vs : List Value} {ns ms : List Int} {n : Nat} {a b : Value} {lo hi : Option Int} {Q : Value → Shared → Prop} (F : Fr h₀ L s.heap m) (N : News h₀ L s.heap news)
    (hl : (l, listOf vs.toArray n) ∈ news) (pa : IsPart a lo) (pb : IsPart b hi) (hI : IntsAre vs ns) (hm : IntsAre (slicePick vs.toArray lo hi none).toList ms) (hsz : ns.length ≤ sizeLine)
    (h : ∀ D ws h', Fr h₀ L h' m → News h₀ L h' ((D, listOf (List.toArray ws) 0) :: news) → (∀ p ∈ news, p.1 < D) → IntsAre ws ms → Q (.ref D) { s with heap := h' })
    (hs : subscripted slice false (.ref l) (.ref s.heap.objs.size) = operate [.ref s.heap.objs.size, .ref l] (getItem (.ref l) (.ref s.heap.objs.size))) :
    wpAny (model prog w) A (subscriptTail value slice (.ref l) (.ref s.heap.objs.size)) Q E { s with heap := s.heap.push (slO a b) } := by
  have N' : News h₀ L (s.heap.push (slO a b)) ((s.heap.objs.size, slO a b) :: news) := News.push F N _ rfl
  have hL : (s.heap.push (slO a b)).IsList l vs.toArray := ⟨_, (N' _ (.tail _ hl)).1, rfl, n, rfl⟩
  refine tail_any (s := { s with heap := s.heap.push (slO a b) }) hL.typeIs slot_list_getitem.lookup (wpAny_getItem_list_slice hL ⟨_, (N' _ (.head _)).1, rfl, rfl⟩ pa pb .none (by simp) ?_ (by rw [List.size_toArray, hI.length]; exact hsz)) hs
  have e : listOf (slicePick vs.toArray lo hi none) 0 = listOf (List.toArray (slicePick vs.toArray lo hi none).toList) 0 := by rw [Array.toArray_toList]
  refine h _ (slicePick vs.toArray lo hi none).toList _ ((F.push _).push _) ?_ (fun p hp => Heap.lt_size (N' p (.tail _ hp)).1) hm
  rw [← e]
  have N'' := News.push (F.push _) N' (listOf (slicePick vs.toArray lo hi none) 0) rfl
  exact news_cons (.head _) N'' (fun p hp => N'' p (.tail _ (.tail _ hp)))
end
/-! octets put into a buffer, one by one -/
def PutJ (m0 : Str → Option Value) (xn : Str) (g2 : Obj → Obj → List (Addr × Obj)) (d l : Addr) (hs1 hs2 : Int) (t1 t2 : Tok) (ns : List Int) (i : Nat) (m' : Str → Option Value) (nx : List (Addr × Obj)) : Prop :=
  ∃ (c : Option Value) (vs : List Value) (n : Nat) (len : Int) (t3 : Tok), m' = (fun y => if y = xn then c else m0 y) ∧ nx = g2 (dictOf [⟨hs1, .str (Str.ofString "buffer") t1, .ref l⟩, ⟨hs2, .str (Str.ofString "length") t2, .int len t3⟩] 2) (listOf (List.toArray vs) n) ∧ IntsAre vs (ns.take i) ∧ len = 8 * ((ns.take i).length : Int)
theorem put_end {h₀ : Heap} {L : Addr} {Q : Flow → Shared → Prop} {m0 m' : Str → Option Value} {xn : Str} {g2 : Obj → Obj → List (Addr × Obj)} {d l : Addr} {hs1 hs2 : Int} {t1 t2 t3 : Tok} {ns zs : List Int} {i : Nat} {len : Int} {vs : List Value} {n : Nat} {news' : List (Addr × Obj)} {s₁ : Shared} {I : Addr} {oI : Obj} {h' : Heap} {tk' : Nat} (F : Fr h₀ L h' m') (N : News h₀ L h' news')
    (hs : ∀ p ∈ g2 (dictOf [⟨hs1, .str (Str.ofString "buffer") t1, .ref l⟩, ⟨hs2, .str (Str.ofString "length") t2, .int len t3⟩] 2) (listOf (List.toArray vs) n), p ∈ news') (hi : (I, oI) ∈ news')
    (off : ∀ p ∈ g2 (dictOf [⟨hs1, .str (Str.ofString "buffer") t1, .ref l⟩, ⟨hs2, .str (Str.ofString "length") t2, .int len t3⟩] 2) (listOf (List.toArray vs) n), p.1 ≠ I)
    (hI : IntsAre vs zs) (hz : zs = ns.take (i + 1)) (hlen : len = 8 * (zs.length : Int)) (h : ∀ y, y ≠ xn → m' y = m0 y) :
    GrowPost h₀ L (PutJ m0 xn g2 d l hs1 hs2 t1 t2 ns (i + 1)) I oI s₁ Q .next { s₁ with heap := h', toks := tk' } := by
  subst hz
  exact GrowEnd.intro _ F N hs hi off ⟨m' xn, vs, n, len, t3, funext fun y => eq_ite (fun q => by rw [q]) (fun q => h y q), rfl, hI, hlen⟩
section
variable {prog : Program} {w : World} {A : Around} {E : Value → Shared → Prop} {s : Shared} {env : Env} {h₀ : Heap} {body : List Stmt} {Q : Flow → Shared → Prop}
theorem put_loop {xn : Str} {lst : Addr} {ws : List Value} {kw k0 : Nat} {ns : List Int} {m0 : Str → Option Value} {big : List (Addr × Obj)} {g : Obj → List (Addr × Obj)} {g2 : Obj → Obj → List (Addr × Obj)} {b d l : Addr} {hs1 hs2 : Int} {t1 t2 t3 : Tok} {len : Int} {a0 : Array Value}
    (hh : A.handled = none) (F : Fr h₀ env.locals s.heap m0) (N : News h₀ env.locals s.heap big) (_hb : (b, instObj 269 d) ∈ big) (U1 : UpdF d (dictOf [⟨hs1, .str (Str.ofString "buffer") t1, .ref l⟩, ⟨hs2, .str (Str.ofString "length") t2, .int len t3⟩] 2) big g) (U2 : ∀ o, UpdF l (listOf a0 k0) (g o) (g2 o)) (ha : a0 = #[]) (hlen : len = 0)
    (hl : ∀ o1 o2, (lst, listOf (List.toArray ws) kw) ∈ g2 o1 o2) (hI : IntsAre ws ns)
    (turn : ∀ (i : Nat) (x : Int) t (c : Option Value) (vs : List Value) (n : Nat) (len : Int) (t3 : Tok) h tk I oI, i < ns.length → ns[i]? = some x → x ∈ ns → IntsAre vs (ns.take i) → len = 8 * ((ns.take i).length : Int) →
      (∀ p ∈ g2 (dictOf [⟨hs1, .str (Str.ofString "buffer") t1, .ref l⟩, ⟨hs2, .str (Str.ofString "length") t2, .int len t3⟩] 2) (listOf (List.toArray vs) n), p.1 ≠ I) → oI.cls = .type "list_iterator" →
      Fr h₀ env.locals h (fun y => if y = xn then some (.int x t) else if y = xn then c else m0 y) →
      News h₀ env.locals h ((I, oI) :: g2 (dictOf [⟨hs1, .str (Str.ofString "buffer") t1, .ref l⟩, ⟨hs2, .str (Str.ofString "length") t2, .int len t3⟩] 2) (listOf (List.toArray vs) n)) →
      wpAny (model prog w) A (execs body env) (GrowPost h₀ env.locals (PutJ m0 xn g2 d l hs1 hs2 t1 t2 ns (i + 1)) I oI { s with heap := h, toks := tk } Q) E { s with heap := h, toks := tk })
    (done : ∀ (c : Option Value) (vs : List Value) (n : Nat) (len : Int) (t3 : Tok) h tk, IntsAre vs ns → len = 8 * (ns.length : Int) → Fr h₀ env.locals h (fun y => if y = xn then c else m0 y) →
      News h₀ env.locals h (g2 (dictOf [⟨hs1, .str (Str.ofString "buffer") t1, .ref l⟩, ⟨hs2, .str (Str.ofString "length") t2, .int len t3⟩] 2) (listOf (List.toArray vs) n)) → Q .next { s with heap := h, toks := tk }) :
    wpAny (model prog w) A (pyIter (.ref lst)) (fun it s₂ => LoopAtV prog w A h₀ env xn body Q E it s₂) E s := by
  subst ha hlen
  have eg : big = g2 (dictOf [⟨hs1, .str (Str.ofString "buffer") t1, .ref l⟩, ⟨hs2, .str (Str.ofString "length") t2, .int 0 t3⟩] 2) (listOf (List.toArray []) k0) := by
    rw [updF_same (U2 _), updF_same U1]
  refine grow_list (vs := ws) (n := kw) (PutJ m0 xn g2 d l hs1 hs2 t1 t2 ns) hh F N ?_ ⟨m0 xn, [], k0, 0, t3, funext fun y => eq_ite (fun q => by rw [q]) (fun _ => rfl), eg, .nil, by simp⟩ ?_ ?_
  · rintro i m' nx ⟨c, vs, n, len, t3, _, rfl, _, _⟩
    exact hl _ _
  · rintro i v m₁' nx₁ h tk I oI hv ⟨c, vs, n, len, t3, rfl, rfl, hI', hlen'⟩ hoff hc F' N'
    obtain ⟨x, t, rfl, hx⟩ := IntsAre.at hI i v hv
    have hi : i < ns.length := (List.getElem?_eq_some_iff.mp hx).1
    exact turn i x t c vs n len t3 h tk I oI hi hx (List.mem_of_getElem? hx) hI' hlen' hoff hc F' N'
  · rintro m₁' nx₁ h tk ⟨c, vs, n, len, t3, rfl, rfl, hI', hlen'⟩ F' N'
    rw [hI.length, List.take_length] at hI'
    rw [hI.length, List.take_length] at hlen'
    exact done c vs n len t3 h tk hI' hlen' F' N'
end
end
section
local macro_rules | `(tactic| walk_at "pad 0") => `(tactic| skip)
/-! rules for laws 1, 2, 4: ints forgotten, ways that meet, a list of one item times an int, a comprehension over a range -/
section
variable {prog : Program} {w : World} {A : Around} {E : Value → Shared → Prop} {s : Shared} {L : Addr} {h₀ : Heap} {m : Str → Option Value} {news : List (Addr × Obj)}
theorem add_gen {x : Int} {t u : Tok} {Q : Value → Shared → Prop} (h0 : 0 ≤ x) (h : ∀ (b : Nat) t tk, (b : Int) = 2 + x → Q (.int (b : Int) t) { s with toks := tk }) : wpAny (model prog w) A (binaryOp .Add (.int 2 t) (.int x u)) Q E s := by
  refine add_int ?_
  have e : ((2 + x).toNat : Int) = 2 + x := by omega
  rw [← e]
  exact h _ _ _ e
theorem add_mod {x k : Int} {t u : Tok} {Q : Value → Shared → Prop} (hk : 0 < k) (h : ∀ (b : Nat) t tk, 2 ≤ b → (b : Int) < 2 + k → Q (.int (b : Int) t) { s with toks := tk }) : wpAny (model prog w) A (binaryOp .Add (.int 2 t) (.int (x.fmod k) u)) Q E s := by
  have h0 := Int.fmod_nonneg_of_pos x hk
  have h1 := Int.fmod_lt_of_pos x hk
  exact add_gen h0 (fun b t tk e => h b t tk (by omega) (by omega))
theorem mul_nat {a b : Nat} {t u : Tok} {Q : Value → Shared → Prop} (ha : a < 2 ^ 60) (hb : b < 2 ^ 60) (h : ∀ t tk, Q (.int ((a * b : Nat) : Int) t) { s with toks := tk }) : wpAny (model prog w) A (binaryOp .Mult (.int (a : Int) t) (.int (b : Int) u)) Q E s := by
  refine mul_int ?_ (mulOk_of_bits (m := 64) (n := 64) (intBits_le (by omega)) (intBits_le (by omega)) (by decide))
  rw [← Int.natCast_mul]
  exact h _ _
theorem pow_nat {a b : Nat} {t u : Tok} {Q : Value → Shared → Prop} (ha : a < 2 ^ 60) (hb : b < 1000) (h : ∀ t tk, Q (.int ((a ^ b : Nat) : Int) t) { s with toks := tk }) : wpAny (model prog w) A (binaryOp .Pow (.int (a : Int) t) (.int (b : Int) u)) Q E s := by
  refine pow_int_small (by omega) (by omega) (by omega) ?_
  rw [Int.toNat_natCast, ← Int.natCast_pow]
  exact h _ _
theorem mod_nat {a n : Nat} {b : Int} {t u : Tok} {Q : Value → Shared → Prop} (hb : b = (n : Int)) (hn : 0 < n) (h : ∀ t tk, Q (.int ((a % n : Nat) : Int) t) { s with toks := tk }) : wpAny (model prog w) A (binaryOp .Mod (.int (a : Int) t) (.int b u)) Q E s := by
  subst hb
  refine mod_int (by omega) ?_
  rw [Int.fmod_eq_emod_of_nonneg _ (by omega), ← Int.natCast_emod]
  exact h _ _
/-- an int and no other change -/
def JoinAt (R : Int → Prop) (s : Shared) (v : Value) (s₂ : Shared) : Prop := ∃ z t tk, v = .int z t ∧ s₂ = { s with toks := tk } ∧ R z
theorem JoinAt.intro {R : Int → Prop} {z : Int} {t : Tok} {tk : Nat} (h : R z) : JoinAt R s (.int z t) { s with toks := tk } := ⟨z, t, tk, rfl, rfl, h⟩
theorem join_int {M : Model} {tree : Sem Value} {Q : Value → Shared → Prop} (R : Int → Prop) (h1 : wpAny M A tree (JoinAt R s) E s) (h2 : ∀ z t tk, R z → Q (.int z t) { s with toks := tk }) : wpAny M A tree Q E s :=
  wpAny_mono h1 (fun v s₂ ⟨z, t, tk, e1, e2, hr⟩ => by subst e1 e2; exact h2 z t tk hr) fun _ _ e => e
theorem led_any {value slice : PySem.Expr} {l : Addr} {vs : List Value} {ns : List Int} {n : Nat} {k : Int} {u : Tok} {Q : Value → Shared → Prop} (N : News h₀ L s.heap news) (hl : (l, listOf vs.toArray n) ∈ news) (hi : IntsAre vs ns) (h0 : 0 ≤ k) (h1 : k < ns.length) (hlen : ns.length < 2 ^ 20)
    (h : ∀ z t, Q (.int z t) s)
    (hs : subscripted slice false (.ref l) (.int k u) = operate [.ref l, .int k u] (getItem (.ref l) (.int k u)) := by with_unfolding_all rfl) :
    wpAny (model prog w) A (subscriptTail value slice (.ref l) (.int k u)) Q E s := led_item N hl hi h0 h1 hlen (fun t => h _ t) hs
theorem led_len {l : Addr} {vs : List Value} {ns : List Int} {n : Nat} {Q : Value → Shared → Prop} (N : News h₀ L s.heap news) (hl : (l, listOf vs.toArray n) ∈ news) (hi : IntsAre vs ns) (hlen : ns.length < 2 ^ 20)
    (h : ∀ t tk, Q (.int (ns.length : Int) t) { s with toks := tk }) : wpAny (model prog w) A (call (.builtin "len") [.ref l]) Q E s := by
  have hL : s.heap.IsList l vs.toArray := ⟨_, (N _ hl).1, rfl, n, rfl⟩
  have e : vs.toArray.size = ns.length := by rw [List.size_toArray]; exact hi.length
  refine len_list hL (by omega) ?_
  rw [e]
  exact h _ _
theorem fold_one (v : Value) : ∀ (n : Nat) (acc : Array Value), List.foldl (fun x1 x2 => x1 ++ x2) acc (List.replicate n #[v]) = acc ++ (List.replicate n v).toArray
  | 0, acc => by simp
  | n + 1, acc => by
    rw [List.replicate_succ, List.foldl_cons, fold_one v n, List.replicate_succ]
    apply Array.toList_inj.mp
    simp
theorem mul_one_item {l : Addr} {v : Value} {k : Nat} {x : Int} {u : Tok} {Q : Value → Shared → Prop} (F : Fr h₀ L s.heap m) (N : News h₀ L s.heap news) (hl : (l, listOf #[v] k) ∈ news) (hlo : -(2 ^ 40 : Int) ≤ x) (hhi : x < 2 ^ 20)
    (h : ∀ y h', Fr h₀ L h' m → News h₀ L h' ((y, listOf (List.toArray (List.replicate x.toNat v)) 0) :: news) → (∀ p ∈ news, p.1 < y) → Q (.ref y) { s with heap := h' }) : wpAny (model prog w) A (binaryOp .Mult (.ref l) (.int x u)) Q E s := by
  refine mul_list F N (N _ hl).1 (by omega) (by omega) (by show 1 * x.toNat ≤ 2 ^ 24; omega) (fun h' F' N' => ?_)
  have e : List.foldl (fun x1 x2 => x1 ++ x2) #[] (List.replicate (if (#[v] : Array Value).isEmpty = true then 0 else x.toNat) #[v]) = (List.replicate x.toNat v).toArray := by
    have e1 : (if (#[v] : Array Value).isEmpty = true then 0 else x.toNat) = x.toNat := rfl
    rw [e1, fold_one]
    simp
  rw [e] at N'
  exact h _ h' F' N' (fun p hp => Heap.lt_size (N p hp).1)
theorem ints_rep {z : Int} {t : Tok} : ∀ n : Nat, IntsAre (List.replicate n (Value.int z t)) (List.replicate n z)
  | 0 => .nil
  | n + 1 => .cons z t (ints_rep n)
end
/-! a comprehension over a range whose items are ints with a property -/
def CompG (news : List (Addr × Obj)) (G : Nat → Int → Prop) (i : Nat) (y : Value) (news' : List (Addr × Obj)) : Prop := news' = news ∧ ∃ z t, y = .int z t ∧ G i z
section
variable {prog : Program} {w : World} {A : Around} {h₀ : Heap} {L : Addr} {m : Str → Option Value} {env : Env} {elt : Expr} {x : Str} {scope : Scope} {cl : List (Str × Addr)} {s : Shared} {S : List (Addr × Obj) → Prop} {Fin : List Value → List (Addr × Obj) → Prop} {news : List (Addr × Obj)}
theorem comp_any {n : Nat} {a : Int} (G : Nat → Int → Prop)
    (turn : ∀ (i : Nat) t I oI C oC D m₂ ys h tk (E' : Value → Shared → Prop), i < n → LCg.NsObj oC m₂ → m₂ x = some (.int (a + (i : Int)) t) → Fr h₀ L h m → News h₀ L h ((I, oI) :: (C, oC) :: (D, LCg.lst ys) :: news) → LCg.Off3 I C D news → ((@Ne Nat I C) ∧ (@Ne Nat I D) ∧ (@Ne Nat C D)) →
      wpAny (model prog w) A (eval elt (compEnvC scope cl C env)) (LCg.CompEnd h₀ L m { s with heap := h, toks := tk } I oI C oC D (LCg.lst ys) S (CompG news G i)) E' { s with heap := h, toks := tk })
    (fin : ∀ ys zs, IntsAre ys zs → zs.length = n → (∀ i z, zs[i]? = some z → G i z) → Fin ys news) : LCg.CompRest prog w A h₀ L m env elt x scope cl s S (fun i v => ∃ t, v = .int (a + (i : Int)) t) Fin n 0 [] news := by
  have key : ∀ (j i : Nat) (ys : List Value) (zs : List Int), i + j = n → IntsAre ys zs → zs.length = i → (∀ i z, zs[i]? = some z → G i z) → LCg.CompRest prog w A h₀ L m env elt x scope cl s S (fun i v => ∃ t, v = .int (a + (i : Int)) t) Fin j i ys news := by
    intro j
    induction j with
    | zero =>
      intro i ys zs hi hy hl hG
      exact LCg.CompRest.zero (fin ys zs hy (by omega) hG)
    | succ j ih =>
      intro i ys zs hi hy hl hG
      refine LCg.CompRest.succ ?_
      rintro v I oI C oC D m₂ h tk E' ⟨t, rfl⟩ hC hx F N off ne
      refine wpAny_mono (turn i t I oI C oC D m₂ ys h tk E' (by omega) hC hx F N off ne) (fun y s₂ hq => ?_) fun _ _ e => e
      obtain ⟨h', tk', nw, e, F', N', off', hS, hn, z, t', hy', hz⟩ := hq
      rw [hn] at N' off' hS
      refine ⟨h', tk', news, e, F', N', off', hS, ?_⟩
      rw [hy']
      refine ih (i + 1) _ (zs ++ [z]) (by omega) (IntsAre.append hy (.cons z t' .nil)) (by simp [hl]) (fun i' z' hz' => ?_)
      rcases Nat.lt_or_ge i' zs.length with hlt | hge
      · rw [List.getElem?_append_left hlt] at hz'
        exact hG i' z' hz'
      · have : i' = zs.length := by
          have := (List.getElem?_eq_some_iff.mp hz').1
          simp at this; omega
        subst this
        simp at hz'
        subst hz'
        rw [hl]
        exact hz
  exact key n 0 [] [] (by omega) .nil rfl (by simp)
end
theorem compG_end {h₀ : Heap} {L I C D : Addr} {m : Str → Option Value} {s₁ : Shared} {oI oC oD : Obj} {S : List (Addr × Obj) → Prop} {h' : Heap} {tk : Nat} {all news : List (Addr × Obj)} {G : Nat → Int → Prop} {i : Nat} {z : Int} {t : Tok} (F : Fr h₀ L h' m) (N : News h₀ L h' all) (sub : ∀ p ∈ (I, oI) :: (C, oC) :: (D, oD) :: news, p ∈ all) (off : LCg.Off3 I C D news) (hS : S news) (hz : G i z) :
    LCg.CompEnd h₀ L m s₁ I oI C oC D oD S (CompG news G i) (.int z t) { s₁ with heap := h', toks := tk } := LCg.CompEnd.intro F N news sub off hS ⟨rfl, z, t, rfl, hz⟩
theorem one_fmod1 (x : Int) : 1 ≤ 1 + x.fmod 255 ∧ 1 + x.fmod 255 < 256 := by
  have h1 := Int.fmod_nonneg_of_pos x (b := 255) (by decide)
  have h2 := Int.fmod_lt_of_pos x (b := 255) (by decide)
  omega
end
section
local macro_rules | `(tactic| walk_at "pad 0") => `(tactic| skip)
local macro_rules | `(tactic| walk_at "pad 1") => `(tactic| skip)
theorem fillNow_tabs : (PySem.Challenge.rw_bq0024_01 = PySem.Challenge.rw_bq0024_01) ∧ (hd.heap_39 = hd.heap_39) := by
  w_top off
  k_fill
  exact ⟨rfl, rfl⟩
local macro_rules | `(tactic| k_room) => `(tactic| ktr_room)
local macro_rules | `(tactic| k_lt $h:ident) => `(tactic| (replace $h := allLt_of $h; simp only [AllLt, and_true] at $h:ident; repeat (have hA := And.left $h; replace $h := And.right $h)))
local macro_rules | `(tactic| k_ne) => `(tactic| first | with_reducible assumption | (refine Ne.symm ?_; with_reducible assumption) | (refine Nat.ne_of_lt ?_; with_reducible assumption) | (refine Nat.ne_of_gt ?_; with_reducible assumption))
local macro_rules | `(tactic| k_all) => `(tactic| ((fail_if_success (refine' List.forall_mem_cons.mpr ⟨?tailNg, ?tailNh⟩)); rename AllLt _ _ => hAL; first | (refine allLt_ne hAL ?_; (try dsimp only); first | exact Nat.le_refl _ | (refine Nat.le_of_lt ?_; with_reducible assumption)) | (clear hAL; k_all) | (refine allLt_ne hAL ?_; (try dsimp only); omega)))
local macro_rules | `(tactic| k_all) => `(tactic| ((fail_if_success (refine' List.forall_mem_cons.mpr ⟨?tailNe, ?tailNf⟩)); with_reducible assumption))
local macro_rules | `(tactic| k_all) => `(tactic| (with_reducible refine all_append ?_ ?_ <;> k_all))
local macro_rules | `(tactic| k_all) => `(tactic| first | exact List.forall_mem_nil _ | (refine' List.forall_mem_cons.mpr ⟨?caZq, ?cbZq⟩; (case caZq => k_ne); (case cbZq => k_all)))
local macro_rules | `(tactic| k_units) => `(tactic| ktr_units)
local macro_rules | `(tactic| k_enter) => `(tactic| (refine' code_defC ?k1 ?k2 ?k3 ?k4 ?k5 ?kAZq ?kFZq ?kKZq ?k6 ?k7 ?k8 ?k9 ?kBZq ?kDZq ?_ ?c2 ?c3 ?c4; (case kAZq => exact rfl); (case kFZq => exact rfl); (case kKZq => first | exact rfl | assumption); (case k1 => k_asm); (case k2 => k_asm); (case k3 => k_asm); (case k4 => k_asm); (case k5 => k_asm); (case k6 => k_is); (case k7 => k_is); (case k8 => ktr_room); (case k9 => exact BindsTo.of_eq rfl); (case kBZq => exact rfl); (case kDZq => decide +kernel); (case c2 => exact rfl); (case c3 => exact rfl); (case c4 => exact rfl); k_whole; intro g' L' h' tk' cells' FG' F' N' Y' B' X' T' l1; (try k_lt l1); k_cells Y'; (try simp only [List.cons_append, List.nil_append] at N'); (try dsimp only); (try k_lift B'); (try k_fold)))
local macro_rules | `(tactic| k_enter) => `(tactic| cell_enter)
local macro_rules | `(tactic| walk_at "subscriptTail") => `(tactic| (k_here; (with_reducible show wpAny _ _ (subscriptTail _ _ (Value.ref 79) (Value.int _ _)) _ _ _); k_dflt (refine' topItemI (ns := expL) ?FZq ?XZq ?lZq ?iZq ?aZq ?bZq ?dZq ?_; (case FZq => k_asm); (case XZq => k_asm); (case lZq => k_is); (case iZq => exact intsB_of (by decide +kernel)); (case aZq => (try simp only [expL_len]); omega); (case bZq => (try simp only [expL_len]); omega); (case dZq => (try simp only [expL_len]); omega); k_whole); intro tE))
local macro_rules | `(tactic| walk_at "subscriptTail") => `(tactic| (k_here; (with_reducible show wpAny _ _ (subscriptTail _ _ (Value.ref 80) (Value.int _ _)) _ _ _); k_dflt (refine' topItemI (ns := logL) ?FZq ?XZq ?lZq ?iZq ?aZq ?bZq ?dZq ?_; (case FZq => k_asm); (case XZq => k_asm); (case lZq => k_is); (case iZq => exact intsB_of (by decide +kernel)); (case aZq => (try simp only [logL_len]); omega); (case bZq => (try simp only [logL_len]); omega); (case dZq => (try simp only [logL_len]); omega); k_whole); intro tE))

theorem gexp_c {w : World} {n : Int} {t : Tok} {p : Program} {loose : List Str} {mean : ExcName → Option Value} {mg mb : Str → Option Value}
  {dp un : Nat} {gd : Option (List Code)} {cn : Str} {cs : Scope} {a : Addr} {ccd : Value} {cl : List (Str × Addr)} {outer : List Env} {A₀ : Around} {base h₀ : Heap} {L : Addr} {m : Str → Option Value} {s : Shared} {Q E : Value → Shared → Prop} {news : List (Addr × Obj)}
  (hB : Below A₀ base outer h₀) (hF : Fr h₀ L s.heap m) (hK : (hd.heap_39 w.params).In h₀) (hN : News h₀ L s.heap news) (hT : Top p loose mean mg mb h₀) (hk : cs.kind = .function)
  (hdp : dp + 1 < recursionLimit) (hun : un + 8 < cLine)
  (hret : ∀ t h' tk', Fr h₀ L h' m → News h₀ L h' news → Q (.int (gexpI n) t) { s with heap := h', toks := tk' }) :
  wpAny (model PySem.Challenge.pw_bq0024_01 w) (ktrTop dp un gd cn cs L a ccd cl outer) (call (.ref 94) [.int n t]) Q E s := by
  have hm : 0 ≤ n.fmod 255 ∧ n.fmod 255 < 255 := ⟨Int.fmod_nonneg_of_pos _ (by decide), Int.fmod_lt_of_pos _ (by decide)⟩
  k_steps
  all_goals cb_end hret
theorem glog_c {w : World} {n : Int} {t : Tok} {p : Program} {loose : List Str} {mean : ExcName → Option Value} {mg mb : Str → Option Value}
  {dp un : Nat} {gd : Option (List Code)} {cn : Str} {cs : Scope} {a : Addr} {ccd : Value} {cl : List (Str × Addr)} {outer : List Env} {A₀ : Around} {base h₀ : Heap} {L : Addr} {m : Str → Option Value} {s : Shared} {Q E : Value → Shared → Prop} {news : List (Addr × Obj)}
  (hB : Below A₀ base outer h₀) (hF : Fr h₀ L s.heap m) (hK : (hd.heap_39 w.params).In h₀) (hN : News h₀ L s.heap news) (hT : Top p loose mean mg mb h₀) (hk : cs.kind = .function)
  (hdp : dp + 1 < recursionLimit) (hun : un + 8 < cLine) (h1 : 1 ≤ n) (h2 : n < 256)
  (hret : ∀ t h' tk', Fr h₀ L h' m → News h₀ L h' news → Q (.int (glogI n) t) { s with heap := h', toks := tk' }) :
  wpAny (model PySem.Challenge.pw_bq0024_01 w) (ktrTop dp un gd cn cs L a ccd cl outer) (call (.ref 87) [.int n t]) Q E s := by
  k_steps
  all_goals cb_end hret
local macro_rules | `(tactic| walk_at "call ref") => `(tactic| (k_here; (with_reducible show wpAny _ _ (call (Value.ref 94) [Value.int _ _]) _ _ _); k_dflt (refine' gexp_c ?BZq ?FZq ?KZq ?NZq ?TZq ?kZq ?dZq ?uZq ?_; (case BZq => k_asm); (case FZq => k_asm); (case KZq => k_asm); (case NZq => k_asm); (case TZq => k_asm); (case kZq => first | exact rfl | assumption); (case dZq => ktr_room); (case uZq => ktr_units); k_whole); intro t9 h9 tk9 F9 N9; (try dsimp only); (try k_sweep); walk_say "CONTRACT gexp"))
local macro_rules | `(tactic| walk_at "call ref") => `(tactic| (k_here; (with_reducible show wpAny _ _ (call (Value.ref 87) [Value.int _ _]) _ _ _); k_dflt (refine' glog_c ?BZq ?FZq ?KZq ?NZq ?TZq ?kZq ?dZq ?uZq ?xZq ?yZq ?_; (case BZq => k_asm); (case FZq => k_asm); (case KZq => k_asm); (case NZq => k_asm); (case TZq => k_asm); (case kZq => first | exact rfl | assumption); (case dZq => ktr_room); (case uZq => ktr_units); (case xZq => first | assumption | omega); (case yZq => first | assumption | omega); k_whole); intro t9 h9 tk9 F9 N9; (try dsimp only); (try k_sweep); walk_say "CONTRACT glog"))
local macro_rules | `(tactic| walk_at "subscriptTail Name Slice ref ref") => `(tactic| (k_here; (with_reducible show wpAny _ _ (subscriptTail _ (PySem.Expr.Slice (some _) none none _) (Value.ref _) (Value.ref _)) _ _ _); k_dflt (refine' kmk_slice_ints ?FZq ?NZq ?lZq ?pZq ?qZq ?iZq ?mZq ?cZq ?_ ?sZq ?tZq ?zZq; (case FZq => k_asm); (case NZq => k_asm); (case lZq => kmk_list); (case pZq => kmk_part); (case qZq => kmk_part); (case iZq => assumption); (case mZq => exact kmk_from (by assumption) (by omega)); (case cZq => exact rfl); (case sZq => with_unfolding_all rfl); (case tZq => kmk_pure); (case zZq => simp only [List.size_toArray, sizeLine_eq, IntsAre.length (by assumption)]; omega)); intro D' ws' h' F' N' l1 hI' hC' hL'; clear hC' hL'; (try k_lt l1); (try k_sweep)))
local macro_rules | `(tactic| walk_at "exec Assign cons ListComp") => `(tactic| (k_here; (with_reducible show wpAny _ _ (exec (Stmt.Assign [_] (PySem.Expr.ListComp _ [⟨PySem.Expr.Tuple _ _ _, _, _, _⟩] _ _) _) _) _ _ _); k_dflt (refine assign_comp_pairs (by k_asm) (by with_unfolding_all rfl) (by with_unfolding_all rfl) (by decide) (by rfl) (by decide) (by rfl) (by rfl) (by decide) (by rfl) (by rfl) ?_)))
local macro_rules | `(tactic| walk_at "call type:zip") => `(tactic| (k_here; (with_reducible show wpAny _ _ (call (Value.type _) [Value.ref _, Value.ref _]) _ _ _); k_dflt (refine call_zip_own ?_)))
local macro_rules | `(tactic| walk_at "call type:enumerate") => `(tactic| (k_here; (with_reducible show wpAny _ _ (call (Value.type _) [Value.ref _]) _ _ _); k_dflt (refine call_enum_own ?_)))
local macro_rules | `(tactic| walk_at "pyIter ref") => `(tactic| (k_here; k_dflt (refine' owit_iter ?FZq ?XZq ?IZq ?hsZq ?hfZq ?_; (case FZq => k_asm); (case XZq => k_asm); (case IZq => k_inst); (case hsZq => k_is); (case hfZq => k_is); k_whole)))
local macro_rules | `(tactic| walk_at "OwitIt") => `(tactic| (k_here; k_dflt (refine' owit_li ?NZq ?iZq ?_; (case NZq => k_asm); (case iZq => k_mem); k_whole)))
local macro_rules | `(tactic| walk_at "call builtin:iter") => `(tactic| (k_here; (with_reducible show wpAny _ _ (call (Value.builtin "iter") [Value.ref _]) _ _ _); k_dflt (refine' call_iter_led ?FZq ?NZq ?lZq ?_; (case FZq => k_asm); (case NZq => k_asm); (case lZq => k_mem); k_whole); intro I' h' F' N' l1; (try k_lt l1); (try k_sweep)))
local macro_rules | `(tactic| walk_at "subscriptTail Name Slice ref ref") => `(tactic| (k_here; (with_reducible show wpAny _ _ (subscriptTail _ (PySem.Expr.Slice _ _ none _) (Value.ref _) (Value.ref _)) _ _ _); k_dflt (refine' sub_own_slice ?FZq ?XZq ?NZq ?IZq ?qZq ?hsZq ?hfZq ?hgZq ?_; (case FZq => k_asm); (case XZq => k_asm); (case NZq => k_asm); (case IZq => k_inst); (case qZq => k_is); (case hsZq => k_is); (case hfZq => k_is); (case hgZq => k_is); k_whole); intro sl' h' F' N' l1; (try k_lt l1); (try k_sweep)))
local macro_rules | `(tactic| walk_at "subscriptTail") => `(tactic| (k_here; (with_reducible show wpAny _ _ (subscriptTail _ (PySem.Expr.Name _ _) (Value.ref _) (Value.ref _)) _ _ _); k_dflt (refine' sub_list_slice ?FZq ?NZq ?lZq ?slZq ?paZq ?pbZq ?IZq ?mZq ?zZq ?_; (case FZq => k_asm); (case NZq => k_asm); (case lZq => k_mem); (case slZq => k_mem); (case paZq => kmk_part); (case pbZq => kmk_part); (case IZq => assumption); (case mZq => first | exact kmk_from_neg (by assumption) (by omega) | exact kmk_from (by assumption) (by omega) | exact kmk_upto (by assumption) (by omega) | exact kmk_upto_neg (by assumption) (by omega)); (case zZq => rw [sizeLine_eq]; omega); k_whole); intro D' ws' h' F' N' l1 hI'; (try k_lt l1); (try k_sweep)))
local macro_rules | `(tactic| walk_at "call builtin:list.extend") => `(tactic| (k_here; (with_reducible show wpAny _ _ (call (Value.builtin _) [Value.ref _, Value.ref _]) _ _ _); k_dflt (refine' ext_ints ?FZq ?NZq ?bZq ?UZq ?I1Zq ?I2Zq ?neZq ?h1Zq ?h2Zq ?_; (case FZq => k_asm); (case NZq => k_asm); (case bZq => k_mem); (case UZq => k_upd); (case I1Zq => assumption); (case I2Zq => assumption); (case neZq => (try simp only [List.length_drop]); omega); (case h1Zq => omega); (case h2Zq => (try simp only [List.length_drop]); omega); k_whole); intro vs' h' F' eX' N' hI'; (try rw [← eX'] at N'); clear eX'; (try k_sweep)))
local macro_rules | `(tactic| walk_at "call builtin:list.append") => `(tactic| (k_here; (with_reducible show wpAny _ _ (call (Value.builtin _) [Value.ref _, Value.int _ _]) _ _ _); k_dflt (refine' app_ints ?FZq ?NZq ?UZq ?I1Zq ?h1Zq ?_; (case FZq => k_asm); (case NZq => k_asm); (case UZq => k_upd); (case I1Zq => first | assumption | exact IntsAre.nil); (case h1Zq => first | omega | ((simp only [List.length_append, List.length_cons, List.length_nil]); omega)); k_whole); intro vs' h' F' eX' N' hI'; (try rw [← eX'] at N'); clear eX'; (try k_sweep)))
end
section
local macro_rules | `(tactic| walk_at "pad 0") => `(tactic| skip)
local macro_rules | `(tactic| walk_at "pad 1") => `(tactic| skip)
local macro_rules | `(tactic| walk_at "pad 2") => `(tactic| skip)
theorem fillNow_poly : (PySem.Challenge.rw_bq0024_01 = PySem.Challenge.rw_bq0024_01) ∧ (hd.heap_39 = hd.heap_39) := by
  w_top off
  k_fill
  exact ⟨rfl, rfl⟩

local macro_rules | `(tactic| k_room) => `(tactic| ktr_room)
local macro_rules | `(tactic| k_lt $h:ident) => `(tactic| (replace $h := allLt_of $h; simp only [AllLt, and_true] at $h:ident; repeat (have hA := And.left $h; replace $h := And.right $h)))
local macro_rules | `(tactic| k_ne) => `(tactic| first | with_reducible assumption | (refine Ne.symm ?_; with_reducible assumption) | (refine Nat.ne_of_lt ?_; with_reducible assumption) | (refine Nat.ne_of_gt ?_; with_reducible assumption))
local macro_rules | `(tactic| k_all) => `(tactic| ((fail_if_success (refine' List.forall_mem_cons.mpr ⟨?tailNg, ?tailNh⟩)); rename AllLt _ _ => hAL; first | (refine allLt_ne hAL ?_; (try dsimp only); first | exact Nat.le_refl _ | (refine Nat.le_of_lt ?_; with_reducible assumption)) | (clear hAL; k_all) | (refine allLt_ne hAL ?_; (try dsimp only); omega)))
local macro_rules | `(tactic| k_all) => `(tactic| ((fail_if_success (refine' List.forall_mem_cons.mpr ⟨?tailNe, ?tailNf⟩)); with_reducible assumption))
local macro_rules | `(tactic| k_all) => `(tactic| (with_reducible refine all_append ?_ ?_ <;> k_all))
local macro_rules | `(tactic| k_all) => `(tactic| first | exact List.forall_mem_nil _ | (refine' List.forall_mem_cons.mpr ⟨?caZq, ?cbZq⟩; (case caZq => k_ne); (case cbZq => k_all)))
local macro_rules | `(tactic| k_units) => `(tactic| ktr_units)
local macro_rules | `(tactic| k_enter) => `(tactic| (refine' code_defC ?k1 ?k2 ?k3 ?k4 ?k5 ?kAZq ?kFZq ?kKZq ?k6 ?k7 ?k8 ?k9 ?kBZq ?kDZq ?_ ?c2 ?c3 ?c4; (case kAZq => exact rfl); (case kFZq => exact rfl); (case kKZq => first | exact rfl | assumption); (case k1 => k_asm); (case k2 => k_asm); (case k3 => k_asm); (case k4 => k_asm); (case k5 => k_asm); (case k6 => k_is); (case k7 => k_is); (case k8 => ktr_room); (case k9 => exact BindsTo.of_eq rfl); (case kBZq => exact rfl); (case kDZq => decide +kernel); (case c2 => exact rfl); (case c3 => exact rfl); (case c4 => exact rfl); k_whole; intro g' L' h' tk' cells' FG' F' N' Y' B' X' T' l1; (try k_lt l1); k_cells Y'; (try simp only [List.cons_append, List.nil_append] at N'); (try dsimp only); (try k_lift B'); (try k_fold)))
local macro_rules | `(tactic| k_enter) => `(tactic| cell_enter)
local macro_rules | `(tactic| walk_at "subscriptTail") => `(tactic| (k_here; (with_reducible show wpAny _ _ (subscriptTail _ _ (Value.ref 79) (Value.int _ _)) _ _ _); k_dflt (refine' topItemI (ns := expL) ?FZq ?XZq ?lZq ?iZq ?aZq ?bZq ?dZq ?_; (case FZq => k_asm); (case XZq => k_asm); (case lZq => k_is); (case iZq => exact intsB_of (by decide +kernel)); (case aZq => (try simp only [expL_len]); omega); (case bZq => (try simp only [expL_len]); omega); (case dZq => (try simp only [expL_len]); omega); k_whole); intro tE))
local macro_rules | `(tactic| walk_at "subscriptTail") => `(tactic| (k_here; (with_reducible show wpAny _ _ (subscriptTail _ _ (Value.ref 80) (Value.int _ _)) _ _ _); k_dflt (refine' topItemI (ns := logL) ?FZq ?XZq ?lZq ?iZq ?aZq ?bZq ?dZq ?_; (case FZq => k_asm); (case XZq => k_asm); (case lZq => k_is); (case iZq => exact intsB_of (by decide +kernel)); (case aZq => (try simp only [logL_len]); omega); (case bZq => (try simp only [logL_len]); omega); (case dZq => (try simp only [logL_len]); omega); k_whole); intro tE))


local macro_rules | `(tactic| walk_at "call ref") => `(tactic| (k_here; (with_reducible show wpAny _ _ (call (Value.ref 94) [Value.int _ _]) _ _ _); k_dflt (refine' gexp_c ?BZq ?FZq ?KZq ?NZq ?TZq ?kZq ?dZq ?uZq ?_; (case BZq => k_asm); (case FZq => k_asm); (case KZq => k_asm); (case NZq => k_asm); (case TZq => k_asm); (case kZq => first | exact rfl | assumption); (case dZq => ktr_room); (case uZq => ktr_units); k_whole); intro t9 h9 tk9 F9 N9; (try dsimp only); (try k_sweep); walk_say "CONTRACT gexp"))
local macro_rules | `(tactic| walk_at "call ref") => `(tactic| (k_here; (with_reducible show wpAny _ _ (call (Value.ref 87) [Value.int _ _]) _ _ _); k_dflt (refine' glog_c ?BZq ?FZq ?KZq ?NZq ?TZq ?kZq ?dZq ?uZq ?xZq ?yZq ?_; (case BZq => k_asm); (case FZq => k_asm); (case KZq => k_asm); (case NZq => k_asm); (case TZq => k_asm); (case kZq => first | exact rfl | assumption); (case dZq => ktr_room); (case uZq => ktr_units); (case xZq => first | assumption | omega); (case yZq => first | assumption | omega); k_whole); intro t9 h9 tk9 F9 N9; (try dsimp only); (try k_sweep); walk_say "CONTRACT glog"))
local macro_rules | `(tactic| walk_at "subscriptTail Name Slice ref ref") => `(tactic| (k_here; (with_reducible show wpAny _ _ (subscriptTail _ (PySem.Expr.Slice (some _) none none _) (Value.ref _) (Value.ref _)) _ _ _); k_dflt (refine' kmk_slice_ints ?FZq ?NZq ?lZq ?pZq ?qZq ?iZq ?mZq ?cZq ?_ ?sZq ?tZq ?zZq; (case FZq => k_asm); (case NZq => k_asm); (case lZq => kmk_list); (case pZq => kmk_part); (case qZq => kmk_part); (case iZq => assumption); (case mZq => exact kmk_from (by assumption) (by omega)); (case cZq => exact rfl); (case sZq => with_unfolding_all rfl); (case tZq => kmk_pure); (case zZq => simp only [List.size_toArray, sizeLine_eq, IntsAre.length (by assumption)]; omega)); intro D' ws' h' F' N' l1 hI' hC' hL'; clear hC' hL'; (try k_lt l1); (try k_sweep)))
local macro_rules | `(tactic| walk_at "exec Assign cons ListComp") => `(tactic| (k_here; (with_reducible show wpAny _ _ (exec (Stmt.Assign [_] (PySem.Expr.ListComp _ [⟨PySem.Expr.Tuple _ _ _, _, _, _⟩] _ _) _) _) _ _ _); k_dflt (refine assign_comp_pairs (by k_asm) (by with_unfolding_all rfl) (by with_unfolding_all rfl) (by decide) (by rfl) (by decide) (by rfl) (by rfl) (by decide) (by rfl) (by rfl) ?_)))
local macro_rules | `(tactic| walk_at "call type:zip") => `(tactic| (k_here; (with_reducible show wpAny _ _ (call (Value.type _) [Value.ref _, Value.ref _]) _ _ _); k_dflt (refine call_zip_own ?_)))
local macro_rules | `(tactic| walk_at "call type:enumerate") => `(tactic| (k_here; (with_reducible show wpAny _ _ (call (Value.type _) [Value.ref _]) _ _ _); k_dflt (refine call_enum_own ?_)))
local macro_rules | `(tactic| walk_at "pyIter ref") => `(tactic| (k_here; k_dflt (refine' owit_iter ?FZq ?XZq ?IZq ?hsZq ?hfZq ?_; (case FZq => k_asm); (case XZq => k_asm); (case IZq => k_inst); (case hsZq => k_is); (case hfZq => k_is); k_whole)))
local macro_rules | `(tactic| walk_at "OwitIt") => `(tactic| (k_here; k_dflt (refine' owit_li ?NZq ?iZq ?_; (case NZq => k_asm); (case iZq => k_mem); k_whole)))
local macro_rules | `(tactic| walk_at "call builtin:iter") => `(tactic| (k_here; (with_reducible show wpAny _ _ (call (Value.builtin "iter") [Value.ref _]) _ _ _); k_dflt (refine' call_iter_led ?FZq ?NZq ?lZq ?_; (case FZq => k_asm); (case NZq => k_asm); (case lZq => k_mem); k_whole); intro I' h' F' N' l1; (try k_lt l1); (try k_sweep)))
local macro_rules | `(tactic| walk_at "subscriptTail Name Slice ref ref") => `(tactic| (k_here; (with_reducible show wpAny _ _ (subscriptTail _ (PySem.Expr.Slice _ _ none _) (Value.ref _) (Value.ref _)) _ _ _); k_dflt (refine' sub_own_slice ?FZq ?XZq ?NZq ?IZq ?qZq ?hsZq ?hfZq ?hgZq ?_; (case FZq => k_asm); (case XZq => k_asm); (case NZq => k_asm); (case IZq => k_inst); (case qZq => k_is); (case hsZq => k_is); (case hfZq => k_is); (case hgZq => k_is); k_whole); intro sl' h' F' N' l1; (try k_lt l1); (try k_sweep)))
local macro_rules | `(tactic| walk_at "subscriptTail") => `(tactic| (k_here; (with_reducible show wpAny _ _ (subscriptTail _ (PySem.Expr.Name _ _) (Value.ref _) (Value.ref _)) _ _ _); k_dflt (refine' sub_list_slice ?FZq ?NZq ?lZq ?slZq ?paZq ?pbZq ?IZq ?mZq ?zZq ?_; (case FZq => k_asm); (case NZq => k_asm); (case lZq => k_mem); (case slZq => k_mem); (case paZq => kmk_part); (case pbZq => kmk_part); (case IZq => assumption); (case mZq => first | exact kmk_from_neg (by assumption) (by omega) | exact kmk_from (by assumption) (by omega) | exact kmk_upto (by assumption) (by omega) | exact kmk_upto_neg (by assumption) (by omega)); (case zZq => rw [sizeLine_eq]; omega); k_whole); intro D' ws' h' F' N' l1 hI'; (try k_lt l1); (try k_sweep)))
local macro_rules | `(tactic| walk_at "call builtin:list.extend") => `(tactic| (k_here; (with_reducible show wpAny _ _ (call (Value.builtin _) [Value.ref _, Value.ref _]) _ _ _); k_dflt (refine' ext_ints ?FZq ?NZq ?bZq ?UZq ?I1Zq ?I2Zq ?neZq ?h1Zq ?h2Zq ?_; (case FZq => k_asm); (case NZq => k_asm); (case bZq => k_mem); (case UZq => k_upd); (case I1Zq => assumption); (case I2Zq => assumption); (case neZq => (try simp only [List.length_drop]); omega); (case h1Zq => omega); (case h2Zq => (try simp only [List.length_drop]); omega); k_whole); intro vs' h' F' eX' N' hI'; (try rw [← eX'] at N'); clear eX'; (try k_sweep)))
local macro_rules | `(tactic| walk_at "call builtin:list.append") => `(tactic| (k_here; (with_reducible show wpAny _ _ (call (Value.builtin _) [Value.ref _, Value.int _ _]) _ _ _); k_dflt (refine' app_ints ?FZq ?NZq ?UZq ?I1Zq ?h1Zq ?_; (case FZq => k_asm); (case NZq => k_asm); (case UZq => k_upd); (case I1Zq => first | assumption | exact IntsAre.nil); (case h1Zq => first | omega | ((simp only [List.length_append, List.length_cons, List.length_nil]); omega)); k_whole); intro vs' h' F' eX' N' hI'; (try rw [← eX'] at N'); clear eX'; (try k_sweep)))
section
local macro_rules | `(tactic| walk_at "pyIter ref") => `(tactic| refine pause ?_)
theorem poly_c {w : World} {p : Program} {loose : List Str} {mean : ExcName → Option Value} {mg mb : Str → Option Value}
  {dp un : Nat} {gd : Option (List Code)} {cn : Str} {cs : Scope} {a : Addr} {ccd : Value} {cl : List (Str × Addr)} {outer : List Env} {A₀ : Around} {base h₀ : Heap} {L : Addr} {m : Str → Option Value} {s : Shared} {Q E : Value → Shared → Prop}
  {news : List (Addr × Obj)} {l : Addr} {vs : List Value} {ns : List Int} {n : Nat} {sh : Int} {t : Tok} 
  (hB : Below A₀ base outer h₀) (hF : Fr h₀ L s.heap m) (hK : (hd.heap_39 w.params).In h₀) (hN : News h₀ L s.heap ((l, listOf vs.toArray n) :: news)) (hT : Top p loose mean mg mb h₀) (hk : cs.kind = .function)
  (hdp : dp + 8 < recursionLimit) (hun : un + 40 < cLine)
  (hI : IntsAre vs ns) (hpos : 0 < ns.length) (hlen : ns.length < 2^20) (hsh : 0 ≤ sh) (hsh2 : sh < 2^20)
  (hret : ∀ x dx lx vs' hs tk0 h' tk', Fr h₀ L h' m → News h₀ L h' ((x, instObj 144 dx) :: (dx, dictOf [⟨hs, .str (Str.ofString "num") tk0, .ref lx⟩] 1) :: (lx, listOf (List.toArray vs') 0) :: (l, listOf vs.toArray n) :: news) →
    IntsAre vs' (stripZ ns ++ List.replicate sh.toNat 0) → AllLt dx ((l, listOf vs.toArray n) :: news) → (@LT.lt Nat _ dx x) → (@LT.lt Nat _ x lx) → Q (.ref x) { s with heap := h', toks := tk' }) :
  wpAny (model PySem.Challenge.pw_bq0024_01 w) (ktrTop dp un gd cn cs L a ccd cl outer) (call (.ref 144) [.ref l, .int sh t]) Q E s := by
  k_steps
  refine Paused.go ?_
  (rename IsRange _ _ _ _ _ _ _ _ => rgX)
  (rename Fr _ _ _ _ => F1)
  (rename News _ _ _ _ => N1)
  with_unfolding_all refine iter_seek (n := ns.length) (fun i => ∀ j, j < i → ns.getD j 0 = 0) (fun i => i < ns.length ∧ ns.drop i = stripZ ns) ?hh rgX ?hs ?hn F1 N1 hpos ?h0 ?turn ?done ?fin
  case hh => exact rfl
  case hs => exact small_one (by omega) (by omega) (by omega) (by omega)
  case hn => rw [rangeSize_nat]; simp
  case h0 => intro j hj; exact absurd hj (Nat.not_lt_zero _)
  case done =>
    intro hz
    exact ⟨by omega, stripZ_drop ns _ (by omega) (fun j hj => hz j (by omega)) (.inr (by omega))⟩
  case turn =>
    intro i tI h tk own hi hoff hP F' N'
    clear F1 N1
    (try simp only [List.cons_append] at N')
    k_steps
    · (try dsimp only)
      refine seek_brk (by assumption) N' ⟨hi, stripZ_drop ns i hi hP (.inl ?_)⟩
      simp_all
    · refine seek_next (by assumption) N' ?_
      intro j hj
      rcases Nat.lt_or_ge j i with h1 | h1
      · exact hP j h1
      · have : j = i := by omega
        subst this
        simp_all
  case fin =>
    intro i tI h tk hP F' N'
    clear F1 N1
    k_steps
    (rename Fr h₀ L _ _ => kF)
    (rename News h₀ L _ _ => kN)
    refine hret _ _ _ _ _ _ _ _ kF (news_cons (by k_mem) kN (news_cons (by k_mem) kN (news_cons (by k_mem) kN (news_cons (by k_mem) kN (fun q hq => kN q (by k_ownIn)))))) (ints_cast (by assumption) ?_) ⟨?_, ?_⟩ ?_ ?_
    · rw [Int.zero_add, Int.toNat_natCast, hP.2, List.flatten_replicate_singleton]
    · omega
    · simp_all
    · omega
    · omega
end
local macro_rules | `(tactic| walk_at "call ref") => `(tactic| (k_here; (with_reducible show wpAny _ _ (call (Value.ref 144) [Value.ref _, Value.int _ _]) _ _ _); k_dflt (refine' poly_c ?BZq ?FZq ?KZq ?NZq ?TZq ?kZq ?dZq ?uZq ?IZq ?pZq ?lZq ?sZq ?zZq ?_; (case BZq => k_asm); (case FZq => k_asm); (case KZq => k_asm); (case NZq => refine' news_cons ?NmZq ?NnZq ?NrZq; (case NnZq => k_asm); (case NrZq => k_asm); (case NmZq => k_mem)); (case TZq => k_asm); (case kZq => first | exact rfl | assumption); (case dZq => ktr_room); (case uZq => ktr_units); (case IZq => assumption); (case pZq => first | assumption | omega | ((simp only [List.length_append, List.length_drop, List.length_map, List.length_take]); omega)); (case lZq => first | assumption | omega | ((simp only [List.length_append, List.length_drop, List.length_map, List.length_take]); omega)); (case sZq => omega); (case zZq => omega); k_whole); intro x9 d9 l9 vs9 hs9 t9 h9 tk9 F9 N9 I9 o1 o2 o3; (try simp only [AllLt, and_true] at o1); (repeat (have hA := And.left o1; replace o1 := And.right o1)); (try simp only [Int.toNat_zero, List.replicate_zero, List.append_nil] at I9); (try dsimp only); (try k_sweep); walk_say "CONTRACT poly"))
end
section
theorem fillNow_mod : (PySem.Challenge.rw_bq0024_01 = PySem.Challenge.rw_bq0024_01) ∧ (hd.heap_39 = hd.heap_39) := by
  w_top off
  k_fill
  exact ⟨rfl, rfl⟩

local macro_rules | `(tactic| k_room) => `(tactic| ktr_room)
local macro_rules | `(tactic| k_lt $h:ident) => `(tactic| (replace $h := allLt_of $h; simp only [AllLt, and_true] at $h:ident; repeat (have hA := And.left $h; replace $h := And.right $h)))
local macro_rules | `(tactic| k_ne) => `(tactic| first | with_reducible assumption | (refine Ne.symm ?_; with_reducible assumption) | (refine Nat.ne_of_lt ?_; with_reducible assumption) | (refine Nat.ne_of_gt ?_; with_reducible assumption))
local macro_rules | `(tactic| k_all) => `(tactic| ((fail_if_success (refine' List.forall_mem_cons.mpr ⟨?tailNg, ?tailNh⟩)); rename AllLt _ _ => hAL; first | (refine allLt_ne hAL ?_; (try dsimp only); first | exact Nat.le_refl _ | (refine Nat.le_of_lt ?_; with_reducible assumption)) | (clear hAL; k_all) | (refine allLt_ne hAL ?_; (try dsimp only); omega)))
local macro_rules | `(tactic| k_all) => `(tactic| ((fail_if_success (refine' List.forall_mem_cons.mpr ⟨?tailNe, ?tailNf⟩)); with_reducible assumption))
local macro_rules | `(tactic| k_all) => `(tactic| (with_reducible refine all_append ?_ ?_ <;> k_all))
local macro_rules | `(tactic| k_all) => `(tactic| first | exact List.forall_mem_nil _ | (refine' List.forall_mem_cons.mpr ⟨?caZq, ?cbZq⟩; (case caZq => k_ne); (case cbZq => k_all)))
local macro_rules | `(tactic| k_units) => `(tactic| ktr_units)
local macro_rules | `(tactic| k_enter) => `(tactic| (refine' code_defC ?k1 ?k2 ?k3 ?k4 ?k5 ?kAZq ?kFZq ?kKZq ?k6 ?k7 ?k8 ?k9 ?kBZq ?kDZq ?_ ?c2 ?c3 ?c4; (case kAZq => exact rfl); (case kFZq => exact rfl); (case kKZq => first | exact rfl | assumption); (case k1 => k_asm); (case k2 => k_asm); (case k3 => k_asm); (case k4 => k_asm); (case k5 => k_asm); (case k6 => k_is); (case k7 => k_is); (case k8 => ktr_room); (case k9 => exact BindsTo.of_eq rfl); (case kBZq => exact rfl); (case kDZq => decide +kernel); (case c2 => exact rfl); (case c3 => exact rfl); (case c4 => exact rfl); k_whole; intro g' L' h' tk' cells' FG' F' N' Y' B' X' T' l1; (try k_lt l1); k_cells Y'; (try simp only [List.cons_append, List.nil_append] at N'); (try dsimp only); (try k_lift B'); (try k_fold)))
local macro_rules | `(tactic| k_enter) => `(tactic| cell_enter)
local macro_rules | `(tactic| walk_at "subscriptTail") => `(tactic| (k_here; (with_reducible show wpAny _ _ (subscriptTail _ _ (Value.ref 79) (Value.int _ _)) _ _ _); k_dflt (refine' topItemI (ns := expL) ?FZq ?XZq ?lZq ?iZq ?aZq ?bZq ?dZq ?_; (case FZq => k_asm); (case XZq => k_asm); (case lZq => k_is); (case iZq => exact intsB_of (by decide +kernel)); (case aZq => (try simp only [expL_len]); omega); (case bZq => (try simp only [expL_len]); omega); (case dZq => (try simp only [expL_len]); omega); k_whole); intro tE))
local macro_rules | `(tactic| walk_at "subscriptTail") => `(tactic| (k_here; (with_reducible show wpAny _ _ (subscriptTail _ _ (Value.ref 80) (Value.int _ _)) _ _ _); k_dflt (refine' topItemI (ns := logL) ?FZq ?XZq ?lZq ?iZq ?aZq ?bZq ?dZq ?_; (case FZq => k_asm); (case XZq => k_asm); (case lZq => k_is); (case iZq => exact intsB_of (by decide +kernel)); (case aZq => (try simp only [logL_len]); omega); (case bZq => (try simp only [logL_len]); omega); (case dZq => (try simp only [logL_len]); omega); k_whole); intro tE))


local macro_rules | `(tactic| walk_at "call ref") => `(tactic| (k_here; (with_reducible show wpAny _ _ (call (Value.ref 94) [Value.int _ _]) _ _ _); k_dflt (refine' gexp_c ?BZq ?FZq ?KZq ?NZq ?TZq ?kZq ?dZq ?uZq ?_; (case BZq => k_asm); (case FZq => k_asm); (case KZq => k_asm); (case NZq => k_asm); (case TZq => k_asm); (case kZq => first | exact rfl | assumption); (case dZq => ktr_room); (case uZq => ktr_units); k_whole); intro t9 h9 tk9 F9 N9; (try dsimp only); (try k_sweep); walk_say "CONTRACT gexp"))
local macro_rules | `(tactic| walk_at "call ref") => `(tactic| (k_here; (with_reducible show wpAny _ _ (call (Value.ref 87) [Value.int _ _]) _ _ _); k_dflt (refine' glog_c ?BZq ?FZq ?KZq ?NZq ?TZq ?kZq ?dZq ?uZq ?xZq ?yZq ?_; (case BZq => k_asm); (case FZq => k_asm); (case KZq => k_asm); (case NZq => k_asm); (case TZq => k_asm); (case kZq => first | exact rfl | assumption); (case dZq => ktr_room); (case uZq => ktr_units); (case xZq => first | assumption | omega); (case yZq => first | assumption | omega); k_whole); intro t9 h9 tk9 F9 N9; (try dsimp only); (try k_sweep); walk_say "CONTRACT glog"))
local macro_rules | `(tactic| walk_at "subscriptTail Name Slice ref ref") => `(tactic| (k_here; (with_reducible show wpAny _ _ (subscriptTail _ (PySem.Expr.Slice (some _) none none _) (Value.ref _) (Value.ref _)) _ _ _); k_dflt (refine' kmk_slice_ints ?FZq ?NZq ?lZq ?pZq ?qZq ?iZq ?mZq ?cZq ?_ ?sZq ?tZq ?zZq; (case FZq => k_asm); (case NZq => k_asm); (case lZq => kmk_list); (case pZq => kmk_part); (case qZq => kmk_part); (case iZq => assumption); (case mZq => exact kmk_from (by assumption) (by omega)); (case cZq => exact rfl); (case sZq => with_unfolding_all rfl); (case tZq => kmk_pure); (case zZq => simp only [List.size_toArray, sizeLine_eq, IntsAre.length (by assumption)]; omega)); intro D' ws' h' F' N' l1 hI' hC' hL'; clear hC' hL'; (try k_lt l1); (try k_sweep)))
local macro_rules | `(tactic| walk_at "exec Assign cons ListComp") => `(tactic| (k_here; (with_reducible show wpAny _ _ (exec (Stmt.Assign [_] (PySem.Expr.ListComp _ [⟨PySem.Expr.Tuple _ _ _, _, _, _⟩] _ _) _) _) _ _ _); k_dflt (refine assign_comp_pairs (by k_asm) (by with_unfolding_all rfl) (by with_unfolding_all rfl) (by decide) (by rfl) (by decide) (by rfl) (by rfl) (by decide) (by rfl) (by rfl) ?_)))
local macro_rules | `(tactic| walk_at "call type:zip") => `(tactic| (k_here; (with_reducible show wpAny _ _ (call (Value.type _) [Value.ref _, Value.ref _]) _ _ _); k_dflt (refine call_zip_own ?_)))
local macro_rules | `(tactic| walk_at "call type:enumerate") => `(tactic| (k_here; (with_reducible show wpAny _ _ (call (Value.type _) [Value.ref _]) _ _ _); k_dflt (refine call_enum_own ?_)))
local macro_rules | `(tactic| walk_at "pyIter ref") => `(tactic| (k_here; k_dflt (refine' owit_iter ?FZq ?XZq ?IZq ?hsZq ?hfZq ?_; (case FZq => k_asm); (case XZq => k_asm); (case IZq => k_inst); (case hsZq => k_is); (case hfZq => k_is); k_whole)))
local macro_rules | `(tactic| walk_at "OwitIt") => `(tactic| (k_here; k_dflt (refine' owit_li ?NZq ?iZq ?_; (case NZq => k_asm); (case iZq => k_mem); k_whole)))
local macro_rules | `(tactic| walk_at "call builtin:iter") => `(tactic| (k_here; (with_reducible show wpAny _ _ (call (Value.builtin "iter") [Value.ref _]) _ _ _); k_dflt (refine' call_iter_led ?FZq ?NZq ?lZq ?_; (case FZq => k_asm); (case NZq => k_asm); (case lZq => k_mem); k_whole); intro I' h' F' N' l1; (try k_lt l1); (try k_sweep)))
local macro_rules | `(tactic| walk_at "subscriptTail Name Slice ref ref") => `(tactic| (k_here; (with_reducible show wpAny _ _ (subscriptTail _ (PySem.Expr.Slice _ _ none _) (Value.ref _) (Value.ref _)) _ _ _); k_dflt (refine' sub_own_slice ?FZq ?XZq ?NZq ?IZq ?qZq ?hsZq ?hfZq ?hgZq ?_; (case FZq => k_asm); (case XZq => k_asm); (case NZq => k_asm); (case IZq => k_inst); (case qZq => k_is); (case hsZq => k_is); (case hfZq => k_is); (case hgZq => k_is); k_whole); intro sl' h' F' N' l1; (try k_lt l1); (try k_sweep)))
local macro_rules | `(tactic| walk_at "subscriptTail") => `(tactic| (k_here; (with_reducible show wpAny _ _ (subscriptTail _ (PySem.Expr.Name _ _) (Value.ref _) (Value.ref _)) _ _ _); k_dflt (refine' sub_list_slice ?FZq ?NZq ?lZq ?slZq ?paZq ?pbZq ?IZq ?mZq ?zZq ?_; (case FZq => k_asm); (case NZq => k_asm); (case lZq => k_mem); (case slZq => k_mem); (case paZq => kmk_part); (case pbZq => kmk_part); (case IZq => assumption); (case mZq => first | exact kmk_from_neg (by assumption) (by omega) | exact kmk_from (by assumption) (by omega) | exact kmk_upto (by assumption) (by omega) | exact kmk_upto_neg (by assumption) (by omega)); (case zZq => rw [sizeLine_eq]; omega); k_whole); intro D' ws' h' F' N' l1 hI'; (try k_lt l1); (try k_sweep)))
local macro_rules | `(tactic| walk_at "call builtin:list.extend") => `(tactic| (k_here; (with_reducible show wpAny _ _ (call (Value.builtin _) [Value.ref _, Value.ref _]) _ _ _); k_dflt (refine' ext_ints ?FZq ?NZq ?bZq ?UZq ?I1Zq ?I2Zq ?neZq ?h1Zq ?h2Zq ?_; (case FZq => k_asm); (case NZq => k_asm); (case bZq => k_mem); (case UZq => k_upd); (case I1Zq => assumption); (case I2Zq => assumption); (case neZq => (try simp only [List.length_drop]); omega); (case h1Zq => omega); (case h2Zq => (try simp only [List.length_drop]); omega); k_whole); intro vs' h' F' eX' N' hI'; (try rw [← eX'] at N'); clear eX'; (try k_sweep)))
local macro_rules | `(tactic| walk_at "call builtin:list.append") => `(tactic| (k_here; (with_reducible show wpAny _ _ (call (Value.builtin _) [Value.ref _, Value.int _ _]) _ _ _); k_dflt (refine' app_ints ?FZq ?NZq ?UZq ?I1Zq ?h1Zq ?_; (case FZq => k_asm); (case NZq => k_asm); (case UZq => k_upd); (case I1Zq => first | assumption | exact IntsAre.nil); (case h1Zq => first | omega | ((simp only [List.length_append, List.length_cons, List.length_nil]); omega)); k_whole); intro vs' h' F' eX' N' hI'; (try rw [← eX'] at N'); clear eX'; (try k_sweep)))

local macro_rules | `(tactic| walk_at "call ref") => `(tactic| (k_here; (with_reducible show wpAny _ _ (call (Value.ref 144) [Value.ref _, Value.int _ _]) _ _ _); k_dflt (refine' poly_c ?BZq ?FZq ?KZq ?NZq ?TZq ?kZq ?dZq ?uZq ?IZq ?pZq ?lZq ?sZq ?zZq ?_; (case BZq => k_asm); (case FZq => k_asm); (case KZq => k_asm); (case NZq => refine' news_cons ?NmZq ?NnZq ?NrZq; (case NnZq => k_asm); (case NrZq => k_asm); (case NmZq => k_mem)); (case TZq => k_asm); (case kZq => first | exact rfl | assumption); (case dZq => ktr_room); (case uZq => ktr_units); (case IZq => assumption); (case pZq => first | assumption | omega | ((simp only [List.length_append, List.length_drop, List.length_map, List.length_take]); omega)); (case lZq => first | assumption | omega | ((simp only [List.length_append, List.length_drop, List.length_map, List.length_take]); omega)); (case sZq => omega); (case zZq => omega); k_whole); intro x9 d9 l9 vs9 hs9 t9 h9 tk9 F9 N9 I9 o1 o2 o3; (try simp only [AllLt, and_true] at o1); (repeat (have hA := And.left o1; replace o1 := And.right o1)); (try simp only [Int.toNat_zero, List.replicate_zero, List.append_nil] at I9); (try dsimp only); (try k_sweep); walk_say "CONTRACT poly"))
/-- what % of two polynomials does (fuel k: the first is no longer than k) -/
def ModC (k : Nat) : Prop := ∀ {w : World} {p : Program} {loose : List Str} {mean : ExcName → Option Value} {mg mb : Str → Option Value}
  {dp un : Nat} {gd : Option (List Code)} {cn : Str} {cs : Scope} {a : Addr} {ccd : Value} {cl : List (Str × Addr)} {outer : List Env} {A₀ : Around} {base h₀ : Heap} {L : Addr} {m : Str → Option Value} {s : Shared} {Q E : Value → Shared → Prop}
  {news : List (Addr × Obj)} {x1 d1 l1 x2 d2 l2 : Addr} {vs1 vs2 : List Value} {ns1 ns2 : List Int} {n1 n2 k1 k2 : Nat} {hs1 hs2 : Int} {t1 t2 : Tok}
  (_hB : Below A₀ base outer h₀) (_hF : Fr h₀ L s.heap m) (_hK : (hd.heap_39 w.params).In h₀)
  (_hN : News h₀ L s.heap ((x1, instObj 144 d1) :: (d1, dictOf [⟨hs1, .str (Str.ofString "num") t1, .ref l1⟩] k1) :: (l1, listOf vs1.toArray n1) :: (x2, instObj 144 d2) :: (d2, dictOf [⟨hs2, .str (Str.ofString "num") t2, .ref l2⟩] k2) :: (l2, listOf vs2.toArray n2) :: news)) (_hT : Top p loose mean mg mb h₀) (_hk : cs.kind = .function)
  (_hI1 : IntsAre vs1 ns1) (_hI2 : IntsAre vs2 ns2) (_hl1 : ns1.length < 2^20) (_hl2 : ns2.length < 2^20) (_h2 : 2 ≤ ns2.length) (_hp1 : 0 < ns1.length) (_hlk : ns1.length ≤ k)
  (_hr1 : ∀ x ∈ ns1, 0 ≤ x ∧ x < 256) (_hr2 : ∀ x ∈ ns2, 1 ≤ x ∧ x < 256) (_hz : ns2.length ≤ ns1.length → 1 ≤ ns1.getD 0 0)
  (_hdp : dp + 2 * k + 8 < recursionLimit) (_hun : un + 12 * k + 60 < cLine)
  (_hret : ∀ xr dr lr vsr hs tk0 kr nr h' tk', Fr h₀ L h' m → News h₀ L h' ((xr, instObj 144 dr) :: (dr, dictOf [⟨hs, .str (Str.ofString "num") tk0, .ref lr⟩] kr) :: (lr, listOf (List.toArray vsr) nr) :: (x1, instObj 144 d1) :: (d1, dictOf [⟨hs1, .str (Str.ofString "num") t1, .ref l1⟩] k1) :: (l1, listOf vs1.toArray n1) :: (x2, instObj 144 d2) :: (d2, dictOf [⟨hs2, .str (Str.ofString "num") t2, .ref l2⟩] k2) :: (l2, listOf vs2.toArray n2) :: news) →
    IntsAre vsr (polyModF k ns1 ns2) → Q (.ref xr) { s with heap := h', toks := tk' }),
  wpAny (model PySem.Challenge.pw_bq0024_01 w) (ktrTop dp un gd cn cs L a ccd cl outer) (call (.ref 141) [.ref x1, .ref x2]) Q E s
theorem mod_rec {k : Nat} (IH : 0 < k → ModC (k - 1)) {w : World} {p : Program} {loose : List Str} {mean : ExcName → Option Value} {mg mb : Str → Option Value}
  {dp un : Nat} {gd : Option (List Code)} {cn : Str} {cs : Scope} {a : Addr} {ccd : Value} {cl : List (Str × Addr)} {outer : List Env} {A₀ : Around} {base h₀ : Heap} {L : Addr} {m : Str → Option Value} {s : Shared} {Q E : Value → Shared → Prop}
  {big : List (Addr × Obj)} {x9 d9 l9 x2 d2 l2 : Addr} {vs9 vs2 : List Value} {ms ns1 ns2 : List Int} {n9 n2 k9 k2 : Nat} {hs9 hs2 : Int} {t9 t2 : Tok}
  (hB : Below A₀ base outer h₀) (hF : Fr h₀ L s.heap m) (hK : (hd.heap_39 w.params).In h₀)
  (hN : News h₀ L s.heap ((x9, instObj 144 d9) :: (d9, dictOf [⟨hs9, .str (Str.ofString "num") t9, .ref l9⟩] k9) :: (l9, listOf vs9.toArray n9) :: big)) (hT : Top p loose mean mg mb h₀) (hk : cs.kind = .function)
  (m1 : (x2, instObj 144 d2) ∈ big) (m2 : (d2, dictOf [⟨hs2, .str (Str.ofString "num") t2, .ref l2⟩] k2) ∈ big) (m3 : (l2, listOf vs2.toArray n2) ∈ big)
  (hI9 : IntsAre vs9 (stripZ ms)) (hI2 : IntsAre vs2 ns2) (hms : ms = modStep ns1 ns2) (hl1 : ns1.length < 2^20) (hl2 : ns2.length < 2^20) (h2 : 2 ≤ ns2.length) (hge : ¬ ns1.length < ns2.length) (hlk : ns1.length ≤ k)
  (hr1 : ∀ x ∈ ns1, 0 ≤ x ∧ x < 256) (hr2 : ∀ x ∈ ns2, 1 ≤ x ∧ x < 256) (hz : 1 ≤ ns1.getD 0 0) (hz' : ns1.getD 0 0 < 256)
  (hdp : dp + 2 * (k - 1) + 8 < recursionLimit) (hun : un + 12 * (k - 1) + 60 < cLine)
  (hret : ∀ xr dr lr vsr hs tk0 kr nr h' tk', Fr h₀ L h' m → News h₀ L h' ((xr, instObj 144 dr) :: (dr, dictOf [⟨hs, .str (Str.ofString "num") tk0, .ref lr⟩] kr) :: (lr, listOf (List.toArray vsr) nr) :: big) →
    IntsAre vsr (polyModF k ns1 ns2) → Q (.ref xr) { s with heap := h', toks := tk' }) :
  wpAny (model PySem.Challenge.pw_bq0024_01 w) (ktrTop dp un gd cn cs L a ccd cl outer) (call (.ref 141) [.ref x9, .ref x2]) Q E s := by
  have h0 : 0 < k := by omega
  have M : ModC (k - 1) := IH h0
  unfold ModC at M
  have hml : (modStep ns1 ns2).length = ns1.length := modStep_length (by omega)
  have hsl : (stripZ (modStep ns1 ns2)).length < (modStep ns1 ns2).length := stripZ_lt (by omega) (modStep_head hz hz' (by omega) (by omega))
  have hsp := stripZ_pos (modStep ns1 ns2) (by omega)
  subst hms
  have N3 : ∀ q ∈ big, q ∈ ((x9, instObj 144 d9) :: (d9, dictOf [⟨hs9, .str (Str.ofString "num") t9, .ref l9⟩] k9) :: (l9, listOf vs9.toArray n9) :: big) := fun q hq => .tail _ (.tail _ (.tail _ hq))
  refine M (vs1 := vs9) (vs2 := vs2) (news := big) (d1 := d9) (l1 := l9) (d2 := d2) (l2 := l2) (n1 := n9) (n2 := n2) (k1 := k9) (k2 := k2) (hs1 := hs9) (hs2 := hs2) (t1 := t9) (t2 := t2) hB hF hK (fun q hq => ?_) hT hk hI9 hI2 (by omega) hl2 h2 hsp (by omega)
    (fun x hx => modStep_byte hr1 x (stripZ_mem _ x hx)) hr2 (fun hl => ?_) hdp hun (fun xr dr lr vsr hs tk0 kr nr h' tk' F' N' I' => hret xr dr lr vsr hs tk0 kr nr h' tk' F' (fun q hq => N' q ?_) ?_)
  · simp only [List.mem_cons] at hq
    rcases hq with rfl | rfl | rfl | rfl | rfl | rfl | hq
    · exact hN _ (.head _)
    · exact hN _ (.tail _ (.head _))
    · exact hN _ (.tail _ (.tail _ (.head _)))
    · exact hN _ (N3 _ m1)
    · exact hN _ (N3 _ m2)
    · exact hN _ (N3 _ m3)
    · exact hN _ (N3 _ hq)
  · have hne := stripZ_head (modStep ns1 ns2) (by omega)
    have hb := (getD_all (P := fun x => 0 ≤ x ∧ x < 256) hsp (fun x hx => modStep_byte hr1 x (stripZ_mem _ x hx))).1
    omega
  · simp only [List.mem_cons] at hq ⊢
    rcases hq with h | h | h | h
    · exact .inl h
    · exact .inr (.inl h)
    · exact .inr (.inr (.inl h))
    · exact .inr (.inr (.inr (.inr (.inr (.inr (.inr (.inr (.inr h))))))))
  · rw [polyModF_step h0 (by omega)]
    exact I'
section
local macro_rules | `(tactic| walk_at "call ref") => `(tactic| (k_here; (with_reducible show wpAny _ _ (call (Value.ref 141) [Value.ref _, Value.ref _]) (PySem.W.CmpBack _) _ _); refine pause ?_))
theorem mod_step {k : Nat} (IH : 0 < k → ModC (k - 1)) : ModC k := by
  unfold ModC
  intro w p loose mean mg mb dp un gd cn cs a ccd cl outer A₀ base h₀ L m s Q E news x1 d1 l1 x2 d2 l2 vs1 vs2 ns1 ns2 n1 n2 k1 k2 hs1 hs2 t1 t2 hB hF hK hN hT hk hI1 hI2 hl1 hl2 h2 hp1 hlk hr1 hr2 hz hdp hun hret
  walk1
  by_cases hlt : ns1.length < ns2.length
  · clear hz
    k_steps
    (rename News h₀ L _ _ => kN)
    exact hret _ _ _ _ _ _ _ _ _ _ (by k_asm) (news_cons (by k_mem) kN (news_cons (by k_mem) kN (news_cons (by k_mem) kN (fun q hq => kN q (.tail _ hq))))) (by rw [polyModF_short hlt]; exact hI1)
  · have hz1 : 1 ≤ ns1.getD 0 0 := hz (by omega)
    have hz2 : ns1.getD 0 0 < 256 := (getD_all (P := fun x => 0 ≤ x ∧ x < 256) hp1 hr1).2
    have hz3 : 1 ≤ ns2.getD 0 0 := (getD_all (P := fun x => 1 ≤ x ∧ x < 256) (by omega) hr2).1
    have hz4 : ns2.getD 0 0 < 256 := (getD_all (P := fun x => 1 ≤ x ∧ x < 256) (by omega) hr2).2
    clear hz
    k_steps
    (rename Fr _ _ _ _ => F1)
    (rename News _ _ _ _ => N1)
    refine ⟨_, _, rfl, rfl, src_zip (fun a b => Builtin.bitXor a (gexpI (glogI b + (glogI (ns1.getD 0 0) - glogI (ns2.getD 0 0))))) rfl F1 N1 (by k_mem) (by k_mem) (fun p hp => .tail _ (.tail _ hp)) (by k_mem) (by k_mem) ?h12 ?h1 ?h2 hI1 hI2 ?sz ?turn ?fin⟩
    case h12 => exact neN (Nat.ne_of_lt (by assumption))
    case h1 => k_all
    case h2 => k_all
    case sz => rw [sizeLine_eq]; omega
    case turn =>
      intro a b tA tB C oC D ys own m₂ h tk E' ha hb hC hx hx₂ F' N'
      clear F1 N1
      have hb1 := hr2 b hb
      (try simp only [List.cons_append] at N')
      k_steps
      exact ElEnd.intro (by assumption) (by assumption) (fun _ h => h) ⟨_, rfl⟩
    case fin =>
      intro D h tk ys F' N' l1 hIy
      clear F1 N1
      k_lt l1
      obtain ⟨zs, hzs⟩ : ∃ zs, zs = List.zipWith (fun a b => Builtin.bitXor a (gexpI (glogI b + (glogI (ns1.getD 0 0) - glogI (ns2.getD 0 0))))) ns1 ns2 := ⟨_, rfl⟩
      rw [← hzs] at hIy
      have hzl : zs.length = ns2.length := by rw [hzs, List.length_zipWith]; omega
      k_steps
      all_goals refine Paused.go ?_
      · refine mod_rec IH (by k_asm) (by k_asm) (by k_asm) (by k_asm) (by k_asm) rfl (by k_mem) (by k_mem) (by k_mem) (by assumption) hI2 ?e1 hl1 hl2 h2 hlt hlk hr1 hr2 hz1 hz2 ?d1 ?u1 ?r1
        case e1 =>
          rw [hzs]
          unfold modStep
          congr 2
          omega
        case d1 => ktr_room
        case u1 => ktr_units
        case r1 =>
          intro xr dr lr vsr hs tk0 kr nr h' tk' F' N' I'
          dsimp only [PySem.W.CmpBack]
          k_steps
          (rename News h₀ L _ _ => kN)
          exact hret _ _ _ _ _ _ _ _ _ _ (by k_asm) (news_cons (by k_mem) kN (news_cons (by k_mem) kN (news_cons (by k_mem) kN (news_cons (by k_mem) kN (news_cons (by k_mem) kN (news_cons (by k_mem) kN (news_cons (by k_mem) kN (news_cons (by k_mem) kN (news_cons (by k_mem) kN (fun q hq => kN q (by k_ownIn))))))))))) I'
      · refine mod_rec IH (by k_asm) (by k_asm) (by k_asm) (by k_asm) (by k_asm) rfl (by k_mem) (by k_mem) (by k_mem) (by assumption) hI2 ?e1 hl1 hl2 h2 hlt hlk hr1 hr2 hz1 hz2 ?d1 ?u1 ?r1
        case e1 =>
          rw [hzs]
          unfold modStep
          rw [List.drop_eq_nil_of_le (by omega), List.append_nil]
        case d1 => ktr_room
        case u1 => ktr_units
        case r1 =>
          intro xr dr lr vsr hs tk0 kr nr h' tk' F' N' I'
          dsimp only [PySem.W.CmpBack]
          k_steps
          (rename News h₀ L _ _ => kN)
          exact hret _ _ _ _ _ _ _ _ _ _ (by k_asm) (news_cons (by k_mem) kN (news_cons (by k_mem) kN (news_cons (by k_mem) kN (news_cons (by k_mem) kN (news_cons (by k_mem) kN (news_cons (by k_mem) kN (news_cons (by k_mem) kN (news_cons (by k_mem) kN (news_cons (by k_mem) kN (fun q hq => kN q (by k_ownIn))))))))))) I'
end
theorem mod_c : ∀ k : Nat, ModC k := by
  intro k
  induction k with
  | zero => exact mod_step (fun h => absurd h (Nat.lt_irrefl _))
  | succ k ih => exact mod_step (fun _ => ih)
end
section
local macro_rules | `(tactic| walk_at "pad 0") => `(tactic| skip)
local macro_rules | `(tactic| walk_at "pad 1") => `(tactic| skip)
theorem fillNow_put : (PySem.Challenge.rw_bq0024_01 = PySem.Challenge.rw_bq0024_01) ∧ (hd.heap_39 = hd.heap_39) := by
  w_top off
  k_fill
  exact ⟨rfl, rfl⟩

local macro_rules | `(tactic| k_room) => `(tactic| ktr_room)
local macro_rules | `(tactic| k_lt $h:ident) => `(tactic| (replace $h := allLt_of $h; simp only [AllLt, and_true] at $h:ident; repeat (have hA := And.left $h; replace $h := And.right $h)))
local macro_rules | `(tactic| k_ne) => `(tactic| first | with_reducible assumption | (refine Ne.symm ?_; with_reducible assumption) | (refine Nat.ne_of_lt ?_; with_reducible assumption) | (refine Nat.ne_of_gt ?_; with_reducible assumption))
local macro_rules | `(tactic| k_all) => `(tactic| ((fail_if_success (refine' List.forall_mem_cons.mpr ⟨?tailNg, ?tailNh⟩)); rename AllLt _ _ => hAL; first | (refine allLt_ne hAL ?_; (try dsimp only); first | exact Nat.le_refl _ | (refine Nat.le_of_lt ?_; with_reducible assumption)) | (clear hAL; k_all) | (refine allLt_ne hAL ?_; (try dsimp only); omega)))
local macro_rules | `(tactic| k_all) => `(tactic| ((fail_if_success (refine' List.forall_mem_cons.mpr ⟨?tailNe, ?tailNf⟩)); with_reducible assumption))
local macro_rules | `(tactic| k_all) => `(tactic| (with_reducible refine all_append ?_ ?_ <;> k_all))
local macro_rules | `(tactic| k_all) => `(tactic| first | exact List.forall_mem_nil _ | (refine' List.forall_mem_cons.mpr ⟨?caZq, ?cbZq⟩; (case caZq => k_ne); (case cbZq => k_all)))
local macro_rules | `(tactic| k_units) => `(tactic| ktr_units)
local macro_rules | `(tactic| k_enter) => `(tactic| (refine' code_defC ?k1 ?k2 ?k3 ?k4 ?k5 ?kAZq ?kFZq ?kKZq ?k6 ?k7 ?k8 ?k9 ?kBZq ?kDZq ?_ ?c2 ?c3 ?c4; (case kAZq => exact rfl); (case kFZq => exact rfl); (case kKZq => first | exact rfl | assumption); (case k1 => k_asm); (case k2 => k_asm); (case k3 => k_asm); (case k4 => k_asm); (case k5 => k_asm); (case k6 => k_is); (case k7 => k_is); (case k8 => ktr_room); (case k9 => exact BindsTo.of_eq rfl); (case kBZq => exact rfl); (case kDZq => decide +kernel); (case c2 => exact rfl); (case c3 => exact rfl); (case c4 => exact rfl); k_whole; intro g' L' h' tk' cells' FG' F' N' Y' B' X' T' l1; (try k_lt l1); k_cells Y'; (try simp only [List.cons_append, List.nil_append] at N'); (try dsimp only); (try k_lift B'); (try k_fold)))
local macro_rules | `(tactic| k_enter) => `(tactic| cell_enter)
local macro_rules | `(tactic| walk_at "subscriptTail") => `(tactic| (k_here; (with_reducible show wpAny _ _ (subscriptTail _ _ (Value.ref 79) (Value.int _ _)) _ _ _); k_dflt (refine' topItemI (ns := expL) ?FZq ?XZq ?lZq ?iZq ?aZq ?bZq ?dZq ?_; (case FZq => k_asm); (case XZq => k_asm); (case lZq => k_is); (case iZq => exact intsB_of (by decide +kernel)); (case aZq => (try simp only [expL_len]); omega); (case bZq => (try simp only [expL_len]); omega); (case dZq => (try simp only [expL_len]); omega); k_whole); intro tE))
local macro_rules | `(tactic| walk_at "subscriptTail") => `(tactic| (k_here; (with_reducible show wpAny _ _ (subscriptTail _ _ (Value.ref 80) (Value.int _ _)) _ _ _); k_dflt (refine' topItemI (ns := logL) ?FZq ?XZq ?lZq ?iZq ?aZq ?bZq ?dZq ?_; (case FZq => k_asm); (case XZq => k_asm); (case lZq => k_is); (case iZq => exact intsB_of (by decide +kernel)); (case aZq => (try simp only [logL_len]); omega); (case bZq => (try simp only [logL_len]); omega); (case dZq => (try simp only [logL_len]); omega); k_whole); intro tE))


local macro_rules | `(tactic| walk_at "call ref") => `(tactic| (k_here; (with_reducible show wpAny _ _ (call (Value.ref 94) [Value.int _ _]) _ _ _); k_dflt (refine' gexp_c ?BZq ?FZq ?KZq ?NZq ?TZq ?kZq ?dZq ?uZq ?_; (case BZq => k_asm); (case FZq => k_asm); (case KZq => k_asm); (case NZq => k_asm); (case TZq => k_asm); (case kZq => first | exact rfl | assumption); (case dZq => ktr_room); (case uZq => ktr_units); k_whole); intro t9 h9 tk9 F9 N9; (try dsimp only); (try k_sweep); walk_say "CONTRACT gexp"))
local macro_rules | `(tactic| walk_at "call ref") => `(tactic| (k_here; (with_reducible show wpAny _ _ (call (Value.ref 87) [Value.int _ _]) _ _ _); k_dflt (refine' glog_c ?BZq ?FZq ?KZq ?NZq ?TZq ?kZq ?dZq ?uZq ?xZq ?yZq ?_; (case BZq => k_asm); (case FZq => k_asm); (case KZq => k_asm); (case NZq => k_asm); (case TZq => k_asm); (case kZq => first | exact rfl | assumption); (case dZq => ktr_room); (case uZq => ktr_units); (case xZq => first | assumption | omega); (case yZq => first | assumption | omega); k_whole); intro t9 h9 tk9 F9 N9; (try dsimp only); (try k_sweep); walk_say "CONTRACT glog"))
local macro_rules | `(tactic| walk_at "subscriptTail Name Slice ref ref") => `(tactic| (k_here; (with_reducible show wpAny _ _ (subscriptTail _ (PySem.Expr.Slice (some _) none none _) (Value.ref _) (Value.ref _)) _ _ _); k_dflt (refine' kmk_slice_ints ?FZq ?NZq ?lZq ?pZq ?qZq ?iZq ?mZq ?cZq ?_ ?sZq ?tZq ?zZq; (case FZq => k_asm); (case NZq => k_asm); (case lZq => kmk_list); (case pZq => kmk_part); (case qZq => kmk_part); (case iZq => assumption); (case mZq => exact kmk_from (by assumption) (by omega)); (case cZq => exact rfl); (case sZq => with_unfolding_all rfl); (case tZq => kmk_pure); (case zZq => simp only [List.size_toArray, sizeLine_eq, IntsAre.length (by assumption)]; omega)); intro D' ws' h' F' N' l1 hI' hC' hL'; clear hC' hL'; (try k_lt l1); (try k_sweep)))
local macro_rules | `(tactic| walk_at "exec Assign cons ListComp") => `(tactic| (k_here; (with_reducible show wpAny _ _ (exec (Stmt.Assign [_] (PySem.Expr.ListComp _ [⟨PySem.Expr.Tuple _ _ _, _, _, _⟩] _ _) _) _) _ _ _); k_dflt (refine assign_comp_pairs (by k_asm) (by with_unfolding_all rfl) (by with_unfolding_all rfl) (by decide) (by rfl) (by decide) (by rfl) (by rfl) (by decide) (by rfl) (by rfl) ?_)))
local macro_rules | `(tactic| walk_at "call type:zip") => `(tactic| (k_here; (with_reducible show wpAny _ _ (call (Value.type _) [Value.ref _, Value.ref _]) _ _ _); k_dflt (refine call_zip_own ?_)))
local macro_rules | `(tactic| walk_at "call type:enumerate") => `(tactic| (k_here; (with_reducible show wpAny _ _ (call (Value.type _) [Value.ref _]) _ _ _); k_dflt (refine call_enum_own ?_)))
local macro_rules | `(tactic| walk_at "pyIter ref") => `(tactic| (k_here; k_dflt (refine' owit_iter ?FZq ?XZq ?IZq ?hsZq ?hfZq ?_; (case FZq => k_asm); (case XZq => k_asm); (case IZq => k_inst); (case hsZq => k_is); (case hfZq => k_is); k_whole)))
local macro_rules | `(tactic| walk_at "OwitIt") => `(tactic| (k_here; k_dflt (refine' owit_li ?NZq ?iZq ?_; (case NZq => k_asm); (case iZq => k_mem); k_whole)))
local macro_rules | `(tactic| walk_at "call builtin:iter") => `(tactic| (k_here; (with_reducible show wpAny _ _ (call (Value.builtin "iter") [Value.ref _]) _ _ _); k_dflt (refine' call_iter_led ?FZq ?NZq ?lZq ?_; (case FZq => k_asm); (case NZq => k_asm); (case lZq => k_mem); k_whole); intro I' h' F' N' l1; (try k_lt l1); (try k_sweep)))
local macro_rules | `(tactic| walk_at "subscriptTail Name Slice ref ref") => `(tactic| (k_here; (with_reducible show wpAny _ _ (subscriptTail _ (PySem.Expr.Slice _ _ none _) (Value.ref _) (Value.ref _)) _ _ _); k_dflt (refine' sub_own_slice ?FZq ?XZq ?NZq ?IZq ?qZq ?hsZq ?hfZq ?hgZq ?_; (case FZq => k_asm); (case XZq => k_asm); (case NZq => k_asm); (case IZq => k_inst); (case qZq => k_is); (case hsZq => k_is); (case hfZq => k_is); (case hgZq => k_is); k_whole); intro sl' h' F' N' l1; (try k_lt l1); (try k_sweep)))
local macro_rules | `(tactic| walk_at "subscriptTail") => `(tactic| (k_here; (with_reducible show wpAny _ _ (subscriptTail _ (PySem.Expr.Name _ _) (Value.ref _) (Value.ref _)) _ _ _); k_dflt (refine' sub_list_slice ?FZq ?NZq ?lZq ?slZq ?paZq ?pbZq ?IZq ?mZq ?zZq ?_; (case FZq => k_asm); (case NZq => k_asm); (case lZq => k_mem); (case slZq => k_mem); (case paZq => kmk_part); (case pbZq => kmk_part); (case IZq => assumption); (case mZq => first | exact kmk_from_neg (by assumption) (by omega) | exact kmk_from (by assumption) (by omega) | exact kmk_upto (by assumption) (by omega) | exact kmk_upto_neg (by assumption) (by omega)); (case zZq => rw [sizeLine_eq]; omega); k_whole); intro D' ws' h' F' N' l1 hI'; (try k_lt l1); (try k_sweep)))
local macro_rules | `(tactic| walk_at "call builtin:list.extend") => `(tactic| (k_here; (with_reducible show wpAny _ _ (call (Value.builtin _) [Value.ref _, Value.ref _]) _ _ _); k_dflt (refine' ext_ints ?FZq ?NZq ?bZq ?UZq ?I1Zq ?I2Zq ?neZq ?h1Zq ?h2Zq ?_; (case FZq => k_asm); (case NZq => k_asm); (case bZq => k_mem); (case UZq => k_upd); (case I1Zq => assumption); (case I2Zq => assumption); (case neZq => (try simp only [List.length_drop]); omega); (case h1Zq => omega); (case h2Zq => (try simp only [List.length_drop]); omega); k_whole); intro vs' h' F' eX' N' hI'; (try rw [← eX'] at N'); clear eX'; (try k_sweep)))
local macro_rules | `(tactic| walk_at "call builtin:list.append") => `(tactic| (k_here; (with_reducible show wpAny _ _ (call (Value.builtin _) [Value.ref _, Value.int _ _]) _ _ _); k_dflt (refine' app_ints ?FZq ?NZq ?UZq ?I1Zq ?h1Zq ?_; (case FZq => k_asm); (case NZq => k_asm); (case UZq => k_upd); (case I1Zq => first | assumption | exact IntsAre.nil); (case h1Zq => first | omega | ((simp only [List.length_append, List.length_cons, List.length_nil]); omega)); k_whole); intro vs' h' F' eX' N' hI'; (try rw [← eX'] at N'); clear eX'; (try k_sweep)))

local macro_rules | `(tactic| walk_at "call ref") => `(tactic| (k_here; (with_reducible show wpAny _ _ (call (Value.ref 144) [Value.ref _, Value.int _ _]) _ _ _); k_dflt (refine' poly_c ?BZq ?FZq ?KZq ?NZq ?TZq ?kZq ?dZq ?uZq ?IZq ?pZq ?lZq ?sZq ?zZq ?_; (case BZq => k_asm); (case FZq => k_asm); (case KZq => k_asm); (case NZq => refine' news_cons ?NmZq ?NnZq ?NrZq; (case NnZq => k_asm); (case NrZq => k_asm); (case NmZq => k_mem)); (case TZq => k_asm); (case kZq => first | exact rfl | assumption); (case dZq => ktr_room); (case uZq => ktr_units); (case IZq => assumption); (case pZq => first | assumption | omega | ((simp only [List.length_append, List.length_drop, List.length_map, List.length_take]); omega)); (case lZq => first | assumption | omega | ((simp only [List.length_append, List.length_drop, List.length_map, List.length_take]); omega)); (case sZq => omega); (case zZq => omega); k_whole); intro x9 d9 l9 vs9 hs9 t9 h9 tk9 F9 N9 I9 o1 o2 o3; (try simp only [AllLt, and_true] at o1); (repeat (have hA := And.left o1; replace o1 := And.right o1)); (try simp only [Int.toNat_zero, List.replicate_zero, List.append_nil] at I9); (try dsimp only); (try k_sweep); walk_say "CONTRACT poly"))
theorem putbit_c {w : World} {p : Program} {loose : List Str} {mean : ExcName → Option Value} {mg mb : Str → Option Value}
  {dp un : Nat} {gd : Option (List Code)} {cn : Str} {cs : Scope} {a : Addr} {ccd : Value} {cl : List (Str × Addr)} {outer : List Env} {A₀ : Around} {base h₀ : Heap} {L : Addr} {m : Str → Option Value} {s : Shared} {Q E : Value → Shared → Prop}
  {news : List (Addr × Obj)} {b d l : Addr} {vs : List Value} {ns : List Int} {n : Nat} {hs1 hs2 : Int} {t1 t2 t3 : Tok} {len : Int} {bit : Bool}
  (hB : Below A₀ base outer h₀) (hF : Fr h₀ L s.heap m) (hK : (hd.heap_39 w.params).In h₀)
  (hN : News h₀ L s.heap ((b, instObj 269 d) :: (d, dictOf [⟨hs1, .str (Str.ofString "buffer") t1, .ref l⟩, ⟨hs2, .str (Str.ofString "length") t2, .int len t3⟩] 2) :: (l, listOf vs.toArray n) :: news)) (hT : Top p loose mean mg mb h₀) (hk : cs.kind = .function)
  (hdp : dp + 4 < recursionLimit) (hun : un + 20 < cLine) (hbd : @Ne Nat b d) (hbl : @Ne Nat b l) (hdl : @Ne Nat d l) (hnd : ∀ p ∈ news, p.1 ≠ d) (hnl : ∀ p ∈ news, p.1 ≠ l)
  (hI : IntsAre vs ns) (hlen : ns.length < 2^20) (h0 : 0 ≤ len) (hlen2 : len < 2^24) (hq : len.fdiv 8 ≤ ns.length)
  (hret : ∀ vs' zs' n' t' h' tk', Fr h₀ L h' m → News h₀ L h' ((b, instObj 269 d) :: (d, dictOf [⟨hs1, .str (Str.ofString "buffer") t1, .ref l⟩, ⟨hs2, .str (Str.ofString "length") t2, .int (len + 1) t'⟩] 2) :: (l, listOf (List.toArray vs') n') :: news) →
    IntsAre vs' zs' → zs' = bitPut ns len bit → (len + 1).fdiv 8 ≤ (zs'.length : Int) → zs'.length ≤ ns.length + 1 → 0 ≤ len + 1 → Q .none { s with heap := h', toks := tk' }) :
  wpAny (model PySem.Challenge.pw_bq0024_01 w) (ktrTop dp un gd cn cs L a ccd cl outer) (call (.ref 266) [.ref b, .bool bit]) Q E s := by
  have hm : 0 ≤ len.fmod 8 ∧ len.fmod 8 < 8 := ⟨Int.fmod_nonneg_of_pos _ (by decide), Int.fmod_lt_of_pos _ (by decide)⟩
  have hd0 : 0 ≤ len.fdiv 8 := by rw [Int.fdiv_eq_ediv_of_nonneg _ (by decide)]; omega
  k_steps
  all_goals (rename News h₀ L _ _ => kN)
  all_goals refine hret _ _ _ _ _ _ (by k_asm) kN (ints_cast (by assumption) ?_) rfl (bitPut_len h0 hq).1 (bitPut_len h0 hq).2 (by omega)
  all_goals (clear hm hd0; simp [bitPut, *])
theorem putbit_d {w : World} {p : Program} {loose : List Str} {mean : ExcName → Option Value} {mg mb : Str → Option Value}
  {dp un : Nat} {gd : Option (List Code)} {cn : Str} {cs : Scope} {a : Addr} {ccd : Value} {cl : List (Str × Addr)} {outer : List Env} {A₀ : Around} {base h₀ : Heap} {L : Addr} {m : Str → Option Value} {s : Shared} {Q E : Value → Shared → Prop}
  {big : List (Addr × Obj)} {g : Obj → List (Addr × Obj)} {g2 : Obj → Obj → List (Addr × Obj)} {b d l : Addr} {vs : List Value} {ns : List Int} {n : Nat} {hs1 hs2 : Int} {t1 t2 t3 : Tok} {len : Int} {bit : Bool}
  (hB : Below A₀ base outer h₀) (hF : Fr h₀ L s.heap m) (hK : (hd.heap_39 w.params).In h₀)
  (hN : News h₀ L s.heap big) (hb : (b, instObj 269 d) ∈ big) (hl : (l, listOf vs.toArray n) ∈ big) (U1 : UpdF d (dictOf [⟨hs1, .str (Str.ofString "buffer") t1, .ref l⟩, ⟨hs2, .str (Str.ofString "length") t2, .int len t3⟩] 2) big g) (U2 : ∀ o, UpdF l (listOf vs.toArray n) (g o) (g2 o)) (hT : Top p loose mean mg mb h₀) (hk : cs.kind = .function)
  (hdp : dp + 4 < recursionLimit) (hun : un + 20 < cLine) (hbd : @Ne Nat b d) (hbl : @Ne Nat b l) (hdl : @Ne Nat d l)
  (hI : IntsAre vs ns) (hlen : ns.length < 2^20) (h0 : 0 ≤ len) (hlen2 : len < 2^24) (hq : len.fdiv 8 ≤ ns.length)
  (hret : ∀ vs' zs' n' t' h' tk', Fr h₀ L h' m → News h₀ L h' (g2 (dictOf [⟨hs1, .str (Str.ofString "buffer") t1, .ref l⟩, ⟨hs2, .str (Str.ofString "length") t2, .int (len + 1) t'⟩] 2) (listOf (List.toArray vs') n')) →
    IntsAre vs' zs' → zs' = bitPut ns len bit → (len + 1).fdiv 8 ≤ (zs'.length : Int) → zs'.length ≤ ns.length + 1 → 0 ≤ len + 1 → Q .none { s with heap := h', toks := tk' }) :
  wpAny (model PySem.Challenge.pw_bq0024_01 w) (ktrTop dp un gd cn cs L a ccd cl outer) (call (.ref 266) [.ref b, .bool bit]) Q E s := by
  obtain ⟨rest, r1, r2, N2, back⟩ := two_news hN hb hl U1 U2
  exact putbit_c hB hF hK N2 hT hk hdp hun hbd hbl hdl r1 r2 hI hlen h0 hlen2 hq (fun vs' zs' n' t' h' tk' F' N' => hret vs' zs' n' t' h' tk' F' (back _ _ _ N'))
local macro_rules | `(tactic| walk_at "call ref") => `(tactic| (k_here; (with_reducible show wpAny _ _ (call (Value.ref 266) [Value.ref _, Value.bool _]) _ _ _); k_dflt (refine' putbit_d ?BZq ?FZq ?KZq ?NZq ?bZq ?l1Zq ?U1Zq ?U2Zq ?TZq ?kZq ?dZq ?uZq ?a1Zq ?a2Zq ?a3Zq ?IZq ?lZq ?zZq ?yZq ?qZq ?_; (case BZq => k_asm); (case FZq => k_asm); (case KZq => k_asm); (case NZq => k_asm); (case bZq => k_mem); (case U1Zq => k_updF); (case l1Zq => k_mem); (case U2Zq => (intro o9; (try dsimp only); k_updF)); (case TZq => k_asm); (case kZq => first | exact rfl | assumption); (case dZq => ktr_room); (case uZq => ktr_units); (case a1Zq => k_ne); (case a2Zq => k_ne); (case a3Zq => k_ne); (case IZq => assumption); (case lZq => omega); (case zZq => first | assumption | omega); (case yZq => omega); (case qZq => first | assumption | omega); k_whole); intro vs9 zs9 n9 t9 h9 tk9 F9 N9 I9 e9 q9 l9 p9; (try dsimp only at N9); (try dsimp only); (try k_sweep); walk_say "CONTRACT putbit"))
theorem unr_head {h₀ : Heap} {L I : Addr} {it : Obj} {rest : (Str → Option Value) → List (Addr × Obj) → Prop} {s₁ : Shared} {h' : Heap} {tk : Nat} {m' : Str → Option Value} {keep : List (Addr × Obj)} (F : Fr h₀ L h' m') (N : News h₀ L h' ((I, it) :: keep)) (off : ∀ p ∈ keep, p.1 ≠ I) (r : rest m' keep) :
    UnrEnd h₀ L s₁ I it rest { s₁ with heap := h', toks := tk } := UnrEnd.intro F N keep (fun _ hp => hp) off r
local macro_rules | `(tactic| walk_at "UnrEnd") => `(tactic| (k_here; refine' unr_head ?FZq ?NZq ?oZq ?_; (case FZq => k_asm); (case NZq => k_asm); (case oZq => k_all); k_whole))
theorem put_c {w : World} {p : Program} {loose : List Str} {mean : ExcName → Option Value} {mg mb : Str → Option Value}
  {dp un : Nat} {gd : Option (List Code)} {cn : Str} {cs : Scope} {a : Addr} {ccd : Value} {cl : List (Str × Addr)} {outer : List Env} {A₀ : Around} {base h₀ : Heap} {L : Addr} {m : Str → Option Value} {s : Shared} {Q E : Value → Shared → Prop}
  {news : List (Addr × Obj)} {b d l : Addr} {vs : List Value} {ns : List Int} {n : Nat} {hs1 hs2 : Int} {t1 t2 t3 tN tE : Tok} {len num : Int}
  (hB : Below A₀ base outer h₀) (hF : Fr h₀ L s.heap m) (hK : (hd.heap_39 w.params).In h₀)
  (hN : News h₀ L s.heap ((b, instObj 269 d) :: (d, dictOf [⟨hs1, .str (Str.ofString "buffer") t1, .ref l⟩, ⟨hs2, .str (Str.ofString "length") t2, .int len t3⟩] 2) :: (l, listOf vs.toArray n) :: news)) (hT : Top p loose mean mg mb h₀) (hk : cs.kind = .function)
  (hdp : dp + 8 < recursionLimit) (hun : un + 40 < cLine) (hbd : @Ne Nat b d) (hbl : @Ne Nat b l) (hdl : @Ne Nat d l) (hnd : ∀ p ∈ news, p.1 ≠ d) (hnl : ∀ p ∈ news, p.1 ≠ l)
  (hI : IntsAre vs ns) (hlen : ns.length < 2^19) (hlen1 : len = 8 * (ns.length : Int)) (hnum : 0 ≤ num) (hnum1 : num < 256)
  (hret : ∀ vs' n' t' h' tk', Fr h₀ L h' m → News h₀ L h' ((b, instObj 269 d) :: (d, dictOf [⟨hs1, .str (Str.ofString "buffer") t1, .ref l⟩, ⟨hs2, .str (Str.ofString "length") t2, .int (len + 1 + 1 + 1 + 1 + 1 + 1 + 1 + 1) t'⟩] 2) :: (l, listOf (List.toArray vs') n') :: news) →
    IntsAre vs' (ns ++ [num]) → len + 1 + 1 + 1 + 1 + 1 + 1 + 1 + 1 = 8 * ((ns ++ [num]).length : Int) → Q .none { s with heap := h', toks := tk' }) :
  wpAny (model PySem.Challenge.pw_bq0024_01 w) (ktrTop dp un gd cn cs L a ccd cl outer) (call (.ref 252) [.ref b, .int num tN, .int 8 tE]) Q E s := by
  have h0 : 0 ≤ len := by omega
  have hlen2 : len + 8 < 2^24 := by omega
  have hq : len.fdiv 8 ≤ ns.length := by rw [Int.fdiv_eq_ediv_of_nonneg _ (by decide)]; omega
  k_steps
  all_goals (rename News h₀ L _ _ => kN; rename IntsAre _ _ => kI)
  all_goals (rename _ = bitPut ns len _ => e1; rename _ = bitPut _ (len + 1) _ => e2; rename _ = bitPut _ (len + 1 + 1) _ => e3; rename _ = bitPut _ (len + 1 + 1 + 1) _ => e4; rename _ = bitPut _ (len + 1 + 1 + 1 + 1) _ => e5; rename _ = bitPut _ (len + 1 + 1 + 1 + 1 + 1) _ => e6; rename _ = bitPut _ (len + 1 + 1 + 1 + 1 + 1 + 1) _ => e7; rename _ = bitPut _ (len + 1 + 1 + 1 + 1 + 1 + 1 + 1) _ => e8)
  all_goals (have hz := put8 hlen1 hnum hnum1 e1 e2 e3 e4 e5 e6 e7 e8; exact hret _ _ _ _ _ (by k_asm) kN (ints_cast kI hz.1) hz.2)
theorem put_d {w : World} {p : Program} {loose : List Str} {mean : ExcName → Option Value} {mg mb : Str → Option Value}
  {dp un : Nat} {gd : Option (List Code)} {cn : Str} {cs : Scope} {a : Addr} {ccd : Value} {cl : List (Str × Addr)} {outer : List Env} {A₀ : Around} {base h₀ : Heap} {L : Addr} {m : Str → Option Value} {s : Shared} {Q E : Value → Shared → Prop}
  {big : List (Addr × Obj)} {g : Obj → List (Addr × Obj)} {g2 : Obj → Obj → List (Addr × Obj)} {b d l : Addr} {vs : List Value} {ns : List Int} {n : Nat} {hs1 hs2 : Int} {t1 t2 t3 tN tE : Tok} {len num : Int}
  (hB : Below A₀ base outer h₀) (hF : Fr h₀ L s.heap m) (hK : (hd.heap_39 w.params).In h₀)
  (hN : News h₀ L s.heap big) (hb : (b, instObj 269 d) ∈ big) (hl : (l, listOf vs.toArray n) ∈ big) (U1 : UpdF d (dictOf [⟨hs1, .str (Str.ofString "buffer") t1, .ref l⟩, ⟨hs2, .str (Str.ofString "length") t2, .int (len) t3⟩] 2) big g) (U2 : ∀ o, UpdF l (listOf vs.toArray n) (g o) (g2 o)) (hT : Top p loose mean mg mb h₀) (hk : cs.kind = .function)
  (hdp : dp + 8 < recursionLimit) (hun : un + 40 < cLine) (hbd : @Ne Nat b d) (hbl : @Ne Nat b l) (hdl : @Ne Nat d l)
  (hI : IntsAre vs ns) (hlen : ns.length < 2^19) (hlen1 : len = 8 * (ns.length : Int)) (hnum : 0 ≤ num) (hnum1 : num < 256)
  (hret : ∀ vs' len' n' t' h' tk', Fr h₀ L h' m → News h₀ L h' (g2 (dictOf [⟨hs1, .str (Str.ofString "buffer") t1, .ref l⟩, ⟨hs2, .str (Str.ofString "length") t2, .int (len') t'⟩] 2) (listOf (List.toArray vs') n')) →
    IntsAre vs' (ns ++ [num]) → len' = 8 * ((ns ++ [num]).length : Int) → Q .none { s with heap := h', toks := tk' }) :
  wpAny (model PySem.Challenge.pw_bq0024_01 w) (ktrTop dp un gd cn cs L a ccd cl outer) (call (.ref 252) [.ref b, .int num tN, .int 8 tE]) Q E s := by
  obtain ⟨rest, r1, r2, N2, back⟩ := two_news hN hb hl U1 U2
  exact put_c hB hF hK N2 hT hk hdp hun hbd hbl hdl r1 r2 hI hlen hlen1 hnum hnum1 (fun vs' n' t' h' tk' F' N' I' e' => hret vs' _ n' t' h' tk' F' (back _ _ _ N') I' e')
local macro_rules | `(tactic| walk_at "call ref") => `(tactic| (k_here; (with_reducible show wpAny _ _ (call (Value.ref 252) [Value.ref _, Value.int _ _, Value.int 8 _]) _ _ _); k_dflt (refine' put_d ?BZq ?FZq ?KZq ?NZq ?bZq ?l1Zq ?U1Zq ?U2Zq ?TZq ?kZq ?dZq ?uZq ?a1Zq ?a2Zq ?a3Zq ?IZq ?lZq ?eZq ?n0Zq ?n1Zq ?_; (case BZq => k_asm); (case FZq => k_asm); (case KZq => k_asm); (case NZq => k_asm); (case bZq => k_mem); (case U1Zq => k_updF); (case l1Zq => k_mem); (case U2Zq => (intro o9; (try dsimp only); k_updF)); (case TZq => k_asm); (case kZq => first | exact rfl | assumption); (case dZq => ktr_room); (case uZq => ktr_units); (case a1Zq => k_ne); (case a2Zq => k_ne); (case a3Zq => k_ne); (case IZq => with_reducible assumption); (case lZq => omega); (case eZq => first | with_reducible assumption | omega); (case n0Zq => omega); (case n1Zq => omega); k_whole); intro vs9 len9 n9 t9 h9 tk9 F9 N9 I9 e9; (try dsimp only at N9); (try dsimp only); (try k_sweep); walk_say "CONTRACT put"))
end
section
local macro_rules | `(tactic| walk_at "pad 0") => `(tactic| skip)
local macro_rules | `(tactic| walk_at "pad 1") => `(tactic| skip)
local macro_rules | `(tactic| walk_at "pad 2") => `(tactic| skip)
theorem fillNow_mul : (PySem.Challenge.rw_bq0024_01 = PySem.Challenge.rw_bq0024_01) ∧ (hd.heap_39 = hd.heap_39) := by
  w_top off
  k_fill
  exact ⟨rfl, rfl⟩

local macro_rules | `(tactic| k_room) => `(tactic| ktr_room)
local macro_rules | `(tactic| k_lt $h:ident) => `(tactic| (replace $h := allLt_of $h; simp only [AllLt, and_true] at $h:ident; repeat (have hA := And.left $h; replace $h := And.right $h)))
local macro_rules | `(tactic| k_ne) => `(tactic| first | with_reducible assumption | (refine Ne.symm ?_; with_reducible assumption) | (refine Nat.ne_of_lt ?_; with_reducible assumption) | (refine Nat.ne_of_gt ?_; with_reducible assumption))
local macro_rules | `(tactic| k_all) => `(tactic| ((fail_if_success (refine' List.forall_mem_cons.mpr ⟨?tailNg, ?tailNh⟩)); rename AllLt _ _ => hAL; first | (refine allLt_ne hAL ?_; (try dsimp only); first | exact Nat.le_refl _ | (refine Nat.le_of_lt ?_; with_reducible assumption)) | (clear hAL; k_all) | (refine allLt_ne hAL ?_; (try dsimp only); omega)))
local macro_rules | `(tactic| k_all) => `(tactic| ((fail_if_success (refine' List.forall_mem_cons.mpr ⟨?tailNe, ?tailNf⟩)); with_reducible assumption))
local macro_rules | `(tactic| k_all) => `(tactic| (with_reducible refine all_append ?_ ?_ <;> k_all))
local macro_rules | `(tactic| k_all) => `(tactic| first | exact List.forall_mem_nil _ | (refine' List.forall_mem_cons.mpr ⟨?caZq, ?cbZq⟩; (case caZq => k_ne); (case cbZq => k_all)))
local macro_rules | `(tactic| k_units) => `(tactic| ktr_units)
local macro_rules | `(tactic| k_enter) => `(tactic| (refine' code_defC ?k1 ?k2 ?k3 ?k4 ?k5 ?kAZq ?kFZq ?kKZq ?k6 ?k7 ?k8 ?k9 ?kBZq ?kDZq ?_ ?c2 ?c3 ?c4; (case kAZq => exact rfl); (case kFZq => exact rfl); (case kKZq => first | exact rfl | assumption); (case k1 => k_asm); (case k2 => k_asm); (case k3 => k_asm); (case k4 => k_asm); (case k5 => k_asm); (case k6 => k_is); (case k7 => k_is); (case k8 => ktr_room); (case k9 => exact BindsTo.of_eq rfl); (case kBZq => exact rfl); (case kDZq => decide +kernel); (case c2 => exact rfl); (case c3 => exact rfl); (case c4 => exact rfl); k_whole; intro g' L' h' tk' cells' FG' F' N' Y' B' X' T' l1; (try k_lt l1); k_cells Y'; (try simp only [List.cons_append, List.nil_append] at N'); (try dsimp only); (try k_lift B'); (try k_fold)))
local macro_rules | `(tactic| k_enter) => `(tactic| cell_enter)
local macro_rules | `(tactic| walk_at "subscriptTail") => `(tactic| (k_here; (with_reducible show wpAny _ _ (subscriptTail _ _ (Value.ref 79) (Value.int _ _)) _ _ _); k_dflt (refine' topItemI (ns := expL) ?FZq ?XZq ?lZq ?iZq ?aZq ?bZq ?dZq ?_; (case FZq => k_asm); (case XZq => k_asm); (case lZq => k_is); (case iZq => exact intsB_of (by decide +kernel)); (case aZq => (try simp only [expL_len]); omega); (case bZq => (try simp only [expL_len]); omega); (case dZq => (try simp only [expL_len]); omega); k_whole); intro tE))
local macro_rules | `(tactic| walk_at "subscriptTail") => `(tactic| (k_here; (with_reducible show wpAny _ _ (subscriptTail _ _ (Value.ref 80) (Value.int _ _)) _ _ _); k_dflt (refine' topItemI (ns := logL) ?FZq ?XZq ?lZq ?iZq ?aZq ?bZq ?dZq ?_; (case FZq => k_asm); (case XZq => k_asm); (case lZq => k_is); (case iZq => exact intsB_of (by decide +kernel)); (case aZq => (try simp only [logL_len]); omega); (case bZq => (try simp only [logL_len]); omega); (case dZq => (try simp only [logL_len]); omega); k_whole); intro tE))


local macro_rules | `(tactic| walk_at "call ref") => `(tactic| (k_here; (with_reducible show wpAny _ _ (call (Value.ref 94) [Value.int _ _]) _ _ _); k_dflt (refine' gexp_c ?BZq ?FZq ?KZq ?NZq ?TZq ?kZq ?dZq ?uZq ?_; (case BZq => k_asm); (case FZq => k_asm); (case KZq => k_asm); (case NZq => k_asm); (case TZq => k_asm); (case kZq => first | exact rfl | assumption); (case dZq => ktr_room); (case uZq => ktr_units); k_whole); intro t9 h9 tk9 F9 N9; (try dsimp only); (try k_sweep); walk_say "CONTRACT gexp"))
local macro_rules | `(tactic| walk_at "call ref") => `(tactic| (k_here; (with_reducible show wpAny _ _ (call (Value.ref 87) [Value.int _ _]) _ _ _); k_dflt (refine' glog_c ?BZq ?FZq ?KZq ?NZq ?TZq ?kZq ?dZq ?uZq ?xZq ?yZq ?_; (case BZq => k_asm); (case FZq => k_asm); (case KZq => k_asm); (case NZq => k_asm); (case TZq => k_asm); (case kZq => first | exact rfl | assumption); (case dZq => ktr_room); (case uZq => ktr_units); (case xZq => first | assumption | omega); (case yZq => first | assumption | omega); k_whole); intro t9 h9 tk9 F9 N9; (try dsimp only); (try k_sweep); walk_say "CONTRACT glog"))
local macro_rules | `(tactic| walk_at "subscriptTail Name Slice ref ref") => `(tactic| (k_here; (with_reducible show wpAny _ _ (subscriptTail _ (PySem.Expr.Slice (some _) none none _) (Value.ref _) (Value.ref _)) _ _ _); k_dflt (refine' kmk_slice_ints ?FZq ?NZq ?lZq ?pZq ?qZq ?iZq ?mZq ?cZq ?_ ?sZq ?tZq ?zZq; (case FZq => k_asm); (case NZq => k_asm); (case lZq => kmk_list); (case pZq => kmk_part); (case qZq => kmk_part); (case iZq => assumption); (case mZq => exact kmk_from (by assumption) (by omega)); (case cZq => exact rfl); (case sZq => with_unfolding_all rfl); (case tZq => kmk_pure); (case zZq => simp only [List.size_toArray, sizeLine_eq, IntsAre.length (by assumption)]; omega)); intro D' ws' h' F' N' l1 hI' hC' hL'; clear hC' hL'; (try k_lt l1); (try k_sweep)))
local macro_rules | `(tactic| walk_at "exec Assign cons ListComp") => `(tactic| (k_here; (with_reducible show wpAny _ _ (exec (Stmt.Assign [_] (PySem.Expr.ListComp _ [⟨PySem.Expr.Tuple _ _ _, _, _, _⟩] _ _) _) _) _ _ _); k_dflt (refine assign_comp_pairs (by k_asm) (by with_unfolding_all rfl) (by with_unfolding_all rfl) (by decide) (by rfl) (by decide) (by rfl) (by rfl) (by decide) (by rfl) (by rfl) ?_)))
local macro_rules | `(tactic| walk_at "call type:zip") => `(tactic| (k_here; (with_reducible show wpAny _ _ (call (Value.type _) [Value.ref _, Value.ref _]) _ _ _); k_dflt (refine call_zip_own ?_)))
local macro_rules | `(tactic| walk_at "call type:enumerate") => `(tactic| (k_here; (with_reducible show wpAny _ _ (call (Value.type _) [Value.ref _]) _ _ _); k_dflt (refine call_enum_own ?_)))
local macro_rules | `(tactic| walk_at "pyIter ref") => `(tactic| (k_here; k_dflt (refine' owit_iter ?FZq ?XZq ?IZq ?hsZq ?hfZq ?_; (case FZq => k_asm); (case XZq => k_asm); (case IZq => k_inst); (case hsZq => k_is); (case hfZq => k_is); k_whole)))
local macro_rules | `(tactic| walk_at "OwitIt") => `(tactic| (k_here; k_dflt (refine' owit_li ?NZq ?iZq ?_; (case NZq => k_asm); (case iZq => k_mem); k_whole)))
local macro_rules | `(tactic| walk_at "call builtin:iter") => `(tactic| (k_here; (with_reducible show wpAny _ _ (call (Value.builtin "iter") [Value.ref _]) _ _ _); k_dflt (refine' call_iter_led ?FZq ?NZq ?lZq ?_; (case FZq => k_asm); (case NZq => k_asm); (case lZq => k_mem); k_whole); intro I' h' F' N' l1; (try k_lt l1); (try k_sweep)))
local macro_rules | `(tactic| walk_at "subscriptTail Name Slice ref ref") => `(tactic| (k_here; (with_reducible show wpAny _ _ (subscriptTail _ (PySem.Expr.Slice _ _ none _) (Value.ref _) (Value.ref _)) _ _ _); k_dflt (refine' sub_own_slice ?FZq ?XZq ?NZq ?IZq ?qZq ?hsZq ?hfZq ?hgZq ?_; (case FZq => k_asm); (case XZq => k_asm); (case NZq => k_asm); (case IZq => k_inst); (case qZq => k_is); (case hsZq => k_is); (case hfZq => k_is); (case hgZq => k_is); k_whole); intro sl' h' F' N' l1; (try k_lt l1); (try k_sweep)))
local macro_rules | `(tactic| walk_at "subscriptTail") => `(tactic| (k_here; (with_reducible show wpAny _ _ (subscriptTail _ (PySem.Expr.Name _ _) (Value.ref _) (Value.ref _)) _ _ _); k_dflt (refine' sub_list_slice ?FZq ?NZq ?lZq ?slZq ?paZq ?pbZq ?IZq ?mZq ?zZq ?_; (case FZq => k_asm); (case NZq => k_asm); (case lZq => k_mem); (case slZq => k_mem); (case paZq => kmk_part); (case pbZq => kmk_part); (case IZq => assumption); (case mZq => first | exact kmk_from_neg (by assumption) (by omega) | exact kmk_from (by assumption) (by omega) | exact kmk_upto (by assumption) (by omega) | exact kmk_upto_neg (by assumption) (by omega)); (case zZq => rw [sizeLine_eq]; omega); k_whole); intro D' ws' h' F' N' l1 hI'; (try k_lt l1); (try k_sweep)))
local macro_rules | `(tactic| walk_at "call builtin:list.extend") => `(tactic| (k_here; (with_reducible show wpAny _ _ (call (Value.builtin _) [Value.ref _, Value.ref _]) _ _ _); k_dflt (refine' ext_ints ?FZq ?NZq ?bZq ?UZq ?I1Zq ?I2Zq ?neZq ?h1Zq ?h2Zq ?_; (case FZq => k_asm); (case NZq => k_asm); (case bZq => k_mem); (case UZq => k_upd); (case I1Zq => assumption); (case I2Zq => assumption); (case neZq => (try simp only [List.length_drop]); omega); (case h1Zq => omega); (case h2Zq => (try simp only [List.length_drop]); omega); k_whole); intro vs' h' F' eX' N' hI'; (try rw [← eX'] at N'); clear eX'; (try k_sweep)))
local macro_rules | `(tactic| walk_at "call builtin:list.append") => `(tactic| (k_here; (with_reducible show wpAny _ _ (call (Value.builtin _) [Value.ref _, Value.int _ _]) _ _ _); k_dflt (refine' app_ints ?FZq ?NZq ?UZq ?I1Zq ?h1Zq ?_; (case FZq => k_asm); (case NZq => k_asm); (case UZq => k_upd); (case I1Zq => first | assumption | exact IntsAre.nil); (case h1Zq => first | omega | ((simp only [List.length_append, List.length_cons, List.length_nil]); omega)); k_whole); intro vs' h' F' eX' N' hI'; (try rw [← eX'] at N'); clear eX'; (try k_sweep)))

local macro_rules | `(tactic| walk_at "call ref") => `(tactic| (k_here; (with_reducible show wpAny _ _ (call (Value.ref 144) [Value.ref _, Value.int _ _]) _ _ _); k_dflt (refine' poly_c ?BZq ?FZq ?KZq ?NZq ?TZq ?kZq ?dZq ?uZq ?IZq ?pZq ?lZq ?sZq ?zZq ?_; (case BZq => k_asm); (case FZq => k_asm); (case KZq => k_asm); (case NZq => refine' news_cons ?NmZq ?NnZq ?NrZq; (case NnZq => k_asm); (case NrZq => k_asm); (case NmZq => k_mem)); (case TZq => k_asm); (case kZq => first | exact rfl | assumption); (case dZq => ktr_room); (case uZq => ktr_units); (case IZq => assumption); (case pZq => first | assumption | omega | ((simp only [List.length_append, List.length_drop, List.length_map, List.length_take]); omega)); (case lZq => first | assumption | omega | ((simp only [List.length_append, List.length_drop, List.length_map, List.length_take]); omega)); (case sZq => omega); (case zZq => omega); k_whole); intro x9 d9 l9 vs9 hs9 t9 h9 tk9 F9 N9 I9 o1 o2 o3; (try simp only [AllLt, and_true] at o1); (repeat (have hA := And.left o1; replace o1 := And.right o1)); (try simp only [Int.toNat_zero, List.replicate_zero, List.append_nil] at I9); (try dsimp only); (try k_sweep); walk_say "CONTRACT poly"))

local macro_rules | `(tactic| walk_at "call ref") => `(tactic| (k_here; (with_reducible show wpAny _ _ (call (Value.ref 266) [Value.ref _, Value.bool _]) _ _ _); k_dflt (refine' putbit_d ?BZq ?FZq ?KZq ?NZq ?bZq ?l1Zq ?U1Zq ?U2Zq ?TZq ?kZq ?dZq ?uZq ?a1Zq ?a2Zq ?a3Zq ?IZq ?lZq ?zZq ?yZq ?qZq ?_; (case BZq => k_asm); (case FZq => k_asm); (case KZq => k_asm); (case NZq => k_asm); (case bZq => k_mem); (case U1Zq => k_updF); (case l1Zq => k_mem); (case U2Zq => (intro o9; (try dsimp only); k_updF)); (case TZq => k_asm); (case kZq => first | exact rfl | assumption); (case dZq => ktr_room); (case uZq => ktr_units); (case a1Zq => k_ne); (case a2Zq => k_ne); (case a3Zq => k_ne); (case IZq => assumption); (case lZq => omega); (case zZq => first | assumption | omega); (case yZq => omega); (case qZq => first | assumption | omega); k_whole); intro vs9 zs9 n9 t9 h9 tk9 F9 N9 I9 e9 q9 l9 p9; (try dsimp only at N9); (try dsimp only); (try k_sweep); walk_say "CONTRACT putbit"))

local macro_rules | `(tactic| walk_at "UnrEnd") => `(tactic| (k_here; refine' unr_head ?FZq ?NZq ?oZq ?_; (case FZq => k_asm); (case NZq => k_asm); (case oZq => k_all); k_whole))

local macro_rules | `(tactic| walk_at "call ref") => `(tactic| (k_here; (with_reducible show wpAny _ _ (call (Value.ref 252) [Value.ref _, Value.int _ _, Value.int 8 _]) _ _ _); k_dflt (refine' put_d ?BZq ?FZq ?KZq ?NZq ?bZq ?l1Zq ?U1Zq ?U2Zq ?TZq ?kZq ?dZq ?uZq ?a1Zq ?a2Zq ?a3Zq ?IZq ?lZq ?eZq ?n0Zq ?n1Zq ?_; (case BZq => k_asm); (case FZq => k_asm); (case KZq => k_asm); (case NZq => k_asm); (case bZq => k_mem); (case U1Zq => k_updF); (case l1Zq => k_mem); (case U2Zq => (intro o9; (try dsimp only); k_updF)); (case TZq => k_asm); (case kZq => first | exact rfl | assumption); (case dZq => ktr_room); (case uZq => ktr_units); (case a1Zq => k_ne); (case a2Zq => k_ne); (case a3Zq => k_ne); (case IZq => with_reducible assumption); (case lZq => omega); (case eZq => first | with_reducible assumption | omega); (case n0Zq => omega); (case n1Zq => omega); k_whole); intro vs9 len9 n9 t9 h9 tk9 F9 N9 I9 e9; (try dsimp only at N9); (try dsimp only); (try k_sweep); walk_say "CONTRACT put"))
section
local macro_rules | `(tactic| walk_at "exec For Tuple Call cons nil") => `(tactic| (k_here; (rename Fr _ _ _ _ => lF'); (with_unfolding_all refine' For_turns lF' ?_; k_whole)))
theorem mul_c {w : World} {p : Program} {loose : List Str} {mean : ExcName → Option Value} {mg mb : Str → Option Value}
  {dp un : Nat} {gd : Option (List Code)} {cn : Str} {cs : Scope} {a : Addr} {ccd : Value} {cl : List (Str × Addr)} {outer : List Env} {A₀ : Around} {base h₀ : Heap} {L : Addr} {m : Str → Option Value} {s : Shared} {Q E : Value → Shared → Prop}
  {news : List (Addr × Obj)} {x1 d1 l1 x2 d2 l2 : Addr} {vs1 vs2 : List Value} {ns1 ns2 : List Int} {n1 n2 k1 k2 : Nat} {hs1 hs2 : Int} {t1 t2 : Tok}
  (hB : Below A₀ base outer h₀) (hF : Fr h₀ L s.heap m) (hK : (hd.heap_39 w.params).In h₀)
  (hN : News h₀ L s.heap ((x1, instObj 144 d1) :: (d1, dictOf [⟨hs1, .str (Str.ofString "num") t1, .ref l1⟩] k1) :: (l1, listOf vs1.toArray n1) :: (x2, instObj 144 d2) :: (d2, dictOf [⟨hs2, .str (Str.ofString "num") t2, .ref l2⟩] k2) :: (l2, listOf vs2.toArray n2) :: news)) (hT : Top p loose mean mg mb h₀) (hk : cs.kind = .function)
  (hI1 : IntsAre vs1 ns1) (hI2 : IntsAre vs2 ns2) (hl1 : ns1.length < 2^19) (hl2 : ns2.length < 2^19) (hp1 : 0 < ns1.length) (hp2 : 0 < ns2.length)
  (hr1 : ∀ x ∈ ns1, 1 ≤ x ∧ x < 256) (hr2 : ∀ x ∈ ns2, 1 ≤ x ∧ x < 256)
  (hdp : dp + 16 < recursionLimit) (hun : un + 80 < cLine)
  (hret : ∀ xr dr lr vsr hs tk0 h' tk', Fr h₀ L h' m → News h₀ L h' ((xr, instObj 144 dr) :: (dr, dictOf [⟨hs, .str (Str.ofString "num") tk0, .ref lr⟩] 1) :: (lr, listOf (List.toArray vsr) 0) :: (x1, instObj 144 d1) :: (d1, dictOf [⟨hs1, .str (Str.ofString "num") t1, .ref l1⟩] k1) :: (l1, listOf vs1.toArray n1) :: (x2, instObj 144 d2) :: (d2, dictOf [⟨hs2, .str (Str.ofString "num") t2, .ref l2⟩] k2) :: (l2, listOf vs2.toArray n2) :: news) →
    IntsAre vsr (stripZ (mulX ns1 ns2 ns1.length)) → Q (.ref xr) { s with heap := h', toks := tk' }) :
  wpAny (model PySem.Challenge.pw_bq0024_01 w) (ktrTop dp un gd cn cs L a ccd cl outer) (call (.ref 136) [.ref x1, .ref x2]) Q E s := by
  k_steps
  (rename Fr _ _ _ _ => F1)
  (rename News _ _ _ _ => N1)
  refine' enum_acc2 (forget4 (Str.ofString "i") (Str.ofString "item") (Str.ofString "j") (Str.ofString "other_item") _) (mulX ns1 ns2) ?hhZ F1 N1 ?hDZ ?UZ ?hlZ ?offZ (forget4_of fun _ _ _ _ _ => rfl) hI1 ?I0Z ?stepZ ?finZ
  case hhZ => exact rfl
  case hDZ => k_mem
  case UZ => k_updF
  case hlZ => intro o; (try dsimp only); k_mem
  case offZ => k_all
  case I0Z => 
    refine ints_cast (by assumption) ?_
    rw [List.flatten_replicate_singleton, mulX]
    congr 1
    omega
  case stepZ =>
    clear F1 N1
    rintro i a ⟨c1, c2, c3, c4⟩ ds k h tk e hi hga ham hId hlt F' oe oi hoe hoi N' T t u hTup
    have hlt2 : ∀ p ∈ news, p.1 < e := fun p hp => hlt p (by k_ownIn)
    have ha := hr1 a ham
    (try k_lt hlt)
    delta forget4 at F'
    dsimp only at F'
    (try dsimp only at N')
    k_steps
    (rename Fr _ _ _ _ => F1)
    (rename News _ _ _ _ => N1)
    refine' enum_acc2 (forget2 (Str.ofString "j") (Str.ofString "other_item") _) (rowX ns2 i a (mulX ns1 ns2 i)) ?hhZ2 F1 N1 ?hDZ2 ?UZ2 ?hlZ2 ?offZ2 (forget2_of fun _ _ _ => rfl) hI2 hId ?stepZ2 ?finZ2
    case hhZ2 => exact rfl
    case hDZ2 => k_mem
    case UZ2 => k_updF
    case hlZ2 => intro o; (try dsimp only); k_mem
    case offZ2 => k_all
    case stepZ2 =>
      clear F1 N1
      rintro j b ⟨c5, c6⟩ ds2 k2' h2 tk2 e2 hj hgb hbm hId2 hlt3 F2 oe2 oi2 hoe2 hoi2 N2 T2 t2' u2 hTup2
      have hlt4 : ∀ p ∈ news, p.1 < e2 := fun p hp => hlt3 p (by k_ownIn)
      have hb := hr2 b hbm
      (try k_lt hlt3)
      delta forget2 at F2
      dsimp only at F2
      (try dsimp only at N2)
      have hzl : (rowX ns2 i a (mulX ns1 ns2 i) j).length = ns1.length + ns2.length - 1 := by rw [rowX_length, mulX_length]
      obtain ⟨zs, hzs⟩ : ∃ zs, zs = rowX ns2 i a (mulX ns1 ns2 i) j := ⟨_, rfl⟩
      rw [← hzs] at hId2 hzl
      k_steps
      all_goals (rename Fr _ _ _ _ => F3; rename News _ _ _ _ => N3; rename IntsAre _ _ => I3)
      all_goals refine' acc_end F3 N3 ?o1Z ?o2Z (forget2_of ?hmZ) I3 ?hzZ
      case o1Z => k_all
      case o2Z => k_all
      case hmZ => intro y y1 y2; simp [y1, y2]
      case hzZ =>
        have ij : ((i : Int) + (j : Int)).toNat = i + j := by omega
        rw [rowX, ← hzs, hgb, ij]
    case finZ2 =>
      clear F1 N1
      rintro h2 tk2 ⟨c5, c6⟩ ds2 k2' F2 N2 hId2
      delta forget2 at F2
      dsimp only at F2
      (try dsimp only at N2)
      k_steps
      all_goals (rename Fr _ _ _ _ => F3; rename News _ _ _ _ => N3)
      all_goals refine' acc_end F3 N3 ?o1Z ?o2Z (forget4_of ?hmZ) hId2 ?hzZ
      case o1Z => k_all
      case o2Z => k_all
      case hmZ => intro y y1 y2 y3 y4; simp [y1, y2, y3, y4]
      case hzZ => rw [mulX, hga]
  case finZ =>
    clear F1 N1
    rintro h2 tk2 ⟨c1, c2, c3, c4⟩ ds2 k2' F2 N2 hId2
    delta forget4 at F2
    dsimp only at F2
    (try dsimp only at N2)
    have hzl : (mulX ns1 ns2 ns1.length).length = ns1.length + ns2.length - 1 := mulX_length _ _ _
    obtain ⟨zs, hzs⟩ : ∃ zs, zs = mulX ns1 ns2 ns1.length := ⟨_, rfl⟩
    rw [← hzs] at hId2 hzl
    k_steps
    all_goals (rename News h₀ L _ _ => kN)
    all_goals exact hret _ _ _ _ _ _ _ _ (by k_asm) (news_cons (by k_mem) kN (news_cons (by k_mem) kN (news_cons (by k_mem) kN (news_cons (by k_mem) kN (news_cons (by k_mem) kN (news_cons (by k_mem) kN (news_cons (by k_mem) kN (news_cons (by k_mem) kN (news_cons (by k_mem) kN (fun q hq => kN q (by k_ownIn))))))))))) (ints_cast (by assumption) (by rw [hzs]))
end
theorem mul_d {w : World} {p : Program} {loose : List Str} {mean : ExcName → Option Value} {mg mb : Str → Option Value}
  {dp un : Nat} {gd : Option (List Code)} {cn : Str} {cs : Scope} {a : Addr} {ccd : Value} {cl : List (Str × Addr)} {outer : List Env} {A₀ : Around} {base h₀ : Heap} {L : Addr} {m : Str → Option Value} {s : Shared} {Q E : Value → Shared → Prop}
  {big : List (Addr × Obj)} {x1 d1 l1 x2 d2 l2 : Addr} {vs1 vs2 : List Value} {ns1 ns2 : List Int} {n1 n2 k1 k2 : Nat} {hs1 hs2 : Int} {t1 t2 : Tok}
  (hB : Below A₀ base outer h₀) (hF : Fr h₀ L s.heap m) (hK : (hd.heap_39 w.params).In h₀) (hN : News h₀ L s.heap big) (m1 : (x1, instObj 144 d1) ∈ big) (m2 : (d1, dictOf [⟨hs1, .str (Str.ofString "num") t1, .ref l1⟩] k1) ∈ big) (m3 : (l1, listOf vs1.toArray n1) ∈ big) (m4 : (x2, instObj 144 d2) ∈ big) (m5 : (d2, dictOf [⟨hs2, .str (Str.ofString "num") t2, .ref l2⟩] k2) ∈ big) (m6 : (l2, listOf vs2.toArray n2) ∈ big) (hT : Top p loose mean mg mb h₀) (hk : cs.kind = .function)
  (hI1 : IntsAre vs1 ns1) (hI2 : IntsAre vs2 ns2) (hl1 : ns1.length < 2^19) (hl2 : ns2.length < 2^19) (hp1 : 0 < ns1.length) (hp2 : 0 < ns2.length)
  (hr1 : ∀ x ∈ ns1, 1 ≤ x ∧ x < 256) (hr2 : ∀ x ∈ ns2, 1 ≤ x ∧ x < 256)
  (hdp : dp + 16 < recursionLimit) (hun : un + 80 < cLine)
  (hret : ∀ xr dr lr vsr hs tk0 h' tk', Fr h₀ L h' m → News h₀ L h' ((xr, instObj 144 dr) :: (dr, dictOf [⟨hs, .str (Str.ofString "num") tk0, .ref lr⟩] 1) :: (lr, listOf (List.toArray vsr) 0) :: big) → IntsAre vsr (stripZ (mulX ns1 ns2 ns1.length)) → Q (.ref xr) { s with heap := h', toks := tk' }) :
  wpAny (model PySem.Challenge.pw_bq0024_01 w) (ktrTop dp un gd cn cs L a ccd cl outer) (call (.ref 136) [.ref x1, .ref x2]) Q E s := by
  refine mul_c (hs1 := hs1) (hs2 := hs2) (t1 := t1) (t2 := t2) (k1 := k1) (k2 := k2) hB hF hK (news_cons m1 hN (news_cons m2 hN (news_cons m3 hN (news_cons m4 hN (news_cons m5 hN (news_cons m6 hN hN)))))) hT hk hI1 hI2 hl1 hl2 hp1 hp2 hr1 hr2 hdp hun (fun xr dr lr vsr hs tk0 h' tk' F' N' I' => hret xr dr lr vsr hs tk0 h' tk' F' (fun q hq => N' q (by
    simp only [List.mem_cons] at hq ⊢
    rcases hq with h | h | h | h
    · exact .inl h
    · exact .inr (.inl h)
    · exact .inr (.inr (.inl h))
    · exact .inr (.inr (.inr (.inr (.inr (.inr (.inr (.inr (.inr h)))))))))) I')
theorem mod_d {w : World} {p : Program} {loose : List Str} {mean : ExcName → Option Value} {mg mb : Str → Option Value}
  {dp un : Nat} {gd : Option (List Code)} {cn : Str} {cs : Scope} {a : Addr} {ccd : Value} {cl : List (Str × Addr)} {outer : List Env} {A₀ : Around} {base h₀ : Heap} {L : Addr} {m : Str → Option Value} {s : Shared} {Q E : Value → Shared → Prop}
  {big : List (Addr × Obj)} {x1 d1 l1 x2 d2 l2 : Addr} {vs1 vs2 : List Value} {ns1 ns2 : List Int} {n1 n2 k1 k2 k : Nat} {hs1 hs2 : Int} {t1 t2 : Tok}
  (hB : Below A₀ base outer h₀) (hF : Fr h₀ L s.heap m) (hK : (hd.heap_39 w.params).In h₀) (hN : News h₀ L s.heap big) (m1 : (x1, instObj 144 d1) ∈ big) (m2 : (d1, dictOf [⟨hs1, .str (Str.ofString "num") t1, .ref l1⟩] k1) ∈ big) (m3 : (l1, listOf vs1.toArray n1) ∈ big) (m4 : (x2, instObj 144 d2) ∈ big) (m5 : (d2, dictOf [⟨hs2, .str (Str.ofString "num") t2, .ref l2⟩] k2) ∈ big) (m6 : (l2, listOf vs2.toArray n2) ∈ big) (hT : Top p loose mean mg mb h₀) (hk : cs.kind = .function)
  (hI1 : IntsAre vs1 ns1) (hI2 : IntsAre vs2 ns2) (hl1 : ns1.length < 2^20) (hl2 : ns2.length < 2^20) (h2 : 2 ≤ ns2.length) (hp1 : 0 < ns1.length) (hlk : ns1.length ≤ k)
  (hr1 : ∀ x ∈ ns1, 0 ≤ x ∧ x < 256) (hr2 : ∀ x ∈ ns2, 1 ≤ x ∧ x < 256) (hz : ns2.length ≤ ns1.length → 1 ≤ ns1.getD 0 0)
  (hdp : dp + 2 * k + 8 < recursionLimit) (hun : un + 12 * k + 60 < cLine)
  (hret : ∀ xr dr lr vsr hs tk0 kr nr h' tk', Fr h₀ L h' m → News h₀ L h' ((xr, instObj 144 dr) :: (dr, dictOf [⟨hs, .str (Str.ofString "num") tk0, .ref lr⟩] kr) :: (lr, listOf (List.toArray vsr) nr) :: big) → IntsAre vsr (polyModF k ns1 ns2) → Q (.ref xr) { s with heap := h', toks := tk' }) :
  wpAny (model PySem.Challenge.pw_bq0024_01 w) (ktrTop dp un gd cn cs L a ccd cl outer) (call (.ref 141) [.ref x1, .ref x2]) Q E s := by
  have M : ModC k := mod_c k
  unfold ModC at M
  refine M (hs1 := hs1) (hs2 := hs2) (t1 := t1) (t2 := t2) (k1 := k1) (k2 := k2) hB hF hK (news_cons m1 hN (news_cons m2 hN (news_cons m3 hN (news_cons m4 hN (news_cons m5 hN (news_cons m6 hN hN)))))) hT hk hI1 hI2 hl1 hl2 h2 hp1 hlk hr1 hr2 hz hdp hun (fun xr dr lr vsr hs tk0 kr nr h' tk' F' N' I' => hret xr dr lr vsr hs tk0 kr nr h' tk' F' (fun q hq => N' q (by
    simp only [List.mem_cons] at hq ⊢
    rcases hq with h | h | h | h
    · exact .inl h
    · exact .inr (.inl h)
    · exact .inr (.inr (.inl h))
    · exact .inr (.inr (.inr (.inr (.inr (.inr (.inr (.inr (.inr h)))))))))) I')
local macro_rules | `(tactic| walk_at "call ref") => `(tactic| (k_here; (with_reducible show wpAny _ _ (call (Value.ref 136) [Value.ref _, Value.ref _]) (PySem.W.CmpBack _) _ _); k_dflt (refine' mul_d ?BZq ?FZq ?KZq ?NZq ?m1Zq ?m2Zq ?m3Zq ?m4Zq ?m5Zq ?m6Zq ?TZq ?kZq ?I1Zq ?I2Zq ?l1Zq ?l2Zq ?p1Zq ?p2Zq ?r1Zq ?r2Zq ?dZq ?uZq ?_; (case BZq => k_asm); (case FZq => k_asm); (case KZq => k_asm); (case NZq => k_asm); (case m1Zq => k_mem); (case m2Zq => k_mem); (case m3Zq => k_mem); (case m4Zq => k_mem); (case m5Zq => k_mem); (case m6Zq => k_mem); (case TZq => k_asm); (case kZq => first | exact rfl | assumption); (case I1Zq => with_reducible assumption); (case I2Zq => with_reducible assumption); (case l1Zq => omega); (case l2Zq => omega); (case p1Zq => omega); (case p2Zq => omega); (case r1Zq => with_reducible assumption); (case r2Zq => with_reducible assumption); (case dZq => ktr_room); (case uZq => ktr_units); k_whole); intro x9 d9 l9 vs9 hs9 t9 h9 tk9 F9 N9 I9; dsimp only [PySem.W.CmpBack]; (try dsimp only); (try k_sweep); walk_say "CONTRACT mul"))
local macro_rules | `(tactic| walk_at "call ref") => `(tactic| (k_here; (with_reducible show wpAny _ _ (call (Value.ref 141) [Value.ref _, Value.ref _]) (PySem.W.CmpBack _) _ _); k_dflt (refine' mod_d (k := 38) ?BZq ?FZq ?KZq ?NZq ?m1Zq ?m2Zq ?m3Zq ?m4Zq ?m5Zq ?m6Zq ?TZq ?kZq ?I1Zq ?I2Zq ?l1Zq ?l2Zq ?p1Zq ?p2Zq ?qZq ?r1Zq ?r2Zq ?zZq ?dZq ?uZq ?_; (case BZq => k_asm); (case FZq => k_asm); (case KZq => k_asm); (case NZq => k_asm); (case m1Zq => k_mem); (case m2Zq => k_mem); (case m3Zq => k_mem); (case m4Zq => k_mem); (case m5Zq => k_mem); (case m6Zq => k_mem); (case TZq => k_asm); (case kZq => first | exact rfl | assumption); (case I1Zq => with_reducible assumption); (case I2Zq => with_reducible assumption); (case l1Zq => omega); (case l2Zq => omega); (case p1Zq => omega); (case p2Zq => omega); (case qZq => omega); (case r1Zq => with_reducible assumption); (case r2Zq => with_reducible assumption); (case zZq => with_reducible assumption); (case dZq => ktr_room); (case uZq => ktr_units); k_whole); intro x9 d9 l9 vs9 hs9 t9 k9 n9 h9 tk9 F9 N9 I9; dsimp only [PySem.W.CmpBack]; (try dsimp only); (try k_sweep); walk_say "CONTRACT mod"))
end
section
local macro_rules | `(tactic| walk_at "pad 0") => `(tactic| skip)
local macro_rules | `(tactic| walk_at "pad 1") => `(tactic| skip)
local macro_rules | `(tactic| walk_at "pad 2") => `(tactic| skip)
local macro_rules | `(tactic| walk_at "pad 3") => `(tactic| skip)
local macro_rules | `(tactic| walk_at "pad 4") => `(tactic| skip)
theorem fillNow_rsb : (PySem.Challenge.rw_bq0024_01 = PySem.Challenge.rw_bq0024_01) ∧ (hd.heap_39 = hd.heap_39) := by
  w_top off
  k_fill
  exact ⟨rfl, rfl⟩

local macro_rules | `(tactic| k_room) => `(tactic| ktr_room)
local macro_rules | `(tactic| k_lt $h:ident) => `(tactic| (replace $h := allLt_of $h; simp only [AllLt, and_true] at $h:ident; repeat (have hA := And.left $h; replace $h := And.right $h)))
local macro_rules | `(tactic| k_ne) => `(tactic| first | with_reducible assumption | (refine Ne.symm ?_; with_reducible assumption) | (refine Nat.ne_of_lt ?_; with_reducible assumption) | (refine Nat.ne_of_gt ?_; with_reducible assumption))
local macro_rules | `(tactic| k_all) => `(tactic| ((fail_if_success (refine' List.forall_mem_cons.mpr ⟨?tailNg, ?tailNh⟩)); rename AllLt _ _ => hAL; first | (refine allLt_ne hAL ?_; (try dsimp only); first | exact Nat.le_refl _ | (refine Nat.le_of_lt ?_; with_reducible assumption)) | (clear hAL; k_all) | (refine allLt_ne hAL ?_; (try dsimp only); omega)))
local macro_rules | `(tactic| k_all) => `(tactic| ((fail_if_success (refine' List.forall_mem_cons.mpr ⟨?tailNe, ?tailNf⟩)); with_reducible assumption))
local macro_rules | `(tactic| k_all) => `(tactic| (with_reducible refine all_append ?_ ?_ <;> k_all))
local macro_rules | `(tactic| k_all) => `(tactic| first | exact List.forall_mem_nil _ | (refine' List.forall_mem_cons.mpr ⟨?caZq, ?cbZq⟩; (case caZq => k_ne); (case cbZq => k_all)))
local macro_rules | `(tactic| k_units) => `(tactic| ktr_units)
local macro_rules | `(tactic| k_enter) => `(tactic| (refine' code_defC ?k1 ?k2 ?k3 ?k4 ?k5 ?kAZq ?kFZq ?kKZq ?k6 ?k7 ?k8 ?k9 ?kBZq ?kDZq ?_ ?c2 ?c3 ?c4; (case kAZq => exact rfl); (case kFZq => exact rfl); (case kKZq => first | exact rfl | assumption); (case k1 => k_asm); (case k2 => k_asm); (case k3 => k_asm); (case k4 => k_asm); (case k5 => k_asm); (case k6 => k_is); (case k7 => k_is); (case k8 => ktr_room); (case k9 => exact BindsTo.of_eq rfl); (case kBZq => exact rfl); (case kDZq => decide +kernel); (case c2 => exact rfl); (case c3 => exact rfl); (case c4 => exact rfl); k_whole; intro g' L' h' tk' cells' FG' F' N' Y' B' X' T' l1; (try k_lt l1); k_cells Y'; (try simp only [List.cons_append, List.nil_append] at N'); (try dsimp only); (try k_lift B'); (try k_fold)))
local macro_rules | `(tactic| k_enter) => `(tactic| cell_enter)
local macro_rules | `(tactic| walk_at "subscriptTail") => `(tactic| (k_here; (with_reducible show wpAny _ _ (subscriptTail _ _ (Value.ref 79) (Value.int _ _)) _ _ _); k_dflt (refine' topItemI (ns := expL) ?FZq ?XZq ?lZq ?iZq ?aZq ?bZq ?dZq ?_; (case FZq => k_asm); (case XZq => k_asm); (case lZq => k_is); (case iZq => exact intsB_of (by decide +kernel)); (case aZq => (try simp only [expL_len]); omega); (case bZq => (try simp only [expL_len]); omega); (case dZq => (try simp only [expL_len]); omega); k_whole); intro tE))
local macro_rules | `(tactic| walk_at "subscriptTail") => `(tactic| (k_here; (with_reducible show wpAny _ _ (subscriptTail _ _ (Value.ref 80) (Value.int _ _)) _ _ _); k_dflt (refine' topItemI (ns := logL) ?FZq ?XZq ?lZq ?iZq ?aZq ?bZq ?dZq ?_; (case FZq => k_asm); (case XZq => k_asm); (case lZq => k_is); (case iZq => exact intsB_of (by decide +kernel)); (case aZq => (try simp only [logL_len]); omega); (case bZq => (try simp only [logL_len]); omega); (case dZq => (try simp only [logL_len]); omega); k_whole); intro tE))


local macro_rules | `(tactic| walk_at "call ref") => `(tactic| (k_here; (with_reducible show wpAny _ _ (call (Value.ref 94) [Value.int _ _]) _ _ _); k_dflt (refine' gexp_c ?BZq ?FZq ?KZq ?NZq ?TZq ?kZq ?dZq ?uZq ?_; (case BZq => k_asm); (case FZq => k_asm); (case KZq => k_asm); (case NZq => k_asm); (case TZq => k_asm); (case kZq => first | exact rfl | assumption); (case dZq => ktr_room); (case uZq => ktr_units); k_whole); intro t9 h9 tk9 F9 N9; (try dsimp only); (try k_sweep); walk_say "CONTRACT gexp"))
local macro_rules | `(tactic| walk_at "call ref") => `(tactic| (k_here; (with_reducible show wpAny _ _ (call (Value.ref 87) [Value.int _ _]) _ _ _); k_dflt (refine' glog_c ?BZq ?FZq ?KZq ?NZq ?TZq ?kZq ?dZq ?uZq ?xZq ?yZq ?_; (case BZq => k_asm); (case FZq => k_asm); (case KZq => k_asm); (case NZq => k_asm); (case TZq => k_asm); (case kZq => first | exact rfl | assumption); (case dZq => ktr_room); (case uZq => ktr_units); (case xZq => first | assumption | omega); (case yZq => first | assumption | omega); k_whole); intro t9 h9 tk9 F9 N9; (try dsimp only); (try k_sweep); walk_say "CONTRACT glog"))
local macro_rules | `(tactic| walk_at "subscriptTail Name Slice ref ref") => `(tactic| (k_here; (with_reducible show wpAny _ _ (subscriptTail _ (PySem.Expr.Slice (some _) none none _) (Value.ref _) (Value.ref _)) _ _ _); k_dflt (refine' kmk_slice_ints ?FZq ?NZq ?lZq ?pZq ?qZq ?iZq ?mZq ?cZq ?_ ?sZq ?tZq ?zZq; (case FZq => k_asm); (case NZq => k_asm); (case lZq => kmk_list); (case pZq => kmk_part); (case qZq => kmk_part); (case iZq => assumption); (case mZq => exact kmk_from (by assumption) (by omega)); (case cZq => exact rfl); (case sZq => with_unfolding_all rfl); (case tZq => kmk_pure); (case zZq => simp only [List.size_toArray, sizeLine_eq, IntsAre.length (by assumption)]; omega)); intro D' ws' h' F' N' l1 hI' hC' hL'; clear hC' hL'; (try k_lt l1); (try k_sweep)))
local macro_rules | `(tactic| walk_at "exec Assign cons ListComp") => `(tactic| (k_here; (with_reducible show wpAny _ _ (exec (Stmt.Assign [_] (PySem.Expr.ListComp _ [⟨PySem.Expr.Tuple _ _ _, _, _, _⟩] _ _) _) _) _ _ _); k_dflt (refine assign_comp_pairs (by k_asm) (by with_unfolding_all rfl) (by with_unfolding_all rfl) (by decide) (by rfl) (by decide) (by rfl) (by rfl) (by decide) (by rfl) (by rfl) ?_)))
local macro_rules | `(tactic| walk_at "call type:zip") => `(tactic| (k_here; (with_reducible show wpAny _ _ (call (Value.type _) [Value.ref _, Value.ref _]) _ _ _); k_dflt (refine call_zip_own ?_)))
local macro_rules | `(tactic| walk_at "call type:enumerate") => `(tactic| (k_here; (with_reducible show wpAny _ _ (call (Value.type _) [Value.ref _]) _ _ _); k_dflt (refine call_enum_own ?_)))
local macro_rules | `(tactic| walk_at "pyIter ref") => `(tactic| (k_here; k_dflt (refine' owit_iter ?FZq ?XZq ?IZq ?hsZq ?hfZq ?_; (case FZq => k_asm); (case XZq => k_asm); (case IZq => k_inst); (case hsZq => k_is); (case hfZq => k_is); k_whole)))
local macro_rules | `(tactic| walk_at "OwitIt") => `(tactic| (k_here; k_dflt (refine' owit_li ?NZq ?iZq ?_; (case NZq => k_asm); (case iZq => k_mem); k_whole)))
local macro_rules | `(tactic| walk_at "call builtin:iter") => `(tactic| (k_here; (with_reducible show wpAny _ _ (call (Value.builtin "iter") [Value.ref _]) _ _ _); k_dflt (refine' call_iter_led ?FZq ?NZq ?lZq ?_; (case FZq => k_asm); (case NZq => k_asm); (case lZq => k_mem); k_whole); intro I' h' F' N' l1; (try k_lt l1); (try k_sweep)))
local macro_rules | `(tactic| walk_at "subscriptTail Name Slice ref ref") => `(tactic| (k_here; (with_reducible show wpAny _ _ (subscriptTail _ (PySem.Expr.Slice _ _ none _) (Value.ref _) (Value.ref _)) _ _ _); k_dflt (refine' sub_own_slice ?FZq ?XZq ?NZq ?IZq ?qZq ?hsZq ?hfZq ?hgZq ?_; (case FZq => k_asm); (case XZq => k_asm); (case NZq => k_asm); (case IZq => k_inst); (case qZq => k_is); (case hsZq => k_is); (case hfZq => k_is); (case hgZq => k_is); k_whole); intro sl' h' F' N' l1; (try k_lt l1); (try k_sweep)))
local macro_rules | `(tactic| walk_at "subscriptTail") => `(tactic| (k_here; (with_reducible show wpAny _ _ (subscriptTail _ (PySem.Expr.Name _ _) (Value.ref _) (Value.ref _)) _ _ _); k_dflt (refine' sub_list_slice ?FZq ?NZq ?lZq ?slZq ?paZq ?pbZq ?IZq ?mZq ?zZq ?_; (case FZq => k_asm); (case NZq => k_asm); (case lZq => k_mem); (case slZq => k_mem); (case paZq => kmk_part); (case pbZq => kmk_part); (case IZq => assumption); (case mZq => first | exact kmk_from_neg (by assumption) (by omega) | exact kmk_from (by assumption) (by omega) | exact kmk_upto (by assumption) (by omega) | exact kmk_upto_neg (by assumption) (by omega)); (case zZq => rw [sizeLine_eq]; omega); k_whole); intro D' ws' h' F' N' l1 hI'; (try k_lt l1); (try k_sweep)))
local macro_rules | `(tactic| walk_at "call builtin:list.extend") => `(tactic| (k_here; (with_reducible show wpAny _ _ (call (Value.builtin _) [Value.ref _, Value.ref _]) _ _ _); k_dflt (refine' ext_ints ?FZq ?NZq ?bZq ?UZq ?I1Zq ?I2Zq ?neZq ?h1Zq ?h2Zq ?_; (case FZq => k_asm); (case NZq => k_asm); (case bZq => k_mem); (case UZq => k_upd); (case I1Zq => assumption); (case I2Zq => assumption); (case neZq => (try simp only [List.length_drop]); omega); (case h1Zq => omega); (case h2Zq => (try simp only [List.length_drop]); omega); k_whole); intro vs' h' F' eX' N' hI'; (try rw [← eX'] at N'); clear eX'; (try k_sweep)))
local macro_rules | `(tactic| walk_at "call builtin:list.append") => `(tactic| (k_here; (with_reducible show wpAny _ _ (call (Value.builtin _) [Value.ref _, Value.int _ _]) _ _ _); k_dflt (refine' app_ints ?FZq ?NZq ?UZq ?I1Zq ?h1Zq ?_; (case FZq => k_asm); (case NZq => k_asm); (case UZq => k_upd); (case I1Zq => first | assumption | exact IntsAre.nil); (case h1Zq => first | omega | ((simp only [List.length_append, List.length_cons, List.length_nil]); omega)); k_whole); intro vs' h' F' eX' N' hI'; (try rw [← eX'] at N'); clear eX'; (try k_sweep)))

local macro_rules | `(tactic| walk_at "call ref") => `(tactic| (k_here; (with_reducible show wpAny _ _ (call (Value.ref 144) [Value.ref _, Value.int _ _]) _ _ _); k_dflt (refine' poly_c ?BZq ?FZq ?KZq ?NZq ?TZq ?kZq ?dZq ?uZq ?IZq ?pZq ?lZq ?sZq ?zZq ?_; (case BZq => k_asm); (case FZq => k_asm); (case KZq => k_asm); (case NZq => refine' news_cons ?NmZq ?NnZq ?NrZq; (case NnZq => k_asm); (case NrZq => k_asm); (case NmZq => k_mem)); (case TZq => k_asm); (case kZq => first | exact rfl | assumption); (case dZq => ktr_room); (case uZq => ktr_units); (case IZq => assumption); (case pZq => first | assumption | omega | ((simp only [List.length_append, List.length_drop, List.length_map, List.length_take]); omega)); (case lZq => first | assumption | omega | ((simp only [List.length_append, List.length_drop, List.length_map, List.length_take]); omega)); (case sZq => omega); (case zZq => omega); k_whole); intro x9 d9 l9 vs9 hs9 t9 h9 tk9 F9 N9 I9 o1 o2 o3; (try simp only [AllLt, and_true] at o1); (repeat (have hA := And.left o1; replace o1 := And.right o1)); (try simp only [Int.toNat_zero, List.replicate_zero, List.append_nil] at I9); (try dsimp only); (try k_sweep); walk_say "CONTRACT poly"))

local macro_rules | `(tactic| walk_at "call ref") => `(tactic| (k_here; (with_reducible show wpAny _ _ (call (Value.ref 266) [Value.ref _, Value.bool _]) _ _ _); k_dflt (refine' putbit_d ?BZq ?FZq ?KZq ?NZq ?bZq ?l1Zq ?U1Zq ?U2Zq ?TZq ?kZq ?dZq ?uZq ?a1Zq ?a2Zq ?a3Zq ?IZq ?lZq ?zZq ?yZq ?qZq ?_; (case BZq => k_asm); (case FZq => k_asm); (case KZq => k_asm); (case NZq => k_asm); (case bZq => k_mem); (case U1Zq => k_updF); (case l1Zq => k_mem); (case U2Zq => (intro o9; (try dsimp only); k_updF)); (case TZq => k_asm); (case kZq => first | exact rfl | assumption); (case dZq => ktr_room); (case uZq => ktr_units); (case a1Zq => k_ne); (case a2Zq => k_ne); (case a3Zq => k_ne); (case IZq => assumption); (case lZq => omega); (case zZq => first | assumption | omega); (case yZq => omega); (case qZq => first | assumption | omega); k_whole); intro vs9 zs9 n9 t9 h9 tk9 F9 N9 I9 e9 q9 l9 p9; (try dsimp only at N9); (try dsimp only); (try k_sweep); walk_say "CONTRACT putbit"))

local macro_rules | `(tactic| walk_at "UnrEnd") => `(tactic| (k_here; refine' unr_head ?FZq ?NZq ?oZq ?_; (case FZq => k_asm); (case NZq => k_asm); (case oZq => k_all); k_whole))

local macro_rules | `(tactic| walk_at "call ref") => `(tactic| (k_here; (with_reducible show wpAny _ _ (call (Value.ref 252) [Value.ref _, Value.int _ _, Value.int 8 _]) _ _ _); k_dflt (refine' put_d ?BZq ?FZq ?KZq ?NZq ?bZq ?l1Zq ?U1Zq ?U2Zq ?TZq ?kZq ?dZq ?uZq ?a1Zq ?a2Zq ?a3Zq ?IZq ?lZq ?eZq ?n0Zq ?n1Zq ?_; (case BZq => k_asm); (case FZq => k_asm); (case KZq => k_asm); (case NZq => k_asm); (case bZq => k_mem); (case U1Zq => k_updF); (case l1Zq => k_mem); (case U2Zq => (intro o9; (try dsimp only); k_updF)); (case TZq => k_asm); (case kZq => first | exact rfl | assumption); (case dZq => ktr_room); (case uZq => ktr_units); (case a1Zq => k_ne); (case a2Zq => k_ne); (case a3Zq => k_ne); (case IZq => with_reducible assumption); (case lZq => omega); (case eZq => first | with_reducible assumption | omega); (case n0Zq => omega); (case n1Zq => omega); k_whole); intro vs9 len9 n9 t9 h9 tk9 F9 N9 I9 e9; (try dsimp only at N9); (try dsimp only); (try k_sweep); walk_say "CONTRACT put"))

local macro_rules | `(tactic| walk_at "call ref") => `(tactic| (k_here; (with_reducible show wpAny _ _ (call (Value.ref 136) [Value.ref _, Value.ref _]) (PySem.W.CmpBack _) _ _); k_dflt (refine' mul_d ?BZq ?FZq ?KZq ?NZq ?m1Zq ?m2Zq ?m3Zq ?m4Zq ?m5Zq ?m6Zq ?TZq ?kZq ?I1Zq ?I2Zq ?l1Zq ?l2Zq ?p1Zq ?p2Zq ?r1Zq ?r2Zq ?dZq ?uZq ?_; (case BZq => k_asm); (case FZq => k_asm); (case KZq => k_asm); (case NZq => k_asm); (case m1Zq => k_mem); (case m2Zq => k_mem); (case m3Zq => k_mem); (case m4Zq => k_mem); (case m5Zq => k_mem); (case m6Zq => k_mem); (case TZq => k_asm); (case kZq => first | exact rfl | assumption); (case I1Zq => with_reducible assumption); (case I2Zq => with_reducible assumption); (case l1Zq => omega); (case l2Zq => omega); (case p1Zq => omega); (case p2Zq => omega); (case r1Zq => with_reducible assumption); (case r2Zq => with_reducible assumption); (case dZq => ktr_room); (case uZq => ktr_units); k_whole); intro x9 d9 l9 vs9 hs9 t9 h9 tk9 F9 N9 I9; dsimp only [PySem.W.CmpBack]; (try dsimp only); (try k_sweep); walk_say "CONTRACT mul"))
local macro_rules | `(tactic| walk_at "call ref") => `(tactic| (k_here; (with_reducible show wpAny _ _ (call (Value.ref 141) [Value.ref _, Value.ref _]) (PySem.W.CmpBack _) _ _); k_dflt (refine' mod_d (k := 38) ?BZq ?FZq ?KZq ?NZq ?m1Zq ?m2Zq ?m3Zq ?m4Zq ?m5Zq ?m6Zq ?TZq ?kZq ?I1Zq ?I2Zq ?l1Zq ?l2Zq ?p1Zq ?p2Zq ?qZq ?r1Zq ?r2Zq ?zZq ?dZq ?uZq ?_; (case BZq => k_asm); (case FZq => k_asm); (case KZq => k_asm); (case NZq => k_asm); (case m1Zq => k_mem); (case m2Zq => k_mem); (case m3Zq => k_mem); (case m4Zq => k_mem); (case m5Zq => k_mem); (case m6Zq => k_mem); (case TZq => k_asm); (case kZq => first | exact rfl | assumption); (case I1Zq => with_reducible assumption); (case I2Zq => with_reducible assumption); (case l1Zq => omega); (case l2Zq => omega); (case p1Zq => omega); (case p2Zq => omega); (case qZq => omega); (case r1Zq => with_reducible assumption); (case r2Zq => with_reducible assumption); (case zZq => with_reducible assumption); (case dZq => ktr_room); (case uZq => ktr_units); k_whole); intro x9 d9 l9 vs9 hs9 t9 k9 n9 h9 tk9 F9 N9 I9; dsimp only [PySem.W.CmpBack]; (try dsimp only); (try k_sweep); walk_say "CONTRACT mod"))
theorem tuple_childN {prog : Program} {w : World} {A : Around} {E : Value → Shared → Prop} {K : Frag} {C T : Addr} {s : Shared} {h₀ : Heap} {L : Addr} {m : Str → Option Value} {news : List (Addr × Obj)} {Q : Value → Shared → Prop} {oc : Value} {od : Option Addr} {cd : ClassData} {sl : Array (Option Value)} {oT : Obj} {items : Array Value} {n : Nat} (F : Fr h₀ L s.heap m) (N : News h₀ L s.heap news) (X₀ : K.In h₀) (hm : (T, oT) ∈ news) (ho : K.lookup C = some ⟨oc, od, .cls cd, sl⟩)
    (e2 : cd.hasDel = false) (hl : cd.mro = [.ref C, .type "tuple", .type "object"]) (hb : cd.bases = [.type "tuple"]) (hs : (sl.toList[4]?).join = some .none)
    (hi : findIn K (.ref C) "__init__" = some (some (.builtin "object.__init__"))) (hTc : oT.cls = .type "tuple") (hTd : oT.data = .seq items n) (hsz : items.size ≤ sizeLine)
    (h : ∀ x dx h', Fr h₀ L h' m → News h₀ L h' ((x, childObj C dx items) :: (dx, emptyDict) :: news) → (∀ p ∈ news, p.1 < dx) → dx < x → Q (.ref x) { s with heap := h' }) :
    wpAny (model prog w) A (call (.builtin "tuple.__new__") [.ref C, .ref T]) Q E s :=
  tuple_child F N X₀ ho e2 hl hb hs hi (N _ hm).1 hTc hTd hsz h
local macro_rules | `(tactic| walk_at "getMethod type:tuple") => `(tactic| (k_here; refine' method_type ?FZq ?XZq ?mZq (by decide +kernel) ?eZq ?hZq ?_; (case FZq => k_asm); (case XZq => k_asm); (case mZq => first | exact rfl | kernel_rfl); (case eZq => k_dflt k_is); (case hZq => k_handed)))
local macro_rules | `(tactic| walk_at "call builtin:tuple.__new__") => `(tactic| (k_here; (refine' tuple_childN (C := 216) ?FZq ?NZq ?XZq ?mZq ?oZq ?e2Zq ?lZq ?bZq ?sZq ?iZq ?tcZq ?tdZq ?szZq ?_; (case FZq => k_asm); (case NZq => k_asm); (case XZq => k_asm); (case mZq => k_mem); (case oZq => exact rfl); (case e2Zq => exact rfl); (case lZq => exact rfl); (case bZq => exact rfl); (case sZq => exact rfl); (case iZq => first | k_is | kernel_rfl); (case tcZq => exact rfl); (case tdZq => exact rfl); (case szZq => (rw [sizeLine_eq]; exact Nat.le_of_ble_eq_true rfl)); k_whole); intro x' dx' h' F' N' l1 o1; (try k_lt l1); (try k_sweep)))
theorem rsb_c {w : World} {p : Program} {loose : List Str} {mean : ExcName → Option Value} {mg mb : Str → Option Value}
  {dp un : Nat} {gd : Option (List Code)} {cn : Str} {cs : Scope} {a : Addr} {ccd : Value} {cl : List (Str × Addr)} {outer : List Env} {A₀ : Around} {base h₀ : Heap} {L : Addr} {m : Str → Option Value} {s : Shared} {Q E : Value → Shared → Prop}
  {news : List (Addr × Obj)} {tc dc : Int} {t1 t2 : Tok}
  (hB : Below A₀ base outer h₀) (hF : Fr h₀ L s.heap m) (hK : (hd.heap_39 w.params).In h₀) (hN : News h₀ L s.heap news) (hT : Top p loose mean mg mb h₀) (hk : cs.kind = .function)
  (hdp : dp + 8 < recursionLimit) (hun : un + 40 < cLine)
  (hret : ∀ x dx h' tk', Fr h₀ L h' m → News h₀ L h' ((x, childObj 216 dx #[.int tc t1, .int dc t2]) :: (dx, emptyDict) :: news) → AllLt dx news → (@LT.lt Nat _ dx x) → Q (.ref x) { s with heap := h', toks := tk' }) :
  wpAny (model PySem.Challenge.pw_bq0024_01 w) (ktrTop dp un gd cn cs L a ccd cl outer) (call (.ref 216) [.int tc t1, .int dc t2]) Q E s := by
  obtain ⟨hh, g, dr, t, os⟩ := s
  refine wpAny_call (own_new (K := hd.heap_39 w.params) (f := 166) (p := 217) (mc := .type "type") (hK.keeps hF.keep) (by exact rfl) (by exact rfl) (by exact rfl) (by kernel_rfl) (by kernel_rfl) (by kernel_rfl) (by kernel_rfl) (fs := []) (by kernel_rfl) (by kernel_rfl) (by kernel_rfl) (by kernel_rfl) (by kernel_rfl) ?_)
  k_steps
  (rename Fr h₀ L _ _ => kF)
  (rename News h₀ L _ _ => kN)
  exact ⟨_, _, rfl, hK.keeps kF.keep, (kN _ (.head _)).1, rfl, hret _ _ _ _ kF (news_cons (by k_mem) kN (news_cons (by k_mem) kN (fun q hq => kN q (by k_ownIn)))) (by assumption) (by assumption)⟩
end
section
local macro_rules | `(tactic| walk_at "pad 0") => `(tactic| skip)
local macro_rules | `(tactic| walk_at "pad 1") => `(tactic| skip)
local macro_rules | `(tactic| walk_at "pad 2") => `(tactic| skip)
local macro_rules | `(tactic| walk_at "pad 3") => `(tactic| skip)
local macro_rules | `(tactic| walk_at "pad 4") => `(tactic| skip)
local macro_rules | `(tactic| walk_at "pad 5") => `(tactic| skip)
theorem fillNow_fld : (PySem.Challenge.rw_bq0024_01 = PySem.Challenge.rw_bq0024_01) ∧ (hd.heap_39 = hd.heap_39) := by
  w_top off
  k_fill
  exact ⟨rfl, rfl⟩

local macro_rules | `(tactic| k_room) => `(tactic| ktr_room)
local macro_rules | `(tactic| k_lt $h:ident) => `(tactic| (replace $h := allLt_of $h; simp only [AllLt, and_true] at $h:ident; repeat (have hA := And.left $h; replace $h := And.right $h)))
local macro_rules | `(tactic| k_ne) => `(tactic| first | with_reducible assumption | (refine Ne.symm ?_; with_reducible assumption) | (refine Nat.ne_of_lt ?_; with_reducible assumption) | (refine Nat.ne_of_gt ?_; with_reducible assumption))
local macro_rules | `(tactic| k_all) => `(tactic| ((fail_if_success (refine' List.forall_mem_cons.mpr ⟨?tailNg, ?tailNh⟩)); rename AllLt _ _ => hAL; first | (refine allLt_ne hAL ?_; (try dsimp only); first | exact Nat.le_refl _ | (refine Nat.le_of_lt ?_; with_reducible assumption)) | (clear hAL; k_all) | (refine allLt_ne hAL ?_; (try dsimp only); omega)))
local macro_rules | `(tactic| k_all) => `(tactic| ((fail_if_success (refine' List.forall_mem_cons.mpr ⟨?tailNe, ?tailNf⟩)); with_reducible assumption))
local macro_rules | `(tactic| k_all) => `(tactic| (with_reducible refine all_append ?_ ?_ <;> k_all))
local macro_rules | `(tactic| k_all) => `(tactic| first | exact List.forall_mem_nil _ | (refine' List.forall_mem_cons.mpr ⟨?caZq, ?cbZq⟩; (case caZq => k_ne); (case cbZq => k_all)))
local macro_rules | `(tactic| k_units) => `(tactic| ktr_units)
local macro_rules | `(tactic| k_enter) => `(tactic| (refine' code_defC ?k1 ?k2 ?k3 ?k4 ?k5 ?kAZq ?kFZq ?kKZq ?k6 ?k7 ?k8 ?k9 ?kBZq ?kDZq ?_ ?c2 ?c3 ?c4; (case kAZq => exact rfl); (case kFZq => exact rfl); (case kKZq => first | exact rfl | assumption); (case k1 => k_asm); (case k2 => k_asm); (case k3 => k_asm); (case k4 => k_asm); (case k5 => k_asm); (case k6 => k_is); (case k7 => k_is); (case k8 => ktr_room); (case k9 => exact BindsTo.of_eq rfl); (case kBZq => exact rfl); (case kDZq => decide +kernel); (case c2 => exact rfl); (case c3 => exact rfl); (case c4 => exact rfl); k_whole; intro g' L' h' tk' cells' FG' F' N' Y' B' X' T' l1; (try k_lt l1); k_cells Y'; (try simp only [List.cons_append, List.nil_append] at N'); (try dsimp only); (try k_lift B'); (try k_fold)))
local macro_rules | `(tactic| k_enter) => `(tactic| cell_enter)
local macro_rules | `(tactic| walk_at "subscriptTail") => `(tactic| (k_here; (with_reducible show wpAny _ _ (subscriptTail _ _ (Value.ref 79) (Value.int _ _)) _ _ _); k_dflt (refine' topItemI (ns := expL) ?FZq ?XZq ?lZq ?iZq ?aZq ?bZq ?dZq ?_; (case FZq => k_asm); (case XZq => k_asm); (case lZq => k_is); (case iZq => exact intsB_of (by decide +kernel)); (case aZq => (try simp only [expL_len]); omega); (case bZq => (try simp only [expL_len]); omega); (case dZq => (try simp only [expL_len]); omega); k_whole); intro tE))
local macro_rules | `(tactic| walk_at "subscriptTail") => `(tactic| (k_here; (with_reducible show wpAny _ _ (subscriptTail _ _ (Value.ref 80) (Value.int _ _)) _ _ _); k_dflt (refine' topItemI (ns := logL) ?FZq ?XZq ?lZq ?iZq ?aZq ?bZq ?dZq ?_; (case FZq => k_asm); (case XZq => k_asm); (case lZq => k_is); (case iZq => exact intsB_of (by decide +kernel)); (case aZq => (try simp only [logL_len]); omega); (case bZq => (try simp only [logL_len]); omega); (case dZq => (try simp only [logL_len]); omega); k_whole); intro tE))


local macro_rules | `(tactic| walk_at "call ref") => `(tactic| (k_here; (with_reducible show wpAny _ _ (call (Value.ref 94) [Value.int _ _]) _ _ _); k_dflt (refine' gexp_c ?BZq ?FZq ?KZq ?NZq ?TZq ?kZq ?dZq ?uZq ?_; (case BZq => k_asm); (case FZq => k_asm); (case KZq => k_asm); (case NZq => k_asm); (case TZq => k_asm); (case kZq => first | exact rfl | assumption); (case dZq => ktr_room); (case uZq => ktr_units); k_whole); intro t9 h9 tk9 F9 N9; (try dsimp only); (try k_sweep); walk_say "CONTRACT gexp"))
local macro_rules | `(tactic| walk_at "call ref") => `(tactic| (k_here; (with_reducible show wpAny _ _ (call (Value.ref 87) [Value.int _ _]) _ _ _); k_dflt (refine' glog_c ?BZq ?FZq ?KZq ?NZq ?TZq ?kZq ?dZq ?uZq ?xZq ?yZq ?_; (case BZq => k_asm); (case FZq => k_asm); (case KZq => k_asm); (case NZq => k_asm); (case TZq => k_asm); (case kZq => first | exact rfl | assumption); (case dZq => ktr_room); (case uZq => ktr_units); (case xZq => first | assumption | omega); (case yZq => first | assumption | omega); k_whole); intro t9 h9 tk9 F9 N9; (try dsimp only); (try k_sweep); walk_say "CONTRACT glog"))
local macro_rules | `(tactic| walk_at "subscriptTail Name Slice ref ref") => `(tactic| (k_here; (with_reducible show wpAny _ _ (subscriptTail _ (PySem.Expr.Slice (some _) none none _) (Value.ref _) (Value.ref _)) _ _ _); k_dflt (refine' kmk_slice_ints ?FZq ?NZq ?lZq ?pZq ?qZq ?iZq ?mZq ?cZq ?_ ?sZq ?tZq ?zZq; (case FZq => k_asm); (case NZq => k_asm); (case lZq => kmk_list); (case pZq => kmk_part); (case qZq => kmk_part); (case iZq => assumption); (case mZq => exact kmk_from (by assumption) (by omega)); (case cZq => exact rfl); (case sZq => with_unfolding_all rfl); (case tZq => kmk_pure); (case zZq => simp only [List.size_toArray, sizeLine_eq, IntsAre.length (by assumption)]; omega)); intro D' ws' h' F' N' l1 hI' hC' hL'; clear hC' hL'; (try k_lt l1); (try k_sweep)))
local macro_rules | `(tactic| walk_at "exec Assign cons ListComp") => `(tactic| (k_here; (with_reducible show wpAny _ _ (exec (Stmt.Assign [_] (PySem.Expr.ListComp _ [⟨PySem.Expr.Tuple _ _ _, _, _, _⟩] _ _) _) _) _ _ _); k_dflt (refine assign_comp_pairs (by k_asm) (by with_unfolding_all rfl) (by with_unfolding_all rfl) (by decide) (by rfl) (by decide) (by rfl) (by rfl) (by decide) (by rfl) (by rfl) ?_)))
local macro_rules | `(tactic| walk_at "call type:zip") => `(tactic| (k_here; (with_reducible show wpAny _ _ (call (Value.type _) [Value.ref _, Value.ref _]) _ _ _); k_dflt (refine call_zip_own ?_)))
local macro_rules | `(tactic| walk_at "call type:enumerate") => `(tactic| (k_here; (with_reducible show wpAny _ _ (call (Value.type _) [Value.ref _]) _ _ _); k_dflt (refine call_enum_own ?_)))
local macro_rules | `(tactic| walk_at "pyIter ref") => `(tactic| (k_here; k_dflt (refine' owit_iter ?FZq ?XZq ?IZq ?hsZq ?hfZq ?_; (case FZq => k_asm); (case XZq => k_asm); (case IZq => k_inst); (case hsZq => k_is); (case hfZq => k_is); k_whole)))
local macro_rules | `(tactic| walk_at "OwitIt") => `(tactic| (k_here; k_dflt (refine' owit_li ?NZq ?iZq ?_; (case NZq => k_asm); (case iZq => k_mem); k_whole)))
local macro_rules | `(tactic| walk_at "call builtin:iter") => `(tactic| (k_here; (with_reducible show wpAny _ _ (call (Value.builtin "iter") [Value.ref _]) _ _ _); k_dflt (refine' call_iter_led ?FZq ?NZq ?lZq ?_; (case FZq => k_asm); (case NZq => k_asm); (case lZq => k_mem); k_whole); intro I' h' F' N' l1; (try k_lt l1); (try k_sweep)))
local macro_rules | `(tactic| walk_at "subscriptTail Name Slice ref ref") => `(tactic| (k_here; (with_reducible show wpAny _ _ (subscriptTail _ (PySem.Expr.Slice _ _ none _) (Value.ref _) (Value.ref _)) _ _ _); k_dflt (refine' sub_own_slice ?FZq ?XZq ?NZq ?IZq ?qZq ?hsZq ?hfZq ?hgZq ?_; (case FZq => k_asm); (case XZq => k_asm); (case NZq => k_asm); (case IZq => k_inst); (case qZq => k_is); (case hsZq => k_is); (case hfZq => k_is); (case hgZq => k_is); k_whole); intro sl' h' F' N' l1; (try k_lt l1); (try k_sweep)))
local macro_rules | `(tactic| walk_at "subscriptTail") => `(tactic| (k_here; (with_reducible show wpAny _ _ (subscriptTail _ (PySem.Expr.Name _ _) (Value.ref _) (Value.ref _)) _ _ _); k_dflt (refine' sub_list_slice ?FZq ?NZq ?lZq ?slZq ?paZq ?pbZq ?IZq ?mZq ?zZq ?_; (case FZq => k_asm); (case NZq => k_asm); (case lZq => k_mem); (case slZq => k_mem); (case paZq => kmk_part); (case pbZq => kmk_part); (case IZq => assumption); (case mZq => first | exact kmk_from_neg (by assumption) (by omega) | exact kmk_from (by assumption) (by omega) | exact kmk_upto (by assumption) (by omega) | exact kmk_upto_neg (by assumption) (by omega)); (case zZq => rw [sizeLine_eq]; omega); k_whole); intro D' ws' h' F' N' l1 hI'; (try k_lt l1); (try k_sweep)))
local macro_rules | `(tactic| walk_at "call builtin:list.extend") => `(tactic| (k_here; (with_reducible show wpAny _ _ (call (Value.builtin _) [Value.ref _, Value.ref _]) _ _ _); k_dflt (refine' ext_ints ?FZq ?NZq ?bZq ?UZq ?I1Zq ?I2Zq ?neZq ?h1Zq ?h2Zq ?_; (case FZq => k_asm); (case NZq => k_asm); (case bZq => k_mem); (case UZq => k_upd); (case I1Zq => assumption); (case I2Zq => assumption); (case neZq => (try simp only [List.length_drop]); omega); (case h1Zq => omega); (case h2Zq => (try simp only [List.length_drop]); omega); k_whole); intro vs' h' F' eX' N' hI'; (try rw [← eX'] at N'); clear eX'; (try k_sweep)))
local macro_rules | `(tactic| walk_at "call builtin:list.append") => `(tactic| (k_here; (with_reducible show wpAny _ _ (call (Value.builtin _) [Value.ref _, Value.int _ _]) _ _ _); k_dflt (refine' app_ints ?FZq ?NZq ?UZq ?I1Zq ?h1Zq ?_; (case FZq => k_asm); (case NZq => k_asm); (case UZq => k_upd); (case I1Zq => first | assumption | exact IntsAre.nil); (case h1Zq => first | omega | ((simp only [List.length_append, List.length_cons, List.length_nil]); omega)); k_whole); intro vs' h' F' eX' N' hI'; (try rw [← eX'] at N'); clear eX'; (try k_sweep)))

local macro_rules | `(tactic| walk_at "call ref") => `(tactic| (k_here; (with_reducible show wpAny _ _ (call (Value.ref 144) [Value.ref _, Value.int _ _]) _ _ _); k_dflt (refine' poly_c ?BZq ?FZq ?KZq ?NZq ?TZq ?kZq ?dZq ?uZq ?IZq ?pZq ?lZq ?sZq ?zZq ?_; (case BZq => k_asm); (case FZq => k_asm); (case KZq => k_asm); (case NZq => refine' news_cons ?NmZq ?NnZq ?NrZq; (case NnZq => k_asm); (case NrZq => k_asm); (case NmZq => k_mem)); (case TZq => k_asm); (case kZq => first | exact rfl | assumption); (case dZq => ktr_room); (case uZq => ktr_units); (case IZq => assumption); (case pZq => first | assumption | omega | ((simp only [List.length_append, List.length_drop, List.length_map, List.length_take]); omega)); (case lZq => first | assumption | omega | ((simp only [List.length_append, List.length_drop, List.length_map, List.length_take]); omega)); (case sZq => omega); (case zZq => omega); k_whole); intro x9 d9 l9 vs9 hs9 t9 h9 tk9 F9 N9 I9 o1 o2 o3; (try simp only [AllLt, and_true] at o1); (repeat (have hA := And.left o1; replace o1 := And.right o1)); (try simp only [Int.toNat_zero, List.replicate_zero, List.append_nil] at I9); (try dsimp only); (try k_sweep); walk_say "CONTRACT poly"))

local macro_rules | `(tactic| walk_at "call ref") => `(tactic| (k_here; (with_reducible show wpAny _ _ (call (Value.ref 266) [Value.ref _, Value.bool _]) _ _ _); k_dflt (refine' putbit_d ?BZq ?FZq ?KZq ?NZq ?bZq ?l1Zq ?U1Zq ?U2Zq ?TZq ?kZq ?dZq ?uZq ?a1Zq ?a2Zq ?a3Zq ?IZq ?lZq ?zZq ?yZq ?qZq ?_; (case BZq => k_asm); (case FZq => k_asm); (case KZq => k_asm); (case NZq => k_asm); (case bZq => k_mem); (case U1Zq => k_updF); (case l1Zq => k_mem); (case U2Zq => (intro o9; (try dsimp only); k_updF)); (case TZq => k_asm); (case kZq => first | exact rfl | assumption); (case dZq => ktr_room); (case uZq => ktr_units); (case a1Zq => k_ne); (case a2Zq => k_ne); (case a3Zq => k_ne); (case IZq => assumption); (case lZq => omega); (case zZq => first | assumption | omega); (case yZq => omega); (case qZq => first | assumption | omega); k_whole); intro vs9 zs9 n9 t9 h9 tk9 F9 N9 I9 e9 q9 l9 p9; (try dsimp only at N9); (try dsimp only); (try k_sweep); walk_say "CONTRACT putbit"))

local macro_rules | `(tactic| walk_at "UnrEnd") => `(tactic| (k_here; refine' unr_head ?FZq ?NZq ?oZq ?_; (case FZq => k_asm); (case NZq => k_asm); (case oZq => k_all); k_whole))

local macro_rules | `(tactic| walk_at "call ref") => `(tactic| (k_here; (with_reducible show wpAny _ _ (call (Value.ref 252) [Value.ref _, Value.int _ _, Value.int 8 _]) _ _ _); k_dflt (refine' put_d ?BZq ?FZq ?KZq ?NZq ?bZq ?l1Zq ?U1Zq ?U2Zq ?TZq ?kZq ?dZq ?uZq ?a1Zq ?a2Zq ?a3Zq ?IZq ?lZq ?eZq ?n0Zq ?n1Zq ?_; (case BZq => k_asm); (case FZq => k_asm); (case KZq => k_asm); (case NZq => k_asm); (case bZq => k_mem); (case U1Zq => k_updF); (case l1Zq => k_mem); (case U2Zq => (intro o9; (try dsimp only); k_updF)); (case TZq => k_asm); (case kZq => first | exact rfl | assumption); (case dZq => ktr_room); (case uZq => ktr_units); (case a1Zq => k_ne); (case a2Zq => k_ne); (case a3Zq => k_ne); (case IZq => with_reducible assumption); (case lZq => omega); (case eZq => first | with_reducible assumption | omega); (case n0Zq => omega); (case n1Zq => omega); k_whole); intro vs9 len9 n9 t9 h9 tk9 F9 N9 I9 e9; (try dsimp only at N9); (try dsimp only); (try k_sweep); walk_say "CONTRACT put"))

local macro_rules | `(tactic| walk_at "call ref") => `(tactic| (k_here; (with_reducible show wpAny _ _ (call (Value.ref 136) [Value.ref _, Value.ref _]) (PySem.W.CmpBack _) _ _); k_dflt (refine' mul_d ?BZq ?FZq ?KZq ?NZq ?m1Zq ?m2Zq ?m3Zq ?m4Zq ?m5Zq ?m6Zq ?TZq ?kZq ?I1Zq ?I2Zq ?l1Zq ?l2Zq ?p1Zq ?p2Zq ?r1Zq ?r2Zq ?dZq ?uZq ?_; (case BZq => k_asm); (case FZq => k_asm); (case KZq => k_asm); (case NZq => k_asm); (case m1Zq => k_mem); (case m2Zq => k_mem); (case m3Zq => k_mem); (case m4Zq => k_mem); (case m5Zq => k_mem); (case m6Zq => k_mem); (case TZq => k_asm); (case kZq => first | exact rfl | assumption); (case I1Zq => with_reducible assumption); (case I2Zq => with_reducible assumption); (case l1Zq => omega); (case l2Zq => omega); (case p1Zq => omega); (case p2Zq => omega); (case r1Zq => with_reducible assumption); (case r2Zq => with_reducible assumption); (case dZq => ktr_room); (case uZq => ktr_units); k_whole); intro x9 d9 l9 vs9 hs9 t9 h9 tk9 F9 N9 I9; dsimp only [PySem.W.CmpBack]; (try dsimp only); (try k_sweep); walk_say "CONTRACT mul"))
local macro_rules | `(tactic| walk_at "call ref") => `(tactic| (k_here; (with_reducible show wpAny _ _ (call (Value.ref 141) [Value.ref _, Value.ref _]) (PySem.W.CmpBack _) _ _); k_dflt (refine' mod_d (k := 38) ?BZq ?FZq ?KZq ?NZq ?m1Zq ?m2Zq ?m3Zq ?m4Zq ?m5Zq ?m6Zq ?TZq ?kZq ?I1Zq ?I2Zq ?l1Zq ?l2Zq ?p1Zq ?p2Zq ?qZq ?r1Zq ?r2Zq ?zZq ?dZq ?uZq ?_; (case BZq => k_asm); (case FZq => k_asm); (case KZq => k_asm); (case NZq => k_asm); (case m1Zq => k_mem); (case m2Zq => k_mem); (case m3Zq => k_mem); (case m4Zq => k_mem); (case m5Zq => k_mem); (case m6Zq => k_mem); (case TZq => k_asm); (case kZq => first | exact rfl | assumption); (case I1Zq => with_reducible assumption); (case I2Zq => with_reducible assumption); (case l1Zq => omega); (case l2Zq => omega); (case p1Zq => omega); (case p2Zq => omega); (case qZq => omega); (case r1Zq => with_reducible assumption); (case r2Zq => with_reducible assumption); (case zZq => with_reducible assumption); (case dZq => ktr_room); (case uZq => ktr_units); k_whole); intro x9 d9 l9 vs9 hs9 t9 k9 n9 h9 tk9 F9 N9 I9; dsimp only [PySem.W.CmpBack]; (try dsimp only); (try k_sweep); walk_say "CONTRACT mod"))

local macro_rules | `(tactic| walk_at "getMethod type:tuple") => `(tactic| (k_here; refine' method_type ?FZq ?XZq ?mZq (by decide +kernel) ?eZq ?hZq ?_; (case FZq => k_asm); (case XZq => k_asm); (case mZq => first | exact rfl | kernel_rfl); (case eZq => k_dflt k_is); (case hZq => k_handed)))
local macro_rules | `(tactic| walk_at "call builtin:tuple.__new__") => `(tactic| (k_here; (refine' tuple_childN (C := 216) ?FZq ?NZq ?XZq ?mZq ?oZq ?e2Zq ?lZq ?bZq ?sZq ?iZq ?tcZq ?tdZq ?szZq ?_; (case FZq => k_asm); (case NZq => k_asm); (case XZq => k_asm); (case mZq => k_mem); (case oZq => exact rfl); (case e2Zq => exact rfl); (case lZq => exact rfl); (case bZq => exact rfl); (case sZq => exact rfl); (case iZq => first | k_is | kernel_rfl); (case tcZq => exact rfl); (case tdZq => exact rfl); (case szZq => (rw [sizeLine_eq]; exact Nat.le_of_ble_eq_true rfl)); k_whole); intro x' dx' h' F' N' l1 o1; (try k_lt l1); (try k_sweep)))
section
local macro_rules | `(tactic| walk_at "call type:type") => `(tactic| (k_here; (rename News _ _ _ _ => kN); k_dflt (refine kto_own (C := 216) (od := some emptyDict) ⟨(kN _ (.head _)).1, rfl, rfl, (kN _ (.tail _ (.head _))).1⟩ ?_)))
local macro_rules | `(tactic| walk_at "call builtin:issubclass") => `(tactic| (k_here; k_dflt (refine' issub_call (b := true) ?XZq ?mZq ?cZq ?tZq ?sZq ?_; (case XZq => k_in); (case mZq => first | rfl | kernel_rfl); (case cZq => kernel_rfl); (case tZq => first | rfl | kernel_rfl); (case sZq => kernel_rfl); k_whole)))
local macro_rules | `(tactic| walk_at "call builtin:tuple.__getitem__") => `(tactic| (k_here; (rename News _ _ _ _ => kN); k_dflt (refine' child_item (C := 216) (od := some emptyDict) ?XZq ⟨(kN _ (.head _)).1, rfl, rfl, (kN _ (.tail _ (.head _))).1⟩ ?sZq ?aZq ?bZq ?kZq ?yZq ?_; (case XZq => k_in); (case sZq => kernel_rfl); (case aZq => decide); (case bZq => decide); (case kZq => exact rfl); (case yZq => exact rfl); k_whole)))
theorem fld_c {w : World} {p : Program} {loose : List Str} {mean : ExcName → Option Value} {mg mb : Str → Option Value}
  {dp un : Nat} {gd : Option (List Code)} {cn : Str} {cs : Scope} {a : Addr} {ccd : Value} {cl : List (Str × Addr)} {outer : List Env} {A₀ : Around} {base h₀ : Heap} {L : Addr} {m : Str → Option Value} {s : Shared} {Q E : Value → Shared → Prop}
  {news : List (Addr × Obj)} {x dx : Addr} {tc dc : Int} {t1 t2 : Tok} {ex : Bool}
  (hB : Below A₀ base outer h₀) (hF : Fr h₀ L s.heap m) (hK : (hd.heap_39 w.params).In h₀) (hN : News h₀ L s.heap ((x, childObj 216 dx #[.int tc t1, .int dc t2]) :: (dx, emptyDict) :: news)) (hT : Top p loose mean mg mb h₀) (hk : cs.kind = .function)
  (hdp : dp + 8 < recursionLimit) (hun : un + 40 < cLine)
  (hret : ∀ t h' tk', Fr h₀ L h' m → News h₀ L h' ((x, childObj 216 dx #[.int tc t1, .int dc t2]) :: (dx, emptyDict) :: news) → Q (.int dc t) { s with heap := h', toks := tk' }) :
  wpAny (model PySem.Challenge.pw_bq0024_01 w) (ktrTop dp un gd cn cs L a ccd cl outer) (getAttr (.ref x) (Str.ofString "data_count") ex) Q E s := by
  obtain ⟨hh, g, dr, t, os⟩ := s
  refine get_child (K := hd.heap_39 w.params) (C := 216) (od := some emptyDict) (g := .ref 57) (a := .ref 211) (hK.keeps hF.keep) ⟨(hN _ (.head _)).1, rfl, rfl, (hN _ (.tail _ (.head _))).1⟩ (by kernel_rfl) (by kernel_rfl) (by kernel_rfl) (by kernel_rfl) ?_
  dsimp only
  refine wpAny_call ?_
  refine' code_def ?k1 ?k2 ?k3 ?k4 ?k5 ?kA ?kF ?kK ?k6 ?k7 ?k8 ?k9 ?kB ?bodyZ ?c2 ?c3 ?c4 ?c5
  case kA => exact rfl
  case kF => exact rfl
  case kK => assumption
  case k1 => k_asm
  case k2 => k_asm
  case k3 => k_asm
  case k4 => k_asm
  case k5 => k_asm
  case k6 => k_is
  case k7 => k_is
  case k8 => ktr_room
  case k9 => exact binds_K (by k_in) rfl (by k_is) rfl rfl rfl
  case c5 => decide
  case kB => exact locs rfl
  case c2 => exact rfl
  case c3 => exact rfl
  case c4 => exact rfl
  case bodyZ =>
    k_whole
    intro g' L' h' FG' F' N' B' X' T'
    (try dsimp only)
    (try k_lift B')
    (try k_fold)
    k_steps
    all_goals cb_end hret
theorem fldt_c {w : World} {p : Program} {loose : List Str} {mean : ExcName → Option Value} {mg mb : Str → Option Value}
  {dp un : Nat} {gd : Option (List Code)} {cn : Str} {cs : Scope} {a : Addr} {ccd : Value} {cl : List (Str × Addr)} {outer : List Env} {A₀ : Around} {base h₀ : Heap} {L : Addr} {m : Str → Option Value} {s : Shared} {Q E : Value → Shared → Prop}
  {news : List (Addr × Obj)} {x dx : Addr} {tc dc : Int} {t1 t2 : Tok} {ex : Bool}
  (hB : Below A₀ base outer h₀) (hF : Fr h₀ L s.heap m) (hK : (hd.heap_39 w.params).In h₀) (hN : News h₀ L s.heap ((x, childObj 216 dx #[.int tc t1, .int dc t2]) :: (dx, emptyDict) :: news)) (hT : Top p loose mean mg mb h₀) (hk : cs.kind = .function)
  (hdp : dp + 8 < recursionLimit) (hun : un + 40 < cLine)
  (hret : ∀ t h' tk', Fr h₀ L h' m → News h₀ L h' ((x, childObj 216 dx #[.int tc t1, .int dc t2]) :: (dx, emptyDict) :: news) → Q (.int tc t) { s with heap := h', toks := tk' }) :
  wpAny (model PySem.Challenge.pw_bq0024_01 w) (ktrTop dp un gd cn cs L a ccd cl outer) (getAttr (.ref x) (Str.ofString "total_count") ex) Q E s := by
  obtain ⟨hh, g, dr, t, os⟩ := s
  refine get_child (K := hd.heap_39 w.params) (C := 216) (od := some emptyDict) (g := .ref 57) (a := .ref 208) (hK.keeps hF.keep) ⟨(hN _ (.head _)).1, rfl, rfl, (hN _ (.tail _ (.head _))).1⟩ (by kernel_rfl) (by kernel_rfl) (by kernel_rfl) (by kernel_rfl) ?_
  dsimp only
  refine wpAny_call ?_
  refine' code_def ?k1 ?k2 ?k3 ?k4 ?k5 ?kA ?kF ?kK ?k6 ?k7 ?k8 ?k9 ?kB ?bodyZ ?c2 ?c3 ?c4 ?c5
  case kA => exact rfl
  case kF => exact rfl
  case kK => assumption
  case k1 => k_asm
  case k2 => k_asm
  case k3 => k_asm
  case k4 => k_asm
  case k5 => k_asm
  case k6 => k_is
  case k7 => k_is
  case k8 => ktr_room
  case k9 => exact binds_K (by k_in) rfl (by k_is) rfl rfl rfl
  case c5 => decide
  case kB => exact locs rfl
  case c2 => exact rfl
  case c3 => exact rfl
  case c4 => exact rfl
  case bodyZ =>
    k_whole
    intro g' L' h' FG' F' N' B' X' T'
    (try dsimp only)
    (try k_lift B')
    (try k_fold)
    k_steps
    all_goals cb_end hret
end
theorem fld_d {w : World} {p : Program} {loose : List Str} {mean : ExcName → Option Value} {mg mb : Str → Option Value}
  {dp un : Nat} {gd : Option (List Code)} {cn : Str} {cs : Scope} {a : Addr} {ccd : Value} {cl : List (Str × Addr)} {outer : List Env} {A₀ : Around} {base h₀ : Heap} {L : Addr} {m : Str → Option Value} {s : Shared} {Q E : Value → Shared → Prop}
  {big : List (Addr × Obj)} {x dx : Addr} {tc dc : Int} {t1 t2 : Tok} {ex : Bool}
  (hB : Below A₀ base outer h₀) (hF : Fr h₀ L s.heap m) (hK : (hd.heap_39 w.params).In h₀) (hN : News h₀ L s.heap big) (hx : (x, childObj 216 dx #[.int tc t1, .int dc t2]) ∈ big) (hdx : (dx, emptyDict) ∈ big) (hT : Top p loose mean mg mb h₀) (hk : cs.kind = .function)
  (hdp : dp + 8 < recursionLimit) (hun : un + 40 < cLine)
  (hret : ∀ t h' tk', Fr h₀ L h' m → News h₀ L h' big → Q (.int dc t) { s with heap := h', toks := tk' }) :
  wpAny (model PySem.Challenge.pw_bq0024_01 w) (ktrTop dp un gd cn cs L a ccd cl outer) (getAttr (.ref x) (Str.ofString "data_count") ex) Q E s :=
  fld_c hB hF hK (news_cons hx hN (news_cons hdx hN hN)) hT hk hdp hun (fun t h' tk' F' N' => hret t h' tk' F' (fun q hq => N' q (.tail _ (.tail _ hq))))
theorem fldt_d {w : World} {p : Program} {loose : List Str} {mean : ExcName → Option Value} {mg mb : Str → Option Value}
  {dp un : Nat} {gd : Option (List Code)} {cn : Str} {cs : Scope} {a : Addr} {ccd : Value} {cl : List (Str × Addr)} {outer : List Env} {A₀ : Around} {base h₀ : Heap} {L : Addr} {m : Str → Option Value} {s : Shared} {Q E : Value → Shared → Prop}
  {big : List (Addr × Obj)} {x dx : Addr} {tc dc : Int} {t1 t2 : Tok} {ex : Bool}
  (hB : Below A₀ base outer h₀) (hF : Fr h₀ L s.heap m) (hK : (hd.heap_39 w.params).In h₀) (hN : News h₀ L s.heap big) (hx : (x, childObj 216 dx #[.int tc t1, .int dc t2]) ∈ big) (hdx : (dx, emptyDict) ∈ big) (hT : Top p loose mean mg mb h₀) (hk : cs.kind = .function)
  (hdp : dp + 8 < recursionLimit) (hun : un + 40 < cLine)
  (hret : ∀ t h' tk', Fr h₀ L h' m → News h₀ L h' big → Q (.int tc t) { s with heap := h', toks := tk' }) :
  wpAny (model PySem.Challenge.pw_bq0024_01 w) (ktrTop dp un gd cn cs L a ccd cl outer) (getAttr (.ref x) (Str.ofString "total_count") ex) Q E s :=
  fldt_c hB hF hK (news_cons hx hN (news_cons hdx hN hN)) hT hk hdp hun (fun t h' tk' F' N' => hret t h' tk' F' (fun q hq => N' q (.tail _ (.tail _ hq))))
local macro_rules | `(tactic| walk_at "getAttr ref") => `(tactic| (k_here; (with_reducible show wpAny _ _ (getAttr (Value.ref _) (PySem.Str.ofString "data_count") _) _ _ _); k_dflt (refine' fld_d ?BZq ?FZq ?KZq ?NZq ?mxZq ?mdZq ?TZq ?kZq ?dZq ?uZq ?_; (case BZq => k_asm); (case FZq => k_asm); (case KZq => k_asm); (case NZq => k_asm); (case mxZq => k_mem); (case mdZq => k_mem); (case TZq => k_asm); (case kZq => first | exact rfl | assumption); (case dZq => ktr_room); (case uZq => ktr_units); k_whole); intro t9 h9 tk9 F9 N9; (try dsimp only); (try k_sweep); walk_say "CONTRACT data_count"))
local macro_rules | `(tactic| walk_at "getAttr ref") => `(tactic| (k_here; (with_reducible show wpAny _ _ (getAttr (Value.ref _) (PySem.Str.ofString "total_count") _) _ _ _); k_dflt (refine' fldt_d ?BZq ?FZq ?KZq ?NZq ?mxZq ?mdZq ?TZq ?kZq ?dZq ?uZq ?_; (case BZq => k_asm); (case FZq => k_asm); (case KZq => k_asm); (case NZq => k_asm); (case mxZq => k_mem); (case mdZq => k_mem); (case TZq => k_asm); (case kZq => first | exact rfl | assumption); (case dZq => ktr_room); (case uZq => ktr_units); k_whole); intro t9 h9 tk9 F9 N9; (try dsimp only); (try k_sweep); walk_say "CONTRACT total_count"))
local macro_rules | `(tactic| walk_at "call ref") => `(tactic| (k_here; (with_reducible show wpAny _ _ (call (Value.ref 216) [Value.int _ _, Value.int _ _]) _ _ _); k_dflt (refine' rsb_c ?BZq ?FZq ?KZq ?NZq ?TZq ?kZq ?dZq ?uZq ?_; (case BZq => k_asm); (case FZq => k_asm); (case KZq => k_asm); (case NZq => k_asm); (case TZq => k_asm); (case kZq => first | exact rfl | assumption); (case dZq => ktr_room); (case uZq => ktr_units); k_whole); intro x9 d9 h9 tk9 F9 N9 o1 o2; (try simp only [AllLt, and_true] at o1); (repeat (have hA := And.left o1; replace o1 := And.right o1)); (try dsimp only); (try k_sweep); walk_say "CONTRACT RSBlock"))
end
section
local macro_rules | `(tactic| walk_at "pad 0") => `(tactic| skip)
local macro_rules | `(tactic| walk_at "pad 1") => `(tactic| skip)
local macro_rules | `(tactic| walk_at "pad 2") => `(tactic| skip)
local macro_rules | `(tactic| walk_at "pad 3") => `(tactic| skip)
local macro_rules | `(tactic| walk_at "pad 4") => `(tactic| skip)
local macro_rules | `(tactic| walk_at "pad 5") => `(tactic| skip)
local macro_rules | `(tactic| walk_at "pad 6") => `(tactic| skip)
local macro_rules | `(tactic| walk_at "pad 7") => `(tactic| skip)
local macro_rules | `(tactic| walk_at "pad 8") => `(tactic| skip)
local macro_rules | `(tactic| walk_at "pad 9") => `(tactic| skip)
theorem fillNow_poly7 : (PySem.Challenge.rw_bq0024_01 = PySem.Challenge.rw_bq0024_01) ∧ (hd.heap_39 = hd.heap_39) := by
  w_top off
  k_fill
  exact ⟨rfl, rfl⟩

local macro_rules | `(tactic| k_room) => `(tactic| ktr_room)
local macro_rules | `(tactic| k_lt $h:ident) => `(tactic| (replace $h := allLt_of $h; simp only [AllLt, and_true] at $h:ident; repeat (have hA := And.left $h; replace $h := And.right $h)))
local macro_rules | `(tactic| k_ne) => `(tactic| first | with_reducible assumption | (refine Ne.symm ?_; with_reducible assumption) | (refine Nat.ne_of_lt ?_; with_reducible assumption) | (refine Nat.ne_of_gt ?_; with_reducible assumption))
local macro_rules | `(tactic| k_all) => `(tactic| ((fail_if_success (refine' List.forall_mem_cons.mpr ⟨?tailNg, ?tailNh⟩)); rename AllLt _ _ => hAL; first | (refine allLt_ne hAL ?_; (try dsimp only); first | exact Nat.le_refl _ | (refine Nat.le_of_lt ?_; with_reducible assumption)) | (clear hAL; k_all) | (refine allLt_ne hAL ?_; (try dsimp only); omega)))
local macro_rules | `(tactic| k_all) => `(tactic| ((fail_if_success (refine' List.forall_mem_cons.mpr ⟨?tailNe, ?tailNf⟩)); with_reducible assumption))
local macro_rules | `(tactic| k_all) => `(tactic| (with_reducible refine all_append ?_ ?_ <;> k_all))
local macro_rules | `(tactic| k_all) => `(tactic| first | exact List.forall_mem_nil _ | (refine' List.forall_mem_cons.mpr ⟨?caZq, ?cbZq⟩; (case caZq => k_ne); (case cbZq => k_all)))
local macro_rules | `(tactic| k_units) => `(tactic| ktr_units)
local macro_rules | `(tactic| k_enter) => `(tactic| (refine' code_defC ?k1 ?k2 ?k3 ?k4 ?k5 ?kAZq ?kFZq ?kKZq ?k6 ?k7 ?k8 ?k9 ?kBZq ?kDZq ?_ ?c2 ?c3 ?c4; (case kAZq => exact rfl); (case kFZq => exact rfl); (case kKZq => first | exact rfl | assumption); (case k1 => k_asm); (case k2 => k_asm); (case k3 => k_asm); (case k4 => k_asm); (case k5 => k_asm); (case k6 => k_is); (case k7 => k_is); (case k8 => ktr_room); (case k9 => exact BindsTo.of_eq rfl); (case kBZq => exact rfl); (case kDZq => decide +kernel); (case c2 => exact rfl); (case c3 => exact rfl); (case c4 => exact rfl); k_whole; intro g' L' h' tk' cells' FG' F' N' Y' B' X' T' l1; (try k_lt l1); k_cells Y'; (try simp only [List.cons_append, List.nil_append] at N'); (try dsimp only); (try k_lift B'); (try k_fold)))
local macro_rules | `(tactic| k_enter) => `(tactic| cell_enter)
local macro_rules | `(tactic| walk_at "subscriptTail") => `(tactic| (k_here; (with_reducible show wpAny _ _ (subscriptTail _ _ (Value.ref 79) (Value.int _ _)) _ _ _); k_dflt (refine' topItemI (ns := expL) ?FZq ?XZq ?lZq ?iZq ?aZq ?bZq ?dZq ?_; (case FZq => k_asm); (case XZq => k_asm); (case lZq => k_is); (case iZq => exact intsB_of (by decide +kernel)); (case aZq => (try simp only [expL_len]); omega); (case bZq => (try simp only [expL_len]); omega); (case dZq => (try simp only [expL_len]); omega); k_whole); intro tE))
local macro_rules | `(tactic| walk_at "subscriptTail") => `(tactic| (k_here; (with_reducible show wpAny _ _ (subscriptTail _ _ (Value.ref 80) (Value.int _ _)) _ _ _); k_dflt (refine' topItemI (ns := logL) ?FZq ?XZq ?lZq ?iZq ?aZq ?bZq ?dZq ?_; (case FZq => k_asm); (case XZq => k_asm); (case lZq => k_is); (case iZq => exact intsB_of (by decide +kernel)); (case aZq => (try simp only [logL_len]); omega); (case bZq => (try simp only [logL_len]); omega); (case dZq => (try simp only [logL_len]); omega); k_whole); intro tE))


local macro_rules | `(tactic| walk_at "call ref") => `(tactic| (k_here; (with_reducible show wpAny _ _ (call (Value.ref 94) [Value.int _ _]) _ _ _); k_dflt (refine' gexp_c ?BZq ?FZq ?KZq ?NZq ?TZq ?kZq ?dZq ?uZq ?_; (case BZq => k_asm); (case FZq => k_asm); (case KZq => k_asm); (case NZq => k_asm); (case TZq => k_asm); (case kZq => first | exact rfl | assumption); (case dZq => ktr_room); (case uZq => ktr_units); k_whole); intro t9 h9 tk9 F9 N9; (try dsimp only); (try k_sweep); walk_say "CONTRACT gexp"))
local macro_rules | `(tactic| walk_at "call ref") => `(tactic| (k_here; (with_reducible show wpAny _ _ (call (Value.ref 87) [Value.int _ _]) _ _ _); k_dflt (refine' glog_c ?BZq ?FZq ?KZq ?NZq ?TZq ?kZq ?dZq ?uZq ?xZq ?yZq ?_; (case BZq => k_asm); (case FZq => k_asm); (case KZq => k_asm); (case NZq => k_asm); (case TZq => k_asm); (case kZq => first | exact rfl | assumption); (case dZq => ktr_room); (case uZq => ktr_units); (case xZq => first | assumption | omega); (case yZq => first | assumption | omega); k_whole); intro t9 h9 tk9 F9 N9; (try dsimp only); (try k_sweep); walk_say "CONTRACT glog"))
local macro_rules | `(tactic| walk_at "subscriptTail Name Slice ref ref") => `(tactic| (k_here; (with_reducible show wpAny _ _ (subscriptTail _ (PySem.Expr.Slice (some _) none none _) (Value.ref _) (Value.ref _)) _ _ _); k_dflt (refine' kmk_slice_ints ?FZq ?NZq ?lZq ?pZq ?qZq ?iZq ?mZq ?cZq ?_ ?sZq ?tZq ?zZq; (case FZq => k_asm); (case NZq => k_asm); (case lZq => kmk_list); (case pZq => kmk_part); (case qZq => kmk_part); (case iZq => assumption); (case mZq => exact kmk_from (by assumption) (by omega)); (case cZq => exact rfl); (case sZq => with_unfolding_all rfl); (case tZq => kmk_pure); (case zZq => simp only [List.size_toArray, sizeLine_eq, IntsAre.length (by assumption)]; omega)); intro D' ws' h' F' N' l1 hI' hC' hL'; clear hC' hL'; (try k_lt l1); (try k_sweep)))
local macro_rules | `(tactic| walk_at "exec Assign cons ListComp") => `(tactic| (k_here; (with_reducible show wpAny _ _ (exec (Stmt.Assign [_] (PySem.Expr.ListComp _ [⟨PySem.Expr.Tuple _ _ _, _, _, _⟩] _ _) _) _) _ _ _); k_dflt (refine assign_comp_pairs (by k_asm) (by with_unfolding_all rfl) (by with_unfolding_all rfl) (by decide) (by rfl) (by decide) (by rfl) (by rfl) (by decide) (by rfl) (by rfl) ?_)))
local macro_rules | `(tactic| walk_at "call type:zip") => `(tactic| (k_here; (with_reducible show wpAny _ _ (call (Value.type _) [Value.ref _, Value.ref _]) _ _ _); k_dflt (refine call_zip_own ?_)))
local macro_rules | `(tactic| walk_at "call type:enumerate") => `(tactic| (k_here; (with_reducible show wpAny _ _ (call (Value.type _) [Value.ref _]) _ _ _); k_dflt (refine call_enum_own ?_)))
local macro_rules | `(tactic| walk_at "pyIter ref") => `(tactic| (k_here; k_dflt (refine' owit_iter ?FZq ?XZq ?IZq ?hsZq ?hfZq ?_; (case FZq => k_asm); (case XZq => k_asm); (case IZq => k_inst); (case hsZq => k_is); (case hfZq => k_is); k_whole)))
local macro_rules | `(tactic| walk_at "OwitIt") => `(tactic| (k_here; k_dflt (refine' owit_li ?NZq ?iZq ?_; (case NZq => k_asm); (case iZq => k_mem); k_whole)))
local macro_rules | `(tactic| walk_at "call builtin:iter") => `(tactic| (k_here; (with_reducible show wpAny _ _ (call (Value.builtin "iter") [Value.ref _]) _ _ _); k_dflt (refine' call_iter_led ?FZq ?NZq ?lZq ?_; (case FZq => k_asm); (case NZq => k_asm); (case lZq => k_mem); k_whole); intro I' h' F' N' l1; (try k_lt l1); (try k_sweep)))
local macro_rules | `(tactic| walk_at "subscriptTail Name Slice ref ref") => `(tactic| (k_here; (with_reducible show wpAny _ _ (subscriptTail _ (PySem.Expr.Slice _ _ none _) (Value.ref _) (Value.ref _)) _ _ _); k_dflt (refine' sub_own_slice ?FZq ?XZq ?NZq ?IZq ?qZq ?hsZq ?hfZq ?hgZq ?_; (case FZq => k_asm); (case XZq => k_asm); (case NZq => k_asm); (case IZq => k_inst); (case qZq => k_is); (case hsZq => k_is); (case hfZq => k_is); (case hgZq => k_is); k_whole); intro sl' h' F' N' l1; (try k_lt l1); (try k_sweep)))
local macro_rules | `(tactic| walk_at "subscriptTail") => `(tactic| (k_here; (with_reducible show wpAny _ _ (subscriptTail _ (PySem.Expr.Name _ _) (Value.ref _) (Value.ref _)) _ _ _); k_dflt (refine' sub_list_slice ?FZq ?NZq ?lZq ?slZq ?paZq ?pbZq ?IZq ?mZq ?zZq ?_; (case FZq => k_asm); (case NZq => k_asm); (case lZq => k_mem); (case slZq => k_mem); (case paZq => kmk_part); (case pbZq => kmk_part); (case IZq => assumption); (case mZq => first | exact kmk_from_neg (by assumption) (by omega) | exact kmk_from (by assumption) (by omega) | exact kmk_upto (by assumption) (by omega) | exact kmk_upto_neg (by assumption) (by omega)); (case zZq => rw [sizeLine_eq]; omega); k_whole); intro D' ws' h' F' N' l1 hI'; (try k_lt l1); (try k_sweep)))
local macro_rules | `(tactic| walk_at "call builtin:list.extend") => `(tactic| (k_here; (with_reducible show wpAny _ _ (call (Value.builtin _) [Value.ref _, Value.ref _]) _ _ _); k_dflt (refine' ext_ints ?FZq ?NZq ?bZq ?UZq ?I1Zq ?I2Zq ?neZq ?h1Zq ?h2Zq ?_; (case FZq => k_asm); (case NZq => k_asm); (case bZq => k_mem); (case UZq => k_upd); (case I1Zq => assumption); (case I2Zq => assumption); (case neZq => (try simp only [List.length_drop]); omega); (case h1Zq => omega); (case h2Zq => (try simp only [List.length_drop]); omega); k_whole); intro vs' h' F' eX' N' hI'; (try rw [← eX'] at N'); clear eX'; (try k_sweep)))
local macro_rules | `(tactic| walk_at "call builtin:list.append") => `(tactic| (k_here; (with_reducible show wpAny _ _ (call (Value.builtin _) [Value.ref _, Value.int _ _]) _ _ _); k_dflt (refine' app_ints ?FZq ?NZq ?UZq ?I1Zq ?h1Zq ?_; (case FZq => k_asm); (case NZq => k_asm); (case UZq => k_upd); (case I1Zq => first | assumption | exact IntsAre.nil); (case h1Zq => first | omega | ((simp only [List.length_append, List.length_cons, List.length_nil]); omega)); k_whole); intro vs' h' F' eX' N' hI'; (try rw [← eX'] at N'); clear eX'; (try k_sweep)))

local macro_rules | `(tactic| walk_at "call ref") => `(tactic| (k_here; (with_reducible show wpAny _ _ (call (Value.ref 144) [Value.ref _, Value.int _ _]) _ _ _); k_dflt (refine' poly_c ?BZq ?FZq ?KZq ?NZq ?TZq ?kZq ?dZq ?uZq ?IZq ?pZq ?lZq ?sZq ?zZq ?_; (case BZq => k_asm); (case FZq => k_asm); (case KZq => k_asm); (case NZq => refine' news_cons ?NmZq ?NnZq ?NrZq; (case NnZq => k_asm); (case NrZq => k_asm); (case NmZq => k_mem)); (case TZq => k_asm); (case kZq => first | exact rfl | assumption); (case dZq => ktr_room); (case uZq => ktr_units); (case IZq => assumption); (case pZq => first | assumption | omega | ((simp only [List.length_append, List.length_drop, List.length_map, List.length_take]); omega)); (case lZq => first | assumption | omega | ((simp only [List.length_append, List.length_drop, List.length_map, List.length_take]); omega)); (case sZq => omega); (case zZq => omega); k_whole); intro x9 d9 l9 vs9 hs9 t9 h9 tk9 F9 N9 I9 o1 o2 o3; (try simp only [AllLt, and_true] at o1); (repeat (have hA := And.left o1; replace o1 := And.right o1)); (try simp only [Int.toNat_zero, List.replicate_zero, List.append_nil] at I9); (try dsimp only); (try k_sweep); walk_say "CONTRACT poly"))

local macro_rules | `(tactic| walk_at "call ref") => `(tactic| (k_here; (with_reducible show wpAny _ _ (call (Value.ref 266) [Value.ref _, Value.bool _]) _ _ _); k_dflt (refine' putbit_d ?BZq ?FZq ?KZq ?NZq ?bZq ?l1Zq ?U1Zq ?U2Zq ?TZq ?kZq ?dZq ?uZq ?a1Zq ?a2Zq ?a3Zq ?IZq ?lZq ?zZq ?yZq ?qZq ?_; (case BZq => k_asm); (case FZq => k_asm); (case KZq => k_asm); (case NZq => k_asm); (case bZq => k_mem); (case U1Zq => k_updF); (case l1Zq => k_mem); (case U2Zq => (intro o9; (try dsimp only); k_updF)); (case TZq => k_asm); (case kZq => first | exact rfl | assumption); (case dZq => ktr_room); (case uZq => ktr_units); (case a1Zq => k_ne); (case a2Zq => k_ne); (case a3Zq => k_ne); (case IZq => assumption); (case lZq => omega); (case zZq => first | assumption | omega); (case yZq => omega); (case qZq => first | assumption | omega); k_whole); intro vs9 zs9 n9 t9 h9 tk9 F9 N9 I9 e9 q9 l9 p9; (try dsimp only at N9); (try dsimp only); (try k_sweep); walk_say "CONTRACT putbit"))

local macro_rules | `(tactic| walk_at "UnrEnd") => `(tactic| (k_here; refine' unr_head ?FZq ?NZq ?oZq ?_; (case FZq => k_asm); (case NZq => k_asm); (case oZq => k_all); k_whole))

local macro_rules | `(tactic| walk_at "call ref") => `(tactic| (k_here; (with_reducible show wpAny _ _ (call (Value.ref 252) [Value.ref _, Value.int _ _, Value.int 8 _]) _ _ _); k_dflt (refine' put_d ?BZq ?FZq ?KZq ?NZq ?bZq ?l1Zq ?U1Zq ?U2Zq ?TZq ?kZq ?dZq ?uZq ?a1Zq ?a2Zq ?a3Zq ?IZq ?lZq ?eZq ?n0Zq ?n1Zq ?_; (case BZq => k_asm); (case FZq => k_asm); (case KZq => k_asm); (case NZq => k_asm); (case bZq => k_mem); (case U1Zq => k_updF); (case l1Zq => k_mem); (case U2Zq => (intro o9; (try dsimp only); k_updF)); (case TZq => k_asm); (case kZq => first | exact rfl | assumption); (case dZq => ktr_room); (case uZq => ktr_units); (case a1Zq => k_ne); (case a2Zq => k_ne); (case a3Zq => k_ne); (case IZq => with_reducible assumption); (case lZq => omega); (case eZq => first | with_reducible assumption | omega); (case n0Zq => omega); (case n1Zq => omega); k_whole); intro vs9 len9 n9 t9 h9 tk9 F9 N9 I9 e9; (try dsimp only at N9); (try dsimp only); (try k_sweep); walk_say "CONTRACT put"))

local macro_rules | `(tactic| walk_at "call ref") => `(tactic| (k_here; (with_reducible show wpAny _ _ (call (Value.ref 136) [Value.ref _, Value.ref _]) (PySem.W.CmpBack _) _ _); k_dflt (refine' mul_d ?BZq ?FZq ?KZq ?NZq ?m1Zq ?m2Zq ?m3Zq ?m4Zq ?m5Zq ?m6Zq ?TZq ?kZq ?I1Zq ?I2Zq ?l1Zq ?l2Zq ?p1Zq ?p2Zq ?r1Zq ?r2Zq ?dZq ?uZq ?_; (case BZq => k_asm); (case FZq => k_asm); (case KZq => k_asm); (case NZq => k_asm); (case m1Zq => k_mem); (case m2Zq => k_mem); (case m3Zq => k_mem); (case m4Zq => k_mem); (case m5Zq => k_mem); (case m6Zq => k_mem); (case TZq => k_asm); (case kZq => first | exact rfl | assumption); (case I1Zq => with_reducible assumption); (case I2Zq => with_reducible assumption); (case l1Zq => omega); (case l2Zq => omega); (case p1Zq => omega); (case p2Zq => omega); (case r1Zq => with_reducible assumption); (case r2Zq => with_reducible assumption); (case dZq => ktr_room); (case uZq => ktr_units); k_whole); intro x9 d9 l9 vs9 hs9 t9 h9 tk9 F9 N9 I9; dsimp only [PySem.W.CmpBack]; (try dsimp only); (try k_sweep); walk_say "CONTRACT mul"))
local macro_rules | `(tactic| walk_at "call ref") => `(tactic| (k_here; (with_reducible show wpAny _ _ (call (Value.ref 141) [Value.ref _, Value.ref _]) (PySem.W.CmpBack _) _ _); k_dflt (refine' mod_d (k := 38) ?BZq ?FZq ?KZq ?NZq ?m1Zq ?m2Zq ?m3Zq ?m4Zq ?m5Zq ?m6Zq ?TZq ?kZq ?I1Zq ?I2Zq ?l1Zq ?l2Zq ?p1Zq ?p2Zq ?qZq ?r1Zq ?r2Zq ?zZq ?dZq ?uZq ?_; (case BZq => k_asm); (case FZq => k_asm); (case KZq => k_asm); (case NZq => k_asm); (case m1Zq => k_mem); (case m2Zq => k_mem); (case m3Zq => k_mem); (case m4Zq => k_mem); (case m5Zq => k_mem); (case m6Zq => k_mem); (case TZq => k_asm); (case kZq => first | exact rfl | assumption); (case I1Zq => with_reducible assumption); (case I2Zq => with_reducible assumption); (case l1Zq => omega); (case l2Zq => omega); (case p1Zq => omega); (case p2Zq => omega); (case qZq => omega); (case r1Zq => with_reducible assumption); (case r2Zq => with_reducible assumption); (case zZq => with_reducible assumption); (case dZq => ktr_room); (case uZq => ktr_units); k_whole); intro x9 d9 l9 vs9 hs9 t9 k9 n9 h9 tk9 F9 N9 I9; dsimp only [PySem.W.CmpBack]; (try dsimp only); (try k_sweep); walk_say "CONTRACT mod"))

local macro_rules | `(tactic| walk_at "getMethod type:tuple") => `(tactic| (k_here; refine' method_type ?FZq ?XZq ?mZq (by decide +kernel) ?eZq ?hZq ?_; (case FZq => k_asm); (case XZq => k_asm); (case mZq => first | exact rfl | kernel_rfl); (case eZq => k_dflt k_is); (case hZq => k_handed)))
local macro_rules | `(tactic| walk_at "call builtin:tuple.__new__") => `(tactic| (k_here; (refine' tuple_childN (C := 216) ?FZq ?NZq ?XZq ?mZq ?oZq ?e2Zq ?lZq ?bZq ?sZq ?iZq ?tcZq ?tdZq ?szZq ?_; (case FZq => k_asm); (case NZq => k_asm); (case XZq => k_asm); (case mZq => k_mem); (case oZq => exact rfl); (case e2Zq => exact rfl); (case lZq => exact rfl); (case bZq => exact rfl); (case sZq => exact rfl); (case iZq => first | k_is | kernel_rfl); (case tcZq => exact rfl); (case tdZq => exact rfl); (case szZq => (rw [sizeLine_eq]; exact Nat.le_of_ble_eq_true rfl)); k_whole); intro x' dx' h' F' N' l1 o1; (try k_lt l1); (try k_sweep)))

local macro_rules | `(tactic| walk_at "getAttr ref") => `(tactic| (k_here; (with_reducible show wpAny _ _ (getAttr (Value.ref _) (PySem.Str.ofString "data_count") _) _ _ _); k_dflt (refine' fld_d ?BZq ?FZq ?KZq ?NZq ?mxZq ?mdZq ?TZq ?kZq ?dZq ?uZq ?_; (case BZq => k_asm); (case FZq => k_asm); (case KZq => k_asm); (case NZq => k_asm); (case mxZq => k_mem); (case mdZq => k_mem); (case TZq => k_asm); (case kZq => first | exact rfl | assumption); (case dZq => ktr_room); (case uZq => ktr_units); k_whole); intro t9 h9 tk9 F9 N9; (try dsimp only); (try k_sweep); walk_say "CONTRACT data_count"))
local macro_rules | `(tactic| walk_at "getAttr ref") => `(tactic| (k_here; (with_reducible show wpAny _ _ (getAttr (Value.ref _) (PySem.Str.ofString "total_count") _) _ _ _); k_dflt (refine' fldt_d ?BZq ?FZq ?KZq ?NZq ?mxZq ?mdZq ?TZq ?kZq ?dZq ?uZq ?_; (case BZq => k_asm); (case FZq => k_asm); (case KZq => k_asm); (case NZq => k_asm); (case mxZq => k_mem); (case mdZq => k_mem); (case TZq => k_asm); (case kZq => first | exact rfl | assumption); (case dZq => ktr_room); (case uZq => ktr_units); k_whole); intro t9 h9 tk9 F9 N9; (try dsimp only); (try k_sweep); walk_say "CONTRACT total_count"))
local macro_rules | `(tactic| walk_at "call ref") => `(tactic| (k_here; (with_reducible show wpAny _ _ (call (Value.ref 216) [Value.int _ _, Value.int _ _]) _ _ _); k_dflt (refine' rsb_c ?BZq ?FZq ?KZq ?NZq ?TZq ?kZq ?dZq ?uZq ?_; (case BZq => k_asm); (case FZq => k_asm); (case KZq => k_asm); (case NZq => k_asm); (case TZq => k_asm); (case kZq => first | exact rfl | assumption); (case dZq => ktr_room); (case uZq => ktr_units); k_whole); intro x9 d9 h9 tk9 F9 N9 o1 o2; (try simp only [AllLt, and_true] at o1); (repeat (have hA := And.left o1; replace o1 := And.right o1)); (try dsimp only); (try k_sweep); walk_say "CONTRACT RSBlock"))
theorem lut7_len : lut7.length = 8 := rfl
section
local macro_rules | `(tactic| walk_at "subscriptTail") => `(tactic| (k_here; (with_reducible show wpAny _ _ (subscriptTail _ _ (Value.ref 23) (Value.int _ _)) _ _ _); k_dflt (refine' topItemI (ns := lut7) ?FZq ?XZq ?lZq ?iZq ?aZq ?bZq ?dZq ?_; (case FZq => k_asm); (case XZq => k_asm); (case lZq => k_is); (case iZq => exact intsB_of (by decide +kernel)); (case aZq => (try simp only [lut7_len]); omega); (case bZq => (try simp only [lut7_len]); omega); (case dZq => (try simp only [lut7_len]); omega); k_whole); intro tE))
local macro_rules | `(tactic| walk_at "truthy ref") => `(tactic| (k_here; (with_reducible show wpAny _ _ (truthy (Value.ref 23)) _ _ _); k_dflt (refine' wpAny_truthy_list (lstK (K := hd.heap_39 _) (l := [_, _, _, _, _, _, _, _]) ?XZq ?lZq) ?fZq ?_; (case XZq => k_in); (case lZq => exact rfl); (case fZq => decide); k_whole)))
local macro_rules | `(tactic| walk_at "call builtin:len") => `(tactic| (k_here; (with_reducible show wpAny _ _ (call _ [Value.ref 23]) _ _ _); k_dflt (refine' call_len_list (lstK (K := hd.heap_39 _) (l := [_, _, _, _, _, _, _, _]) ?XZq ?lZq) ?fZq ?_; (case XZq => k_in); (case lZq => exact rfl); (case fZq => decide); k_whole)))
local macro_rules | `(tactic| walk_at "subscriptTail Name Slice ref ref") => `(tactic| (k_here; (with_reducible show wpAny _ _ (subscriptTail _ (PySem.Expr.Slice (some _) none none _) (Value.ref 23) (Value.ref _)) _ _ _); k_dflt (refine' kmk_slice_ints (ns := lut7) ?FZq ?NZq (lstK (K := hd.heap_39 _) (l := [_, _, _, _, _, _, _, _]) ?XZq ?lZq) ?pZq ?qZq ?iZq ?mZq ?cZq ?_ ?sZq ?tZq ?zZq; (case FZq => k_asm); (case NZq => k_asm); (case XZq => k_in); (case lZq => exact rfl); (case pZq => kmk_part); (case qZq => kmk_part); (case iZq => exact intsB_of (by decide +kernel)); (case mZq => exact kmk_from (ns := lut7) (intsB_of (by decide +kernel)) (by omega)); (case cZq => exact rfl); (case sZq => with_unfolding_all rfl); (case tZq => kmk_pure); (case zZq => (rw [sizeLine_eq]; decide))); intro D' ws' h' F' N' l1 hI' hC' hL'; clear hC' hL'; (try k_lt l1); (try k_sweep)))
theorem poly7_c {w : World} {p : Program} {loose : List Str} {mean : ExcName → Option Value} {mg mb : Str → Option Value}
  {dp un : Nat} {gd : Option (List Code)} {cn : Str} {cs : Scope} {a : Addr} {ccd : Value} {cl : List (Str × Addr)} {outer : List Env} {A₀ : Around} {base h₀ : Heap} {L : Addr} {m : Str → Option Value} {s : Shared} {Q E : Value → Shared → Prop}
  {news : List (Addr × Obj)} {t : Tok} 
  (hB : Below A₀ base outer h₀) (hF : Fr h₀ L s.heap m) (hK : (hd.heap_39 w.params).In h₀) (hN : News h₀ L s.heap news) (hT : Top p loose mean mg mb h₀) (hk : cs.kind = .function)
  (hdp : dp + 8 < recursionLimit) (hun : un + 40 < cLine)
  (hret : ∀ x dx lx vs' hs tk0 h' tk', Fr h₀ L h' m → News h₀ L h' ((x, instObj 144 dx) :: (dx, dictOf [⟨hs, .str (Str.ofString "num") tk0, .ref lx⟩] 1) :: (lx, listOf (List.toArray vs') 0) :: news) →
    IntsAre vs' lut7 → AllLt dx news → (@LT.lt Nat _ dx x) → (@LT.lt Nat _ x lx) → Q (.ref x) { s with heap := h', toks := tk' }) :
  wpAny (model PySem.Challenge.pw_bq0024_01 w) (ktrTop dp un gd cn cs L a ccd cl outer) (call (.ref 144) [.ref 23, .int 0 t]) Q E s := by
  k_steps
  (rename Fr h₀ L _ _ => kF)
  (rename News h₀ L _ _ => kN)
  refine hret _ _ _ _ _ _ _ _ kF (news_cons (by k_mem) kN (news_cons (by k_mem) kN (news_cons (by k_mem) kN (fun q hq => kN q (by k_ownIn))))) (ints_cast (by assumption) ?_) ?_ ?_ ?_
  · first | rfl | decide
  · first | assumption | (refine allLt_of ?_; assumption)
  · omega
  · omega
end
local macro_rules | `(tactic| walk_at "call ref") => `(tactic| (k_here; (with_reducible show wpAny _ _ (call (Value.ref 144) [Value.ref 23, Value.int _ _]) _ _ _); k_dflt (refine' poly7_c ?BZq ?FZq ?KZq ?NZq ?TZq ?kZq ?dZq ?uZq ?_; (case BZq => k_asm); (case FZq => k_asm); (case KZq => k_asm); (case NZq => k_asm); (case TZq => k_asm); (case kZq => first | exact rfl | assumption); (case dZq => ktr_room); (case uZq => ktr_units); k_whole); intro x9 d9 l9 vs9 hs9 t9 h9 tk9 F9 N9 I9 o1 o2 o3; (try simp only [AllLt, and_true] at o1); (repeat (have hA := And.left o1; replace o1 := And.right o1)); (try dsimp only); (try k_sweep); walk_say "CONTRACT poly7"))
end
section
local macro_rules | `(tactic| walk_at "pad 0") => `(tactic| skip)
local macro_rules | `(tactic| walk_at "pad 1") => `(tactic| skip)
local macro_rules | `(tactic| walk_at "pad 2") => `(tactic| skip)
local macro_rules | `(tactic| walk_at "pad 3") => `(tactic| skip)
local macro_rules | `(tactic| walk_at "pad 4") => `(tactic| skip)
local macro_rules | `(tactic| walk_at "pad 5") => `(tactic| skip)
local macro_rules | `(tactic| walk_at "pad 6") => `(tactic| skip)
local macro_rules | `(tactic| walk_at "pad 7") => `(tactic| skip)
local macro_rules | `(tactic| walk_at "pad 8") => `(tactic| skip)
local macro_rules | `(tactic| walk_at "pad 9") => `(tactic| skip)
local macro_rules | `(tactic| walk_at "pad 10") => `(tactic| skip)
local macro_rules | `(tactic| walk_at "pad 11") => `(tactic| skip)
local macro_rules | `(tactic| walk_at "pad 12") => `(tactic| skip)
local macro_rules | `(tactic| walk_at "pad 13") => `(tactic| skip)
local macro_rules | `(tactic| walk_at "pad 14") => `(tactic| skip)
theorem fillNow_cb : (PySem.Challenge.rw_bq0024_01 = PySem.Challenge.rw_bq0024_01) ∧ (hd.heap_39 = hd.heap_39) := by
  w_top off
  k_fill
  exact ⟨rfl, rfl⟩

local macro_rules | `(tactic| k_room) => `(tactic| ktr_room)
local macro_rules | `(tactic| k_lt $h:ident) => `(tactic| (replace $h := allLt_of $h; simp only [AllLt, and_true] at $h:ident; repeat (have hA := And.left $h; replace $h := And.right $h)))
local macro_rules | `(tactic| k_ne) => `(tactic| first | with_reducible assumption | (refine Ne.symm ?_; with_reducible assumption) | (refine Nat.ne_of_lt ?_; with_reducible assumption) | (refine Nat.ne_of_gt ?_; with_reducible assumption))
local macro_rules | `(tactic| k_all) => `(tactic| ((fail_if_success (refine' List.forall_mem_cons.mpr ⟨?tailNg, ?tailNh⟩)); rename AllLt _ _ => hAL; first | (refine allLt_ne hAL ?_; (try dsimp only); first | exact Nat.le_refl _ | (refine Nat.le_of_lt ?_; with_reducible assumption)) | (clear hAL; k_all) | (refine allLt_ne hAL ?_; (try dsimp only); omega)))
local macro_rules | `(tactic| k_all) => `(tactic| ((fail_if_success (refine' List.forall_mem_cons.mpr ⟨?tailNe, ?tailNf⟩)); with_reducible assumption))
local macro_rules | `(tactic| k_all) => `(tactic| (with_reducible refine all_append ?_ ?_ <;> k_all))
local macro_rules | `(tactic| k_all) => `(tactic| first | exact List.forall_mem_nil _ | (refine' List.forall_mem_cons.mpr ⟨?caZq, ?cbZq⟩; (case caZq => k_ne); (case cbZq => k_all)))
local macro_rules | `(tactic| k_units) => `(tactic| ktr_units)
local macro_rules | `(tactic| k_enter) => `(tactic| (refine' code_defC ?k1 ?k2 ?k3 ?k4 ?k5 ?kAZq ?kFZq ?kKZq ?k6 ?k7 ?k8 ?k9 ?kBZq ?kDZq ?_ ?c2 ?c3 ?c4; (case kAZq => exact rfl); (case kFZq => exact rfl); (case kKZq => first | exact rfl | assumption); (case k1 => k_asm); (case k2 => k_asm); (case k3 => k_asm); (case k4 => k_asm); (case k5 => k_asm); (case k6 => k_is); (case k7 => k_is); (case k8 => ktr_room); (case k9 => exact BindsTo.of_eq rfl); (case kBZq => exact rfl); (case kDZq => decide +kernel); (case c2 => exact rfl); (case c3 => exact rfl); (case c4 => exact rfl); k_whole; intro g' L' h' tk' cells' FG' F' N' Y' B' X' T' l1; (try k_lt l1); k_cells Y'; (try simp only [List.cons_append, List.nil_append] at N'); (try dsimp only); (try k_lift B'); (try k_fold)))
local macro_rules | `(tactic| k_enter) => `(tactic| cell_enter)
local macro_rules | `(tactic| walk_at "subscriptTail") => `(tactic| (k_here; (with_reducible show wpAny _ _ (subscriptTail _ _ (Value.ref 79) (Value.int _ _)) _ _ _); k_dflt (refine' topItemI (ns := expL) ?FZq ?XZq ?lZq ?iZq ?aZq ?bZq ?dZq ?_; (case FZq => k_asm); (case XZq => k_asm); (case lZq => k_is); (case iZq => exact intsB_of (by decide +kernel)); (case aZq => (try simp only [expL_len]); omega); (case bZq => (try simp only [expL_len]); omega); (case dZq => (try simp only [expL_len]); omega); k_whole); intro tE))
local macro_rules | `(tactic| walk_at "subscriptTail") => `(tactic| (k_here; (with_reducible show wpAny _ _ (subscriptTail _ _ (Value.ref 80) (Value.int _ _)) _ _ _); k_dflt (refine' topItemI (ns := logL) ?FZq ?XZq ?lZq ?iZq ?aZq ?bZq ?dZq ?_; (case FZq => k_asm); (case XZq => k_asm); (case lZq => k_is); (case iZq => exact intsB_of (by decide +kernel)); (case aZq => (try simp only [logL_len]); omega); (case bZq => (try simp only [logL_len]); omega); (case dZq => (try simp only [logL_len]); omega); k_whole); intro tE))


local macro_rules | `(tactic| walk_at "call ref") => `(tactic| (k_here; (with_reducible show wpAny _ _ (call (Value.ref 94) [Value.int _ _]) _ _ _); k_dflt (refine' gexp_c ?BZq ?FZq ?KZq ?NZq ?TZq ?kZq ?dZq ?uZq ?_; (case BZq => k_asm); (case FZq => k_asm); (case KZq => k_asm); (case NZq => k_asm); (case TZq => k_asm); (case kZq => first | exact rfl | assumption); (case dZq => ktr_room); (case uZq => ktr_units); k_whole); intro t9 h9 tk9 F9 N9; (try dsimp only); (try k_sweep); walk_say "CONTRACT gexp"))
local macro_rules | `(tactic| walk_at "call ref") => `(tactic| (k_here; (with_reducible show wpAny _ _ (call (Value.ref 87) [Value.int _ _]) _ _ _); k_dflt (refine' glog_c ?BZq ?FZq ?KZq ?NZq ?TZq ?kZq ?dZq ?uZq ?xZq ?yZq ?_; (case BZq => k_asm); (case FZq => k_asm); (case KZq => k_asm); (case NZq => k_asm); (case TZq => k_asm); (case kZq => first | exact rfl | assumption); (case dZq => ktr_room); (case uZq => ktr_units); (case xZq => first | assumption | omega); (case yZq => first | assumption | omega); k_whole); intro t9 h9 tk9 F9 N9; (try dsimp only); (try k_sweep); walk_say "CONTRACT glog"))
local macro_rules | `(tactic| walk_at "subscriptTail Name Slice ref ref") => `(tactic| (k_here; (with_reducible show wpAny _ _ (subscriptTail _ (PySem.Expr.Slice (some _) none none _) (Value.ref _) (Value.ref _)) _ _ _); k_dflt (refine' kmk_slice_ints ?FZq ?NZq ?lZq ?pZq ?qZq ?iZq ?mZq ?cZq ?_ ?sZq ?tZq ?zZq; (case FZq => k_asm); (case NZq => k_asm); (case lZq => kmk_list); (case pZq => kmk_part); (case qZq => kmk_part); (case iZq => assumption); (case mZq => exact kmk_from (by assumption) (by omega)); (case cZq => exact rfl); (case sZq => with_unfolding_all rfl); (case tZq => kmk_pure); (case zZq => simp only [List.size_toArray, sizeLine_eq, IntsAre.length (by assumption)]; omega)); intro D' ws' h' F' N' l1 hI' hC' hL'; clear hC' hL'; (try k_lt l1); (try k_sweep)))
local macro_rules | `(tactic| walk_at "exec Assign cons ListComp") => `(tactic| (k_here; (with_reducible show wpAny _ _ (exec (Stmt.Assign [_] (PySem.Expr.ListComp _ [⟨PySem.Expr.Tuple _ _ _, _, _, _⟩] _ _) _) _) _ _ _); k_dflt (refine assign_comp_pairs (by k_asm) (by with_unfolding_all rfl) (by with_unfolding_all rfl) (by decide) (by rfl) (by decide) (by rfl) (by rfl) (by decide) (by rfl) (by rfl) ?_)))
local macro_rules | `(tactic| walk_at "call type:zip") => `(tactic| (k_here; (with_reducible show wpAny _ _ (call (Value.type _) [Value.ref _, Value.ref _]) _ _ _); k_dflt (refine call_zip_own ?_)))
local macro_rules | `(tactic| walk_at "call type:enumerate") => `(tactic| (k_here; (with_reducible show wpAny _ _ (call (Value.type _) [Value.ref _]) _ _ _); k_dflt (refine call_enum_own ?_)))
local macro_rules | `(tactic| walk_at "pyIter ref") => `(tactic| (k_here; k_dflt (refine' owit_iter ?FZq ?XZq ?IZq ?hsZq ?hfZq ?_; (case FZq => k_asm); (case XZq => k_asm); (case IZq => k_inst); (case hsZq => k_is); (case hfZq => k_is); k_whole)))
local macro_rules | `(tactic| walk_at "OwitIt") => `(tactic| (k_here; k_dflt (refine' owit_li ?NZq ?iZq ?_; (case NZq => k_asm); (case iZq => k_mem); k_whole)))
local macro_rules | `(tactic| walk_at "call builtin:iter") => `(tactic| (k_here; (with_reducible show wpAny _ _ (call (Value.builtin "iter") [Value.ref _]) _ _ _); k_dflt (refine' call_iter_led ?FZq ?NZq ?lZq ?_; (case FZq => k_asm); (case NZq => k_asm); (case lZq => k_mem); k_whole); intro I' h' F' N' l1; (try k_lt l1); (try k_sweep)))
local macro_rules | `(tactic| walk_at "subscriptTail Name Slice ref ref") => `(tactic| (k_here; (with_reducible show wpAny _ _ (subscriptTail _ (PySem.Expr.Slice _ _ none _) (Value.ref _) (Value.ref _)) _ _ _); k_dflt (refine' sub_own_slice ?FZq ?XZq ?NZq ?IZq ?qZq ?hsZq ?hfZq ?hgZq ?_; (case FZq => k_asm); (case XZq => k_asm); (case NZq => k_asm); (case IZq => k_inst); (case qZq => k_is); (case hsZq => k_is); (case hfZq => k_is); (case hgZq => k_is); k_whole); intro sl' h' F' N' l1; (try k_lt l1); (try k_sweep)))
local macro_rules | `(tactic| walk_at "subscriptTail") => `(tactic| (k_here; (with_reducible show wpAny _ _ (subscriptTail _ (PySem.Expr.Name _ _) (Value.ref _) (Value.ref _)) _ _ _); k_dflt (refine' sub_list_slice ?FZq ?NZq ?lZq ?slZq ?paZq ?pbZq ?IZq ?mZq ?zZq ?_; (case FZq => k_asm); (case NZq => k_asm); (case lZq => k_mem); (case slZq => k_mem); (case paZq => kmk_part); (case pbZq => kmk_part); (case IZq => assumption); (case mZq => first | exact kmk_from_neg (by assumption) (by omega) | exact kmk_from (by assumption) (by omega) | exact kmk_upto (by assumption) (by omega) | exact kmk_upto_neg (by assumption) (by omega)); (case zZq => rw [sizeLine_eq]; omega); k_whole); intro D' ws' h' F' N' l1 hI'; (try k_lt l1); (try k_sweep)))
local macro_rules | `(tactic| walk_at "call builtin:list.extend") => `(tactic| (k_here; (with_reducible show wpAny _ _ (call (Value.builtin _) [Value.ref _, Value.ref _]) _ _ _); k_dflt (refine' ext_ints ?FZq ?NZq ?bZq ?UZq ?I1Zq ?I2Zq ?neZq ?h1Zq ?h2Zq ?_; (case FZq => k_asm); (case NZq => k_asm); (case bZq => k_mem); (case UZq => k_upd); (case I1Zq => assumption); (case I2Zq => assumption); (case neZq => (try simp only [List.length_drop]); omega); (case h1Zq => omega); (case h2Zq => (try simp only [List.length_drop]); omega); k_whole); intro vs' h' F' eX' N' hI'; (try rw [← eX'] at N'); clear eX'; (try k_sweep)))
local macro_rules | `(tactic| walk_at "call builtin:list.append") => `(tactic| (k_here; (with_reducible show wpAny _ _ (call (Value.builtin _) [Value.ref _, Value.int _ _]) _ _ _); k_dflt (refine' app_ints ?FZq ?NZq ?UZq ?I1Zq ?h1Zq ?_; (case FZq => k_asm); (case NZq => k_asm); (case UZq => k_upd); (case I1Zq => first | assumption | exact IntsAre.nil); (case h1Zq => first | omega | ((simp only [List.length_append, List.length_cons, List.length_nil]); omega)); k_whole); intro vs' h' F' eX' N' hI'; (try rw [← eX'] at N'); clear eX'; (try k_sweep)))

local macro_rules | `(tactic| walk_at "call ref") => `(tactic| (k_here; (with_reducible show wpAny _ _ (call (Value.ref 144) [Value.ref _, Value.int _ _]) _ _ _); k_dflt (refine' poly_c ?BZq ?FZq ?KZq ?NZq ?TZq ?kZq ?dZq ?uZq ?IZq ?pZq ?lZq ?sZq ?zZq ?_; (case BZq => k_asm); (case FZq => k_asm); (case KZq => k_asm); (case NZq => refine' news_cons ?NmZq ?NnZq ?NrZq; (case NnZq => k_asm); (case NrZq => k_asm); (case NmZq => k_mem)); (case TZq => k_asm); (case kZq => first | exact rfl | assumption); (case dZq => ktr_room); (case uZq => ktr_units); (case IZq => assumption); (case pZq => first | assumption | omega | ((simp only [List.length_append, List.length_drop, List.length_map, List.length_take]); omega)); (case lZq => first | assumption | omega | ((simp only [List.length_append, List.length_drop, List.length_map, List.length_take]); omega)); (case sZq => omega); (case zZq => omega); k_whole); intro x9 d9 l9 vs9 hs9 t9 h9 tk9 F9 N9 I9 o1 o2 o3; (try simp only [AllLt, and_true] at o1); (repeat (have hA := And.left o1; replace o1 := And.right o1)); (try simp only [Int.toNat_zero, List.replicate_zero, List.append_nil] at I9); (try dsimp only); (try k_sweep); walk_say "CONTRACT poly"))

local macro_rules | `(tactic| walk_at "call ref") => `(tactic| (k_here; (with_reducible show wpAny _ _ (call (Value.ref 266) [Value.ref _, Value.bool _]) _ _ _); k_dflt (refine' putbit_d ?BZq ?FZq ?KZq ?NZq ?bZq ?l1Zq ?U1Zq ?U2Zq ?TZq ?kZq ?dZq ?uZq ?a1Zq ?a2Zq ?a3Zq ?IZq ?lZq ?zZq ?yZq ?qZq ?_; (case BZq => k_asm); (case FZq => k_asm); (case KZq => k_asm); (case NZq => k_asm); (case bZq => k_mem); (case U1Zq => k_updF); (case l1Zq => k_mem); (case U2Zq => (intro o9; (try dsimp only); k_updF)); (case TZq => k_asm); (case kZq => first | exact rfl | assumption); (case dZq => ktr_room); (case uZq => ktr_units); (case a1Zq => k_ne); (case a2Zq => k_ne); (case a3Zq => k_ne); (case IZq => assumption); (case lZq => omega); (case zZq => first | assumption | omega); (case yZq => omega); (case qZq => first | assumption | omega); k_whole); intro vs9 zs9 n9 t9 h9 tk9 F9 N9 I9 e9 q9 l9 p9; (try dsimp only at N9); (try dsimp only); (try k_sweep); walk_say "CONTRACT putbit"))

local macro_rules | `(tactic| walk_at "UnrEnd") => `(tactic| (k_here; refine' unr_head ?FZq ?NZq ?oZq ?_; (case FZq => k_asm); (case NZq => k_asm); (case oZq => k_all); k_whole))

local macro_rules | `(tactic| walk_at "call ref") => `(tactic| (k_here; (with_reducible show wpAny _ _ (call (Value.ref 252) [Value.ref _, Value.int _ _, Value.int 8 _]) _ _ _); k_dflt (refine' put_d ?BZq ?FZq ?KZq ?NZq ?bZq ?l1Zq ?U1Zq ?U2Zq ?TZq ?kZq ?dZq ?uZq ?a1Zq ?a2Zq ?a3Zq ?IZq ?lZq ?eZq ?n0Zq ?n1Zq ?_; (case BZq => k_asm); (case FZq => k_asm); (case KZq => k_asm); (case NZq => k_asm); (case bZq => k_mem); (case U1Zq => k_updF); (case l1Zq => k_mem); (case U2Zq => (intro o9; (try dsimp only); k_updF)); (case TZq => k_asm); (case kZq => first | exact rfl | assumption); (case dZq => ktr_room); (case uZq => ktr_units); (case a1Zq => k_ne); (case a2Zq => k_ne); (case a3Zq => k_ne); (case IZq => with_reducible assumption); (case lZq => omega); (case eZq => first | with_reducible assumption | omega); (case n0Zq => omega); (case n1Zq => omega); k_whole); intro vs9 len9 n9 t9 h9 tk9 F9 N9 I9 e9; (try dsimp only at N9); (try dsimp only); (try k_sweep); walk_say "CONTRACT put"))

local macro_rules | `(tactic| walk_at "call ref") => `(tactic| (k_here; (with_reducible show wpAny _ _ (call (Value.ref 136) [Value.ref _, Value.ref _]) (PySem.W.CmpBack _) _ _); k_dflt (refine' mul_d ?BZq ?FZq ?KZq ?NZq ?m1Zq ?m2Zq ?m3Zq ?m4Zq ?m5Zq ?m6Zq ?TZq ?kZq ?I1Zq ?I2Zq ?l1Zq ?l2Zq ?p1Zq ?p2Zq ?r1Zq ?r2Zq ?dZq ?uZq ?_; (case BZq => k_asm); (case FZq => k_asm); (case KZq => k_asm); (case NZq => k_asm); (case m1Zq => k_mem); (case m2Zq => k_mem); (case m3Zq => k_mem); (case m4Zq => k_mem); (case m5Zq => k_mem); (case m6Zq => k_mem); (case TZq => k_asm); (case kZq => first | exact rfl | assumption); (case I1Zq => with_reducible assumption); (case I2Zq => with_reducible assumption); (case l1Zq => omega); (case l2Zq => omega); (case p1Zq => omega); (case p2Zq => omega); (case r1Zq => with_reducible assumption); (case r2Zq => with_reducible assumption); (case dZq => ktr_room); (case uZq => ktr_units); k_whole); intro x9 d9 l9 vs9 hs9 t9 h9 tk9 F9 N9 I9; dsimp only [PySem.W.CmpBack]; (try dsimp only); (try k_sweep); walk_say "CONTRACT mul"))
local macro_rules | `(tactic| walk_at "call ref") => `(tactic| (k_here; (with_reducible show wpAny _ _ (call (Value.ref 141) [Value.ref _, Value.ref _]) (PySem.W.CmpBack _) _ _); k_dflt (refine' mod_d (k := 38) ?BZq ?FZq ?KZq ?NZq ?m1Zq ?m2Zq ?m3Zq ?m4Zq ?m5Zq ?m6Zq ?TZq ?kZq ?I1Zq ?I2Zq ?l1Zq ?l2Zq ?p1Zq ?p2Zq ?qZq ?r1Zq ?r2Zq ?zZq ?dZq ?uZq ?_; (case BZq => k_asm); (case FZq => k_asm); (case KZq => k_asm); (case NZq => k_asm); (case m1Zq => k_mem); (case m2Zq => k_mem); (case m3Zq => k_mem); (case m4Zq => k_mem); (case m5Zq => k_mem); (case m6Zq => k_mem); (case TZq => k_asm); (case kZq => first | exact rfl | assumption); (case I1Zq => with_reducible assumption); (case I2Zq => with_reducible assumption); (case l1Zq => omega); (case l2Zq => omega); (case p1Zq => omega); (case p2Zq => omega); (case qZq => omega); (case r1Zq => with_reducible assumption); (case r2Zq => with_reducible assumption); (case zZq => with_reducible assumption); (case dZq => ktr_room); (case uZq => ktr_units); k_whole); intro x9 d9 l9 vs9 hs9 t9 k9 n9 h9 tk9 F9 N9 I9; dsimp only [PySem.W.CmpBack]; (try dsimp only); (try k_sweep); walk_say "CONTRACT mod"))

local macro_rules | `(tactic| walk_at "getMethod type:tuple") => `(tactic| (k_here; refine' method_type ?FZq ?XZq ?mZq (by decide +kernel) ?eZq ?hZq ?_; (case FZq => k_asm); (case XZq => k_asm); (case mZq => first | exact rfl | kernel_rfl); (case eZq => k_dflt k_is); (case hZq => k_handed)))
local macro_rules | `(tactic| walk_at "call builtin:tuple.__new__") => `(tactic| (k_here; (refine' tuple_childN (C := 216) ?FZq ?NZq ?XZq ?mZq ?oZq ?e2Zq ?lZq ?bZq ?sZq ?iZq ?tcZq ?tdZq ?szZq ?_; (case FZq => k_asm); (case NZq => k_asm); (case XZq => k_asm); (case mZq => k_mem); (case oZq => exact rfl); (case e2Zq => exact rfl); (case lZq => exact rfl); (case bZq => exact rfl); (case sZq => exact rfl); (case iZq => first | k_is | kernel_rfl); (case tcZq => exact rfl); (case tdZq => exact rfl); (case szZq => (rw [sizeLine_eq]; exact Nat.le_of_ble_eq_true rfl)); k_whole); intro x' dx' h' F' N' l1 o1; (try k_lt l1); (try k_sweep)))

local macro_rules | `(tactic| walk_at "getAttr ref") => `(tactic| (k_here; (with_reducible show wpAny _ _ (getAttr (Value.ref _) (PySem.Str.ofString "data_count") _) _ _ _); k_dflt (refine' fld_d ?BZq ?FZq ?KZq ?NZq ?mxZq ?mdZq ?TZq ?kZq ?dZq ?uZq ?_; (case BZq => k_asm); (case FZq => k_asm); (case KZq => k_asm); (case NZq => k_asm); (case mxZq => k_mem); (case mdZq => k_mem); (case TZq => k_asm); (case kZq => first | exact rfl | assumption); (case dZq => ktr_room); (case uZq => ktr_units); k_whole); intro t9 h9 tk9 F9 N9; (try dsimp only); (try k_sweep); walk_say "CONTRACT data_count"))
local macro_rules | `(tactic| walk_at "getAttr ref") => `(tactic| (k_here; (with_reducible show wpAny _ _ (getAttr (Value.ref _) (PySem.Str.ofString "total_count") _) _ _ _); k_dflt (refine' fldt_d ?BZq ?FZq ?KZq ?NZq ?mxZq ?mdZq ?TZq ?kZq ?dZq ?uZq ?_; (case BZq => k_asm); (case FZq => k_asm); (case KZq => k_asm); (case NZq => k_asm); (case mxZq => k_mem); (case mdZq => k_mem); (case TZq => k_asm); (case kZq => first | exact rfl | assumption); (case dZq => ktr_room); (case uZq => ktr_units); k_whole); intro t9 h9 tk9 F9 N9; (try dsimp only); (try k_sweep); walk_say "CONTRACT total_count"))
local macro_rules | `(tactic| walk_at "call ref") => `(tactic| (k_here; (with_reducible show wpAny _ _ (call (Value.ref 216) [Value.int _ _, Value.int _ _]) _ _ _); k_dflt (refine' rsb_c ?BZq ?FZq ?KZq ?NZq ?TZq ?kZq ?dZq ?uZq ?_; (case BZq => k_asm); (case FZq => k_asm); (case KZq => k_asm); (case NZq => k_asm); (case TZq => k_asm); (case kZq => first | exact rfl | assumption); (case dZq => ktr_room); (case uZq => ktr_units); k_whole); intro x9 d9 h9 tk9 F9 N9 o1 o2; (try simp only [AllLt, and_true] at o1); (repeat (have hA := And.left o1; replace o1 := And.right o1)); (try dsimp only); (try k_sweep); walk_say "CONTRACT RSBlock"))

local macro_rules | `(tactic| walk_at "call ref") => `(tactic| (k_here; (with_reducible show wpAny _ _ (call (Value.ref 144) [Value.ref 23, Value.int _ _]) _ _ _); k_dflt (refine' poly7_c ?BZq ?FZq ?KZq ?NZq ?TZq ?kZq ?dZq ?uZq ?_; (case BZq => k_asm); (case FZq => k_asm); (case KZq => k_asm); (case NZq => k_asm); (case TZq => k_asm); (case kZq => first | exact rfl | assumption); (case dZq => ktr_room); (case uZq => ktr_units); k_whole); intro x9 d9 l9 vs9 hs9 t9 h9 tk9 F9 N9 I9 o1 o2 o3; (try simp only [AllLt, and_true] at o1); (repeat (have hA := And.left o1; replace o1 := And.right o1)); (try dsimp only); (try k_sweep); walk_say "CONTRACT poly7"))
theorem lut_none (P : Params) {M : Nat} (h : M ≤ 8) (h7 : M ≠ 7) : (intFind (hd.heap_39 P) 22 (M : Int)).join = none := by
  have : M = 0 ∨ M = 1 ∨ M = 2 ∨ M = 3 ∨ M = 4 ∨ M = 5 ∨ M = 6 ∨ M = 8 := by omega
  rcases this with rfl | rfl | rfl | rfl | rfl | rfl | rfl | rfl <;> kernel_rfl
theorem lut_seven (P : Params) : (intFind (hd.heap_39 P) 22 ((7 : Nat) : Int)).join = some (.ref 23) := by kernel_rfl
theorem lut_top (P : Params) : intTopB (hd.heap_39 P) 22 = true := by kernel_rfl
section
local macro_rules | `(tactic| walk_at "compareOp In int ref") => `(tactic| (k_here; k_dflt (refine' topIn_KI ?XZq (lut_top _) ?lZq ?eZq ?_; (case XZq => k_in); (case lZq => decide); (case eZq => first | exact lut_seven _ | exact lut_none _ (by assumption) (by assumption)); k_whole)))
local macro_rules | `(tactic| walk_at "subscriptTail") => `(tactic| (k_here; (with_reducible show wpAny _ _ (subscriptTail _ _ (Value.ref 22) (Value.int _ _)) _ _ _); k_dflt (refine' topItem_KI ?XZq (lut_top _) (lut_seven _) ?_ ?dZq; (case XZq => k_in); (case dZq => with_unfolding_all rfl); k_whole)))
local macro_rules | `(tactic| walk_at "call ref") => `(tactic| (k_here; (with_reducible show wpAny _ _ (call (Value.ref 144) [Value.ref _, Value.int _ _]) _ _ _); k_dflt (refine' poly_c (vs := [_]) (ns := [_]) ?BZq ?FZq ?KZq ?NZq ?TZq ?kZq ?dZq ?uZq ?IZq ?pZq ?lZq ?sZq ?zZq ?_; (case BZq => k_asm); (case FZq => k_asm); (case KZq => k_asm); (case NZq => refine' news_cons ?NmZq ?NnZq ?NrZq; (case NnZq => k_asm); (case NrZq => k_asm); (case NmZq => k_mem)); (case TZq => k_asm); (case kZq => first | exact rfl | assumption); (case dZq => ktr_room); (case uZq => ktr_units); (case IZq => exact .cons _ _ .nil); (case pZq => exact Nat.zero_lt_succ _); (case lZq => (simp only [List.length_cons, List.length_nil]; omega)); (case sZq => omega); (case zZq => omega); k_whole); intro x9 d9 l9 vs9 hs9 t9 h9 tk9 F9 N9 I9 o1 o2 o3; (try simp only [AllLt, and_true] at o1); (repeat (have hA := And.left o1; replace o1 := And.right o1)); (try simp only [Int.toNat_zero, List.replicate_zero, List.append_nil] at I9); (try dsimp only); (try k_sweep); walk_say "CONTRACT poly [a]"))
local macro_rules | `(tactic| walk_at "call ref") => `(tactic| (k_here; (with_reducible show wpAny _ _ (call (Value.ref 144) [Value.ref _, Value.int _ _]) _ _ _); k_dflt (refine' poly_c (vs := [_, _]) (ns := [_, _]) ?BZq ?FZq ?KZq ?NZq ?TZq ?kZq ?dZq ?uZq ?IZq ?pZq ?lZq ?sZq ?zZq ?_; (case BZq => k_asm); (case FZq => k_asm); (case KZq => k_asm); (case NZq => refine' news_cons ?NmZq ?NnZq ?NrZq; (case NnZq => k_asm); (case NrZq => k_asm); (case NmZq => k_mem)); (case TZq => k_asm); (case kZq => first | exact rfl | assumption); (case dZq => ktr_room); (case uZq => ktr_units); (case IZq => exact .cons _ _ (.cons _ _ .nil)); (case pZq => exact Nat.zero_lt_succ _); (case lZq => (simp only [List.length_cons, List.length_nil]; omega)); (case sZq => omega); (case zZq => omega); k_whole); intro x9 d9 l9 vs9 hs9 t9 h9 tk9 F9 N9 I9 o1 o2 o3; (try simp only [AllLt, and_true] at o1); (repeat (have hA := And.left o1; replace o1 := And.right o1)); (try simp only [Int.toNat_zero, List.replicate_zero, List.append_nil] at I9); (try dsimp only); (try k_sweep); walk_say "CONTRACT poly [a, b]"))
local macro_rules | `(tactic| walk_at "call ref") => `(tactic| (k_here; (with_reducible show wpAny _ _ (call (Value.ref 141) [Value.ref _, Value.ref _]) (PySem.W.CmpBack _) _ _); refine pause ?_))
local macro_rules | `(tactic| walk_at "call builtin:list.append") => `(tactic| (k_here; (with_reducible show wpAny _ _ (call (Value.builtin _) [Value.ref _, Value.ref _]) _ _ _); k_dflt (refine' app_refs ?FZq ?NZq ?UZq ?h1Zq ?_; (case FZq => k_asm); (case NZq => k_asm); (case UZq => k_upd); (case h1Zq => omega); k_whole); intro h' F' N'; (try k_sweep)))
local macro_rules | `(tactic| walk_at "pyIter ref") => `(tactic| refine pause ?_)
local macro_rules | `(tactic| walk_at "subscriptTail") => `(tactic| (k_here; (with_reducible show wpAny _ _ (subscriptTail _ _ (Value.ref _) (Value.int _ _)) _ _ _); k_dflt (refine' led_item ?NZq ?lZq ?iZq ?aZq ?bZq ?cZq ?_ ?dZq; (case NZq => k_asm); (case lZq => k_mem); (case iZq => with_reducible assumption); (case aZq => omega); (case bZq => omega); (case cZq => omega); (case dZq => with_unfolding_all rfl); k_whole); intro tE))
local macro_rules | `(tactic| walk_at "exec If") => `(tactic| (k_here; (with_reducible show wpAny _ _ (exec (Stmt.If (PySem.Expr.Compare (PySem.Expr.Name (Str.ofString "ecCount") _) _ _ _) _ _ _) _) _ _ _); (fail_if_success (with_reducible show wpAny _ _ _ (PolyMid _ _ _ _ _ _) _ _)); refine pause ?_))
local macro_rules | `(tactic| walk_at "CompSrc") => `(tactic| refine pause ?_)
local macro_rules | `(tactic| walk_at "binaryOp BitAnd int int") => `(tactic| (k_here; refine and_int ?_))
local macro_rules | `(tactic| walk_at "KCfEl") => `(tactic| exact ⟨rfl, _, rfl⟩)
local macro_rules | `(tactic| walk_at "loadName") => `(tactic| (k_here; k_dflt (refine' wpAny_loadName_cell ?aZq ?bZq ?cZq (cell_at ?hdZq ?NZq ?mZq) ?_; (case aZq => rfl); (case bZq => rfl); (case cZq => rfl); (case hdZq => with_reducible assumption); (case NZq => k_asm); (case mZq => k_mem); k_whole)))
theorem cb_c {w : World} {p : Program} {loose : List Str} {mean : ExcName → Option Value} {mg mb : Str → Option Value}
  {dp un : Nat} {gd : Option (List Code)} {cn : Str} {cs : Scope} {a : Addr} {ccd : Value} {cl : List (Str × Addr)} {outer : List Env} {A₀ : Around} {base h₀ : Heap} {L : Addr} {m : Str → Option Value} {s : Shared} {Q E : Value → Shared → Prop}
  {news : List (Addr × Obj)} {b d l R x dx : Addr} {vs : List Value} {ns : List Int} {n nR B D M : Nat} {hs1 hs2 : Int} {t1 t2 t3 t4 t5 : Tok} {len tc dc : Int}
  (hB : Below A₀ base outer h₀) (hF : Fr h₀ L s.heap m) (hK : (hd.heap_39 w.params).In h₀)
  (hN : News h₀ L s.heap ((b, instObj 269 d) :: (d, dictOf [⟨hs1, .str (Str.ofString "buffer") t1, .ref l⟩, ⟨hs2, .str (Str.ofString "length") t2, .int len t3⟩] 2) :: (l, listOf vs.toArray n) :: (R, listOf (List.replicate B (Value.ref x)).toArray nR) :: (x, childObj 216 dx #[.int tc t4, .int dc t5]) :: (dx, emptyDict) :: news)) (hT : Top p loose mean mg mb h₀) (hk : cs.kind = .function)
  (hdp : dp + 200 < recursionLimit) (hun : un + 1000 < cLine)
  (hI : IntsAre vs ns) (hdc : dc = (D : Int)) (htc : tc = (D : Int) + (M : Int)) (hD : 1 ≤ D) (hM : 1 ≤ M) (hM8 : M ≤ 8) (hD2 : D ≤ 30) (hB1 : 1 ≤ B) (hB2 : B ≤ 4) (hlen : B * D ≤ ns.length) (hlen2 : ns.length < 2^19)
  (hby : ∀ x ∈ ns, 0 ≤ x ∧ x < 256) (hnz : ∀ k, k < B → ∃ x ∈ blk ns D k, x ≠ 0)
  (hret : ∀ y ws k h' tk', Fr h₀ L h' m → News h₀ L h' ((y, listOf (List.toArray ws) k) :: (b, instObj 269 d) :: (d, dictOf [⟨hs1, .str (Str.ofString "buffer") t1, .ref l⟩, ⟨hs2, .str (Str.ofString "length") t2, .int len t3⟩] 2) :: (l, listOf vs.toArray n) :: (R, listOf (List.replicate B (Value.ref x)).toArray nR) :: (x, childObj 216 dx #[.int tc t4, .int dc t5]) :: (dx, emptyDict) :: news) →
    IntsAre ws (cbX ns B D M) → AllLt y ((b, instObj 269 d) :: (d, dictOf [⟨hs1, .str (Str.ofString "buffer") t1, .ref l⟩, ⟨hs2, .str (Str.ofString "length") t2, .int len t3⟩] 2) :: (l, listOf vs.toArray n) :: (R, listOf (List.replicate B (Value.ref x)).toArray nR) :: (x, childObj 216 dx #[.int tc t4, .int dc t5]) :: (dx, emptyDict) :: news) → Q (.ref y) { s with heap := h', toks := tk' }) :
  wpAny (model PySem.Challenge.pw_bq0024_01 w) (ktrTop dp un gd cn cs L a ccd cl outer) (call (.ref 278) [.ref b, .ref R]) Q E s := by
  subst hdc htc
  k_steps
  (rename Fr _ _ _ _ => F1)
  (rename News _ _ _ _ => N1)
  (with_unfolding_all refine for_of F1 (by rfl) (by rfl) ?_)
  k_steps
  all_goals (refine Paused.go ?_)
  refine cb_loop (fx := [_, _, _, _, _, _, _]) (ns := ns) (B := B) (D := D) (M := M) (x := x) (nR := nR) (news := news) ?hhZ F1 N1 (by assumption) ?hRZ ?o1Z ?o2Z ?o3Z ?turnZ ?doneZ
  case hhZ => exact rfl
  case hRZ => k_mem
  case o1Z => k_all
  case o2Z => k_all
  case o3Z => k_all
  case turnZ =>
    clear F1 N1
    intro i c oo tO tM tE as cs kd ke rest h tk I oI hi hO hr1 hr2 hr3 hr4 hA hC hIo hIc F' N'
    (try simp only [List.cons_append, List.nil_append] at N' hIo)
    simp only [List.forall_mem_cons] at hIo
    repeat (have oJ := And.left hIo; replace hIo := And.right hIo)
    (try dsimp only at *)
    have e0 : 0 ≤ (i : Int) * (D : Int) := Int.mul_nonneg (by omega) (by omega)
    have e1 : (i : Int) * (D : Int) + (D : Int) ≤ (ns.length : Int) := by
      have q : (i + 1) * D ≤ B * D := Nat.mul_le_mul_right _ hi
      rw [Nat.add_mul, Nat.one_mul] at q
      have q2 : ((i * D : Nat) : Int) + (D : Int) ≤ (ns.length : Int) := by omega
      rw [Int.natCast_mul] at q2
      exact q2
    delta cbM at F'
    (try dsimp only at F')
    k_steps
    all_goals (refine Paused.go ?_)
    (rename Fr _ _ _ _ => F1)
    (rename News _ _ _ _ => N1)
    (rename IsRange _ _ _ _ _ _ _ _ => rgX)
    refine LCg.CompSrc.range (by rfl) F1 N1 rgX (small_one (by omega) (by omega) (by omega) (by omega)) (rangeSize_nat _ _) (by rw [PySem.sizeLine_eq]; omega) ?_
    intro gQ
    refine' kcf_range (fun k => Builtin.bitAnd 255 (ns.getD (k + (i : Int) * (D : Int)).toNat 0)) (fun k' t' I' oI' C' oC' D' m' ys' h' tk' E' hlo' hhi' hC' hx' F' N' off' ne' hMark' => ?_) ?_
    · k_steps
    · unfold KPfDone
      intro ys hys
      have hyb : IntsAre ys (blk ns D i) := ints_cast hys (comp_blk hby e1)
      clear hys
      have hbl : (blk ns D i).length = D := blk_length hlen hi
      k_steps
      (rename (@Ne _ _ _) ∧ _ => oX)
      repeat (have oH := And.left oX; replace oX := And.right oX)
      replace oX := off1_all oX
      k_steps
      all_goals (refine Paused.go ?_)
      have hec : (D : Int) + (M : Int) - (D : Int) = (M : Int) := by omega
      (rename Fr _ _ _ _ => F1)
      (rename News _ _ _ _ => N1)
      simp only [hec] at F1
      have hFN := And.intro F1 N1
      refine cut_poly (rsP M) F1 N1 ?ifZ ?restZ
      case ifZ =>
        clear oX oH
        by_cases hM7 : M = 7
        · subst hM7
          walk1
          k_steps
          (rename Fr _ _ _ _ => F2)
          (rename News _ _ _ _ => N2)
          refine PolyMid.intro F2 N2 (by k_mem) (by k_mem) (by k_mem) (fun q hq => by k_ownIn) (by assumption) ?ee1 ?ee2
          case ee1 => simp
          case ee2 => intro y y1 y2; simp [y1, y2]
        · walk1
          k_steps
          all_goals (refine Paused.go ?_)
          (rename Fr _ _ _ _ => F2)
          (rename News _ _ _ _ => N2)
          (rename IsRange _ _ _ _ _ _ _ _ => rgX)
          refine poly_loop (M := M) hFN (by rfl) rgX rfl hM8 F2 N2 (by k_mem) (by k_mem) (by k_mem) (fun q hq => by k_ownIn) (by assumption) ?ee1 ?ee2 ?turnP ?doneP
          case ee1 => simp
          case ee2 => intro y y1 y2; simp [y1, y2]
          case doneP =>
            clear F2 N2
            intro c8 xp8 dp8 lp8 vp8 hs8 tk08 k8 n8 h8 tk8 I8 F8 N8
            k_steps
            exact ⟨rfl, c8, xp8, dp8, lp8, vp8, hs8, tk08, k8, n8, h8, tk8, rfl, F8, N8, ints_cast I8 (by unfold rsP; rw [if_neg hM7])⟩
          case turnP =>
            clear F2 N2
            intro i2 tI2 c8 xp8 dp8 lp8 vp8 hs8 tk08 k8 n8 h8 tk8 I2 oI2 hi2 I8 off8 hc8 F8 N8
            obtain ⟨hg1, hg2⟩ := genP_ok i2 (by omega)
            obtain ⟨hl1, hl2⟩ := lin_ok (i2 : Int)
            k_steps
            (rename Fr _ _ _ _ => F2)
            (rename News _ _ _ _ => N2)
            (rename IntsAre _ _ => I2z)
            refine pol_end F2 N2 (by k_mem) (by k_mem) (by k_mem) (fun q hq => by k_ownIn) (by k_mem) hc8 off8 (ints_cast I2z (by rw [lin_eq]; rfl)) ?ee1 ?ee2
            case ee1 => simp
            case ee2 => intro y y1 y2; simp [y1, y2]
      case restZ =>
        clear F1 N1
        intro c7 xp dp7 lp vp hs7 tk7 k7 n7 h7 tk7' F7 N7 I7
        obtain ⟨hg1, hg2⟩ := rsP_ok hM8
        have hI7 := I7.length
        k_steps
        all_goals (refine Paused.go ?_)
        (rename IntsAre _ (stripZ (blk ns D i) ++ _) => I9)
        replace I9 := ints_cast (ms := rawX (blk ns D i) M) I9 (by unfold rawX; congr 2; omega)
        have hr1 := rawX_byte (M := M) (fun x hx => hby x (blk_mem (D := D) (k := i) hx))
        have hz := rawX_head (M := M) (fun x hx => hby x (blk_mem (D := D) (k := i) hx)) (hnz i hi)
        have hp := rawX_pos hz
        have hln := rawX_length (blk ns D i) M
        refine' mod_d (k := 38) ?BZq ?FZq ?KZq ?NZq ?m1Zq ?m2Zq ?m3Zq ?m4Zq ?m5Zq ?m6Zq ?TZq ?kZq I9 I7 ?l1Zq ?l2Zq ?p1Zq hp ?qZq hr1 hg2 (fun _ => hz) ?dZq ?uZq ?_
        case BZq => k_asm
        case FZq => k_asm
        case KZq => k_asm
        case NZq => k_asm
        case m1Zq => k_mem
        case m2Zq => k_mem
        case m3Zq => k_mem
        case m4Zq => k_mem
        case m5Zq => k_mem
        case m6Zq => k_mem
        case TZq => k_asm
        case kZq => exact rfl
        case l1Zq => omega
        case l2Zq => omega
        case p1Zq => omega
        case qZq => omega
        case dZq => ktr_room
        case uZq => ktr_units
        k_whole
        intro x10 d10 l10 vs10 hs10 t10 k10 n10 h10 tk10 F10 N10 I10
        dsimp only [PySem.W.CmpBack]
        replace I10 : IntsAre vs10 (modX (blk ns D i) M) := I10
        have hml := modX_length (blk ns D i) M
        have hI10 := I10.length
        clear hr1 hz hp hln I9 I7 hI7 hg2
        (try k_sweep)
        have hml2 : (modX (blk ns D i) M).length ≤ 38 := by omega
        clear hml
        replace hM8 : Paused (M ≤ 8) := hM8
        k_steps
        refine Paused.go ?_
        replace hM8 : M ≤ 8 := hM8
        (rename Fr _ _ _ _ => F2)
        (rename News _ _ _ _ => N2)
        (rename IsRange _ _ _ _ _ _ _ _ => rgX)
        refine ec_loop (M := M) (zs := ecX (blk ns D i) M) hFN (by rfl) rgX rfl hM8 F2 N2 rfl (ecX_length _ _) (fun q hq => by k_ownIn) ?turnP ?doneP
        case doneP =>
          clear F2 N2
          intro c8 es8 k8 h8 tk8 I8 F8 N8
          have hla : as.length = i := by have := hA.1; simpa using this
          have hlc : cs.length = i := by have := hC.1; simpa using this
          k_steps
          (rename Fr _ _ _ _ => F2)
          (rename News _ _ _ _ => N2)
          refine cbj_end F2 N2 (by k_mem) (by k_mem) (by k_mem) ?hfxZ ?hrestZ (by k_mem) (by k_mem) (by k_mem) rfl rfl (by with_reducible assumption) (by rw [Int.natCast_add, Int.add_mul]; simp) ?of1 ?of2 ?of3 hIo ?of5 ?of6 hr1 hr2 hr3 hr4 ?dd1 ?dd2 ?dd3 ?cc1 ?cc2 ?cc3 hA hC hyb I8 ?ee1 ?ee2 ?ee3 ?ee4 ?ee
          case hfxZ =>
            intro q hq
            simp only [List.mem_cons, List.not_mem_nil, or_false] at hq
            rcases hq with rfl | rfl | rfl | rfl | rfl | rfl | rfl <;> k_mem
          case hrestZ => intro q hq; k_ownIn
          case of1 =>
            refine List.forall_mem_cons.mpr ⟨?_, List.forall_mem_cons.mpr ⟨?_, List.forall_mem_nil _⟩⟩
            · k_ne
            · k_ne
          case of2 => k_ne
          case of3 => k_all
          case of5 => k_ne
          case of6 => k_ne
          case dd1 => k_ne
          case dd2 => k_ne
          case dd3 => k_ne
          case cc1 => k_ne
          case cc2 => k_ne
          case cc3 => k_ne
          case ee1 => exact rfl
          case ee2 => exact rfl
          case ee3 =>
            refine ⟨_, _, rfl, ?_⟩
            clear hla hlc hml2 hI10 hbl
            (repeat' split) <;> omega
          case ee4 =>
            refine ⟨_, _, rfl, ?_⟩
            clear hla hlc hml2 hI10 hbl
            (repeat' split) <;> omega
          case ee => intro y y1 y2 y3 y4 y5 y6 y7 y8 y9 y10 y11 y12 y13 y14 y15; simp [y1, y2, y3, y4, y5, y6, y7, y8, y9, y10, y11, y12, y13, y14, y15]
        case turnP =>
          clear F2 N2
          intro i2 tI2 c8 es8 k8 h8 tk8 I2 oI2 hi2 I8 off8 offC8 hc8 F8 N8
          have hl8 := I8.length
          have hl9 : ((ecX (blk ns D i) M).take i2).length ≤ 8 := by rw [List.length_take, ecX_length]; omega
          k_steps
          all_goals (rename Fr _ _ _ _ => F2; rename News _ _ _ _ => N2; rename IntsAre _ _ => I2z)
          all_goals refine ec_end F2 N2 (by k_mem) (fun q hq => by k_ownIn) (by k_mem) off8 offC8 I2z ?_ (fun y y1 y2 => by simp [y1, y2])
          all_goals (rw [ecX_take hi2]; congr 2; unfold ecAt; first | rw [if_pos (by omega)] | rw [if_neg (by omega)])
          all_goals (try (congr 2; omega))
  case doneZ =>
    clear F1 N1
    intro c oo tM tE as cs kd ke rest h tk hnr hA hC F' N'
    (try simp only [List.cons_append, List.nil_append] at N')
    delta cbM at F'
    (try dsimp only at F')
    have hB0 : B ≠ 0 := by omega
    simp only [if_neg hB0] at F'
    have hla : as.length = B := by have := hA.1; simpa using this
    have hlc : cs.length = B := by have := hC.1; simpa using this
    k_steps
    refine Paused.go ?_
    (rename Fr _ _ _ _ => F2)
    (rename News _ _ _ _ => N2)
    (rename IsRange _ _ _ _ _ _ _ _ => rgX)
    refine deal_outer (Str.ofString "dc") (D := D) (zss := (List.range B).map (blk ns D)) (es0 := []) (p0 := []) (by rfl) rgX rfl (by omega) F2 N2 rfl .nil ?turnP ?doneP
    case turnP =>
      clear F2 N2
      intro i2 tI2 c8 es8 k8 h8 tk8 I2 oI2 hi2 I8 off8 offY hc8 F8 N8
      k_steps
      · refine Paused.go ?_
        (rename Fr _ _ _ _ => F3)
        (rename News _ _ _ _ => N3)
        refine deal_inner (Str.ofString "dc") (i := i2) (by rfl) F3 N3 (by k_mem) (fun q hq => by k_ownIn) ?hYZ hA (by with_reducible assumption) ?turnI ?doneI
        case hYZ => k_all
        case doneI =>
          clear F3 N3
          intro c9 es9 k9 h9 tk9 I9 F9 N9
          k_steps
          (rename Fr _ _ _ _ => F3)
          (rename News _ _ _ _ => N3)
          exact do_end F3 N3 (by k_mem) (fun q hq => by k_ownIn) (by k_mem) off8 offY (by with_reducible assumption) (by rw [deal_succ, List.append_assoc]) (fun y y1 y2 => by simp [y1, y2])
        case turnI =>
          clear F3 N3
          intro j2 A' va na zs c9 es9 k9 h9 tk9 I3 oI3 hj hz hva I9 aY Y3 I23 off3 hc3 F9 N9
          have hzl : zs.length = D := by
            obtain ⟨hj1, e⟩ := List.getElem?_eq_some_iff.mp hz
            rw [List.length_map, List.length_range] at hj1
            rw [← e, List.getElem_map, List.getElem_range]
            exact blk_length hlen hj1
          have hve := hva.length
          have hI9 := I9.length
          have hI8 : es9.length ≤ 400 := by
            have q0 := I9.length
            simp only [List.length_append, deal_length, List.length_map, List.length_take, List.length_range, List.length_nil] at q0
            have q1 : i2 * B ≤ 30 * 4 := Nat.mul_le_mul (by omega) hB2
            omega
          k_steps
          (rename Fr _ _ _ _ => F3)
          (rename News _ _ _ _ => N3)
          (rename IntsAre _ _ => I3z)
          refine di_end F3 N3 (by k_mem) (by k_mem) (fun q hq => by k_ownIn) (by k_mem) off3 Y3 I23 I3z ?_ (fun y y1 => by simp [y1])
          rw [List.take_add_one, hz]
          simp [List.append_assoc]
    case doneP =>
      clear F2 N2
      intro c8 es8 k8 h8 tk8 I8 F8 N8
      replace hM8 : Paused (M ≤ 8) := hM8
      k_steps
      refine Paused.go ?_
      replace hM8 : M ≤ 8 := hM8
      (rename Fr _ _ _ _ => F2)
      (rename News _ _ _ _ => N2)
      (rename IsRange _ _ _ _ _ _ _ _ => rgX)
      refine deal_outer (Str.ofString "ec") (D := M) (zss := (List.range B).map (fun k => ecX (blk ns D k) M)) (by rfl) rgX rfl (by omega) F2 N2 rfl I8 ?turnP2 ?doneP2
      case turnP2 =>
        clear F2 N2 I8
        intro i2 tI2 c8 es8 k8 h8 tk8 I2 oI2 hi2 I8 off8 offY hc8 F8 N8
        k_steps
        · refine Paused.go ?_
          (rename Fr _ _ _ _ => F3)
          (rename News _ _ _ _ => N3)
          refine deal_inner (Str.ofString "ec") (i := i2) (by rfl) F3 N3 (by k_mem) (fun q hq => by k_ownIn) ?hYZ2 hC (by with_reducible assumption) ?turnI2 ?doneI2
          case hYZ2 => k_all
          case doneI2 =>
            clear F3 N3
            intro c9 es9 k9 h9 tk9 I9 F9 N9
            k_steps
            (rename Fr _ _ _ _ => F3)
            (rename News _ _ _ _ => N3)
            exact do_end F3 N3 (by k_mem) (fun q hq => by k_ownIn) (by k_mem) off8 offY (by with_reducible assumption) (by rw [deal_succ, List.append_assoc]) (fun y y1 y2 => by simp [y1, y2])
          case turnI2 =>
            clear F3 N3
            intro j2 A' va na zs c9 es9 k9 h9 tk9 I3 oI3 hj hz hva I9 aY Y3 I23 off3 hc3 F9 N9
            have hzl : zs.length = M := by
              obtain ⟨hj1, e⟩ := List.getElem?_eq_some_iff.mp hz
              rw [List.length_map, List.length_range] at hj1
              rw [← e, List.getElem_map, List.getElem_range]
              exact ecX_length _ _
            have hve := hva.length
            have hI9 := I9.length
            have hI8 : es9.length ≤ 400 := by
              have q0 := I9.length
              simp only [List.length_append, deal_length, List.length_map, List.length_take, List.length_range, List.length_nil] at q0
              have q1 : i2 * B ≤ 30 * 4 := Nat.mul_le_mul (by omega) hB2
              have q2 : D * B ≤ 30 * 4 := Nat.mul_le_mul hD2 hB2
              omega
            k_steps
            (rename Fr _ _ _ _ => F3)
            (rename News _ _ _ _ => N3)
            (rename IntsAre _ _ => I3z)
            refine di_end F3 N3 (by k_mem) (by k_mem) (fun q hq => by k_ownIn) (by k_mem) off3 Y3 I23 I3z ?_ (fun y y1 => by simp [y1])
            rw [List.take_add_one, hz]
            simp [List.append_assoc]
  
      case doneP2 =>
        clear F2 N2 I8
        intro c9 es9 k9 h9 tk9 I9 F9 N9
        k_steps
        (rename Fr h₀ L _ _ => F3)
        (rename News h₀ L _ _ => N3)
        refine' hret _ _ _ _ _ F3 ?hnZ (ints_cast (by with_reducible assumption) (by simp [cbX])) ?hltZ
        case hnZ =>
          refine news_cons (by k_mem) N3 (news_cons (by k_mem) N3 (news_cons (by k_mem) N3 (news_cons (by k_mem) N3 (news_cons (by k_mem) N3 (news_cons (by k_mem) N3 (news_cons (by k_mem) N3 (fun q hq => ?_)))))))
          have hq2 := hnr q hq
          exact N3 q (by k_ownIn)
        case hltZ =>
          (rename AllLt _ rest => hAR)
          refine ⟨by assumption, by assumption, by assumption, by assumption, by assumption, by assumption, ?_⟩
          exact allLt_of (fun q hq => allLt_mem hAR q (hnr q hq))
end
theorem cb_d {w : World} {p : Program} {loose : List Str} {mean : ExcName → Option Value} {mg mb : Str → Option Value}
  {dp un : Nat} {gd : Option (List Code)} {cn : Str} {cs : Scope} {a : Addr} {ccd : Value} {cl : List (Str × Addr)} {outer : List Env} {A₀ : Around} {base h₀ : Heap} {L : Addr} {m : Str → Option Value} {s : Shared} {Q E : Value → Shared → Prop}
  {big : List (Addr × Obj)} {b d l R x dx : Addr} {vs : List Value} {ns : List Int} {n nR B D M : Nat} {aR : Array Value} {hs1 hs2 : Int} {t1 t2 t3 t4 t5 : Tok} {len tc dc : Int}
  (hB : Below A₀ base outer h₀) (hF : Fr h₀ L s.heap m) (hK : (hd.heap_39 w.params).In h₀) (hN : News h₀ L s.heap big) (m1 : (b, instObj 269 d) ∈ big) (m2 : (d, dictOf [⟨hs1, .str (Str.ofString "buffer") t1, .ref l⟩, ⟨hs2, .str (Str.ofString "length") t2, .int len t3⟩] 2) ∈ big) (m3 : (l, listOf vs.toArray n) ∈ big) (m4 : (R, listOf aR nR) ∈ big) (m5 : (x, childObj 216 dx #[.int tc t4, .int dc t5]) ∈ big) (m6 : (dx, emptyDict) ∈ big)
  (haR : aR = (List.replicate B (Value.ref x)).toArray) (hT : Top p loose mean mg mb h₀) (hk : cs.kind = .function)
  (hdp : dp + 200 < recursionLimit) (hun : un + 1000 < cLine)
  (hI : IntsAre vs ns) (hdc : dc = (D : Int)) (htc : tc = (D : Int) + (M : Int)) (hD : 1 ≤ D) (hM : 1 ≤ M) (hM8 : M ≤ 8) (hD2 : D ≤ 30) (hB1 : 1 ≤ B) (hB2 : B ≤ 4) (hlen : B * D ≤ ns.length) (hlen2 : ns.length < 2^19)
  (hby : ∀ x ∈ ns, 0 ≤ x ∧ x < 256) (hnz : ∀ k, k < B → ∃ x ∈ blk ns D k, x ≠ 0)
  (hret : ∀ y ws k h' tk', Fr h₀ L h' m → News h₀ L h' ((y, listOf (List.toArray ws) k) :: big) → IntsAre ws (cbX ns B D M) → AllLt y big → Q (.ref y) { s with heap := h', toks := tk' }) :
  wpAny (model PySem.Challenge.pw_bq0024_01 w) (ktrTop dp un gd cn cs L a ccd cl outer) (call (.ref 278) [.ref b, .ref R]) Q E s := by
  subst haR
  refine cb_c (news := big) hB hF hK (news_cons m1 hN (news_cons m2 hN (news_cons m3 hN (news_cons m4 hN (news_cons m5 hN (news_cons m6 hN hN)))))) hT hk hdp hun hI hdc htc hD hM hM8 hD2 hB1 hB2 hlen hlen2 hby hnz (fun y ws k h' tk' F' N' I' l' => hret y ws k h' tk' F' (fun q hq => N' q ?_) I' l'.2.2.2.2.2.2)
  rcases List.mem_cons.mp hq with h | h
  · exact List.mem_cons.mpr (.inl h)
  · exact .tail _ (.tail _ (.tail _ (.tail _ (.tail _ (.tail _ (.tail _ h))))))
end
section
theorem fillNow_disp : (PySem.Challenge.rw_bq0024_01 = PySem.Challenge.rw_bq0024_01) ∧ (hd.heap_39 = hd.heap_39) := by
  w_top off
  k_fill
  exact ⟨rfl, rfl⟩

local macro_rules | `(tactic| k_room) => `(tactic| ktr_room)
local macro_rules | `(tactic| k_lt $h:ident) => `(tactic| (replace $h := allLt_of $h; simp only [AllLt, and_true] at $h:ident; repeat (have hA := And.left $h; replace $h := And.right $h)))
local macro_rules | `(tactic| k_ne) => `(tactic| first | with_reducible assumption | (refine Ne.symm ?_; with_reducible assumption) | (refine Nat.ne_of_lt ?_; with_reducible assumption) | (refine Nat.ne_of_gt ?_; with_reducible assumption))
local macro_rules | `(tactic| k_all) => `(tactic| ((fail_if_success (refine' List.forall_mem_cons.mpr ⟨?tailNg, ?tailNh⟩)); rename AllLt _ _ => hAL; first | (refine allLt_ne hAL ?_; (try dsimp only); first | exact Nat.le_refl _ | (refine Nat.le_of_lt ?_; with_reducible assumption)) | (clear hAL; k_all) | (refine allLt_ne hAL ?_; (try dsimp only); omega)))
local macro_rules | `(tactic| k_all) => `(tactic| ((fail_if_success (refine' List.forall_mem_cons.mpr ⟨?tailNe, ?tailNf⟩)); with_reducible assumption))
local macro_rules | `(tactic| k_all) => `(tactic| (with_reducible refine all_append ?_ ?_ <;> k_all))
local macro_rules | `(tactic| k_all) => `(tactic| first | exact List.forall_mem_nil _ | (refine' List.forall_mem_cons.mpr ⟨?caZq, ?cbZq⟩; (case caZq => k_ne); (case cbZq => k_all)))
local macro_rules | `(tactic| k_units) => `(tactic| ktr_units)
local macro_rules | `(tactic| k_enter) => `(tactic| (refine' code_defC ?k1 ?k2 ?k3 ?k4 ?k5 ?kAZq ?kFZq ?kKZq ?k6 ?k7 ?k8 ?k9 ?kBZq ?kDZq ?_ ?c2 ?c3 ?c4; (case kAZq => exact rfl); (case kFZq => exact rfl); (case kKZq => first | exact rfl | assumption); (case k1 => k_asm); (case k2 => k_asm); (case k3 => k_asm); (case k4 => k_asm); (case k5 => k_asm); (case k6 => k_is); (case k7 => k_is); (case k8 => ktr_room); (case k9 => exact BindsTo.of_eq rfl); (case kBZq => exact rfl); (case kDZq => decide +kernel); (case c2 => exact rfl); (case c3 => exact rfl); (case c4 => exact rfl); k_whole; intro g' L' h' tk' cells' FG' F' N' Y' B' X' T' l1; (try k_lt l1); k_cells Y'; (try simp only [List.cons_append, List.nil_append] at N'); (try dsimp only); (try k_lift B'); (try k_fold)))
local macro_rules | `(tactic| k_enter) => `(tactic| cell_enter)
local macro_rules | `(tactic| walk_at "subscriptTail") => `(tactic| (k_here; (with_reducible show wpAny _ _ (subscriptTail _ _ (Value.ref 79) (Value.int _ _)) _ _ _); k_dflt (refine' topItemI (ns := expL) ?FZq ?XZq ?lZq ?iZq ?aZq ?bZq ?dZq ?_; (case FZq => k_asm); (case XZq => k_asm); (case lZq => k_is); (case iZq => exact intsB_of (by decide +kernel)); (case aZq => (try simp only [expL_len]); omega); (case bZq => (try simp only [expL_len]); omega); (case dZq => (try simp only [expL_len]); omega); k_whole); intro tE))
local macro_rules | `(tactic| walk_at "subscriptTail") => `(tactic| (k_here; (with_reducible show wpAny _ _ (subscriptTail _ _ (Value.ref 80) (Value.int _ _)) _ _ _); k_dflt (refine' topItemI (ns := logL) ?FZq ?XZq ?lZq ?iZq ?aZq ?bZq ?dZq ?_; (case FZq => k_asm); (case XZq => k_asm); (case lZq => k_is); (case iZq => exact intsB_of (by decide +kernel)); (case aZq => (try simp only [logL_len]); omega); (case bZq => (try simp only [logL_len]); omega); (case dZq => (try simp only [logL_len]); omega); k_whole); intro tE))


local macro_rules | `(tactic| walk_at "call ref") => `(tactic| (k_here; (with_reducible show wpAny _ _ (call (Value.ref 94) [Value.int _ _]) _ _ _); k_dflt (refine' gexp_c ?BZq ?FZq ?KZq ?NZq ?TZq ?kZq ?dZq ?uZq ?_; (case BZq => k_asm); (case FZq => k_asm); (case KZq => k_asm); (case NZq => k_asm); (case TZq => k_asm); (case kZq => first | exact rfl | assumption); (case dZq => ktr_room); (case uZq => ktr_units); k_whole); intro t9 h9 tk9 F9 N9; (try dsimp only); (try k_sweep); walk_say "CONTRACT gexp"))
local macro_rules | `(tactic| walk_at "call ref") => `(tactic| (k_here; (with_reducible show wpAny _ _ (call (Value.ref 87) [Value.int _ _]) _ _ _); k_dflt (refine' glog_c ?BZq ?FZq ?KZq ?NZq ?TZq ?kZq ?dZq ?uZq ?xZq ?yZq ?_; (case BZq => k_asm); (case FZq => k_asm); (case KZq => k_asm); (case NZq => k_asm); (case TZq => k_asm); (case kZq => first | exact rfl | assumption); (case dZq => ktr_room); (case uZq => ktr_units); (case xZq => first | assumption | omega); (case yZq => first | assumption | omega); k_whole); intro t9 h9 tk9 F9 N9; (try dsimp only); (try k_sweep); walk_say "CONTRACT glog"))
local macro_rules | `(tactic| walk_at "subscriptTail Name Slice ref ref") => `(tactic| (k_here; (with_reducible show wpAny _ _ (subscriptTail _ (PySem.Expr.Slice (some _) none none _) (Value.ref _) (Value.ref _)) _ _ _); k_dflt (refine' kmk_slice_ints ?FZq ?NZq ?lZq ?pZq ?qZq ?iZq ?mZq ?cZq ?_ ?sZq ?tZq ?zZq; (case FZq => k_asm); (case NZq => k_asm); (case lZq => kmk_list); (case pZq => kmk_part); (case qZq => kmk_part); (case iZq => assumption); (case mZq => exact kmk_from (by assumption) (by omega)); (case cZq => exact rfl); (case sZq => with_unfolding_all rfl); (case tZq => kmk_pure); (case zZq => simp only [List.size_toArray, sizeLine_eq, IntsAre.length (by assumption)]; omega)); intro D' ws' h' F' N' l1 hI' hC' hL'; clear hC' hL'; (try k_lt l1); (try k_sweep)))
local macro_rules | `(tactic| walk_at "exec Assign cons ListComp") => `(tactic| (k_here; (with_reducible show wpAny _ _ (exec (Stmt.Assign [_] (PySem.Expr.ListComp _ [⟨PySem.Expr.Tuple _ _ _, _, _, _⟩] _ _) _) _) _ _ _); k_dflt (refine assign_comp_pairs (by k_asm) (by with_unfolding_all rfl) (by with_unfolding_all rfl) (by decide) (by rfl) (by decide) (by rfl) (by rfl) (by decide) (by rfl) (by rfl) ?_)))
local macro_rules | `(tactic| walk_at "call type:zip") => `(tactic| (k_here; (with_reducible show wpAny _ _ (call (Value.type _) [Value.ref _, Value.ref _]) _ _ _); k_dflt (refine call_zip_own ?_)))
local macro_rules | `(tactic| walk_at "call type:enumerate") => `(tactic| (k_here; (with_reducible show wpAny _ _ (call (Value.type _) [Value.ref _]) _ _ _); k_dflt (refine call_enum_own ?_)))
local macro_rules | `(tactic| walk_at "pyIter ref") => `(tactic| (k_here; k_dflt (refine' owit_iter ?FZq ?XZq ?IZq ?hsZq ?hfZq ?_; (case FZq => k_asm); (case XZq => k_asm); (case IZq => k_inst); (case hsZq => k_is); (case hfZq => k_is); k_whole)))
local macro_rules | `(tactic| walk_at "OwitIt") => `(tactic| (k_here; k_dflt (refine' owit_li ?NZq ?iZq ?_; (case NZq => k_asm); (case iZq => k_mem); k_whole)))
local macro_rules | `(tactic| walk_at "call builtin:iter") => `(tactic| (k_here; (with_reducible show wpAny _ _ (call (Value.builtin "iter") [Value.ref _]) _ _ _); k_dflt (refine' call_iter_led ?FZq ?NZq ?lZq ?_; (case FZq => k_asm); (case NZq => k_asm); (case lZq => k_mem); k_whole); intro I' h' F' N' l1; (try k_lt l1); (try k_sweep)))
local macro_rules | `(tactic| walk_at "subscriptTail Name Slice ref ref") => `(tactic| (k_here; (with_reducible show wpAny _ _ (subscriptTail _ (PySem.Expr.Slice _ _ none _) (Value.ref _) (Value.ref _)) _ _ _); k_dflt (refine' sub_own_slice ?FZq ?XZq ?NZq ?IZq ?qZq ?hsZq ?hfZq ?hgZq ?_; (case FZq => k_asm); (case XZq => k_asm); (case NZq => k_asm); (case IZq => k_inst); (case qZq => k_is); (case hsZq => k_is); (case hfZq => k_is); (case hgZq => k_is); k_whole); intro sl' h' F' N' l1; (try k_lt l1); (try k_sweep)))
local macro_rules | `(tactic| walk_at "subscriptTail") => `(tactic| (k_here; (with_reducible show wpAny _ _ (subscriptTail _ (PySem.Expr.Name _ _) (Value.ref _) (Value.ref _)) _ _ _); k_dflt (refine' sub_list_slice ?FZq ?NZq ?lZq ?slZq ?paZq ?pbZq ?IZq ?mZq ?zZq ?_; (case FZq => k_asm); (case NZq => k_asm); (case lZq => k_mem); (case slZq => k_mem); (case paZq => kmk_part); (case pbZq => kmk_part); (case IZq => assumption); (case mZq => first | exact kmk_from_neg (by assumption) (by omega) | exact kmk_from (by assumption) (by omega) | exact kmk_upto (by assumption) (by omega) | exact kmk_upto_neg (by assumption) (by omega)); (case zZq => rw [sizeLine_eq]; omega); k_whole); intro D' ws' h' F' N' l1 hI'; (try k_lt l1); (try k_sweep)))
local macro_rules | `(tactic| walk_at "call builtin:list.extend") => `(tactic| (k_here; (with_reducible show wpAny _ _ (call (Value.builtin _) [Value.ref _, Value.ref _]) _ _ _); k_dflt (refine' ext_ints ?FZq ?NZq ?bZq ?UZq ?I1Zq ?I2Zq ?neZq ?h1Zq ?h2Zq ?_; (case FZq => k_asm); (case NZq => k_asm); (case bZq => k_mem); (case UZq => k_upd); (case I1Zq => assumption); (case I2Zq => assumption); (case neZq => (try simp only [List.length_drop]); omega); (case h1Zq => omega); (case h2Zq => (try simp only [List.length_drop]); omega); k_whole); intro vs' h' F' eX' N' hI'; (try rw [← eX'] at N'); clear eX'; (try k_sweep)))
local macro_rules | `(tactic| walk_at "call builtin:list.append") => `(tactic| (k_here; (with_reducible show wpAny _ _ (call (Value.builtin _) [Value.ref _, Value.int _ _]) _ _ _); k_dflt (refine' app_ints ?FZq ?NZq ?UZq ?I1Zq ?h1Zq ?_; (case FZq => k_asm); (case NZq => k_asm); (case UZq => k_upd); (case I1Zq => first | assumption | exact IntsAre.nil); (case h1Zq => first | omega | ((simp only [List.length_append, List.length_cons, List.length_nil]); omega)); k_whole); intro vs' h' F' eX' N' hI'; (try rw [← eX'] at N'); clear eX'; (try k_sweep)))

local macro_rules | `(tactic| walk_at "call ref") => `(tactic| (k_here; (with_reducible show wpAny _ _ (call (Value.ref 144) [Value.ref _, Value.int _ _]) _ _ _); k_dflt (refine' poly_c ?BZq ?FZq ?KZq ?NZq ?TZq ?kZq ?dZq ?uZq ?IZq ?pZq ?lZq ?sZq ?zZq ?_; (case BZq => k_asm); (case FZq => k_asm); (case KZq => k_asm); (case NZq => refine' news_cons ?NmZq ?NnZq ?NrZq; (case NnZq => k_asm); (case NrZq => k_asm); (case NmZq => k_mem)); (case TZq => k_asm); (case kZq => first | exact rfl | assumption); (case dZq => ktr_room); (case uZq => ktr_units); (case IZq => assumption); (case pZq => first | assumption | omega | ((simp only [List.length_append, List.length_drop, List.length_map, List.length_take]); omega)); (case lZq => first | assumption | omega | ((simp only [List.length_append, List.length_drop, List.length_map, List.length_take]); omega)); (case sZq => omega); (case zZq => omega); k_whole); intro x9 d9 l9 vs9 hs9 t9 h9 tk9 F9 N9 I9 o1 o2 o3; (try simp only [AllLt, and_true] at o1); (repeat (have hA := And.left o1; replace o1 := And.right o1)); (try simp only [Int.toNat_zero, List.replicate_zero, List.append_nil] at I9); (try dsimp only); (try k_sweep); walk_say "CONTRACT poly"))

local macro_rules | `(tactic| walk_at "call ref") => `(tactic| (k_here; (with_reducible show wpAny _ _ (call (Value.ref 266) [Value.ref _, Value.bool _]) _ _ _); k_dflt (refine' putbit_d ?BZq ?FZq ?KZq ?NZq ?bZq ?l1Zq ?U1Zq ?U2Zq ?TZq ?kZq ?dZq ?uZq ?a1Zq ?a2Zq ?a3Zq ?IZq ?lZq ?zZq ?yZq ?qZq ?_; (case BZq => k_asm); (case FZq => k_asm); (case KZq => k_asm); (case NZq => k_asm); (case bZq => k_mem); (case U1Zq => k_updF); (case l1Zq => k_mem); (case U2Zq => (intro o9; (try dsimp only); k_updF)); (case TZq => k_asm); (case kZq => first | exact rfl | assumption); (case dZq => ktr_room); (case uZq => ktr_units); (case a1Zq => k_ne); (case a2Zq => k_ne); (case a3Zq => k_ne); (case IZq => assumption); (case lZq => omega); (case zZq => first | assumption | omega); (case yZq => omega); (case qZq => first | assumption | omega); k_whole); intro vs9 zs9 n9 t9 h9 tk9 F9 N9 I9 e9 q9 l9 p9; (try dsimp only at N9); (try dsimp only); (try k_sweep); walk_say "CONTRACT putbit"))

local macro_rules | `(tactic| walk_at "UnrEnd") => `(tactic| (k_here; refine' unr_head ?FZq ?NZq ?oZq ?_; (case FZq => k_asm); (case NZq => k_asm); (case oZq => k_all); k_whole))

local macro_rules | `(tactic| walk_at "call ref") => `(tactic| (k_here; (with_reducible show wpAny _ _ (call (Value.ref 252) [Value.ref _, Value.int _ _, Value.int 8 _]) _ _ _); k_dflt (refine' put_d ?BZq ?FZq ?KZq ?NZq ?bZq ?l1Zq ?U1Zq ?U2Zq ?TZq ?kZq ?dZq ?uZq ?a1Zq ?a2Zq ?a3Zq ?IZq ?lZq ?eZq ?n0Zq ?n1Zq ?_; (case BZq => k_asm); (case FZq => k_asm); (case KZq => k_asm); (case NZq => k_asm); (case bZq => k_mem); (case U1Zq => k_updF); (case l1Zq => k_mem); (case U2Zq => (intro o9; (try dsimp only); k_updF)); (case TZq => k_asm); (case kZq => first | exact rfl | assumption); (case dZq => ktr_room); (case uZq => ktr_units); (case a1Zq => k_ne); (case a2Zq => k_ne); (case a3Zq => k_ne); (case IZq => with_reducible assumption); (case lZq => omega); (case eZq => first | with_reducible assumption | omega); (case n0Zq => omega); (case n1Zq => omega); k_whole); intro vs9 len9 n9 t9 h9 tk9 F9 N9 I9 e9; (try dsimp only at N9); (try dsimp only); (try k_sweep); walk_say "CONTRACT put"))

local macro_rules | `(tactic| walk_at "call ref") => `(tactic| (k_here; (with_reducible show wpAny _ _ (call (Value.ref 136) [Value.ref _, Value.ref _]) (PySem.W.CmpBack _) _ _); k_dflt (refine' mul_d ?BZq ?FZq ?KZq ?NZq ?m1Zq ?m2Zq ?m3Zq ?m4Zq ?m5Zq ?m6Zq ?TZq ?kZq ?I1Zq ?I2Zq ?l1Zq ?l2Zq ?p1Zq ?p2Zq ?r1Zq ?r2Zq ?dZq ?uZq ?_; (case BZq => k_asm); (case FZq => k_asm); (case KZq => k_asm); (case NZq => k_asm); (case m1Zq => k_mem); (case m2Zq => k_mem); (case m3Zq => k_mem); (case m4Zq => k_mem); (case m5Zq => k_mem); (case m6Zq => k_mem); (case TZq => k_asm); (case kZq => first | exact rfl | assumption); (case I1Zq => with_reducible assumption); (case I2Zq => with_reducible assumption); (case l1Zq => omega); (case l2Zq => omega); (case p1Zq => omega); (case p2Zq => omega); (case r1Zq => with_reducible assumption); (case r2Zq => with_reducible assumption); (case dZq => ktr_room); (case uZq => ktr_units); k_whole); intro x9 d9 l9 vs9 hs9 t9 h9 tk9 F9 N9 I9; dsimp only [PySem.W.CmpBack]; (try dsimp only); (try k_sweep); walk_say "CONTRACT mul"))
local macro_rules | `(tactic| walk_at "call ref") => `(tactic| (k_here; (with_reducible show wpAny _ _ (call (Value.ref 141) [Value.ref _, Value.ref _]) (PySem.W.CmpBack _) _ _); k_dflt (refine' mod_d (k := 38) ?BZq ?FZq ?KZq ?NZq ?m1Zq ?m2Zq ?m3Zq ?m4Zq ?m5Zq ?m6Zq ?TZq ?kZq ?I1Zq ?I2Zq ?l1Zq ?l2Zq ?p1Zq ?p2Zq ?qZq ?r1Zq ?r2Zq ?zZq ?dZq ?uZq ?_; (case BZq => k_asm); (case FZq => k_asm); (case KZq => k_asm); (case NZq => k_asm); (case m1Zq => k_mem); (case m2Zq => k_mem); (case m3Zq => k_mem); (case m4Zq => k_mem); (case m5Zq => k_mem); (case m6Zq => k_mem); (case TZq => k_asm); (case kZq => first | exact rfl | assumption); (case I1Zq => with_reducible assumption); (case I2Zq => with_reducible assumption); (case l1Zq => omega); (case l2Zq => omega); (case p1Zq => omega); (case p2Zq => omega); (case qZq => omega); (case r1Zq => with_reducible assumption); (case r2Zq => with_reducible assumption); (case zZq => with_reducible assumption); (case dZq => ktr_room); (case uZq => ktr_units); k_whole); intro x9 d9 l9 vs9 hs9 t9 k9 n9 h9 tk9 F9 N9 I9; dsimp only [PySem.W.CmpBack]; (try dsimp only); (try k_sweep); walk_say "CONTRACT mod"))

local macro_rules | `(tactic| walk_at "getMethod type:tuple") => `(tactic| (k_here; refine' method_type ?FZq ?XZq ?mZq (by decide +kernel) ?eZq ?hZq ?_; (case FZq => k_asm); (case XZq => k_asm); (case mZq => first | exact rfl | kernel_rfl); (case eZq => k_dflt k_is); (case hZq => k_handed)))
local macro_rules | `(tactic| walk_at "call builtin:tuple.__new__") => `(tactic| (k_here; (refine' tuple_childN (C := 216) ?FZq ?NZq ?XZq ?mZq ?oZq ?e2Zq ?lZq ?bZq ?sZq ?iZq ?tcZq ?tdZq ?szZq ?_; (case FZq => k_asm); (case NZq => k_asm); (case XZq => k_asm); (case mZq => k_mem); (case oZq => exact rfl); (case e2Zq => exact rfl); (case lZq => exact rfl); (case bZq => exact rfl); (case sZq => exact rfl); (case iZq => first | k_is | kernel_rfl); (case tcZq => exact rfl); (case tdZq => exact rfl); (case szZq => (rw [sizeLine_eq]; exact Nat.le_of_ble_eq_true rfl)); k_whole); intro x' dx' h' F' N' l1 o1; (try k_lt l1); (try k_sweep)))

local macro_rules | `(tactic| walk_at "getAttr ref") => `(tactic| (k_here; (with_reducible show wpAny _ _ (getAttr (Value.ref _) (PySem.Str.ofString "data_count") _) _ _ _); k_dflt (refine' fld_d ?BZq ?FZq ?KZq ?NZq ?mxZq ?mdZq ?TZq ?kZq ?dZq ?uZq ?_; (case BZq => k_asm); (case FZq => k_asm); (case KZq => k_asm); (case NZq => k_asm); (case mxZq => k_mem); (case mdZq => k_mem); (case TZq => k_asm); (case kZq => first | exact rfl | assumption); (case dZq => ktr_room); (case uZq => ktr_units); k_whole); intro t9 h9 tk9 F9 N9; (try dsimp only); (try k_sweep); walk_say "CONTRACT data_count"))
local macro_rules | `(tactic| walk_at "getAttr ref") => `(tactic| (k_here; (with_reducible show wpAny _ _ (getAttr (Value.ref _) (PySem.Str.ofString "total_count") _) _ _ _); k_dflt (refine' fldt_d ?BZq ?FZq ?KZq ?NZq ?mxZq ?mdZq ?TZq ?kZq ?dZq ?uZq ?_; (case BZq => k_asm); (case FZq => k_asm); (case KZq => k_asm); (case NZq => k_asm); (case mxZq => k_mem); (case mdZq => k_mem); (case TZq => k_asm); (case kZq => first | exact rfl | assumption); (case dZq => ktr_room); (case uZq => ktr_units); k_whole); intro t9 h9 tk9 F9 N9; (try dsimp only); (try k_sweep); walk_say "CONTRACT total_count"))
local macro_rules | `(tactic| walk_at "call ref") => `(tactic| (k_here; (with_reducible show wpAny _ _ (call (Value.ref 216) [Value.int _ _, Value.int _ _]) _ _ _); k_dflt (refine' rsb_c ?BZq ?FZq ?KZq ?NZq ?TZq ?kZq ?dZq ?uZq ?_; (case BZq => k_asm); (case FZq => k_asm); (case KZq => k_asm); (case NZq => k_asm); (case TZq => k_asm); (case kZq => first | exact rfl | assumption); (case dZq => ktr_room); (case uZq => ktr_units); k_whole); intro x9 d9 h9 tk9 F9 N9 o1 o2; (try simp only [AllLt, and_true] at o1); (repeat (have hA := And.left o1; replace o1 := And.right o1)); (try dsimp only); (try k_sweep); walk_say "CONTRACT RSBlock"))

local macro_rules | `(tactic| walk_at "call ref") => `(tactic| (k_here; (with_reducible show wpAny _ _ (call (Value.ref 144) [Value.ref 23, Value.int _ _]) _ _ _); k_dflt (refine' poly7_c ?BZq ?FZq ?KZq ?NZq ?TZq ?kZq ?dZq ?uZq ?_; (case BZq => k_asm); (case FZq => k_asm); (case KZq => k_asm); (case NZq => k_asm); (case TZq => k_asm); (case kZq => first | exact rfl | assumption); (case dZq => ktr_room); (case uZq => ktr_units); k_whole); intro x9 d9 l9 vs9 hs9 t9 h9 tk9 F9 N9 I9 o1 o2 o3; (try simp only [AllLt, and_true] at o1); (repeat (have hA := And.left o1; replace o1 := And.right o1)); (try dsimp only); (try k_sweep); walk_say "CONTRACT poly7"))
local macro_rules | `(tactic| walk_at "subscriptTail") => `(tactic| (k_here; (with_reducible show wpAny _ _ (subscriptTail (PySem.Expr.List _ _) (PySem.Expr.Slice (some _) none none _) (Value.ref _) (Value.ref _)) _ _ _); k_dflt (refine' sub_disp_slice (vs := [_, _, _]) ?FZq ?NZq ?lZq ?paZq ?pbZq ?IZq ?mZq ?zZq ?_ ?sZq; (case FZq => k_asm); (case NZq => k_asm); (case lZq => k_mem); (case paZq => kmk_part); (case pbZq => kmk_part); (case IZq => exact .cons _ _ (.cons _ _ (.cons _ _ .nil))); (case mZq => exact kmk_from (.cons _ _ (.cons _ _ (.cons _ _ .nil))) (by omega)); (case zZq => (rw [sizeLine_eq]; exact Nat.le_of_ble_eq_true rfl)); (case sZq => with_unfolding_all rfl); k_whole); intro D' ws' h' F' N' l1 hI'; (try k_lt l1); (try k_sweep)))
local macro_rules | `(tactic| walk_at "subscriptTail") => `(tactic| (k_here; (with_reducible show wpAny _ _ (subscriptTail (PySem.Expr.List _ _) (PySem.Expr.Slice (some _) none none _) (Value.ref _) (Value.ref _)) _ _ _); k_dflt (refine' sub_disp_slice (vs := [_]) ?FZq ?NZq ?lZq ?paZq ?pbZq ?IZq ?mZq ?zZq ?_ ?sZq; (case FZq => k_asm); (case NZq => k_asm); (case lZq => k_mem); (case paZq => kmk_part); (case pbZq => kmk_part); (case IZq => exact .cons _ _ .nil); (case mZq => exact kmk_from (.cons _ _ .nil) (by omega)); (case zZq => (rw [sizeLine_eq]; exact Nat.le_of_ble_eq_true rfl)); (case sZq => with_unfolding_all rfl); k_whole); intro D' ws' h' F' N' l1 hI'; (try k_lt l1); (try k_sweep)))
local macro_rules | `(tactic| walk_at "subscriptTail") => `(tactic| (k_here; (with_reducible show wpAny _ _ (subscriptTail _ _ (Value.ref _) (Value.int _ _)) _ _ _); k_dflt (refine' led_item ?NZq ?lZq ?iZq ?aZq ?bZq ?cZq ?_ ?dZq; (case NZq => k_asm); (case lZq => k_mem); (case iZq => with_reducible assumption); (case aZq => omega); (case bZq => omega); (case cZq => omega); (case dZq => with_unfolding_all rfl); k_whole); intro tE))
local macro_rules | `(tactic| walk_at "subscriptTail") => `(tactic| (k_here; (with_reducible show wpAny _ _ (subscriptTail _ (PySem.Expr.Slice none (some _) none _) (Value.ref _) (Value.ref _)) _ _ _); k_dflt (refine' sub_disp_slice ?FZq ?NZq ?lZq ?paZq ?pbZq ?IZq ?mZq ?zZq ?_ ?sZq; (case FZq => k_asm); (case NZq => k_asm); (case lZq => k_mem); (case paZq => kmk_part); (case pbZq => kmk_part); (case IZq => with_reducible assumption); (case mZq => exact kmk_upto (by with_reducible assumption) (by omega)); (case zZq => (rw [sizeLine_eq]; omega)); (case sZq => with_unfolding_all rfl); k_whole); intro D' ws' h' F' N' l1 hI'; (try k_lt l1); (try k_sweep)))
end
section
/-! law 1, plain: what each deed does to a row that tells itself -/
/-- _law_times -/
def timesI (x p : Int) : Int := if 0 < x then gexpI (glogI x + p) else 0
theorem timesI_byte {x : Int} (p : Int) : 0 ≤ timesI x p ∧ timesI x p < 256 := by
  unfold timesI
  split
  · have := gexpI_byte (glogI x + p); omega
  · decide
theorem timesI_zero (p : Int) : timesI 0 p = 0 := by unfold timesI; rw [if_neg (by decide)]
theorem timesI_pos {x p : Int} (h : 0 < x) : 1 ≤ timesI x p := by
  unfold timesI
  rw [if_pos h]
  exact (gexpI_byte _).1
theorem times_pw {x p : Int} (hx : 0 ≤ x ∧ x < 256) : ofI (timesI x p) = pw (p.fmod 255).toNat (ofI x) := by
  unfold timesI
  split
  · exact gexp_shift ⟨by omega, hx.2⟩
  · have : x = 0 := by omega
    subst this
    show (0#8 : B8) = pw _ 0#8
    rw [pw_zero]
theorem times_nat {x : Int} {k : Nat} (hx : 0 ≤ x ∧ x < 256) : ofI (timesI x (k : Int)) = pw k (ofI x) := by
  rw [times_pw hx, Int.fmod_eq_emod_of_nonneg _ (by decide), ← pw_mod k]
  congr 1
theorem ev_nought (j : Nat) : ev j (up [0]) = 0#8 := by
  show pw (j * 0) 0#8 ^^^ 0#8 = 0#8
  rw [pw_zero]; rfl
structure Good1 (row : List Int) (many : Nat) : Prop where
  byte : IsB row
  nz : ∃ x ∈ row, x ≠ 0
  ev : ∀ j, j < many → ev j (up row) = 0#8
  m1 : 1 ≤ many
  m7 : many ≤ 7
  len : many < row.length
theorem isB_append {xs ys : List Int} (hx : IsB xs) (hy : IsB ys) : IsB (xs ++ ys) := fun z hz => by
  rcases List.mem_append.mp hz with h | h
  · exact hx z h
  · exact hy z h
theorem all_zero_up : ∀ xs : List Int, (∀ x ∈ xs, x = 0) → up xs = List.replicate xs.length 0#8
  | [], _ => rfl
  | x :: xs, h => by
    rw [List.length_cons, List.replicate_succ, ← all_zero_up xs (fun z hz => h z (.tail _ hz)), h x (.head _)]
    rfl
/-- the octets in front are not all nought -/
theorem Good1.front {row : List Int} {many : Nat} (h : Good1 row many) : ∃ x ∈ row.take (row.length - many), x ≠ 0 := by
  refine Classical.byContradiction fun hn => ?_
  have h0 : ∀ x ∈ row.take (row.length - many), x = 0 := fun x hx => Classical.byContradiction fun hx0 => hn ⟨x, hx, hx0⟩
  have hlen := h.len
  have hdl : (row.drop (row.length - many)).length = many := by rw [List.length_drop]; omega
  have e : up (row.drop (row.length - many)) = List.replicate many 0#8 := by
    refine ev_none many _ (by have := h.m7; omega) (by rw [up_length]; exact hdl) (fun j hj => ?_)
    have q := h.ev j hj
    rw [← List.take_append_drop (row.length - many) row, up_append, ev_append, all_zero_up _ h0, ev_zeros, pw_zero, BitVec.zero_xor] at q
    exact q
  obtain ⟨x, hx, hx0⟩ := h.nz
  rw [← List.take_append_drop (row.length - many) row] at hx
  rcases List.mem_append.mp hx with hx | hx
  · exact hx0 (h0 x hx)
  · have : ofI x ∈ up (row.drop (row.length - many)) := List.mem_map.mpr ⟨x, hx, rfl⟩
    rw [e] at this
    exact hx0 (ofI_zero (h.byte x (List.mem_of_mem_drop hx)) (List.mem_replicate.mp this).2)
/-- such a row tells itself -/
theorem Good1.tells {row : List Int} {many : Nat} (h : Good1 row many) (hl : row.length ≤ 30) : cbX (row.take (row.length - many)) 1 (row.length - many) many = row := by
  have hlen := h.len
  have ht : (row.take (row.length - many)).length = row.length - many := by rw [List.length_take]; omega
  have hd : (row.drop (row.length - many)).length = many := by rw [List.length_drop]; omega
  have e := Mine.tells (ds := row.take (row.length - many)) (e := row.drop (row.length - many)) (M := many) (fun x hx => h.byte x (List.mem_of_mem_take hx)) h.front h.m1 (by have := h.m7; omega) (by omega) (fun x hx => h.byte x (List.mem_of_mem_drop hx)) hd (fun j hj => by rw [List.take_append_drop]; exact h.ev j hj)
  have c := cbX_one (ns := row.take (row.length - many)) (M := many)
  rw [ht] at c
  rw [c, e, List.take_append_drop]
theorem Good1.tells2 {row : List Int} {many : Nat} (h : Good1 row many) (hl : row.length ≤ 30) : cbX (row.take (row.length - many)) 1 (row.take (row.length - many)).length many = row := by
  have hlen := h.len
  have ht : (row.take (row.length - many)).length = row.length - many := by rw [List.length_take]; omega
  rw [ht]
  exact h.tells hl
/-- a row as create_bytes makes it -/
theorem good_start {ns : List Int} {M : Nat} (hb : IsB ns) (hnz : ∃ x ∈ ns, x ≠ 0) (h1 : 1 ≤ M) (h7 : M ≤ 7) (hl : ns.length ≤ 30) : Good1 (cbX ns 1 ns.length M) M := by
  rw [cbX_one]
  refine ⟨isB_append hb (ec_byte hb hnz h1 (by omega) hl), ?_, fun j hj => ec_vanish hb hnz (by omega) hl hj, h1, h7, ?_⟩
  · obtain ⟨x, hx, hx0⟩ := hnz
    exact ⟨x, List.mem_append_left _ hx, hx0⟩
  · rw [List.length_append, ecX_length]
    obtain ⟨x, hx, _⟩ := hnz
    have := List.length_pos_of_mem hx
    omega
theorem cbX1_length {ns : List Int} {M : Nat} : (cbX ns 1 ns.length M).length = ns.length + M := by rw [cbX_one, List.length_append, ecX_length]
/-- deed 0: another row behind it -/
theorem good0 {row other : List Int} {m : Nat} (h : Good1 row m) (h2 : Good1 other m) : Good1 (row ++ other) m := by
  refine ⟨isB_append h.byte h2.byte, ?_, fun j hj => ?_, h.m1, h.m7, ?_⟩
  · obtain ⟨x, hx, hx0⟩ := h.nz
    exact ⟨x, List.mem_append_left _ hx, hx0⟩
  · rw [up_append, ev_append, h.ev j hj, h2.ev j hj, pw_zero]; rfl
  · rw [List.length_append]; have := h.len; omega
/-- deed 3: a nought behind it -/
theorem good3 {row : List Int} {m : Nat} (h : Good1 row m) : Good1 (row ++ [0]) m := by
  refine ⟨isB_append h.byte (fun x hx => by rw [List.mem_singleton.mp hx]; decide), ?_, fun j hj => ?_, h.m1, h.m7, ?_⟩
  · obtain ⟨x, hx, hx0⟩ := h.nz
    exact ⟨x, List.mem_append_left _ hx, hx0⟩
  · rw [up_append, ev_append, h.ev j hj, pw_zero, ev_nought]; rfl
  · rw [List.length_append]; have := h.len; omega
/-- the octets times a power of 2 -/
theorem up_times {p : Int} : ∀ {row : List Int}, IsB row → up (row.map (fun x => timesI x p)) = (up row).map (pw (p.fmod 255).toNat)
  | [], _ => rfl
  | x :: r, h => by
    have ih := up_times (p := p) (row := r) (fun z hz => h z (.tail _ hz))
    simp only [up, List.map_cons] at ih ⊢
    rw [ih, times_pw (h x (.head _))]
theorem isB_times {p : Int} {row : List Int} : IsB (row.map (fun x => timesI x p)) := fun z hz => by
  obtain ⟨x, _, rfl⟩ := List.mem_map.mp hz
  exact timesI_byte p
theorem good2 {row : List Int} {m : Nat} (p : Int) (h : Good1 row m) : Good1 (row.map (fun x => timesI x p)) m := by
  refine ⟨isB_times, ?_, fun j hj => ?_, h.m1, h.m7, ?_⟩
  · obtain ⟨x, hx, hx0⟩ := h.nz
    have hb := h.byte x hx
    refine ⟨_, List.mem_map.mpr ⟨x, hx, rfl⟩, ?_⟩
    have := timesI_pos (x := x) (p := p) (by omega)
    omega
  · rw [up_times h.byte, ev_pw, h.ev j hj, pw_zero]
  · rw [List.length_map]; exact h.len
/-! two rows added -/
def addI (xs ys : List Int) : List Int := List.zipWith Builtin.bitXor xs ys
theorem up_add : ∀ {xs ys : List Int}, IsB xs → IsB ys → up (addI xs ys) = xz (up xs) (up ys)
  | [], _, _, _ => by simp [addI, up, xz]
  | _ :: _, [], _, _ => by simp [addI, up, xz]
  | x :: xs, y :: ys, hx, hy => by
    have ih := up_add (xs := xs) (ys := ys) (fun z hz => hx z (.tail _ hz)) (fun z hz => hy z (.tail _ hz))
    simp only [addI, up, xz, List.zipWith_cons_cons, List.map_cons] at ih ⊢
    rw [ih, ofI_xor (hx x (.head _)) (hy y (.head _))]
theorem isB_add : ∀ {xs ys : List Int}, IsB xs → IsB ys → IsB (addI xs ys)
  | [], _, _, _ => by intro z hz; simp [addI] at hz
  | _ :: _, [], _, _ => by intro z hz; simp [addI] at hz
  | x :: xs, y :: ys, hx, hy => by
    intro z hz
    simp only [addI, List.zipWith_cons_cons, List.mem_cons] at hz
    rcases hz with rfl | hz
    · exact bx_byte (hx x (.head _)) (hy y (.head _))
    · exact isB_add (xs := xs) (ys := ys) (fun z hz => hx z (.tail _ hz)) (fun z hz => hy z (.tail _ hz)) z hz
theorem add_length {xs ys : List Int} (h : xs.length = ys.length) : (addI xs ys).length = xs.length := by unfold addI; rw [List.length_zipWith]; omega
def padI (n : Nat) (xs : List Int) : List Int := List.replicate n 0 ++ xs
theorem isB_pad {n : Nat} {xs : List Int} (h : IsB xs) : IsB (padI n xs) := isB_append (fun x hx => by rw [(List.mem_replicate.mp hx).2]; decide) h
theorem ev_pad {n j : Nat} {xs : List Int} : ev j (up (padI n xs)) = ev j (up xs) := by
  unfold padI
  rw [up_append, ev_append, up_zeros, ev_zeros, pw_zero, BitVec.zero_xor]
theorem sum_zero : ∀ {xs : List Int}, IsB xs → (∀ x ∈ xs, x = 0) → xs.sum = 0
  | [], _, _ => rfl
  | x :: xs, hb, h => by rw [List.sum_cons, h x (.head _), sum_zero (fun z hz => hb z (.tail _ hz)) (fun z hz => h z (.tail _ hz))]; rfl
/-- deed 1: another row added, the ends side by side -/
theorem good1 {row other : List Int} {m : Nat} (h : Good1 row m) (h2 : Good1 other m) {a b : Nat} (hl : a + row.length = b + other.length) (hs : (addI (padI a row) (padI b other)).sum ≠ 0) : Good1 (addI (padI a row) (padI b other)) m := by
  have hl' : (padI a row).length = (padI b other).length := by unfold padI; simp only [List.length_append, List.length_replicate]; exact hl
  have hb := isB_add (isB_pad (n := a) h.byte) (isB_pad (n := b) h2.byte)
  refine ⟨hb, ?_, fun j hj => ?_, h.m1, h.m7, ?_⟩
  · refine Classical.byContradiction fun hn => hs (sum_zero hb fun x hx => Classical.byContradiction fun hx0 => hn ⟨x, hx, hx0⟩)
  · rw [up_add (isB_pad h.byte) (isB_pad h2.byte), ev_xz _ _ _ (by rw [up_length, up_length]; exact hl'), ev_pad, ev_pad, h.ev j hj, h2.ev j hj]; rfl
  · rw [add_length hl']; unfold padI; rw [List.length_append]; have := h.len; omega
/-- deed 7: times the sum of x and a power of 2 -/
theorem shift_zero {p : Int} : ∀ {row : List Int}, row ++ [0] = 0 :: row.map (fun x => timesI x p) → ∀ x ∈ row, x = 0
  | [], _ => by simp
  | x :: r, h => by
    simp only [List.cons_append, List.map_cons, List.cons.injEq] at h
    obtain ⟨rfl, h⟩ := h
    rw [timesI_zero] at h
    intro z hz
    rcases List.mem_cons.mp hz with rfl | hz
    · rfl
    · exact shift_zero h z hz
theorem xor_zero_eq {x y : Int} (hx : 0 ≤ x ∧ x < 256) (hy : 0 ≤ y ∧ y < 256) (h : Builtin.bitXor x y = 0) : x = y := by
  refine ofI_inj hx hy ?_
  have e := ofI_xor hx hy
  rw [h] at e
  have := congrArg (fun z => ofI x ^^^ z) e
  simp only [xcc] at this
  rw [← this]
  show ofI x = ofI x ^^^ 0#8
  rw [BitVec.xor_zero]
theorem add_zero_eq : ∀ {xs ys : List Int}, IsB xs → IsB ys → xs.length = ys.length → (∀ z ∈ addI xs ys, z = 0) → xs = ys
  | [], [], _, _, _, _ => rfl
  | [], _ :: _, _, _, h, _ => by simp at h
  | _ :: _, [], _, _, h, _ => by simp at h
  | x :: xs, y :: ys, hx, hy, hl, h => by
    rw [xor_zero_eq (hx x (.head _)) (hy y (.head _)) (h _ (by simp [addI])), add_zero_eq (xs := xs) (ys := ys) (fun z hz => hx z (.tail _ hz)) (fun z hz => hy z (.tail _ hz)) (by simpa using hl) (fun z hz => h z (by simp only [addI, List.zipWith_cons_cons, List.mem_cons]; exact .inr hz))]
theorem good7 {row : List Int} {m : Nat} (p : Int) (h : Good1 row m) : Good1 (addI (row ++ [0]) ([0] ++ row.map (fun x => timesI x p))) m := by
  have b0 : IsB [0] := fun x hx => by rw [List.mem_singleton.mp hx]; decide
  have hb1 := isB_append h.byte b0
  have hb2 := isB_append b0 (isB_times (p := p) (row := row))
  have hl : (row ++ [0]).length = ([0] ++ row.map (fun x => timesI x p)).length := by simp
  refine ⟨isB_add hb1 hb2, ?_, fun j hj => ?_, h.m1, h.m7, ?_⟩
  · refine Classical.byContradiction fun hn => ?_
    have e := add_zero_eq hb1 hb2 hl (fun x hx => Classical.byContradiction fun hx0 => hn ⟨x, hx, hx0⟩)
    obtain ⟨x, hx, hx0⟩ := h.nz
    exact hx0 (shift_zero e x hx)
  · rw [up_add hb1 hb2, ev_xz _ _ _ (by rw [up_length, up_length]; exact hl), up_append, up_append, ev_append, ev_append, up_times h.byte, ev_pw, h.ev j hj, ev_nought, pw_zero, pw_zero]
    simp only [pw_zero, BitVec.xor_self]
  · rw [add_length hl, List.length_append]; have := h.len; omega
/-! deed 5: each octet times 2 as often as it stands from the end -/
def k5L : List Int → List Int
  | [] => []
  | x :: r => timesI x (r.length : Int) :: k5L r
theorem k5L_length : ∀ r : List Int, (k5L r).length = r.length
  | [] => rfl
  | x :: r => by rw [k5L, List.length_cons, k5L_length r, List.length_cons]
theorem isB_k5 : ∀ r : List Int, IsB (k5L r)
  | [] => by intro z hz; simp [k5L] at hz
  | x :: r => by
    intro z hz
    rw [k5L] at hz
    rcases List.mem_cons.mp hz with rfl | hz
    · exact timesI_byte _
    · exact isB_k5 r z hz
theorem ev_k5 (j : Nat) : ∀ {r : List Int}, IsB r → ev j (up (k5L r)) = ev (j + 1) (up r)
  | [], _ => rfl
  | x :: r, h => by
    have ih := ev_k5 j (r := r) (fun z hz => h z (.tail _ hz))
    show pw (j * (up (k5L r)).length) (ofI (timesI x (r.length : Int))) ^^^ ev j (up (k5L r)) = pw ((j + 1) * (up r).length) (ofI x) ^^^ ev (j + 1) (up r)
    rw [ih, up_length, up_length, k5L_length, times_nat (h x (.head _)), ← pw_add, Nat.add_mul, Nat.one_mul]
theorem k5_nz : ∀ {r : List Int}, IsB r → (∃ x ∈ r, x ≠ 0) → ∃ x ∈ k5L r, x ≠ 0
  | [], _, h => by simp at h
  | x :: r, hb, ⟨z, hz, hz0⟩ => by
    rw [k5L]
    rcases List.mem_cons.mp hz with rfl | hz
    · have hb' := hb z (.head _)
      refine ⟨_, .head _, ?_⟩
      have := timesI_pos (x := z) (p := (r.length : Int)) (by omega)
      omega
    · obtain ⟨y, hy, hy0⟩ := k5_nz (r := r) (fun z hz => hb z (.tail _ hz)) ⟨z, hz, hz0⟩
      exact ⟨y, .tail _ hy, hy0⟩
theorem good5 {row : List Int} {m : Nat} (h : Good1 row m) (h1 : 1 < m) : Good1 (k5L row) (m - 1) :=
  ⟨isB_k5 row, k5_nz h.byte h.nz, fun j hj => by rw [ev_k5 j h.byte]; exact h.ev (j + 1) (by omega), by omega, by have := h.m7; omega, by rw [k5L_length]; have := h.len; omega⟩
theorem k5_map : ∀ r : List Int, (List.range r.length).map (fun k => timesI (r.getD k 0) ((r.length : Int) - 1 - (k : Int))) = k5L r
  | [] => rfl
  | x :: r => by
    rw [List.length_cons, List.range_succ_eq_map, List.map_cons, List.map_map, k5L, ← k5_map r]
    congr 1
    · show timesI x _ = _
      congr 1
      omega
    · refine List.map_congr_left fun k _ => ?_
      show timesI ((x :: r).getD (k + 1) 0) _ = _
      rw [List.getD_cons_succ]
      congr 1
      omega
/-! deed 6: turned round -/
def k6L (c : Nat) : List Int → List Int
  | [] => []
  | x :: r => k6L c r ++ [timesI x ((r.length : Int) * (c : Int))]
theorem k6L_length (c : Nat) : ∀ r : List Int, (k6L c r).length = r.length
  | [] => rfl
  | x :: r => by rw [k6L, List.length_append, k6L_length c r, List.length_cons]; rfl
theorem isB_k6 (c : Nat) : ∀ r : List Int, IsB (k6L c r)
  | [] => by intro z hz; simp [k6L] at hz
  | x :: r => by
    rw [k6L]
    exact isB_append (isB_k6 c r) (fun z hz => by rw [List.mem_singleton.mp hz]; exact timesI_byte _)
theorem ev_k6 {c j : Nat} (hj : j ≤ c) : ∀ {r : List Int}, IsB r → pw j (ev j (up (k6L c r))) = pw (j * r.length) (ev (c - j) (up r))
  | [], _ => by simp [k6L, up, ev, pw_zero]
  | x :: r, h => by
    have ih := ev_k6 hj (r := r) (fun z hz => h z (.tail _ hz))
    have e : ev j (up (k6L c (x :: r))) = pw j (ev j (up (k6L c r))) ^^^ pw (r.length * c) (ofI x) := by
      rw [k6L, up_append, ev_append]
      show pw (j * 1) _ ^^^ (pw (j * 0) (ofI (timesI x ((r.length : Int) * (c : Int)))) ^^^ 0#8) = _
      rw [Nat.mul_one, Nat.mul_zero, BitVec.xor_zero, ← Int.natCast_mul, times_nat (h x (.head _))]
      rfl
    rw [e, ih, pw_xor, ← pw_add, ← pw_add]
    show _ = pw (j * (x :: r).length) (pw ((c - j) * (up r).length) (ofI x) ^^^ ev (c - j) (up r))
    rw [pw_xor, ← pw_add, up_length, List.length_cons, BitVec.xor_comm, Nat.mul_add j, Nat.mul_one, Nat.add_comm j (j * r.length)]
    congr 2
    obtain ⟨d, rfl⟩ := Nat.exists_eq_add_of_le hj
    rw [Nat.add_sub_cancel_left, Nat.mul_add, Nat.mul_comm r.length j, Nat.mul_comm r.length d]
    omega
theorem k6_nz (c : Nat) : ∀ {r : List Int}, IsB r → (∃ x ∈ r, x ≠ 0) → ∃ x ∈ k6L c r, x ≠ 0
  | [], _, h => by simp at h
  | x :: r, hb, ⟨z, hz, hz0⟩ => by
    rw [k6L]
    rcases List.mem_cons.mp hz with rfl | hz
    · have hb' := hb z (.head _)
      refine ⟨_, List.mem_append_right _ (List.mem_singleton.mpr rfl), ?_⟩
      have := timesI_pos (x := z) (p := (r.length : Int) * (c : Int)) (by omega)
      omega
    · obtain ⟨y, hy, hy0⟩ := k6_nz c (r := r) (fun z hz => hb z (.tail _ hz)) ⟨z, hz, hz0⟩
      exact ⟨y, List.mem_append_left _ hy, hy0⟩
theorem good6 {row : List Int} {m : Nat} (h : Good1 row m) : Good1 (k6L (m - 1) row) m :=
  ⟨isB_k6 _ row, k6_nz _ h.byte h.nz, fun j hj => by
    have q := ev_k6 (c := m - 1) (j := j) (by omega) h.byte
    rw [h.ev (m - 1 - j) (by omega), pw_zero] at q
    exact pw_inj q, h.m1, h.m7, by rw [k6L_length]; exact h.len⟩
theorem k6_map (c : Nat) : ∀ r : List Int, (List.range r.length).map (fun k => timesI (r.getD (r.length - 1 - k) 0) ((k : Int) * (c : Int))) = k6L c r
  | [] => rfl
  | x :: r => by
    rw [List.length_cons, List.range_succ, List.map_append, k6L, ← k6_map c r]
    congr 1
    · refine List.map_congr_left fun k hk => ?_
      have hk' := List.mem_range.mp hk
      congr 1
      rw [show r.length + 1 - 1 - k = (r.length - 1 - k) + 1 by omega, List.getD_cons_succ]
    · show [timesI ((x :: r).getD (r.length + 1 - 1 - r.length) 0) _] = _
      rw [show r.length + 1 - 1 - r.length = 0 by omega]
      rfl
/-! deed 4: squared, with a nought between any two -/
def bitc (b : Bool) (c : B8) : B8 := if b then c else 0#8
theorem bitc_xor (a b : Bool) (c : B8) : bitc (a ^^ b) c = bitc a c ^^^ bitc b c := by cases a <;> cases b <;> simp [bitc]
def sqL (a : B8) : B8 := bitc (a.getLsbD 0) 1#8 ^^^ (bitc (a.getLsbD 1) 4#8 ^^^ (bitc (a.getLsbD 2) 16#8 ^^^ (bitc (a.getLsbD 3) 64#8 ^^^ (bitc (a.getLsbD 4) (pw 8 1#8) ^^^ (bitc (a.getLsbD 5) (pw 10 1#8) ^^^ (bitc (a.getLsbD 6) (pw 12 1#8) ^^^ bitc (a.getLsbD 7) (pw 14 1#8)))))))
theorem x4 (a b c d : B8) : a ^^^ b ^^^ (c ^^^ d) = a ^^^ c ^^^ (b ^^^ d) := by
  rw [BitVec.xor_assoc, BitVec.xor_assoc]
  congr 1
  exact xlc b c d
theorem sqL_xor (a b : B8) : sqL (a ^^^ b) = sqL a ^^^ sqL b := by
  unfold sqL
  simp only [BitVec.getLsbD_xor, bitc_xor]
  generalize bitc (a.getLsbD 0) _ = a0
  generalize bitc (a.getLsbD 1) _ = a1
  generalize bitc (a.getLsbD 2) _ = a2
  generalize bitc (a.getLsbD 3) _ = a3
  generalize bitc (a.getLsbD 4) _ = a4
  generalize bitc (a.getLsbD 5) _ = a5
  generalize bitc (a.getLsbD 6) _ = a6
  generalize bitc (a.getLsbD 7) _ = a7
  refine Eq.symm ?_
  rw [x4 a0 (a1 ^^^ _), x4 a1 (a2 ^^^ _), x4 a2 (a3 ^^^ _), x4 a3 (a4 ^^^ _), x4 a4 (a5 ^^^ _), x4 a5 (a6 ^^^ _), x4 a6 a7]
theorem sq_xtN : ∀ n : Nat, n < 256 → sqL (xt (BitVec.ofNat 8 n)) = pw 2 (sqL (BitVec.ofNat 8 n)) := by decide +kernel
theorem sq_pw : ∀ (k : Nat) (a : B8), sqL (pw k a) = pw (2 * k) (sqL a)
  | 0, _ => rfl
  | k + 1, a => by
    have h := all8 (P := fun a => sqL (xt a) = pw 2 (sqL a)) sq_xtN (pw k a)
    rw [pw, h, sq_pw k, ← pw_add]
    congr 1
    omega
theorem sq_timesN : ∀ n : Nat, n < 256 → ofI (timesI (n : Int) (glogI (n : Int))) = sqL (BitVec.ofNat 8 n) := by decide +kernel
theorem sq_times {x : Int} (h : 0 ≤ x ∧ x < 256) : ofI (timesI x (glogI x)) = sqL (ofI x) := by
  obtain ⟨n, rfl⟩ := Int.eq_ofNat_of_zero_le h.1
  have := sq_timesN n (by omega)
  rw [this]
  rfl
def spr (r : List Int) : List Int := r.flatMap (fun x => [timesI x (glogI x), 0])
theorem spr_cons (x : Int) (r : List Int) : spr (x :: r) = timesI x (glogI x) :: 0 :: spr r := rfl
theorem spr_length : ∀ r : List Int, (spr r).length = 2 * r.length
  | [] => rfl
  | x :: r => by rw [spr_cons, List.length_cons, List.length_cons, spr_length r, List.length_cons]; omega
theorem isB_spr : ∀ r : List Int, IsB (spr r)
  | [] => by intro z hz; simp [spr] at hz
  | x :: r => by
    rw [spr_cons]
    intro z hz
    rcases List.mem_cons.mp hz with rfl | hz
    · exact timesI_byte _
    · rcases List.mem_cons.mp hz with rfl | hz
      · decide
      · exact isB_spr r z hz
theorem ev_spr (j : Nat) : ∀ {r : List Int}, IsB r → ev j (up (spr r)) = pw j (sqL (ev j (up r)))
  | [], _ => by
    show 0#8 = pw j (sqL 0#8)
    rw [show sqL 0#8 = 0#8 by decide, pw_zero]
  | x :: r, h => by
    have ih := ev_spr j (r := r) (fun z hz => h z (.tail _ hz))
    rw [spr_cons]
    show pw (j * (0#8 :: up (spr r)).length) (ofI (timesI x (glogI x))) ^^^ (pw (j * (up (spr r)).length) 0#8 ^^^ ev j (up (spr r))) = pw j (sqL (pw (j * (up r).length) (ofI x) ^^^ ev j (up r)))
    rw [pw_zero, BitVec.zero_xor, ih, List.length_cons, up_length, up_length, spr_length, sqL_xor, sq_pw, pw_xor, ← pw_add, sq_times (h x (.head _))]
    congr 2
    rw [Nat.mul_add, Nat.mul_one, ← Nat.mul_assoc, ← Nat.mul_assoc, Nat.mul_comm j 2]
    omega
theorem spr_snoc : ∀ {r : List Int}, r ≠ [] → spr r = (spr r).take (2 * r.length - 1) ++ [0]
  | [], h => absurd rfl h
  | [x], _ => rfl
  | x :: y :: r, _ => by
    have ih := spr_snoc (r := y :: r) (by simp)
    rw [spr_cons]
    have e : 2 * (x :: y :: r).length - 1 = (2 * (y :: r).length - 1) + 2 := by simp only [List.length_cons]; omega
    rw [e, List.take_succ_cons, List.take_succ_cons, List.cons_append, List.cons_append, ← ih]
theorem spr_nz : ∀ {r : List Int}, IsB r → (∃ x ∈ r, x ≠ 0) → ∃ x ∈ spr r, x ≠ 0
  | [], _, h => by simp at h
  | x :: r, hb, ⟨z, hz, hz0⟩ => by
    rw [spr_cons]
    rcases List.mem_cons.mp hz with rfl | hz
    · have hb' := hb z (.head _)
      refine ⟨_, .head _, ?_⟩
      have := timesI_pos (x := z) (p := glogI z) (by omega)
      omega
    · obtain ⟨y, hy, hy0⟩ := spr_nz (r := r) (fun z hz => hb z (.tail _ hz)) ⟨z, hz, hz0⟩
      exact ⟨y, .tail _ (.tail _ hy), hy0⟩
theorem good4 {row : List Int} {m : Nat} (h : Good1 row m) : Good1 ((spr row).take (2 * row.length - 1)) m := by
  have hlen := h.len
  have hne : row ≠ [] := by intro e; rw [e] at hlen; simp at hlen
  have hs := spr_snoc hne
  refine ⟨fun z hz => isB_spr row z (List.mem_of_mem_take hz), ?_, fun j hj => ?_, h.m1, h.m7, ?_⟩
  · obtain ⟨x, hx, hx0⟩ := spr_nz h.byte h.nz
    rw [hs] at hx
    rcases List.mem_append.mp hx with hx | hx
    · exact ⟨x, hx, hx0⟩
    · exact absurd (List.mem_singleton.mp hx) hx0
  · have q := ev_spr j h.byte
    rw [h.ev j hj, show sqL 0#8 = 0#8 by decide, pw_zero, hs, up_append, ev_append] at q
    have q' : pw (j * 1) (ev j (up ((spr row).take (2 * row.length - 1)))) ^^^ (pw (j * 0) 0#8 ^^^ 0#8) = 0#8 := q
    rw [pw_zero, BitVec.xor_zero, BitVec.xor_zero] at q'
    exact pw_inj q'
  · rw [List.length_take, spr_length]
    have := h.m1
    omega
end
section
local macro_rules | `(tactic| walk_at "pad 0") => `(tactic| skip)
/-! law 1's field tables: the loop that fills them -/
def numL : Nat → Int
  | 0 => 1
  | k + 1 => if 255 < numL k * 2 then Builtin.bitXor (numL k * 2) 285 else numL k * 2
def exsL : Nat → List Int
  | 0 => List.replicate 256 0
  | k + 1 => (exsL k).set (numL k).toNat (k : Int)
theorem numL_byte : ∀ k : Nat, k < 256 → 1 ≤ numL k ∧ numL k < 256 := by decide +kernel
theorem numL_succ (k : Nat) : numL (k + 1) = if 255 < numL k * 2 then Builtin.bitXor (numL k * 2) 285 else numL k * 2 := rfl
theorem exsL_length : ∀ k : Nat, (exsL k).length = 256
  | 0 => by simp [exsL]
  | k + 1 => by rw [exsL, List.length_set, exsL_length k]
theorem powers_eq : (List.range 255).map numL = expL.take 255 := by decide +kernel
theorem exs_eq : exsL 255 = logL := by decide +kernel
def FldJ (m0 : Str → Option Value) (news : List (Addr × Obj)) (p e : Addr) (i : Nat) (m' : Str → Option Value) (nx : List (Addr × Obj)) : Prop :=
  ∃ (c : Option Value) (vs : List Value) (n : Nat) (ws : List Value) (k : Nat) (tn : Tok), m' = (fun y => if y = Str.ofString "number" then some (.int (numL i) tn) else if y = Str.ofString "k" then c else m0 y) ∧
    nx = (p, listOf (List.toArray vs) n) :: (e, listOf (List.toArray ws) k) :: news ∧ IntsAre vs ((List.range i).map numL) ∧ IntsAre ws (exsL i)
theorem num_map {m0 m' : Str → Option Value} {v : Value} (e1 : m' (Str.ofString "number") = some v) (e : ∀ y, y ≠ Str.ofString "number" → y ≠ Str.ofString "k" → m' y = m0 y) :
    m' = fun y => if y = Str.ofString "number" then some v else if y = Str.ofString "k" then m' (Str.ofString "k") else m0 y := by
  funext y
  exact eq_ite (fun q => by rw [q]; exact e1) (fun q1 => eq_ite (fun q => by rw [q]) (fun q2 => e y q1 q2))
theorem fld_end {h₀ : Heap} {L : Addr} {Q : Flow → Shared → Prop} {m0 m' : Str → Option Value} {news news' : List (Addr × Obj)} {p e : Addr} {i : Nat} {s₁ : Shared} {I : Addr} {oI : Obj} {vs ws : List Value} {zs : List Int} {n k : Nat} {v : Int} {tn : Tok} {h' : Heap} {tk' : Nat} (F : Fr h₀ L h' m') (N : News h₀ L h' news') (a1 : (p, listOf (List.toArray vs) n) ∈ news') (a2 : (e, listOf (List.toArray ws) k) ∈ news') (hs : ∀ q ∈ news, q ∈ news') (hi : (I, oI) ∈ news') (o1 : p ≠ I) (o2 : e ≠ I) (off : ∀ q ∈ news, q.1 ≠ I)
    (h1 : m' (Str.ofString "number") = some (.int v tn)) (hv : v = numL (i + 1)) (I1 : IntsAre vs zs) (hz : zs = (List.range (i + 1)).map numL) (I2 : IntsAre ws (exsL (i + 1))) (h : ∀ y, y ≠ Str.ofString "number" → y ≠ Str.ofString "k" → m' y = m0 y) :
    GrowPost h₀ L (FldJ m0 news p e (i + 1)) I oI s₁ Q .next { s₁ with heap := h', toks := tk' } := by
  subst hv hz
  exact GrowEnd.intro ((p, listOf (List.toArray vs) n) :: (e, listOf (List.toArray ws) k) :: news) F N (List.forall_mem_cons.mpr ⟨a1, List.forall_mem_cons.mpr ⟨a2, hs⟩⟩) hi (List.forall_mem_cons.mpr ⟨o1, List.forall_mem_cons.mpr ⟨o2, off⟩⟩) ⟨_, vs, n, ws, k, tn, num_map h1 h, rfl, I1, I2⟩
section
variable {prog : Program} {w : World} {A : Around} {E : Value → Shared → Prop} {s : Shared} {env : Env} {h₀ : Heap} {body : List Stmt} {Q : Flow → Shared → Prop}
theorem fld_loop {r p e : Addr} {b₀ : Int} {t₀ u₀ v₀ tn : Tok} {m0 : Str → Option Value} {big news : List (Addr × Obj)} {a1 a2 : Array Value} {n k : Nat}
    (hh : A.handled = none) (hr : IsRange s.heap r 0 b₀ 1 t₀ u₀ v₀) (hb : b₀ = 255) (F : Fr h₀ env.locals s.heap m0) (N : News h₀ env.locals s.heap big) (m1 : (p, listOf a1 n) ∈ big) (m2 : (e, listOf a2 k) ∈ big) (hs : ∀ q ∈ news, q ∈ big) (ha1 : a1 = #[]) (ha2 : ∃ ws, a2 = List.toArray ws ∧ IntsAre ws (exsL 0)) (h1 : m0 (Str.ofString "number") = some (.int 1 tn))
    (turn : ∀ (i : Nat) t (c : Option Value) vs n ws k tn h tk I oI, i < 255 → p ≠ I → e ≠ I → (∀ q ∈ news, q.1 ≠ I) → oI.cls = .type "range_iterator" → IntsAre vs ((List.range i).map numL) → IntsAre ws (exsL i) →
      Fr h₀ env.locals h (fun y => if y = Str.ofString "k" then some (.int (i : Int) t) else if y = Str.ofString "number" then some (.int (numL i) tn) else if y = Str.ofString "k" then c else m0 y) →
      News h₀ env.locals h ((I, oI) :: (p, listOf (List.toArray vs) n) :: (e, listOf (List.toArray ws) k) :: news) →
      wpAny (model prog w) A (execs body env) (GrowPost h₀ env.locals (FldJ m0 news p e (i + 1)) I oI { s with heap := h, toks := tk } Q) E { s with heap := h, toks := tk })
    (done : ∀ (c : Option Value) vs n ws k tn h tk, IntsAre vs (expL.take 255) → IntsAre ws logL → Fr h₀ env.locals h (fun y => if y = Str.ofString "number" then some (.int (numL 255) tn) else if y = Str.ofString "k" then c else m0 y) → News h₀ env.locals h ((p, listOf (List.toArray vs) n) :: (e, listOf (List.toArray ws) k) :: news) → Q .next { s with heap := h, toks := tk }) :
    wpAny (model prog w) A (pyIter (.ref r)) (fun it s₂ => LoopAtV prog w A h₀ env (Str.ofString "k") body Q E it s₂) E s := by
  obtain ⟨ws, rfl, I2⟩ := ha2
  subst hb ha1
  refine grow_range (FldJ m0 news p e) (n := 255) hh hr (by decide) (by decide) F (news := (p, listOf #[] n) :: (e, listOf (List.toArray ws) k) :: news) (news_cons m1 N (news_cons m2 N (fun q hq => N q (hs q hq)))) ⟨_, [], n, ws, k, tn, num_map h1 (fun _ _ _ => rfl), rfl, .nil, I2⟩ ?_ ?_
  · rintro i t m₁' nx₁ h tk I oI hi ⟨c, vs, n, ws, k, tn, rfl, rfl, I1, I2⟩ hoff hc F' N'
    rw [Int.zero_add] at F'
    have ho := List.forall_mem_cons.mp hoff
    have ho2 := List.forall_mem_cons.mp ho.2
    exact turn i t c vs n ws k tn h tk I oI hi ho.1 ho2.1 ho2.2 hc I1 I2 F' N'
  · rintro m₁' nx₁ h tk ⟨c, vs, n, ws, k, tn, rfl, rfl, I1, I2⟩ F' N'
    rw [powers_eq] at I1
    rw [exs_eq] at I2
    exact done c vs n ws k tn h tk I1 I2 F' N'
end
theorem tabs_times {x p : Int} (h : 0 < x) : (expL.take 255).getD (((logL.getD x.toNat 0) + p).fmod 255).toNat 0 = timesI x p := by
  unfold timesI gexpI glogI
  rw [if_pos h]
  have h0 := Int.fmod_nonneg_of_pos (logL.getD x.toNat 0 + p) (b := 255) (by decide)
  have h1 := Int.fmod_lt_of_pos (logL.getD x.toNat 0 + p) (b := 255) (by decide)
  generalize (logL.getD x.toNat 0 + p).fmod 255 = q at h0 h1 ⊢
  rw [List.getD_eq_getElem?_getD, List.getD_eq_getElem?_getD, List.getElem?_take_of_lt (by omega)]
theorem expT_len : (expL.take 255).length = 255 := by decide
theorem cells5_len (ns : List Int) : (ns.take 5 ++ ([2, 300, 6, 12, 21] : List Int).drop ((ns.take 5).length : Int).toNat).length = 5 := by
  rw [Int.toNat_natCast, List.length_append, List.length_drop, List.length_take]
  simp only [List.length_cons, List.length_nil]
  omega
theorem two_bytes (a b : Int) : ∀ x ∈ [1 + a.fmod 255, b.fmod 256], 0 ≤ x ∧ x < 256 := by
  have h1 := Int.fmod_nonneg_of_pos a (b := 255) (by decide)
  have h2 := Int.fmod_lt_of_pos a (b := 255) (by decide)
  have h3 := Int.fmod_nonneg_of_pos b (b := 256) (by decide)
  have h4 := Int.fmod_lt_of_pos b (b := 256) (by decide)
  intro x hx
  simp only [List.mem_cons, List.not_mem_nil, or_false] at hx
  rcases hx with rfl | rfl <;> omega
theorem two_nz (a b : Int) : ∃ x ∈ [1 + a.fmod 255, b], x ≠ 0 := ⟨_, .head _, by have h1 := Int.fmod_nonneg_of_pos a (b := 255) (by decide); omega⟩
end
section
/-! a comprehension over a zip of two lists, its value handed on -/
section
variable {prog : Program} {w : World} {A : Around} {E : Value → Shared → Prop} {s : Shared} {h₀ : Heap} {env : Env} {m : Str → Option Value}
open LCg in
/-- what a comprehension over pairs asks of its iterable -/
def PairSrcE (prog : Program) (w : World) (A : Around) (h₀ : Heap) (env : Env) (elt : Expr) (x x₂ : Str) (scope : Scope) (cl : List (Str × Addr)) (m : Str → Option Value) (Q : Value → Shared → Prop) (xv : Value) (s₁ : Shared) : Prop :=
  ∃ (I : Addr) (fp wr : List Addr) (n : Nat) (Pt : Nat → Array Value → Prop) (St : Nat → Heap → Prop) (Mid : Nat → Addr → Heap → Prop) (P2 : Nat → Value → Value → Prop) (Rel : Nat → Value → Prop) (news : List (Addr × Obj)),
    xv = .ref I ∧ A.handled = none ∧ WalksT prog w A I fp wr n Pt St Mid ∧ (∀ i vals, Pt i vals → ∃ v0 v1, vals = #[v0, v1] ∧ P2 i v0 v1) ∧ n ≤ sizeLine ∧ St 0 s₁.heap ∧ (∀ b ∈ fp, b < s₁.heap.objs.size) ∧ env.locals ∉ fp ∧ (∀ b ∈ wr, h₀.get? b = none) ∧ (∀ p ∈ news, p.1 ∉ wr) ∧
    Fr h₀ env.locals s₁.heap m ∧ News h₀ env.locals s₁.heap news ∧
    (∀ i v0 v1 C oC D ys own m₂ h tk (E' : Value → Shared → Prop), i < n → P2 i v0 v1 → NsObj oC m₂ → m₂ x = some v0 → m₂ x₂ = some v1 → Fr h₀ env.locals h m → News h₀ env.locals h ((C, oC) :: (D, lst ys) :: (news ++ own)) →
      wpAny (model prog w) A (eval elt (compEnvC scope cl C env)) (ElEnd h₀ env.locals m ((C, oC) :: (D, lst ys) :: (news ++ own)) (Rel i) { s₁ with heap := h, toks := tk }) E' { s₁ with heap := h, toks := tk }) ∧
    (∀ D h tk ys, Fr h₀ env.locals h m → News h₀ env.locals h ((D, listOf (List.toArray ys) ys.length) :: news) → (∀ p ∈ news, p.1 < D) → ys.length = n → (∀ (i : Nat) v, ys[i]? = some v → Rel i v) → Q (.ref D) { s₁ with heap := h, toks := tk })

theorem eval_comp_pairs {elt iter : Expr} {x x₂ : Str} {px px₂ tp : Pos} {tk : Nat} {scope : Scope} {cl : List (Str × Addr)} {pos : Pos} {Q : Value → Shared → Prop} (_F : Fr h₀ env.locals s.heap m)
    (hclos : closureFor scope env = pure cl) (hcell : ∀ z ∈ scope.names, z.2 ≠ .cell) (hkind : scope.kind = .function)
    (hnames : ∀ z ∈ scope.names, z.2 = .local → scope.names.lookup z.1 = some .local) (hx : scope.names.lookup x = some .local) (hx₂ : scope.names.lookup x₂ = some .local) (hxx : x ≠ x₂)
    (h : wpAny (model prog w) A (eval iter env) (PairSrcE prog w A h₀ env elt x x₂ scope cl m Q) E s)
    (hs : ∀ x, foldedSetIterable iter env x = pure x := by intro _; rfl) :
    wpAny (model prog w) A (eval (.ListComp elt [⟨.Tuple [.Name x px, .Name x₂ px₂] tk tp, iter, [], 0⟩] scope pos) env) Q E s := by
  rw [eval_ListComp]
  refine wpAny_comprehension_free (use := none) rfl hs hclos hkind hnames (wpAny_mono h (fun xv s₁ h₁ => ?_) fun _ _ e => e)
  obtain ⟨I, fp, wr, n, Pt, St, Mid, P2, Rel, news, rfl, hh, W, h2, hsz, hst, hfp, hLf, hwr, hnw, F, N, turn, fin⟩ := h₁
  refine W.self 0 _ _ _ hst (comp_pairs hh W h2 hsz hcell hkind hx hx₂ hxx hst hfp hLf hwr hnw F N turn ?_)
  intro D C h' tk m' ys F' N' hn hC₀ hCL hDC offC hlt hl hR
  refine ⟨m', hn, fun h'' hs'' => fin D h'' tk ys (F'.change hs'' hCL hC₀) (fun p hp => ?_) hlt hl hR⟩
  refine ⟨hs''.extBut _ _ ?_ (N' p hp).1, (N' p hp).2⟩
  rcases List.mem_cons.mp hp with rfl | hp
  · exact hDC
  · exact offC p hp
open LCg in
theorem src_zipE {elt : Expr} {x x₂ : Str} {scope : Scope} {cl : List (Str × Addr)} {Q : Value → Shared → Prop} {news big : List (Addr × Obj)} {i1 i2 l1 l2 : Addr} {vs1 vs2 : List Value} {ns1 ns2 : List Int} {n1 n2 : Nat} (g : Int → Int → Int)
    (hh : A.handled = none) (F : Fr h₀ env.locals s.heap m) (N : News h₀ env.locals s.heap big) (hi1 : (i1, liO l1) ∈ big) (hi2 : (i2, liO l2) ∈ big) (hsub : ∀ p ∈ news, p ∈ big) (hl1 : (l1, listOf vs1.toArray n1) ∈ news) (hl2 : (l2, listOf vs2.toArray n2) ∈ news)
    (h12 : (@Ne Nat i1 i2)) (h1 : ∀ p ∈ news, p.1 ≠ i1) (h2 : ∀ p ∈ news, p.1 ≠ i2) (I1 : IntsAre vs1 ns1) (I2 : IntsAre vs2 ns2) (hsz : ns1.length ≤ sizeLine)
    (turn : ∀ a b t u C oC D ys own m₂ h tk (E' : Value → Shared → Prop), a ∈ ns1 → b ∈ ns2 → NsObj oC m₂ → m₂ x = some (.int a t) → m₂ x₂ = some (.int b u) → Fr h₀ env.locals h m → News h₀ env.locals h ((C, oC) :: (D, lst ys) :: (news ++ own)) →
      wpAny (model prog w) A (eval elt (compEnvC scope cl C env)) (ElEnd h₀ env.locals m ((C, oC) :: (D, lst ys) :: (news ++ own)) (fun v => ∃ t, v = .int (g a b) t) { s with heap := h, toks := tk }) E' { s with heap := h, toks := tk })
    (fin : ∀ D h tk ys, Fr h₀ env.locals h m → News h₀ env.locals h ((D, listOf (List.toArray ys) ys.length) :: news) → (∀ p ∈ news, p.1 < D) → IntsAre ys (List.zipWith g ns1 ns2) → Q (.ref D) { s with heap := h, toks := tk }) :
    PairSrcE prog w A h₀ env elt x x₂ scope cl m Q (.ref (zTO s.heap i1 i2).objs.size) { s with heap := zZ s.heap i1 i2 } := by
  have b1 := N _ hi1
  have b2 := N _ hi2
  have c1 := N _ (hsub _ hl1)
  have c2 := N _ (hsub _ hl2)
  have zI : (zTI s.heap i1 i2).objs.size = s.heap.objs.size + 1 := Heap.size_push ..
  have zO : (zTO s.heap i1 i2).objs.size = s.heap.objs.size + 2 := by rw [Heap.size_push, zI]
  have zz : (zZ s.heap i1 i2).objs.size = s.heap.objs.size + 3 := by rw [Heap.size_push, zO]
  have up : ∀ b o, s.heap.get? b = some o → (zZ s.heap i1 i2).get? b = some o := fun b o e => Heap.get?_push_of_some _ (Heap.get?_push_of_some _ (Heap.get?_push_of_some _ e))
  have gz : (zZ s.heap i1 i2).get? (zTO s.heap i1 i2).objs.size = some _ := Heap.get?_push_size _ rfl
  have gI : (zZ s.heap i1 i2).get? s.heap.objs.size = some _ := Heap.get?_push_of_some _ (Heap.get?_push_of_some _ (Heap.get?_push_size _ rfl))
  have gO : (zZ s.heap i1 i2).get? (zTI s.heap i1 i2).objs.size = some _ := Heap.get?_push_of_some _ (Heap.get?_push_size _ rfl)
  have lt1 : @LT.lt Nat _ i1 (s.heap.objs.size) := Heap.lt_size b1.1
  have lt2 : @LT.lt Nat _ i2 s.heap.objs.size := Heap.lt_size b2.1
  have lt3 : @LT.lt Nat _ l1 s.heap.objs.size := Heap.lt_size c1.1
  have lt4 : @LT.lt Nat _ l2 s.heap.objs.size := Heap.lt_size c2.1
  have ltL : @LT.lt Nat _ env.locals s.heap.objs.size := F.ns.lt
  have d1 : @Ne Nat l1 i1 := h1 _ hl1
  have d2 : @Ne Nat l1 i2 := h2 _ hl1
  have d3 : @Ne Nat l2 i1 := h1 _ hl2
  have d4 : @Ne Nat l2 i2 := h2 _ hl2
  have e1 : @Ne Nat i1 env.locals := b1.2.1
  have e2 : @Ne Nat i2 env.locals := b2.2.1
  have e3 : @Ne Nat l1 env.locals := c1.2.1
  have e4 : @Ne Nat l2 env.locals := c2.2.1
  have fresh : ∀ a, s.heap.objs.size ≤ a → h₀.get? a = none := fun a ha => by
    cases e : h₀.get? a with
    | none => rfl
    | some o' => exact absurd (Heap.lt_size (F.keep a o' e)) (Nat.not_lt.mpr ha)
  have D : ZipApart (zTO s.heap i1 i2).objs.size s.heap.objs.size (zTI s.heap i1 i2).objs.size i1 i2 l1 l2 := by
    rw [zI, zO]
    constructor <;> (refine neN ?_; omega)
  have W := WalksT.zip2 (prog := prog) (w := w) hh _ _ _ _ _ _ _ D vs1.toArray vs2.toArray
  refine ⟨_, _, _, _, _, _, _, (fun i v0 v1 => vs1.toArray[i]? = some v0 ∧ vs2.toArray[i]? = some v1), (fun i v => ∀ a b, ns1[i]? = some a → ns2[i]? = some b → ∃ t, v = .int (g a b) t), news, rfl, hh, W, ?_, ?_, ?_, ?_, ?_, ?_, ?_, F.keeps up, (fun p hp => ⟨up _ _ (N p (hsub p hp)).1, (N p (hsub p hp)).2⟩), ?_, ?_⟩
  · rintro i vals ⟨a, b, ha, hb, rfl⟩
    exact ⟨a, b, rfl, ha, hb⟩
  · have := I1.length
    simp only [List.size_toArray]
    omega
  · exact ⟨gz, gI, ⟨_, _, gO⟩, ⟨_, up _ _ b1.1, rfl, rfl⟩, ⟨_, up _ _ b2.1, rfl, rfl⟩, ⟨_, up _ _ c1.1, rfl, _, rfl⟩, ⟨_, up _ _ c2.1, rfl, _, rfl⟩⟩
  · intro b hb
    show b < (zZ s.heap i1 i2).objs.size
    rw [zz]
    simp only [zI, zO, List.mem_cons, List.not_mem_nil, or_false] at hb
    rcases hb with rfl | rfl | rfl | rfl | rfl | rfl | rfl <;> (refine ltNat ?_; omega)
  · intro hb
    simp only [zI, zO, List.mem_cons, List.not_mem_nil, or_false] at hb
    rcases hb with h | h | h | h | h | h | h
    · exact absurd h (neN (by omega))
    · exact absurd h (neN (by omega))
    · exact absurd h (neN (by omega))
    · exact e1 h.symm
    · exact e2 h.symm
    · exact e3 h.symm
    · exact e4 h.symm
  · intro b hb
    simp only [zI, zO, List.mem_cons, List.not_mem_nil, or_false] at hb
    rcases hb with rfl | rfl | rfl | rfl
    · exact fresh _ (by omega)
    · exact fresh _ (by omega)
    · exact b1.2.2
    · exact b2.2.2
  · intro p hp hb
    have hlt : @LT.lt Nat _ p.1 s.heap.objs.size := Heap.lt_size (N p (hsub p hp)).1
    simp only [zI, zO, List.mem_cons, List.not_mem_nil, or_false] at hb
    rcases hb with h | h | h | h
    · exact absurd h (neN (by omega))
    · exact absurd h (neN (by omega))
    · exact h1 p hp h
    · exact h2 p hp h
  · rintro i v0 v1 C oC D' ys own m₂ h tk E' hi ⟨hv0, hv1⟩ hC hx hx₂ F' N'
    obtain ⟨a, t, rfl, ha⟩ := IntsAre.at I1 i v0 (by simpa using hv0)
    obtain ⟨b, u, rfl, hb⟩ := IntsAre.at I2 i v1 (by simpa using hv1)
    refine wpAny_mono (turn a b t u C oC D' ys own m₂ h tk E' (List.mem_of_getElem? ha) (List.mem_of_getElem? hb) hC hx hx₂ F' N') (fun v s' q => ?_) fun _ _ e => e
    obtain ⟨h', tk', big', e, F'', N'', hs, r⟩ := q
    refine ⟨h', tk', big', e, F'', N'', hs, fun a' b' ha' hb' => ?_⟩
    rw [ha] at ha'
    rw [hb] at hb'
    cases ha'
    cases hb'
    exact r
  · intro D' h tk ys F' N' hlt hl hR
    refine fin D' h tk ys F' N' hlt (ints_zip g ys ns1 ns2 ?_ hR)
    rw [hl, List.size_toArray, List.size_toArray, I1.length, I2.length]
open LCg in
/-- zip of two made lists as the iterable of such a comprehension -/
theorem zip_led {elt : Expr} {x x₂ : Str} {scope : Scope} {cl : List (Str × Addr)} {Q : Value → Shared → Prop} {A' : Around} {hp : Heap} {gs dr os} {tk0 : Nat} {news : List (Addr × Obj)} {l1 l2 : Addr} {vs1 vs2 : List Value} {ns1 ns2 : List Int} {n1 n2 : Nat} (g : Int → Int → Int)
    (hh : A.handled = none) (F : Fr h₀ env.locals hp m) (N : News h₀ env.locals hp news) (hl1 : (l1, listOf vs1.toArray n1) ∈ news) (hl2 : (l2, listOf vs2.toArray n2) ∈ news)
    (I1 : IntsAre vs1 ns1) (I2 : IntsAre vs2 ns2) (hsz : ns1.length ≤ sizeLine)
    (turn : ∀ a b t u C oC D ys own m₂ h tk (E' : Value → Shared → Prop), a ∈ ns1 → b ∈ ns2 → NsObj oC m₂ → m₂ x = some (.int a t) → m₂ x₂ = some (.int b u) → Fr h₀ env.locals h m → News h₀ env.locals h ((C, oC) :: (D, lst ys) :: (news ++ own)) →
      wpAny (model prog w) A (eval elt (compEnvC scope cl C env)) (ElEnd h₀ env.locals m ((C, oC) :: (D, lst ys) :: (news ++ own)) (fun v => ∃ t, v = .int (g a b) t) (Shared.mk h gs dr tk os)) E' (Shared.mk h gs dr tk os))
    (fin : ∀ D h tk ys, Fr h₀ env.locals h m → News h₀ env.locals h ((D, listOf (List.toArray ys) ys.length) :: news) → (∀ p ∈ news, p.1 < D) → IntsAre ys (List.zipWith g ns1 ns2) → Q (.ref D) (Shared.mk h gs dr tk os)) :
    wpAny (model prog w) A' (pyIter (.ref l1)) (fun a s₁ => wpAny (model prog w) A' (pyIter (.ref l2)) (ZipEnd (PairSrcE prog w A h₀ env elt x x₂ scope cl m Q) a) E s₁) E (Shared.mk hp gs dr tk0 os) := by
  refine iter_led F N hl1 fun i1 h1 F4 N4 lt1 => ?_
  refine iter_led F4 N4 (.tail _ hl2) fun i2 h2 F5 N5 lt2 => ?_
  exact ⟨_, _, rfl, rfl, src_zipE (s := Shared.mk h2 gs dr tk0 os) g hh F5 N5 (.tail _ (.head _)) (.head _) (fun p hp => .tail _ (.tail _ hp)) hl1 hl2 (Nat.ne_of_lt (lt2 _ (.head _))) (fun p hp => Nat.ne_of_lt (lt1 p hp)) (fun p hp => Nat.ne_of_lt (lt2 p (.tail _ hp))) I1 I2 hsz turn fin⟩
end
/-! += of two made lists of ints -/
section
variable {prog : Program} {w : World} {A : Around} {E : Value → Shared → Prop} {s : Shared} {L : Addr} {h₀ : Heap} {m : Str → Option Value} {news news' : List (Addr × Obj)}
theorem iadd_slot {M : Model} {a b : Value} {Q : Value → Shared → Prop} (ha : s.TypeIs a "list") (hb : s.TypeIs b "list") (hc : wpAny M A (call (.builtin "list.__iadd__") [a, b]) Q E s) : wpAny M A (inplaceOp .Add a b) Q E s := by
  unfold inplaceOp
  refine wpAny_holding ?_
  have hfi : fillsInplaceSlot (.type "list") "add" (Operator.Add == .Add) = pure false := by
    unfold fillsInplaceSlot
    show (typeLookup (.type "list") (dunderI "add") >>= fun fi => pure (fi.isSome && !isSeqSlot fi)) = pure false
    rw [F.slot_list_iadd.lookup]; rfl
  have hsi : seqSlot? (.type "list") (dunderI "add") = pure (some (.builtin "list.__iadd__")) := by
    unfold seqSlot?
    rw [F.slot_list_iadd.lookup]; rfl
  refine wpAny_bind (wpAny_typeOf ha (wpAny_bind (wpAny_of_eq hfi ?_)))
  show wpAny M A (if false = true then _ else _) Q E s
  rw [if_neg Bool.false_ne_true]
  refine wpAny_bind (wpAny_binaryOp1_none (nm := "add") ha hb noFill_list_add ?_)
  refine wpAny_bind (wpAny_of_eq hsi ?_)
  exact wpAny_bind (wpAny_rule hc)
theorem iadd_led {D b : Addr} {vs ws : List Value} {ns ms : List Int} {n n2 : Nat} {Q : Value → Shared → Prop} (F : Fr h₀ L s.heap m) (N : News h₀ L s.heap news) (hb : (b, listOf (List.toArray ws) n2) ∈ news) (U : Upd D (listOf (List.toArray vs) n) (listOf (List.toArray (vs ++ ws)) (n + 1)) news news') (I1 : IntsAre vs ns) (I2 : IntsAre ws ms) (hne : ms.length ≠ 0) (hsz : ns.length + ms.length ≤ 2 ^ 10)
    (h : ∀ h', Fr h₀ L h' m → News h₀ L h' news' → IntsAre (vs ++ ws) (ns ++ ms) → Q (.ref D) { s with heap := h' }) : wpAny (model prog w) A (inplaceOp .Add (.ref D) (.ref b)) Q E s := by
  have l1 := I1.length
  have l2 := I2.length
  obtain ⟨pre, post, rfl, rfl, a, c⟩ := U.split
  have z := N (D, listOf (List.toArray vs) n) (List.mem_append.mpr (.inr (.head _)))
  refine iadd_slot ⟨_, z.1, rfl⟩ ⟨_, (N _ hb).1, rfl⟩ (call_meets PySem.F.slot_list_iadd ⟨_, z.1, rfl⟩ PySem.F.entry_list_iadd (PySem.F.args_list_iadd_2 _ _) (PySem.AutoSeq1.list___iadd___list_list_0 D (List.toArray vs) n b (List.toArray ws) n2 ?_ ?_ ?_) ⟨z.1, (N _ hb).1, h _ (F.change (Heap.SameBut.update ..) z.2.1 z.2.2) (kl_turn _ N a c ?_ ?_) (IntsAre.append I1 I2)⟩)
  · simp only [Builtin.List.listTooLong, List.size_toArray]
    simp
    intro _
    have hs := sizeLine_eq
    omega
  · rw [sizeLine_eq, List.size_toArray]; omega
  · rw [sizeLine_eq, List.size_toArray, List.size_toArray]; omega
  · apply Array.toList_inj.mp
    simp
  · simp
    intro e
    rw [e] at l2
    simp at l2
    omega
end
end
section
local macro_rules | `(tactic| walk_at "pad 0") => `(tactic| skip)
/-! law 1's own loop: three deeds upon a row -/
def l1M (m0 : Str → Option Value) (c : Nat → Option Value) : Str → Option Value := fun y =>
  if y = Str.ofString "cell" then c 0 else if y = Str.ofString "kind" then c 1 else if y = Str.ofString "front" then c 2 else if y = Str.ofString "other" then c 3 else if y = Str.ofString "wide" then c 4 else if y = Str.ofString "spread" then c 5 else if y = Str.ofString "octet" then c 6 else m0 y
theorem l1M_of {m0 m' : Str → Option Value}
    (h : ∀ y, y ≠ Str.ofString "cell" → y ≠ Str.ofString "kind" → y ≠ Str.ofString "front" → y ≠ Str.ofString "other" → y ≠ Str.ofString "wide" → y ≠ Str.ofString "spread" → y ≠ Str.ofString "octet" → m' y = m0 y) : ∃ c, m' = l1M m0 c := by
  refine ⟨fun k => match k with
    | 0 => m' (Str.ofString "cell") | 1 => m' (Str.ofString "kind") | 2 => m' (Str.ofString "front") | 3 => m' (Str.ofString "other") | 4 => m' (Str.ofString "wide") | 5 => m' (Str.ofString "spread") | _ => m' (Str.ofString "octet"), funext fun y => ?_⟩
  unfold l1M
  iterate 7 refine eq_ite (fun e => by subst e; rfl) (fun _ => ?_)
  exact h y (by assumption) (by assumption) (by assumption) (by assumption) (by assumption) (by assumption) (by assumption)
/-- two of the ledger, one a list and one a cell, lie apart -/
theorem cell_apart {h₀ h : Heap} {L a b : Addr} {o : Obj} {vs : Array Value} {n : Nat} {v : Option Value} {news : List (Addr × Obj)} (N : News h₀ L h news) (h1 : (a, listOf vs n) ∈ news) (h2 : (b, o) ∈ news) (hd : o.data = .cell v) : a ≠ b := by
  rintro rfl
  have e1 := (N _ h1).1
  have e2 := (N _ h2).1
  dsimp only at e1 e2
  rw [e1] at e2
  cases e2
  cases hd
def L1J (m0 : Str → Option Value) (C2 C3 C4 C5 : Addr) (fix : List (Addr × Obj)) (i : Nat) (m' : Str → Option Value) (nx : List (Addr × Obj)) : Prop :=
  ∃ (c : Nat → Option Value) (ra : Addr) (vs : List Value) (k : Nat) (row : List Int) (M : Nat) (o2 o3 o4 o5 : Obj) (v4 v5 : Option Value) (tM : Tok), m' = l1M m0 c ∧ nx = (C2, o2) :: (C3, o3) :: (C4, o4) :: (C5, o5) :: (ra, listOf (List.toArray vs) k) :: fix ∧
    o2.data = .cell (some (.int (M : Int) tM)) ∧ o3.data = .cell (some (.ref ra)) ∧ o4.data = .cell v4 ∧ o5.data = .cell v5 ∧ IntsAre vs row ∧ Good1 row M ∧ row.length ≤ 20 + i
theorem l1_end {h₀ : Heap} {L : Addr} {Q : Flow → Shared → Prop} {m0 m' : Str → Option Value} {C2 C3 C4 C5 : Addr} {fix news' : List (Addr × Obj)} {i : Nat} {s₁ : Shared} {I ra : Addr} {oI o2 o3 o4 o5 : Obj} {vs : List Value} {k M : Nat} {row : List Int} {v4 v5 : Option Value} {tM : Tok} {h' : Heap} {tk' : Nat} (F : Fr h₀ L h' m') (N : News h₀ L h' news')
    (a2 : (C2, o2) ∈ news') (a3 : (C3, o3) ∈ news') (a4 : (C4, o4) ∈ news') (a5 : (C5, o5) ∈ news') (ar : (ra, listOf (List.toArray vs) k) ∈ news') (hs : ∀ p ∈ fix, p ∈ news') (hi : (I, oI) ∈ news') (b2 : C2 ≠ I) (b3 : C3 ≠ I) (b4 : C4 ≠ I) (b5 : C5 ≠ I) (br : ra ≠ I) (off : ∀ p ∈ fix, p.1 ≠ I)
    (d2 : o2.data = .cell (some (.int (M : Int) tM))) (d3 : o3.data = .cell (some (.ref ra))) (d4 : o4.data = .cell v4) (d5 : o5.data = .cell v5) (hI : IntsAre vs row) (G : Good1 row M) (hl : row.length ≤ 20 + (i + 1))
    (h : ∀ y, y ≠ Str.ofString "cell" → y ≠ Str.ofString "kind" → y ≠ Str.ofString "front" → y ≠ Str.ofString "other" → y ≠ Str.ofString "wide" → y ≠ Str.ofString "spread" → y ≠ Str.ofString "octet" → m' y = m0 y) :
    GrowPost h₀ L (L1J m0 C2 C3 C4 C5 fix (i + 1)) I oI s₁ Q .next { s₁ with heap := h', toks := tk' } := by
  obtain ⟨c, hc⟩ := l1M_of h
  exact GrowEnd.intro ((C2, o2) :: (C3, o3) :: (C4, o4) :: (C5, o5) :: (ra, listOf (List.toArray vs) k) :: fix) F N
    (List.forall_mem_cons.mpr ⟨a2, List.forall_mem_cons.mpr ⟨a3, List.forall_mem_cons.mpr ⟨a4, List.forall_mem_cons.mpr ⟨a5, List.forall_mem_cons.mpr ⟨ar, hs⟩⟩⟩⟩⟩) hi
    (List.forall_mem_cons.mpr ⟨b2, List.forall_mem_cons.mpr ⟨b3, List.forall_mem_cons.mpr ⟨b4, List.forall_mem_cons.mpr ⟨b5, List.forall_mem_cons.mpr ⟨br, off⟩⟩⟩⟩⟩)
    ⟨c, ra, vs, k, row, M, o2, o3, o4, o5, v4, v5, tM, hc, rfl, d2, d3, d4, d5, hI, G, hl⟩
section
variable {prog : Program} {w : World} {A : Around} {E : Value → Shared → Prop} {s : Shared} {env : Env} {h₀ : Heap} {body : List Stmt} {Q : Flow → Shared → Prop}
theorem l1_loop {lst ra C2 C3 C4 C5 : Addr} {ws vs : List Value} {cs row : List Int} {kw k M : Nat} {m0 : Str → Option Value} {big fix : List (Addr × Obj)} {o2 o3 o4 o5 : Obj} {v4 v5 : Option Value} {tM : Tok}
    (hh : A.handled = none) (F : Fr h₀ env.locals s.heap m0) (N : News h₀ env.locals s.heap big) (hlst : (lst, listOf (List.toArray ws) kw) ∈ fix) (hI : IntsAre ws cs) (hlen : cs.length = 3)
    (a2 : (C2, o2) ∈ big) (a3 : (C3, o3) ∈ big) (a4 : (C4, o4) ∈ big) (a5 : (C5, o5) ∈ big) (ar : (ra, listOf (List.toArray vs) k) ∈ big) (hfix : ∀ p ∈ fix, p ∈ big)
    (d2 : o2.data = .cell (some (.int (M : Int) tM))) (d3 : o3.data = .cell (some (.ref ra))) (d4 : o4.data = .cell v4) (d5 : o5.data = .cell v5) (I0 : IntsAre vs row) (G : Good1 row M) (hl : row.length ≤ 20)
    (turn : ∀ (i : Nat) z t (c : Nat → Option Value) ra vs k row M o2 o3 o4 o5 v4 v5 tM h tk I oI, i < 3 → (∀ p ∈ fix, p.1 ≠ I) → C2 ≠ I → C3 ≠ I → C4 ≠ I → C5 ≠ I → ra ≠ I → ra ≠ C2 → ra ≠ C3 → ra ≠ C4 → ra ≠ C5 → oI.cls = .type "list_iterator" →
      o2.data = .cell (some (.int ((M : Nat) : Int) tM)) → o3.data = .cell (some (.ref ra)) → o4.data = .cell v4 → o5.data = .cell v5 → IntsAre vs row → Good1 row M → row.length ≤ 20 + i →
      Fr h₀ env.locals h (fun y => if y = Str.ofString "cell" then some (.int z t) else l1M m0 c y) →
      News h₀ env.locals h ((I, oI) :: (C2, o2) :: (C3, o3) :: (C4, o4) :: (C5, o5) :: (ra, listOf (List.toArray vs) k) :: fix) →
      wpAny (model prog w) A (execs body env) (GrowPost h₀ env.locals (L1J m0 C2 C3 C4 C5 fix (i + 1)) I oI { s with heap := h, toks := tk } Q) E { s with heap := h, toks := tk })
    (done : ∀ (c : Nat → Option Value) h tk, Fr h₀ env.locals h (l1M m0 c) → News h₀ env.locals h fix → Q .next { s with heap := h, toks := tk }) :
    wpAny (model prog w) A (pyIter (.ref lst)) (fun it s₂ => LoopAtV prog w A h₀ env (Str.ofString "cell") body Q E it s₂) E s := by
  obtain ⟨c0, hc0⟩ := l1M_of (m0 := m0) (m' := m0) (fun _ _ _ _ _ _ _ _ => rfl)
  have hwl : ws.length = 3 := by rw [hI.length]; exact hlen
  refine grow_list (vs := ws) (n := kw) (L1J m0 C2 C3 C4 C5 fix) hh F (news := (C2, o2) :: (C3, o3) :: (C4, o4) :: (C5, o5) :: (ra, listOf (List.toArray vs) k) :: fix) (news_cons a2 N (news_cons a3 N (news_cons a4 N (news_cons a5 N (news_cons ar N (fun p hp => N p (hfix p hp))))))) ?_ ⟨c0, ra, vs, k, row, M, o2, o3, o4, o5, v4, v5, tM, hc0, rfl, d2, d3, d4, d5, I0, G, by omega⟩ ?_ ?_
  · rintro i m' nx ⟨c, ra, vs, k, row, M, o2, o3, o4, o5, v4, v5, tM, rfl, rfl, _⟩
    exact .tail _ (.tail _ (.tail _ (.tail _ (.tail _ hlst))))
  · rintro i v m₁' nx₁ h tk I oI hv ⟨c, ra, vs, k, row, M, o2, o3, o4, o5, v4, v5, tM, rfl, rfl, d2, d3, d4, d5, I1, G1, hl1⟩ hoff hc F' N'
    obtain ⟨x, t, rfl, hx⟩ := IntsAre.at hI i v hv
    have hi : i < 3 := by
      have := (List.getElem?_eq_some_iff.mp hv).1
      omega
    have h1 := List.forall_mem_cons.mp hoff
    have h2 := List.forall_mem_cons.mp h1.2
    have h3 := List.forall_mem_cons.mp h2.2
    have h4 := List.forall_mem_cons.mp h3.2
    have h5 := List.forall_mem_cons.mp h4.2
    have mr : (ra, listOf (List.toArray vs) k) ∈ (I, oI) :: (C2, o2) :: (C3, o3) :: (C4, o4) :: (C5, o5) :: (ra, listOf (List.toArray vs) k) :: fix := .tail _ (.tail _ (.tail _ (.tail _ (.tail _ (.head _)))))
    exact turn i x t c ra vs k row M o2 o3 o4 o5 v4 v5 tM h tk I oI hi h5.2 h1.1 h2.1 h3.1 h4.1 h5.1 (cell_apart N' mr (.tail _ (.head _)) d2) (cell_apart N' mr (.tail _ (.tail _ (.head _))) d3) (cell_apart N' mr (.tail _ (.tail _ (.tail _ (.head _)))) d4) (cell_apart N' mr (.tail _ (.tail _ (.tail _ (.tail _ (.head _))))) d5) hc d2 d3 d4 d5 I1 G1 hl1 F' N'
  · rintro m₁' nx₁ h tk ⟨c, ra, vs, k, row, M, o2, o3, o4, o5, v4, v5, tM, rfl, rfl, _⟩ F' N'
    exact done c h tk F' (fun p hp => N' p (.tail _ (.tail _ (.tail _ (.tail _ (.tail _ hp))))))
end
/-- behind the deed -/
@[irreducible] def MidP (h₀ : Heap) (L : Addr) (m₁ : Str → Option Value) (C2 C3 : Addr) (rest : List (Addr × Obj)) (b : Nat) (s₁ : Shared) (f : Flow) (s₂ : Shared) : Prop :=
  f = .next ∧ ∃ (c : Nat → Option Value) (ra : Addr) (vs : List Value) (k : Nat) (row : List Int) (M : Nat) (o2 o3 : Obj) (tM : Tok) (h' : Heap) (tk' : Nat), s₂ = { s₁ with heap := h', toks := tk' } ∧ Fr h₀ L h' (l1M m₁ c) ∧ News h₀ L h' ((C2, o2) :: (C3, o3) :: (ra, listOf (List.toArray vs) k) :: rest) ∧
    o2.data = .cell (some (.int (M : Int) tM)) ∧ o3.data = .cell (some (.ref ra)) ∧ IntsAre vs row ∧ Good1 row M ∧ row.length ≤ b
theorem MidP.intro {h₀ : Heap} {L : Addr} {m₁ m' : Str → Option Value} {C2 C3 ra : Addr} {rest news' : List (Addr × Obj)} {b : Nat} {s₁ : Shared} {vs : List Value} {k M : Nat} {row : List Int} {o2 o3 : Obj} {tM : Tok} {x : Int} {h' : Heap} {tk' : Nat} (F : Fr h₀ L h' m') (N : News h₀ L h' news')
    (a2 : (C2, o2) ∈ news') (a3 : (C3, o3) ∈ news') (ar : (ra, listOf (List.toArray vs) k) ∈ news') (hs : ∀ p ∈ rest, p ∈ news') (d2 : o2.data = .cell (some (.int x tM))) (hx : x = (M : Int)) (d3 : o3.data = .cell (some (.ref ra))) (hI : IntsAre vs row) (G : Good1 row M) (hl : row.length ≤ b)
    (h : ∀ y, y ≠ Str.ofString "cell" → y ≠ Str.ofString "kind" → y ≠ Str.ofString "front" → y ≠ Str.ofString "other" → y ≠ Str.ofString "wide" → y ≠ Str.ofString "spread" → y ≠ Str.ofString "octet" → m' y = m₁ y) : MidP h₀ L m₁ C2 C3 rest b s₁ .next { s₁ with heap := h', toks := tk' } := by
  obtain ⟨c, rfl⟩ := l1M_of h
  subst hx
  unfold MidP
  exact ⟨rfl, c, ra, vs, k, row, M, o2, o3, tM, h', tk', rfl, F, news_cons a2 N (news_cons a3 N (news_cons ar N (fun p hp => N p (hs p hp)))), d2, d3, hI, G, hl⟩
theorem cut_if {prog : Program} {w : World} {A : Around} {E : Value → Shared → Prop} {s : Shared} {env : Env} {h₀ : Heap} {L I : Addr} {m₁ : Str → Option Value} {oI o4 o5 : Obj} {fix nx : List (Addr × Obj)} (b : Nat) {st : Stmt} {Q : Flow → Shared → Prop} (_F : Fr h₀ L s.heap m₁) (_N : News h₀ L s.heap nx) (_hoff : ∀ p ∈ fix, p.1 ≠ I) (_mI : (I, oI) ∈ nx) (_a4 : (L + 1 + 1 + 1 + 1, o4) ∈ nx) (_a5 : (L + 1 + 1 + 1 + 1 + 1, o5) ∈ nx)
    (h1 : wpAny (model prog w) A (exec st env) (MidP h₀ L m₁ (L + 1 + 1) (L + 1 + 1 + 1) ((I, oI) :: (L + 1 + 1 + 1 + 1, o4) :: (L + 1 + 1 + 1 + 1 + 1, o5) :: fix) b s) E s)
    (h2 : ∀ (c : Nat → Option Value) ra vs k row M o2 o3 tM h' tk', Fr h₀ L h' (l1M m₁ c) → News h₀ L h' ((L + 1 + 1, o2) :: (L + 1 + 1 + 1, o3) :: (ra, listOf (List.toArray vs) k) :: (I, oI) :: (L + 1 + 1 + 1 + 1, o4) :: (L + 1 + 1 + 1 + 1 + 1, o5) :: fix) → o2.data = .cell (some (.int ((M : Nat) : Int) tM)) → o3.data = .cell (some (.ref ra)) → ra ≠ L + 1 + 1 → ra ≠ L + 1 + 1 + 1 → IntsAre vs row → Good1 row M → row.length ≤ b → Q .next { s with heap := h', toks := tk' }) :
    wpAny (model prog w) A (exec st env) Q E s := by
  refine wpAny_mono h1 (fun f s₂ p => ?_) fun _ _ e => e
  unfold MidP at p
  obtain ⟨rfl, c, ra, vs, k, row, M, o2, o3, tM, h', tk', rfl, F', N', d2, d3, hI, G, hl⟩ := p
  exact h2 c ra vs k row M o2 o3 tM h' tk' F' N' d2 d3 (cell_apart N' (.tail _ (.tail _ (.head _))) (.head _) d2) (cell_apart N' (.tail _ (.tail _ (.head _))) (.tail _ (.head _)) d3) hI G hl
theorem l1_loop2 {prog : Program} {w : World} {A : Around} {E : Value → Shared → Prop} {s : Shared} {env : Env} {h₀ : Heap} {body : List Stmt} {Q : Flow → Shared → Prop} {L lst ra T px e : Addr} {ws vs vp ve : List Value} {cs row : List Int} {kw k np ne M : Nat} {m0 : Str → Option Value} {big : List (Addr × Obj)} {o1 o2 o3 o4 o5 oT : Obj} {v4 v5 : Option Value} {tM : Tok}
    (hh : A.handled = none) (hL : env.locals = L) (F : Fr h₀ L s.heap m0) (N : News h₀ L s.heap big) (hI : IntsAre ws cs) (hlen : cs.length = 3) (dF : o1.data = .cell (some (.ref T)))
    (d2 : o2.data = .cell (some (.int (M : Int) tM))) (d3 : o3.data = .cell (some (.ref ra))) (d4 : o4.data = .cell v4) (d5 : o5.data = .cell v5)
    (a1 : (L + 1, o1) ∈ big) (a2 : (L + 1 + 1, o2) ∈ big) (a3 : (L + 1 + 1 + 1, o3) ∈ big) (a4 : (L + 1 + 1 + 1 + 1, o4) ∈ big) (a5 : (L + 1 + 1 + 1 + 1 + 1, o5) ∈ big) (ar : (ra, listOf (List.toArray vs) k) ∈ big) (ml : (lst, listOf (List.toArray ws) kw) ∈ big) (mT : (T, oT) ∈ big) (mp : (px, listOf (List.toArray vp) np) ∈ big) (me : (e, listOf (List.toArray ve) ne) ∈ big)
    (I0 : IntsAre vs row) (G : Good1 row M) (hl : row.length ≤ 20)
    (turn : ∀ (i : Nat) z t (c : Nat → Option Value) ra vs k row M o2 o3 o4 o5 v4 v5 tM h tk I oI, i < 3 → (∀ p ∈ [(lst, listOf (List.toArray ws) kw), (T, oT), (px, listOf (List.toArray vp) np), (e, listOf (List.toArray ve) ne), (L + 1, o1)], p.1 ≠ I) → L + 1 + 1 ≠ I → L + 1 + 1 + 1 ≠ I → L + 1 + 1 + 1 + 1 ≠ I → L + 1 + 1 + 1 + 1 + 1 ≠ I → ra ≠ I → ra ≠ L + 1 + 1 → ra ≠ L + 1 + 1 + 1 → ra ≠ L + 1 + 1 + 1 + 1 → ra ≠ L + 1 + 1 + 1 + 1 + 1 → oI.cls = .type "list_iterator" →
      o2.data = .cell (some (.int ((M : Nat) : Int) tM)) → o3.data = .cell (some (.ref ra)) → o4.data = .cell v4 → o5.data = .cell v5 → IntsAre vs row → Good1 row M → row.length ≤ 20 + i →
      Fr h₀ L h (fun y => if y = Str.ofString "cell" then some (.int z t) else l1M m0 c y) →
      News h₀ L h [(I, oI), (L + 1 + 1, o2), (L + 1 + 1 + 1, o3), (L + 1 + 1 + 1 + 1, o4), (L + 1 + 1 + 1 + 1 + 1, o5), (ra, listOf (List.toArray vs) k), (lst, listOf (List.toArray ws) kw), (T, oT), (px, listOf (List.toArray vp) np), (e, listOf (List.toArray ve) ne), (L + 1, o1)] →
      wpAny (model prog w) A (execs body env) (GrowPost h₀ L (L1J m0 (L + 1 + 1) (L + 1 + 1 + 1) (L + 1 + 1 + 1 + 1) (L + 1 + 1 + 1 + 1 + 1) [(lst, listOf (List.toArray ws) kw), (T, oT), (px, listOf (List.toArray vp) np), (e, listOf (List.toArray ve) ne), (L + 1, o1)] (i + 1)) I oI { s with heap := h, toks := tk } Q) E { s with heap := h, toks := tk })
    (done : ∀ (c : Nat → Option Value) h tk, Fr h₀ L h (l1M m0 c) → News h₀ L h [(lst, listOf (List.toArray ws) kw), (T, oT), (px, listOf (List.toArray vp) np), (e, listOf (List.toArray ve) ne), (L + 1, o1)] → Q .next { s with heap := h, toks := tk }) :
    wpAny (model prog w) A (pyIter (.ref lst)) (fun it s₂ => LoopAtV prog w A h₀ env (Str.ofString "cell") body Q E it s₂) E s := by
  subst hL
  exact l1_loop (fix := [(lst, listOf (List.toArray ws) kw), (T, oT), (px, listOf (List.toArray vp) np), (e, listOf (List.toArray ve) ne), (env.locals + 1, o1)]) hh F N (.head _) hI hlen a2 a3 a4 a5 ar
    (List.forall_mem_cons.mpr ⟨ml, List.forall_mem_cons.mpr ⟨mT, List.forall_mem_cons.mpr ⟨mp, List.forall_mem_cons.mpr ⟨me, List.forall_mem_cons.mpr ⟨a1, List.forall_mem_nil _⟩⟩⟩⟩⟩) d2 d3 d4 d5 I0 G hl turn done
section
variable {prog : Program} {w : World} {A : Around} {E : Value → Shared → Prop} {s : Shared} {L : Addr} {h₀ : Heap} {m : Str → Option Value} {news : List (Addr × Obj)}
theorem add_led {l1 l2 : Addr} {vs ws : List Value} {ns ms : List Int} {n1 n2 : Nat} {Q : Value → Shared → Prop} (F : Fr h₀ L s.heap m) (N : News h₀ L s.heap news) (h1 : (l1, listOf (List.toArray vs) n1) ∈ news) (h2 : (l2, listOf (List.toArray ws) n2) ∈ news) (I1 : IntsAre vs ns) (I2 : IntsAre ws ms) (hsz : ns.length + ms.length ≤ 2 ^ 19)
    (h : ∀ y us h', Fr h₀ L h' m → News h₀ L h' ((y, listOf (List.toArray us) 0) :: news) → (∀ p ∈ news, p.1 < y) → IntsAre us (ns ++ ms) → Q (.ref y) { s with heap := h' }) : wpAny (model prog w) A (binaryOp .Add (.ref l1) (.ref l2)) Q E s :=
  add_lists_ints (hsz := by rw [sizeLine_eq]; omega) F N ⟨_, (N _ h1).1, rfl, n1, rfl⟩ ⟨_, (N _ h2).1, rfl, n2, rfl⟩ I1 I2 (fun h' F' N' I' => h _ (vs ++ ws) h' F' N' (fun p hp => Heap.lt_size (N p hp).1) I')
end
theorem fm_lo (y : Int) (k : Int) (h : 0 < k) : -(2 ^ 40 : Int) ≤ y.fmod k := Int.le_trans (by decide) (Int.fmod_nonneg_of_pos y h)
theorem fm_hi (y : Int) (k : Int) (h : 0 < k) (h2 : k ≤ 2 ^ 20) : y.fmod k < 2 ^ 20 := Int.lt_of_lt_of_le (Int.fmod_lt_of_pos y h) h2
theorem front_size (y : Int) : 0 + 1 + (y.fmod 2).toNat ≤ 2 ^ 19 := by
  have h1 := Int.fmod_nonneg_of_pos y (b := 2) (by decide)
  have h2 := Int.fmod_lt_of_pos y (b := 2) (by decide)
  omega
theorem gen_toks {M : Model} {A : Around} {α : Type} {t : Sem α} {Q : α → Shared → Prop} {E : Value → Shared → Prop} {s : Shared} {X : Nat} (h : ∀ tk, wpAny M A t Q E (Shared.mk s.heap s.gens s.drawn tk s.os)) : wpAny M A t Q E (Shared.mk s.heap s.gens s.drawn X s.os) := h X
theorem gen_toks5 {M : Model} {A : Around} {α : Type} {t : Sem α} {Q : α → Shared → Prop} {E : Value → Shared → Prop} {a b c d} {X : Nat} (h : ∀ tk, wpAny M A t Q E (Shared.mk a b c tk d)) : wpAny M A t Q E (Shared.mk a b c X d) := h X
/-- a test that changes no object -/
@[irreducible] def JoinB (R : Prop) (s : Shared) (v : Bool) (s₂ : Shared) : Prop := ∃ tk, s₂ = { s with toks := tk } ∧ (v = true → R)
theorem JoinB.yes {R : Prop} {s : Shared} {tk : Nat} (h : R) : JoinB R s true { s with toks := tk } := by unfold JoinB; exact ⟨tk, rfl, fun _ => h⟩
theorem JoinB.no {R : Prop} {s : Shared} {tk : Nat} : JoinB R s false { s with toks := tk } := by unfold JoinB; exact ⟨tk, rfl, fun h => absurd h (by decide)⟩
theorem join_bool {M : Model} {A : Around} {E : Value → Shared → Prop} {s : Shared} {tree : Sem Bool} {Q : Bool → Shared → Prop} (R : Prop) (h1 : wpAny M A tree (JoinB R s) E s) (h2 : ∀ v tk, (v = true → R) → Q v { s with toks := tk }) : wpAny M A tree Q E s :=
  wpAny_mono h1 (fun v s₂ p => by unfold JoinB at p; obtain ⟨tk, rfl, hr⟩ := p; exact h2 v tk hr) fun _ _ e => e
theorem front_gen {us : List Value} {v q u : Int} (h : IntsAre us ([1 + v.fmod 255] ++ List.replicate (q.fmod 2).toNat (u.fmod 256))) : ∃ fr, IntsAre us fr ∧ IsB fr ∧ (∃ x ∈ fr, x ≠ 0) ∧ 1 ≤ fr.length ∧ fr.length ≤ 2 := by
  have h1 := Int.fmod_nonneg_of_pos v (b := 255) (by decide)
  have h2 := Int.fmod_lt_of_pos v (b := 255) (by decide)
  have h3 := Int.fmod_nonneg_of_pos u (b := 256) (by decide)
  have h4 := Int.fmod_lt_of_pos u (b := 256) (by decide)
  have h5 := Int.fmod_nonneg_of_pos q (b := 2) (by decide)
  have h6 := Int.fmod_lt_of_pos q (b := 2) (by decide)
  refine ⟨_, h, fun x hx => ?_, ⟨_, .head _, by omega⟩, by simp, by simp only [List.length_append, List.length_cons, List.length_nil, List.length_replicate]; omega⟩
  rcases List.mem_append.mp hx with hx | hx
  · rw [List.mem_singleton.mp hx]; omega
  · rw [(List.mem_replicate.mp hx).2]; omega
theorem k5_ks (row : List Int) : (rangeKs 0 row.length).map (fun k => timesI (row.getD k.toNat 0) ((row.length : Int) - 1 - k)) = k5L row := by
  rw [← k5_map row]
  unfold rangeKs
  rw [List.map_map]
  refine List.map_congr_left fun k _ => ?_
  show timesI (row.getD (0 + (k : Int)).toNat 0) ((row.length : Int) - 1 - (0 + (k : Int))) = _
  rw [Int.zero_add, Int.toNat_natCast]
theorem k6_ks {row : List Int} {M : Nat} (h : 1 ≤ M) : (rangeKs 0 row.length).map (fun k => timesI (row.getD ((row.length : Int) - 1 - k).toNat 0) (k * ((M : Int) - 1))) = k6L (M - 1) row := by
  rw [← k6_map (M - 1) row]
  unfold rangeKs
  rw [List.map_map]
  refine List.map_congr_left fun k _ => ?_
  show timesI (row.getD ((row.length : Int) - 1 - (0 + (k : Int))).toNat 0) ((0 + (k : Int)) * ((M : Int) - 1)) = _
  congr 1
  · congr 1
    omega
  · rw [Int.zero_add]
    congr 1
    omega
/-! the loop that spreads the row -/
def SprJ (m0 : Str → Option Value) (g : Obj → List (Addr × Obj)) (row : List Int) (i : Nat) (m' : Str → Option Value) (nx : List (Addr × Obj)) : Prop :=
  ∃ (c : Option Value) (vs : List Value) (k : Nat), m' = (fun y => if y = Str.ofString "octet" then c else m0 y) ∧ nx = g (listOf (List.toArray vs) k) ∧ IntsAre vs (spr (row.take i))
theorem spr_end {h₀ : Heap} {L : Addr} {Q : Flow → Shared → Prop} {m0 m' : Str → Option Value} {g : Obj → List (Addr × Obj)} {row zs : List Int} {i : Nat} {news' : List (Addr × Obj)} {s₁ : Shared} {I : Addr} {oI : Obj} {vs : List Value} {k : Nat} {h' : Heap} {tk' : Nat} (F : Fr h₀ L h' m') (N : News h₀ L h' news') (hs : ∀ p ∈ g (listOf (List.toArray vs) k), p ∈ news') (hi : (I, oI) ∈ news') (off : ∀ p ∈ g (listOf (List.toArray vs) k), p.1 ≠ I)
    (hI : IntsAre vs zs) (hz : zs = spr (row.take (i + 1))) (h : ∀ y, y ≠ Str.ofString "octet" → m' y = m0 y) :
    GrowPost h₀ L (SprJ m0 g row (i + 1)) I oI s₁ Q .next { s₁ with heap := h', toks := tk' } := by
  subst hz
  exact GrowEnd.intro _ F N hs hi off ⟨m' (Str.ofString "octet"), vs, k, funext fun y => eq_ite (fun q => by rw [q]) (fun q => h y q), rfl, hI⟩
section
variable {prog : Program} {w : World} {A : Around} {E : Value → Shared → Prop} {s : Shared} {env : Env} {h₀ : Heap} {body : List Stmt} {Q : Flow → Shared → Prop}
theorem spr_loop {lst sp : Addr} {ws : List Value} {kw k0 : Nat} {row : List Int} {m0 : Str → Option Value} {big : List (Addr × Obj)} {g : Obj → List (Addr × Obj)} {a0 : Array Value}
    (hh : A.handled = none) (F : Fr h₀ env.locals s.heap m0) (N : News h₀ env.locals s.heap big) (_hm : (sp, listOf a0 k0) ∈ big) (U : UpdF sp (listOf a0 k0) big g) (ha : a0 = #[]) (hl : ∀ o, (lst, listOf (List.toArray ws) kw) ∈ g o) (hI : IntsAre ws row)
    (turn : ∀ (i : Nat) (x : Int) t (c : Option Value) (vs : List Value) (k : Nat) h tk I oI, i < row.length → row[i]? = some x → x ∈ row → IntsAre vs (spr (row.take i)) → (∀ p ∈ g (listOf (List.toArray vs) k), p.1 ≠ I) → oI.cls = .type "list_iterator" →
      Fr h₀ env.locals h (fun y => if y = Str.ofString "octet" then some (.int x t) else if y = Str.ofString "octet" then c else m0 y) →
      News h₀ env.locals h ((I, oI) :: g (listOf (List.toArray vs) k)) →
      wpAny (model prog w) A (execs body env) (GrowPost h₀ env.locals (SprJ m0 g row (i + 1)) I oI { s with heap := h, toks := tk } Q) E { s with heap := h, toks := tk })
    (done : ∀ (c : Option Value) (vs : List Value) (k : Nat) h tk, IntsAre vs (spr row) → Fr h₀ env.locals h (fun y => if y = Str.ofString "octet" then c else m0 y) → News h₀ env.locals h (g (listOf (List.toArray vs) k)) → Q .next { s with heap := h, toks := tk }) :
    wpAny (model prog w) A (pyIter (.ref lst)) (fun it s₂ => LoopAtV prog w A h₀ env (Str.ofString "octet") body Q E it s₂) E s := by
  subst ha
  refine grow_list (vs := ws) (n := kw) (SprJ m0 g row) hh F N ?_ ⟨m0 (Str.ofString "octet"), [], k0, funext fun y => eq_ite (fun q => by rw [q]) (fun _ => rfl), (updF_same U).symm, .nil⟩ ?_ ?_
  · rintro i m' nx ⟨c, vs, k, _, rfl, _⟩
    exact hl _
  · rintro i v m₁' nx₁ h tk I oI hv ⟨c, vs, k, rfl, rfl, hI'⟩ hoff hc F' N'
    obtain ⟨x, t, rfl, hx⟩ := IntsAre.at hI i v hv
    have hi : i < row.length := (List.getElem?_eq_some_iff.mp hx).1
    exact turn i x t c vs k h tk I oI hi hx (List.mem_of_getElem? hx) hI' hoff hc F' N'
  · rintro m₁' nx₁ h tk ⟨c, vs, k, rfl, rfl, hI'⟩ F' N'
    rw [hI.length, List.take_length] at hI'
    exact done c vs k h tk hI' F' N'
end
theorem spr_snoc1 {row : List Int} {i : Nat} {x : Int} (h : row[i]? = some x) : spr (row.take i) ++ [timesI x (glogI x), 0] = spr (row.take (i + 1)) := by
  rw [List.take_add_one, h]
  unfold spr
  rw [List.flatMap_append]
  rfl
theorem spr_cut (row : List Int) : (spr row).length - 1 = 2 * row.length - 1 := by rw [spr_length]
end
section
theorem fillNow_l1f : (PySem.Challenge.rw_bq0024_01 = PySem.Challenge.rw_bq0024_01) ∧ (hd.heap_39 = hd.heap_39) := by
  w_top off
  k_fill
  exact ⟨rfl, rfl⟩

local macro_rules | `(tactic| k_room) => `(tactic| ktr_room)
local macro_rules | `(tactic| k_lt $h:ident) => `(tactic| (replace $h := allLt_of $h; simp only [AllLt, and_true] at $h:ident; repeat (have hA := And.left $h; replace $h := And.right $h)))
local macro_rules | `(tactic| k_ne) => `(tactic| first | with_reducible assumption | (refine Ne.symm ?_; with_reducible assumption) | (refine Nat.ne_of_lt ?_; with_reducible assumption) | (refine Nat.ne_of_gt ?_; with_reducible assumption))
local macro_rules | `(tactic| k_all) => `(tactic| ((fail_if_success (refine' List.forall_mem_cons.mpr ⟨?tailNg, ?tailNh⟩)); rename AllLt _ _ => hAL; first | (refine allLt_ne hAL ?_; (try dsimp only); first | exact Nat.le_refl _ | (refine Nat.le_of_lt ?_; with_reducible assumption)) | (clear hAL; k_all) | (refine allLt_ne hAL ?_; (try dsimp only); omega)))
local macro_rules | `(tactic| k_all) => `(tactic| ((fail_if_success (refine' List.forall_mem_cons.mpr ⟨?tailNe, ?tailNf⟩)); with_reducible assumption))
local macro_rules | `(tactic| k_all) => `(tactic| (with_reducible refine all_append ?_ ?_ <;> k_all))
local macro_rules | `(tactic| k_all) => `(tactic| first | exact List.forall_mem_nil _ | (refine' List.forall_mem_cons.mpr ⟨?caZq, ?cbZq⟩; (case caZq => k_ne); (case cbZq => k_all)))
local macro_rules | `(tactic| k_units) => `(tactic| ktr_units)
local macro_rules | `(tactic| k_enter) => `(tactic| (refine' code_defC ?k1 ?k2 ?k3 ?k4 ?k5 ?kAZq ?kFZq ?kKZq ?k6 ?k7 ?k8 ?k9 ?kBZq ?kDZq ?_ ?c2 ?c3 ?c4; (case kAZq => exact rfl); (case kFZq => exact rfl); (case kKZq => first | exact rfl | assumption); (case k1 => k_asm); (case k2 => k_asm); (case k3 => k_asm); (case k4 => k_asm); (case k5 => k_asm); (case k6 => k_is); (case k7 => k_is); (case k8 => ktr_room); (case k9 => exact BindsTo.of_eq rfl); (case kBZq => exact rfl); (case kDZq => decide +kernel); (case c2 => exact rfl); (case c3 => exact rfl); (case c4 => exact rfl); k_whole; intro g' L' h' tk' cells' FG' F' N' Y' B' X' T' l1; (try k_lt l1); k_cells Y'; (try simp only [List.cons_append, List.nil_append] at N'); (try dsimp only); (try k_lift B'); (try k_fold)))
local macro_rules | `(tactic| k_enter) => `(tactic| cell_enter)
local macro_rules | `(tactic| walk_at "subscriptTail") => `(tactic| (k_here; (with_reducible show wpAny _ _ (subscriptTail _ _ (Value.ref 79) (Value.int _ _)) _ _ _); k_dflt (refine' topItemI (ns := expL) ?FZq ?XZq ?lZq ?iZq ?aZq ?bZq ?dZq ?_; (case FZq => k_asm); (case XZq => k_asm); (case lZq => k_is); (case iZq => exact intsB_of (by decide +kernel)); (case aZq => (try simp only [expL_len]); omega); (case bZq => (try simp only [expL_len]); omega); (case dZq => (try simp only [expL_len]); omega); k_whole); intro tE))
local macro_rules | `(tactic| walk_at "subscriptTail") => `(tactic| (k_here; (with_reducible show wpAny _ _ (subscriptTail _ _ (Value.ref 80) (Value.int _ _)) _ _ _); k_dflt (refine' topItemI (ns := logL) ?FZq ?XZq ?lZq ?iZq ?aZq ?bZq ?dZq ?_; (case FZq => k_asm); (case XZq => k_asm); (case lZq => k_is); (case iZq => exact intsB_of (by decide +kernel)); (case aZq => (try simp only [logL_len]); omega); (case bZq => (try simp only [logL_len]); omega); (case dZq => (try simp only [logL_len]); omega); k_whole); intro tE))


local macro_rules | `(tactic| walk_at "call ref") => `(tactic| (k_here; (with_reducible show wpAny _ _ (call (Value.ref 94) [Value.int _ _]) _ _ _); k_dflt (refine' gexp_c ?BZq ?FZq ?KZq ?NZq ?TZq ?kZq ?dZq ?uZq ?_; (case BZq => k_asm); (case FZq => k_asm); (case KZq => k_asm); (case NZq => k_asm); (case TZq => k_asm); (case kZq => first | exact rfl | assumption); (case dZq => ktr_room); (case uZq => ktr_units); k_whole); intro t9 h9 tk9 F9 N9; (try dsimp only); (try k_sweep); walk_say "CONTRACT gexp"))
local macro_rules | `(tactic| walk_at "call ref") => `(tactic| (k_here; (with_reducible show wpAny _ _ (call (Value.ref 87) [Value.int _ _]) _ _ _); k_dflt (refine' glog_c ?BZq ?FZq ?KZq ?NZq ?TZq ?kZq ?dZq ?uZq ?xZq ?yZq ?_; (case BZq => k_asm); (case FZq => k_asm); (case KZq => k_asm); (case NZq => k_asm); (case TZq => k_asm); (case kZq => first | exact rfl | assumption); (case dZq => ktr_room); (case uZq => ktr_units); (case xZq => first | assumption | omega); (case yZq => first | assumption | omega); k_whole); intro t9 h9 tk9 F9 N9; (try dsimp only); (try k_sweep); walk_say "CONTRACT glog"))
local macro_rules | `(tactic| walk_at "subscriptTail Name Slice ref ref") => `(tactic| (k_here; (with_reducible show wpAny _ _ (subscriptTail _ (PySem.Expr.Slice (some _) none none _) (Value.ref _) (Value.ref _)) _ _ _); k_dflt (refine' kmk_slice_ints ?FZq ?NZq ?lZq ?pZq ?qZq ?iZq ?mZq ?cZq ?_ ?sZq ?tZq ?zZq; (case FZq => k_asm); (case NZq => k_asm); (case lZq => kmk_list); (case pZq => kmk_part); (case qZq => kmk_part); (case iZq => assumption); (case mZq => exact kmk_from (by assumption) (by omega)); (case cZq => exact rfl); (case sZq => with_unfolding_all rfl); (case tZq => kmk_pure); (case zZq => simp only [List.size_toArray, sizeLine_eq, IntsAre.length (by assumption)]; omega)); intro D' ws' h' F' N' l1 hI' hC' hL'; clear hC' hL'; (try k_lt l1); (try k_sweep)))
local macro_rules | `(tactic| walk_at "exec Assign cons ListComp") => `(tactic| (k_here; (with_reducible show wpAny _ _ (exec (Stmt.Assign [_] (PySem.Expr.ListComp _ [⟨PySem.Expr.Tuple _ _ _, _, _, _⟩] _ _) _) _) _ _ _); k_dflt (refine assign_comp_pairs (by k_asm) (by with_unfolding_all rfl) (by with_unfolding_all rfl) (by decide) (by rfl) (by decide) (by rfl) (by rfl) (by decide) (by rfl) (by rfl) ?_)))
local macro_rules | `(tactic| walk_at "call type:zip") => `(tactic| (k_here; (with_reducible show wpAny _ _ (call (Value.type _) [Value.ref _, Value.ref _]) _ _ _); k_dflt (refine call_zip_own ?_)))
local macro_rules | `(tactic| walk_at "call type:enumerate") => `(tactic| (k_here; (with_reducible show wpAny _ _ (call (Value.type _) [Value.ref _]) _ _ _); k_dflt (refine call_enum_own ?_)))
local macro_rules | `(tactic| walk_at "pyIter ref") => `(tactic| (k_here; k_dflt (refine' owit_iter ?FZq ?XZq ?IZq ?hsZq ?hfZq ?_; (case FZq => k_asm); (case XZq => k_asm); (case IZq => k_inst); (case hsZq => k_is); (case hfZq => k_is); k_whole)))
local macro_rules | `(tactic| walk_at "OwitIt") => `(tactic| (k_here; k_dflt (refine' owit_li ?NZq ?iZq ?_; (case NZq => k_asm); (case iZq => k_mem); k_whole)))
local macro_rules | `(tactic| walk_at "call builtin:iter") => `(tactic| (k_here; (with_reducible show wpAny _ _ (call (Value.builtin "iter") [Value.ref _]) _ _ _); k_dflt (refine' call_iter_led ?FZq ?NZq ?lZq ?_; (case FZq => k_asm); (case NZq => k_asm); (case lZq => k_mem); k_whole); intro I' h' F' N' l1; (try k_lt l1); (try k_sweep)))
local macro_rules | `(tactic| walk_at "subscriptTail Name Slice ref ref") => `(tactic| (k_here; (with_reducible show wpAny _ _ (subscriptTail _ (PySem.Expr.Slice _ _ none _) (Value.ref _) (Value.ref _)) _ _ _); k_dflt (refine' sub_own_slice ?FZq ?XZq ?NZq ?IZq ?qZq ?hsZq ?hfZq ?hgZq ?_; (case FZq => k_asm); (case XZq => k_asm); (case NZq => k_asm); (case IZq => k_inst); (case qZq => k_is); (case hsZq => k_is); (case hfZq => k_is); (case hgZq => k_is); k_whole); intro sl' h' F' N' l1; (try k_lt l1); (try k_sweep)))
local macro_rules | `(tactic| walk_at "subscriptTail") => `(tactic| (k_here; (with_reducible show wpAny _ _ (subscriptTail _ (PySem.Expr.Name _ _) (Value.ref _) (Value.ref _)) _ _ _); k_dflt (refine' sub_list_slice ?FZq ?NZq ?lZq ?slZq ?paZq ?pbZq ?IZq ?mZq ?zZq ?_; (case FZq => k_asm); (case NZq => k_asm); (case lZq => k_mem); (case slZq => k_mem); (case paZq => kmk_part); (case pbZq => kmk_part); (case IZq => assumption); (case mZq => first | exact kmk_from_neg (by assumption) (by omega) | exact kmk_from (by assumption) (by omega) | exact kmk_upto (by assumption) (by omega) | exact kmk_upto_neg (by assumption) (by omega)); (case zZq => rw [sizeLine_eq]; omega); k_whole); intro D' ws' h' F' N' l1 hI'; (try k_lt l1); (try k_sweep)))
local macro_rules | `(tactic| walk_at "call builtin:list.extend") => `(tactic| (k_here; (with_reducible show wpAny _ _ (call (Value.builtin _) [Value.ref _, Value.ref _]) _ _ _); k_dflt (refine' ext_ints ?FZq ?NZq ?bZq ?UZq ?I1Zq ?I2Zq ?neZq ?h1Zq ?h2Zq ?_; (case FZq => k_asm); (case NZq => k_asm); (case bZq => k_mem); (case UZq => k_upd); (case I1Zq => assumption); (case I2Zq => assumption); (case neZq => (try simp only [List.length_drop]); omega); (case h1Zq => omega); (case h2Zq => (try simp only [List.length_drop]); omega); k_whole); intro vs' h' F' eX' N' hI'; (try rw [← eX'] at N'); clear eX'; (try k_sweep)))
local macro_rules | `(tactic| walk_at "call builtin:list.append") => `(tactic| (k_here; (with_reducible show wpAny _ _ (call (Value.builtin _) [Value.ref _, Value.int _ _]) _ _ _); k_dflt (refine' app_ints ?FZq ?NZq ?UZq ?I1Zq ?h1Zq ?_; (case FZq => k_asm); (case NZq => k_asm); (case UZq => k_upd); (case I1Zq => first | assumption | exact IntsAre.nil); (case h1Zq => first | omega | ((simp only [List.length_append, List.length_cons, List.length_nil]); omega)); k_whole); intro vs' h' F' eX' N' hI'; (try rw [← eX'] at N'); clear eX'; (try k_sweep)))

local macro_rules | `(tactic| walk_at "call ref") => `(tactic| (k_here; (with_reducible show wpAny _ _ (call (Value.ref 144) [Value.ref _, Value.int _ _]) _ _ _); k_dflt (refine' poly_c ?BZq ?FZq ?KZq ?NZq ?TZq ?kZq ?dZq ?uZq ?IZq ?pZq ?lZq ?sZq ?zZq ?_; (case BZq => k_asm); (case FZq => k_asm); (case KZq => k_asm); (case NZq => refine' news_cons ?NmZq ?NnZq ?NrZq; (case NnZq => k_asm); (case NrZq => k_asm); (case NmZq => k_mem)); (case TZq => k_asm); (case kZq => first | exact rfl | assumption); (case dZq => ktr_room); (case uZq => ktr_units); (case IZq => assumption); (case pZq => first | assumption | omega | ((simp only [List.length_append, List.length_drop, List.length_map, List.length_take]); omega)); (case lZq => first | assumption | omega | ((simp only [List.length_append, List.length_drop, List.length_map, List.length_take]); omega)); (case sZq => omega); (case zZq => omega); k_whole); intro x9 d9 l9 vs9 hs9 t9 h9 tk9 F9 N9 I9 o1 o2 o3; (try simp only [AllLt, and_true] at o1); (repeat (have hA := And.left o1; replace o1 := And.right o1)); (try simp only [Int.toNat_zero, List.replicate_zero, List.append_nil] at I9); (try dsimp only); (try k_sweep); walk_say "CONTRACT poly"))

local macro_rules | `(tactic| walk_at "call ref") => `(tactic| (k_here; (with_reducible show wpAny _ _ (call (Value.ref 266) [Value.ref _, Value.bool _]) _ _ _); k_dflt (refine' putbit_d ?BZq ?FZq ?KZq ?NZq ?bZq ?l1Zq ?U1Zq ?U2Zq ?TZq ?kZq ?dZq ?uZq ?a1Zq ?a2Zq ?a3Zq ?IZq ?lZq ?zZq ?yZq ?qZq ?_; (case BZq => k_asm); (case FZq => k_asm); (case KZq => k_asm); (case NZq => k_asm); (case bZq => k_mem); (case U1Zq => k_updF); (case l1Zq => k_mem); (case U2Zq => (intro o9; (try dsimp only); k_updF)); (case TZq => k_asm); (case kZq => first | exact rfl | assumption); (case dZq => ktr_room); (case uZq => ktr_units); (case a1Zq => k_ne); (case a2Zq => k_ne); (case a3Zq => k_ne); (case IZq => assumption); (case lZq => omega); (case zZq => first | assumption | omega); (case yZq => omega); (case qZq => first | assumption | omega); k_whole); intro vs9 zs9 n9 t9 h9 tk9 F9 N9 I9 e9 q9 l9 p9; (try dsimp only at N9); (try dsimp only); (try k_sweep); walk_say "CONTRACT putbit"))

local macro_rules | `(tactic| walk_at "UnrEnd") => `(tactic| (k_here; refine' unr_head ?FZq ?NZq ?oZq ?_; (case FZq => k_asm); (case NZq => k_asm); (case oZq => k_all); k_whole))

local macro_rules | `(tactic| walk_at "call ref") => `(tactic| (k_here; (with_reducible show wpAny _ _ (call (Value.ref 252) [Value.ref _, Value.int _ _, Value.int 8 _]) _ _ _); k_dflt (refine' put_d ?BZq ?FZq ?KZq ?NZq ?bZq ?l1Zq ?U1Zq ?U2Zq ?TZq ?kZq ?dZq ?uZq ?a1Zq ?a2Zq ?a3Zq ?IZq ?lZq ?eZq ?n0Zq ?n1Zq ?_; (case BZq => k_asm); (case FZq => k_asm); (case KZq => k_asm); (case NZq => k_asm); (case bZq => k_mem); (case U1Zq => k_updF); (case l1Zq => k_mem); (case U2Zq => (intro o9; (try dsimp only); k_updF)); (case TZq => k_asm); (case kZq => first | exact rfl | assumption); (case dZq => ktr_room); (case uZq => ktr_units); (case a1Zq => k_ne); (case a2Zq => k_ne); (case a3Zq => k_ne); (case IZq => with_reducible assumption); (case lZq => omega); (case eZq => first | with_reducible assumption | omega); (case n0Zq => omega); (case n1Zq => omega); k_whole); intro vs9 len9 n9 t9 h9 tk9 F9 N9 I9 e9; (try dsimp only at N9); (try dsimp only); (try k_sweep); walk_say "CONTRACT put"))

local macro_rules | `(tactic| walk_at "call ref") => `(tactic| (k_here; (with_reducible show wpAny _ _ (call (Value.ref 136) [Value.ref _, Value.ref _]) (PySem.W.CmpBack _) _ _); k_dflt (refine' mul_d ?BZq ?FZq ?KZq ?NZq ?m1Zq ?m2Zq ?m3Zq ?m4Zq ?m5Zq ?m6Zq ?TZq ?kZq ?I1Zq ?I2Zq ?l1Zq ?l2Zq ?p1Zq ?p2Zq ?r1Zq ?r2Zq ?dZq ?uZq ?_; (case BZq => k_asm); (case FZq => k_asm); (case KZq => k_asm); (case NZq => k_asm); (case m1Zq => k_mem); (case m2Zq => k_mem); (case m3Zq => k_mem); (case m4Zq => k_mem); (case m5Zq => k_mem); (case m6Zq => k_mem); (case TZq => k_asm); (case kZq => first | exact rfl | assumption); (case I1Zq => with_reducible assumption); (case I2Zq => with_reducible assumption); (case l1Zq => omega); (case l2Zq => omega); (case p1Zq => omega); (case p2Zq => omega); (case r1Zq => with_reducible assumption); (case r2Zq => with_reducible assumption); (case dZq => ktr_room); (case uZq => ktr_units); k_whole); intro x9 d9 l9 vs9 hs9 t9 h9 tk9 F9 N9 I9; dsimp only [PySem.W.CmpBack]; (try dsimp only); (try k_sweep); walk_say "CONTRACT mul"))
local macro_rules | `(tactic| walk_at "call ref") => `(tactic| (k_here; (with_reducible show wpAny _ _ (call (Value.ref 141) [Value.ref _, Value.ref _]) (PySem.W.CmpBack _) _ _); k_dflt (refine' mod_d (k := 38) ?BZq ?FZq ?KZq ?NZq ?m1Zq ?m2Zq ?m3Zq ?m4Zq ?m5Zq ?m6Zq ?TZq ?kZq ?I1Zq ?I2Zq ?l1Zq ?l2Zq ?p1Zq ?p2Zq ?qZq ?r1Zq ?r2Zq ?zZq ?dZq ?uZq ?_; (case BZq => k_asm); (case FZq => k_asm); (case KZq => k_asm); (case NZq => k_asm); (case m1Zq => k_mem); (case m2Zq => k_mem); (case m3Zq => k_mem); (case m4Zq => k_mem); (case m5Zq => k_mem); (case m6Zq => k_mem); (case TZq => k_asm); (case kZq => first | exact rfl | assumption); (case I1Zq => with_reducible assumption); (case I2Zq => with_reducible assumption); (case l1Zq => omega); (case l2Zq => omega); (case p1Zq => omega); (case p2Zq => omega); (case qZq => omega); (case r1Zq => with_reducible assumption); (case r2Zq => with_reducible assumption); (case zZq => with_reducible assumption); (case dZq => ktr_room); (case uZq => ktr_units); k_whole); intro x9 d9 l9 vs9 hs9 t9 k9 n9 h9 tk9 F9 N9 I9; dsimp only [PySem.W.CmpBack]; (try dsimp only); (try k_sweep); walk_say "CONTRACT mod"))

local macro_rules | `(tactic| walk_at "getMethod type:tuple") => `(tactic| (k_here; refine' method_type ?FZq ?XZq ?mZq (by decide +kernel) ?eZq ?hZq ?_; (case FZq => k_asm); (case XZq => k_asm); (case mZq => first | exact rfl | kernel_rfl); (case eZq => k_dflt k_is); (case hZq => k_handed)))
local macro_rules | `(tactic| walk_at "call builtin:tuple.__new__") => `(tactic| (k_here; (refine' tuple_childN (C := 216) ?FZq ?NZq ?XZq ?mZq ?oZq ?e2Zq ?lZq ?bZq ?sZq ?iZq ?tcZq ?tdZq ?szZq ?_; (case FZq => k_asm); (case NZq => k_asm); (case XZq => k_asm); (case mZq => k_mem); (case oZq => exact rfl); (case e2Zq => exact rfl); (case lZq => exact rfl); (case bZq => exact rfl); (case sZq => exact rfl); (case iZq => first | k_is | kernel_rfl); (case tcZq => exact rfl); (case tdZq => exact rfl); (case szZq => (rw [sizeLine_eq]; exact Nat.le_of_ble_eq_true rfl)); k_whole); intro x' dx' h' F' N' l1 o1; (try k_lt l1); (try k_sweep)))

local macro_rules | `(tactic| walk_at "getAttr ref") => `(tactic| (k_here; (with_reducible show wpAny _ _ (getAttr (Value.ref _) (PySem.Str.ofString "data_count") _) _ _ _); k_dflt (refine' fld_d ?BZq ?FZq ?KZq ?NZq ?mxZq ?mdZq ?TZq ?kZq ?dZq ?uZq ?_; (case BZq => k_asm); (case FZq => k_asm); (case KZq => k_asm); (case NZq => k_asm); (case mxZq => k_mem); (case mdZq => k_mem); (case TZq => k_asm); (case kZq => first | exact rfl | assumption); (case dZq => ktr_room); (case uZq => ktr_units); k_whole); intro t9 h9 tk9 F9 N9; (try dsimp only); (try k_sweep); walk_say "CONTRACT data_count"))
local macro_rules | `(tactic| walk_at "getAttr ref") => `(tactic| (k_here; (with_reducible show wpAny _ _ (getAttr (Value.ref _) (PySem.Str.ofString "total_count") _) _ _ _); k_dflt (refine' fldt_d ?BZq ?FZq ?KZq ?NZq ?mxZq ?mdZq ?TZq ?kZq ?dZq ?uZq ?_; (case BZq => k_asm); (case FZq => k_asm); (case KZq => k_asm); (case NZq => k_asm); (case mxZq => k_mem); (case mdZq => k_mem); (case TZq => k_asm); (case kZq => first | exact rfl | assumption); (case dZq => ktr_room); (case uZq => ktr_units); k_whole); intro t9 h9 tk9 F9 N9; (try dsimp only); (try k_sweep); walk_say "CONTRACT total_count"))
local macro_rules | `(tactic| walk_at "call ref") => `(tactic| (k_here; (with_reducible show wpAny _ _ (call (Value.ref 216) [Value.int _ _, Value.int _ _]) _ _ _); k_dflt (refine' rsb_c ?BZq ?FZq ?KZq ?NZq ?TZq ?kZq ?dZq ?uZq ?_; (case BZq => k_asm); (case FZq => k_asm); (case KZq => k_asm); (case NZq => k_asm); (case TZq => k_asm); (case kZq => first | exact rfl | assumption); (case dZq => ktr_room); (case uZq => ktr_units); k_whole); intro x9 d9 h9 tk9 F9 N9 o1 o2; (try simp only [AllLt, and_true] at o1); (repeat (have hA := And.left o1; replace o1 := And.right o1)); (try dsimp only); (try k_sweep); walk_say "CONTRACT RSBlock"))

local macro_rules | `(tactic| walk_at "call ref") => `(tactic| (k_here; (with_reducible show wpAny _ _ (call (Value.ref 144) [Value.ref 23, Value.int _ _]) _ _ _); k_dflt (refine' poly7_c ?BZq ?FZq ?KZq ?NZq ?TZq ?kZq ?dZq ?uZq ?_; (case BZq => k_asm); (case FZq => k_asm); (case KZq => k_asm); (case NZq => k_asm); (case TZq => k_asm); (case kZq => first | exact rfl | assumption); (case dZq => ktr_room); (case uZq => ktr_units); k_whole); intro x9 d9 l9 vs9 hs9 t9 h9 tk9 F9 N9 I9 o1 o2 o3; (try simp only [AllLt, and_true] at o1); (repeat (have hA := And.left o1; replace o1 := And.right o1)); (try dsimp only); (try k_sweep); walk_say "CONTRACT poly7"))

local macro_rules | `(tactic| walk_at "subscriptTail") => `(tactic| (k_here; (with_reducible show wpAny _ _ (subscriptTail (PySem.Expr.List _ _) (PySem.Expr.Slice (some _) none none _) (Value.ref _) (Value.ref _)) _ _ _); k_dflt (refine' sub_disp_slice (vs := [_, _, _]) ?FZq ?NZq ?lZq ?paZq ?pbZq ?IZq ?mZq ?zZq ?_ ?sZq; (case FZq => k_asm); (case NZq => k_asm); (case lZq => k_mem); (case paZq => kmk_part); (case pbZq => kmk_part); (case IZq => exact .cons _ _ (.cons _ _ (.cons _ _ .nil))); (case mZq => exact kmk_from (.cons _ _ (.cons _ _ (.cons _ _ .nil))) (by omega)); (case zZq => (rw [sizeLine_eq]; exact Nat.le_of_ble_eq_true rfl)); (case sZq => with_unfolding_all rfl); k_whole); intro D' ws' h' F' N' l1 hI'; (try k_lt l1); (try k_sweep)))
local macro_rules | `(tactic| walk_at "subscriptTail") => `(tactic| (k_here; (with_reducible show wpAny _ _ (subscriptTail (PySem.Expr.List _ _) (PySem.Expr.Slice (some _) none none _) (Value.ref _) (Value.ref _)) _ _ _); k_dflt (refine' sub_disp_slice (vs := [_]) ?FZq ?NZq ?lZq ?paZq ?pbZq ?IZq ?mZq ?zZq ?_ ?sZq; (case FZq => k_asm); (case NZq => k_asm); (case lZq => k_mem); (case paZq => kmk_part); (case pbZq => kmk_part); (case IZq => exact .cons _ _ .nil); (case mZq => exact kmk_from (.cons _ _ .nil) (by omega)); (case zZq => (rw [sizeLine_eq]; exact Nat.le_of_ble_eq_true rfl)); (case sZq => with_unfolding_all rfl); k_whole); intro D' ws' h' F' N' l1 hI'; (try k_lt l1); (try k_sweep)))
local macro_rules | `(tactic| walk_at "subscriptTail") => `(tactic| (k_here; (with_reducible show wpAny _ _ (subscriptTail _ _ (Value.ref _) (Value.int _ _)) _ _ _); k_dflt (refine' led_item ?NZq ?lZq ?iZq ?aZq ?bZq ?cZq ?_ ?dZq; (case NZq => k_asm); (case lZq => k_mem); (case iZq => with_reducible assumption); (case aZq => omega); (case bZq => omega); (case cZq => omega); (case dZq => with_unfolding_all rfl); k_whole); intro tE))
local macro_rules | `(tactic| walk_at "subscriptTail") => `(tactic| (k_here; (with_reducible show wpAny _ _ (subscriptTail _ (PySem.Expr.Slice none (some _) none _) (Value.ref _) (Value.ref _)) _ _ _); k_dflt (refine' sub_disp_slice ?FZq ?NZq ?lZq ?paZq ?pbZq ?IZq ?mZq ?zZq ?_ ?sZq; (case FZq => k_asm); (case NZq => k_asm); (case lZq => k_mem); (case paZq => kmk_part); (case pbZq => kmk_part); (case IZq => with_reducible assumption); (case mZq => exact kmk_upto (by with_reducible assumption) (by omega)); (case zZq => (rw [sizeLine_eq]; omega)); (case sZq => with_unfolding_all rfl); k_whole); intro D' ws' h' F' N' l1 hI'; (try k_lt l1); (try k_sweep)))
section
local macro_rules | `(tactic| walk_at "pyIter ref") => `(tactic| refine pause ?_)
local macro_rules | `(tactic| walk_at "binaryOp Mult ref int") => `(tactic| (k_here; k_dflt (refine' mul_one_item ?FZq ?NZq ?mZq ?aZq ?bZq ?_; (case FZq => k_asm); (case NZq => k_asm); (case mZq => k_mem); (case aZq => omega); (case bZq => omega); k_whole); intro y' h' F' N' l1; (try k_lt l1); (try k_sweep)))
local macro_rules | `(tactic| walk_at "setItem ref int") => `(tactic| (k_here; (with_reducible show wpAny _ _ (setItem (Value.ref _) (Value.int _ _) (Value.int _ _)) _ _ _); k_dflt (refine' ksa_set (ns := exsL _) ?k1 ?k2 ?k3 ?k4 ?k5 ?k6 ?k7 ?_; (case k1 => k_asm); (case k2 => k_asm); (case k3 => k_upd); (case k4 => with_reducible assumption); (case k5 => omega); (case k6 => (rw [exsL_length]; omega)); (case k7 => omega); k_whole); intro h' F' N' hi' hl' hs'; (try k_sweep)))
theorem lfield_c {w : World} {p : Program} {loose : List Str} {mean : ExcName → Option Value} {mg mb : Str → Option Value}
  {dp un : Nat} {gd : Option (List Code)} {cn : Str} {cs : Scope} {a : Addr} {ccd : Value} {cl : List (Str × Addr)} {outer : List Env} {A₀ : Around} {base h₀ : Heap} {L : Addr} {m : Str → Option Value} {s : Shared} {Q E : Value → Shared → Prop}
  {news : List (Addr × Obj)}
  (hB : Below A₀ base outer h₀) (hF : Fr h₀ L s.heap m) (hK : (hd.heap_39 w.params).In h₀) (hN : News h₀ L s.heap news) (hT : Top p loose mean mg mb h₀) (hk : cs.kind = .function)
  (hdp : dp + 4 < recursionLimit) (hun : un + 20 < cLine)
  (hret : ∀ T px e vs n ws k h' tk', Fr h₀ L h' m → News h₀ L h' ((T, ({ cls := .type "tuple", data := .seq #[.ref px, .ref e] } : Obj)) :: (px, listOf (List.toArray vs) n) :: (e, listOf (List.toArray ws) k) :: news) → IntsAre vs (expL.take 255) → IntsAre ws logL → AllLt px news → AllLt e news → AllLt T news → Q (.ref T) { s with heap := h', toks := tk' }) :
  wpAny (model PySem.Challenge.pw_bq0024_01 w) (ktrTop dp un gd cn cs L a ccd cl outer) (call (.ref 285) []) Q E s := by
  k_steps
  refine Paused.go ?_
  (rename Fr _ _ _ _ => F1)
  (rename News _ _ _ _ => N1)
  (rename IsRange _ _ _ _ _ _ _ _ => rgX)
  refine' fld_loop (news := news) (by rfl) rgX rfl F1 N1 ?m1Z ?m2Z ?hsZ rfl ⟨_, rfl, ints_rep 256⟩ (by exact rfl) ?turnZ ?doneZ
  case m1Z => k_mem
  case m2Z => k_mem
  case hsZ => intro q hq; k_ownIn
  case turnZ =>
    clear F1 N1 rgX
    intro i tI c vs n ws k tn h tk I oI hi hp he ho hc I1 I2 F' N'
    have hb := numL_byte i (by omega)
    have hl1 := I1.length
    have hl2 : vs.length ≤ 255 := by rw [List.length_map, List.length_range] at hl1; omega
    k_steps
    all_goals (rename Fr _ _ _ _ => F2; rename News _ _ _ _ => N2)
    all_goals (rename IntsAre _ (List.map numL _ ++ _) => I3; rename IntsAre _ (List.set _ _ _) => I4)
    all_goals refine fld_end F2 N2 (by k_mem) (by k_mem) (fun q hq => by k_ownIn) (by k_mem) (by k_ne) (by k_ne) (by k_all) (by exact rfl) ?_ I3 (by rw [List.range_succ, List.map_append]; rfl) I4 (fun y y1 y2 => by simp [y1, y2])
    · rw [numL_succ, if_pos (by omega)]
    · rw [numL_succ, if_neg (by omega)]
  case doneZ =>
    clear F1 N1 rgX
    intro c vs n ws k tn h tk I1 I2 F' N'
    k_steps
    (rename Fr h₀ L _ _ => F2)
    (rename News h₀ L _ _ => N2)
    exact hret _ _ _ _ _ _ _ _ _ F2 (news_cons (by k_mem) N2 (news_cons (by k_mem) N2 (news_cons (by k_mem) N2 (fun q hq => N2 q (by k_ownIn))))) I1 I2 (allLt_of (by assumption)) (by assumption) (by assumption)
end
local macro_rules | `(tactic| walk_at "call ref") => `(tactic| (k_here; (with_reducible show wpAny _ _ (call (Value.ref 285) []) _ _ _); k_dflt (refine' lfield_c ?BZq ?FZq ?KZq ?NZq ?TZq ?kZq ?dZq ?uZq ?_; (case BZq => k_asm); (case FZq => k_asm); (case KZq => k_asm); (case NZq => k_asm); (case TZq => k_asm); (case kZq => first | exact rfl | assumption); (case dZq => ktr_room); (case uZq => ktr_units); k_whole); intro T9 p9 e9 vs9 n9 ws9 k9 h9 tk9 F9 N9 I9 J9 l9 l91 l92; (try simp only [AllLt, and_true] at l9 l91 l92); (try k_sweep); walk_say "CONTRACT field"))
end
section
local macro_rules | `(tactic| walk_at "pad 0") => `(tactic| skip)
local macro_rules | `(tactic| walk_at "pad 1") => `(tactic| skip)
local macro_rules | `(tactic| walk_at "pad 2") => `(tactic| skip)
local macro_rules | `(tactic| walk_at "pad 3") => `(tactic| skip)
theorem fillNow_l1t : (PySem.Challenge.rw_bq0024_01 = PySem.Challenge.rw_bq0024_01) ∧ (hd.heap_39 = hd.heap_39) := by
  w_top off
  k_fill
  exact ⟨rfl, rfl⟩

local macro_rules | `(tactic| k_room) => `(tactic| ktr_room)
local macro_rules | `(tactic| k_lt $h:ident) => `(tactic| (replace $h := allLt_of $h; simp only [AllLt, and_true] at $h:ident; repeat (have hA := And.left $h; replace $h := And.right $h)))
local macro_rules | `(tactic| k_ne) => `(tactic| first | with_reducible assumption | (refine Ne.symm ?_; with_reducible assumption) | (refine Nat.ne_of_lt ?_; with_reducible assumption) | (refine Nat.ne_of_gt ?_; with_reducible assumption))
local macro_rules | `(tactic| k_all) => `(tactic| ((fail_if_success (refine' List.forall_mem_cons.mpr ⟨?tailNg, ?tailNh⟩)); rename AllLt _ _ => hAL; first | (refine allLt_ne hAL ?_; (try dsimp only); first | exact Nat.le_refl _ | (refine Nat.le_of_lt ?_; with_reducible assumption)) | (clear hAL; k_all) | (refine allLt_ne hAL ?_; (try dsimp only); omega)))
local macro_rules | `(tactic| k_all) => `(tactic| ((fail_if_success (refine' List.forall_mem_cons.mpr ⟨?tailNe, ?tailNf⟩)); with_reducible assumption))
local macro_rules | `(tactic| k_all) => `(tactic| (with_reducible refine all_append ?_ ?_ <;> k_all))
local macro_rules | `(tactic| k_all) => `(tactic| first | exact List.forall_mem_nil _ | (refine' List.forall_mem_cons.mpr ⟨?caZq, ?cbZq⟩; (case caZq => k_ne); (case cbZq => k_all)))
local macro_rules | `(tactic| k_units) => `(tactic| ktr_units)
local macro_rules | `(tactic| k_enter) => `(tactic| (refine' code_defC ?k1 ?k2 ?k3 ?k4 ?k5 ?kAZq ?kFZq ?kKZq ?k6 ?k7 ?k8 ?k9 ?kBZq ?kDZq ?_ ?c2 ?c3 ?c4; (case kAZq => exact rfl); (case kFZq => exact rfl); (case kKZq => first | exact rfl | assumption); (case k1 => k_asm); (case k2 => k_asm); (case k3 => k_asm); (case k4 => k_asm); (case k5 => k_asm); (case k6 => k_is); (case k7 => k_is); (case k8 => ktr_room); (case k9 => exact BindsTo.of_eq rfl); (case kBZq => exact rfl); (case kDZq => decide +kernel); (case c2 => exact rfl); (case c3 => exact rfl); (case c4 => exact rfl); k_whole; intro g' L' h' tk' cells' FG' F' N' Y' B' X' T' l1; (try k_lt l1); k_cells Y'; (try simp only [List.cons_append, List.nil_append] at N'); (try dsimp only); (try k_lift B'); (try k_fold)))
local macro_rules | `(tactic| k_enter) => `(tactic| cell_enter)
local macro_rules | `(tactic| walk_at "subscriptTail") => `(tactic| (k_here; (with_reducible show wpAny _ _ (subscriptTail _ _ (Value.ref 79) (Value.int _ _)) _ _ _); k_dflt (refine' topItemI (ns := expL) ?FZq ?XZq ?lZq ?iZq ?aZq ?bZq ?dZq ?_; (case FZq => k_asm); (case XZq => k_asm); (case lZq => k_is); (case iZq => exact intsB_of (by decide +kernel)); (case aZq => (try simp only [expL_len]); omega); (case bZq => (try simp only [expL_len]); omega); (case dZq => (try simp only [expL_len]); omega); k_whole); intro tE))
local macro_rules | `(tactic| walk_at "subscriptTail") => `(tactic| (k_here; (with_reducible show wpAny _ _ (subscriptTail _ _ (Value.ref 80) (Value.int _ _)) _ _ _); k_dflt (refine' topItemI (ns := logL) ?FZq ?XZq ?lZq ?iZq ?aZq ?bZq ?dZq ?_; (case FZq => k_asm); (case XZq => k_asm); (case lZq => k_is); (case iZq => exact intsB_of (by decide +kernel)); (case aZq => (try simp only [logL_len]); omega); (case bZq => (try simp only [logL_len]); omega); (case dZq => (try simp only [logL_len]); omega); k_whole); intro tE))


local macro_rules | `(tactic| walk_at "call ref") => `(tactic| (k_here; (with_reducible show wpAny _ _ (call (Value.ref 94) [Value.int _ _]) _ _ _); k_dflt (refine' gexp_c ?BZq ?FZq ?KZq ?NZq ?TZq ?kZq ?dZq ?uZq ?_; (case BZq => k_asm); (case FZq => k_asm); (case KZq => k_asm); (case NZq => k_asm); (case TZq => k_asm); (case kZq => first | exact rfl | assumption); (case dZq => ktr_room); (case uZq => ktr_units); k_whole); intro t9 h9 tk9 F9 N9; (try dsimp only); (try k_sweep); walk_say "CONTRACT gexp"))
local macro_rules | `(tactic| walk_at "call ref") => `(tactic| (k_here; (with_reducible show wpAny _ _ (call (Value.ref 87) [Value.int _ _]) _ _ _); k_dflt (refine' glog_c ?BZq ?FZq ?KZq ?NZq ?TZq ?kZq ?dZq ?uZq ?xZq ?yZq ?_; (case BZq => k_asm); (case FZq => k_asm); (case KZq => k_asm); (case NZq => k_asm); (case TZq => k_asm); (case kZq => first | exact rfl | assumption); (case dZq => ktr_room); (case uZq => ktr_units); (case xZq => first | assumption | omega); (case yZq => first | assumption | omega); k_whole); intro t9 h9 tk9 F9 N9; (try dsimp only); (try k_sweep); walk_say "CONTRACT glog"))
local macro_rules | `(tactic| walk_at "subscriptTail Name Slice ref ref") => `(tactic| (k_here; (with_reducible show wpAny _ _ (subscriptTail _ (PySem.Expr.Slice (some _) none none _) (Value.ref _) (Value.ref _)) _ _ _); k_dflt (refine' kmk_slice_ints ?FZq ?NZq ?lZq ?pZq ?qZq ?iZq ?mZq ?cZq ?_ ?sZq ?tZq ?zZq; (case FZq => k_asm); (case NZq => k_asm); (case lZq => kmk_list); (case pZq => kmk_part); (case qZq => kmk_part); (case iZq => assumption); (case mZq => exact kmk_from (by assumption) (by omega)); (case cZq => exact rfl); (case sZq => with_unfolding_all rfl); (case tZq => kmk_pure); (case zZq => simp only [List.size_toArray, sizeLine_eq, IntsAre.length (by assumption)]; omega)); intro D' ws' h' F' N' l1 hI' hC' hL'; clear hC' hL'; (try k_lt l1); (try k_sweep)))
local macro_rules | `(tactic| walk_at "exec Assign cons ListComp") => `(tactic| (k_here; (with_reducible show wpAny _ _ (exec (Stmt.Assign [_] (PySem.Expr.ListComp _ [⟨PySem.Expr.Tuple _ _ _, _, _, _⟩] _ _) _) _) _ _ _); k_dflt (refine assign_comp_pairs (by k_asm) (by with_unfolding_all rfl) (by with_unfolding_all rfl) (by decide) (by rfl) (by decide) (by rfl) (by rfl) (by decide) (by rfl) (by rfl) ?_)))
local macro_rules | `(tactic| walk_at "call type:zip") => `(tactic| (k_here; (with_reducible show wpAny _ _ (call (Value.type _) [Value.ref _, Value.ref _]) _ _ _); k_dflt (refine call_zip_own ?_)))
local macro_rules | `(tactic| walk_at "call type:enumerate") => `(tactic| (k_here; (with_reducible show wpAny _ _ (call (Value.type _) [Value.ref _]) _ _ _); k_dflt (refine call_enum_own ?_)))
local macro_rules | `(tactic| walk_at "pyIter ref") => `(tactic| (k_here; k_dflt (refine' owit_iter ?FZq ?XZq ?IZq ?hsZq ?hfZq ?_; (case FZq => k_asm); (case XZq => k_asm); (case IZq => k_inst); (case hsZq => k_is); (case hfZq => k_is); k_whole)))
local macro_rules | `(tactic| walk_at "OwitIt") => `(tactic| (k_here; k_dflt (refine' owit_li ?NZq ?iZq ?_; (case NZq => k_asm); (case iZq => k_mem); k_whole)))
local macro_rules | `(tactic| walk_at "call builtin:iter") => `(tactic| (k_here; (with_reducible show wpAny _ _ (call (Value.builtin "iter") [Value.ref _]) _ _ _); k_dflt (refine' call_iter_led ?FZq ?NZq ?lZq ?_; (case FZq => k_asm); (case NZq => k_asm); (case lZq => k_mem); k_whole); intro I' h' F' N' l1; (try k_lt l1); (try k_sweep)))
local macro_rules | `(tactic| walk_at "subscriptTail Name Slice ref ref") => `(tactic| (k_here; (with_reducible show wpAny _ _ (subscriptTail _ (PySem.Expr.Slice _ _ none _) (Value.ref _) (Value.ref _)) _ _ _); k_dflt (refine' sub_own_slice ?FZq ?XZq ?NZq ?IZq ?qZq ?hsZq ?hfZq ?hgZq ?_; (case FZq => k_asm); (case XZq => k_asm); (case NZq => k_asm); (case IZq => k_inst); (case qZq => k_is); (case hsZq => k_is); (case hfZq => k_is); (case hgZq => k_is); k_whole); intro sl' h' F' N' l1; (try k_lt l1); (try k_sweep)))
local macro_rules | `(tactic| walk_at "subscriptTail") => `(tactic| (k_here; (with_reducible show wpAny _ _ (subscriptTail _ (PySem.Expr.Name _ _) (Value.ref _) (Value.ref _)) _ _ _); k_dflt (refine' sub_list_slice ?FZq ?NZq ?lZq ?slZq ?paZq ?pbZq ?IZq ?mZq ?zZq ?_; (case FZq => k_asm); (case NZq => k_asm); (case lZq => k_mem); (case slZq => k_mem); (case paZq => kmk_part); (case pbZq => kmk_part); (case IZq => assumption); (case mZq => first | exact kmk_from_neg (by assumption) (by omega) | exact kmk_from (by assumption) (by omega) | exact kmk_upto (by assumption) (by omega) | exact kmk_upto_neg (by assumption) (by omega)); (case zZq => rw [sizeLine_eq]; omega); k_whole); intro D' ws' h' F' N' l1 hI'; (try k_lt l1); (try k_sweep)))
local macro_rules | `(tactic| walk_at "call builtin:list.extend") => `(tactic| (k_here; (with_reducible show wpAny _ _ (call (Value.builtin _) [Value.ref _, Value.ref _]) _ _ _); k_dflt (refine' ext_ints ?FZq ?NZq ?bZq ?UZq ?I1Zq ?I2Zq ?neZq ?h1Zq ?h2Zq ?_; (case FZq => k_asm); (case NZq => k_asm); (case bZq => k_mem); (case UZq => k_upd); (case I1Zq => assumption); (case I2Zq => assumption); (case neZq => (try simp only [List.length_drop]); omega); (case h1Zq => omega); (case h2Zq => (try simp only [List.length_drop]); omega); k_whole); intro vs' h' F' eX' N' hI'; (try rw [← eX'] at N'); clear eX'; (try k_sweep)))
local macro_rules | `(tactic| walk_at "call builtin:list.append") => `(tactic| (k_here; (with_reducible show wpAny _ _ (call (Value.builtin _) [Value.ref _, Value.int _ _]) _ _ _); k_dflt (refine' app_ints ?FZq ?NZq ?UZq ?I1Zq ?h1Zq ?_; (case FZq => k_asm); (case NZq => k_asm); (case UZq => k_upd); (case I1Zq => first | assumption | exact IntsAre.nil); (case h1Zq => first | omega | ((simp only [List.length_append, List.length_cons, List.length_nil]); omega)); k_whole); intro vs' h' F' eX' N' hI'; (try rw [← eX'] at N'); clear eX'; (try k_sweep)))

local macro_rules | `(tactic| walk_at "call ref") => `(tactic| (k_here; (with_reducible show wpAny _ _ (call (Value.ref 144) [Value.ref _, Value.int _ _]) _ _ _); k_dflt (refine' poly_c ?BZq ?FZq ?KZq ?NZq ?TZq ?kZq ?dZq ?uZq ?IZq ?pZq ?lZq ?sZq ?zZq ?_; (case BZq => k_asm); (case FZq => k_asm); (case KZq => k_asm); (case NZq => refine' news_cons ?NmZq ?NnZq ?NrZq; (case NnZq => k_asm); (case NrZq => k_asm); (case NmZq => k_mem)); (case TZq => k_asm); (case kZq => first | exact rfl | assumption); (case dZq => ktr_room); (case uZq => ktr_units); (case IZq => assumption); (case pZq => first | assumption | omega | ((simp only [List.length_append, List.length_drop, List.length_map, List.length_take]); omega)); (case lZq => first | assumption | omega | ((simp only [List.length_append, List.length_drop, List.length_map, List.length_take]); omega)); (case sZq => omega); (case zZq => omega); k_whole); intro x9 d9 l9 vs9 hs9 t9 h9 tk9 F9 N9 I9 o1 o2 o3; (try simp only [AllLt, and_true] at o1); (repeat (have hA := And.left o1; replace o1 := And.right o1)); (try simp only [Int.toNat_zero, List.replicate_zero, List.append_nil] at I9); (try dsimp only); (try k_sweep); walk_say "CONTRACT poly"))

local macro_rules | `(tactic| walk_at "call ref") => `(tactic| (k_here; (with_reducible show wpAny _ _ (call (Value.ref 266) [Value.ref _, Value.bool _]) _ _ _); k_dflt (refine' putbit_d ?BZq ?FZq ?KZq ?NZq ?bZq ?l1Zq ?U1Zq ?U2Zq ?TZq ?kZq ?dZq ?uZq ?a1Zq ?a2Zq ?a3Zq ?IZq ?lZq ?zZq ?yZq ?qZq ?_; (case BZq => k_asm); (case FZq => k_asm); (case KZq => k_asm); (case NZq => k_asm); (case bZq => k_mem); (case U1Zq => k_updF); (case l1Zq => k_mem); (case U2Zq => (intro o9; (try dsimp only); k_updF)); (case TZq => k_asm); (case kZq => first | exact rfl | assumption); (case dZq => ktr_room); (case uZq => ktr_units); (case a1Zq => k_ne); (case a2Zq => k_ne); (case a3Zq => k_ne); (case IZq => assumption); (case lZq => omega); (case zZq => first | assumption | omega); (case yZq => omega); (case qZq => first | assumption | omega); k_whole); intro vs9 zs9 n9 t9 h9 tk9 F9 N9 I9 e9 q9 l9 p9; (try dsimp only at N9); (try dsimp only); (try k_sweep); walk_say "CONTRACT putbit"))

local macro_rules | `(tactic| walk_at "UnrEnd") => `(tactic| (k_here; refine' unr_head ?FZq ?NZq ?oZq ?_; (case FZq => k_asm); (case NZq => k_asm); (case oZq => k_all); k_whole))

local macro_rules | `(tactic| walk_at "call ref") => `(tactic| (k_here; (with_reducible show wpAny _ _ (call (Value.ref 252) [Value.ref _, Value.int _ _, Value.int 8 _]) _ _ _); k_dflt (refine' put_d ?BZq ?FZq ?KZq ?NZq ?bZq ?l1Zq ?U1Zq ?U2Zq ?TZq ?kZq ?dZq ?uZq ?a1Zq ?a2Zq ?a3Zq ?IZq ?lZq ?eZq ?n0Zq ?n1Zq ?_; (case BZq => k_asm); (case FZq => k_asm); (case KZq => k_asm); (case NZq => k_asm); (case bZq => k_mem); (case U1Zq => k_updF); (case l1Zq => k_mem); (case U2Zq => (intro o9; (try dsimp only); k_updF)); (case TZq => k_asm); (case kZq => first | exact rfl | assumption); (case dZq => ktr_room); (case uZq => ktr_units); (case a1Zq => k_ne); (case a2Zq => k_ne); (case a3Zq => k_ne); (case IZq => with_reducible assumption); (case lZq => omega); (case eZq => first | with_reducible assumption | omega); (case n0Zq => omega); (case n1Zq => omega); k_whole); intro vs9 len9 n9 t9 h9 tk9 F9 N9 I9 e9; (try dsimp only at N9); (try dsimp only); (try k_sweep); walk_say "CONTRACT put"))

local macro_rules | `(tactic| walk_at "call ref") => `(tactic| (k_here; (with_reducible show wpAny _ _ (call (Value.ref 136) [Value.ref _, Value.ref _]) (PySem.W.CmpBack _) _ _); k_dflt (refine' mul_d ?BZq ?FZq ?KZq ?NZq ?m1Zq ?m2Zq ?m3Zq ?m4Zq ?m5Zq ?m6Zq ?TZq ?kZq ?I1Zq ?I2Zq ?l1Zq ?l2Zq ?p1Zq ?p2Zq ?r1Zq ?r2Zq ?dZq ?uZq ?_; (case BZq => k_asm); (case FZq => k_asm); (case KZq => k_asm); (case NZq => k_asm); (case m1Zq => k_mem); (case m2Zq => k_mem); (case m3Zq => k_mem); (case m4Zq => k_mem); (case m5Zq => k_mem); (case m6Zq => k_mem); (case TZq => k_asm); (case kZq => first | exact rfl | assumption); (case I1Zq => with_reducible assumption); (case I2Zq => with_reducible assumption); (case l1Zq => omega); (case l2Zq => omega); (case p1Zq => omega); (case p2Zq => omega); (case r1Zq => with_reducible assumption); (case r2Zq => with_reducible assumption); (case dZq => ktr_room); (case uZq => ktr_units); k_whole); intro x9 d9 l9 vs9 hs9 t9 h9 tk9 F9 N9 I9; dsimp only [PySem.W.CmpBack]; (try dsimp only); (try k_sweep); walk_say "CONTRACT mul"))
local macro_rules | `(tactic| walk_at "call ref") => `(tactic| (k_here; (with_reducible show wpAny _ _ (call (Value.ref 141) [Value.ref _, Value.ref _]) (PySem.W.CmpBack _) _ _); k_dflt (refine' mod_d (k := 38) ?BZq ?FZq ?KZq ?NZq ?m1Zq ?m2Zq ?m3Zq ?m4Zq ?m5Zq ?m6Zq ?TZq ?kZq ?I1Zq ?I2Zq ?l1Zq ?l2Zq ?p1Zq ?p2Zq ?qZq ?r1Zq ?r2Zq ?zZq ?dZq ?uZq ?_; (case BZq => k_asm); (case FZq => k_asm); (case KZq => k_asm); (case NZq => k_asm); (case m1Zq => k_mem); (case m2Zq => k_mem); (case m3Zq => k_mem); (case m4Zq => k_mem); (case m5Zq => k_mem); (case m6Zq => k_mem); (case TZq => k_asm); (case kZq => first | exact rfl | assumption); (case I1Zq => with_reducible assumption); (case I2Zq => with_reducible assumption); (case l1Zq => omega); (case l2Zq => omega); (case p1Zq => omega); (case p2Zq => omega); (case qZq => omega); (case r1Zq => with_reducible assumption); (case r2Zq => with_reducible assumption); (case zZq => with_reducible assumption); (case dZq => ktr_room); (case uZq => ktr_units); k_whole); intro x9 d9 l9 vs9 hs9 t9 k9 n9 h9 tk9 F9 N9 I9; dsimp only [PySem.W.CmpBack]; (try dsimp only); (try k_sweep); walk_say "CONTRACT mod"))

local macro_rules | `(tactic| walk_at "getMethod type:tuple") => `(tactic| (k_here; refine' method_type ?FZq ?XZq ?mZq (by decide +kernel) ?eZq ?hZq ?_; (case FZq => k_asm); (case XZq => k_asm); (case mZq => first | exact rfl | kernel_rfl); (case eZq => k_dflt k_is); (case hZq => k_handed)))
local macro_rules | `(tactic| walk_at "call builtin:tuple.__new__") => `(tactic| (k_here; (refine' tuple_childN (C := 216) ?FZq ?NZq ?XZq ?mZq ?oZq ?e2Zq ?lZq ?bZq ?sZq ?iZq ?tcZq ?tdZq ?szZq ?_; (case FZq => k_asm); (case NZq => k_asm); (case XZq => k_asm); (case mZq => k_mem); (case oZq => exact rfl); (case e2Zq => exact rfl); (case lZq => exact rfl); (case bZq => exact rfl); (case sZq => exact rfl); (case iZq => first | k_is | kernel_rfl); (case tcZq => exact rfl); (case tdZq => exact rfl); (case szZq => (rw [sizeLine_eq]; exact Nat.le_of_ble_eq_true rfl)); k_whole); intro x' dx' h' F' N' l1 o1; (try k_lt l1); (try k_sweep)))

local macro_rules | `(tactic| walk_at "getAttr ref") => `(tactic| (k_here; (with_reducible show wpAny _ _ (getAttr (Value.ref _) (PySem.Str.ofString "data_count") _) _ _ _); k_dflt (refine' fld_d ?BZq ?FZq ?KZq ?NZq ?mxZq ?mdZq ?TZq ?kZq ?dZq ?uZq ?_; (case BZq => k_asm); (case FZq => k_asm); (case KZq => k_asm); (case NZq => k_asm); (case mxZq => k_mem); (case mdZq => k_mem); (case TZq => k_asm); (case kZq => first | exact rfl | assumption); (case dZq => ktr_room); (case uZq => ktr_units); k_whole); intro t9 h9 tk9 F9 N9; (try dsimp only); (try k_sweep); walk_say "CONTRACT data_count"))
local macro_rules | `(tactic| walk_at "getAttr ref") => `(tactic| (k_here; (with_reducible show wpAny _ _ (getAttr (Value.ref _) (PySem.Str.ofString "total_count") _) _ _ _); k_dflt (refine' fldt_d ?BZq ?FZq ?KZq ?NZq ?mxZq ?mdZq ?TZq ?kZq ?dZq ?uZq ?_; (case BZq => k_asm); (case FZq => k_asm); (case KZq => k_asm); (case NZq => k_asm); (case mxZq => k_mem); (case mdZq => k_mem); (case TZq => k_asm); (case kZq => first | exact rfl | assumption); (case dZq => ktr_room); (case uZq => ktr_units); k_whole); intro t9 h9 tk9 F9 N9; (try dsimp only); (try k_sweep); walk_say "CONTRACT total_count"))
local macro_rules | `(tactic| walk_at "call ref") => `(tactic| (k_here; (with_reducible show wpAny _ _ (call (Value.ref 216) [Value.int _ _, Value.int _ _]) _ _ _); k_dflt (refine' rsb_c ?BZq ?FZq ?KZq ?NZq ?TZq ?kZq ?dZq ?uZq ?_; (case BZq => k_asm); (case FZq => k_asm); (case KZq => k_asm); (case NZq => k_asm); (case TZq => k_asm); (case kZq => first | exact rfl | assumption); (case dZq => ktr_room); (case uZq => ktr_units); k_whole); intro x9 d9 h9 tk9 F9 N9 o1 o2; (try simp only [AllLt, and_true] at o1); (repeat (have hA := And.left o1; replace o1 := And.right o1)); (try dsimp only); (try k_sweep); walk_say "CONTRACT RSBlock"))

local macro_rules | `(tactic| walk_at "call ref") => `(tactic| (k_here; (with_reducible show wpAny _ _ (call (Value.ref 144) [Value.ref 23, Value.int _ _]) _ _ _); k_dflt (refine' poly7_c ?BZq ?FZq ?KZq ?NZq ?TZq ?kZq ?dZq ?uZq ?_; (case BZq => k_asm); (case FZq => k_asm); (case KZq => k_asm); (case NZq => k_asm); (case TZq => k_asm); (case kZq => first | exact rfl | assumption); (case dZq => ktr_room); (case uZq => ktr_units); k_whole); intro x9 d9 l9 vs9 hs9 t9 h9 tk9 F9 N9 I9 o1 o2 o3; (try simp only [AllLt, and_true] at o1); (repeat (have hA := And.left o1; replace o1 := And.right o1)); (try dsimp only); (try k_sweep); walk_say "CONTRACT poly7"))

local macro_rules | `(tactic| walk_at "subscriptTail") => `(tactic| (k_here; (with_reducible show wpAny _ _ (subscriptTail (PySem.Expr.List _ _) (PySem.Expr.Slice (some _) none none _) (Value.ref _) (Value.ref _)) _ _ _); k_dflt (refine' sub_disp_slice (vs := [_, _, _]) ?FZq ?NZq ?lZq ?paZq ?pbZq ?IZq ?mZq ?zZq ?_ ?sZq; (case FZq => k_asm); (case NZq => k_asm); (case lZq => k_mem); (case paZq => kmk_part); (case pbZq => kmk_part); (case IZq => exact .cons _ _ (.cons _ _ (.cons _ _ .nil))); (case mZq => exact kmk_from (.cons _ _ (.cons _ _ (.cons _ _ .nil))) (by omega)); (case zZq => (rw [sizeLine_eq]; exact Nat.le_of_ble_eq_true rfl)); (case sZq => with_unfolding_all rfl); k_whole); intro D' ws' h' F' N' l1 hI'; (try k_lt l1); (try k_sweep)))
local macro_rules | `(tactic| walk_at "subscriptTail") => `(tactic| (k_here; (with_reducible show wpAny _ _ (subscriptTail (PySem.Expr.List _ _) (PySem.Expr.Slice (some _) none none _) (Value.ref _) (Value.ref _)) _ _ _); k_dflt (refine' sub_disp_slice (vs := [_]) ?FZq ?NZq ?lZq ?paZq ?pbZq ?IZq ?mZq ?zZq ?_ ?sZq; (case FZq => k_asm); (case NZq => k_asm); (case lZq => k_mem); (case paZq => kmk_part); (case pbZq => kmk_part); (case IZq => exact .cons _ _ .nil); (case mZq => exact kmk_from (.cons _ _ .nil) (by omega)); (case zZq => (rw [sizeLine_eq]; exact Nat.le_of_ble_eq_true rfl)); (case sZq => with_unfolding_all rfl); k_whole); intro D' ws' h' F' N' l1 hI'; (try k_lt l1); (try k_sweep)))
local macro_rules | `(tactic| walk_at "subscriptTail") => `(tactic| (k_here; (with_reducible show wpAny _ _ (subscriptTail _ _ (Value.ref _) (Value.int _ _)) _ _ _); k_dflt (refine' led_item ?NZq ?lZq ?iZq ?aZq ?bZq ?cZq ?_ ?dZq; (case NZq => k_asm); (case lZq => k_mem); (case iZq => with_reducible assumption); (case aZq => omega); (case bZq => omega); (case cZq => omega); (case dZq => with_unfolding_all rfl); k_whole); intro tE))
local macro_rules | `(tactic| walk_at "subscriptTail") => `(tactic| (k_here; (with_reducible show wpAny _ _ (subscriptTail _ (PySem.Expr.Slice none (some _) none _) (Value.ref _) (Value.ref _)) _ _ _); k_dflt (refine' sub_disp_slice ?FZq ?NZq ?lZq ?paZq ?pbZq ?IZq ?mZq ?zZq ?_ ?sZq; (case FZq => k_asm); (case NZq => k_asm); (case lZq => k_mem); (case paZq => kmk_part); (case pbZq => kmk_part); (case IZq => with_reducible assumption); (case mZq => exact kmk_upto (by with_reducible assumption) (by omega)); (case zZq => (rw [sizeLine_eq]; omega)); (case sZq => with_unfolding_all rfl); k_whole); intro D' ws' h' F' N' l1 hI'; (try k_lt l1); (try k_sweep)))

local macro_rules | `(tactic| walk_at "call ref") => `(tactic| (k_here; (with_reducible show wpAny _ _ (call (Value.ref 285) []) _ _ _); k_dflt (refine' lfield_c ?BZq ?FZq ?KZq ?NZq ?TZq ?kZq ?dZq ?uZq ?_; (case BZq => k_asm); (case FZq => k_asm); (case KZq => k_asm); (case NZq => k_asm); (case TZq => k_asm); (case kZq => first | exact rfl | assumption); (case dZq => ktr_room); (case uZq => ktr_units); k_whole); intro T9 p9 e9 vs9 n9 ws9 k9 h9 tk9 F9 N9 I9 J9 l9 l91 l92; (try simp only [AllLt, and_true] at l9 l91 l92); (try k_sweep); walk_say "CONTRACT field"))
section
local macro_rules | `(tactic| walk_at "subscriptTail") => `(tactic| (k_here; (with_reducible show wpAny _ _ (subscriptTail _ _ (Value.ref _) (Value.int (Int.fmod _ 255) _)) _ _ _); k_dflt (refine' led_item (ns := List.take 255 expL) ?NZq ?lZq ?iZq ?aZq ?bZq ?cZq ?_ ?dZq; (case NZq => k_asm); (case lZq => k_mem); (case iZq => with_reducible assumption); (case aZq => exact Int.fmod_nonneg_of_pos _ (by decide)); (case bZq => (rw [expT_len]; exact Int.fmod_lt_of_pos _ (by decide))); (case cZq => (rw [expT_len]; decide)); (case dZq => with_unfolding_all rfl); k_whole); intro tE))
local macro_rules | `(tactic| walk_at "subscriptTail") => `(tactic| (k_here; (with_reducible show wpAny _ _ (subscriptTail (PySem.Expr.Name (Str.ofString "exponents") _) _ (Value.ref _) (Value.int _ _)) _ _ _); k_dflt (refine' led_item (ns := logL) ?NZq ?lZq ?iZq ?aZq ?bZq ?cZq ?_ ?dZq; (case NZq => k_asm); (case lZq => k_mem); (case iZq => with_reducible assumption); (case aZq => omega); (case bZq => (rw [logL_len]; omega)); (case cZq => (rw [logL_len]; decide)); (case dZq => with_unfolding_all rfl); k_whole); intro tE))
theorem ltimes_c {w : World} {p : Program} {loose : List Str} {mean : ExcName → Option Value} {mg mb : Str → Option Value}
  {dp un : Nat} {gd : Option (List Code)} {cn : Str} {cs : Scope} {a : Addr} {ccd : Value} {cl : List (Str × Addr)} {outer : List Env} {A₀ : Around} {base h₀ : Heap} {L : Addr} {m : Str → Option Value} {s : Shared} {Q E : Value → Shared → Prop}
  {big : List (Addr × Obj)} {T px e : Addr} {vs ws : List Value} {n k nt : Nat} {x q : Int} {t u : Tok}
  (hB : Below A₀ base outer h₀) (hF : Fr h₀ L s.heap m) (hK : (hd.heap_39 w.params).In h₀) (hN : News h₀ L s.heap big) (hT : Top p loose mean mg mb h₀) (hk : cs.kind = .function)
  (m1 : (T, ({ cls := .type "tuple", data := .seq #[.ref px, .ref e] nt } : Obj)) ∈ big) (m2 : (px, listOf (List.toArray vs) n) ∈ big) (m3 : (e, listOf (List.toArray ws) k) ∈ big) (I1 : IntsAre vs (expL.take 255)) (I2 : IntsAre ws logL)
  (hdp : dp + 4 < recursionLimit) (hun : un + 20 < cLine) (h0 : 0 ≤ x) (h1 : x < 256)
  (hret : ∀ t h' tk', Fr h₀ L h' m → News h₀ L h' big → Q (.int (timesI x q) t) { s with heap := h', toks := tk' }) :
  wpAny (model PySem.Challenge.pw_bq0024_01 w) (ktrTop dp un gd cn cs L a ccd cl outer) (call (.ref 292) [.int x t, .int q u, .ref T]) Q E s := by
  have hN2 := news_cons m1 hN (news_cons m2 hN (news_cons m3 hN hN))
  clear hN m1 m2 m3
  k_steps
  all_goals (rename Fr h₀ L _ _ => kF; rename News h₀ L _ _ => kN)
  · rw [tabs_times (by assumption)]
    exact hret _ _ _ kF (fun p hp => kN p (by k_ownIn))
  · have e0 : timesI x q = 0 := by unfold timesI; rw [if_neg (by assumption)]
    rw [e0] at hret
    exact hret _ _ _ kF (fun p hp => kN p (by k_ownIn))
end
local macro_rules | `(tactic| walk_at "call ref") => `(tactic| (k_here; (with_reducible show wpAny _ _ (call (Value.ref 292) [Value.int _ _, Value.int _ _, Value.ref _]) _ _ _); k_dflt (refine' ltimes_c ?BZq ?FZq ?KZq ?NZq ?TZq ?kZq ?m1Zq ?m2Zq ?m3Zq ?I1Zq ?I2Zq ?dZq ?uZq ?h0Zq ?h1Zq ?_; (case BZq => k_asm); (case FZq => k_asm); (case KZq => k_asm); (case NZq => k_asm); (case TZq => k_asm); (case kZq => first | exact rfl | assumption); (case m1Zq => k_mem); (case m2Zq => k_mem); (case m3Zq => k_mem); (case I1Zq => with_reducible assumption); (case I2Zq => with_reducible assumption); (case dZq => ktr_room); (case uZq => ktr_units); (case h0Zq => omega); (case h1Zq => omega); k_whole); intro t9 h9 tk9 F9 N9; (try k_sweep); walk_say "CONTRACT times"))
end
section
local macro_rules | `(tactic| walk_at "pad 0") => `(tactic| skip)
local macro_rules | `(tactic| walk_at "pad 1") => `(tactic| skip)
local macro_rules | `(tactic| walk_at "pad 2") => `(tactic| skip)
local macro_rules | `(tactic| walk_at "pad 3") => `(tactic| skip)
local macro_rules | `(tactic| walk_at "pad 4") => `(tactic| skip)
local macro_rules | `(tactic| walk_at "pad 5") => `(tactic| skip)
local macro_rules | `(tactic| walk_at "pad 6") => `(tactic| skip)
theorem fillNow_l1r : (PySem.Challenge.rw_bq0024_01 = PySem.Challenge.rw_bq0024_01) ∧ (hd.heap_39 = hd.heap_39) := by
  w_top off
  k_fill
  exact ⟨rfl, rfl⟩

local macro_rules | `(tactic| k_room) => `(tactic| ktr_room)
local macro_rules | `(tactic| k_lt $h:ident) => `(tactic| (replace $h := allLt_of $h; simp only [AllLt, and_true] at $h:ident; repeat (have hA := And.left $h; replace $h := And.right $h)))
local macro_rules | `(tactic| k_ne) => `(tactic| first | with_reducible assumption | (refine Ne.symm ?_; with_reducible assumption) | (refine Nat.ne_of_lt ?_; with_reducible assumption) | (refine Nat.ne_of_gt ?_; with_reducible assumption))
local macro_rules | `(tactic| k_all) => `(tactic| ((fail_if_success (refine' List.forall_mem_cons.mpr ⟨?tailNg, ?tailNh⟩)); rename AllLt _ _ => hAL; first | (refine allLt_ne hAL ?_; (try dsimp only); first | exact Nat.le_refl _ | (refine Nat.le_of_lt ?_; with_reducible assumption)) | (clear hAL; k_all) | (refine allLt_ne hAL ?_; (try dsimp only); omega)))
local macro_rules | `(tactic| k_all) => `(tactic| ((fail_if_success (refine' List.forall_mem_cons.mpr ⟨?tailNe, ?tailNf⟩)); with_reducible assumption))
local macro_rules | `(tactic| k_all) => `(tactic| (with_reducible refine all_append ?_ ?_ <;> k_all))
local macro_rules | `(tactic| k_all) => `(tactic| first | exact List.forall_mem_nil _ | (refine' List.forall_mem_cons.mpr ⟨?caZq, ?cbZq⟩; (case caZq => k_ne); (case cbZq => k_all)))
local macro_rules | `(tactic| k_units) => `(tactic| ktr_units)
local macro_rules | `(tactic| k_enter) => `(tactic| (refine' code_defC ?k1 ?k2 ?k3 ?k4 ?k5 ?kAZq ?kFZq ?kKZq ?k6 ?k7 ?k8 ?k9 ?kBZq ?kDZq ?_ ?c2 ?c3 ?c4; (case kAZq => exact rfl); (case kFZq => exact rfl); (case kKZq => first | exact rfl | assumption); (case k1 => k_asm); (case k2 => k_asm); (case k3 => k_asm); (case k4 => k_asm); (case k5 => k_asm); (case k6 => k_is); (case k7 => k_is); (case k8 => ktr_room); (case k9 => exact BindsTo.of_eq rfl); (case kBZq => exact rfl); (case kDZq => decide +kernel); (case c2 => exact rfl); (case c3 => exact rfl); (case c4 => exact rfl); k_whole; intro g' L' h' tk' cells' FG' F' N' Y' B' X' T' l1; (try k_lt l1); k_cells Y'; (try simp only [List.cons_append, List.nil_append] at N'); (try dsimp only); (try k_lift B'); (try k_fold)))
local macro_rules | `(tactic| k_enter) => `(tactic| cell_enter)
local macro_rules | `(tactic| walk_at "subscriptTail") => `(tactic| (k_here; (with_reducible show wpAny _ _ (subscriptTail _ _ (Value.ref 79) (Value.int _ _)) _ _ _); k_dflt (refine' topItemI (ns := expL) ?FZq ?XZq ?lZq ?iZq ?aZq ?bZq ?dZq ?_; (case FZq => k_asm); (case XZq => k_asm); (case lZq => k_is); (case iZq => exact intsB_of (by decide +kernel)); (case aZq => (try simp only [expL_len]); omega); (case bZq => (try simp only [expL_len]); omega); (case dZq => (try simp only [expL_len]); omega); k_whole); intro tE))
local macro_rules | `(tactic| walk_at "subscriptTail") => `(tactic| (k_here; (with_reducible show wpAny _ _ (subscriptTail _ _ (Value.ref 80) (Value.int _ _)) _ _ _); k_dflt (refine' topItemI (ns := logL) ?FZq ?XZq ?lZq ?iZq ?aZq ?bZq ?dZq ?_; (case FZq => k_asm); (case XZq => k_asm); (case lZq => k_is); (case iZq => exact intsB_of (by decide +kernel)); (case aZq => (try simp only [logL_len]); omega); (case bZq => (try simp only [logL_len]); omega); (case dZq => (try simp only [logL_len]); omega); k_whole); intro tE))


local macro_rules | `(tactic| walk_at "call ref") => `(tactic| (k_here; (with_reducible show wpAny _ _ (call (Value.ref 94) [Value.int _ _]) _ _ _); k_dflt (refine' gexp_c ?BZq ?FZq ?KZq ?NZq ?TZq ?kZq ?dZq ?uZq ?_; (case BZq => k_asm); (case FZq => k_asm); (case KZq => k_asm); (case NZq => k_asm); (case TZq => k_asm); (case kZq => first | exact rfl | assumption); (case dZq => ktr_room); (case uZq => ktr_units); k_whole); intro t9 h9 tk9 F9 N9; (try dsimp only); (try k_sweep); walk_say "CONTRACT gexp"))
local macro_rules | `(tactic| walk_at "call ref") => `(tactic| (k_here; (with_reducible show wpAny _ _ (call (Value.ref 87) [Value.int _ _]) _ _ _); k_dflt (refine' glog_c ?BZq ?FZq ?KZq ?NZq ?TZq ?kZq ?dZq ?uZq ?xZq ?yZq ?_; (case BZq => k_asm); (case FZq => k_asm); (case KZq => k_asm); (case NZq => k_asm); (case TZq => k_asm); (case kZq => first | exact rfl | assumption); (case dZq => ktr_room); (case uZq => ktr_units); (case xZq => first | assumption | omega); (case yZq => first | assumption | omega); k_whole); intro t9 h9 tk9 F9 N9; (try dsimp only); (try k_sweep); walk_say "CONTRACT glog"))
local macro_rules | `(tactic| walk_at "subscriptTail Name Slice ref ref") => `(tactic| (k_here; (with_reducible show wpAny _ _ (subscriptTail _ (PySem.Expr.Slice (some _) none none _) (Value.ref _) (Value.ref _)) _ _ _); k_dflt (refine' kmk_slice_ints ?FZq ?NZq ?lZq ?pZq ?qZq ?iZq ?mZq ?cZq ?_ ?sZq ?tZq ?zZq; (case FZq => k_asm); (case NZq => k_asm); (case lZq => kmk_list); (case pZq => kmk_part); (case qZq => kmk_part); (case iZq => assumption); (case mZq => exact kmk_from (by assumption) (by omega)); (case cZq => exact rfl); (case sZq => with_unfolding_all rfl); (case tZq => kmk_pure); (case zZq => simp only [List.size_toArray, sizeLine_eq, IntsAre.length (by assumption)]; omega)); intro D' ws' h' F' N' l1 hI' hC' hL'; clear hC' hL'; (try k_lt l1); (try k_sweep)))
local macro_rules | `(tactic| walk_at "exec Assign cons ListComp") => `(tactic| (k_here; (with_reducible show wpAny _ _ (exec (Stmt.Assign [_] (PySem.Expr.ListComp _ [⟨PySem.Expr.Tuple _ _ _, _, _, _⟩] _ _) _) _) _ _ _); k_dflt (refine assign_comp_pairs (by k_asm) (by with_unfolding_all rfl) (by with_unfolding_all rfl) (by decide) (by rfl) (by decide) (by rfl) (by rfl) (by decide) (by rfl) (by rfl) ?_)))
local macro_rules | `(tactic| walk_at "call type:zip") => `(tactic| (k_here; (with_reducible show wpAny _ _ (call (Value.type _) [Value.ref _, Value.ref _]) _ _ _); k_dflt (refine call_zip_own ?_)))
local macro_rules | `(tactic| walk_at "call type:enumerate") => `(tactic| (k_here; (with_reducible show wpAny _ _ (call (Value.type _) [Value.ref _]) _ _ _); k_dflt (refine call_enum_own ?_)))
local macro_rules | `(tactic| walk_at "pyIter ref") => `(tactic| (k_here; k_dflt (refine' owit_iter ?FZq ?XZq ?IZq ?hsZq ?hfZq ?_; (case FZq => k_asm); (case XZq => k_asm); (case IZq => k_inst); (case hsZq => k_is); (case hfZq => k_is); k_whole)))
local macro_rules | `(tactic| walk_at "OwitIt") => `(tactic| (k_here; k_dflt (refine' owit_li ?NZq ?iZq ?_; (case NZq => k_asm); (case iZq => k_mem); k_whole)))
local macro_rules | `(tactic| walk_at "call builtin:iter") => `(tactic| (k_here; (with_reducible show wpAny _ _ (call (Value.builtin "iter") [Value.ref _]) _ _ _); k_dflt (refine' call_iter_led ?FZq ?NZq ?lZq ?_; (case FZq => k_asm); (case NZq => k_asm); (case lZq => k_mem); k_whole); intro I' h' F' N' l1; (try k_lt l1); (try k_sweep)))
local macro_rules | `(tactic| walk_at "subscriptTail Name Slice ref ref") => `(tactic| (k_here; (with_reducible show wpAny _ _ (subscriptTail _ (PySem.Expr.Slice _ _ none _) (Value.ref _) (Value.ref _)) _ _ _); k_dflt (refine' sub_own_slice ?FZq ?XZq ?NZq ?IZq ?qZq ?hsZq ?hfZq ?hgZq ?_; (case FZq => k_asm); (case XZq => k_asm); (case NZq => k_asm); (case IZq => k_inst); (case qZq => k_is); (case hsZq => k_is); (case hfZq => k_is); (case hgZq => k_is); k_whole); intro sl' h' F' N' l1; (try k_lt l1); (try k_sweep)))
local macro_rules | `(tactic| walk_at "subscriptTail") => `(tactic| (k_here; (with_reducible show wpAny _ _ (subscriptTail _ (PySem.Expr.Name _ _) (Value.ref _) (Value.ref _)) _ _ _); k_dflt (refine' sub_list_slice ?FZq ?NZq ?lZq ?slZq ?paZq ?pbZq ?IZq ?mZq ?zZq ?_; (case FZq => k_asm); (case NZq => k_asm); (case lZq => k_mem); (case slZq => k_mem); (case paZq => kmk_part); (case pbZq => kmk_part); (case IZq => assumption); (case mZq => first | exact kmk_from_neg (by assumption) (by omega) | exact kmk_from (by assumption) (by omega) | exact kmk_upto (by assumption) (by omega) | exact kmk_upto_neg (by assumption) (by omega)); (case zZq => rw [sizeLine_eq]; omega); k_whole); intro D' ws' h' F' N' l1 hI'; (try k_lt l1); (try k_sweep)))
local macro_rules | `(tactic| walk_at "call builtin:list.extend") => `(tactic| (k_here; (with_reducible show wpAny _ _ (call (Value.builtin _) [Value.ref _, Value.ref _]) _ _ _); k_dflt (refine' ext_ints ?FZq ?NZq ?bZq ?UZq ?I1Zq ?I2Zq ?neZq ?h1Zq ?h2Zq ?_; (case FZq => k_asm); (case NZq => k_asm); (case bZq => k_mem); (case UZq => k_upd); (case I1Zq => assumption); (case I2Zq => assumption); (case neZq => (try simp only [List.length_drop]); omega); (case h1Zq => omega); (case h2Zq => (try simp only [List.length_drop]); omega); k_whole); intro vs' h' F' eX' N' hI'; (try rw [← eX'] at N'); clear eX'; (try k_sweep)))
local macro_rules | `(tactic| walk_at "call builtin:list.append") => `(tactic| (k_here; (with_reducible show wpAny _ _ (call (Value.builtin _) [Value.ref _, Value.int _ _]) _ _ _); k_dflt (refine' app_ints ?FZq ?NZq ?UZq ?I1Zq ?h1Zq ?_; (case FZq => k_asm); (case NZq => k_asm); (case UZq => k_upd); (case I1Zq => first | assumption | exact IntsAre.nil); (case h1Zq => first | omega | ((simp only [List.length_append, List.length_cons, List.length_nil]); omega)); k_whole); intro vs' h' F' eX' N' hI'; (try rw [← eX'] at N'); clear eX'; (try k_sweep)))

local macro_rules | `(tactic| walk_at "call ref") => `(tactic| (k_here; (with_reducible show wpAny _ _ (call (Value.ref 144) [Value.ref _, Value.int _ _]) _ _ _); k_dflt (refine' poly_c ?BZq ?FZq ?KZq ?NZq ?TZq ?kZq ?dZq ?uZq ?IZq ?pZq ?lZq ?sZq ?zZq ?_; (case BZq => k_asm); (case FZq => k_asm); (case KZq => k_asm); (case NZq => refine' news_cons ?NmZq ?NnZq ?NrZq; (case NnZq => k_asm); (case NrZq => k_asm); (case NmZq => k_mem)); (case TZq => k_asm); (case kZq => first | exact rfl | assumption); (case dZq => ktr_room); (case uZq => ktr_units); (case IZq => assumption); (case pZq => first | assumption | omega | ((simp only [List.length_append, List.length_drop, List.length_map, List.length_take]); omega)); (case lZq => first | assumption | omega | ((simp only [List.length_append, List.length_drop, List.length_map, List.length_take]); omega)); (case sZq => omega); (case zZq => omega); k_whole); intro x9 d9 l9 vs9 hs9 t9 h9 tk9 F9 N9 I9 o1 o2 o3; (try simp only [AllLt, and_true] at o1); (repeat (have hA := And.left o1; replace o1 := And.right o1)); (try simp only [Int.toNat_zero, List.replicate_zero, List.append_nil] at I9); (try dsimp only); (try k_sweep); walk_say "CONTRACT poly"))

local macro_rules | `(tactic| walk_at "call ref") => `(tactic| (k_here; (with_reducible show wpAny _ _ (call (Value.ref 266) [Value.ref _, Value.bool _]) _ _ _); k_dflt (refine' putbit_d ?BZq ?FZq ?KZq ?NZq ?bZq ?l1Zq ?U1Zq ?U2Zq ?TZq ?kZq ?dZq ?uZq ?a1Zq ?a2Zq ?a3Zq ?IZq ?lZq ?zZq ?yZq ?qZq ?_; (case BZq => k_asm); (case FZq => k_asm); (case KZq => k_asm); (case NZq => k_asm); (case bZq => k_mem); (case U1Zq => k_updF); (case l1Zq => k_mem); (case U2Zq => (intro o9; (try dsimp only); k_updF)); (case TZq => k_asm); (case kZq => first | exact rfl | assumption); (case dZq => ktr_room); (case uZq => ktr_units); (case a1Zq => k_ne); (case a2Zq => k_ne); (case a3Zq => k_ne); (case IZq => assumption); (case lZq => omega); (case zZq => first | assumption | omega); (case yZq => omega); (case qZq => first | assumption | omega); k_whole); intro vs9 zs9 n9 t9 h9 tk9 F9 N9 I9 e9 q9 l9 p9; (try dsimp only at N9); (try dsimp only); (try k_sweep); walk_say "CONTRACT putbit"))

local macro_rules | `(tactic| walk_at "UnrEnd") => `(tactic| (k_here; refine' unr_head ?FZq ?NZq ?oZq ?_; (case FZq => k_asm); (case NZq => k_asm); (case oZq => k_all); k_whole))

local macro_rules | `(tactic| walk_at "call ref") => `(tactic| (k_here; (with_reducible show wpAny _ _ (call (Value.ref 252) [Value.ref _, Value.int _ _, Value.int 8 _]) _ _ _); k_dflt (refine' put_d ?BZq ?FZq ?KZq ?NZq ?bZq ?l1Zq ?U1Zq ?U2Zq ?TZq ?kZq ?dZq ?uZq ?a1Zq ?a2Zq ?a3Zq ?IZq ?lZq ?eZq ?n0Zq ?n1Zq ?_; (case BZq => k_asm); (case FZq => k_asm); (case KZq => k_asm); (case NZq => k_asm); (case bZq => k_mem); (case U1Zq => k_updF); (case l1Zq => k_mem); (case U2Zq => (intro o9; (try dsimp only); k_updF)); (case TZq => k_asm); (case kZq => first | exact rfl | assumption); (case dZq => ktr_room); (case uZq => ktr_units); (case a1Zq => k_ne); (case a2Zq => k_ne); (case a3Zq => k_ne); (case IZq => with_reducible assumption); (case lZq => omega); (case eZq => first | with_reducible assumption | omega); (case n0Zq => omega); (case n1Zq => omega); k_whole); intro vs9 len9 n9 t9 h9 tk9 F9 N9 I9 e9; (try dsimp only at N9); (try dsimp only); (try k_sweep); walk_say "CONTRACT put"))

local macro_rules | `(tactic| walk_at "call ref") => `(tactic| (k_here; (with_reducible show wpAny _ _ (call (Value.ref 136) [Value.ref _, Value.ref _]) (PySem.W.CmpBack _) _ _); k_dflt (refine' mul_d ?BZq ?FZq ?KZq ?NZq ?m1Zq ?m2Zq ?m3Zq ?m4Zq ?m5Zq ?m6Zq ?TZq ?kZq ?I1Zq ?I2Zq ?l1Zq ?l2Zq ?p1Zq ?p2Zq ?r1Zq ?r2Zq ?dZq ?uZq ?_; (case BZq => k_asm); (case FZq => k_asm); (case KZq => k_asm); (case NZq => k_asm); (case m1Zq => k_mem); (case m2Zq => k_mem); (case m3Zq => k_mem); (case m4Zq => k_mem); (case m5Zq => k_mem); (case m6Zq => k_mem); (case TZq => k_asm); (case kZq => first | exact rfl | assumption); (case I1Zq => with_reducible assumption); (case I2Zq => with_reducible assumption); (case l1Zq => omega); (case l2Zq => omega); (case p1Zq => omega); (case p2Zq => omega); (case r1Zq => with_reducible assumption); (case r2Zq => with_reducible assumption); (case dZq => ktr_room); (case uZq => ktr_units); k_whole); intro x9 d9 l9 vs9 hs9 t9 h9 tk9 F9 N9 I9; dsimp only [PySem.W.CmpBack]; (try dsimp only); (try k_sweep); walk_say "CONTRACT mul"))
local macro_rules | `(tactic| walk_at "call ref") => `(tactic| (k_here; (with_reducible show wpAny _ _ (call (Value.ref 141) [Value.ref _, Value.ref _]) (PySem.W.CmpBack _) _ _); k_dflt (refine' mod_d (k := 38) ?BZq ?FZq ?KZq ?NZq ?m1Zq ?m2Zq ?m3Zq ?m4Zq ?m5Zq ?m6Zq ?TZq ?kZq ?I1Zq ?I2Zq ?l1Zq ?l2Zq ?p1Zq ?p2Zq ?qZq ?r1Zq ?r2Zq ?zZq ?dZq ?uZq ?_; (case BZq => k_asm); (case FZq => k_asm); (case KZq => k_asm); (case NZq => k_asm); (case m1Zq => k_mem); (case m2Zq => k_mem); (case m3Zq => k_mem); (case m4Zq => k_mem); (case m5Zq => k_mem); (case m6Zq => k_mem); (case TZq => k_asm); (case kZq => first | exact rfl | assumption); (case I1Zq => with_reducible assumption); (case I2Zq => with_reducible assumption); (case l1Zq => omega); (case l2Zq => omega); (case p1Zq => omega); (case p2Zq => omega); (case qZq => omega); (case r1Zq => with_reducible assumption); (case r2Zq => with_reducible assumption); (case zZq => with_reducible assumption); (case dZq => ktr_room); (case uZq => ktr_units); k_whole); intro x9 d9 l9 vs9 hs9 t9 k9 n9 h9 tk9 F9 N9 I9; dsimp only [PySem.W.CmpBack]; (try dsimp only); (try k_sweep); walk_say "CONTRACT mod"))

local macro_rules | `(tactic| walk_at "getMethod type:tuple") => `(tactic| (k_here; refine' method_type ?FZq ?XZq ?mZq (by decide +kernel) ?eZq ?hZq ?_; (case FZq => k_asm); (case XZq => k_asm); (case mZq => first | exact rfl | kernel_rfl); (case eZq => k_dflt k_is); (case hZq => k_handed)))
local macro_rules | `(tactic| walk_at "call builtin:tuple.__new__") => `(tactic| (k_here; (refine' tuple_childN (C := 216) ?FZq ?NZq ?XZq ?mZq ?oZq ?e2Zq ?lZq ?bZq ?sZq ?iZq ?tcZq ?tdZq ?szZq ?_; (case FZq => k_asm); (case NZq => k_asm); (case XZq => k_asm); (case mZq => k_mem); (case oZq => exact rfl); (case e2Zq => exact rfl); (case lZq => exact rfl); (case bZq => exact rfl); (case sZq => exact rfl); (case iZq => first | k_is | kernel_rfl); (case tcZq => exact rfl); (case tdZq => exact rfl); (case szZq => (rw [sizeLine_eq]; exact Nat.le_of_ble_eq_true rfl)); k_whole); intro x' dx' h' F' N' l1 o1; (try k_lt l1); (try k_sweep)))

local macro_rules | `(tactic| walk_at "getAttr ref") => `(tactic| (k_here; (with_reducible show wpAny _ _ (getAttr (Value.ref _) (PySem.Str.ofString "data_count") _) _ _ _); k_dflt (refine' fld_d ?BZq ?FZq ?KZq ?NZq ?mxZq ?mdZq ?TZq ?kZq ?dZq ?uZq ?_; (case BZq => k_asm); (case FZq => k_asm); (case KZq => k_asm); (case NZq => k_asm); (case mxZq => k_mem); (case mdZq => k_mem); (case TZq => k_asm); (case kZq => first | exact rfl | assumption); (case dZq => ktr_room); (case uZq => ktr_units); k_whole); intro t9 h9 tk9 F9 N9; (try dsimp only); (try k_sweep); walk_say "CONTRACT data_count"))
local macro_rules | `(tactic| walk_at "getAttr ref") => `(tactic| (k_here; (with_reducible show wpAny _ _ (getAttr (Value.ref _) (PySem.Str.ofString "total_count") _) _ _ _); k_dflt (refine' fldt_d ?BZq ?FZq ?KZq ?NZq ?mxZq ?mdZq ?TZq ?kZq ?dZq ?uZq ?_; (case BZq => k_asm); (case FZq => k_asm); (case KZq => k_asm); (case NZq => k_asm); (case mxZq => k_mem); (case mdZq => k_mem); (case TZq => k_asm); (case kZq => first | exact rfl | assumption); (case dZq => ktr_room); (case uZq => ktr_units); k_whole); intro t9 h9 tk9 F9 N9; (try dsimp only); (try k_sweep); walk_say "CONTRACT total_count"))
local macro_rules | `(tactic| walk_at "call ref") => `(tactic| (k_here; (with_reducible show wpAny _ _ (call (Value.ref 216) [Value.int _ _, Value.int _ _]) _ _ _); k_dflt (refine' rsb_c ?BZq ?FZq ?KZq ?NZq ?TZq ?kZq ?dZq ?uZq ?_; (case BZq => k_asm); (case FZq => k_asm); (case KZq => k_asm); (case NZq => k_asm); (case TZq => k_asm); (case kZq => first | exact rfl | assumption); (case dZq => ktr_room); (case uZq => ktr_units); k_whole); intro x9 d9 h9 tk9 F9 N9 o1 o2; (try simp only [AllLt, and_true] at o1); (repeat (have hA := And.left o1; replace o1 := And.right o1)); (try dsimp only); (try k_sweep); walk_say "CONTRACT RSBlock"))

local macro_rules | `(tactic| walk_at "call ref") => `(tactic| (k_here; (with_reducible show wpAny _ _ (call (Value.ref 144) [Value.ref 23, Value.int _ _]) _ _ _); k_dflt (refine' poly7_c ?BZq ?FZq ?KZq ?NZq ?TZq ?kZq ?dZq ?uZq ?_; (case BZq => k_asm); (case FZq => k_asm); (case KZq => k_asm); (case NZq => k_asm); (case TZq => k_asm); (case kZq => first | exact rfl | assumption); (case dZq => ktr_room); (case uZq => ktr_units); k_whole); intro x9 d9 l9 vs9 hs9 t9 h9 tk9 F9 N9 I9 o1 o2 o3; (try simp only [AllLt, and_true] at o1); (repeat (have hA := And.left o1; replace o1 := And.right o1)); (try dsimp only); (try k_sweep); walk_say "CONTRACT poly7"))

local macro_rules | `(tactic| walk_at "subscriptTail") => `(tactic| (k_here; (with_reducible show wpAny _ _ (subscriptTail (PySem.Expr.List _ _) (PySem.Expr.Slice (some _) none none _) (Value.ref _) (Value.ref _)) _ _ _); k_dflt (refine' sub_disp_slice (vs := [_, _, _]) ?FZq ?NZq ?lZq ?paZq ?pbZq ?IZq ?mZq ?zZq ?_ ?sZq; (case FZq => k_asm); (case NZq => k_asm); (case lZq => k_mem); (case paZq => kmk_part); (case pbZq => kmk_part); (case IZq => exact .cons _ _ (.cons _ _ (.cons _ _ .nil))); (case mZq => exact kmk_from (.cons _ _ (.cons _ _ (.cons _ _ .nil))) (by omega)); (case zZq => (rw [sizeLine_eq]; exact Nat.le_of_ble_eq_true rfl)); (case sZq => with_unfolding_all rfl); k_whole); intro D' ws' h' F' N' l1 hI'; (try k_lt l1); (try k_sweep)))
local macro_rules | `(tactic| walk_at "subscriptTail") => `(tactic| (k_here; (with_reducible show wpAny _ _ (subscriptTail (PySem.Expr.List _ _) (PySem.Expr.Slice (some _) none none _) (Value.ref _) (Value.ref _)) _ _ _); k_dflt (refine' sub_disp_slice (vs := [_]) ?FZq ?NZq ?lZq ?paZq ?pbZq ?IZq ?mZq ?zZq ?_ ?sZq; (case FZq => k_asm); (case NZq => k_asm); (case lZq => k_mem); (case paZq => kmk_part); (case pbZq => kmk_part); (case IZq => exact .cons _ _ .nil); (case mZq => exact kmk_from (.cons _ _ .nil) (by omega)); (case zZq => (rw [sizeLine_eq]; exact Nat.le_of_ble_eq_true rfl)); (case sZq => with_unfolding_all rfl); k_whole); intro D' ws' h' F' N' l1 hI'; (try k_lt l1); (try k_sweep)))
local macro_rules | `(tactic| walk_at "subscriptTail") => `(tactic| (k_here; (with_reducible show wpAny _ _ (subscriptTail _ _ (Value.ref _) (Value.int _ _)) _ _ _); k_dflt (refine' led_item ?NZq ?lZq ?iZq ?aZq ?bZq ?cZq ?_ ?dZq; (case NZq => k_asm); (case lZq => k_mem); (case iZq => with_reducible assumption); (case aZq => omega); (case bZq => omega); (case cZq => omega); (case dZq => with_unfolding_all rfl); k_whole); intro tE))
local macro_rules | `(tactic| walk_at "subscriptTail") => `(tactic| (k_here; (with_reducible show wpAny _ _ (subscriptTail _ (PySem.Expr.Slice none (some _) none _) (Value.ref _) (Value.ref _)) _ _ _); k_dflt (refine' sub_disp_slice ?FZq ?NZq ?lZq ?paZq ?pbZq ?IZq ?mZq ?zZq ?_ ?sZq; (case FZq => k_asm); (case NZq => k_asm); (case lZq => k_mem); (case paZq => kmk_part); (case pbZq => kmk_part); (case IZq => with_reducible assumption); (case mZq => exact kmk_upto (by with_reducible assumption) (by omega)); (case zZq => (rw [sizeLine_eq]; omega)); (case sZq => with_unfolding_all rfl); k_whole); intro D' ws' h' F' N' l1 hI'; (try k_lt l1); (try k_sweep)))

local macro_rules | `(tactic| walk_at "call ref") => `(tactic| (k_here; (with_reducible show wpAny _ _ (call (Value.ref 285) []) _ _ _); k_dflt (refine' lfield_c ?BZq ?FZq ?KZq ?NZq ?TZq ?kZq ?dZq ?uZq ?_; (case BZq => k_asm); (case FZq => k_asm); (case KZq => k_asm); (case NZq => k_asm); (case TZq => k_asm); (case kZq => first | exact rfl | assumption); (case dZq => ktr_room); (case uZq => ktr_units); k_whole); intro T9 p9 e9 vs9 n9 ws9 k9 h9 tk9 F9 N9 I9 J9 l9 l91 l92; (try simp only [AllLt, and_true] at l9 l91 l92); (try k_sweep); walk_say "CONTRACT field"))

local macro_rules | `(tactic| walk_at "call ref") => `(tactic| (k_here; (with_reducible show wpAny _ _ (call (Value.ref 292) [Value.int _ _, Value.int _ _, Value.ref _]) _ _ _); k_dflt (refine' ltimes_c ?BZq ?FZq ?KZq ?NZq ?TZq ?kZq ?m1Zq ?m2Zq ?m3Zq ?I1Zq ?I2Zq ?dZq ?uZq ?h0Zq ?h1Zq ?_; (case BZq => k_asm); (case FZq => k_asm); (case KZq => k_asm); (case NZq => k_asm); (case TZq => k_asm); (case kZq => first | exact rfl | assumption); (case m1Zq => k_mem); (case m2Zq => k_mem); (case m3Zq => k_mem); (case I1Zq => with_reducible assumption); (case I2Zq => with_reducible assumption); (case dZq => ktr_room); (case uZq => ktr_units); (case h0Zq => omega); (case h1Zq => omega); k_whole); intro t9 h9 tk9 F9 N9; (try k_sweep); walk_say "CONTRACT times"))
section
local macro_rules | `(tactic| walk_at "pyIter ref") => `(tactic| refine pause ?_)
local macro_rules | `(tactic| walk_at "exec For") => `(tactic| (k_here; (with_reducible show wpAny _ _ (exec (Stmt.For (PySem.Expr.Name (Str.ofString "octet") _) _ _ _ _) _) _ _ _); refine pause ?_))
local macro_rules | `(tactic| walk_at "call ref") => `(tactic| (k_here; (with_reducible show wpAny _ _ (call (Value.ref 278) [Value.ref _, Value.ref _]) _ _ _); refine pause ?_))
local macro_rules | `(tactic| walk_at "call builtin:len") => `(tactic| (k_here; (with_reducible show wpAny _ _ (call _ [Value.ref _]) _ _ _); k_dflt (refine' led_len ?NZq ?lZq ?iZq ?cZq ?_; (case NZq => k_asm); (case lZq => k_mem); (case iZq => with_reducible assumption); (case cZq => omega); k_whole); intro tE tkE))
theorem lrow_c {w : World} {p : Program} {loose : List Str} {mean : ExcName → Option Value} {mg mb : Str → Option Value}
  {dp un : Nat} {gd : Option (List Code)} {cn : Str} {cs : Scope} {a : Addr} {ccd : Value} {cl : List (Str × Addr)} {outer : List Env} {A₀ : Around} {base h₀ : Heap} {L : Addr} {m : Str → Option Value} {s : Shared} {Q E : Value → Shared → Prop}
  {big : List (Addr × Obj)} {lf : Addr} {vs : List Value} {ns : List Int} {n M : Nat} {mm : Int} {u : Tok}
  (hB : Below A₀ base outer h₀) (hF : Fr h₀ L s.heap m) (hK : (hd.heap_39 w.params).In h₀) (hN : News h₀ L s.heap big) (hT : Top p loose mean mg mb h₀) (hk : cs.kind = .function)
  (m1 : (lf, listOf (List.toArray vs) n) ∈ big) (hI : IntsAre vs ns)
  (hdp : dp + 210 < recursionLimit) (hun : un + 1100 < cLine) (hmm : mm = (M : Int)) (hM : 1 ≤ M) (hM8 : M ≤ 8) (hl1 : 1 ≤ ns.length) (hl2 : ns.length ≤ 30) (hby : ∀ x ∈ ns, 0 ≤ x ∧ x < 256) (hnz : ∃ x ∈ ns, x ≠ 0)
  (hret : ∀ y ws k h' tk', Fr h₀ L h' m → News h₀ L h' ((y, listOf (List.toArray ws) k) :: big) → IntsAre ws (cbX ns 1 ns.length M) → AllLt y big → Q (.ref y) { s with heap := h', toks := tk' }) :
  wpAny (model PySem.Challenge.pw_bq0024_01 w) (ktrTop dp un gd cn cs L a ccd cl outer) (call (.ref 299) [.ref lf, .int mm u]) Q E s := by
  subst hmm
  have hN2 := news_cons m1 hN hN
  clear hN m1
  k_steps
  refine Paused.go ?_
  (rename Fr _ _ _ _ => F2)
  (rename News _ _ _ _ => N2)
  (rename IntsAre vs ns => hI)
  have hle := hI.length
  refine' put_loop (xn := Str.ofString "octet") (ns := ns) (by rfl) F2 N2 ?hbZ ?U1Z ?U2Z rfl rfl ?hlZ hI ?turnP ?doneP
  case hbZ => k_mem
  case U1Z => k_updF
  case U2Z => intro o; (try dsimp only); k_updF
  case hlZ => intro o1 o2; (try dsimp only); k_mem
  case turnP =>
    clear F2 N2
    intro i2 x t c2 vs2 n2 len t3 h3 tk3 I2 oI2 hi2 hx2 hm2 I8 e8 off8 hc8 F8 N8
    (try dsimp only at off8 N8)
    simp only [List.forall_mem_cons] at off8
    repeat (have oJ := And.left off8; replace off8 := And.right off8)
    (try dsimp only at *)
    have hb2 := hby x hm2
    have hl3 : (ns.take i2).length ≤ 30 := by rw [List.length_take]; omega
    k_steps
    (rename Fr _ _ _ _ => F3)
    (rename News _ _ _ _ => N3)
    (rename IntsAre _ (List.take i2 _ ++ _) => I3)
    refine' put_end F3 N3 ?aE ?bE ?cE I3 ?dE ?eE ?fE
    case aE => (try dsimp only); kcf_all
    case bE => k_mem
    case cE => (try dsimp only); k_all
    case dE => rw [List.take_add_one, hx2]; rfl
    case eE => with_reducible assumption
    case fE => intro y y1; simp [y1]
  case doneP =>
    clear F2 N2
    intro c2 vs2 n2 len t3 h3 tk3 I8 e8 F8 N8
    (try dsimp only at N8)
    k_steps
    refine Paused.go ?_
    refine' cb_d (B := 1) (D := ns.length) (M := M) ?BZq ?FZq ?KZq ?NZq ?m1Zq ?m2Zq ?m3Zq ?m4Zq ?m5Zq ?m6Zq ?aRZq ?TZq ?kZq ?dZq ?uZq I8 ?dcZq ?tcZq hl1 hM hM8 hl2 (Nat.le_refl 1) (by decide) ?lenZq ?len2Zq hby ?nzZq ?_
    case BZq => k_asm
    case FZq => k_asm
    case KZq => k_asm
    case NZq => k_asm
    case m1Zq => k_mem
    case m2Zq => k_mem
    case m3Zq => k_mem
    case m4Zq => k_mem
    case m5Zq => k_mem
    case m6Zq => k_mem
    case aRZq => exact rfl
    case TZq => k_asm
    case kZq => exact rfl
    case dZq => ktr_room
    case uZq => ktr_units
    case dcZq => exact rfl
    case tcZq => exact rfl
    case lenZq => omega
    case len2Zq => omega
    case nzZq =>
      intro k1 hk1
      have : k1 = 0 := by omega
      subst this
      unfold blk
      simpa using hnz
    k_whole
    intro y9 ws9 k9 h9 tk9 F9 N9 I9 l9
    (try simp only [AllLt, and_true] at l9)
    (try k_sweep)
    k_steps
    (rename Fr h₀ L _ _ => F3)
    (rename News h₀ L _ _ => N3)
    exact hret _ _ _ _ _ F3 (news_cons (by k_mem) N3 (fun q hq => N3 q (by k_ownIn))) I9 l9.2.2.2.2.2.2.2
end
end
section
local macro_rules | `(tactic| walk_at "pad 0") => `(tactic| skip)
local macro_rules | `(tactic| walk_at "pad 1") => `(tactic| skip)
local macro_rules | `(tactic| walk_at "pad 2") => `(tactic| skip)
local macro_rules | `(tactic| walk_at "pad 3") => `(tactic| skip)
local macro_rules | `(tactic| walk_at "pad 4") => `(tactic| skip)
local macro_rules | `(tactic| walk_at "pad 5") => `(tactic| skip)
local macro_rules | `(tactic| walk_at "pad 6") => `(tactic| skip)
local macro_rules | `(tactic| walk_at "pad 7") => `(tactic| skip)
local macro_rules | `(tactic| walk_at "pad 8") => `(tactic| skip)
local macro_rules | `(tactic| walk_at "pad 9") => `(tactic| skip)
local macro_rules | `(tactic| walk_at "pad 10") => `(tactic| skip)
local macro_rules | `(tactic| walk_at "pad 11") => `(tactic| skip)
theorem fillNow_l1w : (PySem.Challenge.rw_bq0024_01 = PySem.Challenge.rw_bq0024_01) ∧ (hd.heap_39 = hd.heap_39) := by
  w_top off
  k_fill
  exact ⟨rfl, rfl⟩

local macro_rules | `(tactic| k_room) => `(tactic| ktr_room)
local macro_rules | `(tactic| k_lt $h:ident) => `(tactic| (replace $h := allLt_of $h; simp only [AllLt, and_true] at $h:ident; repeat (have hA := And.left $h; replace $h := And.right $h)))
local macro_rules | `(tactic| k_ne) => `(tactic| first | with_reducible assumption | (refine Ne.symm ?_; with_reducible assumption) | (refine Nat.ne_of_lt ?_; with_reducible assumption) | (refine Nat.ne_of_gt ?_; with_reducible assumption))
local macro_rules | `(tactic| k_all) => `(tactic| ((fail_if_success (refine' List.forall_mem_cons.mpr ⟨?tailNg, ?tailNh⟩)); rename AllLt _ _ => hAL; first | (refine allLt_ne hAL ?_; (try dsimp only); first | exact Nat.le_refl _ | (refine Nat.le_of_lt ?_; with_reducible assumption)) | (clear hAL; k_all) | (refine allLt_ne hAL ?_; (try dsimp only); omega)))
local macro_rules | `(tactic| k_all) => `(tactic| ((fail_if_success (refine' List.forall_mem_cons.mpr ⟨?tailNe, ?tailNf⟩)); with_reducible assumption))
local macro_rules | `(tactic| k_all) => `(tactic| (with_reducible refine all_append ?_ ?_ <;> k_all))
local macro_rules | `(tactic| k_all) => `(tactic| first | exact List.forall_mem_nil _ | (refine' List.forall_mem_cons.mpr ⟨?caZq, ?cbZq⟩; (case caZq => k_ne); (case cbZq => k_all)))
local macro_rules | `(tactic| k_units) => `(tactic| ktr_units)
local macro_rules | `(tactic| k_enter) => `(tactic| (refine' code_defC ?k1 ?k2 ?k3 ?k4 ?k5 ?kAZq ?kFZq ?kKZq ?k6 ?k7 ?k8 ?k9 ?kBZq ?kDZq ?_ ?c2 ?c3 ?c4; (case kAZq => exact rfl); (case kFZq => exact rfl); (case kKZq => first | exact rfl | assumption); (case k1 => k_asm); (case k2 => k_asm); (case k3 => k_asm); (case k4 => k_asm); (case k5 => k_asm); (case k6 => k_is); (case k7 => k_is); (case k8 => ktr_room); (case k9 => exact BindsTo.of_eq rfl); (case kBZq => exact rfl); (case kDZq => decide +kernel); (case c2 => exact rfl); (case c3 => exact rfl); (case c4 => exact rfl); k_whole; intro g' L' h' tk' cells' FG' F' N' Y' B' X' T' l1; (try k_lt l1); k_cells Y'; (try simp only [List.cons_append, List.nil_append] at N'); (try dsimp only); (try k_lift B'); (try k_fold)))
local macro_rules | `(tactic| k_enter) => `(tactic| cell_enter)
local macro_rules | `(tactic| walk_at "subscriptTail") => `(tactic| (k_here; (with_reducible show wpAny _ _ (subscriptTail _ _ (Value.ref 79) (Value.int _ _)) _ _ _); k_dflt (refine' topItemI (ns := expL) ?FZq ?XZq ?lZq ?iZq ?aZq ?bZq ?dZq ?_; (case FZq => k_asm); (case XZq => k_asm); (case lZq => k_is); (case iZq => exact intsB_of (by decide +kernel)); (case aZq => (try simp only [expL_len]); omega); (case bZq => (try simp only [expL_len]); omega); (case dZq => (try simp only [expL_len]); omega); k_whole); intro tE))
local macro_rules | `(tactic| walk_at "subscriptTail") => `(tactic| (k_here; (with_reducible show wpAny _ _ (subscriptTail _ _ (Value.ref 80) (Value.int _ _)) _ _ _); k_dflt (refine' topItemI (ns := logL) ?FZq ?XZq ?lZq ?iZq ?aZq ?bZq ?dZq ?_; (case FZq => k_asm); (case XZq => k_asm); (case lZq => k_is); (case iZq => exact intsB_of (by decide +kernel)); (case aZq => (try simp only [logL_len]); omega); (case bZq => (try simp only [logL_len]); omega); (case dZq => (try simp only [logL_len]); omega); k_whole); intro tE))


local macro_rules | `(tactic| walk_at "call ref") => `(tactic| (k_here; (with_reducible show wpAny _ _ (call (Value.ref 94) [Value.int _ _]) _ _ _); k_dflt (refine' gexp_c ?BZq ?FZq ?KZq ?NZq ?TZq ?kZq ?dZq ?uZq ?_; (case BZq => k_asm); (case FZq => k_asm); (case KZq => k_asm); (case NZq => k_asm); (case TZq => k_asm); (case kZq => first | exact rfl | assumption); (case dZq => ktr_room); (case uZq => ktr_units); k_whole); intro t9 h9 tk9 F9 N9; (try dsimp only); (try k_sweep); walk_say "CONTRACT gexp"))
local macro_rules | `(tactic| walk_at "call ref") => `(tactic| (k_here; (with_reducible show wpAny _ _ (call (Value.ref 87) [Value.int _ _]) _ _ _); k_dflt (refine' glog_c ?BZq ?FZq ?KZq ?NZq ?TZq ?kZq ?dZq ?uZq ?xZq ?yZq ?_; (case BZq => k_asm); (case FZq => k_asm); (case KZq => k_asm); (case NZq => k_asm); (case TZq => k_asm); (case kZq => first | exact rfl | assumption); (case dZq => ktr_room); (case uZq => ktr_units); (case xZq => first | assumption | omega); (case yZq => first | assumption | omega); k_whole); intro t9 h9 tk9 F9 N9; (try dsimp only); (try k_sweep); walk_say "CONTRACT glog"))
local macro_rules | `(tactic| walk_at "subscriptTail Name Slice ref ref") => `(tactic| (k_here; (with_reducible show wpAny _ _ (subscriptTail _ (PySem.Expr.Slice (some _) none none _) (Value.ref _) (Value.ref _)) _ _ _); k_dflt (refine' kmk_slice_ints ?FZq ?NZq ?lZq ?pZq ?qZq ?iZq ?mZq ?cZq ?_ ?sZq ?tZq ?zZq; (case FZq => k_asm); (case NZq => k_asm); (case lZq => kmk_list); (case pZq => kmk_part); (case qZq => kmk_part); (case iZq => assumption); (case mZq => exact kmk_from (by assumption) (by omega)); (case cZq => exact rfl); (case sZq => with_unfolding_all rfl); (case tZq => kmk_pure); (case zZq => simp only [List.size_toArray, sizeLine_eq, IntsAre.length (by assumption)]; omega)); intro D' ws' h' F' N' l1 hI' hC' hL'; clear hC' hL'; (try k_lt l1); (try k_sweep)))
local macro_rules | `(tactic| walk_at "exec Assign cons ListComp") => `(tactic| (k_here; (with_reducible show wpAny _ _ (exec (Stmt.Assign [_] (PySem.Expr.ListComp _ [⟨PySem.Expr.Tuple _ _ _, _, _, _⟩] _ _) _) _) _ _ _); k_dflt (refine assign_comp_pairs (by k_asm) (by with_unfolding_all rfl) (by with_unfolding_all rfl) (by decide) (by rfl) (by decide) (by rfl) (by rfl) (by decide) (by rfl) (by rfl) ?_)))
local macro_rules | `(tactic| walk_at "call type:zip") => `(tactic| (k_here; (with_reducible show wpAny _ _ (call (Value.type _) [Value.ref _, Value.ref _]) _ _ _); k_dflt (refine call_zip_own ?_)))
local macro_rules | `(tactic| walk_at "call type:enumerate") => `(tactic| (k_here; (with_reducible show wpAny _ _ (call (Value.type _) [Value.ref _]) _ _ _); k_dflt (refine call_enum_own ?_)))
local macro_rules | `(tactic| walk_at "pyIter ref") => `(tactic| (k_here; k_dflt (refine' owit_iter ?FZq ?XZq ?IZq ?hsZq ?hfZq ?_; (case FZq => k_asm); (case XZq => k_asm); (case IZq => k_inst); (case hsZq => k_is); (case hfZq => k_is); k_whole)))
local macro_rules | `(tactic| walk_at "OwitIt") => `(tactic| (k_here; k_dflt (refine' owit_li ?NZq ?iZq ?_; (case NZq => k_asm); (case iZq => k_mem); k_whole)))
local macro_rules | `(tactic| walk_at "call builtin:iter") => `(tactic| (k_here; (with_reducible show wpAny _ _ (call (Value.builtin "iter") [Value.ref _]) _ _ _); k_dflt (refine' call_iter_led ?FZq ?NZq ?lZq ?_; (case FZq => k_asm); (case NZq => k_asm); (case lZq => k_mem); k_whole); intro I' h' F' N' l1; (try k_lt l1); (try k_sweep)))
local macro_rules | `(tactic| walk_at "subscriptTail Name Slice ref ref") => `(tactic| (k_here; (with_reducible show wpAny _ _ (subscriptTail _ (PySem.Expr.Slice _ _ none _) (Value.ref _) (Value.ref _)) _ _ _); k_dflt (refine' sub_own_slice ?FZq ?XZq ?NZq ?IZq ?qZq ?hsZq ?hfZq ?hgZq ?_; (case FZq => k_asm); (case XZq => k_asm); (case NZq => k_asm); (case IZq => k_inst); (case qZq => k_is); (case hsZq => k_is); (case hfZq => k_is); (case hgZq => k_is); k_whole); intro sl' h' F' N' l1; (try k_lt l1); (try k_sweep)))
local macro_rules | `(tactic| walk_at "subscriptTail") => `(tactic| (k_here; (with_reducible show wpAny _ _ (subscriptTail _ (PySem.Expr.Name _ _) (Value.ref _) (Value.ref _)) _ _ _); k_dflt (refine' sub_list_slice ?FZq ?NZq ?lZq ?slZq ?paZq ?pbZq ?IZq ?mZq ?zZq ?_; (case FZq => k_asm); (case NZq => k_asm); (case lZq => k_mem); (case slZq => k_mem); (case paZq => kmk_part); (case pbZq => kmk_part); (case IZq => assumption); (case mZq => first | exact kmk_from_neg (by assumption) (by omega) | exact kmk_from (by assumption) (by omega) | exact kmk_upto (by assumption) (by omega) | exact kmk_upto_neg (by assumption) (by omega)); (case zZq => rw [sizeLine_eq]; omega); k_whole); intro D' ws' h' F' N' l1 hI'; (try k_lt l1); (try k_sweep)))
local macro_rules | `(tactic| walk_at "call builtin:list.extend") => `(tactic| (k_here; (with_reducible show wpAny _ _ (call (Value.builtin _) [Value.ref _, Value.ref _]) _ _ _); k_dflt (refine' ext_ints ?FZq ?NZq ?bZq ?UZq ?I1Zq ?I2Zq ?neZq ?h1Zq ?h2Zq ?_; (case FZq => k_asm); (case NZq => k_asm); (case bZq => k_mem); (case UZq => k_upd); (case I1Zq => assumption); (case I2Zq => assumption); (case neZq => (try simp only [List.length_drop]); omega); (case h1Zq => omega); (case h2Zq => (try simp only [List.length_drop]); omega); k_whole); intro vs' h' F' eX' N' hI'; (try rw [← eX'] at N'); clear eX'; (try k_sweep)))
local macro_rules | `(tactic| walk_at "call builtin:list.append") => `(tactic| (k_here; (with_reducible show wpAny _ _ (call (Value.builtin _) [Value.ref _, Value.int _ _]) _ _ _); k_dflt (refine' app_ints ?FZq ?NZq ?UZq ?I1Zq ?h1Zq ?_; (case FZq => k_asm); (case NZq => k_asm); (case UZq => k_upd); (case I1Zq => first | assumption | exact IntsAre.nil); (case h1Zq => first | omega | ((simp only [List.length_append, List.length_cons, List.length_nil]); omega)); k_whole); intro vs' h' F' eX' N' hI'; (try rw [← eX'] at N'); clear eX'; (try k_sweep)))

local macro_rules | `(tactic| walk_at "call ref") => `(tactic| (k_here; (with_reducible show wpAny _ _ (call (Value.ref 144) [Value.ref _, Value.int _ _]) _ _ _); k_dflt (refine' poly_c ?BZq ?FZq ?KZq ?NZq ?TZq ?kZq ?dZq ?uZq ?IZq ?pZq ?lZq ?sZq ?zZq ?_; (case BZq => k_asm); (case FZq => k_asm); (case KZq => k_asm); (case NZq => refine' news_cons ?NmZq ?NnZq ?NrZq; (case NnZq => k_asm); (case NrZq => k_asm); (case NmZq => k_mem)); (case TZq => k_asm); (case kZq => first | exact rfl | assumption); (case dZq => ktr_room); (case uZq => ktr_units); (case IZq => assumption); (case pZq => first | assumption | omega | ((simp only [List.length_append, List.length_drop, List.length_map, List.length_take]); omega)); (case lZq => first | assumption | omega | ((simp only [List.length_append, List.length_drop, List.length_map, List.length_take]); omega)); (case sZq => omega); (case zZq => omega); k_whole); intro x9 d9 l9 vs9 hs9 t9 h9 tk9 F9 N9 I9 o1 o2 o3; (try simp only [AllLt, and_true] at o1); (repeat (have hA := And.left o1; replace o1 := And.right o1)); (try simp only [Int.toNat_zero, List.replicate_zero, List.append_nil] at I9); (try dsimp only); (try k_sweep); walk_say "CONTRACT poly"))

local macro_rules | `(tactic| walk_at "call ref") => `(tactic| (k_here; (with_reducible show wpAny _ _ (call (Value.ref 266) [Value.ref _, Value.bool _]) _ _ _); k_dflt (refine' putbit_d ?BZq ?FZq ?KZq ?NZq ?bZq ?l1Zq ?U1Zq ?U2Zq ?TZq ?kZq ?dZq ?uZq ?a1Zq ?a2Zq ?a3Zq ?IZq ?lZq ?zZq ?yZq ?qZq ?_; (case BZq => k_asm); (case FZq => k_asm); (case KZq => k_asm); (case NZq => k_asm); (case bZq => k_mem); (case U1Zq => k_updF); (case l1Zq => k_mem); (case U2Zq => (intro o9; (try dsimp only); k_updF)); (case TZq => k_asm); (case kZq => first | exact rfl | assumption); (case dZq => ktr_room); (case uZq => ktr_units); (case a1Zq => k_ne); (case a2Zq => k_ne); (case a3Zq => k_ne); (case IZq => assumption); (case lZq => omega); (case zZq => first | assumption | omega); (case yZq => omega); (case qZq => first | assumption | omega); k_whole); intro vs9 zs9 n9 t9 h9 tk9 F9 N9 I9 e9 q9 l9 p9; (try dsimp only at N9); (try dsimp only); (try k_sweep); walk_say "CONTRACT putbit"))

local macro_rules | `(tactic| walk_at "UnrEnd") => `(tactic| (k_here; refine' unr_head ?FZq ?NZq ?oZq ?_; (case FZq => k_asm); (case NZq => k_asm); (case oZq => k_all); k_whole))

local macro_rules | `(tactic| walk_at "call ref") => `(tactic| (k_here; (with_reducible show wpAny _ _ (call (Value.ref 252) [Value.ref _, Value.int _ _, Value.int 8 _]) _ _ _); k_dflt (refine' put_d ?BZq ?FZq ?KZq ?NZq ?bZq ?l1Zq ?U1Zq ?U2Zq ?TZq ?kZq ?dZq ?uZq ?a1Zq ?a2Zq ?a3Zq ?IZq ?lZq ?eZq ?n0Zq ?n1Zq ?_; (case BZq => k_asm); (case FZq => k_asm); (case KZq => k_asm); (case NZq => k_asm); (case bZq => k_mem); (case U1Zq => k_updF); (case l1Zq => k_mem); (case U2Zq => (intro o9; (try dsimp only); k_updF)); (case TZq => k_asm); (case kZq => first | exact rfl | assumption); (case dZq => ktr_room); (case uZq => ktr_units); (case a1Zq => k_ne); (case a2Zq => k_ne); (case a3Zq => k_ne); (case IZq => with_reducible assumption); (case lZq => omega); (case eZq => first | with_reducible assumption | omega); (case n0Zq => omega); (case n1Zq => omega); k_whole); intro vs9 len9 n9 t9 h9 tk9 F9 N9 I9 e9; (try dsimp only at N9); (try dsimp only); (try k_sweep); walk_say "CONTRACT put"))

local macro_rules | `(tactic| walk_at "call ref") => `(tactic| (k_here; (with_reducible show wpAny _ _ (call (Value.ref 136) [Value.ref _, Value.ref _]) (PySem.W.CmpBack _) _ _); k_dflt (refine' mul_d ?BZq ?FZq ?KZq ?NZq ?m1Zq ?m2Zq ?m3Zq ?m4Zq ?m5Zq ?m6Zq ?TZq ?kZq ?I1Zq ?I2Zq ?l1Zq ?l2Zq ?p1Zq ?p2Zq ?r1Zq ?r2Zq ?dZq ?uZq ?_; (case BZq => k_asm); (case FZq => k_asm); (case KZq => k_asm); (case NZq => k_asm); (case m1Zq => k_mem); (case m2Zq => k_mem); (case m3Zq => k_mem); (case m4Zq => k_mem); (case m5Zq => k_mem); (case m6Zq => k_mem); (case TZq => k_asm); (case kZq => first | exact rfl | assumption); (case I1Zq => with_reducible assumption); (case I2Zq => with_reducible assumption); (case l1Zq => omega); (case l2Zq => omega); (case p1Zq => omega); (case p2Zq => omega); (case r1Zq => with_reducible assumption); (case r2Zq => with_reducible assumption); (case dZq => ktr_room); (case uZq => ktr_units); k_whole); intro x9 d9 l9 vs9 hs9 t9 h9 tk9 F9 N9 I9; dsimp only [PySem.W.CmpBack]; (try dsimp only); (try k_sweep); walk_say "CONTRACT mul"))
local macro_rules | `(tactic| walk_at "call ref") => `(tactic| (k_here; (with_reducible show wpAny _ _ (call (Value.ref 141) [Value.ref _, Value.ref _]) (PySem.W.CmpBack _) _ _); k_dflt (refine' mod_d (k := 38) ?BZq ?FZq ?KZq ?NZq ?m1Zq ?m2Zq ?m3Zq ?m4Zq ?m5Zq ?m6Zq ?TZq ?kZq ?I1Zq ?I2Zq ?l1Zq ?l2Zq ?p1Zq ?p2Zq ?qZq ?r1Zq ?r2Zq ?zZq ?dZq ?uZq ?_; (case BZq => k_asm); (case FZq => k_asm); (case KZq => k_asm); (case NZq => k_asm); (case m1Zq => k_mem); (case m2Zq => k_mem); (case m3Zq => k_mem); (case m4Zq => k_mem); (case m5Zq => k_mem); (case m6Zq => k_mem); (case TZq => k_asm); (case kZq => first | exact rfl | assumption); (case I1Zq => with_reducible assumption); (case I2Zq => with_reducible assumption); (case l1Zq => omega); (case l2Zq => omega); (case p1Zq => omega); (case p2Zq => omega); (case qZq => omega); (case r1Zq => with_reducible assumption); (case r2Zq => with_reducible assumption); (case zZq => with_reducible assumption); (case dZq => ktr_room); (case uZq => ktr_units); k_whole); intro x9 d9 l9 vs9 hs9 t9 k9 n9 h9 tk9 F9 N9 I9; dsimp only [PySem.W.CmpBack]; (try dsimp only); (try k_sweep); walk_say "CONTRACT mod"))

local macro_rules | `(tactic| walk_at "getMethod type:tuple") => `(tactic| (k_here; refine' method_type ?FZq ?XZq ?mZq (by decide +kernel) ?eZq ?hZq ?_; (case FZq => k_asm); (case XZq => k_asm); (case mZq => first | exact rfl | kernel_rfl); (case eZq => k_dflt k_is); (case hZq => k_handed)))
local macro_rules | `(tactic| walk_at "call builtin:tuple.__new__") => `(tactic| (k_here; (refine' tuple_childN (C := 216) ?FZq ?NZq ?XZq ?mZq ?oZq ?e2Zq ?lZq ?bZq ?sZq ?iZq ?tcZq ?tdZq ?szZq ?_; (case FZq => k_asm); (case NZq => k_asm); (case XZq => k_asm); (case mZq => k_mem); (case oZq => exact rfl); (case e2Zq => exact rfl); (case lZq => exact rfl); (case bZq => exact rfl); (case sZq => exact rfl); (case iZq => first | k_is | kernel_rfl); (case tcZq => exact rfl); (case tdZq => exact rfl); (case szZq => (rw [sizeLine_eq]; exact Nat.le_of_ble_eq_true rfl)); k_whole); intro x' dx' h' F' N' l1 o1; (try k_lt l1); (try k_sweep)))

local macro_rules | `(tactic| walk_at "getAttr ref") => `(tactic| (k_here; (with_reducible show wpAny _ _ (getAttr (Value.ref _) (PySem.Str.ofString "data_count") _) _ _ _); k_dflt (refine' fld_d ?BZq ?FZq ?KZq ?NZq ?mxZq ?mdZq ?TZq ?kZq ?dZq ?uZq ?_; (case BZq => k_asm); (case FZq => k_asm); (case KZq => k_asm); (case NZq => k_asm); (case mxZq => k_mem); (case mdZq => k_mem); (case TZq => k_asm); (case kZq => first | exact rfl | assumption); (case dZq => ktr_room); (case uZq => ktr_units); k_whole); intro t9 h9 tk9 F9 N9; (try dsimp only); (try k_sweep); walk_say "CONTRACT data_count"))
local macro_rules | `(tactic| walk_at "getAttr ref") => `(tactic| (k_here; (with_reducible show wpAny _ _ (getAttr (Value.ref _) (PySem.Str.ofString "total_count") _) _ _ _); k_dflt (refine' fldt_d ?BZq ?FZq ?KZq ?NZq ?mxZq ?mdZq ?TZq ?kZq ?dZq ?uZq ?_; (case BZq => k_asm); (case FZq => k_asm); (case KZq => k_asm); (case NZq => k_asm); (case mxZq => k_mem); (case mdZq => k_mem); (case TZq => k_asm); (case kZq => first | exact rfl | assumption); (case dZq => ktr_room); (case uZq => ktr_units); k_whole); intro t9 h9 tk9 F9 N9; (try dsimp only); (try k_sweep); walk_say "CONTRACT total_count"))
local macro_rules | `(tactic| walk_at "call ref") => `(tactic| (k_here; (with_reducible show wpAny _ _ (call (Value.ref 216) [Value.int _ _, Value.int _ _]) _ _ _); k_dflt (refine' rsb_c ?BZq ?FZq ?KZq ?NZq ?TZq ?kZq ?dZq ?uZq ?_; (case BZq => k_asm); (case FZq => k_asm); (case KZq => k_asm); (case NZq => k_asm); (case TZq => k_asm); (case kZq => first | exact rfl | assumption); (case dZq => ktr_room); (case uZq => ktr_units); k_whole); intro x9 d9 h9 tk9 F9 N9 o1 o2; (try simp only [AllLt, and_true] at o1); (repeat (have hA := And.left o1; replace o1 := And.right o1)); (try dsimp only); (try k_sweep); walk_say "CONTRACT RSBlock"))

local macro_rules | `(tactic| walk_at "call ref") => `(tactic| (k_here; (with_reducible show wpAny _ _ (call (Value.ref 144) [Value.ref 23, Value.int _ _]) _ _ _); k_dflt (refine' poly7_c ?BZq ?FZq ?KZq ?NZq ?TZq ?kZq ?dZq ?uZq ?_; (case BZq => k_asm); (case FZq => k_asm); (case KZq => k_asm); (case NZq => k_asm); (case TZq => k_asm); (case kZq => first | exact rfl | assumption); (case dZq => ktr_room); (case uZq => ktr_units); k_whole); intro x9 d9 l9 vs9 hs9 t9 h9 tk9 F9 N9 I9 o1 o2 o3; (try simp only [AllLt, and_true] at o1); (repeat (have hA := And.left o1; replace o1 := And.right o1)); (try dsimp only); (try k_sweep); walk_say "CONTRACT poly7"))

local macro_rules | `(tactic| walk_at "subscriptTail") => `(tactic| (k_here; (with_reducible show wpAny _ _ (subscriptTail (PySem.Expr.List _ _) (PySem.Expr.Slice (some _) none none _) (Value.ref _) (Value.ref _)) _ _ _); k_dflt (refine' sub_disp_slice (vs := [_, _, _]) ?FZq ?NZq ?lZq ?paZq ?pbZq ?IZq ?mZq ?zZq ?_ ?sZq; (case FZq => k_asm); (case NZq => k_asm); (case lZq => k_mem); (case paZq => kmk_part); (case pbZq => kmk_part); (case IZq => exact .cons _ _ (.cons _ _ (.cons _ _ .nil))); (case mZq => exact kmk_from (.cons _ _ (.cons _ _ (.cons _ _ .nil))) (by omega)); (case zZq => (rw [sizeLine_eq]; exact Nat.le_of_ble_eq_true rfl)); (case sZq => with_unfolding_all rfl); k_whole); intro D' ws' h' F' N' l1 hI'; (try k_lt l1); (try k_sweep)))
local macro_rules | `(tactic| walk_at "subscriptTail") => `(tactic| (k_here; (with_reducible show wpAny _ _ (subscriptTail (PySem.Expr.List _ _) (PySem.Expr.Slice (some _) none none _) (Value.ref _) (Value.ref _)) _ _ _); k_dflt (refine' sub_disp_slice (vs := [_]) ?FZq ?NZq ?lZq ?paZq ?pbZq ?IZq ?mZq ?zZq ?_ ?sZq; (case FZq => k_asm); (case NZq => k_asm); (case lZq => k_mem); (case paZq => kmk_part); (case pbZq => kmk_part); (case IZq => exact .cons _ _ .nil); (case mZq => exact kmk_from (.cons _ _ .nil) (by omega)); (case zZq => (rw [sizeLine_eq]; exact Nat.le_of_ble_eq_true rfl)); (case sZq => with_unfolding_all rfl); k_whole); intro D' ws' h' F' N' l1 hI'; (try k_lt l1); (try k_sweep)))
local macro_rules | `(tactic| walk_at "subscriptTail") => `(tactic| (k_here; (with_reducible show wpAny _ _ (subscriptTail _ _ (Value.ref _) (Value.int _ _)) _ _ _); k_dflt (refine' led_item ?NZq ?lZq ?iZq ?aZq ?bZq ?cZq ?_ ?dZq; (case NZq => k_asm); (case lZq => k_mem); (case iZq => with_reducible assumption); (case aZq => omega); (case bZq => omega); (case cZq => omega); (case dZq => with_unfolding_all rfl); k_whole); intro tE))
local macro_rules | `(tactic| walk_at "subscriptTail") => `(tactic| (k_here; (with_reducible show wpAny _ _ (subscriptTail _ (PySem.Expr.Slice none (some _) none _) (Value.ref _) (Value.ref _)) _ _ _); k_dflt (refine' sub_disp_slice ?FZq ?NZq ?lZq ?paZq ?pbZq ?IZq ?mZq ?zZq ?_ ?sZq; (case FZq => k_asm); (case NZq => k_asm); (case lZq => k_mem); (case paZq => kmk_part); (case pbZq => kmk_part); (case IZq => with_reducible assumption); (case mZq => exact kmk_upto (by with_reducible assumption) (by omega)); (case zZq => (rw [sizeLine_eq]; omega)); (case sZq => with_unfolding_all rfl); k_whole); intro D' ws' h' F' N' l1 hI'; (try k_lt l1); (try k_sweep)))

local macro_rules | `(tactic| walk_at "call ref") => `(tactic| (k_here; (with_reducible show wpAny _ _ (call (Value.ref 285) []) _ _ _); k_dflt (refine' lfield_c ?BZq ?FZq ?KZq ?NZq ?TZq ?kZq ?dZq ?uZq ?_; (case BZq => k_asm); (case FZq => k_asm); (case KZq => k_asm); (case NZq => k_asm); (case TZq => k_asm); (case kZq => first | exact rfl | assumption); (case dZq => ktr_room); (case uZq => ktr_units); k_whole); intro T9 p9 e9 vs9 n9 ws9 k9 h9 tk9 F9 N9 I9 J9 l9 l91 l92; (try simp only [AllLt, and_true] at l9 l91 l92); (try k_sweep); walk_say "CONTRACT field"))

local macro_rules | `(tactic| walk_at "call ref") => `(tactic| (k_here; (with_reducible show wpAny _ _ (call (Value.ref 292) [Value.int _ _, Value.int _ _, Value.ref _]) _ _ _); k_dflt (refine' ltimes_c ?BZq ?FZq ?KZq ?NZq ?TZq ?kZq ?m1Zq ?m2Zq ?m3Zq ?I1Zq ?I2Zq ?dZq ?uZq ?h0Zq ?h1Zq ?_; (case BZq => k_asm); (case FZq => k_asm); (case KZq => k_asm); (case NZq => k_asm); (case TZq => k_asm); (case kZq => first | exact rfl | assumption); (case m1Zq => k_mem); (case m2Zq => k_mem); (case m3Zq => k_mem); (case I1Zq => with_reducible assumption); (case I2Zq => with_reducible assumption); (case dZq => ktr_room); (case uZq => ktr_units); (case h0Zq => omega); (case h1Zq => omega); k_whole); intro t9 h9 tk9 F9 N9; (try k_sweep); walk_say "CONTRACT times"))
section
local macro_rules | `(tactic| walk_at "pyIter ref") => `(tactic| refine pause ?_)
local macro_rules | `(tactic| walk_at "CompSrc") => `(tactic| refine pause ?_)
local macro_rules | `(tactic| walk_at "call ref") => `(tactic| (k_here; (with_reducible show wpAny _ _ (call (Value.ref 285) _) _ _ _); refine pause ?_))
local macro_rules | `(tactic| walk_at "call ref") => `(tactic| (k_here; (with_reducible show wpAny _ _ (call (Value.ref 299) [Value.ref _, Value.int _ _]) _ _ _); refine pause ?_))
local macro_rules | `(tactic| walk_at "binaryOp Add int int") => `(tactic| (k_here; (with_reducible show wpAny _ _ (binaryOp Operator.Add (Value.int 2 _) (Value.int (Int.fmod _ _) _)) _ _ _); refine pause ?_))
local macro_rules | `(tactic| walk_at "subscriptTail Name Slice ref ref") => `(tactic| (k_here; (with_reducible show wpAny _ _ (subscriptTail (PySem.Expr.Name (Str.ofString "rest") _) (PySem.Expr.Slice (some _) none none _) (Value.ref _) (Value.ref _)) _ _ _); k_dflt (refine' sub_disp_slice (vs := [_, _, _, _, _]) ?FZq ?NZq ?lZq ?paZq ?pbZq ?IZq ?mZq ?zZq ?_ ?sZq; (case FZq => k_asm); (case NZq => k_asm); (case lZq => k_mem); (case paZq => kmk_part); (case pbZq => kmk_part); (case IZq => exact .cons _ _ (.cons _ _ (.cons _ _ (.cons _ _ (.cons _ _ .nil))))); (case mZq => exact kmk_from (.cons _ _ (.cons _ _ (.cons _ _ (.cons _ _ (.cons _ _ .nil))))) (by omega)); (case zZq => (rw [sizeLine_eq]; exact Nat.le_of_ble_eq_true rfl)); (case sZq => with_unfolding_all rfl); k_whole); intro D' ws' h' F' N' l1 hI'; (try k_lt l1); (try k_sweep)))
local macro_rules | `(tactic| walk_at "subscriptTail Name Constant ref int") => `(tactic| (k_here; (with_reducible show wpAny _ _ (subscriptTail (PySem.Expr.Name (Str.ofString "cells") _) _ (Value.ref _) (Value.int _ _)) _ _ _); k_dflt (refine' led_any ?NZq ?lZq ?iZq ?aZq ?bZq ?cZq ?_ ?dZq; (case NZq => k_asm); (case lZq => k_mem); (case iZq => with_reducible assumption); (case aZq => omega); (case bZq => omega); (case cZq => omega); (case dZq => with_unfolding_all rfl); k_whole); intro zE tE))
local macro_rules | `(tactic| walk_at "exec If") => `(tactic| (k_here; refine wpAny_If ?_))
local macro_rules | `(tactic| walk_at "exec If") => `(tactic| (k_here; (with_reducible show wpAny _ _ (exec (Stmt.If (PySem.Expr.BoolOp _ (PySem.Expr.Compare _ _ [PySem.Expr.Constant (PySem.Const.int 0) _ _] _ :: _) _) _ _ _) _) _ _ _); (fail_if_success (with_reducible show wpAny _ _ _ (MidP _ _ _ _ _ _ _ _) _ _)); refine pause ?_))
local macro_rules | `(tactic| walk_at "call builtin:len") => `(tactic| (k_here; (with_reducible show wpAny _ _ (call _ [Value.ref _]) _ _ _); k_dflt (refine' led_len ?NZq ?lZq ?iZq ?cZq ?_; (case NZq => k_asm); (case lZq => k_mem); (case iZq => with_reducible assumption); (case cZq => omega); k_whole); intro tE tkE))
local macro_rules | `(tactic| walk_at "binaryOp Mult ref int") => `(tactic| (k_here; k_dflt (refine' mul_one_item ?FZq ?NZq ?mZq ?aZq ?bZq ?_; (case FZq => k_asm); (case NZq => k_asm); (case mZq => k_mem); (case aZq => first | omega | exact fm_lo _ _ (by decide)); (case bZq => first | omega | exact fm_hi _ _ (by decide) (by decide)); k_whole); intro y' h' F' N' l1; (try k_lt l1); (try k_sweep)))
local macro_rules | `(tactic| walk_at "binaryOp Add ref ref") => `(tactic| (k_here; k_dflt (refine' add_led ?FZq ?NZq ?aZq ?bZq ?IZq ?JZq ?zZq ?_; (case FZq => k_asm); (case NZq => k_asm); (case aZq => k_mem); (case bZq => k_mem); (case IZq => first | with_reducible assumption | exact .cons _ _ .nil | exact ints_rep _); (case JZq => first | with_reducible assumption | exact .cons _ _ .nil | exact ints_rep _); (case zZq => ((try simp only [List.length_append, List.length_replicate, List.length_cons, List.length_nil, List.length_take, List.length_drop]); first | omega | exact front_size _)); k_whole); intro y' us' h' F' N' l1 hI'; (try k_lt l1); (try k_sweep)))
local macro_rules | `(tactic| walk_at "execs cons") => `(tactic| (k_here; (try (with_reducible refine gen_toks5 (fun tkE => ?_))); (with_reducible refine wpAny_execs_cons ?_); try dsimp only))
local macro_rules | `(tactic| walk_at "subscriptTail Name Slice ref ref") => `(tactic| (k_here; (with_reducible show wpAny _ _ (subscriptTail (PySem.Expr.Name (Str.ofString "row") _) (PySem.Expr.Slice none (some _) none _) (Value.ref _) (Value.ref _)) _ _ _); k_dflt (refine' sub_disp_slice ?FZq ?NZq ?lZq ?paZq ?pbZq ?IZq ?mZq ?zZq ?_ ?sZq; (case FZq => k_asm); (case NZq => k_asm); (case lZq => k_mem); (case paZq => kmk_part); (case pbZq => kmk_part); (case IZq => with_reducible assumption); (case mZq => exact kmk_upto (by with_reducible assumption) (by omega)); (case zZq => (rw [sizeLine_eq]; omega)); (case sZq => with_unfolding_all rfl); k_whole); intro D' ws' h' F' N' l1 hI'; (try k_lt l1); (try k_sweep)))
local macro_rules | `(tactic| walk_at "isTrue BoolOp") => `(tactic| (k_here; (fail_if_success (with_reducible show wpAny _ _ _ (JoinB _ _) _ _)); refine pause ?_))
local macro_rules | `(tactic| walk_at "KCfEl") => `(tactic| exact ⟨rfl, _, rfl⟩)
local macro_rules | `(tactic| walk_at "exec Assign cons ListComp") => `(tactic| (k_here; (with_reducible show wpAny _ _ (exec (Stmt.Assign _ (PySem.Expr.ListComp _ [PySem.Comprehension.mk (PySem.Expr.Tuple _ _ _) _ _ _] _ _) _) _) _ _ _); refine pause ?_))
local macro_rules | `(tactic| walk_at "storeName") => `(tactic| (k_here; (with_reducible show wpAny _ _ (storeName _ (Str.ofString "wide") (Value.int (ite _ _ _) _)) _ _ _); refine pause ?_))
local macro_rules | `(tactic| walk_at "loadName") => `(tactic| (k_here; k_dflt (refine' wpAny_loadName_cell ?aZq ?bZq ?cZq (cell_at ?hdZq ?NZq ?mZq) ?_; (case aZq => rfl); (case bZq => rfl); (case cZq => rfl); (case NZq => k_asm); (case mZq => k_mem); (case hdZq => with_reducible assumption); k_whole)))
local macro_rules | `(tactic| walk_at "eval ListComp") => `(tactic| (k_here; (with_reducible show wpAny _ _ (eval (PySem.Expr.ListComp _ [PySem.Comprehension.mk (PySem.Expr.Name _ _) _ _ _] _ _) _) _ _ _); k_dflt (refine LCg.ListComp_U (F₀ := by k_asm) (by with_unfolding_all rfl) (by decide) (by rfl) (by decide) (by rfl) ?_)))
local macro_rules | `(tactic| walk_at "inplaceOp Add ref ref") => `(tactic| (k_here; k_dflt (refine' iadd_led (ms := [_, _]) ?FZq ?NZq ?bZq ?UZq ?I1Zq ?I2Zq ?neZq ?szZq ?_; (case FZq => k_asm); (case NZq => k_asm); (case bZq => k_mem); (case UZq => k_upd); (case I1Zq => with_reducible assumption); (case I2Zq => exact .cons _ _ (.cons _ _ .nil)); (case neZq => exact Nat.succ_ne_zero _); (case szZq => ((try simp only [List.length_cons, List.length_nil]); omega)); k_whole); intro h' F' N' hI'; (try k_sweep)))
local macro_rules | `(tactic| walk_at "subscriptTail") => `(tactic| (k_here; (with_reducible show wpAny _ _ (subscriptTail (PySem.Expr.Subscript _ _ _) (PySem.Expr.Name (Str.ofString "octet") _) (Value.ref _) (Value.int _ _)) _ _ _); k_dflt (refine' led_item (ns := logL) ?NZq ?lZq ?iZq ?aZq ?bZq ?cZq ?_ ?dZq; (case NZq => k_asm); (case lZq => k_mem); (case iZq => with_reducible assumption); (case aZq => omega); (case bZq => (rw [logL_len]; omega)); (case cZq => (rw [logL_len]; decide)); (case dZq => with_unfolding_all rfl); k_whole); intro tE))
local macro_rules | `(tactic| walk_at "subscriptTail Name Slice ref ref") => `(tactic| (k_here; (with_reducible show wpAny _ _ (subscriptTail (PySem.Expr.Name (Str.ofString "spread") _) (PySem.Expr.Slice none (some _) none _) (Value.ref _) (Value.ref _)) _ _ _); k_dflt (refine' sub_disp_slice ?FZq ?NZq ?lZq ?paZq ?pbZq ?IZq ?mZq ?zZq ?_ ?sZq; (case FZq => k_asm); (case NZq => k_asm); (case lZq => k_mem); (case paZq => kmk_part); (case pbZq => kmk_part); (case IZq => with_reducible assumption); (case mZq => exact kmk_upto_neg (by with_reducible assumption) (by decide)); (case zZq => (rw [sizeLine_eq]; omega)); (case sZq => with_unfolding_all rfl); k_whole); intro D' ws' h' F' N' l1 hI'; (try k_lt l1); (try k_sweep)))
set_option maxHeartbeats 0 in
local macro_rules | `(tactic| walk_at "exec For") => `(tactic| (k_here; (with_reducible show wpAny _ _ (exec (Stmt.For (PySem.Expr.Name (Str.ofString "cell") _) _ _ _ _) _) _ _ _); refine pause ?_))
theorem law1 : PySem.Challenge.rw_bq0024_01.Holds := hd (by
  k_go0
  (all_goals try k_fold)
  k_steps
  refine Paused.go ?_
  (rename IntsAre _ (List.take 5 _ ++ _) => hIc)
  (rename List Int => script)
  have hcl := cells5_len script
  obtain ⟨cs5, hcs5⟩ : ∃ c, c = List.take 5 script ++ List.drop ((List.take 5 script).length : Int).toNat [2, 300, 6, 12, 21] := ⟨_, rfl⟩
  rw [← hcs5] at hIc hcl
  clear hcs5
  show wpAny _ _ (call (Value.ref 285) []) _ _ _
  refine' lfield_c ?BZq ?FZq ?KZq ?NZq ?TZq ?kZq ?dZq ?uZq ?_
  case BZq => k_asm
  case FZq => k_asm
  case KZq => k_asm
  case NZq => k_asm
  case TZq => k_asm
  case kZq => exact rfl
  case dZq => ktr_room
  case uZq => ktr_units
  k_whole
  intro T9 p9 e9 vs9 n9 ws9 k9 h9 tk9 F9 N9 I9 J9 l9 l91 l92
  (try simp only [AllLt, and_true] at l9 l91 l92)
  (try k_sweep)
  k_steps
  refine Paused.go ?_
  refine add_mod (by decide) ?_
  intro M tM tkM hM1 hM2
  k_steps
  refine Paused.go ?_
  refine' lrow_c (M := M) (ns := [_, _]) ?BZr ?FZr ?KZr ?NZr ?TZr ?kZr ?mZr (.cons _ _ (.cons _ _ .nil)) ?dZr ?uZr rfl ?M1r ?M8r ?l1r ?l2r (two_bytes _ _) (two_nz _ _) ?_
  case BZr => k_asm
  case FZr => k_asm
  case KZr => k_asm
  case NZr => k_asm
  case TZr => k_asm
  case kZr => exact rfl
  case mZr => k_mem
  case dZr => ktr_room
  case uZr => ktr_units
  case M1r => omega
  case M8r => omega
  case l1r => exact Nat.le_of_ble_eq_true rfl
  case l2r => exact Nat.le_of_ble_eq_true rfl
  k_whole
  intro y9 ws8 k8 h8 tk8 F8 N8 I8 l8
  (try simp only [AllLt, and_true] at l8)
  (try k_sweep)
  k_steps
  refine Paused.go ?_
  (rename Fr _ _ _ _ => F1)
  (with_unfolding_all refine for_of F1 (by rfl) (by rfl) ?_)
  k_steps
  refine Paused.go ?_
  (rename Fr _ _ _ _ => F1)
  (rename News _ _ _ _ => N1)
  (rename IntsAre _ (List.drop 2 cs5) => hIs)
  (rename Obj.data _ = Data.cell (some (Value.ref T9)) => dF)
  (rename Obj.data _ = Data.cell (some (Value.int _ _)) => dM)
  (rename Obj.data _ = Data.cell (some (Value.ref y9)) => dR)
  refine' l1_loop2 (M := M) (px := p9) (vp := vs9) (np := n9) (e := e9) (ve := ws9) (ne := k9) (by rfl) (by rfl) F1 N1 hIs ?lenZ dF dM dR ?d4Z ?d5Z ?a1Z ?a2Z ?a3Z ?a4Z ?a5Z ?arZ ?mlZ ?mTZ ?mpZ ?meZ I8 ?GZ ?hlZ ?turnZ ?doneZ
  case a1Z => k_mem
  case a2Z => k_mem
  case a3Z => k_mem
  case a4Z => k_mem
  case a5Z => k_mem
  case arZ => k_mem
  case mlZ => k_mem
  case mTZ => k_mem
  case d4Z => with_reducible assumption
  case d5Z => with_reducible assumption
  case lenZ => rw [List.length_drop]; omega
  case mpZ => k_mem
  case meZ => k_mem
  case GZ => exact good_start (two_bytes _ _) (two_nz _ _) (by omega) (by omega) (Nat.le_of_ble_eq_true rfl)
  case hlZ => rw [cbX1_length]; simp only [List.length_cons, List.length_nil]; omega
  case doneZ =>
    clear F1 N1
    intro c h tk F' N'
    delta l1M at F'
    (try dsimp only at F')
    k_steps
  case turnZ =>
    clear F1 N1 hIs dM dR I8
    (try (rename Ground .. => zz; clear zz))
    (try (rename Hook.says .. => zz; clear zz))
    (try (rename Flt.MathXP .. => zz; clear zz))
    (try (rename LooseAre .. => zz; clear zz))
    (try (rename Glob .. => zz; clear zz))
    (try (rename Tables .. => zz; clear zz))
    (try (rename TopE .. => zz; clear zz))
    (try (rename TopW .. => zz; clear zz))
    (try (rename BMod .. => zz; clear zz))
    (try (rename Heap.CodeRec .. => zz; clear zz))
    (try (rename Dflts .. => zz; clear zz))
    (try (rename CellsAre .. => zz; clear zz))
    (try (rename ReadsAllW .. => zz; clear zz))
    (try (rename ReadsAll .. => zz; clear zz))
    (try (rename Well .. => zz; clear zz))
    (try (rename Reads .. => zz; clear zz))
    (repeat (rename (Obj.data _ = Data.cell (bindC _ _ _ _)) => zz; clear zz))
    intro i z t c ra vs k row M2 o2 o3 o4 o5 v4 v5 tM2 h tk I oI hi hoff b2 b3 b4 b5 br r2 r3 r4 r5 hIc2 d2 d3 d4 d5 I1 G hl F' N'
    have hIo := hoff
    simp only [List.forall_mem_cons] at hIo
    repeat (have oJ := And.left hIo; replace hIo := And.right hIo)
    (try dsimp only at *)
    delta l1M at F'
    (try dsimp only at F')
    have hle := I1.length
    have hGl := G.len
    have hG1 := G.m1
    have hG7 := G.m7
    k_steps
    refine Paused.go ?_
    (rename Fr _ _ _ _ => F2)
    (rename News _ _ _ _ => N2)
    refine' cut_if (20 + (i + 1)) F2 N2 hoff ?mIZ ?a4Z ?a5Z ?ifZ ?restZ
    case mIZ => k_mem
    case a4Z => k_mem
    case a5Z => k_mem
    case restZ =>
      clear F2 N2 I1 G hl hle hGl hG1 hG7
      intro c7 ra7 vs7 k7 row7 M7 o27 o37 tM7 h7 tk7 F7 N7 d27 d37 q2 q3 I7 G7 hl7
      delta l1M at F7
      (try dsimp only at F7 N7)
      have hle := I7.length
      have hGl := G7.len
      have hG1 := G7.m1
      have hG7 := G7.m7
      have hr := G7.tells2 (by omega)
      k_steps
      refine Paused.go ?_
      (rename IntsAre _ (List.take _ row7) => hIt)
      have hz : ((row7.length : Int) - (M7 : Int)).toNat = row7.length - M7 := by omega
      rw [hz] at hIt
      have hl8 : (row7.take (row7.length - M7)).length = row7.length - M7 := by rw [List.length_take]; omega
      refine' lrow_c (M := M7) (ns := row7.take (row7.length - M7)) ?BZr1 ?FZr1 ?KZr1 ?NZr1 ?TZr1 ?kZr1 ?mZr1 hIt ?dZr1 ?uZr1 rfl ?M1r1 ?M8r1 ?l1r1 ?l2r1 (fun x hx => G7.byte x (List.mem_of_mem_take hx)) G7.front ?_
      case BZr1 => k_asm
      case FZr1 => k_asm
      case KZr1 => k_asm
      case NZr1 => k_asm
      case TZr1 => k_asm
      case kZr1 => exact rfl
      case mZr1 => k_mem
      case dZr1 => ktr_room
      case uZr1 => ktr_units
      case M1r1 => omega
      case M8r1 => omega
      case l1r1 => omega
      case l2r1 => omega
      k_whole
      intro y9 ws8 k8 h8 tk8 F8 N8 I8 l8
      (try simp only [AllLt, and_true] at l8)
      rw [hr] at I8
      (try k_sweep)
      k_steps
      (rename Fr _ _ _ _ => F3)
      (rename News _ _ _ _ => N3)
      refine' l1_end (ra := ra7) (vs := vs7) (k := k7) F3 N3 ?aL2 ?aL3 ?aL4 ?aL5 ?mra ?fxL ?hiL b2 b3 b4 b5 ?braL hoff d27 d37 ?dL4 ?dL5 I7 G7 hl7 ?eL
      case aL2 => k_mem
      case aL3 => k_mem
      case aL4 => k_mem
      case aL5 => k_mem
      case mra => k_mem
      case fxL => kcf_all
      case hiL => k_mem
      case braL => exact news_apart (o := listOf (List.toArray vs7) k7) (o' := oI) N3 (by k_mem) (by k_mem) (by rw [hIc2]; intro zz; exact absurd (Value.type.inj zz) (by decide))
      case dL4 => with_reducible assumption
      case dL5 => with_reducible assumption
      case eL => intro y y1 y2 y3 y4 y5 y6 y7; simp [y1, y2, y3, y4, y5, y6, y7]
    case ifZ =>
      skip
      (rename IntsAre _ ([_] ++ List.replicate _ _) => hFr0)
      obtain ⟨fr, hFr, hfb, hfn, hfl1, hfl2⟩ := front_gen hFr0
      clear hFr0
      k_steps
      refine Paused.go ?_
      refine join_bool (row.length < 12) ?jA ?_
      case jA =>
        k_steps
        all_goals first
          | exact JoinB.no
          | exact JoinB.yes (by omega)
      intro v tkv hv
      cases v
      case true =>
        replace hv := hv rfl
        k_steps
        refine Paused.go ?_
        refine' lrow_c (M := M2) (ns := fr) ?BZr2 ?FZr2 ?KZr2 ?NZr2 ?TZr2 ?kZr2 ?mZr2 hFr ?dZr2 ?uZr2 rfl ?M1r2 ?M8r2 hfl1 ?l2r2 hfb hfn ?_
        case BZr2 => k_asm
        case FZr2 => k_asm
        case KZr2 => k_asm
        case NZr2 => k_asm
        case TZr2 => k_asm
        case kZr2 => exact rfl
        case mZr2 => k_mem
        case dZr2 => ktr_room
        case uZr2 => ktr_units
        case M1r2 => omega
        case M8r2 => omega
        case l2r2 => omega
        k_whole
        intro y9 ws8 k8 h8 tk8 F8 N8 I8 l8
        (try simp only [AllLt, and_true] at l8)
        (try k_sweep)
        have hcl8 := cbX1_length (ns := fr) (M := M2)
        have hG8 := good_start (M := M2) hfb hfn hG1 hG7 (by omega)
        k_steps
        (rename Fr _ _ _ _ => F3)
        (rename News _ _ _ _ => N3)
        (rename IntsAre _ (row ++ _) => I3)
        refine' MidP.intro (M := M2) F3 N3 ?a2M0 ?a3M0 ?arM0 ?hsM0 d2 rfl ?d3M0 I3 (good0 G hG8) ?hlM0 ?hM0
        case a2M0 => k_mem
        case a3M0 => k_mem
        case arM0 => k_mem
        case hsM0 => kcf_all
        case d3M0 => with_reducible assumption
        case hlM0 => rw [List.length_append]; omega
        case hM0 => intro y y1 y2 y3 y4 y5 y6 y7; simp [y1, y2, y3, y4, y5, y6, y7]

      case false =>
        clear hv
        k_steps
        · refine Paused.go ?_
          refine' lrow_c (M := M2) (ns := fr) ?BZr3 ?FZr3 ?KZr3 ?NZr3 ?TZr3 ?kZr3 ?mZr3 hFr ?dZr3 ?uZr3 rfl ?M1r3 ?M8r3 hfl1 ?l2r3 hfb hfn ?_
          case BZr3 => k_asm
          case FZr3 => k_asm
          case KZr3 => k_asm
          case NZr3 => k_asm
          case TZr3 => k_asm
          case kZr3 => exact rfl
          case mZr3 => k_mem
          case dZr3 => ktr_room
          case uZr3 => ktr_units
          case M1r3 => omega
          case M8r3 => omega
          case l2r3 => omega
          k_whole
          intro y9 ws8 k8 h8 tk8 F8 N8 I8 l8
          (try simp only [AllLt, and_true] at l8)
          (try k_sweep)
          have hcl8 := cbX1_length (ns := fr) (M := M2)
          have hG8 := good_start (M := M2) hfb hfn hG1 hG7 (by omega)
          k_steps
          refine Paused.go ?_
          have hw0 : (row.length : Int) ≤ (if ((cbX fr 1 fr.length M2).length : Int) > (row.length : Int) then ((cbX fr 1 fr.length M2).length : Int) else (row.length : Int)) ∧ ((cbX fr 1 fr.length M2).length : Int) ≤ (if ((cbX fr 1 fr.length M2).length : Int) > (row.length : Int) then ((cbX fr 1 fr.length M2).length : Int) else (row.length : Int)) ∧ (if ((cbX fr 1 fr.length M2).length : Int) > (row.length : Int) then ((cbX fr 1 fr.length M2).length : Int) else (row.length : Int)) ≤ 20 + (i : Int) := by
            split <;> omega
          generalize (if ((cbX fr 1 fr.length M2).length : Int) > (row.length : Int) then ((cbX fr 1 fr.length M2).length : Int) else (row.length : Int)) = zw at hw0 ⊢
          obtain ⟨ot, hot⟩ : ∃ ot, ot = cbX fr 1 fr.length M2 := ⟨_, rfl⟩
          rw [← hot] at I8 hG8 hcl8 hw0
          try rw [← hot]
          k_steps
          refine Paused.go ?_
          refine wpAny_Assign_Name ?_
          (rename Fr _ _ _ _ => F3)
          refine eval_comp_pairs F3 (by with_unfolding_all rfl) (by decide) (by rfl) (by decide) (by rfl) (by rfl) (by decide) ?_
          k_steps
          (rename IntsAre _ (List.replicate _ 0 ++ row) => J1)
          (rename IntsAre _ (List.replicate _ 0 ++ ot) => J2)
          refine Paused.go ?_
          (rename Fr _ _ _ _ => F3)
          (rename News _ _ _ _ => N3)
          refine' zip_led Builtin.bitXor ?hh10 ?FZ10 ?NZ10 ?hl110 ?hl210 ?JA10 ?JB10 ?sz10 ?tn10 ?fn10
          case hh10 => rfl
          case FZ10 => exact F3
          case NZ10 => exact N3
          case hl110 => k_mem
          case hl210 => k_mem
          case JA10 => exact J1
          case JB10 => exact J2
          case sz10 => rw [PySem.sizeLine_eq]; (try simp only [List.length_append, List.length_replicate, List.length_singleton]); omega
          case tn10 =>
            clear F3 N3
            intro a b tA tB C oC D ys2 own m₂ h tk E' ha hb hC hx hx₂ F' N'
            (try simp only [List.cons_append] at N')
            k_steps
            exact ElEnd.intro (by assumption) (by assumption) (fun _ hp => hp) ⟨_, rfl⟩
          case fn10 =>
            clear F3 N3
            intro D h tk ys2 F' N' l1 hIy
            k_lt l1
            k_steps
            · (rename Fr _ _ _ _ => F3)
              (rename News _ _ _ _ => N3)
              refine' MidP.intro (M := M2) F3 N3 ?a2U0 ?a3U0 ?arU0 ?hsU0 d2 rfl ?d3U0 I8 hG8 ?hlU0 ?hU0
              case a2U0 => k_mem
              case a3U0 => k_mem
              case arU0 => k_mem
              case hsU0 => kcf_all
              case d3U0 => with_reducible assumption
              case hlU0 => omega
              case hU0 => intro y y1 y2 y3 y4 y5 y6 y7; simp [y1, y2, y3, y4, y5, y6, y7]
            · (rename Fr _ _ _ _ => F3)
              (rename News _ _ _ _ => N3)
              (rename (List.sum _ ≠ 0) => hsne)
              have hl8 : (zw - (row.length : Int)).toNat + row.length = (zw - (ot.length : Int)).toNat + ot.length := by omega
              have hal : (addI (padI (zw - (row.length : Int)).toNat row) (padI (zw - (ot.length : Int)).toNat ot)).length = (zw - (row.length : Int)).toNat + row.length := by rw [add_length (by unfold padI; simp only [List.length_append, List.length_replicate]; exact hl8)]; unfold padI; rw [List.length_append, List.length_replicate]
              refine' MidP.intro (M := M2) F3 N3 ?a2U1 ?a3U1 ?arU1 ?hsU1 d2 rfl ?d3U1 hIy (good1 G hG8 hl8 hsne) ?hlU1 ?hU1
              case a2U1 => k_mem
              case a3U1 => k_mem
              case arU1 => k_mem
              case hsU1 => kcf_all
              case d3U1 => with_reducible assumption
              case hlU1 => (show (addI (padI (zw - (row.length : Int)).toNat row) (padI (zw - (ot.length : Int)).toNat ot)).length ≤ _); omega
              case hU1 => intro y y1 y2 y3 y4 y5 y6 y7; simp [y1, y2, y3, y4, y5, y6, y7]
        ·
          (rename Fr _ _ _ _ => F3)
          (rename News _ _ _ _ => N3)
          (rename IntsAre _ (row ++ [0]) => I3)
          refine' MidP.intro (M := M2) F3 N3 ?a2M1 ?a3M1 ?arM1 ?hsM1 d2 rfl ?d3M1 I3 (good3 G) ?hlM1 ?hM1
          case a2M1 => k_mem
          case a3M1 => k_mem
          case arM1 => k_mem
          case hsM1 => kcf_all
          case d3M1 => with_reducible assumption
          case hlM1 => rw [List.length_append, List.length_singleton]; omega
          case hM1 => intro y y1 y2 y3 y4 y5 y6 y7; simp [y1, y2, y3, y4, y5, y6, y7]

        · refine Paused.go ?_
          refine join_bool (row.length < 11) ?jB ?_
          case jB =>
            k_steps
            all_goals first
              | exact JoinB.no
              | exact JoinB.yes (by omega)
          intro v tkv hv
          cases v
          case true =>
            replace hv := hv rfl
            k_steps
            refine Paused.go ?_
            (rename Fr _ _ _ _ => F3)
            (rename News _ _ _ _ => N3)
            refine' spr_loop (row := row) (by rfl) F3 N3 ?hmS ?US rfl ?hlS I1 ?turnS ?doneS
            case hmS => k_mem
            case US => k_updF
            case hlS => intro o; (try dsimp only); k_mem
            case turnS =>
              clear F3 N3
              intro i2 x t2 c2 vs2 k2 h3 tk3 I2 oI2 hi2 hx2 hm2 I8 off8 hc8 F8 N8
              (try dsimp only at off8 N8)
              simp only [List.forall_mem_cons] at off8
              repeat (have oJ := And.left off8; replace off8 := And.right off8)
              (try dsimp only at *)
              have hbk := G.byte x hm2
              have hsl : (spr (row.take i2)).length ≤ 22 := by rw [spr_length, List.length_take]; omega
              k_steps
              (rename Fr _ _ _ _ => F3)
              (rename News _ _ _ _ => N3)
              (rename IntsAre _ (spr (List.take i2 _) ++ _) => I3)
              refine' spr_end F3 N3 ?aS ?bS ?cS I3 ?dS ?eS
              case aS => (try dsimp only); kcf_all
              case bS => k_mem
              case cS => (try dsimp only); k_all
              case dS => exact spr_snoc1 hx2
              case eS => (intro y y1; simp [y1]; intro a b; exact absurd a b)
            case doneS =>
              clear F3 N3
              intro c2 vs2 k2 h3 tk3 I8 F8 N8
              (try dsimp only at N8)
              have hsl := spr_length row
              k_steps
              (rename IntsAre _ (List.take _ (spr _)) => I3)
              have e3 : (spr row).length - (-(-1 : Int)).toNat = 2 * row.length - 1 := by rw [spr_length]; rfl
              rw [e3] at I3
              (rename Fr _ _ _ _ => F3)
              (rename News _ _ _ _ => N3)
              refine' MidP.intro (M := M2) F3 N3 ?a2M9 ?a3M9 ?arM9 ?hsM9 d2 rfl ?d3M9 I3 (good4 G) ?hlM9 ?hM9
              case a2M9 => k_mem
              case a3M9 => k_mem
              case arM9 => k_mem
              case hsM9 => kcf_all
              case d3M9 => with_reducible assumption
              case hlM9 => rw [List.length_take]; omega
              case hM9 => intro y y1 y2 y3 y4 y5 y6 y7; simp [y1, y2, y3, y4, y5, y6, y7]
          case false =>
            clear hv
            k_steps
            refine Paused.go ?_
            refine join_bool (1 < M2) ?jC ?_
            case jC =>
              k_steps
              all_goals first
                | exact JoinB.no
                | exact JoinB.yes (by omega)
            intro v tkv hv
            cases v
            case true =>
              replace hv := hv rfl
              k_steps
              refine Paused.go ?_
              (rename Fr _ _ _ _ => F3)
              (rename News _ _ _ _ => N3)
              (rename IsRange _ _ _ _ _ _ _ _ => rgX)
              refine LCg.CompSrc.range (by rfl) F3 N3 rgX (small_one (by omega) (by omega) (by omega) (by omega)) (rangeSize_nat _ _) (by rw [PySem.sizeLine_eq]; omega) ?_
              intro gQ
              refine' kcf_range (fun k => timesI (row.getD k.toNat 0) ((row.length : Int) - 1 - k)) (fun k' t' I' oI' C' oC' D' m' ys' h' tk' E' hlo' hhi' hC' hx' F' N' off' ne' hMark' => ?_) ?_
              · have hbk := getD_all (P := fun x => 0 ≤ x ∧ x < 256) (i := k'.toNat) (l := row) (by omega) G.byte
                k_steps
              · unfold KPfDone
                intro ys hys
                have e0 : ((row.length : Int) - 0).toNat = row.length := by omega
                rw [e0, k5_ks] at hys
                have hyl := k5L_length row
                clear F3 N3 rgX
                k_steps
                (rename Fr _ _ _ _ => F3)
                (rename News _ _ _ _ => N3)
                refine' MidP.intro (M := M2 - 1) F3 N3 ?a2M2 ?a3M2 ?arM2 ?hsM2 ?d2M2 ?xM2 ?d3M2 hys (good5 G hv) ?hlM2 ?hM2
                case a2M2 => k_mem
                case a3M2 => k_mem
                case arM2 => k_mem
                case hsM2 => kcf_all
                case d3M2 => with_reducible assumption
                case hlM2 => omega
                case hM2 => intro y y1 y2 y3 y4 y5 y6 y7; simp [y1, y2, y3, y4, y5, y6, y7]
                case d2M2 => with_reducible assumption
                case xM2 => omega
            case false =>
              clear hv
              k_steps
              ·
                refine Paused.go ?_
                (rename Fr _ _ _ _ => F3)
                (rename News _ _ _ _ => N3)
                (rename IsRange _ _ _ _ _ _ _ _ => rgX)
                refine LCg.CompSrc.range (by rfl) F3 N3 rgX (small_one (by omega) (by omega) (by omega) (by omega)) (rangeSize_nat _ _) (by rw [PySem.sizeLine_eq]; omega) ?_
                intro gQ
                refine' kcf_range (fun k => timesI (row.getD ((row.length : Int) - 1 - k).toNat 0) (k * ((M2 : Int) - 1))) (fun k' t' I' oI' C' oC' D' m' ys' h' tk' E' hlo' hhi' hC' hx' F' N' off' ne' hMark' => ?_) ?_
                · have hbk := getD_all (P := fun x => 0 ≤ x ∧ x < 256) (i := ((row.length : Int) - 1 - k').toNat) (l := row) (by omega) G.byte
                  k_steps
                · unfold KPfDone
                  intro ys hys
                  have e0 : ((row.length : Int) - 0).toNat = row.length := by omega
                  rw [e0, k6_ks hG1] at hys
                  have hyl := k6L_length (M2 - 1) row
                  clear F3 N3 rgX
                  k_steps
                  (rename Fr _ _ _ _ => F3)
                  (rename News _ _ _ _ => N3)
                  refine' MidP.intro (M := M2) F3 N3 ?a2M3 ?a3M3 ?arM3 ?hsM3 d2 rfl ?d3M3 hys (good6 G) ?hlM3 ?hM3
                  case a2M3 => k_mem
                  case a3M3 => k_mem
                  case arM3 => k_mem
                  case hsM3 => kcf_all
                  case d3M3 => with_reducible assumption
                  case hlM3 => omega
                  case hM3 => intro y y1 y2 y3 y4 y5 y6 y7; simp [y1, y2, y3, y4, y5, y6, y7]
              ·
                refine Paused.go ?_
                refine wpAny_Assign_Name ?_
                (rename Fr _ _ _ _ => F3)
                refine eval_comp_pairs F3 (by with_unfolding_all rfl) (by decide) (by rfl) (by decide) (by rfl) (by rfl) (by decide) ?_
                k_steps
                refine Paused.go ?_
                (rename Fr _ _ _ _ => F3)
                (rename News _ _ _ _ => N3)
                refine' LCg.CompSrc.ledger (its := List.toArray vs) (k := k) (by rfl) F3 N3 ?hmC0 ?szC0 ?_
                case hmC0 => k_mem
                case szC0 => rw [PySem.sizeLine_eq, List.size_toArray]; omega
                intro gQ
                refine' kcf_list (fun x => timesI x (z.fdiv 8)) I1 (fun k' t' I' oI' C' oC' D' m' ys' h' tk' E' hk' hC' hx' F' N' off' ne' hMark' => ?_) ?_
                · have hbk := G.byte k' hk'
                  k_steps
                · unfold KPfDone
                  intro ys hys
                  clear F3 N3
                  have hyl : (row.map (fun x => timesI x (z.fdiv 8))).length = row.length := List.length_map ..
                  k_steps
                  (rename IntsAre _ (row ++ [0]) => J1)
                  (rename IntsAre _ ([0] ++ _) => J2)
                  refine Paused.go ?_
                  (rename Fr _ _ _ _ => F3)
                  (rename News _ _ _ _ => N3)
                  refine' zip_led Builtin.bitXor ?hh70 ?FZ70 ?NZ70 ?hl170 ?hl270 ?JA70 ?JB70 ?sz70 ?tn70 ?fn70
                  case hh70 => rfl
                  case FZ70 => exact F3
                  case NZ70 => exact N3
                  case hl170 => k_mem
                  case hl270 => k_mem
                  case JA70 => exact J1
                  case JB70 => exact J2
                  case sz70 => rw [PySem.sizeLine_eq]; (try simp only [List.length_append, List.length_replicate, List.length_singleton]); omega
                  case tn70 =>
                    clear F3 N3
                    intro a b tA tB C oC D ys2 own m₂ h tk E' ha hb hC hx hx₂ F' N'
                    (try simp only [List.cons_append] at N')
                    k_steps
                    exact ElEnd.intro (by assumption) (by assumption) (fun _ hp => hp) ⟨_, rfl⟩
                  case fn70 =>
                    clear F3 N3
                    intro D h tk ys2 F' N' l1 hIy
                    k_lt l1
                    k_steps
                    (rename Fr _ _ _ _ => F3)
                    (rename News _ _ _ _ => N3)
                    have hal : (addI (row ++ [0]) ([0] ++ row.map (fun x => timesI x (z.fdiv 8)))).length = row.length + 1 := by rw [add_length (by simp)]; simp
                    refine' MidP.intro (M := M2) F3 N3 ?a2W70 ?a3W70 ?arW70 ?hsW70 d2 rfl ?d3W70 hIy (good7 (z.fdiv 8) G) ?hlW70 ?hW70
                    case a2W70 => k_mem
                    case a3W70 => k_mem
                    case arW70 => k_mem
                    case hsW70 => kcf_all
                    case d3W70 => with_reducible assumption
                    case hlW70 => (show (addI (row ++ [0]) ([0] ++ row.map (fun x => timesI x (z.fdiv 8)))).length ≤ _); omega
                    case hW70 => intro y y1 y2 y3 y4 y5 y6 y7; simp [y1, y2, y3, y4, y5, y6, y7]
              ·
                refine Paused.go ?_
                (rename Fr _ _ _ _ => F3)
                (rename News _ _ _ _ => N3)
                refine' LCg.CompSrc.ledger (its := List.toArray vs) (k := k) (by rfl) F3 N3 ?hmC1 ?szC1 ?_
                case hmC1 => k_mem
                case szC1 => rw [PySem.sizeLine_eq, List.size_toArray]; omega
                intro gQ
                refine' kcf_list (fun x => timesI x (z.fdiv 8)) I1 (fun k' t' I' oI' C' oC' D' m' ys' h' tk' E' hk' hC' hx' F' N' off' ne' hMark' => ?_) ?_
                · have hbk := G.byte k' hk'
                  k_steps
                · unfold KPfDone
                  intro ys hys
                  clear F3 N3
                  have hyl : (row.map (fun x => timesI x (z.fdiv 8))).length = row.length := List.length_map ..
                  k_steps
                  (rename Fr _ _ _ _ => F3)
                  (rename News _ _ _ _ => N3)
                  refine' MidP.intro (M := M2) F3 N3 ?a2M4 ?a3M4 ?arM4 ?hsM4 d2 rfl ?d3M4 hys (good2 _ G) ?hlM4 ?hM4
                  case a2M4 => k_mem
                  case a3M4 => k_mem
                  case arM4 => k_mem
                  case hsM4 => kcf_all
                  case d3M4 => with_reducible assumption
                  case hlM4 => omega
                  case hM4 => intro y y1 y2 y3 y4 y5 y6 y7; simp [y1, y2, y3, y4, y5, y6, y7])
end
end
end Mine
theorem PySem.Challenge.cw_bq0024_01_holds : PySem.Challenge.rw_bq0024_01.Holds :=
  Mine.law1
