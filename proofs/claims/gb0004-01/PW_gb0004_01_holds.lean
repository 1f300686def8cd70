import PyProof.Rows.All
import Wide.All
import OpenK.AllK
import Wide.FinOn
import PySem.Challenge.RW_gb0004_01
set_option Elab.async false
open PySem PySem.W PyProof.Rows
namespace Mine
local macro_rules | `(tactic| walk_at "call ref") => `(tactic| k_extra "call ref")
local macro_rules | `(tactic| walk_at "eval Name") => `(tactic| k_extra "eval Name")
local macro_rules | `(tactic| walk_at "FnAt") => `(tactic| k_extra "FnAt")
local macro_rules | `(tactic| walk_at "callWith ref") => `(tactic| k_extra "callWith ref")
local macro_rules | `(tactic| walk_at "exec FunctionDef") => `(tactic| k_extra "exec FunctionDef")
local macro_rules | `(tactic| walk_at "subscriptTail") => `(tactic| k_extra "subscriptTail")
local macro_rules | `(tactic| walk_at "truthy ref") => `(tactic| k_extra "truthy ref")
local macro_rules | `(tactic| walk_at "call builtin:len") => `(tactic| k_extra "call builtin:len")
local macro_rules | `(tactic| walk_at "call builtin:list.reverse") => `(tactic| k_extra "call builtin:list.reverse")
local macro_rules | `(tactic| walk_at "newTuple") => `(tactic| k_extra "newTuple")
local macro_rules | `(tactic| walk_at "call type:reversed") => `(tactic| k_extra "call type:reversed")
local macro_rules | `(tactic| walk_at "call builtin:list.append") => `(tactic| k_extra "call builtin:list.append")
local macro_rules | `(tactic| walk_at "newList") => `(tactic| k_extra "newList")
local macro_rules | `(tactic| walk_at "exec For") => `(tactic| k_extra "exec For")
local macro_rules | `(tactic| walk_at "pyIter ref") => `(tactic| k_extra "pyIter ref")
local macro_rules | `(tactic| walk_at "pyIter") => `(tactic| k_extra "pyIter ref")
local macro_rules | `(tactic| walk_at "exec While") => `(tactic| k_extra "exec While")
local macro_rules | `(tactic| walk_at "exec While Compare cons") => `(tactic| k_extra "exec While")
local macro_rules | `(tactic| walk_at "exec While Compare cons nil") => `(tactic| k_extra "exec While")
local macro_rules | `(tactic| walk_at "compareOp Lt ref ref") => `(tactic| k_extra "compareOp Lt ref ref")
local macro_rules | `(tactic| walk_at "call builtin:list.insert") => `(tactic| k_extra "call builtin:list.insert")
local macro_rules | `(tactic| walk_at "call builtin:sorted") => `(tactic| k_extra "call builtin:sorted")
local macro_rules | `(tactic| walk_at "execs cons") => `(tactic| k_extra "execs cons")
local macro_rules | `(tactic| walk_at "exec For Tuple Name cons nil") => `(tactic| k_extra "exec For Tuple Name cons nil")
-- H1
open PySem PySem.W PyProof.Rows
set_option Elab.async false
section
set_option maxRecDepth 100000 in
set_option maxHeartbeats 8000000 in
open_top hd for PySem.Challenge.rw_gb0004_01
end

-- C0
open PySem PySem.W PyProof.Rows PySem.Calls PySem.Spec
section
abbrev Led := List (Addr × Obj)
/-- what a call from any def's frame says -/
def Con (prog : Program) (w : World) (K : Frag) (p : Program) (loose : List Str) (mean : ExcName → Option Value) (mg mb : Str → Option Value)
    (f : Addr) (vs : List Value) (news : Led) (dN uN : Nat) (Out : Value → Led → Prop) : Prop :=
  ∀ (dp un : Nat) (gd : Option (List Code)) (cn : Str) (cs : Scope) (a : Addr) (ccd : Value) (cl : List (Str × Addr)) (outer : List Env) (A₀ : Around) (base h₀ : Heap) (L : Addr) (m : Str → Option Value) (s : Shared) (Q E : Value → Shared → Prop),
    Below A₀ base outer h₀ → Fr h₀ L s.heap m → K.In h₀ → News h₀ L s.heap news → Top p loose mean mg mb h₀ → cs.kind = .function → dp + dN < recursionLimit → un + uN < cLine →
    (∀ r news' h' tk', Fr h₀ L h' m → News h₀ L h' news' → Out r news' → Q r { s with heap := h', toks := tk' }) →
    wpAny (model prog w) (ktrTop dp un gd cn cs L a ccd cl outer) (call (.ref f) vs) Q E s

abbrev tup2 (a b : Value) (c : Nat) : Obj := { cls := .type "tuple", data := .seq #[a, b] c }
def Lo (d : Nat) (l : Led) : Prop := ∀ p ∈ l, @LT.lt Nat _ p.1 d
theorem Lo.ne {d e : Nat} {l : Led} (h : Lo d l) (he : d ≤ e) : ∀ p ∈ l, p.1 ≠ e := fun p hp => Nat.ne_of_lt (Nat.lt_of_lt_of_le (h p hp) he)
theorem Lo.of {h₀ h : Heap} {L : Addr} {news : Led} (N : News h₀ L h news) : Lo h.objs.size news := fun p hp => Heap.lt_size (N p hp).1
end
section
section
variable {M : Model} {A : Around} {E : Value → Shared → Prop} {s : Shared} {h₀ : Heap} {L a c P : Addr} {m mg mb : Str → Option Value} {cn : Str} {cs : Scope} {ccd : Value} {cl : List (Str × Addr)} {news : List (Addr × Obj)} {g : Obj → List (Addr × Obj)}
  {p : Program} {loose : List Str} {mean : ExcName → Option Value} {name qual : Str} {params : Arguments} {body : List Stmt} {scope : Scope} {ps : Array Value} {pos : Pos} {firstLine : Nat} {clos : List (Str × Addr)} {rest : Led}
/-- what the table of nested defs holds: nothing yet, or the one code object, which lies in the ledger -/
def TabSt (line col : Nat) (qual : Str) (ps : Array Value) (rest : Led) : Prop :=
  ps = #[] ∨ ∃ (c' : Addr) (oc : Obj) (vs : Array Value) (t : Tok), ps = #[rawInt line, rawInt col, .ref c'] ∧ (c', oc) ∈ rest ∧ oc.data = .fields vs ∧ vs[1]? = some (.str qual t)
theorem TabSt.mono {line col : Nat} {qual : Str} {ps : Array Value} {rest rest' : Led} (h : TabSt line col qual ps rest) (hs : ∀ p ∈ rest, p ∈ rest') : TabSt line col qual ps rest' := by
  rcases h with h | ⟨c', oc, vs, t, h1, h2, h3, h4⟩
  · exact .inl h
  · exact .inr ⟨c', oc, vs, t, h1, hs _ h2, h3, h4⟩
theorem nest_any {Q : Value → Shared → Prop} (F : Fr h₀ L s.heap m) (N : News h₀ L s.heap news) (T : Top p loose mean mg mb h₀) (C : CodeHd h₀ c P) (hcd : ccd = .ref c) (U : UpdF P (tabObj ps) news g)
    (ht : TabSt pos.line pos.col qual ps rest) (hrest : ∀ p ∈ rest, p ∈ news)
    (hcl : closureFor scope (envX cn cs L a ccd cl) = pure clos)
    (h : ∀ f c' oc vs t ctv doc h' tk, Fr h₀ L h' m →
      News h₀ L h' ((f, fnMade name qual params body scope clos doc ((mg "__name__").getD .none) c' ctv) :: (c', oc) :: g (tabObj #[rawInt pos.line, rawInt pos.col, .ref c'])) →
      oc.data = .fields vs → vs[1]? = some (.str qual t) → (∀ q ∈ news, q.1 < f) → c' < f → ((∀ q ∈ news, q.1 < c') ∨ (c', oc) ∈ rest) → Q (.ref f) { s with heap := h', toks := tk }) :
    wpAny M A (makeFunction name qual params (.stmts body) scope (envX cn cs L a ccd cl) [] [] [] pos firstLine) Q E s := by
  rcases ht with rfl | ⟨c', oc, vs, t, rfl, h2, h3, h4⟩
  · refine nest_K F N T C hcd U (by simp [TriplesOk]) (by simp [codeAmong]) hcl ?_
    intro f c' oc vs t ctv doc h' tk F' N' d1 d2 l1 l2
    refine h f c' oc vs t ctv doc h' tk F' (by simpa using N') d1 d2 (fun q hq => Nat.lt_trans (l1 q hq) l2) l2 (.inl l1)
  · obtain ⟨own, rst, rfl, hgr, u1, u2⟩ := U.split
    refine nestHit_K F N T C hcd (List.mem_append_right _ (.head _)) (by simp [TriplesOk, rawInt]) (c' := c') (by simp [codeAmong, rawInt]) hcl ?_
    intro f ctv doc h' tk F' N' l1
    refine h f c' oc vs t ctv doc h' tk F' ?_ h3 h4 l1 (l1 _ (hrest _ h2)) (.inr h2)
    rw [hgr]
    intro q hq
    rcases List.mem_cons.mp hq with rfl | hq
    · exact N' _ (.head _)
    · rcases List.mem_cons.mp hq with rfl | hq
      · exact N' _ (.tail _ (hrest _ h2))
      · exact N' _ (.tail _ hq)
end
/-- the def that stands i-th in a block -/
def getInner (b : Option Stmt) (i : Nat) : Option (Str × Arguments × List Stmt × Scope × Pos) := match b with
  | some (.FunctionDef _ _ l _ _ _ _ _ _ _) => match l[i]? with
    | some (.FunctionDef n a b _ _ _ sc _ _ pos) => some (n, a, b, sc, pos)
    | _ => none
  | _ => none
end
section
/-- a mark at which the walk stands still -/
def Stopped (P : Prop) : Prop := P
theorem stop_here {P : Prop} (h : Stopped P) : P := h
theorem go_on {P : Prop} (h : P) : Stopped P := h
end
section
theorem Lo.up {d e : Nat} {l : Led} (h : Lo d l) (he : d ≤ e) : Lo e l := fun p hp => Nat.lt_of_lt_of_le (h p hp) he
theorem news_rot3 {h₀ h : Heap} {L : Addr} {x y d : Addr × Obj} {r : Led} (N : News h₀ L h (x :: y :: d :: r)) : News h₀ L h (d :: x :: y :: r) := fun p hp => N p (by
  rcases List.mem_cons.mp hp with e | hp
  · subst e; exact .tail _ (.tail _ (.head _))
  rcases List.mem_cons.mp hp with e | hp
  · subst e; exact .head _
  rcases List.mem_cons.mp hp with e | hp
  · subst e; exact .tail _ (.head _)
  exact .tail _ (.tail _ (.tail _ hp)))
theorem news_sub {h₀ h : Heap} {L : Addr} {l l' : Led} (N : News h₀ L h l) (hs : ∀ p ∈ l', p ∈ l) : News h₀ L h l' := fun p hp => N p (hs p hp)
end
local macro_rules | `(tactic| k_all) => `(tactic| first | with_reducible assumption | exact Lo.ne (by with_reducible assumption) (by omega) | exact List.forall_mem_nil _ | (refine List.forall_mem_cons.mpr ⟨by k_ne, ?_⟩; k_all))

-- P0
open PySem PySem.W PyProof.Rows PySem.Calls PySem.Spec
section
abbrev midF (lo hi : Int) : Int := (lo + hi).fdiv (2 ^ Int.toNat 1)
abbrev shF (n lo hi : Int) : Int := (midF lo hi - lo) * n
abbrev upF (n x lo hi : Int) : Int := x.fdiv (2 ^ (shF n lo hi).toNat)
abbrev lowF (n x lo hi : Int) : Int := Builtin.bitXor x (upF n x lo hi * 2 ^ (shF n lo hi).toNat)
def innerF : Nat → Int → List Int → Int → Int → Int → List Int
  | 0, _, ds, _, _, _ => ds
  | k + 1, n, ds, x, lo, hi => if lo + 1 = hi then ds.set lo.toNat x else
    innerF k n (innerF k n ds (lowF n x lo hi) lo (midF lo hi)) (upF n x lo hi) (midF lo hi) hi
theorem innerF_length : ∀ (k : Nat) (n : Int) (ds : List Int) (x lo hi : Int), (innerF k n ds x lo hi).length = ds.length
  | 0, _, _, _, _, _ => rfl
  | k + 1, n, ds, x, lo, hi => by
    unfold innerF
    split
    · exact List.length_set ..
    · rw [innerF_length k, innerF_length k]
theorem midF_eq (lo hi : Int) : midF lo hi = (lo + hi) / 2 := by
  show (lo + hi).fdiv (2 ^ 1) = _
  rw [Int.fdiv_eq_ediv_of_nonneg _ (by decide)]; rfl
theorem midF_lt {lo hi : Int} (h1 : lo + 1 < hi) : lo < midF lo hi ∧ midF lo hi < hi := by
  rw [midF_eq]; omega
theorem shF_bd {n lo hi : Int} (h0 : 0 ≤ lo) (h1 : lo < hi) (h2 : hi ≤ 6) (hn : 1 ≤ n) (hn2 : n ≤ 6) : 0 ≤ shF n lo hi ∧ shF n lo hi ≤ 36 := by
  have e : midF lo hi - lo = (hi - lo) / 2 := by rw [midF_eq]; omega
  unfold shF
  rw [e]
  have a1 : 0 ≤ (hi - lo) / 2 := by omega
  have a2 : (hi - lo) / 2 ≤ 6 := by omega
  refine ⟨Int.mul_nonneg a1 (by omega), ?_⟩
  exact Int.le_trans (Int.mul_le_mul a2 hn2 (by omega) (by omega)) (by decide)
theorem pow_pos2 (s : Nat) : (0 : Int) < 2 ^ s := Int.pow_pos (by decide)
theorem up_bd {x : Int} (s : Nat) (h0 : 0 ≤ x) (h1 : x < 64) : 0 ≤ x.fdiv (2 ^ s) ∧ x.fdiv (2 ^ s) < 64 := by
  have hp : (0 : Int) < 2 ^ s := pow_pos2 s
  rw [Int.fdiv_eq_ediv_of_nonneg _ (Int.le_of_lt hp)]
  refine ⟨Int.ediv_nonneg h0 (Int.le_of_lt hp), ?_⟩
  exact Int.lt_of_le_of_lt (Int.ediv_le_self _ h0) h1
theorem low_small : ∀ x : Fin 64, ∀ s : Fin 7, 0 ≤ Builtin.bitXor (x.val : Int) ((x.val : Int).fdiv (2 ^ s.val) * 2 ^ s.val) ∧ Builtin.bitXor (x.val : Int) ((x.val : Int).fdiv (2 ^ s.val) * 2 ^ s.val) < 64 := by decide +kernel
theorem low_big : ∀ x : Fin 64, Builtin.bitXor (x.val : Int) 0 = x.val := by decide +kernel
theorem low_bd {x : Int} (s : Nat) (h0 : 0 ≤ x) (h1 : x < 64) : 0 ≤ Builtin.bitXor x (x.fdiv (2 ^ s) * 2 ^ s) ∧ Builtin.bitXor x (x.fdiv (2 ^ s) * 2 ^ s) < 64 := by
  obtain ⟨y, rfl⟩ := Int.eq_ofNat_of_zero_le h0
  have hy : y < 64 := by omega
  by_cases hs : s < 7
  · exact low_small ⟨y, hy⟩ ⟨s, hs⟩
  · have hp : (64 : Int) < 2 ^ s := by
      have : (2 : Int) ^ 7 ≤ 2 ^ s := by
        have := Nat.pow_le_pow_right (n := 2) (by decide) (show 7 ≤ s by omega)
        exact_mod_cast this
      omega
    have e : (y : Int).fdiv (2 ^ s) = 0 := by
      rw [Int.fdiv_eq_ediv_of_nonneg _ (by omega)]
      exact Int.ediv_eq_zero_of_lt (by omega) (by omega)
    rw [e, Int.zero_mul, low_big ⟨y, hy⟩]
    show (0 : Int) ≤ (y : Int) ∧ (y : Int) < 64
    omega
/-- bit_length of a small number -/
theorem bits_small : ∀ x : Fin 64, Builtin.Int.intBits (x.val : Int) ≤ 6 := by decide +kernel
theorem bits_bd {x : Int} (h0 : 0 ≤ x) (h1 : x < 64) : Builtin.Int.intBits x ≤ 6 := by
  obtain ⟨y, rfl⟩ := Int.eq_ofNat_of_zero_le h0
  exact bits_small ⟨y, by omega⟩
theorem bits_pos_small : ∀ x : Fin 64, 0 < x.val → 1 ≤ Builtin.Int.intBits (x.val : Int) := by decide +kernel
theorem bits_pos {x : Int} (h0 : 0 < x) (h1 : x < 64) : 1 ≤ Builtin.Int.intBits x := by
  obtain ⟨y, rfl⟩ := Int.eq_ofNat_of_zero_le (Int.le_of_lt h0)
  have hy : 0 < y := by omega
  exact bits_pos_small ⟨y, by omega⟩ hy
end

-- L0
open PySem PySem.W PyProof.Rows PySem.Calls PySem.Spec
set_option maxRecDepth 100000
section
section
variable {prog : Program} {w : World} {A : Around} {E : Value → Shared → Prop} {s : Shared} {env : Env} {h₀ : Heap} {x : Str} {body : List Stmt} {Q : Flow → Shared → Prop}
/-- a turn's end: the frame, the iterator untouched, what else the loop keeps, the invariant -/
def GEnd (h₀ : Heap) (L I : Addr) (io : Obj) (Jn : (Str → Option Value) → Led → Prop) (s₁ s₂ : Shared) : Prop :=
  ∃ h' tk m' nx, s₂ = { s₁ with heap := h', toks := tk } ∧ Fr h₀ L h' m' ∧ News h₀ L h' ((I, io) :: nx) ∧ (∀ p ∈ nx, p.1 ≠ I) ∧ Jn m' nx
def GPost (h₀ : Heap) (L I : Addr) (io : Obj) (Jn : (Str → Option Value) → Led → Prop) (s₁ : Shared) (Q : Flow → Shared → Prop) (f : Flow) (s₂ : Shared) : Prop :=
  match f with
  | .ret v => Q (.ret v) s₂
  | .brk => Q .next s₂
  | _ => GEnd h₀ L I io Jn s₁ s₂
theorem GEnd.intro {L I : Addr} {io : Obj} {Jn : (Str → Option Value) → Led → Prop} {s₁ : Shared} {h' : Heap} {tk : Nat} {m' : Str → Option Value} {nx : Led} (F : Fr h₀ L h' m') (N : News h₀ L h' ((I, io) :: nx)) (hn : ∀ p ∈ nx, p.1 ≠ I) (hj : Jn m' nx) :
    GEnd h₀ L I io Jn s₁ { s₁ with heap := h', toks := tk } := ⟨h', tk, m', nx, rfl, F, N, hn, hj⟩
theorem loopG {I : Addr} {fp : List Addr} {n : Nat} {P : Nat → Value → Prop} {St : Nat → Heap → Prop} {m₀ : Str → Option Value} {news fixed : Led} (J : Nat → (Str → Option Value) → Led → Prop)
    (W : Walks prog w A I fp [I] n P St) (hfp : ∀ b ∈ fp, b = I ∨ ∃ o, (b, o) ∈ fixed) (hio : ∀ i h, St i h → ∃ io, h.get? I = some io)
    (hI0 : h₀.get? I = none) (hIL : I ≠ env.locals) (hnw : ∀ p ∈ news, p.1 ≠ I) (hst : St 0 s.heap) (F : Fr h₀ env.locals s.heap m₀) (N : News h₀ env.locals s.heap news) (hj : J 0 m₀ news)
    (hfix : ∀ i m nx, J i m nx → ∀ p ∈ fixed, p ∈ nx)
    (turn : ∀ i v m₁ nx h tk io, i < n → P i v → J i m₁ nx → (∀ p ∈ nx, p.1 ≠ I) → Fr h₀ env.locals h (fun y => if y = x then some v else m₁ y) → News h₀ env.locals h ((I, io) :: nx) →
      wpAny (model prog w) A (execs body env) (GPost h₀ env.locals I io (J (i + 1)) { s with heap := h, toks := tk } Q) E { s with heap := h, toks := tk })
    (done : ∀ m₁ nx h tk, J n m₁ nx → Fr h₀ env.locals h m₁ → News h₀ env.locals h nx → Q .next { s with heap := h, toks := tk }) :
    LoopAtV prog w A h₀ env x body Q E (.ref I) s := by
  refine ⟨I, fp, [I], n, P, St, m₀, news, J, rfl, W, ?_, ?_, ?_, hst, F, N, hj, ?_, ?_⟩
  · intro hm
    rcases hfp _ hm with e | ⟨o, ho⟩
    · exact hIL e.symm
    · exact (N _ (hfix _ _ _ hj _ ho)).2.1 rfl
  · intro b hb
    rw [List.mem_singleton.mp hb]; exact hI0
  · intro p hp hI
    exact hnw p hp (List.mem_singleton.mp hI)
  · rintro i v m₁ nx s₁ own ⟨hh', tk', rfl⟩ hin hP hJ hoff hown hget hfp' hst' F₁ N₁
    have hoff' : ∀ p ∈ nx, p.1 ≠ I := fun p hp e => hoff p hp (List.mem_singleton.mpr e)
    obtain ⟨io, hio'⟩ := hio _ _ hst'
    have hIo : (I, io) ∈ own := hfp' I (W.sub _ (List.mem_singleton.mpr rfl)) hI0 io hio'
    have N₂ : News h₀ env.locals hh' ((I, io) :: nx) := fun p hp => by
      rcases List.mem_cons.mp hp with rfl | hp
      · exact N₁ _ (List.mem_append_left _ hIo)
      · exact N₁ _ (List.mem_append_right _ hp)
    refine wpAny_mono (turn i v m₁ nx hh' tk' io hin hP hJ hoff' F₁ N₂) (fun f s₂ p => ?_) fun _ _ e => e
    have fin : GEnd h₀ env.locals I io (J (i + 1)) { s with heap := hh', toks := tk' } s₂ → LoopStepU h₀ env.locals [I] own (J (i + 1)) { s with heap := hh', toks := tk' } .next s₂ := by
      rintro ⟨h', tk, m', nx', e, F', N', hn, hm⟩
      refine ⟨rfl, h', tk, m', nx', e, F', fun p hp => ?_, fun p hp hI => hn p hp (List.mem_singleton.mp hI), hm⟩
      rcases List.mem_append.mp hp with h | h
      · have hg : hh'.get? p.1 = some p.2 := hget p h
        rcases hfp _ (hown p h) with e1 | ⟨o, ho⟩
        · rw [e1, hio'] at hg
          have e3 : p = (I, io) := Prod.ext e1 (Option.some.inj hg).symm
          rw [e3]
          exact N' _ (.head _)
        · have h1 := (N₂ _ (.tail _ (hfix _ _ _ hJ _ ho))).1
          rw [h1] at hg
          have e3 : p = (p.1, o) := Prod.ext rfl (Option.some.inj hg).symm
          rw [e3]
          exact N' _ (.tail _ (hfix _ _ _ hm _ ho))
      · exact N' _ (.tail _ h)
    cases f with
    | ret v => exact .ret p
    | brk => exact .brk p
    | next => exact .next (fin p)
    | cont => exact .cont (fin p)
  · rintro h' tk m' news' F' N' _ hJ
    exact done m' news' h' tk hJ F' N'

/-- over a list of the ledger -/
theorem loop_listG {l : Addr} {items : Array Value} {nn : Nat} {m₀ : Str → Option Value} {news : Led} (J : Nat → (Str → Option Value) → Led → Prop)
    (hh : A.handled = none) (hl : (l, W.listOf items nn) ∈ news) (F : Fr h₀ env.locals s.heap m₀) (N : News h₀ env.locals s.heap news) (hj : J 0 m₀ news)
    (hfix : ∀ i m nx, J i m nx → (l, W.listOf items nn) ∈ nx)
    (turn : ∀ I, Lo I news → ∀ i v m₁ nx h tk io, i < items.size → items[i]? = some v → J i m₁ nx → (∀ p ∈ nx, p.1 ≠ I) → Fr h₀ env.locals h (fun y => if y = x then some v else m₁ y) → News h₀ env.locals h ((I, io) :: nx) →
      wpAny (model prog w) A (execs body env) (GPost h₀ env.locals I io (J (i + 1)) { s with heap := h, toks := tk } Q) E { s with heap := h, toks := tk })
    (done : ∀ m₁ nx h tk, J items.size m₁ nx → Fr h₀ env.locals h m₁ → News h₀ env.locals h nx → Q .next { s with heap := h, toks := tk }) :
    wpAny (model prog w) A (pyIter (.ref l)) (fun it s₂ => LoopAtV prog w A h₀ env x body Q E it s₂) E s := by
  have hol := (N _ hl).1
  have hls : s.heap.IsList l items := ⟨_, hol, rfl, nn, rfl⟩
  have hne : l ≠ s.heap.objs.size := Nat.ne_of_lt (Heap.lt_size hol)
  refine wpAny_pyIter_list hls ?_
  refine loopG (fixed := [(l, W.listOf items nn)]) J (Walks.list hh s.heap.objs.size l hne items) ?_ ?_ (next_is_new F) ?_ ?_ ⟨⟨_, Heap.get?_push_size _ rfl, rfl, rfl⟩, hls.at fun o e => Heap.get?_push_of_some _ e⟩ (F.push _) (fun p hp => ⟨Heap.get?_push_of_some _ (N p hp).1, (N p hp).2⟩) hj (fun i m nx h p hp => by rw [List.mem_singleton.mp hp]; exact hfix i m nx h) ?_ ?_
  · intro b hb
    rcases List.mem_cons.mp hb with e | hb
    · exact .inl e
    · exact .inr ⟨_, by rw [List.mem_singleton.mp hb]; exact List.mem_singleton.mpr rfl⟩
  · rintro i h ⟨⟨o, ho, _⟩, _⟩
    exact ⟨o, ho⟩
  · intro e
    exact absurd F.ns.lt (e ▸ Nat.lt_irrefl _)
  · intro p hp e
    exact absurd (Heap.lt_size (N p hp).1) (e ▸ Nat.lt_irrefl _)
  · intro i v m₁ nx h tk io hi hv
    exact turn _ (Lo.of N) i v m₁ nx h tk io hi hv
  · exact done

/-- over reversed(list): the iterator made just now, its list of the ledger -/
theorem loop_revG {D l : Addr} {items : Array Value} {nn : Nat} {m₀ : Str → Option Value} {news : Led} (J : Nat → (Str → Option Value) → Led → Prop)
    (hh : A.handled = none) (hl : (l, W.listOf items nn) ∈ news) (F : Fr h₀ env.locals s.heap m₀) (N : News h₀ env.locals s.heap ((D, revObj l ((items.size : Int) - 1)) :: news)) (hD : Lo D news) (hj : J 0 m₀ news)
    (hfix : ∀ i m nx, J i m nx → (l, W.listOf items nn) ∈ nx)
    (turn : ∀ i v m₁ nx h tk io, i < items.size → items[items.size - 1 - i]? = some v → J i m₁ nx → (∀ p ∈ nx, p.1 ≠ D) → Fr h₀ env.locals h (fun y => if y = x then some v else m₁ y) → News h₀ env.locals h ((D, io) :: nx) →
      wpAny (model prog w) A (execs body env) (GPost h₀ env.locals D io (J (i + 1)) { s with heap := h, toks := tk } Q) E { s with heap := h, toks := tk })
    (done : ∀ m₁ nx h tk, J items.size m₁ nx → Fr h₀ env.locals h m₁ → News h₀ env.locals h nx → Q .next { s with heap := h, toks := tk }) :
    wpAny (model prog w) A (pyIter (.ref D)) (fun it s₂ => LoopAtV prog w A h₀ env x body Q E it s₂) E s := by
  have hol := (N _ (.tail _ hl)).1
  have hls : s.heap.IsList l items := ⟨_, hol, rfl, nn, rfl⟩
  have hD0 := N _ (.head _)
  have hne : l ≠ D := Nat.ne_of_lt (hD _ hl)
  have hit : s.heap.IsRevIter D l ((items.size : Int) - 1) := ⟨_, hD0.1, rfl, rfl⟩
  refine wpAny_pyIter_revIter hit ?_
  refine loopG (fixed := [(l, W.listOf items nn)]) J (Walks.listRev hh D l hne items) ?_ ?_ hD0.2.2 hD0.2.1 (fun p hp => Nat.ne_of_lt (hD p hp)) ⟨Nat.zero_le _, by simpa using hit, hls⟩ F (fun p hp => N p (.tail _ hp)) hj (fun i m nx h p hp => by rw [List.mem_singleton.mp hp]; exact hfix i m nx h) ?_ done
  · intro b hb
    rcases List.mem_cons.mp hb with e | hb
    · exact .inl e
    · exact .inr ⟨_, by rw [List.mem_singleton.mp hb]; exact List.mem_singleton.mpr rfl⟩
  · rintro i h ⟨_, ⟨o, ho, _⟩, _⟩
    exact ⟨o, ho⟩
  · intro i v m₁ nx h tk io hi hv
    exact turn i v m₁ nx h tk io hi hv

/-- over a range by ones -/
theorem loop_rangeG {r : Addr} {a₀ b₀ : Int} {t₀ u₀ v₀ : Tok} {n : Nat} {m₀ : Str → Option Value} {news : Led} (J : Nat → (Str → Option Value) → Led → Prop)
    (hh : A.handled = none) (hr : IsRange s.heap r a₀ b₀ 1 t₀ u₀ v₀) (hsmall : Builtin.Range.small a₀ b₀ 1 = true) (hn : Builtin.Range.rangeSize a₀ b₀ 1 = (n : Int)) (F : Fr h₀ env.locals s.heap m₀) (N : News h₀ env.locals s.heap news) (hj : J 0 m₀ news)
    (turn : ∀ I, Lo I news → ∀ i t m₁ nx h tk io, i < n → J i m₁ nx → (∀ p ∈ nx, p.1 ≠ I) → Fr h₀ env.locals h (fun y => if y = x then some (.int (a₀ + (i : Int)) t) else m₁ y) → News h₀ env.locals h ((I, io) :: nx) →
      wpAny (model prog w) A (execs body env) (GPost h₀ env.locals I io (J (i + 1)) { s with heap := h, toks := tk } Q) E { s with heap := h, toks := tk })
    (done : ∀ m₁ nx h tk, J n m₁ nx → Fr h₀ env.locals h m₁ → News h₀ env.locals h nx → Q .next { s with heap := h, toks := tk }) :
    wpAny (model prog w) A (pyIter (.ref r)) (fun it s₂ => LoopAtV prog w A h₀ env x body Q E it s₂) E s := by
  refine wpAny_pyIter_range hr hsmall ?_
  have W : Walks prog w A s.heap.objs.size [s.heap.objs.size] [s.heap.objs.size] n (fun i v => i < n ∧ ∃ t, v = .int (a₀ + i * 1) t)
      (fun i h => IsRangeIter h s.heap.objs.size (a₀ + (i : Nat) * 1) ((n : Int) - (i : Nat)) 1) := (Walks.range hh _ a₀ 1 n).bound
  refine loopG (fixed := []) J W ?_ ?_ (next_is_new F) ?_ ?_ (by show IsRangeIter _ _ _ _ _; rw [hn]; simpa using Heap.get?_push_size _ rfl) (F.push _) (fun p hp => ⟨Heap.get?_push_of_some _ (N p hp).1, (N p hp).2⟩) hj (fun _ _ _ _ p hp => nomatch hp) ?_ done
  · intro b hb
    exact .inl (List.mem_singleton.mp hb)
  · intro i h hst
    exact ⟨_, hst⟩
  · intro e
    exact absurd F.ns.lt (e ▸ Nat.lt_irrefl _)
  · intro p hp e
    exact absurd (Heap.lt_size (N p hp).1) (e ▸ Nat.lt_irrefl _)
  · rintro i v m₁ nx h tk io hi ⟨_, t, rfl⟩ hJ hnx F₁ N₁
    have e1 : a₀ + (i : Int) * 1 = a₀ + (i : Int) := by omega
    rw [e1] at F₁
    exact turn _ (Lo.of N) i t m₁ nx h tk io hi hJ hnx F₁ N₁
end
end
section
theorem ints_rev {vs : List Value} {ns : List Int} (hi : IntsAre vs ns) {i : Nat} {v : Value} (hlt : i < vs.toArray.size) (hv : vs.toArray[vs.toArray.size - 1 - i]? = some v) : ∃ d t, v = .int d t ∧ ns.reverse[i]? = some d := by
  have hl : vs.length = ns.length := hi.length
  have h2 : i < ns.length := by rw [List.size_toArray] at hlt; omega
  have e : ns.reverse[i]? = ns[ns.length - 1 - i]? := by rw [List.getElem?_reverse h2]
  obtain ⟨t, hx⟩ := hi.get (ns.length - 1 - i) (ns[ns.length - 1 - i]'(by omega)) (by rw [List.getElem?_eq_getElem])
  have h3 : vs[vs.length - 1 - i]? = some v := by simpa using hv
  rw [hl, hx] at h3
  refine ⟨_, t, (Option.some.inj h3).symm, ?_⟩
  rw [e, List.getElem?_eq_getElem]
end
section
theorem ints_reverse : ∀ {vs : List Value} {ns : List Int}, IntsAre vs ns → IntsAre vs.reverse ns.reverse
  | _, _, .nil => .nil
  | _, _, .cons i t h => by
    rw [List.reverse_cons, List.reverse_cons]
    exact PyProof.Rows.IntsAre.append (ints_reverse h) (.cons _ _ .nil)
end

-- L1
open PySem PySem.W PyProof.Rows PySem.Calls PySem.Spec
set_option maxRecDepth 100000
section
/-- Python's order of tuples of ints -/
def lexLt : List Int → List Int → Bool
  | x :: xs, y :: ys => if x = y then lexLt xs ys else decide (x < y)
  | [], _ :: _ => true
  | _, [] => false
abbrev tupO (vs : List Value) (c : Nat) : Obj := { cls := .type "tuple", data := .seq vs.toArray c }
section
variable {prog : Program} {w : World} {A : Around} {E : Value → Shared → Prop} {s : Shared}
theorem tuple_lt_tree {a b : Addr} {vs us : List Value} {xs ys : List Int} {ca cb : Nat} {P : PySem.Fin → Shared → Prop} (ha : s.heap.get? a = some (tupO vs ca)) (hb : s.heap.get? b = some (tupO us cb)) (ia : IntsAre vs xs) (ib : IntsAre us ys)
    (h : P (.done (.ret (.bool (lexLt xs ys)))) s) :
    wpAny (model prog w) A (Builtin.«tuple.__lt__» ⟨[.ref a, .ref b], []⟩) P E s := by
  have hTb : s.TypeIs (.ref b) "tuple" := ⟨_, hb, rfl⟩
  show wpAny _ _ (isInstance (.ref b) (.type "tuple") >>= _) _ _ s
  refine wpAny_bind (wpAny_isInstance hTb isSubtype_tuple_tuple ?_)
  simp only [Bool.not_true, Bool.false_eq_true, if_false]
  refine wpAny_bind (wpAny_tupleItemsOf ha rfl ?_)
  refine wpAny_bind (wpAny_tupleItemsOf hb rfl ?_)
  refine wpAny_bind ?_
  refine wpAny_forIn_list _
    (fun rest r s' => r.1 = none ∧ s' = s ∧ ∃ x' y' xs' ys', rest = List.zip xs' ys' ∧ IntsAre xs' x' ∧ IntsAre ys' y' ∧ lexLt x' y' = lexLt xs ys ∧ (x'.length < y'.length ↔ xs.length < ys.length))
    _ ?_ ?_ _ _ ⟨rfl, rfl, xs, ys, vs, us, by simp, ia, ib, rfl, Iff.rfl⟩
  · rintro ⟨u, v⟩ rest r s' ⟨hr, rfl, x', y', xs', ys', hz, hx', hy', hdec, hlen⟩
    cases hx' with
    | nil => simp at hz
    | cons k1 t1 hx'' =>
      cases hy' with
      | nil => simp at hz
      | cons k2 t2 hy'' =>
        simp only [List.zip_cons_cons, List.cons.injEq, Prod.mk.injEq] at hz
        obtain ⟨⟨rfl, rfl⟩, rfl⟩ := hz
        refine wpAny_bind (wpAny_eqBool_int ?_)
        by_cases hk : k1 = k2
        · subst hk
          simp only [beq_self_eq_true, Bool.not_true, Bool.false_eq_true, if_false]
          refine wpAny_pure ⟨rfl, rfl, _, _, _, _, rfl, hx'', hy'', ?_, ?_⟩
          · rw [← hdec]; simp [lexLt]
          · simpa using hlen
        · have hk' : (k1 == k2) = false := by simp [hk]
          rw [hk']
          simp only [Bool.not_false, if_true]
          refine wpAny_bind (wpAny_rule ?_)
          have hf : lexLt xs ys = decide (k1 < k2) := by rw [← hdec]; simp [lexLt, hk]
          rw [hf] at h
          refine wpAny_bind (m := richCompare .Lt (.int k1 t1) (.int k2 t2)) (show wpAny _ _ (compareOp .Lt (.int k1 t1) (.int k2 t2)) _ _ _ from PyProof.Rows.lt_int ?_)
          exact wpAny_bind (wpAny_pure (wpAny_pure (wpAny_pure h)))
  · rintro ⟨r1, r2⟩ s' ⟨hr, rfl, x', y', xs', ys', hz, hx', hy', hdec, hlen⟩
    simp only at hr
    subst hr
    refine wpAny_pure ?_
    have hl1 := ia.length
    have hl2 := ib.length
    have hfin : Builtin.Tuple.tupleCompareSizes .Lt vs.toArray.size us.toArray.size = .bool (lexLt xs ys) := by
      rw [← hdec, List.size_toArray, List.size_toArray, hl1, hl2]
      show Value.bool (decide (xs.length < ys.length)) = _
      cases hx' with
      | nil =>
        cases hy' with
        | nil => rw [decide_eq_false (by rw [← hlen]; simp)]; rfl
        | cons _ _ _ => rw [decide_eq_true (by rw [← hlen]; simp)]; rfl
      | cons _ _ _ =>
        cases hy' with
        | nil => rw [decide_eq_false (by rw [← hlen]; simp)]; rfl
        | cons _ _ _ => simp at hz
    show P (.done (.ret (Builtin.Tuple.tupleCompareSizes .Lt vs.toArray.size us.toArray.size))) s'
    rw [hfin]; exact h
theorem tuple_lt {a b : Addr} {vs us : List Value} {xs ys : List Int} {ca cb : Nat} {Q : Value → Shared → Prop} (ha : s.heap.get? a = some (tupO vs ca)) (hb : s.heap.get? b = some (tupO us cb)) (ia : IntsAre vs xs) (ib : IntsAre us ys) (hu : A.units < cLine)
    (h : Q (.bool (lexLt xs ys)) s) : wpAny (model prog w) A (compareOp .Lt (.ref a) (.ref b)) Q E s :=
  show wpAny (model prog w) A (richCompare .Lt (.ref a) (.ref b)) Q E s from
  wpAny_richCompare_same_room ⟨_, ha, rfl⟩ ⟨_, hb, rfl⟩ F.slot_tuple_lt (wpAny_call_entry F.slot_tuple_lt ⟨_, ha, rfl⟩ F.entry_tuple_lt (tuple_lt_tree ha hb ia ib ⟨_, rfl, (fun e => nomatch e), h⟩) (F.args_tuple_lt_2 _ _)) hu
end
end
section
inductive TupsAre (news : Led) : List Value → List (List Int) → Prop
  | nil : TupsAre news [] []
  | cons {a : Addr} {vs : List Value} {xs : List Int} {c : Nat} {rest : List Value} {rs : List (List Int)} : (a, tupO vs c) ∈ news → IntsAre vs xs → TupsAre news rest rs → TupsAre news (.ref a :: rest) (xs :: rs)
theorem TupsAre.length {news : Led} : ∀ {vs : List Value} {xs : List (List Int)}, TupsAre news vs xs → vs.length = xs.length
  | _, _, .nil => rfl
  | _, _, .cons _ _ r => by simp [r.length]
theorem TupsAre.mono {news news' : Led} (hs : ∀ p ∈ news, p ∈ news') : ∀ {vs : List Value} {xs : List (List Int)}, TupsAre news vs xs → TupsAre news' vs xs
  | _, _, .nil => .nil
  | _, _, .cons m i r => .cons (hs _ m) i (r.mono hs)
theorem TupsAre.get {news : Led} : ∀ {vs : List Value} {xs : List (List Int)}, TupsAre news vs xs → ∀ {i : Nat}, i < xs.length → ∃ a us c, vs[i]? = some (.ref a) ∧ (a, tupO us c) ∈ news ∧ IntsAre us (xs.getD i [])
  | _, _, .nil, i, h => absurd h (Nat.not_lt_zero _)
  | _, _, .cons m i _, 0, _ => ⟨_, _, _, rfl, m, i⟩
  | _, _, .cons _ _ r, j + 1, h => by
    obtain ⟨a, us, c, h1, h2, h3⟩ := r.get (i := j) (Nat.lt_of_succ_lt_succ h)
    exact ⟨a, us, c, by simpa using h1, h2, by simpa using h3⟩
theorem TupsAre.append {news : Led} : ∀ {vs us : List Value} {xs ys : List (List Int)}, TupsAre news vs xs → TupsAre news us ys → TupsAre news (vs ++ us) (xs ++ ys)
  | _, _, _, _, .nil, h => h
  | _, _, _, _, .cons m i r, h => .cons m i (r.append h)
theorem TupsAre.take {news : Led} : ∀ {vs : List Value} {xs : List (List Int)}, TupsAre news vs xs → ∀ n : Nat, TupsAre news (vs.take n) (xs.take n)
  | _, _, .nil, n => by simp; exact .nil
  | _, _, .cons _ _ _, 0 => .nil
  | _, _, .cons m i r, n + 1 => .cons m i (r.take n)
theorem TupsAre.drop {news : Led} : ∀ {vs : List Value} {xs : List (List Int)}, TupsAre news vs xs → ∀ n : Nat, TupsAre news (vs.drop n) (xs.drop n)
  | _, _, .nil, n => by simp; exact .nil
  | _, _, .cons m i r, 0 => .cons m i r
  | _, _, .cons _ _ r, n + 1 => r.drop n
section
variable {prog : Program} {w : World} {A : Around} {E : Value → Shared → Prop} {s : Shared}
theorem list_item {value slice : PySem.Expr} {l : Addr} {vs : List Value} {k : Int} {u : Tok} {v : Value} {Q : Value → Shared → Prop}
    (hl : s.heap.IsList l vs.toArray) (h0 : 0 ≤ k) (hhi : k < 2 ^ 63) (hx : vs[k.toNat]? = some v) (h : Q v s)
    (hs : subscripted slice false (.ref l) (.int k u) = operate [.ref l, .int k u] (getItem (.ref l) (.int k u)) := by with_unfolding_all rfl) :
    wpAny (model prog w) A (subscriptTail value slice (.ref l) (.int k u)) Q E s :=
  tail_any hl.typeIs slot_list_getitem.lookup (wpAny_getItem_list hl h0 hhi (by simpa using hx) h) hs
end
end

-- P1
section
def d2iF : Nat → Int → List Int → Int → Int → Int
  | 0, _, _, _, _ => 0
  | k + 1, n, ds, lo, hi => if lo + 1 = hi then ds.getD lo.toNat 0 else d2iF k n ds (midF lo hi) hi * 2 ^ (shF n lo hi).toNat + d2iF k n ds lo (midF lo hi)
theorem two_pow_le {n d : Int} (hd : 0 ≤ d) (hn : 1 ≤ n) (hn2 : n ≤ 6) : (2 : Int) ^ (d * n).toNat ≤ 64 ^ d.toNat := by
  obtain ⟨e, rfl⟩ := Int.eq_ofNat_of_zero_le hd
  obtain ⟨m, rfl⟩ := Int.eq_ofNat_of_zero_le (show 0 ≤ n by omega)
  have e1 : ((e : Int) * (m : Int)).toNat = e * m := by rw [← Int.natCast_mul]; rfl
  rw [e1]
  have h1 : (2 : Nat) ^ (e * m) ≤ 2 ^ (6 * e) := Nat.pow_le_pow_right (by decide) (by rw [Nat.mul_comm]; exact Nat.mul_le_mul (by omega) (Nat.le_refl _))
  have h2 : (2 : Nat) ^ (6 * e) = 64 ^ e := by rw [Nat.pow_mul]
  rw [h2] at h1
  show (2 : Int) ^ (e * m) ≤ 64 ^ e
  exact_mod_cast h1
theorem d2iF_bd {n : Int} {ds : List Int} (hn : 1 ≤ n) (hn2 : n ≤ 6) (hds : ∀ d ∈ ds, 0 ≤ d ∧ d < 64) : ∀ (k : Nat) (lo hi : Int), 0 ≤ lo → lo < hi → hi ≤ ds.length → (hi - lo).toNat ≤ k → 0 ≤ d2iF k n ds lo hi ∧ d2iF k n ds lo hi < 64 ^ (hi - lo).toNat := by
  intro k
  induction k with
  | zero => intro lo hi h1 h2 h3 h4; exfalso; omega
  | succ k IH =>
    intro lo hi h1 h2 h3 h4
    unfold d2iF
    split
    · rename_i e
      have hl : lo.toNat < ds.length := by omega
      have e1 : (hi - lo).toNat = 1 := by omega
      rw [e1]
      have := hds (ds.getD lo.toNat 0) (by rw [List.getD, List.getElem?_eq_getElem hl]; exact List.getElem_mem hl)
      simpa using this
    · rename_i hne
      obtain ⟨m1, m2⟩ := midF_lt (lo := lo) (hi := hi) (by omega)
      obtain ⟨a0, a1⟩ := IH (midF lo hi) hi (by omega) m2 h3 (by omega)
      obtain ⟨b0, b1⟩ := IH lo (midF lo hi) h1 m1 (by omega) (by omega)
      have hp := two_pow_le (d := midF lo hi - lo) (by omega) hn hn2
      have hp0 : (0 : Int) < 2 ^ (shF n lo hi).toNat := pow_pos2 _
      generalize d2iF k n ds (midF lo hi) hi = r1 at *
      generalize d2iF k n ds lo (midF lo hi) = r2 at *
      have e2 : (hi - lo).toNat = (hi - midF lo hi).toNat + (midF lo hi - lo).toNat := by omega
      rw [e2, Int.pow_add]
      change (2 : Int) ^ (shF n lo hi).toNat ≤ _ at hp
      generalize (2 : Int) ^ (shF n lo hi).toNat = p at *
      generalize (64 : Int) ^ (midF lo hi - lo).toNat = q at *
      generalize (64 : Int) ^ (hi - midF lo hi).toNat = t at *
      refine ⟨Int.add_nonneg (Int.mul_nonneg a0 (by omega)) b0, ?_⟩
      have h5 : r1 * p ≤ (t - 1) * q := Int.mul_le_mul (by omega) hp (by omega) (by omega)
      rw [Int.sub_mul, Int.one_mul] at h5
      omega
theorem d2iF_36 {n : Int} {ds : List Int} (hn : 1 ≤ n) (hn2 : n ≤ 6) (hds : ∀ d ∈ ds, 0 ≤ d ∧ d < 64) (hl : ds.length ≤ 6) {k : Nat} {lo hi : Int} (h1 : 0 ≤ lo) (h2 : lo < hi) (h3 : hi ≤ ds.length) (h4 : (hi - lo).toNat ≤ k) :
    0 ≤ d2iF k n ds lo hi ∧ d2iF k n ds lo hi < 68719476736 := by
  obtain ⟨a, b⟩ := d2iF_bd hn hn2 hds k lo hi h1 h2 h3 h4
  refine ⟨a, Int.lt_of_lt_of_le b ?_⟩
  have : (64 : Nat) ^ (hi - lo).toNat ≤ 64 ^ 6 := Nat.pow_le_pow_right (by decide) (by omega)
  have h : (64 : Int) ^ (hi - lo).toNat ≤ 64 ^ 6 := by exact_mod_cast this
  exact Int.le_trans h (by decide)
end

-- P2
section
/-- what _divmod_pos reckons -/
def dmStep (b n : Int) (st : Int × List Int) (d : Int) : Int × List Int := ((st.1 * 2 ^ n.toNat + d) % b, st.2 ++ [(st.1 * 2 ^ n.toNat + d) / b])
def dmBits (b : Int) : Int := (PySem.Builtin.Int.intBits b : Int)
def i2dN (a n : Int) : Nat := (((PySem.Builtin.Int.intBits a : Int) + n - 1).fdiv n).toNat
def i2dF (a n : Int) : List Int := if a = 0 then [] else innerF (i2dN a n) n (List.replicate (i2dN a n) 0) a 0 (i2dN a n)
def dmFold (a b : Int) : Int × List Int := (i2dF a (dmBits b)).reverse.foldl (dmStep b (dmBits b)) (0, [])
def dmF (a b : Int) : Int × Int := (d2iF (dmFold a b).2.length (dmBits b) (dmFold a b).2.reverse 0 (dmFold a b).2.length, (dmFold a b).1)
set_option maxRecDepth 100000
/-- what the walk of _divmod_pos asks of two small numbers -/
abbrev DmOk (a b : Nat) : Prop := 0 < a → 0 < b → dmF (a : Int) (b : Int) = ((a : Int) / (b : Int), (a : Int) % (b : Int)) ∧
    (∀ d ∈ i2dF (a : Int) (dmBits (b : Int)), 0 ≤ d ∧ d < 64) ∧ (∀ d ∈ (dmFold (a : Int) (b : Int)).2, 0 ≤ d ∧ d < 64) ∧ (dmFold (a : Int) (b : Int)).2.length = (i2dF (a : Int) (dmBits (b : Int))).length ∧ 1 ≤ (i2dF (a : Int) (dmBits (b : Int))).length ∧ (i2dF (a : Int) (dmBits (b : Int))).length ≤ 6
theorem dm_a : ∀ a : Fin 7, ∀ b : Fin 42, DmOk (0 + a.val) b.val := by decide +kernel
theorem dm_b : ∀ a : Fin 7, ∀ b : Fin 42, DmOk (7 + a.val) b.val := by decide +kernel
theorem dm_c : ∀ a : Fin 7, ∀ b : Fin 42, DmOk (14 + a.val) b.val := by decide +kernel
theorem dm_d : ∀ a : Fin 7, ∀ b : Fin 42, DmOk (21 + a.val) b.val := by decide +kernel
theorem dm_e : ∀ a : Fin 7, ∀ b : Fin 42, DmOk (28 + a.val) b.val := by decide +kernel
theorem dm_f : ∀ a : Fin 7, ∀ b : Fin 42, DmOk (35 + a.val) b.val := by decide +kernel
theorem dm_all (a b : Nat) (ha : a < 42) (hb : b < 42) : DmOk a b := by
  obtain ⟨q, r, hq, hr, e⟩ : ∃ q r : Nat, q < 6 ∧ r < 7 ∧ a = 7 * q + r := ⟨a / 7, a % 7, by omega, by omega, by omega⟩
  subst e
  match q, hq with
  | 0, _ => exact dm_a ⟨r, hr⟩ ⟨b, hb⟩
  | 1, _ => exact dm_b ⟨r, hr⟩ ⟨b, hb⟩
  | 2, _ => exact dm_c ⟨r, hr⟩ ⟨b, hb⟩
  | 3, _ => exact dm_d ⟨r, hr⟩ ⟨b, hb⟩
  | 4, _ => exact dm_e ⟨r, hr⟩ ⟨b, hb⟩
  | 5, _ => exact dm_f ⟨r, hr⟩ ⟨b, hb⟩
theorem dmF_small (a b : Fin 42) : DmOk a.val b.val := dm_all a.val b.val a.isLt b.isLt
end

-- C1
open PySem PySem.W PyProof.Rows PySem.Calls PySem.Spec
set_option Elab.async false
section
local macro_rules | `(tactic| k_room) => `(tactic| ktr_room)

set_option maxHeartbeats 4000000
theorem div2n1n_con (w : World) (p : Program) (loose : List Str) (mean : ExcName → Option Value) (mg mb : Str → Option Value) (a b n : Int) (ta tb tn : Tok) (news : Led)
    (ha : 0 ≤ a) (ha2 : a < 1048576) (hb : 0 < b) (hb2 : b < 1048576) (hn : 0 ≤ n) (hn2 : n ≤ 64) :
    Con PySem.Challenge.rw_gb0004_01.row.prog w (Mine.hd.heap_39 w.params) p loose mean mg mb 39 [.int a ta, .int b tb, .int n tn] news 1 8
      (fun r news' => ∃ D t1 t2 c, r = .ref D ∧ news' = (D, tup2 (.int (a / b) t1) (.int (a % b) t2) c) :: news ∧ Lo D news) := by
  k_fill
  unfold Con
  intro dp un gd cn cs ca ccd cl outer A₀ base h₀ L m s Q E B F X N T hk hd hu hret
  have hbits : Builtin.Int.intBits a ≤ 64 := intBits_le_64 (by omega) (by omega)
  refine wpAny_call ?_
  refine' code_def ?k1 ?k2 ?k3 ?k4 ?k5 ?kA ?kF ?kK ?k6 ?k7 ?k8 ?k9 ?kB ?_ ?c2 ?c3 ?c4 ?c5
  case kA => exact rfl
  case kF => exact rfl
  case kK => exact hk
  case k1 => exact B
  case k2 => exact F
  case k3 => exact X
  case k4 => exact N
  case k5 => exact T
  case k6 => k_is
  case k7 => k_is
  case k8 => ktr_room
  case k9 => first | exact BindsTo.of_eq rfl | exact binds_K (by k_in) rfl (by k_is) rfl rfl rfl
  case c5 => decide
  case kB => exact locs rfl
  case c2 => exact rfl
  case c3 => exact rfl
  case c4 => exact rfl
  k_whole
  intro g' L' h1 FG1 F1 N1 B1 X1 T1
  try dsimp only
  k_steps
  (with_reducible rename News _ _ _ news => nN)
  exact hret _ _ _ _ (by assumption) (by assumption) ⟨_, _, _, _, rfl, by rw [← Int.fdiv_eq_ediv_of_nonneg _ (by omega), ← Int.fmod_eq_emod_of_nonneg _ (by omega)], fun p hp => Heap.lt_size (nN p hp).1⟩
end

-- CI
open PySem PySem.W PyProof.Rows PySem.Calls PySem.Spec
set_option Elab.async false
section
local macro_rules | `(tactic| k_room) => `(tactic| ktr_room)

set_option maxHeartbeats 4000000
theorem inner_con (w : World) (p : Program) (loose : List Str) (mean : ExcName → Option Value) (mg mb : Str → Option Value) (nm : Str) (args : Arguments) (body : List Stmt) (sc : Scope) (pos : Pos)
    (hin : getInner (PySem.Challenge.pw_gb0004_01.main.body[7]?) 1 = some (nm, args, body, sc, pos))
    (f c' cA cI cN D : Addr) (doc pm ctv : Value) (oc oA oI oN : Obj) (vs : Array Value) (t : Tok) (qual : Str) (R : Led) (n : Int) (tn : Tok) (nn : Nat)
    (mf : (f, fnMade nm qual args body sc [("n", cN), ("inner", cI), ("a_digits", cA)] doc pm c' ctv) ∈ R) (mc : (c', oc) ∈ R) (hoc : oc.data = .fields vs) (hvs : vs[1]? = some (.str qual t))
    (mA : (cA, oA) ∈ R) (hA : oA.data = .cell (some (.ref D))) (mI : (cI, oI) ∈ R) (hI : oI.data = .cell (some (.ref f))) (mN : (cN, oN) ∈ R) (hN : oN.data = .cell (some (.int n tn)))
    (hRD : ∀ p ∈ R, p.1 ≠ D) (hn : 1 ≤ n) (hn2 : n ≤ 6) :
    ∀ (k : Nat) (x lo hi : Int) (tx tlo thi : Tok) (vd : List Value) (ds : List Int), IntsAre vd ds → 0 ≤ lo → lo < hi → hi ≤ ds.length → ds.length ≤ 6 → 0 ≤ x → x < 64 → (hi - lo).toNat ≤ k →
    Con PySem.Challenge.rw_gb0004_01.row.prog w (Mine.hd.heap_39 w.params) p loose mean mg mb f [.int x tx, .int lo tlo, .int hi thi] ((D, W.listOf vd.toArray nn) :: R) k (8 * k)
      (fun r news' => r = .none ∧ ∃ vd', IntsAre vd' (innerF k n ds x lo hi) ∧ news' = (D, W.listOf vd'.toArray nn) :: R) := by
  k_fill
  with_unfolding_all cases hin
  intro k
  induction k with
  | zero => intro x lo hi tx tlo thi vd ds hvd h1 h2 h3 h4 h5 h6 h7; exfalso; omega
  | succ k IH =>
  intro x lo hi tx tlo thi vd ds hvd h1 h2 h3 h4 h5 h6 h7
  unfold Con
  intro dp un gd cn cs ca ccd cl outer A₀ base h₀ L m s Q E B F X N T hk hd hu hret
  have hMk : KstMark := kstMark
  refine wpAny_call ?_
  refine' code_nest ?k1 ?k2 ?k3 ?k4 ?k5 ?kA ?kF ?kK ?k6 ?k7 ?k8 ?k9 ?kB ?_ ?c2 ?c3 ?c4 ?c5
  case kA => exact rfl
  case kF => exact rfl
  case kK => exact hk
  case k1 => exact B
  case k2 => exact F
  case k3 => exact X
  case k4 => exact N
  case k5 => exact T
  case k6 => exact List.Mem.tail _ mf
  case k7 => exact codeRec_news N (List.Mem.tail _ mc) hoc hvs
  case k8 => ktr_room
  case k9 => exact BindsTo.of_eq rfl
  case c5 => decide
  case kB => exact locs rfl
  case c2 => exact rfl
  case c3 => exact rfl
  case c4 => exact rfl
  k_whole
  intro g' L' h1' FG1 F1 N1 B1 X1 T1
  try dsimp only
  have CT : CodeHd g' 52 48 := codeHd_of_K X1 (by kernel_rfl)
  k_with "eval Name" => (k_here; k_dflt (first
    | (refine' nameX_F ?zN ?zC (List.Mem.tail _ mA) hA ?_ ?zA ?zB; (case zA => rfl); (case zB => rfl); (case zC => rfl); (case zN => k_asm); k_whole)
    | (refine' nameX_F ?zN ?zC (List.Mem.tail _ mI) hI ?_ ?zA ?zB; (case zA => rfl); (case zB => rfl); (case zC => rfl); (case zN => k_asm); k_whole)
    | (refine' nameX_F ?zN ?zC (List.Mem.tail _ mN) hN ?_ ?zA ?zB; (case zA => rfl); (case zB => rfl); (case zC => rfl); (case zN => k_asm); k_whole)))
  k_with "callWith ref" => (k_here; k_dflt (refine' callWith_F ?zK ?_; (case zK => exact FnAt.of (by k_asm) (List.Mem.tail _ mf)); k_whole))
  k_with "FnAt" => (k_dflt (exact FnAt.of (by k_asm) (List.Mem.tail _ mf)))
  obtain ⟨sh0, sh1⟩ := shF_bd (n := n) h1 h2 (by omega) hn hn2
  have hups := up_bd (shF n lo hi).toNat h5 h6
  have upb : Builtin.Int.intBits (x.fdiv (2 ^ (shF n lo hi).toNat)) ≤ 6 := bits_bd hups.1 hups.2
  have hlws := low_bd (shF n lo hi).toNat h5 h6
  dsimp only [shF, midF] at sh0 sh1
  clear upb
  k_with "call ref" => (refine stop_here ?_)
  k_steps
  · exact hret _ _ _ _ (by assumption) (by assumption) ⟨rfl, _, by (unfold innerF; rw [if_pos (by assumption)]; assumption), rfl⟩
  have hne : lo + 1 ≠ hi := by assumption
  obtain ⟨md0, md1⟩ := midF_lt (lo := lo) (hi := hi) (by omega)
  have hl1 := innerF_length k n ds (lowF n x lo hi) lo (midF lo hi)
  dsimp only [midF] at md0 md1
  refine go_on ?_
  refine' IH _ _ _ _ _ _ _ _ ?q0 ?q1 ?q2 ?q3 ?q4 ?q5 ?q6 ?q7 _ _ _ _ _ _ _ _ _ _ _ _ _ _ _ _ _ ?c1r1 ?c1r2 ?c1r3 ?c1r4 ?c1r5 ?c1r0 ?c1r6 ?c1r7 ?c1r8
  case c1r1 => k_asm
  case c1r2 => k_asm
  case c1r3 => k_asm
  case c1r4 => k_asm
  case q0 => exact hvd
  case q1 => exact h1
  case q2 => exact md0
  case q3 => omega
  case q4 => exact h4
  case q5 => exact hlws.1
  case q6 => exact hlws.2
  case q7 => omega
  case c1r5 => k_asm
  case c1r0 => first | exact rfl | assumption
  case c1r6 => ktr_room
  case c1r7 => ktr_units
  case c1r8 =>
  intro rc1 nwc1 hc1 tkc1 Fc1 Nc1 hOc1
  obtain ⟨rfl, vd1, hvd1, rfl⟩ := hOc1
  try dsimp only
  try k_fold
  k_steps
  refine go_on ?_
  refine' IH _ _ _ _ _ _ _ _ ?p0 ?p1 ?p2 ?p3 ?p4 ?p5 ?p6 ?p7 _ _ _ _ _ _ _ _ _ _ _ _ _ _ _ _ _ ?c2r1 ?c2r2 ?c2r3 ?c2r4 ?c2r5 ?c2r0 ?c2r6 ?c2r7 ?c2r8
  case c2r1 => k_asm
  case c2r2 => k_asm
  case c2r3 => k_asm
  case c2r4 => k_asm
  case p0 => exact hvd1
  case p1 => omega
  case p2 => exact md1
  case p3 => rw [innerF_length]; exact h3
  case p4 => rw [innerF_length]; exact h4
  case p5 => exact hups.1
  case p6 => exact hups.2
  case p7 => omega
  case c2r5 => k_asm
  case c2r0 => first | exact rfl | assumption
  case c2r6 => ktr_room
  case c2r7 => ktr_units
  case c2r8 =>
  intro rc2 nwc2 hc2 tkc2 Fc2 Nc2 hOc2
  obtain ⟨rfl, vd2, hvd2, rfl⟩ := hOc2
  try dsimp only
  try k_fold
  k_steps
  refine hret _ _ _ _ (by assumption) (by assumption) ⟨rfl, vd2, by (unfold innerF; rw [if_neg hne]; exact hvd2), rfl⟩
end
theorem reset_CI : True := by
  k_with_none
  w_top off
  exact True.intro

-- CA
open PySem PySem.W PyProof.Rows PySem.Calls PySem.Spec
set_option Elab.async false
section
local macro_rules | `(tactic| k_room) => `(tactic| ktr_room)

set_option maxHeartbeats 4000000
theorem i2d_q {a n : Int} (ha : 0 < a) (ha2 : a < 64) (hn : 1 ≤ n) (hn2 : n ≤ 6) : 1 ≤ ((Builtin.Int.intBits a : Int) + n - 1).fdiv n ∧ ((Builtin.Int.intBits a : Int) + n - 1).fdiv n ≤ 6 := by
  have h1 := bits_pos ha ha2
  have h2 := bits_bd (Int.le_of_lt ha) ha2
  generalize Builtin.Int.intBits a = b at *
  rw [Int.fdiv_eq_ediv_of_nonneg _ (by omega)]
  have : n = 1 ∨ n = 2 ∨ n = 3 ∨ n = 4 ∨ n = 5 ∨ n = 6 := by omega
  rcases this with rfl | rfl | rfl | rfl | rfl | rfl <;> omega
theorem i2d_con (w : World) (p : Program) (loose : List Str) (mean : ExcName → Option Value) (mg mb : Str → Option Value) (a n : Int) (ta tn : Tok) (rest rest0 : Led) (ps : Array Value) (h0 : ∀ p ∈ rest0, p ∈ rest)
    (ha : 0 < a) (ha2 : a < 64) (hn : 1 ≤ n) (hn2 : n ≤ 6) (hr : ∀ p ∈ rest, p.1 ≠ 48) (hps : TabSt 59 4 "_int2digits.<locals>.inner" ps rest0) :
    Con PySem.Challenge.rw_gb0004_01.row.prog w (Mine.hd.heap_39 w.params) p loose mean mg mb 53 [.int a ta, .int n tn] ((48, tabObj ps) :: rest) 20 200
      (fun r news' => ∃ D vd tl ps', r = .ref D ∧ IntsAre vd (i2dF a n) ∧ news' = (D, W.listOf vd.toArray 0) :: (48, tabObj ps') :: (tl ++ rest) ∧ TabSt 59 4 "_int2digits.<locals>.inner" ps' (tl ++ rest0) ∧
        Lo D rest ∧ (∀ q ∈ rest, ∀ p ∈ tl, @LT.lt Nat _ q.1 p.1) ∧ (∀ p ∈ tl, p.1 ≠ 48) ∧ @LT.lt Nat _ 48 D ∧ (∀ p ∈ tl, p.1 ≠ D)) := by
  k_fill
  unfold Con
  intro dp un gd cn cs ca ccd cl outer A₀ base h₀ L m s Q E B F X N T hk hd hu hret
  have hbits := bits_bd (Int.le_of_lt ha) ha2
  obtain ⟨hq1, hq2⟩ := i2d_q ha ha2 hn hn2
  have hN1 : 1 ≤ i2dN a n ∧ i2dN a n ≤ 6 := by unfold i2dN; omega
  have hMk : KstMark := kstMark
  refine wpAny_call ?_
  refine' code_defC ?k1 ?k2 ?k3 ?k4 ?k5 ?kA ?kF ?kK ?k6 ?k7 ?k8 ?k9 ?kB ?kD ?_ ?c2 ?c3 ?c4
  case kA => exact rfl
  case kF => exact rfl
  case kK => exact hk
  case k1 => exact B
  case k2 => exact F
  case k3 => exact X
  case k4 => exact N
  case k5 => exact T
  case k6 => k_is
  case k7 => k_is
  case k8 => ktr_room
  case k9 => first | exact BindsTo.of_eq rfl | exact binds_K (by k_in) rfl (by k_is) rfl rfl rfl
  case kB => exact rfl
  case kD => decide +kernel
  case c2 => exact rfl
  case c3 => exact rfl
  case c4 => exact rfl
  k_whole
  intro g' L' h1 tk1 cells1 FG1 F1 N1 Y1 B1 X1 T1 lt1
  k_cells Y1
  try simp only [List.cons_append, List.nil_append] at N1
  try dsimp only
  have hLo : Lo L' rest := fun p hp => lt1 p (.tail _ hp)
  k_lt lt1
  have CT : CodeHd g' 52 48 := codeHd_of_K X1 (by kernel_rfl)
  k_with "exec FunctionDef" => (
    k_dflt (refine' nestDef_K ?zd0 ?zk0 ?za0 ?_; (case zd0 => exact rfl); (case zk0 => exact rfl); (case za0 => exact rfl))
    k_dflt (refine' nest_any ?zF ?zN ?zT ?zC ?zcd ?zU hps ?zhs ?zcl ?_; (case zF => k_asm); (case zN => k_asm); (case zT => k_asm); (case zcd => exact rfl); (case zC => with_reducible assumption); (case zU => k_updF); (case zcl => exact rfl); (case zhs => (intro p9 h9; replace h9 := h0 _ h9; repeat (first | exact h9 | refine List.Mem.tail _ ?_))))
    k_whole
    intro fI cI oI vI tI ctI dI hI tkI FI NI dI1 dI2 ltI1 ltI2 hcI
    try dsimp only at NI
    k_lt ltI1
    rcases hcI with hcI | hcI <;> first | (have hcL : @LT.lt Nat _ cI L' := hLo _ (h0 _ hcI)) | k_lt hcI)
  k_with "call ref" => (refine stop_here ?_)
  k_steps
  all_goals (try (exfalso; omega))
  · (with_reducible rename News _ _ _ _ => nN)
    (with_reducible rename IntsAre _ _ => iA)
    simp only [List.flatten_replicate_singleton, List.length_replicate] at nN iA ⊢
    have N2 := news_rot3 nN
    refine go_on ?_
    refine' inner_con w p loose mean mg mb _ _ _ _ _ ?hinx _ _ _ _ _ _ _ _ _ _ _ _ _ _ _ _ _ n _ 0 ?mfx ?mcx dI1 dI2 ?mAx ?hAx ?mIx ?hIx ?mNx ?hNx ?hRDx hn hn2 (i2dN a n) _ _ _ _ _ _ _ _ iA (Int.le_refl _) ?q2x ?q3x ?q4x (Int.le_of_lt ha) ha2 ?q7x _ _ _ _ _ _ _ _ _ _ _ _ _ _ _ _ _ ?r1x ?r2x ?r3x ?r4x ?r5x ?r0x ?r6x ?r7x ?r8x
    case r4x => exact N2
    case mfx => exact .head _
    case mcx => exact .tail _ (.head _)
    case hinx => with_unfolding_all rfl
    case r1x => k_asm
    case r2x => k_asm
    case r3x => k_asm
    case r5x => k_asm
    case r0x => exact rfl
    case r6x => ktr_room
    case r7x => ktr_units
    case mAx => k_mem
    case hAx => first | with_reducible assumption | assumption | with_unfolding_all assumption
    case mIx => k_mem
    case hIx => first | with_reducible assumption | assumption | with_unfolding_all assumption
    case mNx => k_mem
    case hNx => first | with_reducible assumption | assumption | with_unfolding_all assumption | with_unfolding_all exact rfl
    case hRDx => repeat (first | k_all | refine List.forall_mem_cons.mpr ⟨by k_ne, ?_⟩)
    case q2x => omega
    case q3x => simp only [List.length_replicate]; omega
    case q4x => simp only [List.length_replicate]; omega
    case q7x => show _ ≤ (Int.toNat _); omega
    case r8x =>
    intro r9 nw9 h9 tk9 F9 N9 hO9
    obtain ⟨rfl, vd2, hvd2, rfl⟩ := hO9
    try dsimp only
    try k_fold
    k_steps
    refine hret _ _ _ _ (by assumption) (news_sub (by assumption) ?sbx) ⟨_, vd2, [(cI, oI)], #[rawInt ((59 : Nat) : Int), rawInt ((4 : Nat) : Int), .ref cI], rfl, ?w1x, rfl, ?w2x, ?w3x, ?w4x, ?w5x, ?w6x, ?w7x⟩
    case w1x => (unfold i2dF; rw [if_neg (by omega)]; exact hvd2)
    case w2x => exact .inr ⟨cI, oI, vI, tI, rfl, .head _, dI1, dI2⟩
    case w3x => exact Lo.up hLo (by omega)
    case w4x => (intro q9 h9 p9 g9; rcases List.mem_singleton.mp g9 with rfl; have := hLo q9 h9; show @LT.lt Nat _ q9.1 cI; omega)
    case w5x => (intro p9 g9; rcases List.mem_singleton.mp g9 with rfl; (refine neN ?_; dsimp only; omega))
    case w6x => omega
    case w7x => (intro p9 g9; rcases List.mem_singleton.mp g9 with rfl; (refine neN ?_; dsimp only; omega))
    case sbx =>
      simp only [List.cons_append, List.nil_append]
      repeat (first | (refine List.forall_mem_cons.mpr ⟨by (repeat (first | exact List.Mem.head _ | refine List.Mem.tail _ ?_)), ?_⟩))
      intro p9 h9
      repeat (first | exact h9 | refine List.Mem.tail _ ?_)
  · (with_reducible rename News _ _ _ _ => nN)
    (with_reducible rename IntsAre _ _ => iA)
    simp only [List.flatten_replicate_singleton, List.length_replicate] at nN iA ⊢
    have N2 := news_rot3 nN
    refine go_on ?_
    refine' inner_con w p loose mean mg mb _ _ _ _ _ ?hiny _ _ _ _ _ _ _ _ _ _ _ _ _ _ _ _ _ n _ 0 ?mfy ?mcy dI1 dI2 ?mAy ?hAy ?mIy ?hIy ?mNy ?hNy ?hRDy hn hn2 (i2dN a n) _ _ _ _ _ _ _ _ iA (Int.le_refl _) ?q2y ?q3y ?q4y (Int.le_of_lt ha) ha2 ?q7y _ _ _ _ _ _ _ _ _ _ _ _ _ _ _ _ _ ?r1y ?r2y ?r3y ?r4y ?r5y ?r0y ?r6y ?r7y ?r8y
    case r4y => exact N2
    case mfy => exact .head _
    case mcy => exact .tail _ (.head _)
    case hiny => with_unfolding_all rfl
    case r1y => k_asm
    case r2y => k_asm
    case r3y => k_asm
    case r5y => k_asm
    case r0y => exact rfl
    case r6y => ktr_room
    case r7y => ktr_units
    case mAy => k_mem
    case hAy => first | with_reducible assumption | assumption | with_unfolding_all assumption
    case mIy => k_mem
    case hIy => first | with_reducible assumption | assumption | with_unfolding_all assumption
    case mNy => k_mem
    case hNy => first | with_reducible assumption | assumption | with_unfolding_all assumption | with_unfolding_all exact rfl
    case hRDy => repeat (first | k_all | refine List.forall_mem_cons.mpr ⟨by k_ne, ?_⟩)
    case q2y => omega
    case q3y => simp only [List.length_replicate]; omega
    case q4y => simp only [List.length_replicate]; omega
    case q7y => show _ ≤ (Int.toNat _); omega
    case r8y =>
    intro r9 nw9 h9 tk9 F9 N9 hO9
    obtain ⟨rfl, vd2, hvd2, rfl⟩ := hO9
    try dsimp only
    try k_fold
    k_steps
    refine hret _ _ _ _ (by assumption) (news_sub (by assumption) ?sby) ⟨_, vd2, [], #[rawInt ((59 : Nat) : Int), rawInt ((4 : Nat) : Int), .ref cI], rfl, ?w1y, rfl, ?w2y, ?w3y, ?w4y, ?w5y, ?w6y, ?w7y⟩
    case w1y => (unfold i2dF; rw [if_neg (by omega)]; exact hvd2)
    case w2y => exact .inr ⟨cI, oI, vI, tI, rfl, hcI, dI1, dI2⟩
    case w3y => exact Lo.up hLo (by omega)
    case w4y => (intro q9 h9 p9 g9; cases g9)
    case w5y => (intro p9 g9; cases g9)
    case w6y => omega
    case w7y => (intro p9 g9; cases g9)
    case sby =>
      simp only [List.cons_append, List.nil_append]
      repeat (first | (refine List.forall_mem_cons.mpr ⟨by (repeat (first | exact List.Mem.head _ | refine List.Mem.tail _ ?_)), ?_⟩))
      intro p9 h9
      repeat (first | exact h9 | refine List.Mem.tail _ ?_)
end
theorem reset_CA : True := by
  k_with_none
  w_top off
  exact True.intro

-- CD
open PySem PySem.W PyProof.Rows PySem.Calls PySem.Spec
set_option Elab.async false
section
local macro_rules | `(tactic| k_room) => `(tactic| ktr_room)

set_option maxHeartbeats 4000000
theorem inner2_con (w : World) (p : Program) (loose : List Str) (mean : ExcName → Option Value) (mg mb : Str → Option Value) (nm : Str) (args : Arguments) (body : List Stmt) (sc : Scope) (pos : Pos)
    (hin : getInner (PySem.Challenge.pw_gb0004_01.main.body[8]?) 0 = some (nm, args, body, sc, pos))
    (f c' cI cN cD D : Addr) (doc pm ctv : Value) (oc oI oN oD : Obj) (vs : Array Value) (t : Tok) (qual : Str) (R : Led) (n : Int) (tn : Tok) (nn : Nat) (vd : List Value) (ds : List Int)
    (mf : (f, fnMade nm qual args body sc [("n", cN), ("inner", cI), ("digits", cD)] doc pm c' ctv) ∈ R) (mc : (c', oc) ∈ R) (hoc : oc.data = .fields vs) (hvs : vs[1]? = some (.str qual t))
    (mI : (cI, oI) ∈ R) (hI : oI.data = .cell (some (.ref f))) (mN : (cN, oN) ∈ R) (hN : oN.data = .cell (some (.int n tn))) (mD : (cD, oD) ∈ R) (hD : oD.data = .cell (some (.ref D)))
    (ml : (D, W.listOf vd.toArray nn) ∈ R) (hvd : IntsAre vd ds) (hl6 : ds.length ≤ 6) (hds : ∀ d ∈ ds, 0 ≤ d ∧ d < 64) (hn : 1 ≤ n) (hn2 : n ≤ 6) :
    ∀ (k : Nat) (lo hi : Int) (tlo thi : Tok), 0 ≤ lo → lo < hi → hi ≤ ds.length → (hi - lo).toNat ≤ k →
    Con PySem.Challenge.rw_gb0004_01.row.prog w (Mine.hd.heap_39 w.params) p loose mean mg mb f [.int lo tlo, .int hi thi] R k (8 * k)
      (fun r news' => ∃ t, r = .int (d2iF k n ds lo hi) t ∧ news' = R) := by
  k_fill
  with_unfolding_all cases hin
  intro k
  induction k with
  | zero => intro lo hi tlo thi h1 h2 h3 h7; exfalso; omega
  | succ k IH =>
  intro lo hi tlo thi h1 h2 h3 h7
  unfold Con
  intro dp un gd cn cs ca ccd cl outer A₀ base h₀ L m s Q E B F X N T hk hd hu hret
  have hMk : KstMark := kstMark
  refine wpAny_call ?_
  refine' code_nest ?k1 ?k2 ?k3 ?k4 ?k5 ?kA ?kF ?kK ?k6 ?k7 ?k8 ?k9 ?kB ?_ ?c2 ?c3 ?c4 ?c5
  case kA => exact rfl
  case kF => exact rfl
  case kK => exact hk
  case k1 => exact B
  case k2 => exact F
  case k3 => exact X
  case k4 => exact N
  case k5 => exact T
  case k6 => exact mf
  case k7 => exact codeRec_news N (mc) hoc hvs
  case k8 => ktr_room
  case k9 => exact BindsTo.of_eq rfl
  case c5 => decide
  case kB => exact locs rfl
  case c2 => exact rfl
  case c3 => exact rfl
  case c4 => exact rfl
  k_whole
  intro g' L' h1' FG1 F1 N1 B1 X1 T1
  try dsimp only
  have CT : CodeHd g' 59 55 := codeHd_of_K X1 (by kernel_rfl)
  k_with "eval Name" => (k_here; k_dflt (first
    | (refine' nameX_F ?zN ?zC mD hD ?_ ?zA ?zB; (case zA => rfl); (case zB => rfl); (case zC => rfl); (case zN => k_asm); k_whole)
    | (refine' nameX_F ?zN ?zC mI hI ?_ ?zA ?zB; (case zA => rfl); (case zB => rfl); (case zC => rfl); (case zN => k_asm); k_whole)
    | (refine' nameX_F ?zN ?zC mN hN ?_ ?zA ?zB; (case zA => rfl); (case zB => rfl); (case zC => rfl); (case zN => k_asm); k_whole)))
  k_with "callWith ref" => (k_here; k_dflt (refine' callWith_F ?zK ?_; (case zK => exact FnAt.of (by k_asm) mf); k_whole))
  k_with "FnAt" => (k_dflt (exact FnAt.of (by k_asm) mf))
  k_with "subscriptTail" => (k_here; k_dflt (refine' ksa_sub ?zk1 ml hvd h1 (by omega) (by omega) ?_ ?zk7; (case zk1 => k_asm); (case zk7 => with_unfolding_all rfl); k_whole; intro t9))
  obtain ⟨sh0, sh1⟩ := shF_bd (n := n) h1 h2 (by omega) hn hn2
  dsimp only [shF, midF] at sh0 sh1
  k_with "call ref" => (refine stop_here ?_)
  k_steps
  · exact hret _ _ _ _ (by assumption) (by assumption) ⟨_, by (unfold d2iF; rw [if_pos (by assumption)]), rfl⟩
  have hne : lo + 1 ≠ hi := by assumption
  obtain ⟨md0, md1⟩ := midF_lt (lo := lo) (hi := hi) (by omega)
  obtain ⟨ra0, ra1⟩ := d2iF_36 (k := k) hn hn2 hds hl6 (show 0 ≤ midF lo hi by omega) md1 h3 (by omega)
  obtain ⟨rb0, rb1⟩ := d2iF_36 (k := k) hn hn2 hds hl6 h1 md0 (by omega) (by omega)
  dsimp only [midF] at md0 md1 ra0 ra1 rb0 rb1
  refine go_on ?_
  refine' IH _ _ _ _ ?q1 ?q2 ?q3 ?q7 _ _ _ _ _ _ _ _ _ _ _ _ _ _ _ _ _ ?c1r1 ?c1r2 ?c1r3 ?c1r4 ?c1r5 ?c1r0 ?c1r6 ?c1r7 ?c1r8
  case c1r1 => k_asm
  case c1r2 => k_asm
  case c1r3 => k_asm
  case c1r4 => k_asm
  case q1 => omega
  case q2 => exact md1
  case q3 => exact h3
  case q7 => omega
  case c1r5 => k_asm
  case c1r0 => first | exact rfl | assumption
  case c1r6 => ktr_room
  case c1r7 => ktr_units
  case c1r8 =>
  intro rc1 nwc1 hc1 tkc1 Fc1 Nc1 hOc1
  obtain ⟨t1, rfl, rfl⟩ := hOc1
  try dsimp only
  try k_fold
  k_steps
  refine go_on ?_
  refine' IH _ _ _ _ ?p1 ?p2 ?p3 ?p7 _ _ _ _ _ _ _ _ _ _ _ _ _ _ _ _ _ ?c2r1 ?c2r2 ?c2r3 ?c2r4 ?c2r5 ?c2r0 ?c2r6 ?c2r7 ?c2r8
  case c2r1 => k_asm
  case c2r2 => k_asm
  case c2r3 => k_asm
  case c2r4 => k_asm
  case p1 => exact h1
  case p2 => exact md0
  case p3 => omega
  case p7 => omega
  case c2r5 => k_asm
  case c2r0 => first | exact rfl | assumption
  case c2r6 => ktr_room
  case c2r7 => ktr_units
  case c2r8 =>
  intro rc2 nwc2 hc2 tkc2 Fc2 Nc2 hOc2
  obtain ⟨t2, rfl, rfl⟩ := hOc2
  try dsimp only
  try k_fold
  k_steps
  refine hret _ _ _ _ (by assumption) (by assumption) ⟨_, by (rw [d2iF, if_neg hne]), rfl⟩
end
theorem reset_CD : True := by
  k_with_none
  w_top off
  exact True.intro

-- CE
open PySem PySem.W PyProof.Rows PySem.Calls PySem.Spec
set_option Elab.async false
section
local macro_rules | `(tactic| k_room) => `(tactic| ktr_room)

set_option maxHeartbeats 4000000
theorem d2iF_more {n : Int} {ds : List Int} : ∀ (k k' : Nat) (lo hi : Int), lo < hi → (hi - lo).toNat ≤ k → (hi - lo).toNat ≤ k' → d2iF k n ds lo hi = d2iF k' n ds lo hi
  | 0, _, lo, hi, h0, h1, _ => by exfalso; omega
  | _, 0, lo, hi, h0, _, h2 => by exfalso; omega
  | k + 1, k' + 1, lo, hi, h0, h1, h2 => by
    unfold d2iF
    split
    · rfl
    · obtain ⟨m1, m2⟩ := midF_lt (lo := lo) (hi := hi) (by omega)
      rw [d2iF_more k k' (midF lo hi) hi m2 (by omega) (by omega), d2iF_more k k' lo (midF lo hi) m1 (by omega) (by omega)]
theorem d2iF_fuel {n : Int} {ds : List Int} (h1 : 1 ≤ ds.length) (h6 : ds.length ≤ 6) : d2iF 6 n ds 0 ds.length = d2iF ds.length n ds 0 ds.length := d2iF_more _ _ _ _ (by omega) (by omega) (by omega)
theorem d2i_con (w : World) (p : Program) (loose : List Str) (mean : ExcName → Option Value) (mg mb : Str → Option Value) (n : Int) (tn : Tok) (D : Addr) (nn : Nat) (vd : List Value) (ds : List Int) (rest rest0 : Led) (ps : Array Value) (h0 : ∀ p ∈ rest0, p ∈ rest)
    (ml : (D, W.listOf vd.toArray nn) ∈ rest) (hvd : IntsAre vd ds) (hl6 : ds.length ≤ 6) (hl1 : 1 ≤ ds.length) (hds : ∀ d ∈ ds, 0 ≤ d ∧ d < 64)
    (hn : 1 ≤ n) (hn2 : n ≤ 6) (hr : ∀ p ∈ rest, p.1 ≠ 55) (hps : TabSt 74 4 "_digits2int.<locals>.inner" ps rest0) :
    Con PySem.Challenge.rw_gb0004_01.row.prog w (Mine.hd.heap_39 w.params) p loose mean mg mb 60 [.ref D, .int n tn] ((55, tabObj ps) :: rest) 20 200
      (fun r news' => ∃ t tl ps', r = .int (d2iF ds.length n ds 0 ds.length) t ∧ news' = (55, tabObj ps') :: (tl ++ rest) ∧ TabSt 74 4 "_digits2int.<locals>.inner" ps' (tl ++ rest0) ∧
        (∀ q ∈ rest, ∀ p ∈ tl, @LT.lt Nat _ q.1 p.1) ∧ (∀ p ∈ tl, p.1 ≠ 55)) := by
  k_fill
  unfold Con
  intro dp un gd cn cs ca ccd cl outer A₀ base h₀ L m s Q E B F X N T hk hd hu hret
  have hMk : KstMark := kstMark
  have hlv : vd.length = ds.length := hvd.length
  refine wpAny_call ?_
  refine' code_defC ?k1 ?k2 ?k3 ?k4 ?k5 ?kA ?kF ?kK ?k6 ?k7 ?k8 ?k9 ?kB ?kD ?_ ?c2 ?c3 ?c4
  case kA => exact rfl
  case kF => exact rfl
  case kK => exact hk
  case k1 => exact B
  case k2 => exact F
  case k3 => exact X
  case k4 => exact N
  case k5 => exact T
  case k6 => k_is
  case k7 => k_is
  case k8 => ktr_room
  case k9 => first | exact BindsTo.of_eq rfl | exact binds_K (by k_in) rfl (by k_is) rfl rfl rfl
  case kB => exact rfl
  case kD => decide +kernel
  case c2 => exact rfl
  case c3 => exact rfl
  case c4 => exact rfl
  k_whole
  intro g' L' h1 tk1 cells1 FG1 F1 N1 Y1 B1 X1 T1 lt1
  k_cells Y1
  try simp only [List.cons_append, List.nil_append] at N1
  try dsimp only
  have hLo : Lo L' rest := fun p hp => lt1 p (.tail _ hp)
  k_lt lt1
  have CT : CodeHd g' 59 55 := codeHd_of_K X1 (by kernel_rfl)
  k_with "exec FunctionDef" => (
    k_dflt (refine' nestDef_K ?zd0 ?zk0 ?za0 ?_; (case zd0 => exact rfl); (case zk0 => exact rfl); (case za0 => exact rfl))
    k_dflt (refine' nest_any ?zF ?zN ?zT ?zC ?zcd ?zU hps ?zhs ?zcl ?_; (case zF => k_asm); (case zN => k_asm); (case zT => k_asm); (case zcd => exact rfl); (case zC => with_reducible assumption); (case zU => k_updF); (case zcl => exact rfl); (case zhs => (intro p9 h9; replace h9 := h0 _ h9; repeat (first | exact h9 | refine List.Mem.tail _ ?_))))
    k_whole
    intro fI cI oI vI tI ctI dI hI tkI FI NI dI1 dI2 ltI1 ltI2 hcI
    try dsimp only at NI
    k_lt ltI1
    rcases hcI with hcI | hcI <;> first | (have hcL : @LT.lt Nat _ cI L' := hLo _ (h0 _ hcI)) | k_lt hcI)
  have hemp : (!vd.toArray.isEmpty) = true := by
    cases vd with
    | nil => simp at hlv; omega
    | cons _ _ => rfl
  have hfit : ((vd.toArray.size : Nat) : Int) < 2 ^ 63 := by rw [List.size_toArray, hlv]; omega
  k_with "truthy ref" => (k_here; k_dflt ((with_reducible rename News _ _ _ _ => zNN); refine wpAny_truthy_list (PySem.IsL.isList (n := nn) (zNN (D, W.listOf vd.toArray nn) (by repeat (first | exact ml | refine List.Mem.tail _ ?_))).1) hfit ?_; rw [hemp]; k_whole))
  k_with "call builtin:len" => (k_here; k_dflt ((with_reducible rename News _ _ _ _ => zNN); refine len_list (PySem.IsL.isList (n := nn) (zNN (D, W.listOf vd.toArray nn) (by repeat (first | exact ml | refine List.Mem.tail _ ?_))).1) hfit ?_; rw [List.size_toArray, hlv]; k_whole))
  k_with "call ref" => (refine stop_here ?_)
  k_steps
  · (with_reducible rename News _ _ _ _ => nN)
    refine go_on ?_
    refine' inner2_con w p loose mean mg mb _ _ _ _ _ ?hinx _ _ _ _ _ _ _ _ _ _ _ _ _ _ _ _ _ n _ nn vd ds ?mfx ?mcx dI1 dI2 ?mIx ?hIx ?mNx ?hNx ?mDx ?hDx ?mlx hvd hl6 hds hn hn2 6 _ _ _ _ (Int.le_refl _) ?q2x (Int.le_refl _) ?q7x _ _ _ _ _ _ _ _ _ _ _ _ _ _ _ _ _ ?r1x ?r2x ?r3x ?r4x ?r5x ?r0x ?r6x ?r7x ?r8x
    case r4x => exact nN
    case mfx => exact .head _
    case mcx => exact .tail _ (.head _)
    case hinx => with_unfolding_all rfl
    case r1x => k_asm
    case r2x => k_asm
    case r3x => k_asm
    case r5x => k_asm
    case r0x => exact rfl
    case r6x => ktr_room
    case r7x => ktr_units
    case mIx => k_mem
    case hIx => first | with_reducible assumption | assumption | with_unfolding_all assumption
    case mNx => k_mem
    case hNx => first | with_reducible assumption | assumption | with_unfolding_all assumption
    case mDx => k_mem
    case hDx => first | with_reducible assumption | assumption | with_unfolding_all assumption
    case mlx => repeat (first | exact ml | refine List.Mem.tail _ ?_)
    case q2x => omega
    case q7x => omega
    case r8x =>
    intro r9 nw9 h9 tk9 F9 N9 hO9
    obtain ⟨t9, rfl, rfl⟩ := hO9
    try dsimp only
    try k_fold
    k_steps
    refine hret _ _ _ _ (by assumption) (news_sub (by assumption) ?sbx) ⟨t9, [(cI, oI)], #[rawInt ((74 : Nat) : Int), rawInt ((4 : Nat) : Int), .ref cI], ?w1x, rfl, ?w2x, ?w4x, ?w5x⟩
    case w1x => exact congrArg (fun x => Value.int x t9) (d2iF_fuel (by omega) (by omega))
    case w2x => exact .inr ⟨cI, oI, vI, tI, rfl, .head _, dI1, dI2⟩
    case w4x => (intro q9 h9 p9 g9; rcases List.mem_singleton.mp g9 with rfl; have := hLo q9 h9; show @LT.lt Nat _ q9.1 cI; omega)
    case w5x => (intro p9 g9; rcases List.mem_singleton.mp g9 with rfl; (refine neN ?_; dsimp only; omega))
    case sbx =>
      simp only [List.cons_append, List.nil_append]
      repeat (first | (refine List.forall_mem_cons.mpr ⟨by (repeat (first | exact List.Mem.head _ | refine List.Mem.tail _ ?_)), ?_⟩))
      intro p9 h9
      repeat (first | exact h9 | refine List.Mem.tail _ ?_)
  · (with_reducible rename News _ _ _ _ => nN)
    refine go_on ?_
    refine' inner2_con w p loose mean mg mb _ _ _ _ _ ?hiny _ _ _ _ _ _ _ _ _ _ _ _ _ _ _ _ _ n _ nn vd ds ?mfy ?mcy dI1 dI2 ?mIy ?hIy ?mNy ?hNy ?mDy ?hDy ?mly hvd hl6 hds hn hn2 6 _ _ _ _ (Int.le_refl _) ?q2y (Int.le_refl _) ?q7y _ _ _ _ _ _ _ _ _ _ _ _ _ _ _ _ _ ?r1y ?r2y ?r3y ?r4y ?r5y ?r0y ?r6y ?r7y ?r8y
    case r4y => exact nN
    case mfy => exact .head _
    case mcy => exact .tail _ (.head _)
    case hiny => with_unfolding_all rfl
    case r1y => k_asm
    case r2y => k_asm
    case r3y => k_asm
    case r5y => k_asm
    case r0y => exact rfl
    case r6y => ktr_room
    case r7y => ktr_units
    case mIy => k_mem
    case hIy => first | with_reducible assumption | assumption | with_unfolding_all assumption
    case mNy => k_mem
    case hNy => first | with_reducible assumption | assumption | with_unfolding_all assumption
    case mDy => k_mem
    case hDy => first | with_reducible assumption | assumption | with_unfolding_all assumption
    case mly => repeat (first | exact ml | refine List.Mem.tail _ ?_)
    case q2y => omega
    case q7y => omega
    case r8y =>
    intro r9 nw9 h9 tk9 F9 N9 hO9
    obtain ⟨t9, rfl, rfl⟩ := hO9
    try dsimp only
    try k_fold
    k_steps
    refine hret _ _ _ _ (by assumption) (news_sub (by assumption) ?sby) ⟨t9, [], #[rawInt ((74 : Nat) : Int), rawInt ((4 : Nat) : Int), .ref cI], ?w1y, rfl, ?w2y, ?w4y, ?w5y⟩
    case w1y => exact congrArg (fun x => Value.int x t9) (d2iF_fuel (by omega) (by omega))
    case w2y => exact .inr ⟨cI, oI, vI, tI, rfl, hcI, dI1, dI2⟩
    case w4y => (intro q9 h9 p9 g9; cases g9)
    case w5y => (intro p9 g9; cases g9)
    case sby =>
      simp only [List.cons_append, List.nil_append]
      repeat (first | (refine List.forall_mem_cons.mpr ⟨by (repeat (first | exact List.Mem.head _ | refine List.Mem.tail _ ?_)), ?_⟩))
      intro p9 h9
      repeat (first | exact h9 | refine List.Mem.tail _ ?_)
end
theorem reset_CE : True := by
  k_with_none
  w_top off
  exact True.intro

-- CF
open PySem PySem.W PyProof.Rows PySem.Calls PySem.Spec
set_option Elab.async false
section
local macro_rules | `(tactic| k_room) => `(tactic| ktr_room)

set_option maxHeartbeats 4000000
abbrev inQ1 : Str := Str.ofString "_int2digits.<locals>.inner"
abbrev inQ2 : Str := Str.ofString "_digits2int.<locals>.inner"
theorem v_bd {r d n : Int} (h0 : 0 ≤ r) (h1 : r < 42) (hd : 0 ≤ d ∧ d < 64) (hn : 0 ≤ n) (hn2 : n ≤ 6) : 0 ≤ r * 2 ^ n.toNat + d ∧ r * 2 ^ n.toNat + d < 1048576 := by
  have hp : (0 : Int) < 2 ^ n.toNat := pow_pos2 _
  have hp2 : (2 : Int) ^ n.toNat ≤ 64 := by
    have : (2 : Nat) ^ n.toNat ≤ 2 ^ 6 := Nat.pow_le_pow_right (by decide) (by omega)
    have h : (2 : Int) ^ n.toNat ≤ 2 ^ 6 := by exact_mod_cast this
    simpa using h
  have h3 : r * 2 ^ n.toNat ≤ 42 * 64 := Int.mul_le_mul (by omega) hp2 (by omega) (by decide)
  have h4 : 0 ≤ r * 2 ^ n.toNat := Int.mul_nonneg h0 (by omega)
  omega
theorem dmF_at {a b : Int} (ha : 0 < a) (ha2 : a < 42) (hb : 0 < b) (hb2 : b < 42) : dmF a b = (a / b, a % b) ∧ (∀ d ∈ i2dF a (dmBits b), 0 ≤ d ∧ d < 64) ∧ (∀ d ∈ (dmFold a b).2, 0 ≤ d ∧ d < 64) ∧ (dmFold a b).2.length = (i2dF a (dmBits b)).length ∧ 1 ≤ (i2dF a (dmBits b)).length ∧ (i2dF a (dmBits b)).length ≤ 6 := by
  obtain ⟨x, rfl⟩ := Int.eq_ofNat_of_zero_le (Int.le_of_lt ha)
  obtain ⟨y, rfl⟩ := Int.eq_ofNat_of_zero_le (Int.le_of_lt hb)
  have hx : 0 < x := by omega
  have hy : 0 < y := by omega
  exact dmF_small ⟨x, by omega⟩ ⟨y, by omega⟩ hx hy
theorem divmod_pos_con (w : World) (p : Program) (loose : List Str) (mean : ExcName → Option Value) (mg mb : Str → Option Value) (a b : Int) (ta tb : Tok) (rest rest0 : Led) (ps qs : Array Value) (h0 : ∀ p ∈ rest0, p ∈ rest)
    (ha : 0 < a) (ha2 : a < 42) (hb : 0 < b) (hb2 : b < 42) (hr : ∀ p ∈ rest, p.1 ≠ 48) (hr2 : ∀ p ∈ rest, p.1 ≠ 55) (hps : TabSt 59 4 inQ1 ps rest0) (hqs : TabSt 74 4 inQ2 qs rest0) :
    Con PySem.Challenge.rw_gb0004_01.row.prog w (Mine.hd.heap_39 w.params) p loose mean mg mb 67 [.int a ta, .int b tb] ((48, tabObj ps) :: (55, tabObj qs) :: rest) 30 300
      (fun r news' => ∃ D t1 t2 c tl ps' qs', r = .ref D ∧ news' = (D, tup2 (.int (a / b) t1) (.int (a % b) t2) c) :: (48, tabObj ps') :: (55, tabObj qs') :: (tl ++ rest) ∧
        TabSt 59 4 inQ1 ps' (tl ++ rest0) ∧ TabSt 74 4 inQ2 qs' (tl ++ rest0) ∧ Lo D (tl ++ rest) ∧ (∀ q ∈ rest, ∀ p ∈ tl, @LT.lt Nat _ q.1 p.1) ∧ (∀ p ∈ tl, p.1 ≠ 48 ∧ p.1 ≠ 55) ∧ @LT.lt Nat _ 48 D ∧ @LT.lt Nat _ 55 D) := by
  k_fill
  unfold Con
  intro dp un gd cn cs ca ccd cl outer A₀ base h₀ L m s Q E B F X N T hk hd hu hret
  have hbits := bits_bd (Int.le_of_lt hb) (by omega)
  have hbits1 := bits_pos hb (by omega)
  have hMk : KstMark := kstMark
  refine wpAny_call ?_
  refine' code_def ?k1 ?k2 ?k3 ?k4 ?k5 ?kA ?kF ?kK ?k6 ?k7 ?k8 ?k9 ?kB ?_ ?c2 ?c3 ?c4 ?c5
  case kA => exact rfl
  case kF => exact rfl
  case kK => exact hk
  case k1 => exact B
  case k2 => exact F
  case k3 => exact X
  case k4 => exact N
  case k5 => exact T
  case k6 => k_is
  case k7 => k_is
  case k8 => ktr_room
  case k9 => first | exact BindsTo.of_eq rfl | exact binds_K (by k_in) rfl (by k_is) rfl rfl rfl
  case c5 => decide
  case kB => exact locs rfl
  case c2 => exact rfl
  case c3 => exact rfl
  case c4 => exact rfl
  k_whole
  intro g' L' h1 FG1 F1 N1 B1 X1 T1
  try dsimp only
  k_with "newList" => (k_here; k_dflt (refine' newList_K ?zk1 ?zk2 ?_; (case zk1 => k_asm); (case zk2 => k_asm)); k_whole; intro lQ hQ FQ NQ ltQ)
  k_with "call type:reversed" => (k_here; k_dflt (refine' krv_reversed ?zk1 ?zk2 ?zk3 ?_; (case zk1 => k_asm); (case zk2 => k_asm); (case zk3 => is_list)); k_whole; intro lR hR FR NR ltR)
  k_with "call ref" => (refine stop_here ?_)
  k_with "exec For" => (refine stop_here ?_)
  k_with "pyIter ref" => (refine stop_here ?_)
  k_steps
  refine go_on ?_
  refine' i2d_con w p loose mean mg mb _ _ _ _ ((55, tabObj qs) :: rest) rest0 ps (fun _ h => .tail _ (h0 _ h)) ha (by omega) ?q1 ?q2 ?q3 hps _ _ _ _ _ _ _ _ _ _ _ _ _ _ _ _ _ ?c1r1 ?c1r2 ?c1r3 ?c1r4 ?c1r5 ?c1r0 ?c1r6 ?c1r7 ?c1r8
  case c1r1 => k_asm
  case c1r2 => k_asm
  case c1r3 => k_asm
  case c1r4 => k_asm
  case q1 => omega
  case q2 => omega
  case q3 => k_all
  case c1r5 => k_asm
  case c1r0 => first | exact rfl | assumption
  case c1r6 => ktr_room
  case c1r7 => ktr_units
  case c1r8 =>
  intro rc1 nwc1 hc1 tkc1 Fc1 Nc1 hOc1
  obtain ⟨D1, vd1, tl1, ps1, rfl, hvd1, rfl, hT1, hLoD1, hord1, hne1, hTD1, hneD1⟩ := hOc1
  try dsimp only
  try k_fold
  replace Nc1 := news_sub (l' := (D1, W.listOf vd1.toArray 0) :: (48, tabObj ps1) :: (55, tabObj qs) :: (tl1 ++ rest)) Nc1 (by
    intro p9 h9
    simp only [List.mem_cons, List.mem_append] at h9 ⊢
    rcases h9 with h | h | h | h | h <;> simp [h])
  k_steps
  refine go_on ?_
  (with_reducible rename Fr _ _ _ _ => lF)
  (with_reducible rename News _ _ _ _ => lN)
  have hLoR : Lo lR _ := ltR
  k_lt ltR
  have hLoQ : Lo lQ (tl1 ++ rest) := fun p hp => ltQ p (.tail _ (.tail _ (.tail _ hp)))
  k_lt ltQ
  have hdsz : vd1.length = (i2dF a (dmBits b)).length := hvd1.length
  have hAll := dmF_at ha ha2 hb hb2
  rw [show (vd1.length : Int) - 1 = ((vd1.toArray.size : Nat) : Int) - 1 by rw [List.size_toArray]] at lN
  refine' loop_revG (m₀ := ?m0) (fun i m nx => ∃ (vq : List Value) (tr : Tok) (c : Nat), IntsAre vq (((i2dF a (dmBits b)).reverse.take i).foldl (dmStep b (dmBits b)) (0, [])).2 ∧
      ((((i2dF a (dmBits b)).reverse.take i).foldl (dmStep b (dmBits b)) (0, [])).2.length ≤ i ∧ 0 ≤ (((i2dF a (dmBits b)).reverse.take i).foldl (dmStep b (dmBits b)) (0, [])).1 ∧ (((i2dF a (dmBits b)).reverse.take i).foldl (dmStep b (dmBits b)) (0, [])).1 < b) ∧
      m (Str.ofString "r") = some (.int (((i2dF a (dmBits b)).reverse.take i).foldl (dmStep b (dmBits b)) (0, [])).1 tr) ∧
      nx = (lQ, W.listOf vq.toArray c) :: (D1, W.listOf vd1.toArray 0) :: (48, tabObj ps1) :: (55, tabObj qs) :: (tl1 ++ rest) ∧ ∀ z : Str, z ≠ Str.ofString "a_digit" → z ≠ Str.ofString "r" → z ≠ Str.ofString "q_digit" → m z = ?m0 z) rfl ?hl lF lN ?hD ?hj ?hfix ?turn ?done
  case hl => exact .tail _ (.head _)
  case hD => exact hLoR
  case hj => exact ⟨[], _, _, .nil, ⟨Nat.le_refl _, Int.le_refl _, hb⟩, rfl, rfl, fun _ _ _ _ => rfl⟩
  case hfix => (rintro i m nx ⟨vq, tr, c, _, _, _, rfl, _⟩; exact .tail _ (.head _))
  case turn =>
    rintro i v m₁ nx h tk io hi hv ⟨vq, tr, c, hvq, hst, hr0, rfl, hm⟩ hne F₁ N₁
    obtain ⟨d, td, rfl, hd⟩ := ints_rev hvd1 hi hv
    have F₂ := kst_fr (ps := [(Str.ofString "r", Value.int (((i2dF a (dmBits b)).reverse.take i).foldl (dmStep b (dmBits b)) (0, [])).1 tr)]) (stored := [Str.ofString "q_digit"]) (by intro p hp; rw [List.mem_singleton.mp hp]; exact hr0) (fun z h1 h2 h3 => hm z h1 (h2 _ (List.mem_singleton.mpr rfl)) (by intro e; rw [e] at h3; exact absurd h3 (by decide))) F₁
    have hs : ((i2dF a (dmBits b)).reverse.take (i + 1)).foldl (dmStep b (dmBits b)) (0, []) = dmStep b (dmBits b) (((i2dF a (dmBits b)).reverse.take i).foldl (dmStep b (dmBits b)) (0, [])) d := by
      have hd' : (i2dF a (dmBits b)).reverse[i]? = some d := hd
      rw [List.take_add_one, hd']; simp
    have hd2 : 0 ≤ d ∧ d < 64 := hAll.2.1 d (by
      have := List.mem_of_getElem? hd
      exact List.mem_reverse.mp this)
    clear F₁ hr0 hm
    rw [hs]
    generalize ((i2dF a (dmBits b)).reverse.take i).foldl (dmStep b (dmBits b)) (0, []) = st at *
    have hi6 : i < 6 := by have := hAll.2.2.2.2.2; rw [List.size_toArray] at hi; omega
    have hvqs : vq.toArray.size ≤ sizeLine := by rw [List.size_toArray, hvq.length, sizeLine_eq]; omega
    clear hd hs hv hi
    have hv := v_bd (n := (Builtin.Int.intBits b : Int)) hst.2.1 (by omega) hd2 (by omega) (by omega)
    k_steps
    refine go_on ?_
    refine' div2n1n_con w p loose mean mg mb _ _ _ _ _ _ _ ?a0 ?a1 hb (by omega) ?n0 ?n1 _ _ _ _ _ _ _ _ _ _ _ _ _ _ _ _ _ ?d1r1 ?d1r2 ?d1r3 ?d1r4 ?d1r5 ?d1r0 ?d1r6 ?d1r7 ?d1r8
    case d1r1 => k_asm
    case d1r2 => k_asm
    case d1r3 => k_asm
    case d1r4 => k_asm
    case a0 => exact hv.1
    case a1 => exact hv.2
    case n0 => omega
    case n1 => omega
    case d1r5 => k_asm
    case d1r0 => first | exact rfl | assumption
    case d1r6 => ktr_room
    case d1r7 => ktr_units
    case d1r8 =>
    intro rd1 nwd1 hd1 tkd1 Fd1 Nd1 hOd1
    obtain ⟨Dd, td1, td2, cd1, rfl, rfl, hLod⟩ := hOd1
    try dsimp only
    try k_fold
    k_lt hLod
    k_with "call builtin:list.append" => (k_here; k_dflt (refine' append_K ?zk1 ?zk2 ?zk3 ?_ ?zz; (case zk1 => k_asm); (case zk2 => k_asm); (case zk3 => k_upd); (case zz => assumption)); k_whole; intro hA FA NA)
    k_steps
    dsimp only [GPost]
    (with_reducible rename Fr _ _ _ _ => eF)
    (with_reducible rename News _ _ _ _ => eN)
    simp only [List.push_toArray] at eN
    refine GEnd.intro eF (news_sub (l' := (lR, io) :: (lQ, W.listOf (vq ++ [Value.int ((st.1 * 2 ^ (dmBits b).toNat + d) / b) td1]).toArray (c + 1)) :: (D1, W.listOf vd1.toArray 0) :: (48, tabObj ps1) :: (55, tabObj qs) :: (tl1 ++ rest)) eN (fun p9 h9 => .tail _ h9)) ?e1 ⟨_, td2, c + 1, ?e2, ⟨?e3, Int.emod_nonneg _ (by omega), Int.emod_lt_of_pos _ hb⟩, rfl, rfl, ?e4⟩
    case e1 => (intro p hp; rcases List.mem_cons.mp hp with rfl | hp; exact Nat.ne_of_lt (hLoR (lQ, W.listOf #[] 0) (.head _)); exact hne p (.tail _ hp))
    case e2 => exact PyProof.Rows.IntsAre.append hvq (.cons _ _ .nil)
    case e3 => (show (st.2 ++ [_]).length ≤ i + 1; rw [List.length_append, List.length_singleton]; omega)
    case e4 => (intro z h1 h2 h3; simp [h1, h2, h3, kstB])
  case done =>
    rintro m₁ nx h tk ⟨vq, tr, c, hvq, hst, hr0, rfl, hm⟩ F₁ N₁
    have hfull : (i2dF a (dmBits b)).reverse.take vd1.toArray.size = (i2dF a (dmBits b)).reverse := List.take_of_length_le (by rw [List.length_reverse, List.size_toArray]; omega)
    rw [hfull] at hvq hst hr0
    have F₂ := kst_frOut (ps := [(Str.ofString "r", Value.int (dmFold a b).1 tr)]) (stored := [Str.ofString "q_digit"]) (by intro p hp; rw [List.mem_singleton.mp hp]; exact hr0) (fun z h1 h2 h3 => hm z h1 (h2 _ (List.mem_singleton.mpr rfl)) (by intro e; rw [e] at h3; exact absurd h3 (by decide))) F₁
    clear F₁ hr0 hm hfull
    change IntsAre vq (dmFold a b).2 at hvq
    have hvr := ints_reverse hvq
    have hvl : vq.length = (dmFold a b).2.length := hvq.length
    have hz : vq.toArray.toList.length ≤ sizeLine := by (show vq.length ≤ _); rw [sizeLine_eq, hvl, hAll.2.2.2.1]; have := hAll.2.2.2.2.2; omega
    k_with "call builtin:list.reverse" => (k_here; k_dflt (refine' kl_reverse (l := vq.reverse) ?zk1 ?zk2 ?zke ?zk3 hz ?_; (case zk1 => k_asm); (case zk2 => k_asm); (case zke => simp); (case zk3 => k_upd)); k_whole; intro hV FV NV)
    try dsimp only
    have hneTD : ∀ p ∈ tl1 ++ rest, p.1 ≠ 55 := fun p hp => by
      rcases List.mem_append.mp hp with h | h
      · exact Nat.ne_of_gt (hord1 _ (.head _) p h)
      · exact hr2 p h
    have hD1TD : @LT.lt Nat _ 55 D1 := hLoD1 _ (.head _)
    k_steps
    (with_reducible rename News _ _ _ _ => nN)
    replace nN := news_sub (l' := (55, tabObj qs) :: (lQ, W.listOf vq.reverse.toArray c) :: (D1, W.listOf vd1.toArray 0) :: (48, tabObj ps1) :: (tl1 ++ rest)) nN (by
      intro p9 h9
      simp only [List.mem_cons, List.mem_append] at h9 ⊢
      rcases h9 with h | h | h | h | h | h <;> simp [h])
    refine go_on ?_
    refine' d2i_con w p loose mean mg mb _ _ lQ c vq.reverse (dmFold a b).2.reverse ((lQ, W.listOf vq.reverse.toArray c) :: (D1, W.listOf vd1.toArray 0) :: (48, tabObj ps1) :: (tl1 ++ rest)) (tl1 ++ rest0) qs (fun p h => .tail _ (.tail _ (.tail _ ((List.mem_append.mp h).elim (fun h => List.mem_append_left _ h) (fun h => List.mem_append_right _ (h0 _ h)))))) (.head _) hvr ?s1 ?s2 ?s3 ?s4 ?s5 ?s6 (hqs.mono (fun _ h => List.mem_append_right _ h)) _ _ _ _ _ _ _ _ _ _ _ _ _ _ _ _ _ ?e1r1 ?e1r2 ?e1r3 ?e1r4 ?e1r5 ?e1r0 ?e1r6 ?e1r7 ?e1r8
    case e1r1 => k_asm
    case e1r2 => k_asm
    case e1r3 => k_asm
    case e1r4 => exact nN
    case s1 => rw [List.length_reverse, hAll.2.2.2.1]; exact hAll.2.2.2.2.2
    case s2 => rw [List.length_reverse, hAll.2.2.2.1]; exact hAll.2.2.2.2.1
    case s3 => exact fun d hd => hAll.2.2.1 d (List.mem_reverse.mp hd)
    case s4 => omega
    case s5 => omega
    case s6 => k_all
    case e1r5 => k_asm
    case e1r0 => first | exact rfl | assumption
    case e1r6 => ktr_room
    case e1r7 => ktr_units
    case e1r8 =>
    intro re1 nwe1 he1 tke1 Fe1 Ne1 hOe1
    obtain ⟨t9, tl2, qs2, rfl, rfl, hT2, hord2, hne2⟩ := hOe1
    try dsimp only
    try k_fold
    k_with "newTuple" => (k_here; k_dflt (refine' newTuple_N ?zk1 ?zk2 ?_ ?zk3; (case zk1 => k_asm); (case zk2 => k_asm); (case zk3 => size_fits)); k_whole; intro hU FU NU)
    k_steps
    (with_reducible rename News _ _ _ ((55, tabObj qs2) :: _) => nM)
    (with_reducible rename News _ _ _ _ => nE)
    have hLoF := Lo.of nM
    have e1 : d2iF (dmFold a b).2.reverse.length (dmBits b) (dmFold a b).2.reverse 0 (dmFold a b).2.reverse.length = a / b := by
      rw [List.length_reverse]; exact congrArg Prod.fst hAll.1
    have e2 : (dmFold a b).1 = a % b := congrArg Prod.snd hAll.1
    refine hret _ _ _ _ (by assumption) (news_sub nE ?w0) ⟨_, t9, tr, 0, tl2 ++ tl1, ps1, qs2, rfl, rfl, ?w1, ?w2, ?w3, ?w4, ?w5, ?w6, ?w7⟩
    case w0 =>
      rw [← e1, ← e2]
      intro p9 h9
      simp only [List.mem_cons, List.mem_append] at h9 ⊢
      rcases h9 with h | h | h | (h | h) | h <;> first | exact .inl h | simp [h]
    case w1 => exact hT1.mono (fun p h => by rw [List.append_assoc]; exact List.mem_append_right _ h)
    case w2 => rw [List.append_assoc]; exact hT2
    case w3 => (intro p h; refine hLoF p ?_; simp only [List.mem_cons, List.mem_append] at h ⊢; rcases h with (h | h) | h <;> simp [h])
    case w4 =>
      intro q hq p hp
      rcases List.mem_append.mp hp with h | h
      · exact hord2 q (.tail _ (.tail _ (.tail _ (List.mem_append_right _ hq)))) p h
      · exact hord1 q (.tail _ hq) p h
    case w5 =>
      intro p hp
      rcases List.mem_append.mp hp with h | h
      · exact ⟨Nat.ne_of_gt (hord2 (48, tabObj ps1) (.tail _ (.tail _ (.head _))) p h), hne2 p h⟩
      · exact ⟨hne1 p h, Nat.ne_of_gt (hord1 _ (.head _) p h)⟩
    case w6 => exact hLoF (48, tabObj ps1) (by simp)
    case w7 => exact hLoF (55, tabObj qs2) (.head _)
end
theorem reset_CF : True := by
  k_with_none
  w_top off
  exact True.intro

-- CG
open PySem PySem.W PyProof.Rows PySem.Calls PySem.Spec
set_option Elab.async false
section
local macro_rules | `(tactic| k_room) => `(tactic| ktr_room)

set_option maxHeartbeats 4000000
theorem int_divmod_con (w : World) (p : Program) (loose : List Str) (mean : ExcName → Option Value) (mg mb : Str → Option Value) (a b : Int) (ta tb : Tok) (rest rest0 : Led) (ps qs : Array Value) (h0 : ∀ p ∈ rest0, p ∈ rest)
    (ha : 0 < a) (ha2 : a < 42) (hb : 0 < b) (hb2 : b < 42) (hr : ∀ p ∈ rest, p.1 ≠ 48) (hr2 : ∀ p ∈ rest, p.1 ≠ 55) (hps : TabSt 59 4 inQ1 ps rest0) (hqs : TabSt 74 4 inQ2 qs rest0) :
    Con PySem.Challenge.rw_gb0004_01.row.prog w (Mine.hd.heap_39 w.params) p loose mean mg mb 74 [.int a ta, .int b tb] ((48, tabObj ps) :: (55, tabObj qs) :: rest) 40 400
      (fun r news' => ∃ D t1 t2 c tl ps' qs', r = .ref D ∧ news' = (D, tup2 (.int (a / b) t1) (.int (a % b) t2) c) :: (48, tabObj ps') :: (55, tabObj qs') :: (tl ++ rest) ∧
        TabSt 59 4 inQ1 ps' (tl ++ rest0) ∧ TabSt 74 4 inQ2 qs' (tl ++ rest0) ∧ Lo D (tl ++ rest) ∧ (∀ q ∈ rest, ∀ p ∈ tl, @LT.lt Nat _ q.1 p.1) ∧ (∀ p ∈ tl, p.1 ≠ 48 ∧ p.1 ≠ 55) ∧ @LT.lt Nat _ 48 D ∧ @LT.lt Nat _ 55 D) := by
  k_fill
  unfold Con
  intro dp un gd cn cs ca ccd cl outer A₀ base h₀ L m s Q E B F X N T hk hd hu hret
  have hMk : KstMark := kstMark
  refine wpAny_call ?_
  refine' code_def ?k1 ?k2 ?k3 ?k4 ?k5 ?kA ?kF ?kK ?k6 ?k7 ?k8 ?k9 ?kB ?_ ?c2 ?c3 ?c4 ?c5
  case kA => exact rfl
  case kF => exact rfl
  case kK => exact hk
  case k1 => exact B
  case k2 => exact F
  case k3 => exact X
  case k4 => exact N
  case k5 => exact T
  case k6 => k_is
  case k7 => k_is
  case k8 => ktr_room
  case k9 => first | exact BindsTo.of_eq rfl | exact binds_K (by k_in) rfl (by k_is) rfl rfl rfl
  case c5 => decide
  case kB => exact locs rfl
  case c2 => exact rfl
  case c3 => exact rfl
  case c4 => exact rfl
  k_whole
  intro g' L' h1 FG1 F1 N1 B1 X1 T1
  try dsimp only
  k_with "call ref" => (refine stop_here ?_)
  k_steps
  all_goals (try (exfalso; omega))
  refine go_on ?_
  refine' divmod_pos_con w p loose mean mg mb _ _ _ _ rest rest0 ps qs h0 ha ha2 hb hb2 hr hr2 hps hqs _ _ _ _ _ _ _ _ _ _ _ _ _ _ _ _ _ ?c1r1 ?c1r2 ?c1r3 ?c1r4 ?c1r5 ?c1r0 ?c1r6 ?c1r7 ?c1r8
  case c1r1 => k_asm
  case c1r2 => k_asm
  case c1r3 => k_asm
  case c1r4 => k_asm
  case c1r5 => k_asm
  case c1r0 => first | exact rfl | assumption
  case c1r6 => ktr_room
  case c1r7 => ktr_units
  case c1r8 =>
  intro rc1 nwc1 hc1 tkc1 Fc1 Nc1 hOc1
  obtain ⟨Dt, t1, t2, c9, tl, ps1, qs1, rfl, rfl, hT1, hT2, hL, ho, hn, hti, htd⟩ := hOc1
  try dsimp only
  try k_fold
  k_steps
  exact hret _ _ _ _ (by assumption) (by assumption) ⟨_, _, _, _, _, _, _, rfl, rfl, hT1, hT2, hL, ho, hn, hti, htd⟩
end
theorem reset_CG : True := by
  k_with_none
  w_top off
  exact True.intro

-- CH
open PySem PySem.W PyProof.Rows PySem.Calls PySem.Spec
set_option Elab.async false
section
local macro_rules | `(tactic| k_room) => `(tactic| ktr_room)

set_option maxHeartbeats 4000000
/-- what _law_shared gives -/
def gcF : Nat → Int → Int → Int
  | 0, one, _ => one
  | k + 1, one, other => if 0 < other then gcF k other (one % other) else one
theorem gcF_fuel : ∀ (k k' : Nat) (one other : Int), other.toNat ≤ k → other.toNat ≤ k' → gcF k one other = gcF k' one other
  | 0, 0, _, _, _, _ => rfl
  | 0, k' + 1, one, other, h, _ => by unfold gcF; rw [if_neg (by omega)]
  | k + 1, 0, one, other, _, h => by unfold gcF; rw [if_neg (by omega)]
  | k + 1, k' + 1, one, other, h1, h2 => by
    unfold gcF
    split
    · rename_i hp
      have h3 := Int.emod_lt_of_pos one hp
      have h4 := Int.emod_nonneg one (show other ≠ 0 by omega)
      exact gcF_fuel k k' other (one % other) (by omega) (by omega)
    · rfl
def shared (one other : Int) : Int := gcF other.toNat one other
theorem shared_step {one other : Int} (h : 0 < other) : shared one other = shared other (one % other) := by
  unfold shared
  obtain ⟨k, hk⟩ : ∃ k, other.toNat = k + 1 := ⟨other.toNat - 1, by omega⟩
  rw [hk, gcF, if_pos h]
  have h3 := Int.emod_lt_of_pos one h
  have h4 := Int.emod_nonneg one (show other ≠ 0 by omega)
  exact gcF_fuel _ _ _ _ (by omega) (Nat.le_refl _)
theorem shared_zero {one other : Int} (h : ¬ 0 < other) : shared one other = one := by
  unfold shared
  have : other.toNat = 0 := by omega
  rw [this]; rfl
theorem law_shared_con (w : World) (p : Program) (loose : List Str) (mean : ExcName → Option Value) (mg mb : Str → Option Value) (a b : Int) (ta tb : Tok) (rest rest0 : Led) (ps qs : Array Value) (h0 : ∀ p ∈ rest0, p ∈ rest)
    (ha : 0 < a) (ha2 : a < 42) (hb : 0 ≤ b) (hb2 : b < 42) (hr : ∀ p ∈ rest, p.1 ≠ 48) (hr2 : ∀ p ∈ rest, p.1 ≠ 55) (hps : TabSt 59 4 inQ1 ps rest0) (hqs : TabSt 74 4 inQ2 qs rest0) :
    Con PySem.Challenge.rw_gb0004_01.row.prog w (Mine.hd.heap_39 w.params) p loose mean mg mb 81 [.int a ta, .int b tb] ((48, tabObj ps) :: (55, tabObj qs) :: rest) 50 500
      (fun r news' => ∃ t tl ps' qs', r = .int (shared a b) t ∧ news' = (48, tabObj ps') :: (55, tabObj qs') :: (tl ++ rest) ∧
        TabSt 59 4 inQ1 ps' (tl ++ rest0) ∧ TabSt 74 4 inQ2 qs' (tl ++ rest0) ∧ (∀ q ∈ rest, ∀ p ∈ tl, @LT.lt Nat _ q.1 p.1) ∧ (∀ p ∈ tl, p.1 ≠ 48 ∧ p.1 ≠ 55)) := by
  k_fill
  unfold Con
  intro dp un gd cn cs ca ccd cl outer A₀ base h₀ L m s Q E B F X N T hk hd hu hret
  have hMk : KstMark := kstMark
  refine wpAny_call ?_
  refine' code_def ?k1 ?k2 ?k3 ?k4 ?k5 ?kA ?kF ?kK ?k6 ?k7 ?k8 ?k9 ?kB ?_ ?c2 ?c3 ?c4 ?c5
  case kA => exact rfl
  case kF => exact rfl
  case kK => exact hk
  case k1 => exact B
  case k2 => exact F
  case k3 => exact X
  case k4 => exact N
  case k5 => exact T
  case k6 => k_is
  case k7 => k_is
  case k8 => ktr_room
  case k9 => first | exact BindsTo.of_eq rfl | exact binds_K (by k_in) rfl (by k_is) rfl rfl rfl
  case c5 => decide
  case kB => exact locs rfl
  case c2 => exact rfl
  case c3 => exact rfl
  case c4 => exact rfl
  k_whole
  intro g' L' h1 FG1 F1 N1 B1 X1 T1
  try dsimp only
  k_with "call ref" => (refine stop_here ?_)
  k_with "exec While" => (refine stop_here ?_)
  k_steps
  refine go_on ?_
  (with_reducible rename Fr _ _ _ _ => lF)
  (with_reducible rename News _ _ _ _ => lN)
  refine' While_inv2 (m := ?m0) (fun k m nx => ∃ (one other : Int) (t1 t2 : Tok) (ps1 qs1 : Array Value) (tl : Led), k = other.toNat ∧ 0 < one ∧ one < 42 ∧ 0 ≤ other ∧ other < 42 ∧ shared one other = shared a b ∧
      nx = (48, tabObj ps1) :: (55, tabObj qs1) :: (tl ++ rest) ∧ TabSt 59 4 inQ1 ps1 (tl ++ rest0) ∧ TabSt 74 4 inQ2 qs1 (tl ++ rest0) ∧ (∀ q ∈ rest, ∀ p ∈ tl, @LT.lt Nat _ q.1 p.1) ∧ (∀ p ∈ tl, p.1 ≠ 48 ∧ p.1 ≠ 55) ∧
      m (Str.ofString "one") = some (.int one t1) ∧ m (Str.ofString "other") = some (.int other t2) ∧ ∀ z : Str, z ≠ Str.ofString "one" → z ≠ Str.ofString "other" → z ≠ Str.ofString "rest" → m z = ?m0 z) lF lN ?hj ?turn ?hE
  case hj => exact ⟨a, b, _, _, ps, qs, [], rfl, ha, ha2, hb, hb2, rfl, rfl, hps, hqs, (fun _ _ _ h => nomatch h), (fun _ h => nomatch h), rfl, rfl, fun _ _ _ _ => rfl⟩
  case hE => passes_own
  case turn =>
    rintro k m₁ nx h tk F₁ N₁ ⟨one, other, t1, t2, ps1, qs1, tl, rfl, ho1, ho2, ho3, ho4, hsh, rfl, hT1, hT2, hord, hne, hm1, hm2, hm⟩
    have F₂ := ksw_fr (ps := [(Str.ofString "one", Value.int one t1), (Str.ofString "other", Value.int other t2)]) (stored := [Str.ofString "rest"]) (by intro p hp; rcases List.mem_cons.mp hp with rfl | hp; exact hm1; rw [List.mem_singleton.mp hp]; exact hm2) (fun z h1 h2 => hm z (h1 _ (.head _)) (h1 _ (.tail _ (.head _))) (by intro e; rw [e] at h2; exact absurd h2 (by decide))) F₁
    clear F₁ hm1 hm2 hm
    have hrI : ∀ p ∈ tl ++ rest, p.1 ≠ 48 := fun p hp => (List.mem_append.mp hp).elim (fun h => (hne p h).1) (hr p)
    have hrD : ∀ p ∈ tl ++ rest, p.1 ≠ 55 := fun p hp => (List.mem_append.mp hp).elim (fun h => (hne p h).2) (hr2 p)
    k_steps
    rotate_left
    · have e : shared a b = one := by rw [← hsh, shared_zero (by omega)]
      refine hret _ _ _ _ (by assumption) (by assumption) ⟨t1, tl, ps1, qs1, by rw [e], rfl, hT1, hT2, hord, hne⟩
    have hpos : 0 < other := by omega
    have hm0 := Int.emod_nonneg one (show other ≠ 0 by omega)
    have hm1 := Int.emod_lt_of_pos one hpos
    refine go_on ?_
    refine' int_divmod_con w p loose mean mg mb _ _ _ _ (tl ++ rest) (tl ++ rest0) ps1 qs1 (fun p h => (List.mem_append.mp h).elim (fun h => List.mem_append_left _ h) (fun h => List.mem_append_right _ (h0 _ h))) ho1 ho2 hpos ho4 hrI hrD hT1 hT2 _ _ _ _ _ _ _ _ _ _ _ _ _ _ _ _ _ ?c1r1 ?c1r2 ?c1r3 ?c1r4 ?c1r5 ?c1r0 ?c1r6 ?c1r7 ?c1r8
    case c1r1 => k_asm
    case c1r2 => k_asm
    case c1r3 => k_asm
    case c1r4 => k_asm
    case c1r5 => k_asm
    case c1r0 => first | exact rfl | assumption
    case c1r6 => ktr_room
    case c1r7 => ktr_units
    case c1r8 =>
    intro rc1 nwc1 hc1 tkc1 Fc1 Nc1 hOc1
    obtain ⟨Dt, u1, u2, c9, tl2, ps2, qs2, rfl, rfl, hU1, hU2, hL, ho, hn, hti, htd⟩ := hOc1
    try dsimp only
    try k_fold
    k_steps
    (with_reducible rename Fr _ _ _ _ => eF)
    (with_reducible rename News _ _ _ _ => eN)
    refine ⟨_, _, _, (48, tabObj ps2) :: (55, tabObj qs2) :: ((tl2 ++ tl) ++ rest), (one % other).toNat, rfl, eF, news_sub eN ?w0, by omega, other, one % other, _, _, ps2, qs2, tl2 ++ tl, rfl, hpos, ho4, hm0, by omega, by rw [← shared_step hpos]; exact hsh, rfl, ?w1, ?w2, ?w3, ?w4, rfl, rfl, ?w5⟩
    case w0 =>
      rw [List.append_assoc]
      exact fun p hp => .tail _ (.tail _ hp)
    case w1 => rw [List.append_assoc]; exact hU1
    case w2 => rw [List.append_assoc]; exact hU2
    case w3 =>
      intro q hq p hp
      rcases List.mem_append.mp hp with h | h
      · exact ho q (List.mem_append_right _ hq) p h
      · exact hord q hq p h
    case w4 =>
      intro p hp
      rcases List.mem_append.mp hp with h | h
      · exact hn p h
      · exact hne p h
    case w5 => (intro z h1 h2 h3; simp [h1, h2, h3, kstB])
end
theorem reset_CH : True := by
  k_with_none
  w_top off
  exact True.intro

-- CB
open PySem PySem.W PyProof.Rows PySem.Calls PySem.Spec
set_option Elab.async false
section
local macro_rules | `(tactic| k_room) => `(tactic| ktr_room)

set_option maxHeartbeats 4000000
/-- what bisect_left's loop gives -/
def bisG : Nat → (Int → Bool) → Int → Int → Int
  | 0, _, lo, _ => lo
  | k + 1, f, lo, hi => if lo < hi then (if f ((lo + hi).fdiv 2) then bisG k f ((lo + hi).fdiv 2 + 1) hi else bisG k f lo ((lo + hi).fdiv 2)) else lo
theorem mid_bd {lo hi : Int} (h : lo < hi) : lo ≤ (lo + hi).fdiv 2 ∧ (lo + hi).fdiv 2 < hi := by
  rw [Int.fdiv_eq_ediv_of_nonneg _ (by decide)]; omega
theorem bisG_fuel : ∀ (k k' : Nat) (f : Int → Bool) (lo hi : Int), (hi - lo).toNat ≤ k → (hi - lo).toNat ≤ k' → bisG k f lo hi = bisG k' f lo hi
  | 0, 0, _, _, _, _, _ => rfl
  | 0, k' + 1, f, lo, hi, h, _ => by unfold bisG; rw [if_neg (by omega)]
  | k + 1, 0, f, lo, hi, _, h => by unfold bisG; rw [if_neg (by omega)]
  | k + 1, k' + 1, f, lo, hi, h1, h2 => by
    unfold bisG
    split
    · rename_i hp
      obtain ⟨m1, m2⟩ := mid_bd hp
      rw [bisG_fuel k k' f _ hi (by omega) (by omega), bisG_fuel k k' f lo _ (by omega) (by omega)]
    · rfl
def bis (f : Int → Bool) (lo hi : Int) : Int := bisG (hi - lo).toNat f lo hi
theorem bis_step {f : Int → Bool} {lo hi : Int} (h : lo < hi) : bis f lo hi = if f ((lo + hi).fdiv 2) then bis f ((lo + hi).fdiv 2 + 1) hi else bis f lo ((lo + hi).fdiv 2) := by
  obtain ⟨m1, m2⟩ := mid_bd h
  unfold bis
  obtain ⟨k, hk⟩ : ∃ k, (hi - lo).toNat = k + 1 := ⟨(hi - lo).toNat - 1, by omega⟩
  rw [hk, bisG, if_pos h, bisG_fuel k _ f _ hi (by omega) (Nat.le_refl _), bisG_fuel k _ f lo _ (by omega) (Nat.le_refl _)]
theorem bis_end {f : Int → Bool} {lo hi : Int} (h : ¬ lo < hi) : bis f lo hi = lo := by
  unfold bis
  have : (hi - lo).toNat = 0 := by omega
  rw [this]; rfl
def bisI (ns : List Int) (x : Int) : Int := bis (fun i => decide (ns.getD i.toNat 0 < x)) 0 ns.length
theorem bisect_int_con (w : World) (p : Program) (loose : List Str) (mean : ExcName → Option Value) (mg mb : Str → Option Value) (x : Int) (tx : Tok) (l : Addr) (nn : Nat) (vd : List Value) (ns : List Int) (news : Led)
    (ml : (l, W.listOf vd.toArray nn) ∈ news) (hvd : IntsAre vd ns) (hl : ns.length < 1048576) :
    Con PySem.Challenge.rw_gb0004_01.row.prog w (Mine.hd.heap_39 w.params) p loose mean mg mb 32 [.ref l, .int x tx] news 20 200
      (fun r news' => ∃ t, r = .int (bisI ns x) t ∧ news' = news) := by
  k_fill
  unfold Con
  intro dp un gd cn cs ca ccd cl outer A₀ base h₀ L m s Q E B F X N T hk hd hu hret
  have hMk : KstMark := kstMark
  have hlv : vd.length = ns.length := hvd.length
  have hfit : ((vd.toArray.size : Nat) : Int) < 2 ^ 63 := by rw [List.size_toArray, hlv]; omega
  refine wpAny_call ?_
  refine' code_def ?k1 ?k2 ?k3 ?k4 ?k5 ?kA ?kF ?kK ?k6 ?k7 ?k8 ?k9 ?kB ?_ ?c2 ?c3 ?c4 ?c5
  case kA => exact rfl
  case kF => exact rfl
  case kK => exact hk
  case k1 => exact B
  case k2 => exact F
  case k3 => exact X
  case k4 => exact N
  case k5 => exact T
  case k6 => k_is
  case k7 => k_is
  case k8 => ktr_room
  case k9 => first | exact BindsTo.of_eq rfl | exact binds_K (by k_in) rfl (by k_is) rfl rfl rfl | (refine' kp_binds ?kx ?ke; (case kx => k_in); (case ke => exact fun _ => rfl))
  case c5 => decide
  case kB => exact locs rfl
  case c2 => exact rfl
  case c3 => exact rfl
  case c4 => exact rfl
  k_whole
  intro g' L' h1 FG1 F1 N1 B1 X1 T1
  try dsimp only
  k_with "call builtin:len" => (k_here; k_dflt ((with_reducible rename News _ _ _ _ => zNN); refine len_list (PySem.IsL.isList (n := nn) (zNN (l, W.listOf vd.toArray nn) ml).1) hfit ?_; rw [List.size_toArray, hlv]; k_whole))
  k_with "call ref" => (refine stop_here ?_)
  k_with "exec While" => (refine stop_here ?_)
  k_steps
  refine go_on ?_
  (with_reducible rename Fr _ _ _ _ => lF)
  (with_reducible rename News _ _ _ _ => lN)
  refine' While_inv2 (m := ?m0) (fun k m nx => ∃ (lo hi : Int) (t1 t2 : Tok), k = (hi - lo).toNat ∧ 0 ≤ lo ∧ lo ≤ hi ∧ hi ≤ ns.length ∧ bis (fun i => decide (ns.getD i.toNat 0 < x)) lo hi = bisI ns x ∧
      nx = news ∧ m (Str.ofString "lo") = some (.int lo t1) ∧ m (Str.ofString "hi") = some (.int hi t2) ∧ ∀ z : Str, z ≠ Str.ofString "lo" → z ≠ Str.ofString "hi" → z ≠ Str.ofString "mid" → m z = ?m0 z) lF lN ?hj ?turn ?hE
  case hj => exact ⟨0, ns.length, _, _, rfl, Int.le_refl _, by omega, Int.le_refl _, rfl, rfl, rfl, rfl, fun _ _ _ _ => rfl⟩
  case hE => passes_own
  case turn =>
    rintro k m₁ nx h tk F₁ N₁ ⟨lo, hi, t1, t2, rfl, hl0, hlh, hhl, hb, rfl, hm1, hm2, hm⟩
    have F₂ := ksw_fr (ps := [(Str.ofString "lo", Value.int lo t1), (Str.ofString "hi", Value.int hi t2)]) (stored := [Str.ofString "mid"]) (by intro p hp; rcases List.mem_cons.mp hp with rfl | hp; exact hm1; rw [List.mem_singleton.mp hp]; exact hm2) (fun z h1 h2 => hm z (h1 _ (.head _)) (h1 _ (.tail _ (.head _))) (by intro e; rw [e] at h2; exact absurd h2 (by decide))) F₁
    clear F₁ hm1 hm2 hm
    have hmid : lo < hi → lo ≤ (lo + hi).fdiv 2 ∧ (lo + hi).fdiv 2 < hi := mid_bd
    k_with "subscriptTail" => (k_here; k_dflt (refine' ksa_sub ?zk1 ml hvd ?zk2 ?zk3 ?zk4 ?_ ?zk7; (case zk1 => k_asm); (case zk2 => omega); (case zk3 => omega); (case zk4 => omega); (case zk7 => with_unfolding_all rfl); k_whole; intro t9))
    k_steps
    · (with_reducible rename Fr _ _ _ _ => eF)
      (with_reducible rename News _ _ _ _ => eN)
      have hlt : lo < hi := by omega
      obtain ⟨m1, m2⟩ := hmid hlt
      refine ⟨_, _, _, nx, (hi - ((lo + hi).fdiv 2 + 1)).toNat, rfl, eF, eN, by omega, (lo + hi).fdiv 2 + 1, hi, _, _, rfl, by omega, by omega, hhl, ?_, rfl, rfl, rfl, ?_⟩
      · rw [← hb, bis_step hlt, if_pos (decide_eq_true (by assumption))]
      · (intro z h1 h2 h3; simp [h1, h2, h3, kstB])
    · (with_reducible rename Fr _ _ _ _ => eF)
      (with_reducible rename News _ _ _ _ => eN)
      have hlt : lo < hi := by omega
      obtain ⟨m1, m2⟩ := hmid hlt
      refine ⟨_, _, _, nx, ((lo + hi).fdiv 2 - lo).toNat, rfl, eF, eN, by omega, lo, (lo + hi).fdiv 2, _, _, rfl, hl0, m1, by omega, ?_, rfl, rfl, rfl, ?_⟩
      · rw [← hb, bis_step hlt, if_neg (by rw [decide_eq_true_eq]; omega)]
      · (intro z h1 h2 h3; simp [h1, h2, h3, kstB])
    · refine hret _ _ _ _ (by assumption) (by assumption) ⟨t1, by rw [← hb, bis_end (by omega)], rfl⟩
end
theorem reset_CB : True := by
  k_with_none
  w_top off
  exact True.intro

-- CBT
open PySem PySem.W PyProof.Rows PySem.Calls PySem.Spec
set_option Elab.async false
section
local macro_rules | `(tactic| k_room) => `(tactic| ktr_room)

set_option maxHeartbeats 4000000
def bisT (ns : List (List Int)) (x : List Int) : Int := bis (fun i => lexLt (ns.getD i.toNat []) x) 0 ns.length
theorem bisect_tup_con (w : World) (p : Program) (loose : List Str) (mean : ExcName → Option Value) (mg mb : Str → Option Value) (x : Addr) (ux : List Value) (xv : List Int) (cx : Nat) (l : Addr) (nn : Nat) (vd : List Value) (ns : List (List Int)) (news : Led)
    (ml : (l, W.listOf vd.toArray nn) ∈ news) (hvd : TupsAre news vd ns) (hl : ns.length < 1048576) (t0 : Tok) (mx : (x, tupO ux cx) ∈ news) (hux : IntsAre ux xv) :
    Con PySem.Challenge.rw_gb0004_01.row.prog w (Mine.hd.heap_39 w.params) p loose mean mg mb 32 [.ref l, .ref x, .int 0 t0, .none] news 20 200
      (fun r news' => ∃ t, r = .int (bisT ns xv) t ∧ news' = news) := by
  k_fill
  unfold Con
  intro dp un gd cn cs ca ccd cl outer A₀ base h₀ L m s Q E B F X N T hk hd hu hret
  have hMk : KstMark := kstMark
  have hlv : vd.length = ns.length := hvd.length
  have hfit : ((vd.toArray.size : Nat) : Int) < 2 ^ 63 := by rw [List.size_toArray, hlv]; omega
  refine wpAny_call ?_
  refine' code_def ?k1 ?k2 ?k3 ?k4 ?k5 ?kA ?kF ?kK ?k6 ?k7 ?k8 ?k9 ?kB ?_ ?c2 ?c3 ?c4 ?c5
  case kA => exact rfl
  case kF => exact rfl
  case kK => exact hk
  case k1 => exact B
  case k2 => exact F
  case k3 => exact X
  case k4 => exact N
  case k5 => exact T
  case k6 => k_is
  case k7 => k_is
  case k8 => ktr_room
  case k9 => first | exact BindsTo.of_eq rfl | exact binds_K (by k_in) rfl (by k_is) rfl rfl rfl | (refine' kp_binds ?kx ?ke; (case kx => k_in); (case ke => exact fun _ => rfl))
  case c5 => decide
  case kB => exact locs rfl
  case c2 => exact rfl
  case c3 => exact rfl
  case c4 => exact rfl
  k_whole
  intro g' L' h1 FG1 F1 N1 B1 X1 T1
  try dsimp only
  k_with "call builtin:len" => (k_here; k_dflt ((with_reducible rename News _ _ _ _ => zNN); refine len_list (PySem.IsL.isList (n := nn) (zNN (l, W.listOf vd.toArray nn) ml).1) hfit ?_; rw [List.size_toArray, hlv]; k_whole))
  k_with "call ref" => (refine stop_here ?_)
  k_with "exec While" => (refine stop_here ?_)
  k_steps
  refine go_on ?_
  (with_reducible rename Fr _ _ _ _ => lF)
  (with_reducible rename News _ _ _ _ => lN)
  refine' While_inv2 (m := ?m0) (fun k m nx => ∃ (lo hi : Int) (t1 t2 : Tok), k = (hi - lo).toNat ∧ 0 ≤ lo ∧ lo ≤ hi ∧ hi ≤ ns.length ∧ bis (fun i => lexLt (ns.getD i.toNat []) xv) lo hi = bisT ns xv ∧
      nx = news ∧ m (Str.ofString "lo") = some (.int lo t1) ∧ m (Str.ofString "hi") = some (.int hi t2) ∧ ∀ z : Str, z ≠ Str.ofString "lo" → z ≠ Str.ofString "hi" → z ≠ Str.ofString "mid" → m z = ?m0 z) lF lN ?hj ?turn ?hE
  case hj => exact ⟨0, ns.length, _, _, rfl, Int.le_refl _, by omega, Int.le_refl _, rfl, rfl, rfl, rfl, fun _ _ _ _ => rfl⟩
  case hE => passes_own
  case turn =>
    rintro k m₁ nx h tk F₁ N₁ ⟨lo, hi, t1, t2, rfl, hl0, hlh, hhl, hb, rfl, hm1, hm2, hm⟩
    have F₂ := ksw_fr (ps := [(Str.ofString "lo", Value.int lo t1), (Str.ofString "hi", Value.int hi t2)]) (stored := [Str.ofString "mid"]) (by intro p hp; rcases List.mem_cons.mp hp with rfl | hp; exact hm1; rw [List.mem_singleton.mp hp]; exact hm2) (fun z h1 h2 => hm z (h1 _ (.head _)) (h1 _ (.tail _ (.head _))) (by intro e; rw [e] at h2; exact absurd h2 (by decide))) F₁
    clear F₁ hm1 hm2 hm
    have hmid : lo < hi → lo ≤ (lo + hi).fdiv 2 ∧ (lo + hi).fdiv 2 < hi := mid_bd
    k_with "subscriptTail" => (k_here; k_dflt (
      (have hlt9 : lo < hi := by omega)
      (obtain ⟨n1, n2⟩ := hmid hlt9)
      (obtain ⟨aT, uT, cT, hv9, hm9, hi9⟩ := hvd.get (i := ((lo + hi).fdiv 2).toNat) (by omega))
      (with_reducible rename News _ _ _ _ => zNN)
      (refine' list_item (PySem.IsL.isList (n := nn) (zNN (l, W.listOf vd.toArray nn) ml).1) ?zk2 ?zk4 hv9 ?_ ?zk7)
      (case zk2 => omega)
      (case zk4 => omega)
      (case zk7 => with_unfolding_all rfl)
      k_whole))
    k_with "compareOp Lt ref ref" => (k_here; k_dflt (
      (with_reducible rename News _ _ _ _ => zNN)
      (with_reducible rename (_, tupO _ _) ∈ _ => zMM)
      (with_reducible rename IntsAre _ (List.getD _ _ _) => zII)
      (refine' tuple_lt (zNN _ zMM).1 (zNN _ mx).1 zII hux ?zku ?_)
      (case zku => show _ < cLine; (try simp only [units_deeper, units_in1] at *); have := cLine_is; (try dsimp only [ktrTop] at *); omega)
      k_whole))
    k_steps
    · (with_reducible rename Fr _ _ _ _ => eF)
      (with_reducible rename News _ _ _ _ => eN)
      have hlt : lo < hi := by omega
      obtain ⟨m1, m2⟩ := hmid hlt
      refine ⟨_, _, _, nx, (hi - ((lo + hi).fdiv 2 + 1)).toNat, rfl, eF, eN, by omega, (lo + hi).fdiv 2 + 1, hi, _, _, rfl, by omega, by omega, hhl, ?_, rfl, rfl, rfl, ?_⟩
      · rw [← hb, bis_step hlt, if_pos (by assumption)]
      · (intro z h1 h2 h3; simp [h1, h2, h3, kstB])
    · (with_reducible rename Fr _ _ _ _ => eF)
      (with_reducible rename News _ _ _ _ => eN)
      have hlt : lo < hi := by omega
      obtain ⟨m1, m2⟩ := hmid hlt
      refine ⟨_, _, _, nx, ((lo + hi).fdiv 2 - lo).toNat, rfl, eF, eN, by omega, lo, (lo + hi).fdiv 2, _, _, rfl, hl0, m1, by omega, ?_, rfl, rfl, rfl, ?_⟩
      · rw [← hb, bis_step hlt, if_neg (by first | assumption | (rename _ = false => h9; rw [h9]; decide))]
      · (intro z h1 h2 h3; simp [h1, h2, h3, kstB])
    · refine hret _ _ _ _ (by assumption) (by assumption) ⟨t1, by rw [← hb, bis_end (by omega)], rfl⟩
end
theorem reset_CBT : True := by
  k_with_none
  w_top off
  exact True.intro

-- CS
open PySem PySem.W PyProof.Rows PySem.Calls PySem.Spec
set_option Elab.async false
section
local macro_rules | `(tactic| k_room) => `(tactic| ktr_room)

set_option maxHeartbeats 4000000
theorem bis_bd {f : Int → Bool} : ∀ (k : Nat) (lo hi : Int), lo ≤ hi → lo ≤ bisG k f lo hi ∧ bisG k f lo hi ≤ hi
  | 0, lo, hi, h => ⟨Int.le_refl _, h⟩
  | k + 1, lo, hi, h => by
    unfold bisG
    split
    · rename_i hp
      obtain ⟨m1, m2⟩ := mid_bd hp
      split
      · have := bis_bd (f := f) k ((lo + hi).fdiv 2 + 1) hi (by omega); omega
      · have := bis_bd (f := f) k lo ((lo + hi).fdiv 2) (by omega); omega
    · omega
theorem bisT_bd (ns : List (List Int)) (x : List Int) : 0 ≤ bisT ns x ∧ bisT ns x ≤ ns.length := bis_bd _ _ _ (by omega)
/-- what insort_left makes of a list of tuples -/
def insT (ns : List (List Int)) (x : List Int) : List (List Int) := ns.take (bisT ns x).toNat ++ x :: ns.drop (bisT ns x).toNat
theorem insT_tups {news : Led} {vd : List Value} {ns : List (List Int)} {x : Addr} {ux : List Value} {xv : List Int} {cx : Nat} (h : TupsAre news vd ns) (mx : (x, tupO ux cx) ∈ news) (hux : IntsAre ux xv) :
    TupsAre news (kl_ins vd (bisT ns xv) (.ref x)) (insT ns xv) := by
  obtain ⟨b0, b1⟩ := bisT_bd ns xv
  have hl := h.length
  unfold kl_ins insT
  rw [if_neg (by omega), Nat.min_eq_left (by omega)]
  exact (h.take _).append (.cons mx hux (h.drop _))
theorem insort_con (w : World) (p : Program) (loose : List Str) (mean : ExcName → Option Value) (mg mb : Str → Option Value) (x : Addr) (ux : List Value) (xv : List Int) (cx : Nat) (l : Addr) (nn : Nat) (vd : List Value) (ns : List (List Int)) (R R0 : Led) (hsub : ∀ p ∈ R0, p ∈ R)
    (hvd : TupsAre R0 vd ns) (hl : ns.length < 1048576) (mx : (x, tupO ux cx) ∈ R0) (hux : IntsAre ux xv) (hR : ∀ p ∈ R, p.1 ≠ l) :
    Con PySem.Challenge.rw_gb0004_01.row.prog w (Mine.hd.heap_39 w.params) p loose mean mg mb 23 [.ref l, .ref x] ((l, W.listOf vd.toArray nn) :: R) 30 300
      (fun r news' => r = .none ∧ ∃ vd', TupsAre R0 vd' (insT ns xv) ∧ news' = (l, W.listOf vd'.toArray (nn + 1)) :: R) := by
  k_fill
  unfold Con
  intro dp un gd cn cs ca ccd cl outer A₀ base h₀ L m s Q E B F X N T hk hd hu hret
  have hMk : KstMark := kstMark
  have hlv : vd.length = ns.length := hvd.length
  obtain ⟨b0, b1⟩ := bisT_bd ns xv
  refine wpAny_call ?_
  refine' code_def ?k1 ?k2 ?k3 ?k4 ?k5 ?kA ?kF ?kK ?k6 ?k7 ?k8 ?k9 ?kB ?_ ?c2 ?c3 ?c4 ?c5
  case kA => exact rfl
  case kF => exact rfl
  case kK => exact hk
  case k1 => exact B
  case k2 => exact F
  case k3 => exact X
  case k4 => exact N
  case k5 => exact T
  case k6 => k_is
  case k7 => k_is
  case k8 => ktr_room
  case k9 => first | exact BindsTo.of_eq rfl | exact binds_K (by k_in) rfl (by k_is) rfl rfl rfl | (refine' kp_binds ?kx ?ke; (case kx => k_in); (case ke => exact fun _ => rfl))
  case c5 => decide
  case kB => exact locs rfl
  case c2 => exact rfl
  case c3 => exact rfl
  case c4 => exact rfl
  k_whole
  intro g' L' h1 FG1 F1 N1 B1 X1 T1
  try dsimp only
  k_with "call ref" => (refine stop_here ?_)
  k_steps
  refine go_on ?_
  refine' bisect_tup_con w p loose mean mg mb x ux xv cx l nn vd ns _ (.head _) (hvd.mono (fun _ h => .tail _ (hsub _ h))) hl _ (.tail _ (hsub _ mx)) hux _ _ _ _ _ _ _ _ _ _ _ _ _ _ _ _ _ ?c1r1 ?c1r2 ?c1r3 ?c1r4 ?c1r5 ?c1r0 ?c1r6 ?c1r7 ?c1r8
  case c1r1 => k_asm
  case c1r2 => k_asm
  case c1r3 => k_asm
  case c1r4 => k_asm
  case c1r5 => k_asm
  case c1r0 => first | exact rfl | assumption
  case c1r6 => ktr_room
  case c1r7 => ktr_units
  case c1r8 =>
  intro rc1 nwc1 hc1 tkc1 Fc1 Nc1 hOc1
  obtain ⟨t1, rfl, rfl⟩ := hOc1
  try dsimp only
  try k_fold
  k_with "call builtin:list.insert" => (k_here; k_dflt (refine' kl_insert (l := kl_ins vd (bisT ns xv) (.ref x)) ?zF ?zN ?zf rfl ?zU ?zz ?_; (case zF => k_asm); (case zN => k_asm); (case zU => exact Upd.head hR); (case zf => (unfold Builtin.List.listFitsIndex; rw [Bool.and_eq_true]; exact ⟨decide_eq_true (by omega), decide_eq_true (by omega)⟩)); (case zz => (show vd.length ≤ _; rw [sizeLine_eq]; omega))); k_whole; intro hI FI NI)
  k_steps
  exact hret _ _ _ _ (by assumption) (by assumption) ⟨rfl, _, insT_tups hvd mx hux, rfl⟩
end
theorem reset_CS : True := by
  k_with_none
  w_top off
  exact True.intro

-- CT3
open PySem PySem.W PyProof.Rows PySem.Calls PySem.Spec
set_option Elab.async false
section
local macro_rules | `(tactic| k_room) => `(tactic| ktr_room)

set_option maxHeartbeats 4000000
abbrev tup3 (a b c : Value) (k : Nat) : Obj := { cls := .type "tuple", data := .seq #[a, b, c] k }
theorem ints3 {a b c a' b' c' : Int} {t1 t2 t3 : Tok} (e1 : a = a') (e2 : b = b') (e3 : c = c') : IntsAre [.int a t1, .int b t2, .int c t3] [a', b', c'] := by
  subst e1; subst e2; subst e3
  exact .cons _ _ (.cons _ _ (.cons _ _ .nil))
theorem three_con (w : World) (p : Program) (loose : List Str) (mean : ExcName → Option Value) (mg mb : Str → Option Value) (one other : Int) (ta tb : Tok) (R : Led)
    (h1 : 1 ≤ other) (h2 : other < one) (h3 : one ≤ 5) :
    Con PySem.Challenge.rw_gb0004_01.row.prog w (Mine.hd.heap_39 w.params) p loose mean mg mb 88 [.int one ta, .int other tb] R 30 300
      (fun r news' => ∃ D us c, r = .ref D ∧ news' = (D, tupO us c) :: R ∧ IntsAre us [min (one * one - other * other) (2 * one * other), max (one * one - other * other) (2 * one * other), one * one + other * other] ∧ Lo D R) := by
  k_fill
  unfold Con
  intro dp un gd cn cs ca ccd cl outer A₀ base h₀ L m s Q E B F X N T hk hd hu hret
  have hMk : KstMark := kstMark
  refine wpAny_call ?_
  refine' code_def ?k1 ?k2 ?k3 ?k4 ?k5 ?kA ?kF ?kK ?k6 ?k7 ?k8 ?k9 ?kB ?_ ?c2 ?c3 ?c4 ?c5
  case kA => exact rfl
  case kF => exact rfl
  case kK => exact hk
  case k1 => exact B
  case k2 => exact F
  case k3 => exact X
  case k4 => exact N
  case k5 => exact T
  case k6 => k_is
  case k7 => k_is
  case k8 => ktr_room
  case k9 => first | exact BindsTo.of_eq rfl | exact binds_K (by k_in) rfl (by k_is) rfl rfl rfl
  case c5 => decide
  case kB => exact locs rfl
  case c2 => exact rfl
  case c3 => exact rfl
  case c4 => exact rfl
  k_whole
  intro g' L' h1 FG1 F1 N1 B1 X1 T1
  try dsimp only
  k_with "call ref" => (refine stop_here ?_)
  k_steps
  (with_reducible rename News _ _ _ _ => nE)
  (with_reducible rename _ ∧ _ ∧ AllLt _ R => lz)
  (with_reducible rename _ ∧ _ ∧ _ ≤ List.getD _ _ _ => tz)
  (with_reducible rename _ ∧ List.getD _ _ _ ≤ _ ∧ _ => bz)
  have nE2 : News _ _ _ ((_, tupO [.int _ _, .int _ _, .int _ _] _) :: R) := news_sub nE (List.forall_mem_cons.mpr ⟨List.Mem.head _, fun p hp => List.Mem.tail _ (List.Mem.tail _ (List.Mem.tail _ hp))⟩)
  exact hret _ _ _ _ (by assumption) nE2 ⟨_, _, _, rfl, rfl, ints3 (by omega) (by omega) rfl, fun p hp => kst_ltOf lz.2.2 p hp⟩
end
theorem reset_CT3 : True := by
  k_with_none
  w_top off
  exact True.intro

-- P3
open PySem PySem.W PyProof.Rows
set_option maxRecDepth 100000
section
def sqL (bound : Int) : List Int := (rangeKs 0 (bound + 1).toNat).map (fun k => k * k)
def plainTurn (sq : List Int) (last : Int) (pl : List (List Int)) (one : Int) : List (List Int) :=
  if one ≤ bisI sq (last * last - one * one) ∧ sq.getD (bisI sq (last * last - one * one)).toNat 0 = last * last - one * one ∧ shared one (bisI sq (last * last - one * one)) = 1 then pl ++ [[one, bisI sq (last * last - one * one), last]] else pl
def plainRow (sq : List Int) (pl : List (List Int)) (last : Int) : List (List Int) := (rangeKs 1 (last - 1).toNat).foldl (plainTurn sq last) pl
def plainF (bound : Int) : List (List Int) := (rangeKs 1 bound.toNat).foldl (plainRow (sqL bound)) []
def foundTurn (bound one : Int) (fd : List (List Int)) (other : Int) : List (List Int) :=
  if (one + other).fmod 2 = 1 ∧ shared one other = 1 ∧ one * one + other * other ≤ bound then insT fd [min (one * one - other * other) (2 * one * other), max (one * one - other * other) (2 * one * other), one * one + other * other] else fd
def foundRow (bound : Int) (fd : List (List Int)) (one : Int) : List (List Int) := (rangeKs 1 (one - 1).toNat).foldl (foundTurn bound one) fd
def foundF (bound : Int) : List (List Int) := (rangeKs 2 4).foldl (foundRow bound) []
theorem pf_a : ∀ i : Fin 9, plainF (5 + ((0 + i.val : Nat) : Int)) = (if (0 + i.val) < 8 then [[3,4,5]] else if (0 + i.val) < 12 then [[3,4,5],[5,12,13]] else if (0 + i.val) < 20 then [[3,4,5],[5,12,13],[8,15,17]] else if (0 + i.val) < 24 then [[3,4,5],[5,12,13],[8,15,17],[7,24,25]] else [[3,4,5],[5,12,13],[8,15,17],[7,24,25],[20,21,29]]) := by decide +kernel
theorem pf_b : ∀ i : Fin 7, plainF (5 + ((9 + i.val : Nat) : Int)) = (if (9 + i.val) < 8 then [[3,4,5]] else if (9 + i.val) < 12 then [[3,4,5],[5,12,13]] else if (9 + i.val) < 20 then [[3,4,5],[5,12,13],[8,15,17]] else if (9 + i.val) < 24 then [[3,4,5],[5,12,13],[8,15,17],[7,24,25]] else [[3,4,5],[5,12,13],[8,15,17],[7,24,25],[20,21,29]]) := by decide +kernel
theorem pf_c : ∀ i : Fin 5, plainF (5 + ((16 + i.val : Nat) : Int)) = (if (16 + i.val) < 8 then [[3,4,5]] else if (16 + i.val) < 12 then [[3,4,5],[5,12,13]] else if (16 + i.val) < 20 then [[3,4,5],[5,12,13],[8,15,17]] else if (16 + i.val) < 24 then [[3,4,5],[5,12,13],[8,15,17],[7,24,25]] else [[3,4,5],[5,12,13],[8,15,17],[7,24,25],[20,21,29]]) := by decide +kernel
theorem pf_d : ∀ i : Fin 5, plainF (5 + ((21 + i.val : Nat) : Int)) = (if (21 + i.val) < 8 then [[3,4,5]] else if (21 + i.val) < 12 then [[3,4,5],[5,12,13]] else if (21 + i.val) < 20 then [[3,4,5],[5,12,13],[8,15,17]] else if (21 + i.val) < 24 then [[3,4,5],[5,12,13],[8,15,17],[7,24,25]] else [[3,4,5],[5,12,13],[8,15,17],[7,24,25],[20,21,29]]) := by decide +kernel
theorem pf_small : ∀ i : Fin 26, plainF (5 + (i.val : Int)) = (if i.val < 8 then [[3,4,5]] else if i.val < 12 then [[3,4,5],[5,12,13]] else if i.val < 20 then [[3,4,5],[5,12,13],[8,15,17]] else if i.val < 24 then [[3,4,5],[5,12,13],[8,15,17],[7,24,25]] else [[3,4,5],[5,12,13],[8,15,17],[7,24,25],[20,21,29]]) := by
  intro i
  obtain ⟨k, hk⟩ := i
  show plainF (5 + (k : Int)) = (if k < 8 then [[3,4,5]] else if k < 12 then [[3,4,5],[5,12,13]] else if k < 20 then [[3,4,5],[5,12,13],[8,15,17]] else if k < 24 then [[3,4,5],[5,12,13],[8,15,17],[7,24,25]] else [[3,4,5],[5,12,13],[8,15,17],[7,24,25],[20,21,29]])
  by_cases h0 : k < 9
  · have h := pf_a ⟨k, h0⟩
    simp only [Nat.zero_add] at h
    exact h
  by_cases h9 : k < 16
  · obtain ⟨j, rfl⟩ : ∃ j, k = 9 + j := ⟨k - 9, by omega⟩
    exact pf_b ⟨j, by omega⟩
  by_cases h16 : k < 21
  · obtain ⟨j, rfl⟩ : ∃ j, k = 16 + j := ⟨k - 16, by omega⟩
    exact pf_c ⟨j, by omega⟩
  by_cases h21 : k < 26
  · obtain ⟨j, rfl⟩ : ∃ j, k = 21 + j := ⟨k - 21, by omega⟩
    exact pf_d ⟨j, by omega⟩
  omega
theorem ff_small : ∀ i : Fin 26, foundF (5 + (i.val : Int)) = (if i.val < 8 then [[3,4,5]] else if i.val < 12 then [[3,4,5],[5,12,13]] else if i.val < 20 then [[3,4,5],[5,12,13],[8,15,17]] else if i.val < 24 then [[3,4,5],[5,12,13],[7,24,25],[8,15,17]] else [[3,4,5],[5,12,13],[7,24,25],[8,15,17],[20,21,29]]) := by decide +kernel
end

-- ML0
open PySem PySem.W PyProof.Rows PySem.Calls PySem.Spec
set_option Elab.async false
section

/-- the loop that stands i-th in a def's block -/
def getFor (b : Option Stmt) (i : Nat) : Option (Str × Scope × Str × List Stmt) := match b with
  | some (.FunctionDef n _ l _ _ _ sc _ _ _) => match l[i]? with
    | some (.For (.Name x _) _ body _ _) => some (n, sc, x, body)
    | _ => none
  | _ => none
def Up (b : Nat) (l : Led) : Prop := ∀ p ∈ l, @LT.lt Nat _ b p.1
theorem Up.append {b : Nat} {l l' : Led} (h : Up b l) (h' : Up b l') : Up b (l ++ l') := fun p hp => (List.mem_append.mp hp).elim (h p) (h' p)

set_option maxRecDepth 100000
set_option maxHeartbeats 8000000
theorem bis_prop {f : Int → Bool} : ∀ (k : Nat) (lo hi : Int), lo ≤ hi → (hi - lo).toNat ≤ k → (bisG k f lo hi < hi → f (bisG k f lo hi) = false) ∧ (lo < bisG k f lo hi → f (bisG k f lo hi - 1) = true)
  | 0, lo, hi, h, hk => by
    have : lo = hi := by omega
    subst this
    exact ⟨fun h => absurd h (Int.lt_irrefl _), fun h => absurd h (Int.lt_irrefl _)⟩
  | k + 1, lo, hi, h, hk => by
    unfold bisG
    split
    · rename_i hp
      obtain ⟨m1, m2⟩ := mid_bd hp
      split
      · rename_i hf
        obtain ⟨a, b⟩ := bis_prop (f := f) k ((lo + hi).fdiv 2 + 1) hi (by omega) (by omega)
        refine ⟨a, fun h1 => ?_⟩
        by_cases h2 : (lo + hi).fdiv 2 + 1 < bisG k f ((lo + hi).fdiv 2 + 1) hi
        · exact b h2
        · have h3 := bis_bd (f := f) k ((lo + hi).fdiv 2 + 1) hi (by omega)
          have e : bisG k f ((lo + hi).fdiv 2 + 1) hi - 1 = (lo + hi).fdiv 2 := by omega
          rw [e]; exact hf
      · rename_i hf
        obtain ⟨a, b⟩ := bis_prop (f := f) k lo ((lo + hi).fdiv 2) m1 (by omega)
        refine ⟨fun h1 => ?_, b⟩
        by_cases h2 : bisG k f lo ((lo + hi).fdiv 2) < (lo + hi).fdiv 2
        · exact a h2
        · have h3 := bis_bd (f := f) k lo ((lo + hi).fdiv 2) m1
          have e : bisG k f lo ((lo + hi).fdiv 2) = (lo + hi).fdiv 2 := by omega
          rw [e]; simpa using hf
    · have : lo = hi := by omega
      subst this
      exact ⟨fun h => absurd h (Int.lt_irrefl _), fun h => absurd h (Int.lt_irrefl _)⟩
theorem rangeKs_get (a : Int) {n i : Nat} (h : i < n) : (rangeKs a n)[i]? = some (a + (i : Int)) := by
  simp only [rangeKs]
  rw [List.getElem?_map, List.getElem?_range h]; rfl
theorem sqL_len {bound : Int} (h : 0 ≤ bound) : (sqL bound).length = (bound + 1).toNat := by simp [sqL, rangeKs]
theorem sqL_get {bound k : Int} (h : 0 ≤ k) (hk : k ≤ bound) : (sqL bound).getD k.toNat 0 = k * k := by
  have hl : k.toNat < (bound + 1).toNat := by omega
  simp only [sqL, rangeKs, List.map_map, List.getD]
  rw [List.getElem?_map, List.getElem?_range hl]
  simp [Int.max_eq_left h]
theorem place_bd {bound last one : Int} (h5 : 0 ≤ bound) (h1 : 1 ≤ one) (h2 : one < last) (h3 : last ≤ bound) : 0 ≤ bisI (sqL bound) (last * last - one * one) ∧ bisI (sqL bound) (last * last - one * one) ≤ bound := by
  have hl := sqL_len (bound := bound) h5
  have hb := bis_bd (f := fun i => decide ((sqL bound).getD i.toNat 0 < last * last - one * one)) ((sqL bound).length - 0 : Int).toNat 0 ((sqL bound).length) (by omega)
  have hp := bis_prop (f := fun i => decide ((sqL bound).getD i.toNat 0 < last * last - one * one)) ((sqL bound).length - 0 : Int).toNat 0 ((sqL bound).length) (by omega) (Nat.le_refl _)
  change 0 ≤ bisI (sqL bound) (last * last - one * one) ∧ bisI (sqL bound) (last * last - one * one) ≤ _ at hb
  change _ ∧ (0 < bisI (sqL bound) (last * last - one * one) → decide ((sqL bound).getD (bisI (sqL bound) (last * last - one * one) - 1).toNat 0 < last * last - one * one) = true) at hp
  refine ⟨hb.1, ?_⟩
  by_cases hc : bisI (sqL bound) (last * last - one * one) ≤ bound
  · exact hc
  · exfalso
    have e : bisI (sqL bound) (last * last - one * one) = bound + 1 := by omega
    have hq := of_decide_eq_true (hp.2 (by omega))
    rw [e, show bound + 1 - 1 = bound by omega, sqL_get h5 (Int.le_refl _)] at hq
    have h6 : last * last ≤ bound * bound := Int.mul_le_mul h3 h3 (by omega) h5
    have h7 : 0 ≤ one * one := Int.mul_nonneg (by omega) (by omega)
    omega
end

-- ML1
open PySem PySem.W PyProof.Rows PySem.Calls PySem.Spec
set_option Elab.async false
section

set_option maxRecDepth 100000
set_option maxHeartbeats 8000000
theorem loop1 (w : World) (p : Program) (loose : List Str) (mean : ExcName → Option Value) (mg mb : Str → Option Value) (nm : Str) (sc : Scope) (x : Str) (body : List Stmt) (hget : getFor (PySem.Challenge.pw_gb0004_01.main.body[14]?) 3 = some (nm, sc, x, body))
    (L fa : Addr) (cd : Value) (h₀ : Heap) (m0 : Str → Option Value) (s : Shared) (Q : Flow → Shared → Prop) (E : Value → Shared → Prop)
    (B : Below callerA h₀ [] h₀) (X : (Mine.hd.heap_39 w.params).In h₀) (T : Top p loose mean mg mb h₀) (hE : PassesOwn (model PySem.Challenge.rw_gb0004_01.row.prog w) (callerA.deeper (envOf nm sc L fa cd)) (envOf nm sc L fa cd) E)
    (plL sqD r : Addr) (bound : Int) (t₀ u₀ v₀ : Tok) (ys : List Value) (nn : Nat) (hb1 : 5 ≤ bound) (hb2 : bound ≤ 30) (hys : IntsAre ys (sqL bound))
    (hr : IsRange s.heap r 1 (bound + 1) 1 t₀ u₀ v₀) (F : Fr h₀ L s.heap m0) (N : News h₀ L s.heap [(plL, W.listOf #[] 0), (sqD, W.listOf ys.toArray nn), (55, tabObj #[]), (48, tabObj #[])])
    (hpl : @LT.lt Nat _ sqD plL) (hpl2 : @LT.lt Nat _ 55 plL) (hsq : (55 : Nat) ≠ sqD ∧ (48 : Nat) ≠ sqD) (hm1 : m0 (Str.ofString "squares") = some (.ref sqD)) (hm2 : m0 (Str.ofString "plain") = some (.ref plL))
    (done : ∀ (m' : Str → Option Value) (h : Heap) (tk : Nat) (vp : List Value) (c : Nat) (ps qs : Array Value) (tl : Led), Fr h₀ L h m' → News h₀ L h ((plL, W.listOf vp.toArray c) :: (48, tabObj ps) :: (55, tabObj qs) :: (sqD, W.listOf ys.toArray nn) :: tl) →
      TupsAre tl vp (plainF bound) → TabSt 59 4 inQ1 ps tl → TabSt 74 4 inQ2 qs tl → Up plL tl → m' (Str.ofString "squares") = some (.ref sqD) → m' (Str.ofString "plain") = some (.ref plL) →
      (∀ z : Str, z ≠ Str.ofString "last" → z ≠ Str.ofString "one" → z ≠ Str.ofString "place" → m' z = m0 z) → Q .next { s with heap := h, toks := tk }) :
    wpAny (model PySem.Challenge.rw_gb0004_01.row.prog w) (callerA.deeper (envOf nm sc L fa cd)) (pyIter (.ref r)) (fun it s₂ => LoopAtV PySem.Challenge.rw_gb0004_01.row.prog w (callerA.deeper (envOf nm sc L fa cd)) h₀ (envOf nm sc L fa cd) x body Q E it s₂) E s := by
  revert X
  k_fill
  intro X
  with_unfolding_all cases hget
  have hMk : KstMark := kstMark
  have hsl := sqL_len (bound := bound) (by omega)
  k_with "call ref" => (refine stop_here ?_)
  k_with "pyIter ref" => (refine stop_here ?_)
  refine' loop_rangeG (n := (bound + 1 - 1).toNat) (m₀ := m0) (fun i m nx => ∃ (vp : List Value) (c : Nat) (ps qs : Array Value) (tl : Led), nx = (plL, W.listOf vp.toArray c) :: (48, tabObj ps) :: (55, tabObj qs) :: (sqD, W.listOf ys.toArray nn) :: tl ∧ TupsAre tl vp (((rangeKs 1 (bound + 1 - 1).toNat).take i).foldl (plainRow (sqL bound)) []) ∧ TabSt 59 4 inQ1 ps tl ∧ TabSt 74 4 inQ2 qs tl ∧ Up plL tl ∧
      (((rangeKs 1 (bound + 1 - 1).toNat).take i).foldl (plainRow (sqL bound)) []).length ≤ 40 * i ∧ m (Str.ofString "squares") = some (.ref sqD) ∧ m (Str.ofString "plain") = some (.ref plL) ∧
      ∀ z : Str, z ≠ Str.ofString "last" → z ≠ Str.ofString "one" → z ≠ Str.ofString "place" → m z = m0 z) rfl hr ?hs (rangeSize_nat _ _) F (news_sub (l' := [(plL, W.listOf #[] 0), (48, tabObj #[]), (55, tabObj #[]), (sqD, W.listOf ys.toArray nn)]) N ?hN) ?hj ?turn ?done
  case hs => exact small_one (by omega) (by omega) (by omega) (by omega)
  case hN => (intro p9 h9; simp only [List.mem_cons, List.not_mem_nil, or_false] at h9 ⊢; rcases h9 with h | h | h | h <;> simp [h])
  case hj => exact ⟨[], 0, #[], #[], [], rfl, .nil, .inl rfl, .inl rfl, (fun _ h => nomatch h), Nat.le_refl _, hm1, hm2, fun _ _ _ _ => rfl⟩
  case done =>
    rintro m' nx h tk ⟨vp, c, ps, qs, tl, rfl, hT, hP, hQ, hU, _, h1, h2, h3⟩ F' N'
    have e : (rangeKs 1 (bound + 1 - 1).toNat).take (bound + 1 - 1).toNat = rangeKs 1 bound.toNat := by
      rw [List.take_of_length_le (by rw [rangeKs_length]; exact Nat.le_refl _), show bound + 1 - 1 = bound by omega]
    rw [e] at hT
    exact done m' h tk vp c ps qs tl F' N' hT hP hQ hU h1 h2 h3
  case turn =>
    rintro Io hIo i t m₁ nx h tk ioo hi ⟨vp, c, ps, qs, tl, rfl, hT, hP, hQ, hU, hlen, h1, h2, h3⟩ hne F₁ N₁
    have F₂ := kst_fr (ps := [(Str.ofString "squares", Value.ref sqD), (Str.ofString "plain", Value.ref plL)]) (stored := [Str.ofString "one", Str.ofString "place"]) (m₀ := m0) (by intro p hp; rcases List.mem_cons.mp hp with rfl | hp; exact h1; rw [List.mem_singleton.mp hp]; exact h2)
      (fun z g1 g2 g3 => h3 z g1 (by intro e; rw [e] at g3; exact absurd g3 (by decide)) (by intro e; rw [e] at g3; exact absurd g3 (by decide))) F₁
    clear F₁
    have hs : (((rangeKs 1 (bound + 1 - 1).toNat).take (i + 1)).foldl (plainRow (sqL bound)) []) = plainRow (sqL bound) (((rangeKs 1 (bound + 1 - 1).toNat).take i).foldl (plainRow (sqL bound)) []) (1 + (i : Int)) := by
      have hk : (rangeKs 1 (bound + 1 - 1).toNat)[i]? = some (1 + (i : Int)) := rangeKs_get 1 hi
      rw [List.take_add_one, hk]; simp
    rw [hs]
    generalize (((rangeKs 1 (bound + 1 - 1).toNat).take i).foldl (plainRow (sqL bound)) []) = pl0 at *
    clear hs
    k_steps
    refine go_on ?_
    (with_reducible rename IsRange _ _ _ _ _ _ _ _ => rg)
    (with_reducible rename Fr _ _ _ _ => lF)
    (with_reducible rename News _ _ _ _ => lN)
    have hIo48 : @LT.lt Nat _ 48 Io := hIo (48, tabObj #[]) (.tail _ (.head _))
    have hIo55 : @LT.lt Nat _ 55 Io := hIo (55, tabObj #[]) (.tail _ (.tail _ (.head _)))
    have hIopl : @LT.lt Nat _ plL Io := hIo (plL, W.listOf #[] 0) (.head _)
    have hlast : (1 + (i : Int)) ≤ bound := by omega
    have hneTl : ∀ p ∈ tl, p.1 ≠ Io := fun p hp => hne p (.tail _ (.tail _ (.tail _ (.tail _ hp))))
    clear done h1 h2 h3
    refine' loop_rangeG (m₀ := ?m1) (fun j m nx => ∃ (vp : List Value) (c : Nat) (ps qs : Array Value) (tl : Led), nx = (plL, W.listOf vp.toArray c) :: (48, tabObj ps) :: (55, tabObj qs) :: (sqD, W.listOf ys.toArray nn) :: (Io, ioo) :: tl ∧
        TupsAre tl vp (((rangeKs 1 (1 + (i : Int) - 1).toNat).take j).foldl (plainTurn (sqL bound) (1 + (i : Int))) pl0) ∧ TabSt 59 4 inQ1 ps tl ∧ TabSt 74 4 inQ2 qs tl ∧ Up plL tl ∧ (∀ p ∈ tl, p.1 ≠ Io) ∧
        (((rangeKs 1 (1 + (i : Int) - 1).toNat).take j).foldl (plainTurn (sqL bound) (1 + (i : Int))) pl0).length ≤ 40 * i + j ∧
        ∀ z : Str, z ≠ Str.ofString "one" → z ≠ Str.ofString "place" → m z = ?m1 z) rfl rg ?ihs (rangeSize_nat _ _) lF (news_sub (l' := (plL, W.listOf vp.toArray c) :: (48, tabObj ps) :: (55, tabObj qs) :: (sqD, W.listOf ys.toArray nn) :: (Io, ioo) :: tl) lN ?ihN) ?ihj ?iturn ?idone
    case ihs => exact small_one (by omega) (by omega) (by omega) (by omega)
    case ihN => (intro p9 h9; simp only [List.mem_cons] at h9 ⊢; rcases h9 with h | h | h | h | h | h <;> simp [h])
    case ihj => exact ⟨vp, c, ps, qs, tl, rfl, hT, hP, hQ, hU, hneTl, hlen, fun _ _ _ => rfl⟩
    case idone =>
      rintro m' nx h tk ⟨vp, c, ps, qs, tl, rfl, hT, hP, hQ, hU, hnI, hlen, h3⟩ F' N'
      have e : (rangeKs 1 (1 + (i : Int) - 1).toNat).take (1 + (i : Int) - 1).toNat = rangeKs 1 (1 + (i : Int) - 1).toNat := List.take_of_length_le (by rw [rangeKs_length]; exact Nat.le_refl _)
      rw [e] at hT hlen
      try dsimp only
      k_steps
      dsimp only [GPost]
      refine GEnd.intro F' (news_sub (l' := (Io, ioo) :: (plL, W.listOf vp.toArray c) :: (48, tabObj ps) :: (55, tabObj qs) :: (sqD, W.listOf ys.toArray nn) :: tl) N' ?dN) ?dne ⟨vp, c, ps, qs, tl, rfl, hT, hP, hQ, hU, ?dl, ?d1, ?d2, ?d3⟩
      case dN => (intro p9 h9; simp only [List.mem_cons] at h9 ⊢; rcases h9 with h | h | h | h | h | h <;> simp [h])
      case dne => (refine List.forall_mem_cons.mpr ⟨by k_ne, List.forall_mem_cons.mpr ⟨by k_ne, List.forall_mem_cons.mpr ⟨by k_ne, List.forall_mem_cons.mpr ⟨?_, hnI⟩⟩⟩⟩; exact hne _ (.tail _ (.tail _ (.tail _ (.head _)))))
      case dl => (show (plainRow (sqL bound) pl0 (1 + (i : Int))).length ≤ _; unfold plainRow; omega)
      case d1 => (rw [h3 _ (by decide) (by decide)]; rfl)
      case d2 => (rw [h3 _ (by decide) (by decide)]; rfl)
      case d3 =>
        intro z g1 g2 g3
        rw [h3 z g2 g3]
        by_cases e1 : z = Str.ofString "squares"
        · subst e1; exact hm1.symm
        · by_cases e2 : z = Str.ofString "plain"
          · subst e2; exact hm2.symm
          · simp [g1, g2, g3, e1, e2, kstB]
    case iturn =>
      rintro Ii hIi j tj m₂ nx h tk iio hj ⟨vp, c, ps, qs, tl, rfl, hT, hP, hQ, hU, hnI, hlen, h3⟩ hne2 F₃ N₃
      have F₄ := kst_fr (ps := []) (stored := [Str.ofString "place"]) (by intro p hp; cases hp) (fun z g1 _ g3 => h3 z g1 (by intro e; rw [e] at g3; exact absurd g3 (by decide))) F₃
      clear F₃ h3
      have hs2 : ((rangeKs 1 (1 + (i : Int) - 1).toNat).take (j + 1)).foldl (plainTurn (sqL bound) (1 + (i : Int))) pl0 = plainTurn (sqL bound) (1 + (i : Int)) (((rangeKs 1 (1 + (i : Int) - 1).toNat).take j).foldl (plainTurn (sqL bound) (1 + (i : Int))) pl0) (1 + (j : Int)) := by
        rw [List.take_add_one, rangeKs_get 1 hj]; simp
      rw [hs2]
      generalize (((rangeKs 1 (1 + (i : Int) - 1).toNat).take j).foldl (plainTurn (sqL bound) (1 + (i : Int))) pl0) = pl at *
      clear hs2
      have hone : (1 + (j : Int)) < 1 + (i : Int) := by omega
      obtain ⟨pb0, pb1⟩ := place_bd (bound := bound) (by omega) (show 1 ≤ 1 + (j : Int) by omega) hone hlast
      k_steps
      refine go_on ?_
      refine' bisect_int_con w p loose mean mg mb _ _ sqD nn ys (sqL bound) _ ?bm hys ?bl _ _ _ _ _ _ _ _ _ _ _ _ _ _ _ _ _ ?b1r1 ?b1r2 ?b1r3 ?b1r4 ?b1r5 ?b1r0 ?b1r6 ?b1r7 ?b1r8
      case b1r1 => k_asm
      case b1r2 => k_asm
      case b1r3 => k_asm
      case b1r4 => k_asm
      case bm => exact .tail _ (.tail _ (.tail _ (.tail _ (.head _))))
      case bl => omega
      case b1r5 => k_asm
      case b1r0 => first | exact rfl | assumption
      case b1r6 => ktr_room
      case b1r7 => ktr_units
      case b1r8 =>
      intro rb1 nwb1 hb1 tkb1 Fb1 Nb1 hOb1
      obtain ⟨t1, rfl, rfl⟩ := hOb1
      try dsimp only
      try k_fold
      k_with "subscriptTail" => (k_here; k_dflt (refine' ksa_sub ?zk1 ?zkm hys ?zk2 ?zk3 ?zk4 ?_ ?zk7; (case zk1 => k_asm); (case zkm => exact .tail _ (.tail _ (.tail _ (.tail _ (.head _))))); (case zk2 => omega); (case zk3 => omega); (case zk4 => omega); (case zk7 => with_unfolding_all rfl); k_whole; intro t9))
      k_steps
      rotate_left
      · (with_reducible rename Fr _ _ _ _ => eF)
        (with_reducible rename News _ _ _ _ => eN)
        dsimp only [GPost]
        refine GEnd.intro eF (news_sub (l' := (Ii, iio) :: (plL, W.listOf vp.toArray c) :: (48, tabObj ps) :: (55, tabObj qs) :: (sqD, W.listOf ys.toArray nn) :: (Io, ioo) :: tl) eN (fun _ h => h)) hne2 ⟨vp, c, ps, qs, tl, rfl, ?fTx, hP, hQ, hU, hnI, ?flx, ?f3x⟩
        case fTx => (rw [plainTurn, if_neg (by rintro ⟨c1, c2, c3⟩; first | omega | contradiction)]; exact hT)
        case flx => (rw [plainTurn, if_neg (by rintro ⟨c1, c2, c3⟩; first | omega | contradiction)]; omega)
        case f3x => (intro z g2 g3; simp [g2, g3, kstB])
      · (with_reducible rename Fr _ _ _ _ => eF)
        (with_reducible rename News _ _ _ _ => eN)
        dsimp only [GPost]
        refine GEnd.intro eF (news_sub (l' := (Ii, iio) :: (plL, W.listOf vp.toArray c) :: (48, tabObj ps) :: (55, tabObj qs) :: (sqD, W.listOf ys.toArray nn) :: (Io, ioo) :: tl) eN (fun _ h => h)) hne2 ⟨vp, c, ps, qs, tl, rfl, ?fTy, hP, hQ, hU, hnI, ?fly, ?f3y⟩
        case fTy => (rw [plainTurn, if_neg (by rintro ⟨c1, c2, c3⟩; first | omega | contradiction)]; exact hT)
        case fly => (rw [plainTurn, if_neg (by rintro ⟨c1, c2, c3⟩; first | omega | contradiction)]; omega)
        case f3y => (intro z g2 g3; simp [g2, g3, kstB])
      have hple : 1 + (j : Int) ≤ bisI (sqL bound) ((1 + (i : Int)) * (1 + (i : Int)) - (1 + (j : Int)) * (1 + (j : Int))) := by omega
      have hIi48 : @LT.lt Nat _ 48 Ii := hIi (48, tabObj _) (.tail _ (.head _))
      have hIi55 : @LT.lt Nat _ 55 Ii := hIi (55, tabObj _) (.tail _ (.tail _ (.head _)))
      have hIipl : @LT.lt Nat _ plL Ii := hIi (plL, W.listOf _ _) (.head _)
      have hIisq : @LT.lt Nat _ sqD Ii := hIi (sqD, W.listOf _ _) (.tail _ (.tail _ (.tail _ (.head _))))
      have hIiIo : @LT.lt Nat _ Io Ii := hIi (Io, ioo) (.tail _ (.tail _ (.tail _ (.tail _ (.head _)))))
      have htl48 : ∀ p ∈ tl, p.1 ≠ 48 := fun p hp => Nat.ne_of_gt (Nat.lt_trans (by omega) (hU p hp))
      have htl55 : ∀ p ∈ tl, p.1 ≠ 55 := fun p hp => Nat.ne_of_gt (Nat.lt_trans hpl2 (hU p hp))
      (with_reducible rename News _ _ _ _ => nS)
      replace nS := news_sub (l' := (48, tabObj ps) :: (55, tabObj qs) :: ((Ii, iio) :: (plL, W.listOf vp.toArray c) :: (sqD, W.listOf ys.toArray nn) :: (Io, ioo) :: tl)) nS (by intro p9 h9; simp only [List.mem_cons] at h9 ⊢; rcases h9 with h | h | h | h | h | h | h <;> simp [h])
      refine go_on ?_
      refine' law_shared_con w p loose mean mg mb _ _ _ _ ((Ii, iio) :: (plL, W.listOf vp.toArray c) :: (sqD, W.listOf ys.toArray nn) :: (Io, ioo) :: tl) tl ps qs (fun _ h => .tail _ (.tail _ (.tail _ (.tail _ h)))) ?s1 ?s2 ?s3 ?s4 ?s5 ?s6 hP hQ _ _ _ _ _ _ _ _ _ _ _ _ _ _ _ _ _ ?g1r1 ?g1r2 ?g1r3 ?g1r4 ?g1r5 ?g1r0 ?g1r6 ?g1r7 ?g1r8
      case g1r1 => k_asm
      case g1r2 => k_asm
      case g1r3 => k_asm
      case g1r4 => exact nS
      case s1 => omega
      case s2 => omega
      case s3 => omega
      case s4 => omega
      case s5 => k_all
      case s6 => k_all
      case g1r5 => k_asm
      case g1r0 => first | exact rfl | assumption
      case g1r6 => ktr_room
      case g1r7 => ktr_units
      case g1r8 =>
      intro rg1 nwg1 hg1 tkg1 Fg1 Ng1 hOg1
      obtain ⟨t8, tl2, ps2, qs2, rfl, rfl, hP2, hQ2, hord, hne8⟩ := hOg1
      try dsimp only
      try k_fold
      replace Ng1 := news_sub (l' := (plL, W.listOf vp.toArray c) :: (48, tabObj ps2) :: (55, tabObj qs2) :: (sqD, W.listOf ys.toArray nn) :: (Io, ioo) :: (Ii, iio) :: (tl2 ++ tl)) Ng1 (by
        intro p9 h9
        simp only [List.mem_cons, List.mem_append] at h9 ⊢
        rcases h9 with h | h | h | h | h | h | h | h <;> simp [h])
      have hU2 : Up plL (tl2 ++ tl) := Up.append (fun p hp => hord (plL, W.listOf vp.toArray c) (.tail _ (.head _)) p hp) hU
      have hpl9 : ∀ p ∈ tl2 ++ tl, p.1 ≠ plL := fun p hp => Nat.ne_of_gt (hU2 p hp)
      have hnI2 : ∀ p ∈ tl2 ++ tl, p.1 ≠ Io := fun p hp => (List.mem_append.mp hp).elim (fun h => Nat.ne_of_gt (hord (Io, ioo) (.tail _ (.tail _ (.tail _ (.head _)))) p h)) (hnI p)
      have hnJ2 : ∀ p ∈ tl2 ++ tl, p.1 ≠ Ii := fun p hp => (List.mem_append.mp hp).elim (fun h => Nat.ne_of_gt (hord (Ii, iio) (.head _) p h)) (fun h => hne2 p (.tail _ (.tail _ (.tail _ (.tail _ (.tail _ h))))))
      have hvps : vp.toArray.size ≤ sizeLine := by rw [List.size_toArray, hT.length, sizeLine_eq]; omega
      k_with "newTuple" => (refine stop_here ?_)
      k_with "call builtin:list.append" => (k_here; k_dflt (refine' append_K ?zk1 ?zk2 ?zk3 ?_ ?zz; (case zk1 => k_asm); (case zk2 => k_asm); (case zk3 => k_upd); (case zz => exact hvps)); k_whole; intro hA FA NA)
      k_steps
      · refine go_on ?_
        k_here
        refine' kup_newTuple ?zF ?zN ?_ ?zz
        case zF => k_asm
        case zN => k_asm
        case zz => first | kmk_size | size_fits | (rw [sizeLine_eq]; exact Nat.le_of_ble_eq_true rfl)
        k_whole
        intro Dt hDt FDt NDt ltDt
        have hLoDt : Lo Dt (tl2 ++ tl) := fun p hp => ltDt p (.tail _ (.tail _ (.tail _ (.tail _ (.tail _ (.tail _ hp))))))
        k_lt ltDt
        k_steps
        (with_reducible rename Fr _ _ _ _ => eF)
        (with_reducible rename News _ _ _ _ => eN)
        dsimp only [GPost]
        simp only [List.push_toArray] at eN
        have eN2 : News _ _ _ ((Ii, iio) :: (plL, W.listOf (vp ++ [Value.ref Dt]).toArray (c + 1)) :: (48, tabObj ps2) :: (55, tabObj qs2) :: (sqD, W.listOf ys.toArray nn) :: (Io, ioo) :: (Dt, tupO [.int _ _, .int _ _, .int _ _] _) :: (tl2 ++ tl)) :=
          news_sub eN (List.forall_mem_cons.mpr ⟨.tail _ (.tail _ (.tail _ (.tail _ (.tail _ (.tail _ (.head _)))))), List.forall_mem_cons.mpr ⟨.tail _ (.head _), List.forall_mem_cons.mpr ⟨.tail _ (.tail _ (.head _)), List.forall_mem_cons.mpr ⟨.tail _ (.tail _ (.tail _ (.head _))), List.forall_mem_cons.mpr ⟨.tail _ (.tail _ (.tail _ (.tail _ (.head _)))), List.forall_mem_cons.mpr ⟨.tail _ (.tail _ (.tail _ (.tail _ (.tail _ (.head _))))), List.forall_mem_cons.mpr ⟨.head _, fun p hp => .tail _ (.tail _ (.tail _ (.tail _ (.tail _ (.tail _ (.tail _ hp))))))⟩⟩⟩⟩⟩⟩⟩)
        refine GEnd.intro eF eN2 ?tne ⟨vp ++ [Value.ref Dt], c + 1, ps2, qs2, _, rfl, ?tT, hP2.mono (fun _ h => .tail _ h), hQ2.mono (fun _ h => .tail _ h), ?tU, ?tI, ?tl, ?t3⟩
        case tne => (refine List.forall_mem_cons.mpr ⟨by k_ne, List.forall_mem_cons.mpr ⟨by k_ne, List.forall_mem_cons.mpr ⟨by k_ne, List.forall_mem_cons.mpr ⟨by k_ne, List.forall_mem_cons.mpr ⟨by k_ne, List.forall_mem_cons.mpr ⟨by k_ne, hnJ2⟩⟩⟩⟩⟩⟩)
        case tT => (rw [plainTurn, if_pos ⟨hple, by assumption, by assumption⟩]; exact (hT.mono (fun _ h => .tail _ (List.mem_append_right _ h))).append (.cons (.head _) (ints3 rfl rfl rfl) .nil))
        case tU => (refine List.forall_mem_cons.mpr ⟨?_, hU2⟩; show @LT.lt Nat _ plL Dt; omega)
        case tI => (refine List.forall_mem_cons.mpr ⟨by k_ne, hnI2⟩)
        case tl => (rw [plainTurn, if_pos ⟨hple, by assumption, by assumption⟩, List.length_append, List.length_singleton]; omega)
        case t3 => (intro z g2 g3; simp [g2, g3, kstB])
      · (with_reducible rename Fr _ _ _ _ => eF)
        (with_reducible rename News _ _ _ _ => eN)
        dsimp only [GPost]
        refine GEnd.intro eF (news_sub (l' := (Ii, iio) :: (plL, W.listOf vp.toArray c) :: (48, tabObj ps2) :: (55, tabObj qs2) :: (sqD, W.listOf ys.toArray nn) :: (Io, ioo) :: (tl2 ++ tl)) eN ?uN) ?une ⟨vp, c, ps2, qs2, _, rfl, ?uT, hP2, hQ2, hU2, hnI2, ?ul, ?u3⟩
        case uN => (intro p9 h9; simp only [List.mem_cons, List.mem_append] at h9 ⊢; rcases h9 with h | h | h | h | h | h | h | h <;> simp [h])
        case une => (refine List.forall_mem_cons.mpr ⟨by k_ne, List.forall_mem_cons.mpr ⟨by k_ne, List.forall_mem_cons.mpr ⟨by k_ne, List.forall_mem_cons.mpr ⟨by k_ne, List.forall_mem_cons.mpr ⟨by k_ne, hnJ2⟩⟩⟩⟩⟩)
        case uT => (rw [plainTurn, if_neg (by rintro ⟨c1, c2, c3⟩; contradiction)]; exact hT.mono (fun _ h => List.mem_append_right _ h))
        case ul => (rw [plainTurn, if_neg (by rintro ⟨c1, c2, c3⟩; contradiction)]; omega)
        case u3 => (intro z g2 g3; simp [g2, g3, kstB])
end
theorem reset_ML1 : True := by
  k_with_none
  w_top off
  exact True.intro

-- ML2
open PySem PySem.W PyProof.Rows PySem.Calls PySem.Spec
set_option Elab.async false
section

set_option maxRecDepth 100000
set_option maxHeartbeats 8000000
def HidP (p : Prop) : Prop := p
theorem insT_len (ns : List (List Int)) (x : List Int) : (insT ns x).length = ns.length + 1 := by
  obtain ⟨b0, b1⟩ := bisT_bd ns x
  unfold insT
  rw [List.length_append, List.length_cons, List.length_take, List.length_drop]
  omega
theorem loop2 (w : World) (p : Program) (loose : List Str) (mean : ExcName → Option Value) (mg mb : Str → Option Value) (nm : Str) (sc : Scope) (x : Str) (body : List Stmt) (hget : getFor (PySem.Challenge.pw_gb0004_01.main.body[14]?) 5 = some (nm, sc, x, body))
    (L fa : Addr) (cd : Value) (h₀ : Heap) (m0 : Str → Option Value) (s : Shared) (Q : Flow → Shared → Prop) (E : Value → Shared → Prop)
    (B : Below callerA h₀ [] h₀) (X : (Mine.hd.heap_39 w.params).In h₀) (T : Top p loose mean mg mb h₀) (hE : PassesOwn (model PySem.Challenge.rw_gb0004_01.row.prog w) (callerA.deeper (envOf nm sc L fa cd)) (envOf nm sc L fa cd) E)
    (fL plL r : Addr) (plO : Obj) (bound : Int) (t₀ u₀ v₀ tb : Tok) (ps0 qs0 : Array Value) (tl0 : Led) (hb1 : 5 ≤ bound) (hb2 : bound ≤ 30)
    (hr : IsRange s.heap r 2 6 1 t₀ u₀ v₀) (F : Fr h₀ L s.heap m0) (N : News h₀ L s.heap ((fL, W.listOf #[] 0) :: (48, tabObj ps0) :: (55, tabObj qs0) :: (plL, plO) :: tl0))
    (hP0 : TabSt 59 4 inQ1 ps0 tl0) (hQ0 : TabSt 74 4 inQ2 qs0 tl0) (htl0 : ∀ p ∈ tl0, p.1 ≠ fL ∧ p.1 ≠ plL ∧ p.1 ≠ 48 ∧ p.1 ≠ 55) (hf48 : @LT.lt Nat _ 55 fL) (hp48 : @LT.lt Nat _ 55 plL) (hfp : @LT.lt Nat _ plL fL)
    (hm1 : m0 (Str.ofString "bound") = some (.int bound tb)) (hm2 : m0 (Str.ofString "found") = some (.ref fL))
    (done : ∀ (m' : Str → Option Value) (h : Heap) (tk : Nat) (vf : List Value) (c : Nat) (ps qs : Array Value) (tl : Led), Fr h₀ L h m' → News h₀ L h ((fL, W.listOf vf.toArray c) :: (48, tabObj ps) :: (55, tabObj qs) :: (plL, plO) :: tl) →
      TupsAre tl vf (foundF bound) → TabSt 59 4 inQ1 ps tl → TabSt 74 4 inQ2 qs tl → (∀ p ∈ tl0, p ∈ tl) → (∀ p ∈ tl, p.1 ≠ fL ∧ p.1 ≠ plL ∧ p.1 ≠ 48 ∧ p.1 ≠ 55) →
      (∀ z : Str, z ≠ Str.ofString "one" → z ≠ Str.ofString "other" → m' z = m0 z) → Q .next { s with heap := h, toks := tk }) :
    wpAny (model PySem.Challenge.rw_gb0004_01.row.prog w) (callerA.deeper (envOf nm sc L fa cd)) (pyIter (.ref r)) (fun it s₂ => LoopAtV PySem.Challenge.rw_gb0004_01.row.prog w (callerA.deeper (envOf nm sc L fa cd)) h₀ (envOf nm sc L fa cd) x body Q E it s₂) E s := by
  revert X
  k_fill
  intro X
  with_unfolding_all cases hget
  have hMk : KstMark := kstMark
  k_with "call ref" => (refine stop_here ?_)
  k_with "pyIter ref" => (refine stop_here ?_)
  refine' loop_rangeG (m₀ := m0) (fun i m nx => ∃ (vf : List Value) (c : Nat) (ps qs : Array Value) (tl : Led), nx = (fL, W.listOf vf.toArray c) :: (48, tabObj ps) :: (55, tabObj qs) :: (plL, plO) :: tl ∧ TupsAre tl vf (((rangeKs 2 (6 - 2 : Int).toNat).take i).foldl (foundRow bound) []) ∧ TabSt 59 4 inQ1 ps tl ∧ TabSt 74 4 inQ2 qs tl ∧ (∀ p ∈ tl0, p ∈ tl) ∧ (∀ p ∈ tl, p.1 ≠ fL ∧ p.1 ≠ plL ∧ p.1 ≠ 48 ∧ p.1 ≠ 55) ∧
      (((rangeKs 2 (6 - 2 : Int).toNat).take i).foldl (foundRow bound) []).length ≤ 5 * i ∧ ∀ z : Str, z ≠ Str.ofString "one" → z ≠ Str.ofString "other" → m z = m0 z) rfl hr (by decide) (rangeSize_nat _ _) F N ?hj ?turn ?done
  case hj => exact ⟨[], 0, ps0, qs0, tl0, rfl, .nil, hP0, hQ0, (fun _ h => h), htl0, Nat.le_refl _, fun _ _ _ => rfl⟩
  case done =>
    rintro m' nx h tk ⟨vf, c, ps, qs, tl, rfl, hT, hP, hQ, hS, hN, _, h3⟩ F' N'
    have e : (rangeKs 2 (6 - 2 : Int).toNat).take (6 - 2 : Int).toNat = rangeKs 2 4 := by rfl
    rw [e] at hT
    exact done m' h tk vf c ps qs tl F' N' hT hP hQ hS hN h3
  case turn =>
    rintro Io hIo i t m₁ nx h tk ioo hi ⟨vf, c, ps, qs, tl, rfl, hT, hP, hQ, hS, hN, hlen, h3⟩ hne F₁ N₁
    have hi4 : i < 4 := hi
    have hmb : m₁ (Str.ofString "bound") = some (.int bound tb) := (h3 _ (by decide) (by decide)).trans hm1
    have hmf : m₁ (Str.ofString "found") = some (.ref fL) := (h3 _ (by decide) (by decide)).trans hm2
    have F₂ := kst_fr (ps := [(Str.ofString "bound", Value.int bound tb), (Str.ofString "found", Value.ref fL)]) (stored := [Str.ofString "other"]) (m₀ := m0) (by intro p hp; rcases List.mem_cons.mp hp with rfl | hp; exact hmb; rw [List.mem_singleton.mp hp]; exact hmf)
      (fun z g1 g2 g3 => h3 z g1 (by intro e; rw [e] at g3; exact absurd g3 (by decide))) F₁
    clear F₁
    have hs : (((rangeKs 2 (6 - 2 : Int).toNat).take (i + 1)).foldl (foundRow bound) []) = foundRow bound (((rangeKs 2 (6 - 2 : Int).toNat).take i).foldl (foundRow bound) []) (2 + (i : Int)) := by
      rw [List.take_add_one, rangeKs_get 2 hi]; simp
    rw [hs]
    generalize (((rangeKs 2 (6 - 2 : Int).toNat).take i).foldl (foundRow bound) []) = fd0 at *
    have hiH : HidP (i < 4) := hi4
    have hi30 : i < 30 := by omega
    have h3H : HidP (∀ z : Str, z ≠ Str.ofString "one" → z ≠ Str.ofString "other" → m₁ z = m0 z) := h3
    clear hs h3 done hi hi4
    k_steps
    refine go_on ?_
    (with_reducible rename IsRange _ _ _ _ _ _ _ _ => rg)
    (with_reducible rename Fr _ _ _ _ => lF)
    (with_reducible rename News _ _ _ _ => lN)
    have hIo48 : @LT.lt Nat _ 48 Io := hIo (48, tabObj _) (.tail _ (.head _))
    have hIo55 : @LT.lt Nat _ 55 Io := hIo (55, tabObj _) (.tail _ (.tail _ (.head _)))
    have hIopl : @LT.lt Nat _ plL Io := hIo (plL, plO) (.tail _ (.tail _ (.tail _ (.head _))))
    have hIofL : @LT.lt Nat _ fL Io := hIo (fL, W.listOf #[] 0) (.head _)
    have hneTl : ∀ p ∈ tl, p.1 ≠ Io := fun p hp => hne p (.tail _ (.tail _ (.tail _ (.tail _ hp))))
    refine' loop_rangeG (m₀ := ?m1) (fun j m nx => ∃ (vf : List Value) (c : Nat) (ps qs : Array Value) (tl : Led), nx = (fL, W.listOf vf.toArray c) :: (48, tabObj ps) :: (55, tabObj qs) :: (plL, plO) :: (Io, ioo) :: tl ∧ TupsAre tl vf (((rangeKs 1 (2 + (i : Int) - 1).toNat).take j).foldl (foundTurn bound (2 + (i : Int))) fd0) ∧ TabSt 59 4 inQ1 ps tl ∧ TabSt 74 4 inQ2 qs tl ∧ (∀ p ∈ tl0, p ∈ tl) ∧ (∀ p ∈ tl, p.1 ≠ fL ∧ p.1 ≠ plL ∧ p.1 ≠ 48 ∧ p.1 ≠ 55) ∧ (∀ p ∈ tl, p.1 ≠ Io) ∧
        (((rangeKs 1 (2 + (i : Int) - 1).toNat).take j).foldl (foundTurn bound (2 + (i : Int))) fd0).length ≤ 5 * i + j ∧
        ∀ z : Str, z ≠ Str.ofString "other" → m z = ?m1 z) rfl rg ?ihs (rangeSize_nat _ _) lF (news_sub (l' := (fL, W.listOf vf.toArray c) :: (48, tabObj ps) :: (55, tabObj qs) :: (plL, plO) :: (Io, ioo) :: tl) lN ?ihN) ?ihj ?iturn ?idone
    case ihs => exact small_one (by omega) (by omega) (by omega) (by omega)
    case ihN => (intro p9 h9; simp only [List.mem_cons] at h9 ⊢; rcases h9 with h | h | h | h | h | h <;> simp [h])
    case ihj => exact ⟨vf, c, ps, qs, tl, rfl, hT, hP, hQ, hS, hN, hneTl, hlen, fun _ _ => rfl⟩
    case idone =>
      rintro m' nx h tk ⟨vf, c, ps, qs, tl, rfl, hT, hP, hQ, hS, hN, hnI, hlen, h3⟩ F' N'
      have e : (rangeKs 1 (2 + (i : Int) - 1).toNat).take (2 + (i : Int) - 1).toNat = rangeKs 1 (2 + (i : Int) - 1).toNat := List.take_of_length_le (by rw [rangeKs_length]; exact Nat.le_refl _)
      rw [e] at hT hlen
      try dsimp only
      k_steps
      dsimp only [GPost]
      refine GEnd.intro F' (news_sub (l' := (Io, ioo) :: (fL, W.listOf vf.toArray c) :: (48, tabObj ps) :: (55, tabObj qs) :: (plL, plO) :: tl) N' ?dN) ?dne ⟨vf, c, ps, qs, tl, rfl, hT, hP, hQ, hS, hN, ?dl, ?d3⟩
      case dN => (intro p9 h9; simp only [List.mem_cons] at h9 ⊢; rcases h9 with h | h | h | h | h | h <;> simp [h])
      case dne => (refine List.forall_mem_cons.mpr ⟨by k_ne, List.forall_mem_cons.mpr ⟨by k_ne, List.forall_mem_cons.mpr ⟨by k_ne, List.forall_mem_cons.mpr ⟨by k_ne, hnI⟩⟩⟩⟩)
      case dl => (show (foundRow bound fd0 (2 + (i : Int))).length ≤ _; unfold foundRow; have hi4 : i < 4 := hiH; omega)
      case d3 =>
        intro z g1 g2
        rw [h3 z g2]
        by_cases e1 : z = Str.ofString "bound"
        · subst e1; exact hm1.symm
        · by_cases e2 : z = Str.ofString "found"
          · subst e2; exact hm2.symm
          · simp [g1, g2, e1, e2, kstB]
    case iturn =>
      rintro Ii hIi j tj m₂ nx h tk iio hj ⟨vf, c, ps, qs, tl, rfl, hT, hP, hQ, hS, hN, hnI, hlen, h3⟩ hne2 F₃ N₃
      have F₄ := kst_fr (ps := []) (stored := []) (by intro p hp; cases hp) (fun z g1 _ g3 => h3 z g1) F₃
      clear F₃ h3
      have hs2 : ((rangeKs 1 (2 + (i : Int) - 1).toNat).take (j + 1)).foldl (foundTurn bound (2 + (i : Int))) fd0 = foundTurn bound (2 + (i : Int)) (((rangeKs 1 (2 + (i : Int) - 1).toNat).take j).foldl (foundTurn bound (2 + (i : Int))) fd0) (1 + (j : Int)) := by
        rw [List.take_add_one, rangeKs_get 1 hj]; simp
      rw [hs2]
      generalize (((rangeKs 1 (2 + (i : Int) - 1).toNat).take j).foldl (foundTurn bound (2 + (i : Int))) fd0) = fd at *
      clear hs2
      have hi4 : i < 4 := hiH
      k_steps
      rotate_left
      · (with_reducible rename Fr _ _ _ _ => eF)
        (with_reducible rename News _ _ _ _ => eN)
        dsimp only [GPost]
        refine GEnd.intro eF (news_sub (l' := (Ii, iio) :: (fL, W.listOf vf.toArray c) :: (48, tabObj ps) :: (55, tabObj qs) :: (plL, plO) :: (Io, ioo) :: tl) eN (fun _ h => h)) hne2 ⟨vf, c, ps, qs, tl, rfl, ?fTx, hP, hQ, hS, hN, hnI, ?flx, ?f3x⟩
        case fTx => (rw [foundTurn, if_neg (by rintro ⟨c1, c2, c3⟩; first | omega | contradiction)]; exact hT)
        case flx => (rw [foundTurn, if_neg (by rintro ⟨c1, c2, c3⟩; first | omega | contradiction)]; omega)
        case f3x => (intro z g3; simp [g3, kstB])
      have hIi48 : @LT.lt Nat _ 48 Ii := hIi (48, tabObj _) (.tail _ (.head _))
      have hIi55 : @LT.lt Nat _ 55 Ii := hIi (55, tabObj _) (.tail _ (.tail _ (.head _)))
      have hIifL : @LT.lt Nat _ fL Ii := hIi (fL, W.listOf _ _) (.head _)
      have hIipl : @LT.lt Nat _ plL Ii := hIi (plL, plO) (.tail _ (.tail _ (.tail _ (.head _))))
      have hIiIo : @LT.lt Nat _ Io Ii := hIi (Io, ioo) (.tail _ (.tail _ (.tail _ (.tail _ (.head _)))))
      have htl48 : ∀ p ∈ tl, p.1 ≠ 48 := fun p hp => (hN p hp).2.2.1
      have htl55 : ∀ p ∈ tl, p.1 ≠ 55 := fun p hp => (hN p hp).2.2.2
      (with_reducible rename News _ _ _ _ => nS)
      replace nS := news_sub (l' := (48, tabObj ps) :: (55, tabObj qs) :: ((Ii, iio) :: (fL, W.listOf vf.toArray c) :: (plL, plO) :: (Io, ioo) :: tl)) nS (by intro p9 h9; simp only [List.mem_cons] at h9 ⊢; rcases h9 with h | h | h | h | h | h | h <;> simp [h])
      refine go_on ?_
      refine' law_shared_con w p loose mean mg mb _ _ _ _ ((Ii, iio) :: (fL, W.listOf vf.toArray c) :: (plL, plO) :: (Io, ioo) :: tl) tl ps qs (fun _ h => .tail _ (.tail _ (.tail _ (.tail _ h)))) ?s1 ?s2 ?s3 ?s4 ?s5 ?s6 hP hQ _ _ _ _ _ _ _ _ _ _ _ _ _ _ _ _ _ ?g1r1 ?g1r2 ?g1r3 ?g1r4 ?g1r5 ?g1r0 ?g1r6 ?g1r7 ?g1r8
      case g1r1 => k_asm
      case g1r2 => k_asm
      case g1r3 => k_asm
      case g1r4 => exact nS
      case s1 => omega
      case s2 => omega
      case s3 => omega
      case s4 => omega
      case s5 => k_all
      case s6 => k_all
      case g1r5 => k_asm
      case g1r0 => first | exact rfl | assumption
      case g1r6 => ktr_room
      case g1r7 => ktr_units
      case g1r8 =>
      intro rg1 nwg1 hg1 tkg1 Fg1 Ng1 hOg1
      obtain ⟨t8, tl2, ps2, qs2, rfl, rfl, hP2, hQ2, hord, hne8⟩ := hOg1
      try dsimp only
      try k_fold
      replace Ng1 := news_sub (l' := (fL, W.listOf vf.toArray c) :: (48, tabObj ps2) :: (55, tabObj qs2) :: (plL, plO) :: (Io, ioo) :: (Ii, iio) :: (tl2 ++ tl)) Ng1 (by
        intro p9 h9
        simp only [List.mem_cons, List.mem_append] at h9 ⊢
        rcases h9 with h | h | h | h | h | h | h | h <;> simp [h])
      have hN2 : ∀ p ∈ tl2 ++ tl, p.1 ≠ fL ∧ p.1 ≠ plL ∧ p.1 ≠ 48 ∧ p.1 ≠ 55 := fun p hp => (List.mem_append.mp hp).elim (fun h => ⟨Nat.ne_of_gt (hord (fL, W.listOf vf.toArray c) (.tail _ (.head _)) p h), Nat.ne_of_gt (hord (plL, plO) (.tail _ (.tail _ (.head _))) p h), (hne8 p h).1, (hne8 p h).2⟩) (hN p)
      have hfL9 : ∀ p ∈ tl2 ++ tl, p.1 ≠ fL := fun p hp => (hN2 p hp).1
      have hS2 : ∀ p ∈ tl0, p ∈ tl2 ++ tl := fun p hp => List.mem_append_right _ (hS p hp)
      have hnI2 : ∀ p ∈ tl2 ++ tl, p.1 ≠ Io := fun p hp => (List.mem_append.mp hp).elim (fun h => Nat.ne_of_gt (hord (Io, ioo) (.tail _ (.tail _ (.tail _ (.head _)))) p h)) (hnI p)
      have hnJ2 : ∀ p ∈ tl2 ++ tl, p.1 ≠ Ii := fun p hp => (List.mem_append.mp hp).elim (fun h => Nat.ne_of_gt (hord (Ii, iio) (.head _) p h)) (fun h => hne2 p (.tail _ (.tail _ (.tail _ (.tail _ (.tail _ h))))))
      k_steps
      rotate_left
      · (with_reducible rename Fr _ _ _ _ => eF)
        (with_reducible rename News _ _ _ _ => eN)
        dsimp only [GPost]
        refine GEnd.intro eF (news_sub (l' := (Ii, iio) :: (fL, W.listOf vf.toArray c) :: (48, tabObj ps2) :: (55, tabObj qs2) :: (plL, plO) :: (Io, ioo) :: (tl2 ++ tl)) eN ?uNx) ?unex ⟨vf, c, ps2, qs2, _, rfl, ?uTx, hP2, hQ2, hS2, hN2, hnI2, ?ulx, ?u3x⟩
        case uNx => (intro p9 h9; simp only [List.mem_cons, List.mem_append] at h9 ⊢; rcases h9 with h | h | h | h | h | h | h | h <;> simp [h])
        case unex => (refine List.forall_mem_cons.mpr ⟨by k_ne, List.forall_mem_cons.mpr ⟨by k_ne, List.forall_mem_cons.mpr ⟨by k_ne, List.forall_mem_cons.mpr ⟨by k_ne, List.forall_mem_cons.mpr ⟨by k_ne, hnJ2⟩⟩⟩⟩⟩)
        case uTx => (rw [foundTurn, if_neg (by rintro ⟨c1, c2, c3⟩; first | omega | contradiction)]; exact hT.mono (fun _ h => List.mem_append_right _ h))
        case ulx => (rw [foundTurn, if_neg (by rintro ⟨c1, c2, c3⟩; first | omega | contradiction)]; omega)
        case u3x => (intro z g3; simp [g3, kstB])
      · (with_reducible rename Fr _ _ _ _ => eF)
        (with_reducible rename News _ _ _ _ => eN)
        dsimp only [GPost]
        refine GEnd.intro eF (news_sub (l' := (Ii, iio) :: (fL, W.listOf vf.toArray c) :: (48, tabObj ps2) :: (55, tabObj qs2) :: (plL, plO) :: (Io, ioo) :: (tl2 ++ tl)) eN ?uNy) ?uney ⟨vf, c, ps2, qs2, _, rfl, ?uTy, hP2, hQ2, hS2, hN2, hnI2, ?uly, ?u3y⟩
        case uNy => (intro p9 h9; simp only [List.mem_cons, List.mem_append] at h9 ⊢; rcases h9 with h | h | h | h | h | h | h | h <;> simp [h])
        case uney => (refine List.forall_mem_cons.mpr ⟨by k_ne, List.forall_mem_cons.mpr ⟨by k_ne, List.forall_mem_cons.mpr ⟨by k_ne, List.forall_mem_cons.mpr ⟨by k_ne, List.forall_mem_cons.mpr ⟨by k_ne, hnJ2⟩⟩⟩⟩⟩)
        case uTy => (rw [foundTurn, if_neg (by rintro ⟨c1, c2, c3⟩; first | omega | contradiction)]; exact hT.mono (fun _ h => List.mem_append_right _ h))
        case uly => (rw [foundTurn, if_neg (by rintro ⟨c1, c2, c3⟩; first | omega | contradiction)]; omega)
        case u3y => (intro z g3; simp [g3, kstB])
      (with_reducible rename News _ _ _ _ => nS3)
      refine go_on ?_
      refine' three_con w p loose mean mg mb _ _ _ _ ((Ii, iio) :: (fL, W.listOf vf.toArray c) :: (48, tabObj ps2) :: (55, tabObj qs2) :: (plL, plO) :: (Io, ioo) :: (tl2 ++ tl)) ?q1 ?q2 ?q3 _ _ _ _ _ _ _ _ _ _ _ _ _ _ _ _ _ ?g3r1 ?g3r2 ?g3r3 ?g3r4 ?g3r5 ?g3r0 ?g3r6 ?g3r7 ?g3r8
      case g3r1 => k_asm
      case g3r2 => k_asm
      case g3r3 => k_asm
      case g3r4 => exact news_sub nS3 (by
        intro p9 h9
        simp only [List.mem_cons, List.mem_append] at h9 ⊢
        rcases h9 with h | h | h | h | h | h | h | h <;> simp [h])
      case q1 => omega
      case q2 => omega
      case q3 => omega
      case g3r5 => k_asm
      case g3r0 => first | exact rfl | assumption
      case g3r6 => ktr_room
      case g3r7 => ktr_units
      case g3r8 =>
      intro rg3 nwg3 hg3 tkg3 Fg3 Ng3 hOg3
      obtain ⟨D, us, cu, rfl, rfl, hus, hLoD⟩ := hOg3
      try dsimp only
      try k_fold
      have hD48 : @LT.lt Nat _ 48 D := hLoD (48, tabObj ps2) (.tail _ (.tail _ (.head _)))
      have hD55 : @LT.lt Nat _ 55 D := hLoD (55, tabObj qs2) (.tail _ (.tail _ (.tail _ (.head _))))
      have hDpl : @LT.lt Nat _ plL D := hLoD (plL, plO) (.tail _ (.tail _ (.tail _ (.tail _ (.head _)))))
      have hDfL : @LT.lt Nat _ fL D := hLoD (fL, W.listOf vf.toArray c) (.tail _ (.head _))
      have hDIo : @LT.lt Nat _ Io D := hLoD (Io, ioo) (.tail _ (.tail _ (.tail _ (.tail _ (.tail _ (.head _))))))
      have hDIi : @LT.lt Nat _ Ii D := hLoD (Ii, iio) (.head _)
      k_steps
      (with_reducible rename News _ _ _ _ => nS4)
      refine go_on ?_
      refine' insort_con w p loose mean mg mb D us _ cu fL c vf _ ((D, tupO us cu) :: (Ii, iio) :: (48, tabObj ps2) :: (55, tabObj qs2) :: (plL, plO) :: (Io, ioo) :: (tl2 ++ tl)) ((D, tupO us cu) :: (tl2 ++ tl)) ?i1 (hT.mono (fun _ h => .tail _ (List.mem_append_right _ h))) ?i2 (.head _) hus ?i3 _ _ _ _ _ _ _ _ _ _ _ _ _ _ _ _ _ ?g4r1 ?g4r2 ?g4r3 ?g4r4 ?g4r5 ?g4r0 ?g4r6 ?g4r7 ?g4r8
      case g4r1 => k_asm
      case g4r2 => k_asm
      case g4r3 => k_asm
      case g4r4 => exact news_sub nS4 (by
        intro p9 h9
        simp only [List.mem_cons, List.mem_append] at h9 ⊢
        rcases h9 with h | h | h | h | h | h | h | h | h <;> simp [h])
      case i1 => (intro p9 h9; simp only [List.mem_cons, List.mem_append] at h9 ⊢; rcases h9 with h | h | h <;> simp [h])
      case i2 => omega
      case i3 => k_all
      case g4r5 => k_asm
      case g4r0 => first | exact rfl | assumption
      case g4r6 => ktr_room
      case g4r7 => ktr_units
      case g4r8 =>
      intro rg4 nwg4 hg4 tkg4 Fg4 Ng4 hOg4
      obtain ⟨rfl, vf2, hT2, rfl⟩ := hOg4
      try dsimp only
      try k_fold
      k_steps
      (with_reducible rename Fr _ _ _ _ => eF)
      (with_reducible rename News _ _ _ _ => eN)
      dsimp only [GPost]
      refine GEnd.intro eF (news_sub (l' := (Ii, iio) :: (fL, W.listOf vf2.toArray (c + 1)) :: (48, tabObj ps2) :: (55, tabObj qs2) :: (plL, plO) :: (Io, ioo) :: (D, tupO us cu) :: (tl2 ++ tl)) eN ?uNz) ?unez ⟨vf2, c + 1, ps2, qs2, _, rfl, ?uTz, hP2.mono (fun _ h => .tail _ h), hQ2.mono (fun _ h => .tail _ h), fun _ h => .tail _ (hS2 _ h), ?uKz, ?uIz, ?ulz, ?u3z⟩
      case uNz => (intro p9 h9; simp only [List.mem_cons, List.mem_append] at h9 ⊢; rcases h9 with h | h | h | h | h | h | h | h | h <;> simp [h])
      case unez => (refine List.forall_mem_cons.mpr ⟨by k_ne, List.forall_mem_cons.mpr ⟨by k_ne, List.forall_mem_cons.mpr ⟨by k_ne, List.forall_mem_cons.mpr ⟨by k_ne, List.forall_mem_cons.mpr ⟨by k_ne, List.forall_mem_cons.mpr ⟨by k_ne, hnJ2⟩⟩⟩⟩⟩⟩)
      case uTz => (rw [foundTurn, if_pos ⟨by first | assumption | omega, by first | assumption | omega, by first | assumption | omega⟩]; exact hT2)
      case uKz => (refine List.forall_mem_cons.mpr ⟨⟨by k_ne, by k_ne, by k_ne, by k_ne⟩, hN2⟩)
      case uIz => (refine List.forall_mem_cons.mpr ⟨by k_ne, hnI2⟩)
      case ulz => (rw [foundTurn, if_pos ⟨by first | assumption | omega, by first | assumption | omega, by first | assumption | omega⟩, insT_len]; omega)
      case u3z => (intro z g3; simp [g3, kstB])
end
theorem reset_ML2 : True := by
  k_with_none
  w_top off
  exact True.intro

-- SO
open PySem PySem.W PyProof.Rows PySem.Calls PySem.Spec
set_option Elab.async false
section
section
variable {prog : Program} {w : World} {A : Around} {E : Value → Shared → Prop} {s : Shared}
/-- list.sort of one item: nothing is asked -/
theorem sort_one_tree {a : Addr} {v : Value} {n : Nat} {P : PySem.Fin → Shared → Prop} (ho : s.heap.get? a = some (seqObj "list" #[v] n))
    (h : P (.done (.ret .none)) { s with heap := sortedHeap s.heap a [v] #[v] }) :
    wpAny (model prog w) A (Builtin.«list.sort» ⟨[.ref a], []⟩) P E s := by
  rw [list_sort_plain]
  refine wpAny_bind (listItems_at ho rfl ?_)
  refine wpAny_bind (listUpdate_at ho rfl ?_ (by rw [sizeLine_eq]; exact Nat.le_of_ble_eq_true rfl) (Nat.zero_le _))
  obtain ⟨e1, ho1⟩ : ∃ e1, (s.heap.update a (Obj.mapSeq fun _ => #[])).get? a = some (seqObj "list" #[] e1) := ⟨_, get?_update_seq ho (fun _ => #[])⟩
  refine wpAny_bind (seqEpoch_at ho1 rfl ?_)
  refine wpAny_bind (wpAny_newTuple ?_ (by rw [sizeLine_eq]; exact Nat.le_of_ble_eq_true rfl))
  refine wpAny_bind (wpAny_newList ?_ (Nat.zero_le _))
  refine wpAny_holding ?_
  have ho6 : (((s.heap.update a (Obj.mapSeq fun _ => #[])).push (seqObj "tuple" #[v] 0)).push (seqObj "list" #[] 0)).get? a = some (seqObj "list" #[] e1) :=
    Heap.get?_push_of_some _ (Heap.get?_push_of_some _ ho1)
  show wpAny (model prog w) A _ P E { s with heap := ((s.heap.update a (Obj.mapSeq fun _ => #[])).push (seqObj "tuple" #[v] 0)).push (seqObj "list" #[] 0) }
  dsimp only
  have h2 : (#[v] : Array Value).size < 2 := by simp
  rw [if_pos h2, if_pos h2]
  refine wpAny_bind (wpAny_pure ?_)
  rw [StateT.run_pure]
  refine wpAny_bind (wpAny_pure ?_)
  dsimp only
  refine wpAny_bind (seqEpoch_at ho6 rfl ?_)
  have e : (arrOf (SortSt.mk' general' ((#[v] : Array Value).zip #[v]) #[] 7 none)).map (·.2) = #[v] := by
    show (((#[v] : Array Value).zip #[v]).map (·.2)) = #[v]
    simp
  rw [e]
  refine wpAny_bind (listUpdate_at ho6 rfl ?_ (Nat.zero_le _) (by rw [sizeLine_eq]; exact Nat.le_of_ble_eq_true rfl))
  simp only [bne_self_eq_false, Bool.false_eq_true, if_false]
  exact wpAny_pure h
theorem sorted_one {l : Addr} {v : Value} {Q : Value → Shared → Prop} (hl : s.heap.IsList l #[v])
    (h : Q (.ref (s.heap.objs.size + 1)) { s with heap := sortedAll s.heap [v] #[v] }) :
    wpAny (model prog w) A (call (.builtin "sorted") [.ref l]) Q E s := by
  refine Calls.call_function_entry kind_sorted plain_sorted entry_sorted (args_sorted1 _) ?_
  unfold Builtin.«sorted»
  refine wpAny_bind (m := checkCount "sorted" 1 1 _) (wpAny_pure ?_)
  refine wpAny_bind (collect_list (vs := [v]) hl ?_ (by rw [sizeLine_eq]; exact Nat.le_of_ble_eq_true rfl))
  refine wpAny_bind (wpAny_newList ?_ (by rw [sizeLine_eq]; exact Nat.le_of_ble_eq_true rfl))
  have hsz : ((s.heap.push (seqObj "list" #[] 0)).update s.heap.objs.size (Obj.mapSeq (· ++ #[v]))).objs.size = s.heap.objs.size + 1 := by
    rw [Heap.size_update, size_push']
  have hoL : (((s.heap.push (seqObj "list" #[] 0)).update s.heap.objs.size (Obj.mapSeq (· ++ #[v]))).push (seqObj "list" #[v] 0)).get? (s.heap.objs.size + 1) = some (seqObj "list" #[v] 0) := by
    rw [← hsz]; exact Heap.get?_push_size _ rfl
  show wpAny _ _ _ _ _ { s with heap := ((s.heap.push (seqObj "list" #[] 0)).update s.heap.objs.size (Obj.mapSeq (· ++ #[v]))).push (seqObj "list" #[v] 0) }
  rw [hsz]
  refine wpAny_bind (wpAny_holding (wpAny_call_entry slot_list_sort ⟨_, hoL, rfl⟩ entry_list_sort (sort_one_tree hoL ⟨_, rfl, ?_⟩) (args_list_sort _)))
  exact wpAny_pure ⟨_, rfl, h⟩
theorem sorted_oneN {h₀ : Heap} {L : Addr} {m : Str → Option Value} {news : List (Addr × Obj)} {l : Addr} {v : Value} {Q : Value → Shared → Prop}
    (F : Fr h₀ L s.heap m) (N : News h₀ L s.heap news) (hl : s.heap.IsList l #[v])
    (h : ∀ (D : Addr) (e : Nat) (h' : Heap), Fr h₀ L h' m → News h₀ L h' ((D, W.listOf #[v] e) :: news) → (∀ q ∈ news, @LT.lt Nat _ q.1 D) → Q (.ref D) { s with heap := h' }) :
    wpAny (model prog w) A (call (.builtin "sorted") [.ref l]) Q E s := by
  refine sorted_one hl ?_
  obtain ⟨e, he⟩ := sortedAll_at s.heap [v] #[v]
  exact h _ e _ (F.kept fun _ _ => sortedAll_old) (N.kept_cons F (fun _ _ => sortedAll_old) (Nat.le_succ _) he) fun p hp => Nat.lt_succ_of_lt (Heap.lt_size (N p hp).1)
end
end

-- MT0
open PySem PySem.W PyProof.Rows PySem.Calls PySem.Spec
set_option Elab.async false
section

set_option maxRecDepth 100000
set_option maxHeartbeats 8000000
theorem fr_as {h₀ h : Heap} {L : Addr} {m : Str → Option Value} {a : Str} {v : Value} (e : m a = some v) (F : Fr h₀ L h m) : Fr h₀ L h (fun y => if y = a then some v else m y) := by
  have em : (fun y => if y = a then some v else m y) = m := by
    funext y
    by_cases hy : y = a
    · rw [if_pos hy, hy, e]
    · rw [if_neg hy]
  rw [em]; exact F
theorem fr_as3 {h₀ h : Heap} {L : Addr} {m : Str → Option Value} {a b c : Str} {v v' v'' : Value} (ea : m a = some v) (eb : m b = some v') (ec : m c = some v'') (F : Fr h₀ L h m) : Fr h₀ L h (fun y => if y = a then some v else if y = b then some v' else if y = c then some v'' else m y) := by
  refine fr_as (m := fun y => if y = b then some v' else if y = c then some v'' else m y) ?_ (fr_as (m := fun y => if y = c then some v'' else m y) ?_ (fr_as ec F))
  · skip
    by_cases h1 : a = b
    · rw [if_pos h1, ← eb, ← h1, ea]
    · rw [if_neg h1]
      by_cases h2 : a = c
      · rw [if_pos h2, ← ec, ← h2, ea]
      · rw [if_neg h2, ea]
  · skip
    by_cases h2 : b = c
    · rw [if_pos h2, ← ec, ← h2, eb]
    · rw [if_neg h2, eb]
theorem tups_cons {R : Led} {vf : List Value} {n : List Int} {ns : List (List Int)} (h : TupsAre R vf (n :: ns)) : ∃ a us c vf', vf = .ref a :: vf' ∧ (a, tupO us c) ∈ R ∧ IntsAre us n ∧ TupsAre R vf' ns := by
  cases h with
  | cons m i r => exact ⟨_, _, _, _, rfl, m, i, r⟩
theorem tups_nil {R : Led} {vf : List Value} (h : TupsAre R vf []) : vf = [] := by cases h; rfl
theorem ints_three {us : List Value} {a b c : Int} (h : IntsAre us [a, b, c]) : ∃ t1 t2 t3, us = [.int a t1, .int b t2, .int c t3] := by
  cases h with
  | cons _ t1 h => cases h with
    | cons _ t2 h => cases h with
      | cons _ t3 h => cases h; exact ⟨t1, t2, t3, rfl⟩
/-- all addresses of a ledger lie below, written out -/
def AL (d : Addr) : Led → Prop
  | [] => True
  | [p] => @LT.lt Nat _ p.1 d
  | p :: q :: r => @LT.lt Nat _ p.1 d ∧ AL d (q :: r)
theorem al_ne {d : Addr} : ∀ (l : Led), AL d l → ∀ q ∈ l, q.1 ≠ d
  | [], _, _, h => nomatch h
  | [p], hp, q, h => by rw [List.mem_singleton.mp h]; exact Nat.ne_of_lt hp
  | p :: q :: r, hp, x, h => by
    rcases List.mem_cons.mp h with rfl | h
    · exact Nat.ne_of_lt hp.1
    · exact al_ne (q :: r) hp.2 x h
def getRest (b : Option Stmt) (i : Nat) : Option (Str × Scope × List Stmt) := match b with
  | some (.FunctionDef n _ l _ _ _ sc _ _ _) => some (n, sc, l.drop i)
  | _ => none
theorem TabSt.one {line col : Nat} {qual : Str} {ps : Array Value} {R : Led} (h : TabSt line col qual ps R) {d : Addr × Obj} (hd : d ∈ R) : ∃ c o, (c, o) ∈ R ∧ TabSt line col qual ps [(c, o)] := by
  rcases h with h | ⟨c', oc, vs, t, h1, h2, h3, h4⟩
  · exact ⟨d.1, d.2, hd, .inl h⟩
  · exact ⟨c', oc, h2, .inr ⟨c', oc, vs, t, h1, .head _, h3, h4⟩⟩
theorem unr_end {h₀ : Heap} {L : Addr} {p : Addr × Obj} {rest : (Str → Option Value) → List (Addr × Obj) → Prop} {s₁ : Shared} {h' : Heap} {tk : Nat} {m' : Str → Option Value} {news' : Led} (F : Fr h₀ L h' m') (N : News h₀ L h' (p :: news')) (hn : ∀ q ∈ news', q.1 ≠ p.1) (r : rest m' news') :
    UnrEndW h₀ L s₁ [p] rest { s₁ with heap := h', toks := tk } :=
  ⟨h', tk, m', news', rfl, F, N, fun q hq x hx => by rw [List.mem_singleton.mp hx]; exact hn q hq, r⟩
theorem News.put {h₀ h : Heap} {L : Addr} {a b c d : Addr × Obj} {R : Led} (N : News h₀ L h (a :: b :: c :: d :: R)) (l : Led) (hl : ∀ q ∈ l, q ∈ R) : News h₀ L h (a :: b :: c :: d :: l) := by
  refine news_sub N ?_
  intro p hp
  simp only [List.mem_cons] at hp ⊢
  rcases hp with h | h | h | h | h
  · simp [h]
  · simp [h]
  · simp [h]
  · simp [h]
  · simp [hl p h]
end

section
local macro_rules | `(tactic| walk_at "execs nil") => `(tactic| (k_here; k_dflt (dsimp only); first | k_gentoks | refine wpAny_execs_nil ?_))
local macro_rules | `(tactic| walk_at "execs cons") => `(tactic| (k_here; k_dflt (dsimp only)))

-- SQ
open PySem PySem.W PyProof.Rows PySem.Calls PySem.Spec
set_option Elab.async false
section
set_option maxRecDepth 100000
set_option maxHeartbeats 2000000
theorem mul_nine {k : Int} (h0 : 0 ≤ k) (h1 : k < 0 + ((9 - 0 : Int).toNat : Int)) : IntMulOk k k := by
  have h2 : k < 9 := h1
  mul_fits
def getBodyT (b : Option Stmt) (i : Nat) : Option (Str × Scope × List Stmt) := match b with
  | some (.FunctionDef n _ l _ _ _ sc _ _ _) => match l[i]? with
    | some (.For _ _ body _ _) => some (n, sc, body)
    | _ => none
  | _ => none
local macro_rules | `(tactic| walk_at "binaryOp Mult int int") => `(tactic| (k_here; refine mul_int ?_ (mul_nine (by with_reducible assumption) (by with_reducible assumption))))

/-- the loop that stands k-th in the body of the loop that stands i-th -/
def getFor2 (b : Option Stmt) (i k : Nat) : Option (Str × Scope × Str × List Stmt) := match b with
  | some (.FunctionDef n _ l _ _ _ sc _ _ _) => match l[i]? with
    | some (.For _ _ body _ _) => match body[k]? with
      | some (.For (.Name x _) _ body2 _ _) => some (n, sc, x, body2)
      | _ => none
    | _ => none
  | _ => none
theorem sqturn (w : World) (p : Program) (loose : List Str) (mean : ExcName → Option Value) (mg mb : Str → Option Value) (nm : Str) (sc : Scope) (x : Str) (body : List Stmt) (hget : getFor2 (PySem.Challenge.pw_gb0004_01.main.body[14]?) 7 2 = some (nm, sc, x, body))
    (L fa : Addr) (cd : Value) (h₀ : Heap) (m : Str → Option Value) (s : Shared) (Q : Flow → Shared → Prop) (E : Value → Shared → Prop)
    (B : Below callerA h₀ [] h₀) (X : (Mine.hd.heap_39 w.params).In h₀) (T : Top p loose mean mg mb h₀) (hE : PassesOwn (model PySem.Challenge.rw_gb0004_01.row.prog w) (callerA.deeper (envOf nm sc L fa cd)) (envOf nm sc L fa cd) E)
    (R : Led) (v root : Int) (tv : Tok) (h1 : bisI [0, 1, 4, 9, 16, 25, 36, 49, 64] v = root) (h2 : root * root = v) (h3 : root.fmod 2 = 1) (h4 : 0 ≤ root) (h5 : root ≤ 9)
    (F : Fr h₀ L s.heap (fun y => if y = x then some (.int v tv) else m y)) (N : News h₀ L s.heap R)
    (done : ∀ (m' : Str → Option Value) (h : Heap) (tk : Nat), Fr h₀ L h m' → News h₀ L h R → (∀ z : Str, z ≠ Str.ofString "square" → z ≠ Str.ofString "root" → m' z = m z) → Q .next { s with heap := h, toks := tk }) :
    wpAny (model PySem.Challenge.rw_gb0004_01.row.prog w) (callerA.deeper (envOf nm sc L fa cd)) (execs body (envOf nm sc L fa cd)) Q E s := by
  revert X
  k_fill
  intro X
  with_unfolding_all cases hget
  have hMk : KstMark := kstMark
  k_with "call ref" => (refine stop_here ?_)
  k_steps
  (with_reducible rename IntsAre _ _ => hi8)
  have hi9 : IntsAre _ [0, 1, 4, 9, 16, 25, 36, 49, 64] := hi8
  refine go_on ?_
  refine' bisect_int_con w p loose mean mg mb _ _ _ _ _ [0, 1, 4, 9, 16, 25, 36, 49, 64] ((_, LCg.lst _) :: R) ?bm hi9 ?bl _ _ _ _ _ _ _ _ _ _ _ _ _ _ _ _ _ ?b1r1 ?b1r2 ?b1r3 ?b1r4 ?b1r5 ?b1r0 ?b1r6 ?b1r7 ?b1r8
  case b1r1 => k_asm
  case b1r2 => k_asm
  case b1r3 => k_asm
  case b1r4 => k_asm
  case bm => exact .head _
  case bl => decide
  case b1r5 => k_asm
  case b1r0 => first | exact rfl | assumption
  case b1r6 => ktr_room
  case b1r7 => ktr_units
  case b1r8 =>
  intro rb1 nwb1 hb1 tkb1 Fb1 Nb1 hOb1
  obtain ⟨t1, rfl, rfl⟩ := hOb1
  try dsimp only
  try k_fold
  rw [h1]
  k_steps
  all_goals first
    | (exfalso; contradiction)
    | (exfalso; omega)
    | ((with_reducible rename Fr _ _ _ _ => eF); (with_reducible rename News _ _ _ _ => eN); exact done _ _ _ eF (fun p hp => eN p (.tail _ hp)) (fun z g1 g2 => by simp [g1, g2]))
end
theorem reset_SQ : True := by
  k_with_none
  w_top off
  exact True.intro

-- FT
open PySem PySem.W PyProof.Rows PySem.Calls PySem.Spec
set_option Elab.async false
section
set_option maxRecDepth 100000
set_option maxHeartbeats 2000000
theorem fr_back {m : Str → Option Value} {a b c : Str} {v v' v'' : Value} (ea : m a = some v) (eb : m b = some v') (ec : m c = some v'') (y : Str) : (if y = a then some v else if y = b then some v' else if y = c then some v'' else m y) = m y := by
  by_cases h1 : y = a
  · rw [if_pos h1, h1, ea]
  · rw [if_neg h1]
    by_cases h2 : y = b
    · rw [if_pos h2, h2, eb]
    · rw [if_neg h2]
      by_cases h3 : y = c
      · rw [if_pos h3, h3, ec]
      · rw [if_neg h3]
theorem fturn0 (w : World) (p : Program) (loose : List Str) (mean : ExcName → Option Value) (mg mb : Str → Option Value) (nm : Str) (sc : Scope) (body : List Stmt) (hget : getBodyT (PySem.Challenge.pw_gb0004_01.main.body[14]?) 7 = some (nm, sc, body))
    (L fa : Addr) (cd : Value) (h₀ : Heap) (m : Str → Option Value) (s : Shared) (Q : Flow → Shared → Prop) (E : Value → Shared → Prop)
    (B : Below callerA h₀ [] h₀) (X : (Mine.hd.heap_39 w.params).In h₀) (T : Top p loose mean mg mb h₀) (hE : PassesOwn (model PySem.Challenge.rw_gb0004_01.row.prog w) (callerA.deeper (envOf nm sc L fa cd)) (envOf nm sc L fa cd) E)
    (R : Led) (ta tb tc : Tok)
    (F : Fr h₀ L s.heap m) (N : News h₀ L s.heap R)
    (hma : m (Str.ofString "a") = some (.int 3 ta)) (hmb : m (Str.ofString "b") = some (.int 4 tb)) (hmc : m (Str.ofString "c") = some (.int 5 tc))
    (done : ∀ (m' : Str → Option Value) (h : Heap) (tk : Nat), Fr h₀ L h m' → News h₀ L h R → (∀ z : Str, z ≠ Str.ofString "even" → z ≠ Str.ofString "square" → z ≠ Str.ofString "root" → m' z = m z) → Q .next { s with heap := h, toks := tk }) :
    wpAny (model PySem.Challenge.rw_gb0004_01.row.prog w) (callerA.deeper (envOf nm sc L fa cd)) (execs body (envOf nm sc L fa cd)) Q E s := by
  revert X
  k_fill
  intro X
  with_unfolding_all cases hget
  have hMk : KstMark := kstMark
  k_with_none
  k_with "call ref" => (refine stop_here ?_)
  k_with "pyIter ref" => (refine stop_here ?_)
  have F2 := fr_as3 hma hmb hmc F
  clear F
  k_steps
  refine go_on ?_
  (with_reducible rename Fr _ _ _ _ => lF)
  (with_reducible rename News _ _ _ _ => lN)
  refine' loop_listG (m₀ := ?m0) (news := ?nn) (fun i m nx => nx = ?nn ∧ ∀ z : Str, z ≠ Str.ofString "square" → z ≠ Str.ofString "root" → m z = ?m0 z) rfl (.head _) lF lN ?hj ?hfix ?turn ?done
  case hj => exact ⟨rfl, fun _ _ _ => rfl⟩
  case hfix => (rintro i m nx ⟨rfl, _⟩; exact .head _)
  case done =>
    rintro m₁ nx h tk ⟨rfl, h3⟩ F' N'
    try dsimp only
    k_steps
    exact done _ _ _ F' (fun p hp => N' p (.tail _ hp)) (fun z g1 g2 g3 => by rw [h3 z g2 g3]; simp only [if_neg g1]; exact fr_back hma hmb hmc z)
  case turn =>
    rintro I hI i v m₁ nx h tk io hi hv ⟨rfl, h3⟩ hnx F₁ N₁
    have hi2 : i < 2 := hi
    obtain rfl | rfl : i = 0 ∨ i = 1 := by omega
    · cases (show some _ = some v from hv)
      refine sqturn w p loose mean mg mb _ _ _ _ rfl L fa cd h₀ m₁ _ _ E B X T (by passes_own) _ _ 1 _ (by decide) (by decide) (by decide) (by decide) (by decide) F₁ N₁ ?_
      intro m' h' tk' F' N' h4
      exact GEnd.intro F' N' hnx ⟨rfl, fun z g1 g2 => (h4 z g1 g2).trans (h3 z g1 g2)⟩
    · cases (show some _ = some v from hv)
      refine sqturn w p loose mean mg mb _ _ _ _ rfl L fa cd h₀ m₁ _ _ E B X T (by passes_own) _ _ 3 _ (by decide) (by decide) (by decide) (by decide) (by decide) F₁ N₁ ?_
      intro m' h' tk' F' N' h4
      exact GEnd.intro F' N' hnx ⟨rfl, fun z g1 g2 => (h4 z g1 g2).trans (h3 z g1 g2)⟩
theorem fturn1 (w : World) (p : Program) (loose : List Str) (mean : ExcName → Option Value) (mg mb : Str → Option Value) (nm : Str) (sc : Scope) (body : List Stmt) (hget : getBodyT (PySem.Challenge.pw_gb0004_01.main.body[14]?) 7 = some (nm, sc, body))
    (L fa : Addr) (cd : Value) (h₀ : Heap) (m : Str → Option Value) (s : Shared) (Q : Flow → Shared → Prop) (E : Value → Shared → Prop)
    (B : Below callerA h₀ [] h₀) (X : (Mine.hd.heap_39 w.params).In h₀) (T : Top p loose mean mg mb h₀) (hE : PassesOwn (model PySem.Challenge.rw_gb0004_01.row.prog w) (callerA.deeper (envOf nm sc L fa cd)) (envOf nm sc L fa cd) E)
    (R : Led) (ta tb tc : Tok)
    (F : Fr h₀ L s.heap m) (N : News h₀ L s.heap R)
    (hma : m (Str.ofString "a") = some (.int 5 ta)) (hmb : m (Str.ofString "b") = some (.int 12 tb)) (hmc : m (Str.ofString "c") = some (.int 13 tc))
    (done : ∀ (m' : Str → Option Value) (h : Heap) (tk : Nat), Fr h₀ L h m' → News h₀ L h R → (∀ z : Str, z ≠ Str.ofString "even" → z ≠ Str.ofString "square" → z ≠ Str.ofString "root" → m' z = m z) → Q .next { s with heap := h, toks := tk }) :
    wpAny (model PySem.Challenge.rw_gb0004_01.row.prog w) (callerA.deeper (envOf nm sc L fa cd)) (execs body (envOf nm sc L fa cd)) Q E s := by
  revert X
  k_fill
  intro X
  with_unfolding_all cases hget
  have hMk : KstMark := kstMark
  k_with_none
  k_with "call ref" => (refine stop_here ?_)
  k_with "pyIter ref" => (refine stop_here ?_)
  have F2 := fr_as3 hma hmb hmc F
  clear F
  k_steps
  refine go_on ?_
  (with_reducible rename Fr _ _ _ _ => lF)
  (with_reducible rename News _ _ _ _ => lN)
  refine' loop_listG (m₀ := ?m0) (news := ?nn) (fun i m nx => nx = ?nn ∧ ∀ z : Str, z ≠ Str.ofString "square" → z ≠ Str.ofString "root" → m z = ?m0 z) rfl (.head _) lF lN ?hj ?hfix ?turn ?done
  case hj => exact ⟨rfl, fun _ _ _ => rfl⟩
  case hfix => (rintro i m nx ⟨rfl, _⟩; exact .head _)
  case done =>
    rintro m₁ nx h tk ⟨rfl, h3⟩ F' N'
    try dsimp only
    k_steps
    exact done _ _ _ F' (fun p hp => N' p (.tail _ hp)) (fun z g1 g2 g3 => by rw [h3 z g2 g3]; simp only [if_neg g1]; exact fr_back hma hmb hmc z)
  case turn =>
    rintro I hI i v m₁ nx h tk io hi hv ⟨rfl, h3⟩ hnx F₁ N₁
    have hi2 : i < 2 := hi
    obtain rfl | rfl : i = 0 ∨ i = 1 := by omega
    · cases (show some _ = some v from hv)
      refine sqturn w p loose mean mg mb _ _ _ _ rfl L fa cd h₀ m₁ _ _ E B X T (by passes_own) _ _ 1 _ (by decide) (by decide) (by decide) (by decide) (by decide) F₁ N₁ ?_
      intro m' h' tk' F' N' h4
      exact GEnd.intro F' N' hnx ⟨rfl, fun z g1 g2 => (h4 z g1 g2).trans (h3 z g1 g2)⟩
    · cases (show some _ = some v from hv)
      refine sqturn w p loose mean mg mb _ _ _ _ rfl L fa cd h₀ m₁ _ _ E B X T (by passes_own) _ _ 5 _ (by decide) (by decide) (by decide) (by decide) (by decide) F₁ N₁ ?_
      intro m' h' tk' F' N' h4
      exact GEnd.intro F' N' hnx ⟨rfl, fun z g1 g2 => (h4 z g1 g2).trans (h3 z g1 g2)⟩
theorem fturn2 (w : World) (p : Program) (loose : List Str) (mean : ExcName → Option Value) (mg mb : Str → Option Value) (nm : Str) (sc : Scope) (body : List Stmt) (hget : getBodyT (PySem.Challenge.pw_gb0004_01.main.body[14]?) 7 = some (nm, sc, body))
    (L fa : Addr) (cd : Value) (h₀ : Heap) (m : Str → Option Value) (s : Shared) (Q : Flow → Shared → Prop) (E : Value → Shared → Prop)
    (B : Below callerA h₀ [] h₀) (X : (Mine.hd.heap_39 w.params).In h₀) (T : Top p loose mean mg mb h₀) (hE : PassesOwn (model PySem.Challenge.rw_gb0004_01.row.prog w) (callerA.deeper (envOf nm sc L fa cd)) (envOf nm sc L fa cd) E)
    (R : Led) (ta tb tc : Tok)
    (F : Fr h₀ L s.heap m) (N : News h₀ L s.heap R)
    (hma : m (Str.ofString "a") = some (.int 8 ta)) (hmb : m (Str.ofString "b") = some (.int 15 tb)) (hmc : m (Str.ofString "c") = some (.int 17 tc))
    (done : ∀ (m' : Str → Option Value) (h : Heap) (tk : Nat), Fr h₀ L h m' → News h₀ L h R → (∀ z : Str, z ≠ Str.ofString "even" → z ≠ Str.ofString "square" → z ≠ Str.ofString "root" → m' z = m z) → Q .next { s with heap := h, toks := tk }) :
    wpAny (model PySem.Challenge.rw_gb0004_01.row.prog w) (callerA.deeper (envOf nm sc L fa cd)) (execs body (envOf nm sc L fa cd)) Q E s := by
  revert X
  k_fill
  intro X
  with_unfolding_all cases hget
  have hMk : KstMark := kstMark
  k_with_none
  k_with "call ref" => (refine stop_here ?_)
  k_with "pyIter ref" => (refine stop_here ?_)
  have F2 := fr_as3 hma hmb hmc F
  clear F
  k_steps
  refine go_on ?_
  (with_reducible rename Fr _ _ _ _ => lF)
  (with_reducible rename News _ _ _ _ => lN)
  refine' loop_listG (m₀ := ?m0) (news := ?nn) (fun i m nx => nx = ?nn ∧ ∀ z : Str, z ≠ Str.ofString "square" → z ≠ Str.ofString "root" → m z = ?m0 z) rfl (.head _) lF lN ?hj ?hfix ?turn ?done
  case hj => exact ⟨rfl, fun _ _ _ => rfl⟩
  case hfix => (rintro i m nx ⟨rfl, _⟩; exact .head _)
  case done =>
    rintro m₁ nx h tk ⟨rfl, h3⟩ F' N'
    try dsimp only
    k_steps
    exact done _ _ _ F' (fun p hp => N' p (.tail _ hp)) (fun z g1 g2 g3 => by rw [h3 z g2 g3]; simp only [if_neg g1]; exact fr_back hma hmb hmc z)
  case turn =>
    rintro I hI i v m₁ nx h tk io hi hv ⟨rfl, h3⟩ hnx F₁ N₁
    have hi2 : i < 2 := hi
    obtain rfl | rfl : i = 0 ∨ i = 1 := by omega
    · cases (show some _ = some v from hv)
      refine sqturn w p loose mean mg mb _ _ _ _ rfl L fa cd h₀ m₁ _ _ E B X T (by passes_own) _ _ 3 _ (by decide) (by decide) (by decide) (by decide) (by decide) F₁ N₁ ?_
      intro m' h' tk' F' N' h4
      exact GEnd.intro F' N' hnx ⟨rfl, fun z g1 g2 => (h4 z g1 g2).trans (h3 z g1 g2)⟩
    · cases (show some _ = some v from hv)
      refine sqturn w p loose mean mg mb _ _ _ _ rfl L fa cd h₀ m₁ _ _ E B X T (by passes_own) _ _ 5 _ (by decide) (by decide) (by decide) (by decide) (by decide) F₁ N₁ ?_
      intro m' h' tk' F' N' h4
      exact GEnd.intro F' N' hnx ⟨rfl, fun z g1 g2 => (h4 z g1 g2).trans (h3 z g1 g2)⟩
theorem fturn3 (w : World) (p : Program) (loose : List Str) (mean : ExcName → Option Value) (mg mb : Str → Option Value) (nm : Str) (sc : Scope) (body : List Stmt) (hget : getBodyT (PySem.Challenge.pw_gb0004_01.main.body[14]?) 7 = some (nm, sc, body))
    (L fa : Addr) (cd : Value) (h₀ : Heap) (m : Str → Option Value) (s : Shared) (Q : Flow → Shared → Prop) (E : Value → Shared → Prop)
    (B : Below callerA h₀ [] h₀) (X : (Mine.hd.heap_39 w.params).In h₀) (T : Top p loose mean mg mb h₀) (hE : PassesOwn (model PySem.Challenge.rw_gb0004_01.row.prog w) (callerA.deeper (envOf nm sc L fa cd)) (envOf nm sc L fa cd) E)
    (R : Led) (ta tb tc : Tok)
    (F : Fr h₀ L s.heap m) (N : News h₀ L s.heap R)
    (hma : m (Str.ofString "a") = some (.int 7 ta)) (hmb : m (Str.ofString "b") = some (.int 24 tb)) (hmc : m (Str.ofString "c") = some (.int 25 tc))
    (done : ∀ (m' : Str → Option Value) (h : Heap) (tk : Nat), Fr h₀ L h m' → News h₀ L h R → (∀ z : Str, z ≠ Str.ofString "even" → z ≠ Str.ofString "square" → z ≠ Str.ofString "root" → m' z = m z) → Q .next { s with heap := h, toks := tk }) :
    wpAny (model PySem.Challenge.rw_gb0004_01.row.prog w) (callerA.deeper (envOf nm sc L fa cd)) (execs body (envOf nm sc L fa cd)) Q E s := by
  revert X
  k_fill
  intro X
  with_unfolding_all cases hget
  have hMk : KstMark := kstMark
  k_with_none
  k_with "call ref" => (refine stop_here ?_)
  k_with "pyIter ref" => (refine stop_here ?_)
  have F2 := fr_as3 hma hmb hmc F
  clear F
  k_steps
  refine go_on ?_
  (with_reducible rename Fr _ _ _ _ => lF)
  (with_reducible rename News _ _ _ _ => lN)
  refine' loop_listG (m₀ := ?m0) (news := ?nn) (fun i m nx => nx = ?nn ∧ ∀ z : Str, z ≠ Str.ofString "square" → z ≠ Str.ofString "root" → m z = ?m0 z) rfl (.head _) lF lN ?hj ?hfix ?turn ?done
  case hj => exact ⟨rfl, fun _ _ _ => rfl⟩
  case hfix => (rintro i m nx ⟨rfl, _⟩; exact .head _)
  case done =>
    rintro m₁ nx h tk ⟨rfl, h3⟩ F' N'
    try dsimp only
    k_steps
    exact done _ _ _ F' (fun p hp => N' p (.tail _ hp)) (fun z g1 g2 g3 => by rw [h3 z g2 g3]; simp only [if_neg g1]; exact fr_back hma hmb hmc z)
  case turn =>
    rintro I hI i v m₁ nx h tk io hi hv ⟨rfl, h3⟩ hnx F₁ N₁
    have hi2 : i < 2 := hi
    obtain rfl | rfl : i = 0 ∨ i = 1 := by omega
    · cases (show some _ = some v from hv)
      refine sqturn w p loose mean mg mb _ _ _ _ rfl L fa cd h₀ m₁ _ _ E B X T (by passes_own) _ _ 1 _ (by decide) (by decide) (by decide) (by decide) (by decide) F₁ N₁ ?_
      intro m' h' tk' F' N' h4
      exact GEnd.intro F' N' hnx ⟨rfl, fun z g1 g2 => (h4 z g1 g2).trans (h3 z g1 g2)⟩
    · cases (show some _ = some v from hv)
      refine sqturn w p loose mean mg mb _ _ _ _ rfl L fa cd h₀ m₁ _ _ E B X T (by passes_own) _ _ 7 _ (by decide) (by decide) (by decide) (by decide) (by decide) F₁ N₁ ?_
      intro m' h' tk' F' N' h4
      exact GEnd.intro F' N' hnx ⟨rfl, fun z g1 g2 => (h4 z g1 g2).trans (h3 z g1 g2)⟩
theorem fturn4 (w : World) (p : Program) (loose : List Str) (mean : ExcName → Option Value) (mg mb : Str → Option Value) (nm : Str) (sc : Scope) (body : List Stmt) (hget : getBodyT (PySem.Challenge.pw_gb0004_01.main.body[14]?) 7 = some (nm, sc, body))
    (L fa : Addr) (cd : Value) (h₀ : Heap) (m : Str → Option Value) (s : Shared) (Q : Flow → Shared → Prop) (E : Value → Shared → Prop)
    (B : Below callerA h₀ [] h₀) (X : (Mine.hd.heap_39 w.params).In h₀) (T : Top p loose mean mg mb h₀) (hE : PassesOwn (model PySem.Challenge.rw_gb0004_01.row.prog w) (callerA.deeper (envOf nm sc L fa cd)) (envOf nm sc L fa cd) E)
    (R : Led) (ta tb tc : Tok)
    (F : Fr h₀ L s.heap m) (N : News h₀ L s.heap R)
    (hma : m (Str.ofString "a") = some (.int 20 ta)) (hmb : m (Str.ofString "b") = some (.int 21 tb)) (hmc : m (Str.ofString "c") = some (.int 29 tc))
    (done : ∀ (m' : Str → Option Value) (h : Heap) (tk : Nat), Fr h₀ L h m' → News h₀ L h R → (∀ z : Str, z ≠ Str.ofString "even" → z ≠ Str.ofString "square" → z ≠ Str.ofString "root" → m' z = m z) → Q .next { s with heap := h, toks := tk }) :
    wpAny (model PySem.Challenge.rw_gb0004_01.row.prog w) (callerA.deeper (envOf nm sc L fa cd)) (execs body (envOf nm sc L fa cd)) Q E s := by
  revert X
  k_fill
  intro X
  with_unfolding_all cases hget
  have hMk : KstMark := kstMark
  k_with_none
  k_with "call ref" => (refine stop_here ?_)
  k_with "pyIter ref" => (refine stop_here ?_)
  have F2 := fr_as3 hma hmb hmc F
  clear F
  k_steps
  refine go_on ?_
  (with_reducible rename Fr _ _ _ _ => lF)
  (with_reducible rename News _ _ _ _ => lN)
  refine' loop_listG (m₀ := ?m0) (news := ?nn) (fun i m nx => nx = ?nn ∧ ∀ z : Str, z ≠ Str.ofString "square" → z ≠ Str.ofString "root" → m z = ?m0 z) rfl (.head _) lF lN ?hj ?hfix ?turn ?done
  case hj => exact ⟨rfl, fun _ _ _ => rfl⟩
  case hfix => (rintro i m nx ⟨rfl, _⟩; exact .head _)
  case done =>
    rintro m₁ nx h tk ⟨rfl, h3⟩ F' N'
    try dsimp only
    k_steps
    exact done _ _ _ F' (fun p hp => N' p (.tail _ hp)) (fun z g1 g2 g3 => by rw [h3 z g2 g3]; simp only [if_neg g1]; exact fr_back hma hmb hmc z)
  case turn =>
    rintro I hI i v m₁ nx h tk io hi hv ⟨rfl, h3⟩ hnx F₁ N₁
    have hi2 : i < 2 := hi
    obtain rfl | rfl : i = 0 ∨ i = 1 := by omega
    · cases (show some _ = some v from hv)
      refine sqturn w p loose mean mg mb _ _ _ _ rfl L fa cd h₀ m₁ _ _ E B X T (by passes_own) _ _ 3 _ (by decide) (by decide) (by decide) (by decide) (by decide) F₁ N₁ ?_
      intro m' h' tk' F' N' h4
      exact GEnd.intro F' N' hnx ⟨rfl, fun z g1 g2 => (h4 z g1 g2).trans (h3 z g1 g2)⟩
    · cases (show some _ = some v from hv)
      refine sqturn w p loose mean mg mb _ _ _ _ rfl L fa cd h₀ m₁ _ _ E B X T (by passes_own) _ _ 7 _ (by decide) (by decide) (by decide) (by decide) (by decide) F₁ N₁ ?_
      intro m' h' tk' F' N' h4
      exact GEnd.intro F' N' hnx ⟨rfl, fun z g1 g2 => (h4 z g1 g2).trans (h3 z g1 g2)⟩
end
theorem reset_FT : True := by
  k_with_none
  w_top off
  exact True.intro

-- KL
open PySem PySem.W PyProof.Rows PySem.Calls PySem.Spec
set_option Elab.async false
section

set_option maxRecDepth 100000
set_option maxHeartbeats 2000000
theorem loop_rangeS {prog : Program} {w : World} {A : Around} {E : Value → Shared → Prop} {s : Shared} {env : Env} {h₀ : Heap} {x : Str} {body : List Stmt} {Q : Flow → Shared → Prop} {r : Addr} {a₀ b₀ c₀ : Int} {t₀ u₀ v₀ : Tok} {n : Nat} {m₀ : Str → Option Value} {news : Led} (J : Nat → (Str → Option Value) → Led → Prop)
    (hh : A.handled = none) (hr : IsRange s.heap r a₀ b₀ c₀ t₀ u₀ v₀) (hsmall : Builtin.Range.small a₀ b₀ c₀ = true) (hn : Builtin.Range.rangeSize a₀ b₀ c₀ = (n : Int)) (F : Fr h₀ env.locals s.heap m₀) (N : News h₀ env.locals s.heap news) (hj : J 0 m₀ news)
    (turn : ∀ I, Lo I news → ∀ i t m₁ nx h tk io, i < n → J i m₁ nx → (∀ p ∈ nx, p.1 ≠ I) → Fr h₀ env.locals h (fun y => if y = x then some (.int (a₀ + (i : Int) * c₀) t) else m₁ y) → News h₀ env.locals h ((I, io) :: nx) →
      wpAny (model prog w) A (execs body env) (GPost h₀ env.locals I io (J (i + 1)) { s with heap := h, toks := tk } Q) E { s with heap := h, toks := tk })
    (done : ∀ m₁ nx h tk, J n m₁ nx → Fr h₀ env.locals h m₁ → News h₀ env.locals h nx → Q .next { s with heap := h, toks := tk }) :
    wpAny (model prog w) A (pyIter (.ref r)) (fun it s₂ => LoopAtV prog w A h₀ env x body Q E it s₂) E s := by
  refine wpAny_pyIter_range hr hsmall ?_
  have W : Walks prog w A s.heap.objs.size [s.heap.objs.size] [s.heap.objs.size] n (fun i v => i < n ∧ ∃ t, v = .int (a₀ + i * c₀) t)
      (fun i h => IsRangeIter h s.heap.objs.size (a₀ + (i : Nat) * c₀) ((n : Int) - (i : Nat)) c₀) := (Walks.range hh _ a₀ c₀ n).bound
  refine loopG (fixed := []) J W ?_ ?_ (next_is_new F) ?_ ?_ (by show IsRangeIter _ _ _ _ _; rw [hn]; simpa using Heap.get?_push_size _ rfl) (F.push _) (fun p hp => ⟨Heap.get?_push_of_some _ (N p hp).1, (N p hp).2⟩) hj (fun _ _ _ _ p hp => nomatch hp) ?_ done
  · intro b hb
    exact .inl (List.mem_singleton.mp hb)
  · intro i h hst
    exact ⟨_, hst⟩
  · intro e
    exact absurd F.ns.lt (e ▸ Nat.lt_irrefl _)
  · intro p hp e
    exact absurd (Heap.lt_size (N p hp).1) (e ▸ Nat.lt_irrefl _)
  · rintro i v m₁ nx h tk io hi ⟨_, t, rfl⟩ hJ hnx F₁ N₁
    exact turn _ (Lo.of N) i t m₁ nx h tk io hi hJ hnx F₁ N₁
def getStmt (b : Option Stmt) (i : Nat) : Option (Str × Scope × Stmt) := match b with
  | some (.FunctionDef n _ l _ _ _ sc _ _ _) => (l[i]?).map fun st => (n, sc, st)
  | _ => none
theorem three_exN : ∀ a b : Fin 6, 1 ≤ b.val → b.val < a.val → ((min ((a.val : Int) * a.val - b.val * b.val) (2 * a.val * b.val)) * (min ((a.val : Int) * a.val - b.val * b.val) (2 * a.val * b.val)) + (max ((a.val : Int) * a.val - b.val * b.val) (2 * a.val * b.val)) * (max ((a.val : Int) * a.val - b.val * b.val) (2 * a.val * b.val)) = ((a.val : Int) * a.val + b.val * b.val) * ((a.val : Int) * a.val + b.val * b.val) ∧
    0 < min ((a.val : Int) * a.val - b.val * b.val) (2 * a.val * b.val) ∧ min ((a.val : Int) * a.val - b.val * b.val) (2 * a.val * b.val) < 42 ∧ 0 < max ((a.val : Int) * a.val - b.val * b.val) (2 * a.val * b.val) ∧ max ((a.val : Int) * a.val - b.val * b.val) (2 * a.val * b.val) < 42 ∧ 0 < (a.val : Int) * a.val + b.val * b.val ∧ (a.val : Int) * a.val + b.val * b.val < 42 ∧
    0 < shared (min ((a.val : Int) * a.val - b.val * b.val) (2 * a.val * b.val)) (max ((a.val : Int) * a.val - b.val * b.val) (2 * a.val * b.val)) ∧ shared (min ((a.val : Int) * a.val - b.val * b.val) (2 * a.val * b.val)) (max ((a.val : Int) * a.val - b.val * b.val) (2 * a.val * b.val)) < 42 ∧ 0 < shared a.val b.val ∧ shared a.val b.val < 6 ∧
    (shared (shared (min ((a.val : Int) * a.val - b.val * b.val) (2 * a.val * b.val)) (max ((a.val : Int) * a.val - b.val * b.val) (2 * a.val * b.val))) ((a.val : Int) * a.val + b.val * b.val) = shared a.val b.val * shared a.val b.val ∨ shared (shared (min ((a.val : Int) * a.val - b.val * b.val) (2 * a.val * b.val)) (max ((a.val : Int) * a.val - b.val * b.val) (2 * a.val * b.val))) ((a.val : Int) * a.val + b.val * b.val) = 2 * shared a.val b.val * shared a.val b.val)) := by decide +kernel
theorem three_ex (one other : Int) (h1 : 1 ≤ other) (h2 : other < one) (h3 : one ≤ 5) : ∃ A B C : Int, [min (one * one - other * other) (2 * one * other), max (one * one - other * other) (2 * one * other), one * one + other * other] = [A, B, C] ∧ A * A + B * B = C * C ∧ 0 < A ∧ A < 42 ∧ 0 < B ∧ B < 42 ∧ 0 < C ∧ C < 42 ∧ 0 < shared A B ∧ shared A B < 42 ∧ 0 < shared one other ∧ shared one other < 6 ∧
    (shared (shared A B) C = shared one other * shared one other ∨ shared (shared A B) C = 2 * shared one other * shared one other) := by
  obtain ⟨a, ha⟩ : ∃ a : Fin 6, (a.val : Int) = one := ⟨⟨one.toNat, by omega⟩, by show ((one.toNat : Nat) : Int) = one; omega⟩
  obtain ⟨b, hb⟩ : ∃ b : Fin 6, (b.val : Int) = other := ⟨⟨other.toNat, by omega⟩, by show ((other.toNat : Nat) : Int) = other; omega⟩
  subst ha; subst hb
  exact ⟨_, _, _, rfl, three_exN a b (by omega) (by omega)⟩
theorem mem_last {a b c d : Addr × Obj} {l : Led} : ∀ p ∈ d :: b :: c :: l, p ∈ a :: b :: c :: d :: l := by
  intro p h; simp only [List.mem_cons] at h ⊢; rcases h with h | h | h | h <;> simp [h]
theorem mem_mix {a b c : Addr × Obj} {l l' : Led} : ∀ p ∈ a :: b :: c :: (l ++ l'), p ∈ a :: b :: (l ++ c :: l') := by
  intro p h; simp only [List.mem_cons, List.mem_append] at h ⊢; rcases h with h | h | h | h | h <;> simp [h]
theorem mem_pick {a b c d : Addr × Obj} {l : Led} : ∀ p ∈ c :: d :: b :: l, p ∈ a :: b :: c :: d :: l := by
  intro p h; simp only [List.mem_cons] at h ⊢; rcases h with h | h | h | h <;> simp [h]
theorem kloop (w : World) (p : Program) (loose : List Str) (mean : ExcName → Option Value) (mg mb : Str → Option Value) (nm : Str) (sc : Scope) (st : Stmt) (hget : getStmt (PySem.Challenge.pw_gb0004_01.main.body[14]?) 8 = some (nm, sc, st))
    (L fa : Addr) (cd : Value) (h₀ : Heap) (m : Str → Option Value) (s : Shared) (Q : Flow → Shared → Prop) (E : Value → Shared → Prop)
    (B : Below callerA h₀ [] h₀) (X : (Mine.hd.heap_39 w.params).In h₀) (T : Top p loose mean mg mb h₀) (hE : PassesOwn (model PySem.Challenge.rw_gb0004_01.row.prog w) (callerA.deeper (envOf nm sc L fa cd)) (envOf nm sc L fa cd) E)
    (lw cP cQ : Addr) (oP oQ : Obj) (scr : List Int) (ws : List Value) (ps qs : Array Value) (hws : IntsAre ws scr) (hlw : h₀.IsList lw ws.toArray) (hlen : scr.length ≤ 63)
    (F : Fr h₀ L s.heap m) (N : News h₀ L s.heap [(48, tabObj ps), (55, tabObj qs), (cP, oP), (cQ, oQ)])
    (hP : TabSt 59 4 inQ1 ps [(cP, oP)]) (hQ : TabSt 74 4 inQ2 qs [(cQ, oQ)]) (hP4 : HidP (cP ≠ 48 ∧ cP ≠ 55)) (hQ4 : HidP (cQ ≠ 48 ∧ cQ ≠ 55))
    (hm0 : m (Str.ofString "script") = some (.ref lw))
    (done : ∀ (m' : Str → Option Value) (h : Heap) (tk : Nat) (psz qsz : Array Value) (tlz : Led), Fr h₀ L h m' → News h₀ L h ((48, tabObj psz) :: (55, tabObj qsz) :: tlz) → TabSt 59 4 inQ1 psz tlz → TabSt 74 4 inQ2 qsz tlz → Q .next { s with heap := h, toks := tk }) :
    wpAny (model PySem.Challenge.rw_gb0004_01.row.prog w) (callerA.deeper (envOf nm sc L fa cd)) (exec st (envOf nm sc L fa cd)) Q E s := by
  revert X
  k_fill
  intro X
  with_unfolding_all cases hget
  have hMk : KstMark := kstMark
  k_with_none
  k_with "call ref" => (refine stop_here ?_)
  k_with "pyIter ref" => (refine stop_here ?_)
  have F2 := fr_as hm0 F
  clear F
  k_steps
  refine go_on ?_
  (with_reducible rename IsRange _ _ _ _ _ _ _ _ => rg)
  (with_reducible rename Fr _ _ _ _ => lF)
  (with_reducible rename News _ _ _ _ => lN)
  generalize he : ((if (scr.length : Int) < 4 then (scr.length : Int) else 4) - 1) = e at rg
  have he5 : -1 ≤ e ∧ e ≤ 3 ∧ e + 1 ≤ scr.length := by split at he <;> omega
  have hsz : Builtin.Range.rangeSize 0 e 2 = ((Builtin.Range.rangeSize 0 e 2).toNat : Int) := by
    rw [Int.toNat_of_nonneg]; unfold Builtin.Range.rangeSize; simp only [show (2 : Int) > 0 by decide, if_true]; split <;> omega
  have hturn : ∀ i : Nat, i < (Builtin.Range.rangeSize 0 e 2).toNat → (i : Int) * 2 < e := by
    intro i hi
    unfold Builtin.Range.rangeSize at hi
    simp only [show (2 : Int) > 0 by decide, if_true] at hi
    split at hi <;> omega
  have hsm : Builtin.Range.small 0 e 2 = true := by
    have h5 : e = -1 ∨ e = 0 ∨ e = 1 ∨ e = 2 ∨ e = 3 := by omega
    rcases h5 with h | h | h | h | h <;> rw [h] <;> decide
  have hi0 : cP ≠ 48 ∧ cP ≠ 55 := hP4
  have hi1 : cQ ≠ 48 ∧ cQ ≠ 55 := hQ4
  refine' loop_rangeS (m₀ := ?m0) (fun i m nx => ∃ (ps qs : Array Value) (tl : Led), nx = (48, tabObj ps) :: (55, tabObj qs) :: tl ∧ TabSt 59 4 inQ1 ps tl ∧ TabSt 74 4 inQ2 qs tl ∧ (∀ p ∈ tl, p.1 ≠ 48 ∧ p.1 ≠ 55) ∧ m (Str.ofString "script") = some (.ref lw)) rfl rg hsm hsz lF lN ?hj ?turn ?done
  case hj => exact ⟨ps, qs, _, rfl, hP.mono (fun p hp => by rw [List.mem_singleton.mp hp]; exact .head _), hQ.mono (fun p hp => by rw [List.mem_singleton.mp hp]; exact .tail _ (.head _)), List.forall_mem_cons.mpr ⟨hi0, List.forall_mem_cons.mpr ⟨hi1, List.forall_mem_nil _⟩⟩, by simp⟩
  case done =>
    rintro m₁ nx h tk ⟨ps, qs, tl, rfl, hPz, hQz, _⟩ F' N'
    exact done _ _ _ _ _ _ F' N' hPz hQz
  case turn =>
    rintro I hI i t m₁ nx h tk io hi ⟨ps, qs, tl, rfl, hP, hQ, hN, hm1⟩ hnx F₁ N₁
    have hk := hturn i hi
    have hk0 : 0 ≤ 0 + (i : Int) * 2 := by omega
    have hk1 : 0 + (i : Int) * 2 + 1 < scr.length := by omega
    have hI48 : @LT.lt Nat _ 48 I := hI (48, tabObj _) (.head _)
    have hI55 : @LT.lt Nat _ 55 I := hI (55, tabObj _) (.tail _ (.head _))
    have htl48 : ∀ p ∈ tl, p.1 ≠ 48 := fun p hp => (hN p hp).1
    have htl55 : ∀ p ∈ tl, p.1 ≠ 55 := fun p hp => (hN p hp).2
    have F2 := fr_as (a := Str.ofString "script") (v := .ref lw) ((if_neg (by decide)).trans hm1) F₁
    clear F₁ lF lN hI he hsz hsm hi0 hi1 hP4 hQ4 done he5 hturn rg
    have hu1 := Int.fmod_nonneg_of_pos (scr.getD (0 + (i : Int) * 2).toNat 0) (show (0 : Int) < 4 by decide)
    have hu2 := Int.fmod_lt_of_pos (scr.getD (0 + (i : Int) * 2).toNat 0) (show (0 : Int) < 4 by decide)
    have hv1 := Int.fmod_nonneg_of_pos (scr.getD (0 + (i : Int) * 2 + 1).toNat 0) (show (0 : Int) < 2 + (scr.getD (0 + (i : Int) * 2).toNat 0).fmod 4 - 1 by omega)
    have hv2 := Int.fmod_lt_of_pos (scr.getD (0 + (i : Int) * 2 + 1).toNat 0) (show (0 : Int) < 2 + (scr.getD (0 + (i : Int) * 2).toNat 0).fmod 4 - 1 by omega)
    k_steps
    (with_reducible rename News _ _ _ _ => nS0)
    refine go_on ?_
    refine' three_con w p loose mean mg mb _ _ _ _ ((I, io) :: (48, tabObj ps) :: (55, tabObj qs) :: tl) ?q1 ?q2 ?q3 _ _ _ _ _ _ _ _ _ _ _ _ _ _ _ _ _ ?g3r1 ?g3r2 ?g3r3 ?g3r4 ?g3r5 ?g3r0 ?g3r6 ?g3r7 ?g3r8
    case g3r1 => k_asm
    case g3r2 => k_asm
    case g3r3 => k_asm
    case g3r4 => exact nS0
    case q1 => omega
    case q2 => omega
    case q3 => omega
    case g3r5 => k_asm
    case g3r0 => first | exact rfl | assumption
    case g3r6 => ktr_room
    case g3r7 => ktr_units
    case g3r8 =>
    intro rg3 nwg3 hg3 tkg3 Fg3 Ng3 hOg3
    obtain ⟨D, us, cu, rfl, rfl, hus, hLoD⟩ := hOg3
    try dsimp only
    try k_fold
    obtain ⟨A, B', C, hABC, f1, fA1, fA2, fB1, fB2, fC1, fC2, fs1, fs2, fo1, fo2, fx⟩ := three_ex (2 + (scr.getD (0 + (i : Int) * 2).toNat 0).fmod 4) (1 + (scr.getD (0 + (i : Int) * 2 + 1).toNat 0).fmod (2 + (scr.getD (0 + (i : Int) * 2).toNat 0).fmod 4 - 1)) (by omega) (by omega) (by omega)
    rw [hABC] at hus
    obtain ⟨tA, tB, tC, rfl⟩ := ints_three hus
    have hD48 : @LT.lt Nat _ 48 D := hLoD (48, tabObj ps) (.tail _ (.head _))
    have hD55 : @LT.lt Nat _ 55 D := hLoD (55, tabObj qs) (.tail _ (.tail _ (.head _)))
    clear hus hABC
    have hx0a := htl48
    have hx0b := htl55
    have hx0c : ∀ p ∈ tl, p.1 ≠ I := fun p hp => hnx p (.tail _ (.tail _ hp))
    have hP0 := hP
    have hQ0 := hQ
    clear htl48 htl55 hN hnx hP hQ hLoD
    k_steps
    (with_reducible rename News _ _ _ _ => nQ1)
    refine go_on ?_
    refine' law_shared_con w p loose mean mg mb _ _ _ _ ((I, io) :: tl) (tl) ps qs (fun _ h => .tail _ h) ?s1 ?s2 ?s3 ?s4 ?s5 ?s6 hP0 hQ0 _ _ _ _ _ _ _ _ _ _ _ _ _ _ _ _ _ ?h1r1 ?h1r2 ?h1r3 ?h1r4 ?h1r5 ?h1r0 ?h1r6 ?h1r7 ?h1r8
    case h1r1 => k_asm
    case h1r2 => k_asm
    case h1r3 => k_asm
    case h1r4 => exact news_sub nQ1 mem_pick
    case s1 => omega
    case s2 => omega
    case s3 => omega
    case s4 => omega
    case s5 => k_all
    case s6 => k_all
    case h1r5 => k_asm
    case h1r0 => first | exact rfl | assumption
    case h1r6 => ktr_room
    case h1r7 => ktr_units
    case h1r8 =>
    intro rh1 nwh1 hh1 tkh1 Fh1 Nh1 hOh1
    obtain ⟨t1, tl1, ps1, qs1, rfl, rfl, hP1, hQ1, hord1, hne1⟩ := hOh1
    try dsimp only
    try k_fold
    replace Nh1 := news_sub Nh1 mem_mix
    have hx1a : ∀ p ∈ tl1 ++ tl, p.1 ≠ 48 := fun p hp => (List.mem_append.mp hp).elim (fun h => (hne1 p h).1) (hx0a p)
    have hx1b : ∀ p ∈ tl1 ++ tl, p.1 ≠ 55 := fun p hp => (List.mem_append.mp hp).elim (fun h => (hne1 p h).2) (hx0b p)
    have hx1c : ∀ p ∈ tl1 ++ tl, p.1 ≠ I := fun p hp => (List.mem_append.mp hp).elim (fun h => Nat.ne_of_gt (hord1 (I, io) (.head _) p h)) (hx0c p)
    k_steps
    any_goals (exfalso; contradiction)
    (with_reducible rename News _ _ _ _ => nQ2)
    refine go_on ?_
    refine' law_shared_con w p loose mean mg mb _ _ _ _ ((I, io) :: (tl1 ++ tl)) ((tl1 ++ tl)) ps1 qs1 (fun _ h => .tail _ h) ?s1 ?s2 ?s3 ?s4 ?s5 ?s6 hP1 hQ1 _ _ _ _ _ _ _ _ _ _ _ _ _ _ _ _ _ ?h2r1 ?h2r2 ?h2r3 ?h2r4 ?h2r5 ?h2r0 ?h2r6 ?h2r7 ?h2r8
    case h2r1 => k_asm
    case h2r2 => k_asm
    case h2r3 => k_asm
    case h2r4 => exact news_sub nQ2 (fun _ h => h)
    case s1 => omega
    case s2 => omega
    case s3 => omega
    case s4 => omega
    case s5 => k_all
    case s6 => k_all
    case h2r5 => k_asm
    case h2r0 => first | exact rfl | assumption
    case h2r6 => ktr_room
    case h2r7 => ktr_units
    case h2r8 =>
    intro rh2 nwh2 hh2 tkh2 Fh2 Nh2 hOh2
    obtain ⟨t2, tl2, ps2, qs2, rfl, rfl, hP2, hQ2, hord2, hne2⟩ := hOh2
    try dsimp only
    try k_fold
    replace Nh2 := news_sub Nh2 mem_mix
    have hx2a : ∀ p ∈ tl2 ++ (tl1 ++ tl), p.1 ≠ 48 := fun p hp => (List.mem_append.mp hp).elim (fun h => (hne2 p h).1) (hx1a p)
    have hx2b : ∀ p ∈ tl2 ++ (tl1 ++ tl), p.1 ≠ 55 := fun p hp => (List.mem_append.mp hp).elim (fun h => (hne2 p h).2) (hx1b p)
    have hx2c : ∀ p ∈ tl2 ++ (tl1 ++ tl), p.1 ≠ I := fun p hp => (List.mem_append.mp hp).elim (fun h => Nat.ne_of_gt (hord2 (I, io) (.head _) p h)) (hx1c p)
    k_steps
    (with_reducible rename News _ _ _ _ => nQ3)
    refine go_on ?_
    refine' law_shared_con w p loose mean mg mb _ _ _ _ ((I, io) :: (tl2 ++ (tl1 ++ tl))) ((tl2 ++ (tl1 ++ tl))) ps2 qs2 (fun _ h => .tail _ h) ?s1 ?s2 ?s3 ?s4 ?s5 ?s6 hP2 hQ2 _ _ _ _ _ _ _ _ _ _ _ _ _ _ _ _ _ ?h3r1 ?h3r2 ?h3r3 ?h3r4 ?h3r5 ?h3r0 ?h3r6 ?h3r7 ?h3r8
    case h3r1 => k_asm
    case h3r2 => k_asm
    case h3r3 => k_asm
    case h3r4 => exact news_sub nQ3 (fun _ h => h)
    case s1 => omega
    case s2 => omega
    case s3 => omega
    case s4 => omega
    case s5 => k_all
    case s6 => k_all
    case h3r5 => k_asm
    case h3r0 => first | exact rfl | assumption
    case h3r6 => ktr_room
    case h3r7 => ktr_units
    case h3r8 =>
    intro rh3 nwh3 hh3 tkh3 Fh3 Nh3 hOh3
    obtain ⟨t3, tl3, ps3, qs3, rfl, rfl, hP3, hQ3, hord3, hne3⟩ := hOh3
    try dsimp only
    try k_fold
    replace Nh3 := news_sub Nh3 mem_mix
    have hx3a : ∀ p ∈ tl3 ++ (tl2 ++ (tl1 ++ tl)), p.1 ≠ 48 := fun p hp => (List.mem_append.mp hp).elim (fun h => (hne3 p h).1) (hx2a p)
    have hx3b : ∀ p ∈ tl3 ++ (tl2 ++ (tl1 ++ tl)), p.1 ≠ 55 := fun p hp => (List.mem_append.mp hp).elim (fun h => (hne3 p h).2) (hx2b p)
    have hx3c : ∀ p ∈ tl3 ++ (tl2 ++ (tl1 ++ tl)), p.1 ≠ I := fun p hp => (List.mem_append.mp hp).elim (fun h => Nat.ne_of_gt (hord3 (I, io) (.head _) p h)) (hx2c p)
    k_steps
    rotate_left
    · exfalso
      (with_reducible rename List.any _ _ = false => ha)
      simp only [List.any_cons, List.any_nil, Bool.or_false, Bool.or_eq_false_iff, beq_eq_false_iff_ne, ne_eq] at ha
      rcases fx with h | h
      · exact ha.1 h.symm
      · exact ha.2 h.symm
    · (with_reducible rename Fr _ _ _ _ => eF)
      (with_reducible rename News _ _ _ _ => eN)
      dsimp only [GPost]
      refine GEnd.intro eF (news_sub eN ?eN1) ?eN2 ⟨ps3, qs3, tl3 ++ (tl2 ++ (tl1 ++ tl)), rfl, hP3, hQ3, fun p hp => ⟨hx3a p hp, hx3b p hp⟩, ?eM⟩
      case eN1 => exact mem_last
      case eN2 => exact List.forall_mem_cons.mpr ⟨by k_ne, List.forall_mem_cons.mpr ⟨by k_ne, hx3c⟩⟩
      case eM => first | rfl | simp
end
theorem reset_KL : True := by
  k_with_none
  w_top off
  exact True.intro

-- MTA
open PySem PySem.W PyProof.Rows PySem.Calls PySem.Spec
set_option Elab.async false
section
set_option maxRecDepth 100000
set_option maxHeartbeats 2000000
theorem tail0 (w : World) (p : Program) (loose : List Str) (mean : ExcName → Option Value) (mg mb : Str → Option Value) (nm : Str) (sc : Scope) (body : List Stmt) (hget : getRest (PySem.Challenge.pw_gb0004_01.main.body[14]?) 6 = some (nm, sc, body))
    (L fa : Addr) (cd : Value) (h₀ : Heap) (m : Str → Option Value) (s : Shared) (Q : Flow → Shared → Prop) (E : Value → Shared → Prop)
    (B : Below callerA h₀ [] h₀) (X : (Mine.hd.heap_39 w.params).In h₀) (T : Top p loose mean mg mb h₀) (hE : PassesOwn (model PySem.Challenge.rw_gb0004_01.row.prog w) (callerA.deeper (envOf nm sc L fa cd)) (envOf nm sc L fa cd) E)
    (fL plL lw : Addr) (scr : List Int) (ws vf vp : List Value) (cf c : Nat) (ps qs : Array Value) (R : Led) (hws : IntsAre ws scr) (hlw : h₀.IsList lw ws.toArray) (hlen : scr.length ≤ 63)
    (F : Fr h₀ L s.heap m) (N : News h₀ L s.heap ((fL, W.listOf vf.toArray cf) :: (48, tabObj ps) :: (55, tabObj qs) :: (plL, W.listOf vp.toArray c) :: R))
    (hTf : TupsAre R vf [[3,4,5]]) (hTp : TupsAre R vp [[3,4,5]]) (hP : TabSt 59 4 inQ1 ps R) (hQ : TabSt 74 4 inQ2 qs R) (hR : ∀ p ∈ R, p.1 ≠ fL ∧ p.1 ≠ plL ∧ p.1 ≠ 48 ∧ p.1 ≠ 55)
    (hf48 : @LT.lt Nat _ 55 fL) (hp48 : @LT.lt Nat _ 55 plL) (hfp : @LT.lt Nat _ plL fL)
    (hm0 : m (Str.ofString "script") = some (.ref lw)) (hm1 : m (Str.ofString "plain") = some (.ref plL)) (hm2 : m (Str.ofString "found") = some (.ref fL))
    (done : ∀ (m' : Str → Option Value) (h : Heap) (tk : Nat) (psz qsz : Array Value) (tlz : Led), Fr h₀ L h m' → News h₀ L h ((48, tabObj psz) :: (55, tabObj qsz) :: tlz) → TabSt 59 4 inQ1 psz tlz → TabSt 74 4 inQ2 qsz tlz → Q (.ret (.bool true)) { s with heap := h, toks := tk }) :
    wpAny (model PySem.Challenge.rw_gb0004_01.row.prog w) (callerA.deeper (envOf nm sc L fa cd)) (execs body (envOf nm sc L fa cd)) Q E s := by
  revert X
  k_fill
  intro X
  with_unfolding_all cases hget
  have hMk : KstMark := kstMark
  k_with_none
  obtain ⟨af0, uf0, cf0, vvf0, rfl, mmf0, iif0, hTf⟩ := tups_cons hTf
  obtain ⟨tf0a, tf0b, tf0c, rfl⟩ := ints_three iif0
  cases tups_nil hTf
  obtain ⟨ap0, up0, cp0, vvp0, rfl, mmp0, iip0, hTp⟩ := tups_cons hTp
  obtain ⟨tp0a, tp0b, tp0c, rfl⟩ := ints_three iip0
  cases tups_nil hTp
  obtain ⟨cP, oP, mmP, hP1⟩ := hP.one mmf0
  obtain ⟨cQ, oQ, mmQ, hQ1⟩ := hQ.one mmf0
  have N2 := News.put N [(cP, oP), (cQ, oQ), (af0, tupO [.int 3 tf0a, .int 4 tf0b, .int 5 tf0c] cf0), (ap0, tupO [.int 3 tp0a, .int 4 tp0b, .int 5 tp0c] cp0)] (List.forall_mem_cons.mpr ⟨mmP, List.forall_mem_cons.mpr ⟨mmQ, List.forall_mem_cons.mpr ⟨mmf0, List.forall_mem_cons.mpr ⟨mmp0, List.forall_mem_nil _⟩⟩⟩⟩)
  have hdP : HidP (cP ≠ 48 ∧ cP ≠ 55) := (hR _ mmP).2.2
  have hdQ : HidP (cQ ≠ 48 ∧ cQ ≠ 55) := (hR _ mmQ).2.2
  clear mmf0 iif0 mmp0 iip0 mmP mmQ hR N hP hQ
  k_with "call builtin:sorted" => (k_here; k_dflt (refine' sorted_oneN ?zk1 ?zk2 ?zk3 ?_; (case zk1 => k_asm); (case zk2 => k_asm); (case zk3 => kso_list)); intro D' e' h' F' N' l1; (try k_lt l1); (try k_sweep))
  have F2 := fr_as3 hm2 hm1 hm0 F
  clear F
  k_with "exec For Tuple Name cons nil" => (refine stop_here ?_)
  k_steps
  refine go_on ?_
  k_with_none
  k_with "execs cons" => (refine stop_here ?_)
  k_steps
  (with_reducible rename @LT.lt Nat _ _ _ ∧ @LT.lt Nat _ _ _ ∧ _ => zl)
  refine go_on ?_
  (with_reducible rename Fr _ _ _ _ => lF0)
  (with_reducible rename News _ _ _ _ => lN0)
  refine fturn0 w p loose mean mg mb _ _ _ rfl L fa cd h₀ _ _ _ _ B X T (by passes_own) _ _ _ _ lF0 lN0 rfl rfl rfl ?_
  clear lF0 lN0
  intro m5 h5 tk5 F5 N5 hk5
  replace F5 := fr_as ((hk5 (Str.ofString "script") (by decide) (by decide) (by decide)).trans rfl) F5
  clear hk5
  try dsimp only
  k_steps
  refine' unr_end F5 N5 ?hn5 ⟨?hs5, ?hr5⟩
  case hn5 => exact al_ne _ zl
  case hs5 => k_subL
  case hr5 =>
  clear F5 N5
  k_steps
  refine go_on ?_
  (with_reducible rename Fr _ _ _ _ => lF)
  (with_reducible rename News _ _ _ _ => lN)
  refine wpAny_execs_cons ?_
  refine' kloop w p loose mean mg mb _ _ _ ?kg L fa cd h₀ _ _ _ _ B X T ?ke lw cP cQ oP oQ scr ws ps qs hws hlw hlen lF ?kn hP1 hQ1 hdP hdQ ?km ?kd
  case kg => rfl
  case ke => passes_own
  case kn => exact List.forall_mem_cons.mpr ⟨lN _ (by k_mem), List.forall_mem_cons.mpr ⟨lN _ (by k_mem), List.forall_mem_cons.mpr ⟨lN _ (by k_mem), List.forall_mem_cons.mpr ⟨lN _ (by k_mem), List.forall_mem_nil _⟩⟩⟩⟩
  case km => rfl
  case kd =>
  clear lF lN
  intro m' h' tk' psz qsz tlz F' Nz hPz hQz
  try dsimp only
  k_with_none
  k_steps
  exact done _ _ _ _ _ _ (by assumption) (by assumption) hPz hQz
theorem tail1 (w : World) (p : Program) (loose : List Str) (mean : ExcName → Option Value) (mg mb : Str → Option Value) (nm : Str) (sc : Scope) (body : List Stmt) (hget : getRest (PySem.Challenge.pw_gb0004_01.main.body[14]?) 6 = some (nm, sc, body))
    (L fa : Addr) (cd : Value) (h₀ : Heap) (m : Str → Option Value) (s : Shared) (Q : Flow → Shared → Prop) (E : Value → Shared → Prop)
    (B : Below callerA h₀ [] h₀) (X : (Mine.hd.heap_39 w.params).In h₀) (T : Top p loose mean mg mb h₀) (hE : PassesOwn (model PySem.Challenge.rw_gb0004_01.row.prog w) (callerA.deeper (envOf nm sc L fa cd)) (envOf nm sc L fa cd) E)
    (fL plL lw : Addr) (scr : List Int) (ws vf vp : List Value) (cf c : Nat) (ps qs : Array Value) (R : Led) (hws : IntsAre ws scr) (hlw : h₀.IsList lw ws.toArray) (hlen : scr.length ≤ 63)
    (F : Fr h₀ L s.heap m) (N : News h₀ L s.heap ((fL, W.listOf vf.toArray cf) :: (48, tabObj ps) :: (55, tabObj qs) :: (plL, W.listOf vp.toArray c) :: R))
    (hTf : TupsAre R vf [[3,4,5],[5,12,13]]) (hTp : TupsAre R vp [[3,4,5],[5,12,13]]) (hP : TabSt 59 4 inQ1 ps R) (hQ : TabSt 74 4 inQ2 qs R) (hR : ∀ p ∈ R, p.1 ≠ fL ∧ p.1 ≠ plL ∧ p.1 ≠ 48 ∧ p.1 ≠ 55)
    (hf48 : @LT.lt Nat _ 55 fL) (hp48 : @LT.lt Nat _ 55 plL) (hfp : @LT.lt Nat _ plL fL)
    (hm0 : m (Str.ofString "script") = some (.ref lw)) (hm1 : m (Str.ofString "plain") = some (.ref plL)) (hm2 : m (Str.ofString "found") = some (.ref fL))
    (done : ∀ (m' : Str → Option Value) (h : Heap) (tk : Nat) (psz qsz : Array Value) (tlz : Led), Fr h₀ L h m' → News h₀ L h ((48, tabObj psz) :: (55, tabObj qsz) :: tlz) → TabSt 59 4 inQ1 psz tlz → TabSt 74 4 inQ2 qsz tlz → Q (.ret (.bool true)) { s with heap := h, toks := tk }) :
    wpAny (model PySem.Challenge.rw_gb0004_01.row.prog w) (callerA.deeper (envOf nm sc L fa cd)) (execs body (envOf nm sc L fa cd)) Q E s := by
  revert X
  k_fill
  intro X
  with_unfolding_all cases hget
  have hMk : KstMark := kstMark
  k_with_none
  obtain ⟨af0, uf0, cf0, vvf0, rfl, mmf0, iif0, hTf⟩ := tups_cons hTf
  obtain ⟨tf0a, tf0b, tf0c, rfl⟩ := ints_three iif0
  obtain ⟨af1, uf1, cf1, vvf1, rfl, mmf1, iif1, hTf⟩ := tups_cons hTf
  obtain ⟨tf1a, tf1b, tf1c, rfl⟩ := ints_three iif1
  cases tups_nil hTf
  obtain ⟨ap0, up0, cp0, vvp0, rfl, mmp0, iip0, hTp⟩ := tups_cons hTp
  obtain ⟨tp0a, tp0b, tp0c, rfl⟩ := ints_three iip0
  obtain ⟨ap1, up1, cp1, vvp1, rfl, mmp1, iip1, hTp⟩ := tups_cons hTp
  obtain ⟨tp1a, tp1b, tp1c, rfl⟩ := ints_three iip1
  cases tups_nil hTp
  obtain ⟨cP, oP, mmP, hP1⟩ := hP.one mmf0
  obtain ⟨cQ, oQ, mmQ, hQ1⟩ := hQ.one mmf0
  have N2 := News.put N [(cP, oP), (cQ, oQ), (af0, tupO [.int 3 tf0a, .int 4 tf0b, .int 5 tf0c] cf0), (af1, tupO [.int 5 tf1a, .int 12 tf1b, .int 13 tf1c] cf1), (ap0, tupO [.int 3 tp0a, .int 4 tp0b, .int 5 tp0c] cp0), (ap1, tupO [.int 5 tp1a, .int 12 tp1b, .int 13 tp1c] cp1)] (List.forall_mem_cons.mpr ⟨mmP, List.forall_mem_cons.mpr ⟨mmQ, List.forall_mem_cons.mpr ⟨mmf0, List.forall_mem_cons.mpr ⟨mmf1, List.forall_mem_cons.mpr ⟨mmp0, List.forall_mem_cons.mpr ⟨mmp1, List.forall_mem_nil _⟩⟩⟩⟩⟩⟩)
  have hdP : HidP (cP ≠ 48 ∧ cP ≠ 55) := (hR _ mmP).2.2
  have hdQ : HidP (cQ ≠ 48 ∧ cQ ≠ 55) := (hR _ mmQ).2.2
  clear mmf0 iif0 mmf1 iif1 mmp0 iip0 mmp1 iip1 mmP mmQ hR N hP hQ
  have F2 := fr_as3 hm2 hm1 hm0 F
  clear F
  k_with "exec For Tuple Name cons nil" => (refine stop_here ?_)
  k_steps
  refine go_on ?_
  k_with_none
  k_with "execs cons" => (refine stop_here ?_)
  k_steps
  (with_reducible rename @LT.lt Nat _ _ _ ∧ @LT.lt Nat _ _ _ ∧ _ => zl)
  refine go_on ?_
  (with_reducible rename Fr _ _ _ _ => lF0)
  (with_reducible rename News _ _ _ _ => lN0)
  refine fturn0 w p loose mean mg mb _ _ _ rfl L fa cd h₀ _ _ _ _ B X T (by passes_own) _ _ _ _ lF0 lN0 rfl rfl rfl ?_
  clear lF0 lN0
  intro m5 h5 tk5 F5 N5 hk5
  replace F5 := fr_as ((hk5 (Str.ofString "script") (by decide) (by decide) (by decide)).trans rfl) F5
  clear hk5
  try dsimp only
  k_steps
  refine' unr_end F5 N5 ?hn5 ⟨?hs5, ?hr5⟩
  case hn5 => exact al_ne _ zl
  case hs5 => k_subL
  case hr5 =>
  clear F5 N5
  k_steps
  refine go_on ?_
  (with_reducible rename Fr _ _ _ _ => lF1)
  (with_reducible rename News _ _ _ _ => lN1)
  refine fturn1 w p loose mean mg mb _ _ _ rfl L fa cd h₀ _ _ _ _ B X T (by passes_own) _ _ _ _ lF1 lN1 rfl rfl rfl ?_
  clear lF1 lN1
  intro m6 h6 tk6 F6 N6 hk6
  replace F6 := fr_as ((hk6 (Str.ofString "script") (by decide) (by decide) (by decide)).trans rfl) F6
  clear hk6
  try dsimp only
  k_steps
  refine' unr_end F6 N6 ?hn6 ⟨?hs6, ?hr6⟩
  case hn6 => exact al_ne _ zl
  case hs6 => k_subL
  case hr6 =>
  clear F6 N6
  k_steps
  refine go_on ?_
  (with_reducible rename Fr _ _ _ _ => lF)
  (with_reducible rename News _ _ _ _ => lN)
  refine wpAny_execs_cons ?_
  refine' kloop w p loose mean mg mb _ _ _ ?kg L fa cd h₀ _ _ _ _ B X T ?ke lw cP cQ oP oQ scr ws ps qs hws hlw hlen lF ?kn hP1 hQ1 hdP hdQ ?km ?kd
  case kg => rfl
  case ke => passes_own
  case kn => exact List.forall_mem_cons.mpr ⟨lN _ (by k_mem), List.forall_mem_cons.mpr ⟨lN _ (by k_mem), List.forall_mem_cons.mpr ⟨lN _ (by k_mem), List.forall_mem_cons.mpr ⟨lN _ (by k_mem), List.forall_mem_nil _⟩⟩⟩⟩
  case km => rfl
  case kd =>
  clear lF lN
  intro m' h' tk' psz qsz tlz F' Nz hPz hQz
  try dsimp only
  k_with_none
  k_steps
  exact done _ _ _ _ _ _ (by assumption) (by assumption) hPz hQz
theorem tail2 (w : World) (p : Program) (loose : List Str) (mean : ExcName → Option Value) (mg mb : Str → Option Value) (nm : Str) (sc : Scope) (body : List Stmt) (hget : getRest (PySem.Challenge.pw_gb0004_01.main.body[14]?) 6 = some (nm, sc, body))
    (L fa : Addr) (cd : Value) (h₀ : Heap) (m : Str → Option Value) (s : Shared) (Q : Flow → Shared → Prop) (E : Value → Shared → Prop)
    (B : Below callerA h₀ [] h₀) (X : (Mine.hd.heap_39 w.params).In h₀) (T : Top p loose mean mg mb h₀) (hE : PassesOwn (model PySem.Challenge.rw_gb0004_01.row.prog w) (callerA.deeper (envOf nm sc L fa cd)) (envOf nm sc L fa cd) E)
    (fL plL lw : Addr) (scr : List Int) (ws vf vp : List Value) (cf c : Nat) (ps qs : Array Value) (R : Led) (hws : IntsAre ws scr) (hlw : h₀.IsList lw ws.toArray) (hlen : scr.length ≤ 63)
    (F : Fr h₀ L s.heap m) (N : News h₀ L s.heap ((fL, W.listOf vf.toArray cf) :: (48, tabObj ps) :: (55, tabObj qs) :: (plL, W.listOf vp.toArray c) :: R))
    (hTf : TupsAre R vf [[3,4,5],[5,12,13],[8,15,17]]) (hTp : TupsAre R vp [[3,4,5],[5,12,13],[8,15,17]]) (hP : TabSt 59 4 inQ1 ps R) (hQ : TabSt 74 4 inQ2 qs R) (hR : ∀ p ∈ R, p.1 ≠ fL ∧ p.1 ≠ plL ∧ p.1 ≠ 48 ∧ p.1 ≠ 55)
    (hf48 : @LT.lt Nat _ 55 fL) (hp48 : @LT.lt Nat _ 55 plL) (hfp : @LT.lt Nat _ plL fL)
    (hm0 : m (Str.ofString "script") = some (.ref lw)) (hm1 : m (Str.ofString "plain") = some (.ref plL)) (hm2 : m (Str.ofString "found") = some (.ref fL))
    (done : ∀ (m' : Str → Option Value) (h : Heap) (tk : Nat) (psz qsz : Array Value) (tlz : Led), Fr h₀ L h m' → News h₀ L h ((48, tabObj psz) :: (55, tabObj qsz) :: tlz) → TabSt 59 4 inQ1 psz tlz → TabSt 74 4 inQ2 qsz tlz → Q (.ret (.bool true)) { s with heap := h, toks := tk }) :
    wpAny (model PySem.Challenge.rw_gb0004_01.row.prog w) (callerA.deeper (envOf nm sc L fa cd)) (execs body (envOf nm sc L fa cd)) Q E s := by
  revert X
  k_fill
  intro X
  with_unfolding_all cases hget
  have hMk : KstMark := kstMark
  k_with_none
  obtain ⟨af0, uf0, cf0, vvf0, rfl, mmf0, iif0, hTf⟩ := tups_cons hTf
  obtain ⟨tf0a, tf0b, tf0c, rfl⟩ := ints_three iif0
  obtain ⟨af1, uf1, cf1, vvf1, rfl, mmf1, iif1, hTf⟩ := tups_cons hTf
  obtain ⟨tf1a, tf1b, tf1c, rfl⟩ := ints_three iif1
  obtain ⟨af2, uf2, cf2, vvf2, rfl, mmf2, iif2, hTf⟩ := tups_cons hTf
  obtain ⟨tf2a, tf2b, tf2c, rfl⟩ := ints_three iif2
  cases tups_nil hTf
  obtain ⟨ap0, up0, cp0, vvp0, rfl, mmp0, iip0, hTp⟩ := tups_cons hTp
  obtain ⟨tp0a, tp0b, tp0c, rfl⟩ := ints_three iip0
  obtain ⟨ap1, up1, cp1, vvp1, rfl, mmp1, iip1, hTp⟩ := tups_cons hTp
  obtain ⟨tp1a, tp1b, tp1c, rfl⟩ := ints_three iip1
  obtain ⟨ap2, up2, cp2, vvp2, rfl, mmp2, iip2, hTp⟩ := tups_cons hTp
  obtain ⟨tp2a, tp2b, tp2c, rfl⟩ := ints_three iip2
  cases tups_nil hTp
  obtain ⟨cP, oP, mmP, hP1⟩ := hP.one mmf0
  obtain ⟨cQ, oQ, mmQ, hQ1⟩ := hQ.one mmf0
  have N2 := News.put N [(cP, oP), (cQ, oQ), (af0, tupO [.int 3 tf0a, .int 4 tf0b, .int 5 tf0c] cf0), (af1, tupO [.int 5 tf1a, .int 12 tf1b, .int 13 tf1c] cf1), (af2, tupO [.int 8 tf2a, .int 15 tf2b, .int 17 tf2c] cf2), (ap0, tupO [.int 3 tp0a, .int 4 tp0b, .int 5 tp0c] cp0), (ap1, tupO [.int 5 tp1a, .int 12 tp1b, .int 13 tp1c] cp1), (ap2, tupO [.int 8 tp2a, .int 15 tp2b, .int 17 tp2c] cp2)] (List.forall_mem_cons.mpr ⟨mmP, List.forall_mem_cons.mpr ⟨mmQ, List.forall_mem_cons.mpr ⟨mmf0, List.forall_mem_cons.mpr ⟨mmf1, List.forall_mem_cons.mpr ⟨mmf2, List.forall_mem_cons.mpr ⟨mmp0, List.forall_mem_cons.mpr ⟨mmp1, List.forall_mem_cons.mpr ⟨mmp2, List.forall_mem_nil _⟩⟩⟩⟩⟩⟩⟩⟩)
  have hdP : HidP (cP ≠ 48 ∧ cP ≠ 55) := (hR _ mmP).2.2
  have hdQ : HidP (cQ ≠ 48 ∧ cQ ≠ 55) := (hR _ mmQ).2.2
  clear mmf0 iif0 mmf1 iif1 mmf2 iif2 mmp0 iip0 mmp1 iip1 mmp2 iip2 mmP mmQ hR N hP hQ
  have F2 := fr_as3 hm2 hm1 hm0 F
  clear F
  k_with "exec For Tuple Name cons nil" => (refine stop_here ?_)
  k_steps
  refine go_on ?_
  k_with_none
  k_with "execs cons" => (refine stop_here ?_)
  k_steps
  (with_reducible rename @LT.lt Nat _ _ _ ∧ @LT.lt Nat _ _ _ ∧ _ => zl)
  refine go_on ?_
  (with_reducible rename Fr _ _ _ _ => lF0)
  (with_reducible rename News _ _ _ _ => lN0)
  refine fturn0 w p loose mean mg mb _ _ _ rfl L fa cd h₀ _ _ _ _ B X T (by passes_own) _ _ _ _ lF0 lN0 rfl rfl rfl ?_
  clear lF0 lN0
  intro m5 h5 tk5 F5 N5 hk5
  replace F5 := fr_as ((hk5 (Str.ofString "script") (by decide) (by decide) (by decide)).trans rfl) F5
  clear hk5
  try dsimp only
  k_steps
  refine' unr_end F5 N5 ?hn5 ⟨?hs5, ?hr5⟩
  case hn5 => exact al_ne _ zl
  case hs5 => k_subL
  case hr5 =>
  clear F5 N5
  k_steps
  refine go_on ?_
  (with_reducible rename Fr _ _ _ _ => lF1)
  (with_reducible rename News _ _ _ _ => lN1)
  refine fturn1 w p loose mean mg mb _ _ _ rfl L fa cd h₀ _ _ _ _ B X T (by passes_own) _ _ _ _ lF1 lN1 rfl rfl rfl ?_
  clear lF1 lN1
  intro m6 h6 tk6 F6 N6 hk6
  replace F6 := fr_as ((hk6 (Str.ofString "script") (by decide) (by decide) (by decide)).trans rfl) F6
  clear hk6
  try dsimp only
  k_steps
  refine' unr_end F6 N6 ?hn6 ⟨?hs6, ?hr6⟩
  case hn6 => exact al_ne _ zl
  case hs6 => k_subL
  case hr6 =>
  clear F6 N6
  k_steps
  refine go_on ?_
  (with_reducible rename Fr _ _ _ _ => lF2)
  (with_reducible rename News _ _ _ _ => lN2)
  refine fturn2 w p loose mean mg mb _ _ _ rfl L fa cd h₀ _ _ _ _ B X T (by passes_own) _ _ _ _ lF2 lN2 rfl rfl rfl ?_
  clear lF2 lN2
  intro m7 h7 tk7 F7 N7 hk7
  replace F7 := fr_as ((hk7 (Str.ofString "script") (by decide) (by decide) (by decide)).trans rfl) F7
  clear hk7
  try dsimp only
  k_steps
  refine' unr_end F7 N7 ?hn7 ⟨?hs7, ?hr7⟩
  case hn7 => exact al_ne _ zl
  case hs7 => k_subL
  case hr7 =>
  clear F7 N7
  k_steps
  refine go_on ?_
  (with_reducible rename Fr _ _ _ _ => lF)
  (with_reducible rename News _ _ _ _ => lN)
  refine wpAny_execs_cons ?_
  refine' kloop w p loose mean mg mb _ _ _ ?kg L fa cd h₀ _ _ _ _ B X T ?ke lw cP cQ oP oQ scr ws ps qs hws hlw hlen lF ?kn hP1 hQ1 hdP hdQ ?km ?kd
  case kg => rfl
  case ke => passes_own
  case kn => exact List.forall_mem_cons.mpr ⟨lN _ (by k_mem), List.forall_mem_cons.mpr ⟨lN _ (by k_mem), List.forall_mem_cons.mpr ⟨lN _ (by k_mem), List.forall_mem_cons.mpr ⟨lN _ (by k_mem), List.forall_mem_nil _⟩⟩⟩⟩
  case km => rfl
  case kd =>
  clear lF lN
  intro m' h' tk' psz qsz tlz F' Nz hPz hQz
  try dsimp only
  k_with_none
  k_steps
  exact done _ _ _ _ _ _ (by assumption) (by assumption) hPz hQz
theorem tail3 (w : World) (p : Program) (loose : List Str) (mean : ExcName → Option Value) (mg mb : Str → Option Value) (nm : Str) (sc : Scope) (body : List Stmt) (hget : getRest (PySem.Challenge.pw_gb0004_01.main.body[14]?) 6 = some (nm, sc, body))
    (L fa : Addr) (cd : Value) (h₀ : Heap) (m : Str → Option Value) (s : Shared) (Q : Flow → Shared → Prop) (E : Value → Shared → Prop)
    (B : Below callerA h₀ [] h₀) (X : (Mine.hd.heap_39 w.params).In h₀) (T : Top p loose mean mg mb h₀) (hE : PassesOwn (model PySem.Challenge.rw_gb0004_01.row.prog w) (callerA.deeper (envOf nm sc L fa cd)) (envOf nm sc L fa cd) E)
    (fL plL lw : Addr) (scr : List Int) (ws vf vp : List Value) (cf c : Nat) (ps qs : Array Value) (R : Led) (hws : IntsAre ws scr) (hlw : h₀.IsList lw ws.toArray) (hlen : scr.length ≤ 63)
    (F : Fr h₀ L s.heap m) (N : News h₀ L s.heap ((fL, W.listOf vf.toArray cf) :: (48, tabObj ps) :: (55, tabObj qs) :: (plL, W.listOf vp.toArray c) :: R))
    (hTf : TupsAre R vf [[3,4,5],[5,12,13],[7,24,25],[8,15,17]]) (hTp : TupsAre R vp [[3,4,5],[5,12,13],[8,15,17],[7,24,25]]) (hP : TabSt 59 4 inQ1 ps R) (hQ : TabSt 74 4 inQ2 qs R) (hR : ∀ p ∈ R, p.1 ≠ fL ∧ p.1 ≠ plL ∧ p.1 ≠ 48 ∧ p.1 ≠ 55)
    (hf48 : @LT.lt Nat _ 55 fL) (hp48 : @LT.lt Nat _ 55 plL) (hfp : @LT.lt Nat _ plL fL)
    (hm0 : m (Str.ofString "script") = some (.ref lw)) (hm1 : m (Str.ofString "plain") = some (.ref plL)) (hm2 : m (Str.ofString "found") = some (.ref fL))
    (done : ∀ (m' : Str → Option Value) (h : Heap) (tk : Nat) (psz qsz : Array Value) (tlz : Led), Fr h₀ L h m' → News h₀ L h ((48, tabObj psz) :: (55, tabObj qsz) :: tlz) → TabSt 59 4 inQ1 psz tlz → TabSt 74 4 inQ2 qsz tlz → Q (.ret (.bool true)) { s with heap := h, toks := tk }) :
    wpAny (model PySem.Challenge.rw_gb0004_01.row.prog w) (callerA.deeper (envOf nm sc L fa cd)) (execs body (envOf nm sc L fa cd)) Q E s := by
  revert X
  k_fill
  intro X
  with_unfolding_all cases hget
  have hMk : KstMark := kstMark
  k_with_none
  obtain ⟨af0, uf0, cf0, vvf0, rfl, mmf0, iif0, hTf⟩ := tups_cons hTf
  obtain ⟨tf0a, tf0b, tf0c, rfl⟩ := ints_three iif0
  obtain ⟨af1, uf1, cf1, vvf1, rfl, mmf1, iif1, hTf⟩ := tups_cons hTf
  obtain ⟨tf1a, tf1b, tf1c, rfl⟩ := ints_three iif1
  obtain ⟨af2, uf2, cf2, vvf2, rfl, mmf2, iif2, hTf⟩ := tups_cons hTf
  obtain ⟨tf2a, tf2b, tf2c, rfl⟩ := ints_three iif2
  obtain ⟨af3, uf3, cf3, vvf3, rfl, mmf3, iif3, hTf⟩ := tups_cons hTf
  obtain ⟨tf3a, tf3b, tf3c, rfl⟩ := ints_three iif3
  cases tups_nil hTf
  obtain ⟨ap0, up0, cp0, vvp0, rfl, mmp0, iip0, hTp⟩ := tups_cons hTp
  obtain ⟨tp0a, tp0b, tp0c, rfl⟩ := ints_three iip0
  obtain ⟨ap1, up1, cp1, vvp1, rfl, mmp1, iip1, hTp⟩ := tups_cons hTp
  obtain ⟨tp1a, tp1b, tp1c, rfl⟩ := ints_three iip1
  obtain ⟨ap2, up2, cp2, vvp2, rfl, mmp2, iip2, hTp⟩ := tups_cons hTp
  obtain ⟨tp2a, tp2b, tp2c, rfl⟩ := ints_three iip2
  obtain ⟨ap3, up3, cp3, vvp3, rfl, mmp3, iip3, hTp⟩ := tups_cons hTp
  obtain ⟨tp3a, tp3b, tp3c, rfl⟩ := ints_three iip3
  cases tups_nil hTp
  obtain ⟨cP, oP, mmP, hP1⟩ := hP.one mmf0
  obtain ⟨cQ, oQ, mmQ, hQ1⟩ := hQ.one mmf0
  have N2 := News.put N [(cP, oP), (cQ, oQ), (af0, tupO [.int 3 tf0a, .int 4 tf0b, .int 5 tf0c] cf0), (af1, tupO [.int 5 tf1a, .int 12 tf1b, .int 13 tf1c] cf1), (af2, tupO [.int 7 tf2a, .int 24 tf2b, .int 25 tf2c] cf2), (af3, tupO [.int 8 tf3a, .int 15 tf3b, .int 17 tf3c] cf3), (ap0, tupO [.int 3 tp0a, .int 4 tp0b, .int 5 tp0c] cp0), (ap1, tupO [.int 5 tp1a, .int 12 tp1b, .int 13 tp1c] cp1), (ap2, tupO [.int 8 tp2a, .int 15 tp2b, .int 17 tp2c] cp2), (ap3, tupO [.int 7 tp3a, .int 24 tp3b, .int 25 tp3c] cp3)] (List.forall_mem_cons.mpr ⟨mmP, List.forall_mem_cons.mpr ⟨mmQ, List.forall_mem_cons.mpr ⟨mmf0, List.forall_mem_cons.mpr ⟨mmf1, List.forall_mem_cons.mpr ⟨mmf2, List.forall_mem_cons.mpr ⟨mmf3, List.forall_mem_cons.mpr ⟨mmp0, List.forall_mem_cons.mpr ⟨mmp1, List.forall_mem_cons.mpr ⟨mmp2, List.forall_mem_cons.mpr ⟨mmp3, List.forall_mem_nil _⟩⟩⟩⟩⟩⟩⟩⟩⟩⟩)
  have hdP : HidP (cP ≠ 48 ∧ cP ≠ 55) := (hR _ mmP).2.2
  have hdQ : HidP (cQ ≠ 48 ∧ cQ ≠ 55) := (hR _ mmQ).2.2
  clear mmf0 iif0 mmf1 iif1 mmf2 iif2 mmf3 iif3 mmp0 iip0 mmp1 iip1 mmp2 iip2 mmp3 iip3 mmP mmQ hR N hP hQ
  have F2 := fr_as3 hm2 hm1 hm0 F
  clear F
  k_with "exec For Tuple Name cons nil" => (refine stop_here ?_)
  k_steps
  refine go_on ?_
  k_with_none
  k_with "execs cons" => (refine stop_here ?_)
  k_steps
  (with_reducible rename @LT.lt Nat _ _ _ ∧ @LT.lt Nat _ _ _ ∧ _ => zl)
  refine go_on ?_
  (with_reducible rename Fr _ _ _ _ => lF0)
  (with_reducible rename News _ _ _ _ => lN0)
  refine fturn0 w p loose mean mg mb _ _ _ rfl L fa cd h₀ _ _ _ _ B X T (by passes_own) _ _ _ _ lF0 lN0 rfl rfl rfl ?_
  clear lF0 lN0
  intro m5 h5 tk5 F5 N5 hk5
  replace F5 := fr_as ((hk5 (Str.ofString "script") (by decide) (by decide) (by decide)).trans rfl) F5
  clear hk5
  try dsimp only
  k_steps
  refine' unr_end F5 N5 ?hn5 ⟨?hs5, ?hr5⟩
  case hn5 => exact al_ne _ zl
  case hs5 => k_subL
  case hr5 =>
  clear F5 N5
  k_steps
  refine go_on ?_
  (with_reducible rename Fr _ _ _ _ => lF1)
  (with_reducible rename News _ _ _ _ => lN1)
  refine fturn1 w p loose mean mg mb _ _ _ rfl L fa cd h₀ _ _ _ _ B X T (by passes_own) _ _ _ _ lF1 lN1 rfl rfl rfl ?_
  clear lF1 lN1
  intro m6 h6 tk6 F6 N6 hk6
  replace F6 := fr_as ((hk6 (Str.ofString "script") (by decide) (by decide) (by decide)).trans rfl) F6
  clear hk6
  try dsimp only
  k_steps
  refine' unr_end F6 N6 ?hn6 ⟨?hs6, ?hr6⟩
  case hn6 => exact al_ne _ zl
  case hs6 => k_subL
  case hr6 =>
  clear F6 N6
  k_steps
  refine go_on ?_
  (with_reducible rename Fr _ _ _ _ => lF2)
  (with_reducible rename News _ _ _ _ => lN2)
  refine fturn3 w p loose mean mg mb _ _ _ rfl L fa cd h₀ _ _ _ _ B X T (by passes_own) _ _ _ _ lF2 lN2 rfl rfl rfl ?_
  clear lF2 lN2
  intro m7 h7 tk7 F7 N7 hk7
  replace F7 := fr_as ((hk7 (Str.ofString "script") (by decide) (by decide) (by decide)).trans rfl) F7
  clear hk7
  try dsimp only
  k_steps
  refine' unr_end F7 N7 ?hn7 ⟨?hs7, ?hr7⟩
  case hn7 => exact al_ne _ zl
  case hs7 => k_subL
  case hr7 =>
  clear F7 N7
  k_steps
  refine go_on ?_
  (with_reducible rename Fr _ _ _ _ => lF3)
  (with_reducible rename News _ _ _ _ => lN3)
  refine fturn2 w p loose mean mg mb _ _ _ rfl L fa cd h₀ _ _ _ _ B X T (by passes_own) _ _ _ _ lF3 lN3 rfl rfl rfl ?_
  clear lF3 lN3
  intro m8 h8 tk8 F8 N8 hk8
  replace F8 := fr_as ((hk8 (Str.ofString "script") (by decide) (by decide) (by decide)).trans rfl) F8
  clear hk8
  try dsimp only
  k_steps
  refine' unr_end F8 N8 ?hn8 ⟨?hs8, ?hr8⟩
  case hn8 => exact al_ne _ zl
  case hs8 => k_subL
  case hr8 =>
  clear F8 N8
  k_steps
  refine go_on ?_
  (with_reducible rename Fr _ _ _ _ => lF)
  (with_reducible rename News _ _ _ _ => lN)
  refine wpAny_execs_cons ?_
  refine' kloop w p loose mean mg mb _ _ _ ?kg L fa cd h₀ _ _ _ _ B X T ?ke lw cP cQ oP oQ scr ws ps qs hws hlw hlen lF ?kn hP1 hQ1 hdP hdQ ?km ?kd
  case kg => rfl
  case ke => passes_own
  case kn => exact List.forall_mem_cons.mpr ⟨lN _ (by k_mem), List.forall_mem_cons.mpr ⟨lN _ (by k_mem), List.forall_mem_cons.mpr ⟨lN _ (by k_mem), List.forall_mem_cons.mpr ⟨lN _ (by k_mem), List.forall_mem_nil _⟩⟩⟩⟩
  case km => rfl
  case kd =>
  clear lF lN
  intro m' h' tk' psz qsz tlz F' Nz hPz hQz
  try dsimp only
  k_with_none
  k_steps
  exact done _ _ _ _ _ _ (by assumption) (by assumption) hPz hQz
theorem tail4 (w : World) (p : Program) (loose : List Str) (mean : ExcName → Option Value) (mg mb : Str → Option Value) (nm : Str) (sc : Scope) (body : List Stmt) (hget : getRest (PySem.Challenge.pw_gb0004_01.main.body[14]?) 6 = some (nm, sc, body))
    (L fa : Addr) (cd : Value) (h₀ : Heap) (m : Str → Option Value) (s : Shared) (Q : Flow → Shared → Prop) (E : Value → Shared → Prop)
    (B : Below callerA h₀ [] h₀) (X : (Mine.hd.heap_39 w.params).In h₀) (T : Top p loose mean mg mb h₀) (hE : PassesOwn (model PySem.Challenge.rw_gb0004_01.row.prog w) (callerA.deeper (envOf nm sc L fa cd)) (envOf nm sc L fa cd) E)
    (fL plL lw : Addr) (scr : List Int) (ws vf vp : List Value) (cf c : Nat) (ps qs : Array Value) (R : Led) (hws : IntsAre ws scr) (hlw : h₀.IsList lw ws.toArray) (hlen : scr.length ≤ 63)
    (F : Fr h₀ L s.heap m) (N : News h₀ L s.heap ((fL, W.listOf vf.toArray cf) :: (48, tabObj ps) :: (55, tabObj qs) :: (plL, W.listOf vp.toArray c) :: R))
    (hTf : TupsAre R vf [[3,4,5],[5,12,13],[7,24,25],[8,15,17],[20,21,29]]) (hTp : TupsAre R vp [[3,4,5],[5,12,13],[8,15,17],[7,24,25],[20,21,29]]) (hP : TabSt 59 4 inQ1 ps R) (hQ : TabSt 74 4 inQ2 qs R) (hR : ∀ p ∈ R, p.1 ≠ fL ∧ p.1 ≠ plL ∧ p.1 ≠ 48 ∧ p.1 ≠ 55)
    (hf48 : @LT.lt Nat _ 55 fL) (hp48 : @LT.lt Nat _ 55 plL) (hfp : @LT.lt Nat _ plL fL)
    (hm0 : m (Str.ofString "script") = some (.ref lw)) (hm1 : m (Str.ofString "plain") = some (.ref plL)) (hm2 : m (Str.ofString "found") = some (.ref fL))
    (done : ∀ (m' : Str → Option Value) (h : Heap) (tk : Nat) (psz qsz : Array Value) (tlz : Led), Fr h₀ L h m' → News h₀ L h ((48, tabObj psz) :: (55, tabObj qsz) :: tlz) → TabSt 59 4 inQ1 psz tlz → TabSt 74 4 inQ2 qsz tlz → Q (.ret (.bool true)) { s with heap := h, toks := tk }) :
    wpAny (model PySem.Challenge.rw_gb0004_01.row.prog w) (callerA.deeper (envOf nm sc L fa cd)) (execs body (envOf nm sc L fa cd)) Q E s := by
  revert X
  k_fill
  intro X
  with_unfolding_all cases hget
  have hMk : KstMark := kstMark
  k_with_none
  obtain ⟨af0, uf0, cf0, vvf0, rfl, mmf0, iif0, hTf⟩ := tups_cons hTf
  obtain ⟨tf0a, tf0b, tf0c, rfl⟩ := ints_three iif0
  obtain ⟨af1, uf1, cf1, vvf1, rfl, mmf1, iif1, hTf⟩ := tups_cons hTf
  obtain ⟨tf1a, tf1b, tf1c, rfl⟩ := ints_three iif1
  obtain ⟨af2, uf2, cf2, vvf2, rfl, mmf2, iif2, hTf⟩ := tups_cons hTf
  obtain ⟨tf2a, tf2b, tf2c, rfl⟩ := ints_three iif2
  obtain ⟨af3, uf3, cf3, vvf3, rfl, mmf3, iif3, hTf⟩ := tups_cons hTf
  obtain ⟨tf3a, tf3b, tf3c, rfl⟩ := ints_three iif3
  obtain ⟨af4, uf4, cf4, vvf4, rfl, mmf4, iif4, hTf⟩ := tups_cons hTf
  obtain ⟨tf4a, tf4b, tf4c, rfl⟩ := ints_three iif4
  cases tups_nil hTf
  obtain ⟨ap0, up0, cp0, vvp0, rfl, mmp0, iip0, hTp⟩ := tups_cons hTp
  obtain ⟨tp0a, tp0b, tp0c, rfl⟩ := ints_three iip0
  obtain ⟨ap1, up1, cp1, vvp1, rfl, mmp1, iip1, hTp⟩ := tups_cons hTp
  obtain ⟨tp1a, tp1b, tp1c, rfl⟩ := ints_three iip1
  obtain ⟨ap2, up2, cp2, vvp2, rfl, mmp2, iip2, hTp⟩ := tups_cons hTp
  obtain ⟨tp2a, tp2b, tp2c, rfl⟩ := ints_three iip2
  obtain ⟨ap3, up3, cp3, vvp3, rfl, mmp3, iip3, hTp⟩ := tups_cons hTp
  obtain ⟨tp3a, tp3b, tp3c, rfl⟩ := ints_three iip3
  obtain ⟨ap4, up4, cp4, vvp4, rfl, mmp4, iip4, hTp⟩ := tups_cons hTp
  obtain ⟨tp4a, tp4b, tp4c, rfl⟩ := ints_three iip4
  cases tups_nil hTp
  obtain ⟨cP, oP, mmP, hP1⟩ := hP.one mmf0
  obtain ⟨cQ, oQ, mmQ, hQ1⟩ := hQ.one mmf0
  have N2 := News.put N [(cP, oP), (cQ, oQ), (af0, tupO [.int 3 tf0a, .int 4 tf0b, .int 5 tf0c] cf0), (af1, tupO [.int 5 tf1a, .int 12 tf1b, .int 13 tf1c] cf1), (af2, tupO [.int 7 tf2a, .int 24 tf2b, .int 25 tf2c] cf2), (af3, tupO [.int 8 tf3a, .int 15 tf3b, .int 17 tf3c] cf3), (af4, tupO [.int 20 tf4a, .int 21 tf4b, .int 29 tf4c] cf4), (ap0, tupO [.int 3 tp0a, .int 4 tp0b, .int 5 tp0c] cp0), (ap1, tupO [.int 5 tp1a, .int 12 tp1b, .int 13 tp1c] cp1), (ap2, tupO [.int 8 tp2a, .int 15 tp2b, .int 17 tp2c] cp2), (ap3, tupO [.int 7 tp3a, .int 24 tp3b, .int 25 tp3c] cp3), (ap4, tupO [.int 20 tp4a, .int 21 tp4b, .int 29 tp4c] cp4)] (List.forall_mem_cons.mpr ⟨mmP, List.forall_mem_cons.mpr ⟨mmQ, List.forall_mem_cons.mpr ⟨mmf0, List.forall_mem_cons.mpr ⟨mmf1, List.forall_mem_cons.mpr ⟨mmf2, List.forall_mem_cons.mpr ⟨mmf3, List.forall_mem_cons.mpr ⟨mmf4, List.forall_mem_cons.mpr ⟨mmp0, List.forall_mem_cons.mpr ⟨mmp1, List.forall_mem_cons.mpr ⟨mmp2, List.forall_mem_cons.mpr ⟨mmp3, List.forall_mem_cons.mpr ⟨mmp4, List.forall_mem_nil _⟩⟩⟩⟩⟩⟩⟩⟩⟩⟩⟩⟩)
  have hdP : HidP (cP ≠ 48 ∧ cP ≠ 55) := (hR _ mmP).2.2
  have hdQ : HidP (cQ ≠ 48 ∧ cQ ≠ 55) := (hR _ mmQ).2.2
  clear mmf0 iif0 mmf1 iif1 mmf2 iif2 mmf3 iif3 mmf4 iif4 mmp0 iip0 mmp1 iip1 mmp2 iip2 mmp3 iip3 mmp4 iip4 mmP mmQ hR N hP hQ
  have F2 := fr_as3 hm2 hm1 hm0 F
  clear F
  k_with "exec For Tuple Name cons nil" => (refine stop_here ?_)
  k_steps
  refine go_on ?_
  k_with_none
  k_with "execs cons" => (refine stop_here ?_)
  k_steps
  (with_reducible rename @LT.lt Nat _ _ _ ∧ @LT.lt Nat _ _ _ ∧ _ => zl)
  refine go_on ?_
  (with_reducible rename Fr _ _ _ _ => lF0)
  (with_reducible rename News _ _ _ _ => lN0)
  refine fturn0 w p loose mean mg mb _ _ _ rfl L fa cd h₀ _ _ _ _ B X T (by passes_own) _ _ _ _ lF0 lN0 rfl rfl rfl ?_
  clear lF0 lN0
  intro m5 h5 tk5 F5 N5 hk5
  replace F5 := fr_as ((hk5 (Str.ofString "script") (by decide) (by decide) (by decide)).trans rfl) F5
  clear hk5
  try dsimp only
  k_steps
  refine' unr_end F5 N5 ?hn5 ⟨?hs5, ?hr5⟩
  case hn5 => exact al_ne _ zl
  case hs5 => k_subL
  case hr5 =>
  clear F5 N5
  k_steps
  refine go_on ?_
  (with_reducible rename Fr _ _ _ _ => lF1)
  (with_reducible rename News _ _ _ _ => lN1)
  refine fturn1 w p loose mean mg mb _ _ _ rfl L fa cd h₀ _ _ _ _ B X T (by passes_own) _ _ _ _ lF1 lN1 rfl rfl rfl ?_
  clear lF1 lN1
  intro m6 h6 tk6 F6 N6 hk6
  replace F6 := fr_as ((hk6 (Str.ofString "script") (by decide) (by decide) (by decide)).trans rfl) F6
  clear hk6
  try dsimp only
  k_steps
  refine' unr_end F6 N6 ?hn6 ⟨?hs6, ?hr6⟩
  case hn6 => exact al_ne _ zl
  case hs6 => k_subL
  case hr6 =>
  clear F6 N6
  k_steps
  refine go_on ?_
  (with_reducible rename Fr _ _ _ _ => lF2)
  (with_reducible rename News _ _ _ _ => lN2)
  refine fturn3 w p loose mean mg mb _ _ _ rfl L fa cd h₀ _ _ _ _ B X T (by passes_own) _ _ _ _ lF2 lN2 rfl rfl rfl ?_
  clear lF2 lN2
  intro m7 h7 tk7 F7 N7 hk7
  replace F7 := fr_as ((hk7 (Str.ofString "script") (by decide) (by decide) (by decide)).trans rfl) F7
  clear hk7
  try dsimp only
  k_steps
  refine' unr_end F7 N7 ?hn7 ⟨?hs7, ?hr7⟩
  case hn7 => exact al_ne _ zl
  case hs7 => k_subL
  case hr7 =>
  clear F7 N7
  k_steps
  refine go_on ?_
  (with_reducible rename Fr _ _ _ _ => lF3)
  (with_reducible rename News _ _ _ _ => lN3)
  refine fturn2 w p loose mean mg mb _ _ _ rfl L fa cd h₀ _ _ _ _ B X T (by passes_own) _ _ _ _ lF3 lN3 rfl rfl rfl ?_
  clear lF3 lN3
  intro m8 h8 tk8 F8 N8 hk8
  replace F8 := fr_as ((hk8 (Str.ofString "script") (by decide) (by decide) (by decide)).trans rfl) F8
  clear hk8
  try dsimp only
  k_steps
  refine' unr_end F8 N8 ?hn8 ⟨?hs8, ?hr8⟩
  case hn8 => exact al_ne _ zl
  case hs8 => k_subL
  case hr8 =>
  clear F8 N8
  k_steps
  refine go_on ?_
  (with_reducible rename Fr _ _ _ _ => lF4)
  (with_reducible rename News _ _ _ _ => lN4)
  refine fturn4 w p loose mean mg mb _ _ _ rfl L fa cd h₀ _ _ _ _ B X T (by passes_own) _ _ _ _ lF4 lN4 rfl rfl rfl ?_
  clear lF4 lN4
  intro m9 h9 tk9 F9 N9 hk9
  replace F9 := fr_as ((hk9 (Str.ofString "script") (by decide) (by decide) (by decide)).trans rfl) F9
  clear hk9
  try dsimp only
  k_steps
  refine' unr_end F9 N9 ?hn9 ⟨?hs9, ?hr9⟩
  case hn9 => exact al_ne _ zl
  case hs9 => k_subL
  case hr9 =>
  clear F9 N9
  k_steps
  refine go_on ?_
  (with_reducible rename Fr _ _ _ _ => lF)
  (with_reducible rename News _ _ _ _ => lN)
  refine wpAny_execs_cons ?_
  refine' kloop w p loose mean mg mb _ _ _ ?kg L fa cd h₀ _ _ _ _ B X T ?ke lw cP cQ oP oQ scr ws ps qs hws hlw hlen lF ?kn hP1 hQ1 hdP hdQ ?km ?kd
  case kg => rfl
  case ke => passes_own
  case kn => exact List.forall_mem_cons.mpr ⟨lN _ (by k_mem), List.forall_mem_cons.mpr ⟨lN _ (by k_mem), List.forall_mem_cons.mpr ⟨lN _ (by k_mem), List.forall_mem_cons.mpr ⟨lN _ (by k_mem), List.forall_mem_nil _⟩⟩⟩⟩
  case km => rfl
  case kd =>
  clear lF lN
  intro m' h' tk' psz qsz tlz F' Nz hPz hQz
  try dsimp only
  k_with_none
  k_steps
  exact done _ _ _ _ _ _ (by assumption) (by assumption) hPz hQz
end
theorem reset_MTA : True := by
  k_with_none
  w_top off
  exact True.intro

end

-- M1
open PySem PySem.W PyProof.Rows PySem.Calls PySem.Spec
set_option Elab.async false
section

set_option maxRecDepth 100000
set_option maxHeartbeats 8000000
theorem perm4 {a b c d : Addr × Obj} {l : Led} : ∀ p ∈ a :: c :: d :: b :: l, p ∈ a :: b :: c :: d :: l := by
  intro p h; simp only [List.mem_cons] at h ⊢; rcases h with h | h | h | h | h <;> simp [h]
theorem law1 : PySem.Challenge.rw_gb0004_01.Holds := Mine.hd (by
  k_with_none
  k_with "call ref" => (refine stop_here ?_)
  k_with "pyIter ref" => (refine stop_here ?_)
  k_go0
  all_goals try k_fold
  k_steps
  refine go_on ?_
  (with_reducible rename IsRange _ _ _ _ _ _ _ _ => rg)
  (with_reducible rename Fr _ _ _ _ => lF)
  (with_reducible rename News _ _ _ _ => lN)
  (with_reducible rename (Mine.hd.heap_39 _).In _ => lX)
  (with_reducible rename Below callerA _ _ _ => lB)
  (with_reducible rename Top _ _ _ _ _ _ => lT)
  (with_reducible rename IntsAre _ (List.map _ _) => lys)
  (with_reducible rename _ ∧ @LT.lt Nat _ _ _ ∧ @LT.lt Nat _ _ _ => llt)
  (with_reducible rename @Ne Nat _ _ ∧ @Ne Nat _ _ => lneD)
  refine' loop1 _ _ _ _ _ _ _ _ _ _ ?hget _ _ _ _ _ _ _ _ lB lX lT ?hE _ _ _ _ _ _ _ _ _ ?hb1 ?hb2 ?hys rg lF ?hN ?h1 ?h2 ?h3 ?h4 ?h5 ?done
  case hget => rfl
  case hE => passes_own
  case hb1 => omega
  case hb2 => omega
  case hN => with_unfolding_all exact lN
  case hys => (have e1 : ∀ z : Int, z + 1 - 0 = z + 1 := fun z => by omega); (rw [e1] at lys); exact lys
  case h1 => exact llt.1
  case h2 => exact llt.2.1
  case h3 => exact lneD
  case h4 => rfl
  case h5 => rfl
  case done =>
    have hsqpl := llt.1
    have hsq55 := lneD
    have hpl55 := llt.2.1
    clear rg lF lN
    intro m1 hA tkA vp c ps qs tl F1 N1 hT hP hQ hU hm1 hm2 hm3
    try dsimp only
    k_steps
    refine go_on ?_
    (with_reducible rename IsRange _ _ _ _ _ _ _ _ => rg)
    (with_reducible rename Fr _ _ _ _ => lF)
    (with_reducible rename News _ _ _ _ => lN)
    (with_reducible rename @LT.lt Nat _ _ _ ∧ @LT.lt Nat _ _ _ ∧ @LT.lt Nat _ _ _ ∧ @LT.lt Nat _ _ _ ∧ AllLt _ _ => lz)
    (with_reducible rename List Int => scr)
    refine' loop2 _ _ _ _ _ _ _ _ _ _ ?hget2 _ _ _ _ _ _ _ _ lB lX lT ?hE2 _ _ _ (W.listOf vp.toArray c) (5 + scr.sum.fmod 26) _ _ _ _ ps qs _ ?hb3 ?hb4 rg lF (news_sub lN ?hN2) ?hP3 ?hQ3 ?hz ?h6 ?h7 ?h8 ?h9 ?h10 ?done2
    case hget2 => rfl
    case hE2 => passes_own
    case hb3 => omega
    case hb4 => omega
    case hN2 => exact perm4
    case hP3 => exact hP.mono (fun _ h => .tail _ h)
    case hQ3 => exact hQ.mono (fun _ h => .tail _ h)
    case h6 => exact lz.2.2.1
    case h7 => exact hpl55
    case h8 => exact lz.1
    case h9 => (refine (hm3 _ (by decide) (by decide) (by decide)).trans ?_; rfl)
    case h10 => rfl
    case hz => exact List.forall_mem_cons.mpr ⟨⟨Nat.ne_of_lt lz.2.2.2.1, Nat.ne_of_lt hsqpl, Ne.symm hsq55.2, Ne.symm hsq55.1⟩, fun p hp => ⟨Nat.ne_of_lt (kst_ltOf lz.2.2.2.2 p hp), Nat.ne_of_gt (hU p hp), Nat.ne_of_gt (Nat.lt_trans (by omega) (hU p hp)), Nat.ne_of_gt (Nat.lt_trans hpl55 (hU p hp))⟩⟩
    case done2 =>
    clear rg lF lN
    intro m2 hB tkB vf cf ps2 qs2 tl2 F2 N2 hTf hP2 hQ2 hS2 hN2 hk2
    (with_reducible rename IntsAre _ scr => hlist)
    (with_reducible rename (ghostOf _ _).IsList _ _ => lifted)
    have hT9 := hT.mono (news' := tl2) (fun p hp => hS2 p (.tail _ hp))
    obtain ⟨i, hi⟩ : ∃ i : Fin 26, (i.val : Int) = scr.sum.fmod 26 := ⟨⟨(scr.sum.fmod 26).toNat, by omega⟩, by show (((scr.sum.fmod 26).toNat : Nat) : Int) = _; omega⟩
    rw [← hi, ff_small i] at hTf
    rw [← hi, pf_small i] at hT9
    try dsimp only
    by_cases hc0 : i.val < 8
    · rw [if_pos hc0] at hTf hT9
      refine' tail0 _ _ _ _ _ _ _ _ _ ?zg _ _ _ _ _ _ _ _ lB lX lT ?ze _ _ _ _ _ vf vp cf c ps2 qs2 tl2 hlist lifted (by omega) F2 N2 hTf hT9 hP2 hQ2 hN2 ?z1 ?z2 ?z3 ?z4 ?z5 ?z6 ?zd
      case zg => rfl
      case ze => passes_own
      case z1 => exact lz.2.2.1
      case z2 => exact hpl55
      case z3 => exact lz.1
      case z4 => ((refine (hk2 _ (by decide) (by decide)).trans ?_); (refine (if_neg (by decide)).trans ?_); (refine (hm3 _ (by decide) (by decide) (by decide)).trans ?_); rfl)
      case z5 => exact (hk2 _ (by decide) (by decide)).trans ((if_neg (by decide)).trans hm2)
      case z6 => exact hk2 _ (by decide) (by decide)
      case zd =>
        clear F2 N2 hTf hT9 hP2 hQ2 hN2
        intro m9 h9 tk9 psz qsz tlz Fz Nz hPz hQz
        try dsimp only
        k_steps
    rw [if_neg hc0] at hTf hT9
    by_cases hc1 : i.val < 12
    · rw [if_pos hc1] at hTf hT9
      refine' tail1 _ _ _ _ _ _ _ _ _ ?zg _ _ _ _ _ _ _ _ lB lX lT ?ze _ _ _ _ _ vf vp cf c ps2 qs2 tl2 hlist lifted (by omega) F2 N2 hTf hT9 hP2 hQ2 hN2 ?z1 ?z2 ?z3 ?z4 ?z5 ?z6 ?zd
      case zg => rfl
      case ze => passes_own
      case z1 => exact lz.2.2.1
      case z2 => exact hpl55
      case z3 => exact lz.1
      case z4 => ((refine (hk2 _ (by decide) (by decide)).trans ?_); (refine (if_neg (by decide)).trans ?_); (refine (hm3 _ (by decide) (by decide) (by decide)).trans ?_); rfl)
      case z5 => exact (hk2 _ (by decide) (by decide)).trans ((if_neg (by decide)).trans hm2)
      case z6 => exact hk2 _ (by decide) (by decide)
      case zd =>
        clear F2 N2 hTf hT9 hP2 hQ2 hN2
        intro m9 h9 tk9 psz qsz tlz Fz Nz hPz hQz
        try dsimp only
        k_steps
    rw [if_neg hc1] at hTf hT9
    by_cases hc2 : i.val < 20
    · rw [if_pos hc2] at hTf hT9
      refine' tail2 _ _ _ _ _ _ _ _ _ ?zg _ _ _ _ _ _ _ _ lB lX lT ?ze _ _ _ _ _ vf vp cf c ps2 qs2 tl2 hlist lifted (by omega) F2 N2 hTf hT9 hP2 hQ2 hN2 ?z1 ?z2 ?z3 ?z4 ?z5 ?z6 ?zd
      case zg => rfl
      case ze => passes_own
      case z1 => exact lz.2.2.1
      case z2 => exact hpl55
      case z3 => exact lz.1
      case z4 => ((refine (hk2 _ (by decide) (by decide)).trans ?_); (refine (if_neg (by decide)).trans ?_); (refine (hm3 _ (by decide) (by decide) (by decide)).trans ?_); rfl)
      case z5 => exact (hk2 _ (by decide) (by decide)).trans ((if_neg (by decide)).trans hm2)
      case z6 => exact hk2 _ (by decide) (by decide)
      case zd =>
        clear F2 N2 hTf hT9 hP2 hQ2 hN2
        intro m9 h9 tk9 psz qsz tlz Fz Nz hPz hQz
        try dsimp only
        k_steps
    rw [if_neg hc2] at hTf hT9
    by_cases hc3 : i.val < 24
    · rw [if_pos hc3] at hTf hT9
      refine' tail3 _ _ _ _ _ _ _ _ _ ?zg _ _ _ _ _ _ _ _ lB lX lT ?ze _ _ _ _ _ vf vp cf c ps2 qs2 tl2 hlist lifted (by omega) F2 N2 hTf hT9 hP2 hQ2 hN2 ?z1 ?z2 ?z3 ?z4 ?z5 ?z6 ?zd
      case zg => rfl
      case ze => passes_own
      case z1 => exact lz.2.2.1
      case z2 => exact hpl55
      case z3 => exact lz.1
      case z4 => ((refine (hk2 _ (by decide) (by decide)).trans ?_); (refine (if_neg (by decide)).trans ?_); (refine (hm3 _ (by decide) (by decide) (by decide)).trans ?_); rfl)
      case z5 => exact (hk2 _ (by decide) (by decide)).trans ((if_neg (by decide)).trans hm2)
      case z6 => exact hk2 _ (by decide) (by decide)
      case zd =>
        clear F2 N2 hTf hT9 hP2 hQ2 hN2
        intro m9 h9 tk9 psz qsz tlz Fz Nz hPz hQz
        try dsimp only
        k_steps
    rw [if_neg hc3] at hTf hT9
    refine' tail4 _ _ _ _ _ _ _ _ _ ?zg _ _ _ _ _ _ _ _ lB lX lT ?ze _ _ _ _ _ vf vp cf c ps2 qs2 tl2 hlist lifted (by omega) F2 N2 hTf hT9 hP2 hQ2 hN2 ?z1 ?z2 ?z3 ?z4 ?z5 ?z6 ?zd
    case zg => rfl
    case ze => passes_own
    case z1 => exact lz.2.2.1
    case z2 => exact hpl55
    case z3 => exact lz.1
    case z4 => ((refine (hk2 _ (by decide) (by decide)).trans ?_); (refine (if_neg (by decide)).trans ?_); (refine (hm3 _ (by decide) (by decide) (by decide)).trans ?_); rfl)
    case z5 => exact (hk2 _ (by decide) (by decide)).trans ((if_neg (by decide)).trans hm2)
    case z6 => exact hk2 _ (by decide) (by decide)
    case zd =>
      clear F2 N2 hTf hT9 hP2 hQ2 hN2
      intro m9 h9 tk9 psz qsz tlz Fz Nz hPz hQz
      try dsimp only
      k_steps)
end
theorem reset_M1 : True := by
  k_with_none
  w_top off
  exact True.intro

end Mine
theorem PySem.Challenge.cw_gb0004_01_holds : PySem.Challenge.rw_gb0004_01.Holds := by
  exact Mine.law1
