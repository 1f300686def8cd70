import PyProof.Rows.All
import Wide.All
import OpenK.AllK
import Wide.FinOn
import PySem.Challenge.RW_gb0004_02
set_option Elab.async false
open PySem PySem.W PyProof.Rows
namespace Mine
local macro_rules | `(tactic| walk_at "call ref") => `(tactic| k_extra "call ref")
local macro_rules | `(tactic| walk_at "eval Name") => `(tactic| k_extra "eval Name")
local macro_rules | `(tactic| walk_at "FnAt") => `(tactic| k_extra "FnAt")
local macro_rules | `(tactic| walk_at "callWith ref") => `(tactic| k_extra "callWith ref")
local macro_rules | `(tactic| walk_at "exec FunctionDef") => `(tactic| k_extra "exec FunctionDef")
local macro_rules | `(tactic| walk_at "subscriptTail") => `(tactic| k_extra "subscriptTail")
local macro_rules | `(tactic| walk_at "truthy ref") => `(tactic| k_extra "truthy ref")
local macro_rules | `(tactic| walk_at "call builtin:len") => `(tactic| k_extra "call builtin:len")
local macro_rules | `(tactic| walk_at "call builtin:list.reverse") => `(tactic| k_extra "call builtin:list.reverse")
local macro_rules | `(tactic| walk_at "newTuple") => `(tactic| k_extra "newTuple")
local macro_rules | `(tactic| walk_at "call type:reversed") => `(tactic| k_extra "call type:reversed")
local macro_rules | `(tactic| walk_at "call builtin:list.append") => `(tactic| k_extra "call builtin:list.append")
local macro_rules | `(tactic| walk_at "newList") => `(tactic| k_extra "newList")
local macro_rules | `(tactic| walk_at "exec For") => `(tactic| k_extra "exec For")
local macro_rules | `(tactic| walk_at "pyIter ref") => `(tactic| k_extra "pyIter ref")
local macro_rules | `(tactic| walk_at "pyIter") => `(tactic| k_extra "pyIter ref")
local macro_rules | `(tactic| walk_at "exec While") => `(tactic| k_extra "exec While")
local macro_rules | `(tactic| walk_at "exec While Compare cons") => `(tactic| k_extra "exec While")
local macro_rules | `(tactic| walk_at "exec While Compare cons nil") => `(tactic| k_extra "exec While")
local macro_rules | `(tactic| walk_at "compareOp Lt ref ref") => `(tactic| k_extra "compareOp Lt ref ref")
local macro_rules | `(tactic| walk_at "call builtin:list.insert") => `(tactic| k_extra "call builtin:list.insert")
local macro_rules | `(tactic| walk_at "call builtin:sum") => `(tactic| k_extra "call builtin:sum")
local macro_rules | `(tactic| walk_at "call builtin:sorted") => `(tactic| k_extra "call builtin:sorted")
local macro_rules | `(tactic| walk_at "exec For Tuple Name cons nil") => `(tactic| k_extra "exec For Tuple Name cons nil")
local macro_rules | `(tactic| walk_at "execs cons") => `(tactic| k_extra "execs cons")
local macro_rules | `(tactic| walk_at "KatGo") => `(tactic| k_extra "KatGo")
local macro_rules | `(tactic| walk_at "ite") => `(tactic| k_extra "ite")
local macro_rules | `(tactic| walk_at "KasNext") => `(tactic| k_extra "KasNext")
local macro_rules | `(tactic| walk_at "exec Assign cons ListComp") => `(tactic| k_extra "exec Assign cons ListComp")
-- H2
open PySem PySem.W PyProof.Rows
set_option Elab.async false
section
set_option maxRecDepth 100000 in
set_option maxHeartbeats 8000000 in
open_top hd for PySem.Challenge.rw_gb0004_02
end

-- ZC0
open PySem PySem.W PyProof.Rows PySem.Calls PySem.Spec
section
abbrev Led := List (Addr × Obj)
/-- what a call from any def's frame says -/
def Con (prog : Program) (w : World) (K : Frag) (p : Program) (loose : List Str) (mean : ExcName → Option Value) (mg mb : Str → Option Value)
    (f : Addr) (vs : List Value) (news : Led) (dN uN : Nat) (Out : Value → Led → Prop) : Prop :=
  ∀ (dp un : Nat) (gd : Option (List Code)) (cn : Str) (cs : Scope) (a : Addr) (ccd : Value) (cl : List (Str × Addr)) (outer : List Env) (A₀ : Around) (base h₀ : Heap) (L : Addr) (m : Str → Option Value) (s : Shared) (Q E : Value → Shared → Prop),
    Below A₀ base outer h₀ → Fr h₀ L s.heap m → K.In h₀ → News h₀ L s.heap news → Top p loose mean mg mb h₀ → cs.kind = .function → dp + dN < recursionLimit → un + uN < cLine →
    (∀ r news' h' tk', Fr h₀ L h' m → News h₀ L h' news' → Out r news' → Q r { s with heap := h', toks := tk' }) →
    wpAny (model prog w) (ktrTop dp un gd cn cs L a ccd cl outer) (call (.ref f) vs) Q E s

abbrev tup2 (a b : Value) (c : Nat) : Obj := { cls := .type "tuple", data := .seq #[a, b] c }
def Lo (d : Nat) (l : Led) : Prop := ∀ p ∈ l, @LT.lt Nat _ p.1 d
theorem Lo.ne {d e : Nat} {l : Led} (h : Lo d l) (he : d ≤ e) : ∀ p ∈ l, p.1 ≠ e := fun p hp => Nat.ne_of_lt (Nat.lt_of_lt_of_le (h p hp) he)
theorem Lo.of {h₀ h : Heap} {L : Addr} {news : Led} (N : News h₀ L h news) : Lo h.objs.size news := fun p hp => Heap.lt_size (N p hp).1
end
section
section
variable {M : Model} {A : Around} {E : Value → Shared → Prop} {s : Shared} {h₀ : Heap} {L a c P : Addr} {m mg mb : Str → Option Value} {cn : Str} {cs : Scope} {ccd : Value} {cl : List (Str × Addr)} {news : List (Addr × Obj)} {g : Obj → List (Addr × Obj)}
  {p : Program} {loose : List Str} {mean : ExcName → Option Value} {name qual : Str} {params : Arguments} {body : List Stmt} {scope : Scope} {ps : Array Value} {pos : Pos} {firstLine : Nat} {clos : List (Str × Addr)} {rest : Led}
/-- what the table of nested defs holds: nothing yet, or the one code object, which lies in the ledger -/
def TabSt (line col : Nat) (qual : Str) (ps : Array Value) (rest : Led) : Prop :=
  ps = #[] ∨ ∃ (c' : Addr) (oc : Obj) (vs : Array Value) (t : Tok), ps = #[rawInt line, rawInt col, .ref c'] ∧ (c', oc) ∈ rest ∧ oc.data = .fields vs ∧ vs[1]? = some (.str qual t)
theorem TabSt.mono {line col : Nat} {qual : Str} {ps : Array Value} {rest rest' : Led} (h : TabSt line col qual ps rest) (hs : ∀ p ∈ rest, p ∈ rest') : TabSt line col qual ps rest' := by
  rcases h with h | ⟨c', oc, vs, t, h1, h2, h3, h4⟩
  · exact .inl h
  · exact .inr ⟨c', oc, vs, t, h1, hs _ h2, h3, h4⟩
theorem nest_any {Q : Value → Shared → Prop} (F : Fr h₀ L s.heap m) (N : News h₀ L s.heap news) (T : Top p loose mean mg mb h₀) (C : CodeHd h₀ c P) (hcd : ccd = .ref c) (U : UpdF P (tabObj ps) news g)
    (ht : TabSt pos.line pos.col qual ps rest) (hrest : ∀ p ∈ rest, p ∈ news)
    (hcl : closureFor scope (envX cn cs L a ccd cl) = pure clos)
    (h : ∀ f c' oc vs t ctv doc h' tk, Fr h₀ L h' m →
      News h₀ L h' ((f, fnMade name qual params body scope clos doc ((mg "__name__").getD .none) c' ctv) :: (c', oc) :: g (tabObj #[rawInt pos.line, rawInt pos.col, .ref c'])) →
      oc.data = .fields vs → vs[1]? = some (.str qual t) → (∀ q ∈ news, q.1 < f) → c' < f → ((∀ q ∈ news, q.1 < c') ∨ (c', oc) ∈ rest) → Q (.ref f) { s with heap := h', toks := tk }) :
    wpAny M A (makeFunction name qual params (.stmts body) scope (envX cn cs L a ccd cl) [] [] [] pos firstLine) Q E s := by
  rcases ht with rfl | ⟨c', oc, vs, t, rfl, h2, h3, h4⟩
  · refine nest_K F N T C hcd U (by simp [TriplesOk]) (by simp [codeAmong]) hcl ?_
    intro f c' oc vs t ctv doc h' tk F' N' d1 d2 l1 l2
    refine h f c' oc vs t ctv doc h' tk F' (by simpa using N') d1 d2 (fun q hq => Nat.lt_trans (l1 q hq) l2) l2 (.inl l1)
  · obtain ⟨own, rst, rfl, hgr, u1, u2⟩ := U.split
    refine nestHit_K F N T C hcd (List.mem_append_right _ (.head _)) (by simp [TriplesOk, rawInt]) (c' := c') (by simp [codeAmong, rawInt]) hcl ?_
    intro f ctv doc h' tk F' N' l1
    refine h f c' oc vs t ctv doc h' tk F' ?_ h3 h4 l1 (l1 _ (hrest _ h2)) (.inr h2)
    rw [hgr]
    intro q hq
    rcases List.mem_cons.mp hq with rfl | hq
    · exact N' _ (.head _)
    · rcases List.mem_cons.mp hq with rfl | hq
      · exact N' _ (.tail _ (hrest _ h2))
      · exact N' _ (.tail _ hq)
end
/-- the def that stands i-th in a block -/
def getInner (b : Option Stmt) (i : Nat) : Option (Str × Arguments × List Stmt × Scope × Pos) := match b with
  | some (.FunctionDef _ _ l _ _ _ _ _ _ _) => match l[i]? with
    | some (.FunctionDef n a b _ _ _ sc _ _ pos) => some (n, a, b, sc, pos)
    | _ => none
  | _ => none
end
section
/-- a mark at which the walk stands still -/
def Stopped (P : Prop) : Prop := P
theorem stop_here {P : Prop} (h : Stopped P) : P := h
theorem go_on {P : Prop} (h : P) : Stopped P := h
end
section
theorem Lo.up {d e : Nat} {l : Led} (h : Lo d l) (he : d ≤ e) : Lo e l := fun p hp => Nat.lt_of_lt_of_le (h p hp) he
theorem news_rot3 {h₀ h : Heap} {L : Addr} {x y d : Addr × Obj} {r : Led} (N : News h₀ L h (x :: y :: d :: r)) : News h₀ L h (d :: x :: y :: r) := fun p hp => N p (by
  rcases List.mem_cons.mp hp with e | hp
  · subst e; exact .tail _ (.tail _ (.head _))
  rcases List.mem_cons.mp hp with e | hp
  · subst e; exact .head _
  rcases List.mem_cons.mp hp with e | hp
  · subst e; exact .tail _ (.head _)
  exact .tail _ (.tail _ (.tail _ hp)))
theorem news_sub {h₀ h : Heap} {L : Addr} {l l' : Led} (N : News h₀ L h l) (hs : ∀ p ∈ l', p ∈ l) : News h₀ L h l' := fun p hp => N p (hs p hp)
end
local macro_rules | `(tactic| k_all) => `(tactic| first | with_reducible assumption | exact Lo.ne (by with_reducible assumption) (by omega) | exact List.forall_mem_nil _ | (refine List.forall_mem_cons.mpr ⟨by k_ne, ?_⟩; k_all))

-- ZP0
open PySem PySem.W PyProof.Rows PySem.Calls PySem.Spec
section
abbrev midF (lo hi : Int) : Int := (lo + hi).fdiv (2 ^ Int.toNat 1)
abbrev shF (n lo hi : Int) : Int := (midF lo hi - lo) * n
abbrev upF (n x lo hi : Int) : Int := x.fdiv (2 ^ (shF n lo hi).toNat)
abbrev lowF (n x lo hi : Int) : Int := Builtin.bitXor x (upF n x lo hi * 2 ^ (shF n lo hi).toNat)
def innerF : Nat → Int → List Int → Int → Int → Int → List Int
  | 0, _, ds, _, _, _ => ds
  | k + 1, n, ds, x, lo, hi => if lo + 1 = hi then ds.set lo.toNat x else
    innerF k n (innerF k n ds (lowF n x lo hi) lo (midF lo hi)) (upF n x lo hi) (midF lo hi) hi
theorem innerF_length : ∀ (k : Nat) (n : Int) (ds : List Int) (x lo hi : Int), (innerF k n ds x lo hi).length = ds.length
  | 0, _, _, _, _, _ => rfl
  | k + 1, n, ds, x, lo, hi => by
    unfold innerF
    split
    · exact List.length_set ..
    · rw [innerF_length k, innerF_length k]
theorem midF_eq (lo hi : Int) : midF lo hi = (lo + hi) / 2 := by
  show (lo + hi).fdiv (2 ^ 1) = _
  rw [Int.fdiv_eq_ediv_of_nonneg _ (by decide)]; rfl
theorem midF_lt {lo hi : Int} (h1 : lo + 1 < hi) : lo < midF lo hi ∧ midF lo hi < hi := by
  rw [midF_eq]; omega
theorem shF_bd {n lo hi : Int} (h0 : 0 ≤ lo) (h1 : lo < hi) (h2 : hi ≤ 6) (hn : 1 ≤ n) (hn2 : n ≤ 6) : 0 ≤ shF n lo hi ∧ shF n lo hi ≤ 36 := by
  have e : midF lo hi - lo = (hi - lo) / 2 := by rw [midF_eq]; omega
  unfold shF
  rw [e]
  have a1 : 0 ≤ (hi - lo) / 2 := by omega
  have a2 : (hi - lo) / 2 ≤ 6 := by omega
  refine ⟨Int.mul_nonneg a1 (by omega), ?_⟩
  exact Int.le_trans (Int.mul_le_mul a2 hn2 (by omega) (by omega)) (by decide)
theorem pow_pos2 (s : Nat) : (0 : Int) < 2 ^ s := Int.pow_pos (by decide)
theorem up_bd {x : Int} (s : Nat) (h0 : 0 ≤ x) (h1 : x < 64) : 0 ≤ x.fdiv (2 ^ s) ∧ x.fdiv (2 ^ s) < 64 := by
  have hp : (0 : Int) < 2 ^ s := pow_pos2 s
  rw [Int.fdiv_eq_ediv_of_nonneg _ (Int.le_of_lt hp)]
  refine ⟨Int.ediv_nonneg h0 (Int.le_of_lt hp), ?_⟩
  exact Int.lt_of_le_of_lt (Int.ediv_le_self _ h0) h1
theorem low_small : ∀ x : Fin 64, ∀ s : Fin 7, 0 ≤ Builtin.bitXor (x.val : Int) ((x.val : Int).fdiv (2 ^ s.val) * 2 ^ s.val) ∧ Builtin.bitXor (x.val : Int) ((x.val : Int).fdiv (2 ^ s.val) * 2 ^ s.val) < 64 := by decide +kernel
theorem low_big : ∀ x : Fin 64, Builtin.bitXor (x.val : Int) 0 = x.val := by decide +kernel
theorem low_bd {x : Int} (s : Nat) (h0 : 0 ≤ x) (h1 : x < 64) : 0 ≤ Builtin.bitXor x (x.fdiv (2 ^ s) * 2 ^ s) ∧ Builtin.bitXor x (x.fdiv (2 ^ s) * 2 ^ s) < 64 := by
  obtain ⟨y, rfl⟩ := Int.eq_ofNat_of_zero_le h0
  have hy : y < 64 := by omega
  by_cases hs : s < 7
  · exact low_small ⟨y, hy⟩ ⟨s, hs⟩
  · have hp : (64 : Int) < 2 ^ s := by
      have : (2 : Int) ^ 7 ≤ 2 ^ s := by
        have := Nat.pow_le_pow_right (n := 2) (by decide) (show 7 ≤ s by omega)
        exact_mod_cast this
      omega
    have e : (y : Int).fdiv (2 ^ s) = 0 := by
      rw [Int.fdiv_eq_ediv_of_nonneg _ (by omega)]
      exact Int.ediv_eq_zero_of_lt (by omega) (by omega)
    rw [e, Int.zero_mul, low_big ⟨y, hy⟩]
    show (0 : Int) ≤ (y : Int) ∧ (y : Int) < 64
    omega
/-- bit_length of a small number -/
theorem bits_small : ∀ x : Fin 64, Builtin.Int.intBits (x.val : Int) ≤ 6 := by decide +kernel
theorem bits_bd {x : Int} (h0 : 0 ≤ x) (h1 : x < 64) : Builtin.Int.intBits x ≤ 6 := by
  obtain ⟨y, rfl⟩ := Int.eq_ofNat_of_zero_le h0
  exact bits_small ⟨y, by omega⟩
theorem bits_pos_small : ∀ x : Fin 64, 0 < x.val → 1 ≤ Builtin.Int.intBits (x.val : Int) := by decide +kernel
theorem bits_pos {x : Int} (h0 : 0 < x) (h1 : x < 64) : 1 ≤ Builtin.Int.intBits x := by
  obtain ⟨y, rfl⟩ := Int.eq_ofNat_of_zero_le (Int.le_of_lt h0)
  have hy : 0 < y := by omega
  exact bits_pos_small ⟨y, by omega⟩ hy
end

-- ZL0
open PySem PySem.W PyProof.Rows PySem.Calls PySem.Spec
set_option maxRecDepth 100000
section
section
variable {prog : Program} {w : World} {A : Around} {E : Value → Shared → Prop} {s : Shared} {env : Env} {h₀ : Heap} {x : Str} {body : List Stmt} {Q : Flow → Shared → Prop}
/-- a turn's end: the frame, the iterator untouched, what else the loop keeps, the invariant -/
def GEnd (h₀ : Heap) (L I : Addr) (io : Obj) (Jn : (Str → Option Value) → Led → Prop) (s₁ s₂ : Shared) : Prop :=
  ∃ h' tk m' nx, s₂ = { s₁ with heap := h', toks := tk } ∧ Fr h₀ L h' m' ∧ News h₀ L h' ((I, io) :: nx) ∧ (∀ p ∈ nx, p.1 ≠ I) ∧ Jn m' nx
def GPost (h₀ : Heap) (L I : Addr) (io : Obj) (Jn : (Str → Option Value) → Led → Prop) (s₁ : Shared) (Q : Flow → Shared → Prop) (f : Flow) (s₂ : Shared) : Prop :=
  match f with
  | .ret v => Q (.ret v) s₂
  | .brk => Q .next s₂
  | _ => GEnd h₀ L I io Jn s₁ s₂
theorem GEnd.intro {L I : Addr} {io : Obj} {Jn : (Str → Option Value) → Led → Prop} {s₁ : Shared} {h' : Heap} {tk : Nat} {m' : Str → Option Value} {nx : Led} (F : Fr h₀ L h' m') (N : News h₀ L h' ((I, io) :: nx)) (hn : ∀ p ∈ nx, p.1 ≠ I) (hj : Jn m' nx) :
    GEnd h₀ L I io Jn s₁ { s₁ with heap := h', toks := tk } := ⟨h', tk, m', nx, rfl, F, N, hn, hj⟩
theorem loopG {I : Addr} {fp : List Addr} {n : Nat} {P : Nat → Value → Prop} {St : Nat → Heap → Prop} {m₀ : Str → Option Value} {news fixed : Led} (J : Nat → (Str → Option Value) → Led → Prop)
    (W : Walks prog w A I fp [I] n P St) (hfp : ∀ b ∈ fp, b = I ∨ ∃ o, (b, o) ∈ fixed) (hio : ∀ i h, St i h → ∃ io, h.get? I = some io)
    (hI0 : h₀.get? I = none) (hIL : I ≠ env.locals) (hnw : ∀ p ∈ news, p.1 ≠ I) (hst : St 0 s.heap) (F : Fr h₀ env.locals s.heap m₀) (N : News h₀ env.locals s.heap news) (hj : J 0 m₀ news)
    (hfix : ∀ i m nx, J i m nx → ∀ p ∈ fixed, p ∈ nx)
    (turn : ∀ i v m₁ nx h tk io, i < n → P i v → J i m₁ nx → (∀ p ∈ nx, p.1 ≠ I) → Fr h₀ env.locals h (fun y => if y = x then some v else m₁ y) → News h₀ env.locals h ((I, io) :: nx) →
      wpAny (model prog w) A (execs body env) (GPost h₀ env.locals I io (J (i + 1)) { s with heap := h, toks := tk } Q) E { s with heap := h, toks := tk })
    (done : ∀ m₁ nx h tk, J n m₁ nx → Fr h₀ env.locals h m₁ → News h₀ env.locals h nx → Q .next { s with heap := h, toks := tk }) :
    LoopAtV prog w A h₀ env x body Q E (.ref I) s := by
  refine ⟨I, fp, [I], n, P, St, m₀, news, J, rfl, W, ?_, ?_, ?_, hst, F, N, hj, ?_, ?_⟩
  · intro hm
    rcases hfp _ hm with e | ⟨o, ho⟩
    · exact hIL e.symm
    · exact (N _ (hfix _ _ _ hj _ ho)).2.1 rfl
  · intro b hb
    rw [List.mem_singleton.mp hb]; exact hI0
  · intro p hp hI
    exact hnw p hp (List.mem_singleton.mp hI)
  · rintro i v m₁ nx s₁ own ⟨hh', tk', rfl⟩ hin hP hJ hoff hown hget hfp' hst' F₁ N₁
    have hoff' : ∀ p ∈ nx, p.1 ≠ I := fun p hp e => hoff p hp (List.mem_singleton.mpr e)
    obtain ⟨io, hio'⟩ := hio _ _ hst'
    have hIo : (I, io) ∈ own := hfp' I (W.sub _ (List.mem_singleton.mpr rfl)) hI0 io hio'
    have N₂ : News h₀ env.locals hh' ((I, io) :: nx) := fun p hp => by
      rcases List.mem_cons.mp hp with rfl | hp
      · exact N₁ _ (List.mem_append_left _ hIo)
      · exact N₁ _ (List.mem_append_right _ hp)
    refine wpAny_mono (turn i v m₁ nx hh' tk' io hin hP hJ hoff' F₁ N₂) (fun f s₂ p => ?_) fun _ _ e => e
    have fin : GEnd h₀ env.locals I io (J (i + 1)) { s with heap := hh', toks := tk' } s₂ → LoopStepU h₀ env.locals [I] own (J (i + 1)) { s with heap := hh', toks := tk' } .next s₂ := by
      rintro ⟨h', tk, m', nx', e, F', N', hn, hm⟩
      refine ⟨rfl, h', tk, m', nx', e, F', fun p hp => ?_, fun p hp hI => hn p hp (List.mem_singleton.mp hI), hm⟩
      rcases List.mem_append.mp hp with h | h
      · have hg : hh'.get? p.1 = some p.2 := hget p h
        rcases hfp _ (hown p h) with e1 | ⟨o, ho⟩
        · rw [e1, hio'] at hg
          have e3 : p = (I, io) := Prod.ext e1 (Option.some.inj hg).symm
          rw [e3]
          exact N' _ (.head _)
        · have h1 := (N₂ _ (.tail _ (hfix _ _ _ hJ _ ho))).1
          rw [h1] at hg
          have e3 : p = (p.1, o) := Prod.ext rfl (Option.some.inj hg).symm
          rw [e3]
          exact N' _ (.tail _ (hfix _ _ _ hm _ ho))
      · exact N' _ (.tail _ h)
    cases f with
    | ret v => exact .ret p
    | brk => exact .brk p
    | next => exact .next (fin p)
    | cont => exact .cont (fin p)
  · rintro h' tk m' news' F' N' _ hJ
    exact done m' news' h' tk hJ F' N'

/-- over a list of the ledger -/
theorem loop_listG {l : Addr} {items : Array Value} {nn : Nat} {m₀ : Str → Option Value} {news : Led} (J : Nat → (Str → Option Value) → Led → Prop)
    (hh : A.handled = none) (hl : (l, W.listOf items nn) ∈ news) (F : Fr h₀ env.locals s.heap m₀) (N : News h₀ env.locals s.heap news) (hj : J 0 m₀ news)
    (hfix : ∀ i m nx, J i m nx → (l, W.listOf items nn) ∈ nx)
    (turn : ∀ I, Lo I news → ∀ i v m₁ nx h tk io, i < items.size → items[i]? = some v → J i m₁ nx → (∀ p ∈ nx, p.1 ≠ I) → Fr h₀ env.locals h (fun y => if y = x then some v else m₁ y) → News h₀ env.locals h ((I, io) :: nx) →
      wpAny (model prog w) A (execs body env) (GPost h₀ env.locals I io (J (i + 1)) { s with heap := h, toks := tk } Q) E { s with heap := h, toks := tk })
    (done : ∀ m₁ nx h tk, J items.size m₁ nx → Fr h₀ env.locals h m₁ → News h₀ env.locals h nx → Q .next { s with heap := h, toks := tk }) :
    wpAny (model prog w) A (pyIter (.ref l)) (fun it s₂ => LoopAtV prog w A h₀ env x body Q E it s₂) E s := by
  have hol := (N _ hl).1
  have hls : s.heap.IsList l items := ⟨_, hol, rfl, nn, rfl⟩
  have hne : l ≠ s.heap.objs.size := Nat.ne_of_lt (Heap.lt_size hol)
  refine wpAny_pyIter_list hls ?_
  refine loopG (fixed := [(l, W.listOf items nn)]) J (Walks.list hh s.heap.objs.size l hne items) ?_ ?_ (next_is_new F) ?_ ?_ ⟨⟨_, Heap.get?_push_size _ rfl, rfl, rfl⟩, hls.at fun o e => Heap.get?_push_of_some _ e⟩ (F.push _) (fun p hp => ⟨Heap.get?_push_of_some _ (N p hp).1, (N p hp).2⟩) hj (fun i m nx h p hp => by rw [List.mem_singleton.mp hp]; exact hfix i m nx h) ?_ ?_
  · intro b hb
    rcases List.mem_cons.mp hb with e | hb
    · exact .inl e
    · exact .inr ⟨_, by rw [List.mem_singleton.mp hb]; exact List.mem_singleton.mpr rfl⟩
  · rintro i h ⟨⟨o, ho, _⟩, _⟩
    exact ⟨o, ho⟩
  · intro e
    exact absurd F.ns.lt (e ▸ Nat.lt_irrefl _)
  · intro p hp e
    exact absurd (Heap.lt_size (N p hp).1) (e ▸ Nat.lt_irrefl _)
  · intro i v m₁ nx h tk io hi hv
    exact turn _ (Lo.of N) i v m₁ nx h tk io hi hv
  · exact done

/-- over reversed(list): the iterator made just now, its list of the ledger -/
theorem loop_revG {D l : Addr} {items : Array Value} {nn : Nat} {m₀ : Str → Option Value} {news : Led} (J : Nat → (Str → Option Value) → Led → Prop)
    (hh : A.handled = none) (hl : (l, W.listOf items nn) ∈ news) (F : Fr h₀ env.locals s.heap m₀) (N : News h₀ env.locals s.heap ((D, revObj l ((items.size : Int) - 1)) :: news)) (hD : Lo D news) (hj : J 0 m₀ news)
    (hfix : ∀ i m nx, J i m nx → (l, W.listOf items nn) ∈ nx)
    (turn : ∀ i v m₁ nx h tk io, i < items.size → items[items.size - 1 - i]? = some v → J i m₁ nx → (∀ p ∈ nx, p.1 ≠ D) → Fr h₀ env.locals h (fun y => if y = x then some v else m₁ y) → News h₀ env.locals h ((D, io) :: nx) →
      wpAny (model prog w) A (execs body env) (GPost h₀ env.locals D io (J (i + 1)) { s with heap := h, toks := tk } Q) E { s with heap := h, toks := tk })
    (done : ∀ m₁ nx h tk, J items.size m₁ nx → Fr h₀ env.locals h m₁ → News h₀ env.locals h nx → Q .next { s with heap := h, toks := tk }) :
    wpAny (model prog w) A (pyIter (.ref D)) (fun it s₂ => LoopAtV prog w A h₀ env x body Q E it s₂) E s := by
  have hol := (N _ (.tail _ hl)).1
  have hls : s.heap.IsList l items := ⟨_, hol, rfl, nn, rfl⟩
  have hD0 := N _ (.head _)
  have hne : l ≠ D := Nat.ne_of_lt (hD _ hl)
  have hit : s.heap.IsRevIter D l ((items.size : Int) - 1) := ⟨_, hD0.1, rfl, rfl⟩
  refine wpAny_pyIter_revIter hit ?_
  refine loopG (fixed := [(l, W.listOf items nn)]) J (Walks.listRev hh D l hne items) ?_ ?_ hD0.2.2 hD0.2.1 (fun p hp => Nat.ne_of_lt (hD p hp)) ⟨Nat.zero_le _, by simpa using hit, hls⟩ F (fun p hp => N p (.tail _ hp)) hj (fun i m nx h p hp => by rw [List.mem_singleton.mp hp]; exact hfix i m nx h) ?_ done
  · intro b hb
    rcases List.mem_cons.mp hb with e | hb
    · exact .inl e
    · exact .inr ⟨_, by rw [List.mem_singleton.mp hb]; exact List.mem_singleton.mpr rfl⟩
  · rintro i h ⟨_, ⟨o, ho, _⟩, _⟩
    exact ⟨o, ho⟩
  · intro i v m₁ nx h tk io hi hv
    exact turn i v m₁ nx h tk io hi hv

/-- over a range by ones -/
theorem loop_rangeG {r : Addr} {a₀ b₀ : Int} {t₀ u₀ v₀ : Tok} {n : Nat} {m₀ : Str → Option Value} {news : Led} (J : Nat → (Str → Option Value) → Led → Prop)
    (hh : A.handled = none) (hr : IsRange s.heap r a₀ b₀ 1 t₀ u₀ v₀) (hsmall : Builtin.Range.small a₀ b₀ 1 = true) (hn : Builtin.Range.rangeSize a₀ b₀ 1 = (n : Int)) (F : Fr h₀ env.locals s.heap m₀) (N : News h₀ env.locals s.heap news) (hj : J 0 m₀ news)
    (turn : ∀ I, Lo I news → ∀ i t m₁ nx h tk io, i < n → J i m₁ nx → (∀ p ∈ nx, p.1 ≠ I) → Fr h₀ env.locals h (fun y => if y = x then some (.int (a₀ + (i : Int)) t) else m₁ y) → News h₀ env.locals h ((I, io) :: nx) →
      wpAny (model prog w) A (execs body env) (GPost h₀ env.locals I io (J (i + 1)) { s with heap := h, toks := tk } Q) E { s with heap := h, toks := tk })
    (done : ∀ m₁ nx h tk, J n m₁ nx → Fr h₀ env.locals h m₁ → News h₀ env.locals h nx → Q .next { s with heap := h, toks := tk }) :
    wpAny (model prog w) A (pyIter (.ref r)) (fun it s₂ => LoopAtV prog w A h₀ env x body Q E it s₂) E s := by
  refine wpAny_pyIter_range hr hsmall ?_
  have W : Walks prog w A s.heap.objs.size [s.heap.objs.size] [s.heap.objs.size] n (fun i v => i < n ∧ ∃ t, v = .int (a₀ + i * 1) t)
      (fun i h => IsRangeIter h s.heap.objs.size (a₀ + (i : Nat) * 1) ((n : Int) - (i : Nat)) 1) := (Walks.range hh _ a₀ 1 n).bound
  refine loopG (fixed := []) J W ?_ ?_ (next_is_new F) ?_ ?_ (by show IsRangeIter _ _ _ _ _; rw [hn]; simpa using Heap.get?_push_size _ rfl) (F.push _) (fun p hp => ⟨Heap.get?_push_of_some _ (N p hp).1, (N p hp).2⟩) hj (fun _ _ _ _ p hp => nomatch hp) ?_ done
  · intro b hb
    exact .inl (List.mem_singleton.mp hb)
  · intro i h hst
    exact ⟨_, hst⟩
  · intro e
    exact absurd F.ns.lt (e ▸ Nat.lt_irrefl _)
  · intro p hp e
    exact absurd (Heap.lt_size (N p hp).1) (e ▸ Nat.lt_irrefl _)
  · rintro i v m₁ nx h tk io hi ⟨_, t, rfl⟩ hJ hnx F₁ N₁
    have e1 : a₀ + (i : Int) * 1 = a₀ + (i : Int) := by omega
    rw [e1] at F₁
    exact turn _ (Lo.of N) i t m₁ nx h tk io hi hJ hnx F₁ N₁
end
end
section
theorem ints_rev {vs : List Value} {ns : List Int} (hi : IntsAre vs ns) {i : Nat} {v : Value} (hlt : i < vs.toArray.size) (hv : vs.toArray[vs.toArray.size - 1 - i]? = some v) : ∃ d t, v = .int d t ∧ ns.reverse[i]? = some d := by
  have hl : vs.length = ns.length := hi.length
  have h2 : i < ns.length := by rw [List.size_toArray] at hlt; omega
  have e : ns.reverse[i]? = ns[ns.length - 1 - i]? := by rw [List.getElem?_reverse h2]
  obtain ⟨t, hx⟩ := hi.get (ns.length - 1 - i) (ns[ns.length - 1 - i]'(by omega)) (by rw [List.getElem?_eq_getElem])
  have h3 : vs[vs.length - 1 - i]? = some v := by simpa using hv
  rw [hl, hx] at h3
  refine ⟨_, t, (Option.some.inj h3).symm, ?_⟩
  rw [e, List.getElem?_eq_getElem]
end
section
theorem ints_reverse : ∀ {vs : List Value} {ns : List Int}, IntsAre vs ns → IntsAre vs.reverse ns.reverse
  | _, _, .nil => .nil
  | _, _, .cons i t h => by
    rw [List.reverse_cons, List.reverse_cons]
    exact PyProof.Rows.IntsAre.append (ints_reverse h) (.cons _ _ .nil)
end

-- ZL1
open PySem PySem.W PyProof.Rows PySem.Calls PySem.Spec
set_option maxRecDepth 100000
section
/-- Python's order of tuples of ints -/
def lexLt : List Int → List Int → Bool
  | x :: xs, y :: ys => if x = y then lexLt xs ys else decide (x < y)
  | [], _ :: _ => true
  | _, [] => false
abbrev tupO (vs : List Value) (c : Nat) : Obj := { cls := .type "tuple", data := .seq vs.toArray c }
section
variable {prog : Program} {w : World} {A : Around} {E : Value → Shared → Prop} {s : Shared}
theorem tuple_lt_tree {a b : Addr} {vs us : List Value} {xs ys : List Int} {ca cb : Nat} {P : PySem.Fin → Shared → Prop} (ha : s.heap.get? a = some (tupO vs ca)) (hb : s.heap.get? b = some (tupO us cb)) (ia : IntsAre vs xs) (ib : IntsAre us ys)
    (h : P (.done (.ret (.bool (lexLt xs ys)))) s) :
    wpAny (model prog w) A (Builtin.«tuple.__lt__» ⟨[.ref a, .ref b], []⟩) P E s := by
  have hTb : s.TypeIs (.ref b) "tuple" := ⟨_, hb, rfl⟩
  show wpAny _ _ (isInstance (.ref b) (.type "tuple") >>= _) _ _ s
  refine wpAny_bind (wpAny_isInstance hTb isSubtype_tuple_tuple ?_)
  simp only [Bool.not_true, Bool.false_eq_true, if_false]
  refine wpAny_bind (wpAny_tupleItemsOf ha rfl ?_)
  refine wpAny_bind (wpAny_tupleItemsOf hb rfl ?_)
  refine wpAny_bind ?_
  refine wpAny_forIn_list _
    (fun rest r s' => r.1 = none ∧ s' = s ∧ ∃ x' y' xs' ys', rest = List.zip xs' ys' ∧ IntsAre xs' x' ∧ IntsAre ys' y' ∧ lexLt x' y' = lexLt xs ys ∧ (x'.length < y'.length ↔ xs.length < ys.length))
    _ ?_ ?_ _ _ ⟨rfl, rfl, xs, ys, vs, us, by simp, ia, ib, rfl, Iff.rfl⟩
  · rintro ⟨u, v⟩ rest r s' ⟨hr, rfl, x', y', xs', ys', hz, hx', hy', hdec, hlen⟩
    cases hx' with
    | nil => simp at hz
    | cons k1 t1 hx'' =>
      cases hy' with
      | nil => simp at hz
      | cons k2 t2 hy'' =>
        simp only [List.zip_cons_cons, List.cons.injEq, Prod.mk.injEq] at hz
        obtain ⟨⟨rfl, rfl⟩, rfl⟩ := hz
        refine wpAny_bind (wpAny_eqBool_int ?_)
        by_cases hk : k1 = k2
        · subst hk
          simp only [beq_self_eq_true, Bool.not_true, Bool.false_eq_true, if_false]
          refine wpAny_pure ⟨rfl, rfl, _, _, _, _, rfl, hx'', hy'', ?_, ?_⟩
          · rw [← hdec]; simp [lexLt]
          · simpa using hlen
        · have hk' : (k1 == k2) = false := by simp [hk]
          rw [hk']
          simp only [Bool.not_false, if_true]
          refine wpAny_bind (wpAny_rule ?_)
          have hf : lexLt xs ys = decide (k1 < k2) := by rw [← hdec]; simp [lexLt, hk]
          rw [hf] at h
          refine wpAny_bind (m := richCompare .Lt (.int k1 t1) (.int k2 t2)) (show wpAny _ _ (compareOp .Lt (.int k1 t1) (.int k2 t2)) _ _ _ from PyProof.Rows.lt_int ?_)
          exact wpAny_bind (wpAny_pure (wpAny_pure (wpAny_pure h)))
  · rintro ⟨r1, r2⟩ s' ⟨hr, rfl, x', y', xs', ys', hz, hx', hy', hdec, hlen⟩
    simp only at hr
    subst hr
    refine wpAny_pure ?_
    have hl1 := ia.length
    have hl2 := ib.length
    have hfin : Builtin.Tuple.tupleCompareSizes .Lt vs.toArray.size us.toArray.size = .bool (lexLt xs ys) := by
      rw [← hdec, List.size_toArray, List.size_toArray, hl1, hl2]
      show Value.bool (decide (xs.length < ys.length)) = _
      cases hx' with
      | nil =>
        cases hy' with
        | nil => rw [decide_eq_false (by rw [← hlen]; simp)]; rfl
        | cons _ _ _ => rw [decide_eq_true (by rw [← hlen]; simp)]; rfl
      | cons _ _ _ =>
        cases hy' with
        | nil => rw [decide_eq_false (by rw [← hlen]; simp)]; rfl
        | cons _ _ _ => simp at hz
    show P (.done (.ret (Builtin.Tuple.tupleCompareSizes .Lt vs.toArray.size us.toArray.size))) s'
    rw [hfin]; exact h
theorem tuple_lt {a b : Addr} {vs us : List Value} {xs ys : List Int} {ca cb : Nat} {Q : Value → Shared → Prop} (ha : s.heap.get? a = some (tupO vs ca)) (hb : s.heap.get? b = some (tupO us cb)) (ia : IntsAre vs xs) (ib : IntsAre us ys) (hu : A.units < cLine)
    (h : Q (.bool (lexLt xs ys)) s) : wpAny (model prog w) A (compareOp .Lt (.ref a) (.ref b)) Q E s :=
  show wpAny (model prog w) A (richCompare .Lt (.ref a) (.ref b)) Q E s from
  wpAny_richCompare_same_room ⟨_, ha, rfl⟩ ⟨_, hb, rfl⟩ F.slot_tuple_lt (wpAny_call_entry F.slot_tuple_lt ⟨_, ha, rfl⟩ F.entry_tuple_lt (tuple_lt_tree ha hb ia ib ⟨_, rfl, (fun e => nomatch e), h⟩) (F.args_tuple_lt_2 _ _)) hu
end
end
section
inductive TupsAre (news : Led) : List Value → List (List Int) → Prop
  | nil : TupsAre news [] []
  | cons {a : Addr} {vs : List Value} {xs : List Int} {c : Nat} {rest : List Value} {rs : List (List Int)} : (a, tupO vs c) ∈ news → IntsAre vs xs → TupsAre news rest rs → TupsAre news (.ref a :: rest) (xs :: rs)
theorem TupsAre.length {news : Led} : ∀ {vs : List Value} {xs : List (List Int)}, TupsAre news vs xs → vs.length = xs.length
  | _, _, .nil => rfl
  | _, _, .cons _ _ r => by simp [r.length]
theorem TupsAre.mono {news news' : Led} (hs : ∀ p ∈ news, p ∈ news') : ∀ {vs : List Value} {xs : List (List Int)}, TupsAre news vs xs → TupsAre news' vs xs
  | _, _, .nil => .nil
  | _, _, .cons m i r => .cons (hs _ m) i (r.mono hs)
theorem TupsAre.get {news : Led} : ∀ {vs : List Value} {xs : List (List Int)}, TupsAre news vs xs → ∀ {i : Nat}, i < xs.length → ∃ a us c, vs[i]? = some (.ref a) ∧ (a, tupO us c) ∈ news ∧ IntsAre us (xs.getD i [])
  | _, _, .nil, i, h => absurd h (Nat.not_lt_zero _)
  | _, _, .cons m i _, 0, _ => ⟨_, _, _, rfl, m, i⟩
  | _, _, .cons _ _ r, j + 1, h => by
    obtain ⟨a, us, c, h1, h2, h3⟩ := r.get (i := j) (Nat.lt_of_succ_lt_succ h)
    exact ⟨a, us, c, by simpa using h1, h2, by simpa using h3⟩
theorem TupsAre.append {news : Led} : ∀ {vs us : List Value} {xs ys : List (List Int)}, TupsAre news vs xs → TupsAre news us ys → TupsAre news (vs ++ us) (xs ++ ys)
  | _, _, _, _, .nil, h => h
  | _, _, _, _, .cons m i r, h => .cons m i (r.append h)
theorem TupsAre.take {news : Led} : ∀ {vs : List Value} {xs : List (List Int)}, TupsAre news vs xs → ∀ n : Nat, TupsAre news (vs.take n) (xs.take n)
  | _, _, .nil, n => by simp; exact .nil
  | _, _, .cons _ _ _, 0 => .nil
  | _, _, .cons m i r, n + 1 => .cons m i (r.take n)
theorem TupsAre.drop {news : Led} : ∀ {vs : List Value} {xs : List (List Int)}, TupsAre news vs xs → ∀ n : Nat, TupsAre news (vs.drop n) (xs.drop n)
  | _, _, .nil, n => by simp; exact .nil
  | _, _, .cons m i r, 0 => .cons m i r
  | _, _, .cons _ _ r, n + 1 => r.drop n
section
variable {prog : Program} {w : World} {A : Around} {E : Value → Shared → Prop} {s : Shared}
theorem list_item {value slice : PySem.Expr} {l : Addr} {vs : List Value} {k : Int} {u : Tok} {v : Value} {Q : Value → Shared → Prop}
    (hl : s.heap.IsList l vs.toArray) (h0 : 0 ≤ k) (hhi : k < 2 ^ 63) (hx : vs[k.toNat]? = some v) (h : Q v s)
    (hs : subscripted slice false (.ref l) (.int k u) = operate [.ref l, .int k u] (getItem (.ref l) (.int k u)) := by with_unfolding_all rfl) :
    wpAny (model prog w) A (subscriptTail value slice (.ref l) (.int k u)) Q E s :=
  tail_any hl.typeIs slot_list_getitem.lookup (wpAny_getItem_list hl h0 hhi (by simpa using hx) h) hs
end
end

-- ZP1
section
def d2iF : Nat → Int → List Int → Int → Int → Int
  | 0, _, _, _, _ => 0
  | k + 1, n, ds, lo, hi => if lo + 1 = hi then ds.getD lo.toNat 0 else d2iF k n ds (midF lo hi) hi * 2 ^ (shF n lo hi).toNat + d2iF k n ds lo (midF lo hi)
theorem two_pow_le {n d : Int} (hd : 0 ≤ d) (hn : 1 ≤ n) (hn2 : n ≤ 6) : (2 : Int) ^ (d * n).toNat ≤ 64 ^ d.toNat := by
  obtain ⟨e, rfl⟩ := Int.eq_ofNat_of_zero_le hd
  obtain ⟨m, rfl⟩ := Int.eq_ofNat_of_zero_le (show 0 ≤ n by omega)
  have e1 : ((e : Int) * (m : Int)).toNat = e * m := by rw [← Int.natCast_mul]; rfl
  rw [e1]
  have h1 : (2 : Nat) ^ (e * m) ≤ 2 ^ (6 * e) := Nat.pow_le_pow_right (by decide) (by rw [Nat.mul_comm]; exact Nat.mul_le_mul (by omega) (Nat.le_refl _))
  have h2 : (2 : Nat) ^ (6 * e) = 64 ^ e := by rw [Nat.pow_mul]
  rw [h2] at h1
  show (2 : Int) ^ (e * m) ≤ 64 ^ e
  exact_mod_cast h1
theorem d2iF_bd {n : Int} {ds : List Int} (hn : 1 ≤ n) (hn2 : n ≤ 6) (hds : ∀ d ∈ ds, 0 ≤ d ∧ d < 64) : ∀ (k : Nat) (lo hi : Int), 0 ≤ lo → lo < hi → hi ≤ ds.length → (hi - lo).toNat ≤ k → 0 ≤ d2iF k n ds lo hi ∧ d2iF k n ds lo hi < 64 ^ (hi - lo).toNat := by
  intro k
  induction k with
  | zero => intro lo hi h1 h2 h3 h4; exfalso; omega
  | succ k IH =>
    intro lo hi h1 h2 h3 h4
    unfold d2iF
    split
    · rename_i e
      have hl : lo.toNat < ds.length := by omega
      have e1 : (hi - lo).toNat = 1 := by omega
      rw [e1]
      have := hds (ds.getD lo.toNat 0) (by rw [List.getD, List.getElem?_eq_getElem hl]; exact List.getElem_mem hl)
      simpa using this
    · rename_i hne
      obtain ⟨m1, m2⟩ := midF_lt (lo := lo) (hi := hi) (by omega)
      obtain ⟨a0, a1⟩ := IH (midF lo hi) hi (by omega) m2 h3 (by omega)
      obtain ⟨b0, b1⟩ := IH lo (midF lo hi) h1 m1 (by omega) (by omega)
      have hp := two_pow_le (d := midF lo hi - lo) (by omega) hn hn2
      have hp0 : (0 : Int) < 2 ^ (shF n lo hi).toNat := pow_pos2 _
      generalize d2iF k n ds (midF lo hi) hi = r1 at *
      generalize d2iF k n ds lo (midF lo hi) = r2 at *
      have e2 : (hi - lo).toNat = (hi - midF lo hi).toNat + (midF lo hi - lo).toNat := by omega
      rw [e2, Int.pow_add]
      change (2 : Int) ^ (shF n lo hi).toNat ≤ _ at hp
      generalize (2 : Int) ^ (shF n lo hi).toNat = p at *
      generalize (64 : Int) ^ (midF lo hi - lo).toNat = q at *
      generalize (64 : Int) ^ (hi - midF lo hi).toNat = t at *
      refine ⟨Int.add_nonneg (Int.mul_nonneg a0 (by omega)) b0, ?_⟩
      have h5 : r1 * p ≤ (t - 1) * q := Int.mul_le_mul (by omega) hp (by omega) (by omega)
      rw [Int.sub_mul, Int.one_mul] at h5
      omega
theorem d2iF_36 {n : Int} {ds : List Int} (hn : 1 ≤ n) (hn2 : n ≤ 6) (hds : ∀ d ∈ ds, 0 ≤ d ∧ d < 64) (hl : ds.length ≤ 6) {k : Nat} {lo hi : Int} (h1 : 0 ≤ lo) (h2 : lo < hi) (h3 : hi ≤ ds.length) (h4 : (hi - lo).toNat ≤ k) :
    0 ≤ d2iF k n ds lo hi ∧ d2iF k n ds lo hi < 68719476736 := by
  obtain ⟨a, b⟩ := d2iF_bd hn hn2 hds k lo hi h1 h2 h3 h4
  refine ⟨a, Int.lt_of_lt_of_le b ?_⟩
  have : (64 : Nat) ^ (hi - lo).toNat ≤ 64 ^ 6 := Nat.pow_le_pow_right (by decide) (by omega)
  have h : (64 : Int) ^ (hi - lo).toNat ≤ 64 ^ 6 := by exact_mod_cast this
  exact Int.le_trans h (by decide)
end

-- ZP2
section
/-- what _divmod_pos reckons -/
def dmStep (b n : Int) (st : Int × List Int) (d : Int) : Int × List Int := ((st.1 * 2 ^ n.toNat + d) % b, st.2 ++ [(st.1 * 2 ^ n.toNat + d) / b])
def dmBits (b : Int) : Int := (PySem.Builtin.Int.intBits b : Int)
def i2dN (a n : Int) : Nat := (((PySem.Builtin.Int.intBits a : Int) + n - 1).fdiv n).toNat
def i2dF (a n : Int) : List Int := if a = 0 then [] else innerF (i2dN a n) n (List.replicate (i2dN a n) 0) a 0 (i2dN a n)
def dmFold (a b : Int) : Int × List Int := (i2dF a (dmBits b)).reverse.foldl (dmStep b (dmBits b)) (0, [])
def dmF (a b : Int) : Int × Int := (d2iF (dmFold a b).2.length (dmBits b) (dmFold a b).2.reverse 0 (dmFold a b).2.length, (dmFold a b).1)
set_option maxRecDepth 100000
/-- what the walk of _divmod_pos asks of two small numbers -/
abbrev DmOk (a b : Nat) : Prop := 0 < a → 0 < b → dmF (a : Int) (b : Int) = ((a : Int) / (b : Int), (a : Int) % (b : Int)) ∧
    (∀ d ∈ i2dF (a : Int) (dmBits (b : Int)), 0 ≤ d ∧ d < 64) ∧ (∀ d ∈ (dmFold (a : Int) (b : Int)).2, 0 ≤ d ∧ d < 64) ∧ (dmFold (a : Int) (b : Int)).2.length = (i2dF (a : Int) (dmBits (b : Int))).length ∧ 1 ≤ (i2dF (a : Int) (dmBits (b : Int))).length ∧ (i2dF (a : Int) (dmBits (b : Int))).length ≤ 6
theorem dm_a : ∀ a : Fin 7, ∀ b : Fin 42, DmOk (0 + a.val) b.val := by decide +kernel
theorem dm_b : ∀ a : Fin 7, ∀ b : Fin 42, DmOk (7 + a.val) b.val := by decide +kernel
theorem dm_c : ∀ a : Fin 7, ∀ b : Fin 42, DmOk (14 + a.val) b.val := by decide +kernel
theorem dm_d : ∀ a : Fin 7, ∀ b : Fin 42, DmOk (21 + a.val) b.val := by decide +kernel
theorem dm_e : ∀ a : Fin 7, ∀ b : Fin 42, DmOk (28 + a.val) b.val := by decide +kernel
theorem dm_f : ∀ a : Fin 7, ∀ b : Fin 42, DmOk (35 + a.val) b.val := by decide +kernel
theorem dm_all (a b : Nat) (ha : a < 42) (hb : b < 42) : DmOk a b := by
  obtain ⟨q, r, hq, hr, e⟩ : ∃ q r : Nat, q < 6 ∧ r < 7 ∧ a = 7 * q + r := ⟨a / 7, a % 7, by omega, by omega, by omega⟩
  subst e
  match q, hq with
  | 0, _ => exact dm_a ⟨r, hr⟩ ⟨b, hb⟩
  | 1, _ => exact dm_b ⟨r, hr⟩ ⟨b, hb⟩
  | 2, _ => exact dm_c ⟨r, hr⟩ ⟨b, hb⟩
  | 3, _ => exact dm_d ⟨r, hr⟩ ⟨b, hb⟩
  | 4, _ => exact dm_e ⟨r, hr⟩ ⟨b, hb⟩
  | 5, _ => exact dm_f ⟨r, hr⟩ ⟨b, hb⟩
theorem dmF_small (a b : Fin 42) : DmOk a.val b.val := dm_all a.val b.val a.isLt b.isLt
end

-- ZC1
open PySem PySem.W PyProof.Rows PySem.Calls PySem.Spec
set_option Elab.async false
section
local macro_rules | `(tactic| k_room) => `(tactic| ktr_room)

set_option maxHeartbeats 4000000
theorem div2n1n_con (w : World) (p : Program) (loose : List Str) (mean : ExcName → Option Value) (mg mb : Str → Option Value) (a b n : Int) (ta tb tn : Tok) (news : Led)
    (ha : 0 ≤ a) (ha2 : a < 1048576) (hb : 0 < b) (hb2 : b < 1048576) (hn : 0 ≤ n) (hn2 : n ≤ 64) :
    Con PySem.Challenge.rw_gb0004_02.row.prog w (Mine.hd.heap_39 w.params) p loose mean mg mb 21 [.int a ta, .int b tb, .int n tn] news 1 8
      (fun r news' => ∃ D t1 t2 c, r = .ref D ∧ news' = (D, tup2 (.int (a / b) t1) (.int (a % b) t2) c) :: news ∧ Lo D news) := by
  k_fill
  unfold Con
  intro dp un gd cn cs ca ccd cl outer A₀ base h₀ L m s Q E B F X N T hk hd hu hret
  have hbits : Builtin.Int.intBits a ≤ 64 := intBits_le_64 (by omega) (by omega)
  refine wpAny_call ?_
  refine' code_def ?k1 ?k2 ?k3 ?k4 ?k5 ?kA ?kF ?kK ?k6 ?k7 ?k8 ?k9 ?kB ?_ ?c2 ?c3 ?c4 ?c5
  case kA => exact rfl
  case kF => exact rfl
  case kK => exact hk
  case k1 => exact B
  case k2 => exact F
  case k3 => exact X
  case k4 => exact N
  case k5 => exact T
  case k6 => k_is
  case k7 => k_is
  case k8 => ktr_room
  case k9 => first | exact BindsTo.of_eq rfl | exact binds_K (by k_in) rfl (by k_is) rfl rfl rfl
  case c5 => decide
  case kB => exact locs rfl
  case c2 => exact rfl
  case c3 => exact rfl
  case c4 => exact rfl
  k_whole
  intro g' L' h1 FG1 F1 N1 B1 X1 T1
  try dsimp only
  k_steps
  (with_reducible rename News _ _ _ news => nN)
  exact hret _ _ _ _ (by assumption) (by assumption) ⟨_, _, _, _, rfl, by rw [← Int.fdiv_eq_ediv_of_nonneg _ (by omega), ← Int.fmod_eq_emod_of_nonneg _ (by omega)], fun p hp => Heap.lt_size (nN p hp).1⟩
end

-- ZCI
open PySem PySem.W PyProof.Rows PySem.Calls PySem.Spec
set_option Elab.async false
section
local macro_rules | `(tactic| k_room) => `(tactic| ktr_room)

set_option maxHeartbeats 4000000
theorem inner_con (w : World) (p : Program) (loose : List Str) (mean : ExcName → Option Value) (mg mb : Str → Option Value) (nm : Str) (args : Arguments) (body : List Stmt) (sc : Scope) (pos : Pos)
    (hin : getInner (PySem.Challenge.pw_gb0004_02.main.body[4]?) 1 = some (nm, args, body, sc, pos))
    (f c' cA cI cN D : Addr) (doc pm ctv : Value) (oc oA oI oN : Obj) (vs : Array Value) (t : Tok) (qual : Str) (R : Led) (n : Int) (tn : Tok) (nn : Nat)
    (mf : (f, fnMade nm qual args body sc [("n", cN), ("inner", cI), ("a_digits", cA)] doc pm c' ctv) ∈ R) (mc : (c', oc) ∈ R) (hoc : oc.data = .fields vs) (hvs : vs[1]? = some (.str qual t))
    (mA : (cA, oA) ∈ R) (hA : oA.data = .cell (some (.ref D))) (mI : (cI, oI) ∈ R) (hI : oI.data = .cell (some (.ref f))) (mN : (cN, oN) ∈ R) (hN : oN.data = .cell (some (.int n tn)))
    (hRD : ∀ p ∈ R, p.1 ≠ D) (hn : 1 ≤ n) (hn2 : n ≤ 6) :
    ∀ (k : Nat) (x lo hi : Int) (tx tlo thi : Tok) (vd : List Value) (ds : List Int), IntsAre vd ds → 0 ≤ lo → lo < hi → hi ≤ ds.length → ds.length ≤ 6 → 0 ≤ x → x < 64 → (hi - lo).toNat ≤ k →
    Con PySem.Challenge.rw_gb0004_02.row.prog w (Mine.hd.heap_39 w.params) p loose mean mg mb f [.int x tx, .int lo tlo, .int hi thi] ((D, W.listOf vd.toArray nn) :: R) k (8 * k)
      (fun r news' => r = .none ∧ ∃ vd', IntsAre vd' (innerF k n ds x lo hi) ∧ news' = (D, W.listOf vd'.toArray nn) :: R) := by
  k_fill
  with_unfolding_all cases hin
  intro k
  induction k with
  | zero => intro x lo hi tx tlo thi vd ds hvd h1 h2 h3 h4 h5 h6 h7; exfalso; omega
  | succ k IH =>
  intro x lo hi tx tlo thi vd ds hvd h1 h2 h3 h4 h5 h6 h7
  unfold Con
  intro dp un gd cn cs ca ccd cl outer A₀ base h₀ L m s Q E B F X N T hk hd hu hret
  have hMk : KstMark := kstMark
  refine wpAny_call ?_
  refine' code_nest ?k1 ?k2 ?k3 ?k4 ?k5 ?kA ?kF ?kK ?k6 ?k7 ?k8 ?k9 ?kB ?_ ?c2 ?c3 ?c4 ?c5
  case kA => exact rfl
  case kF => exact rfl
  case kK => exact hk
  case k1 => exact B
  case k2 => exact F
  case k3 => exact X
  case k4 => exact N
  case k5 => exact T
  case k6 => exact List.Mem.tail _ mf
  case k7 => exact codeRec_news N (List.Mem.tail _ mc) hoc hvs
  case k8 => ktr_room
  case k9 => exact BindsTo.of_eq rfl
  case c5 => decide
  case kB => exact locs rfl
  case c2 => exact rfl
  case c3 => exact rfl
  case c4 => exact rfl
  k_whole
  intro g' L' h1' FG1 F1 N1 B1 X1 T1
  try dsimp only
  have CT : CodeHd g' 34 30 := codeHd_of_K X1 (by kernel_rfl)
  k_with "eval Name" => (k_here; k_dflt (first
    | (refine' nameX_F ?zN ?zC (List.Mem.tail _ mA) hA ?_ ?zA ?zB; (case zA => rfl); (case zB => rfl); (case zC => rfl); (case zN => k_asm); k_whole)
    | (refine' nameX_F ?zN ?zC (List.Mem.tail _ mI) hI ?_ ?zA ?zB; (case zA => rfl); (case zB => rfl); (case zC => rfl); (case zN => k_asm); k_whole)
    | (refine' nameX_F ?zN ?zC (List.Mem.tail _ mN) hN ?_ ?zA ?zB; (case zA => rfl); (case zB => rfl); (case zC => rfl); (case zN => k_asm); k_whole)))
  k_with "callWith ref" => (k_here; k_dflt (refine' callWith_F ?zK ?_; (case zK => exact FnAt.of (by k_asm) (List.Mem.tail _ mf)); k_whole))
  k_with "FnAt" => (k_dflt (exact FnAt.of (by k_asm) (List.Mem.tail _ mf)))
  obtain ⟨sh0, sh1⟩ := shF_bd (n := n) h1 h2 (by omega) hn hn2
  have hups := up_bd (shF n lo hi).toNat h5 h6
  have upb : Builtin.Int.intBits (x.fdiv (2 ^ (shF n lo hi).toNat)) ≤ 6 := bits_bd hups.1 hups.2
  have hlws := low_bd (shF n lo hi).toNat h5 h6
  dsimp only [shF, midF] at sh0 sh1
  clear upb
  k_with "call ref" => (refine stop_here ?_)
  k_steps
  · exact hret _ _ _ _ (by assumption) (by assumption) ⟨rfl, _, by (unfold innerF; rw [if_pos (by assumption)]; assumption), rfl⟩
  have hne : lo + 1 ≠ hi := by assumption
  obtain ⟨md0, md1⟩ := midF_lt (lo := lo) (hi := hi) (by omega)
  have hl1 := innerF_length k n ds (lowF n x lo hi) lo (midF lo hi)
  dsimp only [midF] at md0 md1
  refine go_on ?_
  refine' IH _ _ _ _ _ _ _ _ ?q0 ?q1 ?q2 ?q3 ?q4 ?q5 ?q6 ?q7 _ _ _ _ _ _ _ _ _ _ _ _ _ _ _ _ _ ?c1r1 ?c1r2 ?c1r3 ?c1r4 ?c1r5 ?c1r0 ?c1r6 ?c1r7 ?c1r8
  case c1r1 => k_asm
  case c1r2 => k_asm
  case c1r3 => k_asm
  case c1r4 => k_asm
  case q0 => exact hvd
  case q1 => exact h1
  case q2 => exact md0
  case q3 => omega
  case q4 => exact h4
  case q5 => exact hlws.1
  case q6 => exact hlws.2
  case q7 => omega
  case c1r5 => k_asm
  case c1r0 => first | exact rfl | assumption
  case c1r6 => ktr_room
  case c1r7 => ktr_units
  case c1r8 =>
  intro rc1 nwc1 hc1 tkc1 Fc1 Nc1 hOc1
  obtain ⟨rfl, vd1, hvd1, rfl⟩ := hOc1
  try dsimp only
  try k_fold
  k_steps
  refine go_on ?_
  refine' IH _ _ _ _ _ _ _ _ ?p0 ?p1 ?p2 ?p3 ?p4 ?p5 ?p6 ?p7 _ _ _ _ _ _ _ _ _ _ _ _ _ _ _ _ _ ?c2r1 ?c2r2 ?c2r3 ?c2r4 ?c2r5 ?c2r0 ?c2r6 ?c2r7 ?c2r8
  case c2r1 => k_asm
  case c2r2 => k_asm
  case c2r3 => k_asm
  case c2r4 => k_asm
  case p0 => exact hvd1
  case p1 => omega
  case p2 => exact md1
  case p3 => rw [innerF_length]; exact h3
  case p4 => rw [innerF_length]; exact h4
  case p5 => exact hups.1
  case p6 => exact hups.2
  case p7 => omega
  case c2r5 => k_asm
  case c2r0 => first | exact rfl | assumption
  case c2r6 => ktr_room
  case c2r7 => ktr_units
  case c2r8 =>
  intro rc2 nwc2 hc2 tkc2 Fc2 Nc2 hOc2
  obtain ⟨rfl, vd2, hvd2, rfl⟩ := hOc2
  try dsimp only
  try k_fold
  k_steps
  refine hret _ _ _ _ (by assumption) (by assumption) ⟨rfl, vd2, by (unfold innerF; rw [if_neg hne]; exact hvd2), rfl⟩
end
theorem reset_ZCI : True := by
  k_with_none
  w_top off
  exact True.intro

-- ZCA
open PySem PySem.W PyProof.Rows PySem.Calls PySem.Spec
set_option Elab.async false
section
local macro_rules | `(tactic| k_room) => `(tactic| ktr_room)

set_option maxHeartbeats 4000000
theorem i2d_q {a n : Int} (ha : 0 < a) (ha2 : a < 64) (hn : 1 ≤ n) (hn2 : n ≤ 6) : 1 ≤ ((Builtin.Int.intBits a : Int) + n - 1).fdiv n ∧ ((Builtin.Int.intBits a : Int) + n - 1).fdiv n ≤ 6 := by
  have h1 := bits_pos ha ha2
  have h2 := bits_bd (Int.le_of_lt ha) ha2
  generalize Builtin.Int.intBits a = b at *
  rw [Int.fdiv_eq_ediv_of_nonneg _ (by omega)]
  have : n = 1 ∨ n = 2 ∨ n = 3 ∨ n = 4 ∨ n = 5 ∨ n = 6 := by omega
  rcases this with rfl | rfl | rfl | rfl | rfl | rfl <;> omega
theorem i2d_con (w : World) (p : Program) (loose : List Str) (mean : ExcName → Option Value) (mg mb : Str → Option Value) (a n : Int) (ta tn : Tok) (rest rest0 : Led) (ps : Array Value) (h0 : ∀ p ∈ rest0, p ∈ rest)
    (ha : 0 < a) (ha2 : a < 64) (hn : 1 ≤ n) (hn2 : n ≤ 6) (hr : ∀ p ∈ rest, p.1 ≠ 30) (hps : TabSt 32 4 "_int2digits.<locals>.inner" ps rest0) :
    Con PySem.Challenge.rw_gb0004_02.row.prog w (Mine.hd.heap_39 w.params) p loose mean mg mb 35 [.int a ta, .int n tn] ((30, tabObj ps) :: rest) 20 200
      (fun r news' => ∃ D vd tl ps', r = .ref D ∧ IntsAre vd (i2dF a n) ∧ news' = (D, W.listOf vd.toArray 0) :: (30, tabObj ps') :: (tl ++ rest) ∧ TabSt 32 4 "_int2digits.<locals>.inner" ps' (tl ++ rest0) ∧
        Lo D rest ∧ (∀ q ∈ rest, ∀ p ∈ tl, @LT.lt Nat _ q.1 p.1) ∧ (∀ p ∈ tl, p.1 ≠ 30) ∧ @LT.lt Nat _ 30 D ∧ (∀ p ∈ tl, p.1 ≠ D)) := by
  k_fill
  unfold Con
  intro dp un gd cn cs ca ccd cl outer A₀ base h₀ L m s Q E B F X N T hk hd hu hret
  have hbits := bits_bd (Int.le_of_lt ha) ha2
  obtain ⟨hq1, hq2⟩ := i2d_q ha ha2 hn hn2
  have hN1 : 1 ≤ i2dN a n ∧ i2dN a n ≤ 6 := by unfold i2dN; omega
  have hMk : KstMark := kstMark
  refine wpAny_call ?_
  refine' code_defC ?k1 ?k2 ?k3 ?k4 ?k5 ?kA ?kF ?kK ?k6 ?k7 ?k8 ?k9 ?kB ?kD ?_ ?c2 ?c3 ?c4
  case kA => exact rfl
  case kF => exact rfl
  case kK => exact hk
  case k1 => exact B
  case k2 => exact F
  case k3 => exact X
  case k4 => exact N
  case k5 => exact T
  case k6 => k_is
  case k7 => k_is
  case k8 => ktr_room
  case k9 => first | exact BindsTo.of_eq rfl | exact binds_K (by k_in) rfl (by k_is) rfl rfl rfl
  case kB => exact rfl
  case kD => decide +kernel
  case c2 => exact rfl
  case c3 => exact rfl
  case c4 => exact rfl
  k_whole
  intro g' L' h1 tk1 cells1 FG1 F1 N1 Y1 B1 X1 T1 lt1
  k_cells Y1
  try simp only [List.cons_append, List.nil_append] at N1
  try dsimp only
  have hLo : Lo L' rest := fun p hp => lt1 p (.tail _ hp)
  k_lt lt1
  have CT : CodeHd g' 34 30 := codeHd_of_K X1 (by kernel_rfl)
  k_with "exec FunctionDef" => (
    k_dflt (refine' nestDef_K ?zd0 ?zk0 ?za0 ?_; (case zd0 => exact rfl); (case zk0 => exact rfl); (case za0 => exact rfl))
    k_dflt (refine' nest_any ?zF ?zN ?zT ?zC ?zcd ?zU hps ?zhs ?zcl ?_; (case zF => k_asm); (case zN => k_asm); (case zT => k_asm); (case zcd => exact rfl); (case zC => with_reducible assumption); (case zU => k_updF); (case zcl => exact rfl); (case zhs => (intro p9 h9; replace h9 := h0 _ h9; repeat (first | exact h9 | refine List.Mem.tail _ ?_))))
    k_whole
    intro fI cI oI vI tI ctI dI hI tkI FI NI dI1 dI2 ltI1 ltI2 hcI
    try dsimp only at NI
    k_lt ltI1
    rcases hcI with hcI | hcI <;> first | (have hcL : @LT.lt Nat _ cI L' := hLo _ (h0 _ hcI)) | k_lt hcI)
  k_with "call ref" => (refine stop_here ?_)
  k_steps
  all_goals (try (exfalso; omega))
  · (with_reducible rename News _ _ _ _ => nN)
    (with_reducible rename IntsAre _ _ => iA)
    simp only [List.flatten_replicate_singleton, List.length_replicate] at nN iA ⊢
    have N2 := news_rot3 nN
    refine go_on ?_
    refine' inner_con w p loose mean mg mb _ _ _ _ _ ?hinx _ _ _ _ _ _ _ _ _ _ _ _ _ _ _ _ _ n _ 0 ?mfx ?mcx dI1 dI2 ?mAx ?hAx ?mIx ?hIx ?mNx ?hNx ?hRDx hn hn2 (i2dN a n) _ _ _ _ _ _ _ _ iA (Int.le_refl _) ?q2x ?q3x ?q4x (Int.le_of_lt ha) ha2 ?q7x _ _ _ _ _ _ _ _ _ _ _ _ _ _ _ _ _ ?r1x ?r2x ?r3x ?r4x ?r5x ?r0x ?r6x ?r7x ?r8x
    case r4x => exact N2
    case mfx => exact .head _
    case mcx => exact .tail _ (.head _)
    case hinx => with_unfolding_all rfl
    case r1x => k_asm
    case r2x => k_asm
    case r3x => k_asm
    case r5x => k_asm
    case r0x => exact rfl
    case r6x => ktr_room
    case r7x => ktr_units
    case mAx => k_mem
    case hAx => first | with_reducible assumption | assumption | with_unfolding_all assumption
    case mIx => k_mem
    case hIx => first | with_reducible assumption | assumption | with_unfolding_all assumption
    case mNx => k_mem
    case hNx => first | with_reducible assumption | assumption | with_unfolding_all assumption | with_unfolding_all exact rfl
    case hRDx => repeat (first | k_all | refine List.forall_mem_cons.mpr ⟨by k_ne, ?_⟩)
    case q2x => omega
    case q3x => simp only [List.length_replicate]; omega
    case q4x => simp only [List.length_replicate]; omega
    case q7x => show _ ≤ (Int.toNat _); omega
    case r8x =>
    intro r9 nw9 h9 tk9 F9 N9 hO9
    obtain ⟨rfl, vd2, hvd2, rfl⟩ := hO9
    try dsimp only
    try k_fold
    k_steps
    refine hret _ _ _ _ (by assumption) (news_sub (by assumption) ?sbx) ⟨_, vd2, [(cI, oI)], #[rawInt ((32 : Nat) : Int), rawInt ((4 : Nat) : Int), .ref cI], rfl, ?w1x, rfl, ?w2x, ?w3x, ?w4x, ?w5x, ?w6x, ?w7x⟩
    case w1x => (unfold i2dF; rw [if_neg (by omega)]; exact hvd2)
    case w2x => exact .inr ⟨cI, oI, vI, tI, rfl, .head _, dI1, dI2⟩
    case w3x => exact Lo.up hLo (by omega)
    case w4x => (intro q9 h9 p9 g9; rcases List.mem_singleton.mp g9 with rfl; have := hLo q9 h9; show @LT.lt Nat _ q9.1 cI; omega)
    case w5x => (intro p9 g9; rcases List.mem_singleton.mp g9 with rfl; (refine neN ?_; dsimp only; omega))
    case w6x => omega
    case w7x => (intro p9 g9; rcases List.mem_singleton.mp g9 with rfl; (refine neN ?_; dsimp only; omega))
    case sbx =>
      simp only [List.cons_append, List.nil_append]
      repeat (first | (refine List.forall_mem_cons.mpr ⟨by (repeat (first | exact List.Mem.head _ | refine List.Mem.tail _ ?_)), ?_⟩))
      intro p9 h9
      repeat (first | exact h9 | refine List.Mem.tail _ ?_)
  · (with_reducible rename News _ _ _ _ => nN)
    (with_reducible rename IntsAre _ _ => iA)
    simp only [List.flatten_replicate_singleton, List.length_replicate] at nN iA ⊢
    have N2 := news_rot3 nN
    refine go_on ?_
    refine' inner_con w p loose mean mg mb _ _ _ _ _ ?hiny _ _ _ _ _ _ _ _ _ _ _ _ _ _ _ _ _ n _ 0 ?mfy ?mcy dI1 dI2 ?mAy ?hAy ?mIy ?hIy ?mNy ?hNy ?hRDy hn hn2 (i2dN a n) _ _ _ _ _ _ _ _ iA (Int.le_refl _) ?q2y ?q3y ?q4y (Int.le_of_lt ha) ha2 ?q7y _ _ _ _ _ _ _ _ _ _ _ _ _ _ _ _ _ ?r1y ?r2y ?r3y ?r4y ?r5y ?r0y ?r6y ?r7y ?r8y
    case r4y => exact N2
    case mfy => exact .head _
    case mcy => exact .tail _ (.head _)
    case hiny => with_unfolding_all rfl
    case r1y => k_asm
    case r2y => k_asm
    case r3y => k_asm
    case r5y => k_asm
    case r0y => exact rfl
    case r6y => ktr_room
    case r7y => ktr_units
    case mAy => k_mem
    case hAy => first | with_reducible assumption | assumption | with_unfolding_all assumption
    case mIy => k_mem
    case hIy => first | with_reducible assumption | assumption | with_unfolding_all assumption
    case mNy => k_mem
    case hNy => first | with_reducible assumption | assumption | with_unfolding_all assumption | with_unfolding_all exact rfl
    case hRDy => repeat (first | k_all | refine List.forall_mem_cons.mpr ⟨by k_ne, ?_⟩)
    case q2y => omega
    case q3y => simp only [List.length_replicate]; omega
    case q4y => simp only [List.length_replicate]; omega
    case q7y => show _ ≤ (Int.toNat _); omega
    case r8y =>
    intro r9 nw9 h9 tk9 F9 N9 hO9
    obtain ⟨rfl, vd2, hvd2, rfl⟩ := hO9
    try dsimp only
    try k_fold
    k_steps
    refine hret _ _ _ _ (by assumption) (news_sub (by assumption) ?sby) ⟨_, vd2, [], #[rawInt ((32 : Nat) : Int), rawInt ((4 : Nat) : Int), .ref cI], rfl, ?w1y, rfl, ?w2y, ?w3y, ?w4y, ?w5y, ?w6y, ?w7y⟩
    case w1y => (unfold i2dF; rw [if_neg (by omega)]; exact hvd2)
    case w2y => exact .inr ⟨cI, oI, vI, tI, rfl, hcI, dI1, dI2⟩
    case w3y => exact Lo.up hLo (by omega)
    case w4y => (intro q9 h9 p9 g9; cases g9)
    case w5y => (intro p9 g9; cases g9)
    case w6y => omega
    case w7y => (intro p9 g9; cases g9)
    case sby =>
      simp only [List.cons_append, List.nil_append]
      repeat (first | (refine List.forall_mem_cons.mpr ⟨by (repeat (first | exact List.Mem.head _ | refine List.Mem.tail _ ?_)), ?_⟩))
      intro p9 h9
      repeat (first | exact h9 | refine List.Mem.tail _ ?_)
end
theorem reset_ZCA : True := by
  k_with_none
  w_top off
  exact True.intro

-- ZCD
open PySem PySem.W PyProof.Rows PySem.Calls PySem.Spec
set_option Elab.async false
section
local macro_rules | `(tactic| k_room) => `(tactic| ktr_room)

set_option maxHeartbeats 4000000
theorem inner2_con (w : World) (p : Program) (loose : List Str) (mean : ExcName → Option Value) (mg mb : Str → Option Value) (nm : Str) (args : Arguments) (body : List Stmt) (sc : Scope) (pos : Pos)
    (hin : getInner (PySem.Challenge.pw_gb0004_02.main.body[5]?) 0 = some (nm, args, body, sc, pos))
    (f c' cI cN cD D : Addr) (doc pm ctv : Value) (oc oI oN oD : Obj) (vs : Array Value) (t : Tok) (qual : Str) (R : Led) (n : Int) (tn : Tok) (nn : Nat) (vd : List Value) (ds : List Int)
    (mf : (f, fnMade nm qual args body sc [("n", cN), ("inner", cI), ("digits", cD)] doc pm c' ctv) ∈ R) (mc : (c', oc) ∈ R) (hoc : oc.data = .fields vs) (hvs : vs[1]? = some (.str qual t))
    (mI : (cI, oI) ∈ R) (hI : oI.data = .cell (some (.ref f))) (mN : (cN, oN) ∈ R) (hN : oN.data = .cell (some (.int n tn))) (mD : (cD, oD) ∈ R) (hD : oD.data = .cell (some (.ref D)))
    (ml : (D, W.listOf vd.toArray nn) ∈ R) (hvd : IntsAre vd ds) (hl6 : ds.length ≤ 6) (hds : ∀ d ∈ ds, 0 ≤ d ∧ d < 64) (hn : 1 ≤ n) (hn2 : n ≤ 6) :
    ∀ (k : Nat) (lo hi : Int) (tlo thi : Tok), 0 ≤ lo → lo < hi → hi ≤ ds.length → (hi - lo).toNat ≤ k →
    Con PySem.Challenge.rw_gb0004_02.row.prog w (Mine.hd.heap_39 w.params) p loose mean mg mb f [.int lo tlo, .int hi thi] R k (8 * k)
      (fun r news' => ∃ t, r = .int (d2iF k n ds lo hi) t ∧ news' = R) := by
  k_fill
  with_unfolding_all cases hin
  intro k
  induction k with
  | zero => intro lo hi tlo thi h1 h2 h3 h7; exfalso; omega
  | succ k IH =>
  intro lo hi tlo thi h1 h2 h3 h7
  unfold Con
  intro dp un gd cn cs ca ccd cl outer A₀ base h₀ L m s Q E B F X N T hk hd hu hret
  have hMk : KstMark := kstMark
  refine wpAny_call ?_
  refine' code_nest ?k1 ?k2 ?k3 ?k4 ?k5 ?kA ?kF ?kK ?k6 ?k7 ?k8 ?k9 ?kB ?_ ?c2 ?c3 ?c4 ?c5
  case kA => exact rfl
  case kF => exact rfl
  case kK => exact hk
  case k1 => exact B
  case k2 => exact F
  case k3 => exact X
  case k4 => exact N
  case k5 => exact T
  case k6 => exact mf
  case k7 => exact codeRec_news N (mc) hoc hvs
  case k8 => ktr_room
  case k9 => exact BindsTo.of_eq rfl
  case c5 => decide
  case kB => exact locs rfl
  case c2 => exact rfl
  case c3 => exact rfl
  case c4 => exact rfl
  k_whole
  intro g' L' h1' FG1 F1 N1 B1 X1 T1
  try dsimp only
  have CT : CodeHd g' 41 37 := codeHd_of_K X1 (by kernel_rfl)
  k_with "eval Name" => (k_here; k_dflt (first
    | (refine' nameX_F ?zN ?zC mD hD ?_ ?zA ?zB; (case zA => rfl); (case zB => rfl); (case zC => rfl); (case zN => k_asm); k_whole)
    | (refine' nameX_F ?zN ?zC mI hI ?_ ?zA ?zB; (case zA => rfl); (case zB => rfl); (case zC => rfl); (case zN => k_asm); k_whole)
    | (refine' nameX_F ?zN ?zC mN hN ?_ ?zA ?zB; (case zA => rfl); (case zB => rfl); (case zC => rfl); (case zN => k_asm); k_whole)))
  k_with "callWith ref" => (k_here; k_dflt (refine' callWith_F ?zK ?_; (case zK => exact FnAt.of (by k_asm) mf); k_whole))
  k_with "FnAt" => (k_dflt (exact FnAt.of (by k_asm) mf))
  k_with "subscriptTail" => (k_here; k_dflt (refine' ksa_sub ?zk1 ml hvd h1 (by omega) (by omega) ?_ ?zk7; (case zk1 => k_asm); (case zk7 => with_unfolding_all rfl); k_whole; intro t9))
  obtain ⟨sh0, sh1⟩ := shF_bd (n := n) h1 h2 (by omega) hn hn2
  dsimp only [shF, midF] at sh0 sh1
  k_with "call ref" => (refine stop_here ?_)
  k_steps
  · exact hret _ _ _ _ (by assumption) (by assumption) ⟨_, by (unfold d2iF; rw [if_pos (by assumption)]), rfl⟩
  have hne : lo + 1 ≠ hi := by assumption
  obtain ⟨md0, md1⟩ := midF_lt (lo := lo) (hi := hi) (by omega)
  obtain ⟨ra0, ra1⟩ := d2iF_36 (k := k) hn hn2 hds hl6 (show 0 ≤ midF lo hi by omega) md1 h3 (by omega)
  obtain ⟨rb0, rb1⟩ := d2iF_36 (k := k) hn hn2 hds hl6 h1 md0 (by omega) (by omega)
  dsimp only [midF] at md0 md1 ra0 ra1 rb0 rb1
  refine go_on ?_
  refine' IH _ _ _ _ ?q1 ?q2 ?q3 ?q7 _ _ _ _ _ _ _ _ _ _ _ _ _ _ _ _ _ ?c1r1 ?c1r2 ?c1r3 ?c1r4 ?c1r5 ?c1r0 ?c1r6 ?c1r7 ?c1r8
  case c1r1 => k_asm
  case c1r2 => k_asm
  case c1r3 => k_asm
  case c1r4 => k_asm
  case q1 => omega
  case q2 => exact md1
  case q3 => exact h3
  case q7 => omega
  case c1r5 => k_asm
  case c1r0 => first | exact rfl | assumption
  case c1r6 => ktr_room
  case c1r7 => ktr_units
  case c1r8 =>
  intro rc1 nwc1 hc1 tkc1 Fc1 Nc1 hOc1
  obtain ⟨t1, rfl, rfl⟩ := hOc1
  try dsimp only
  try k_fold
  k_steps
  refine go_on ?_
  refine' IH _ _ _ _ ?p1 ?p2 ?p3 ?p7 _ _ _ _ _ _ _ _ _ _ _ _ _ _ _ _ _ ?c2r1 ?c2r2 ?c2r3 ?c2r4 ?c2r5 ?c2r0 ?c2r6 ?c2r7 ?c2r8
  case c2r1 => k_asm
  case c2r2 => k_asm
  case c2r3 => k_asm
  case c2r4 => k_asm
  case p1 => exact h1
  case p2 => exact md0
  case p3 => omega
  case p7 => omega
  case c2r5 => k_asm
  case c2r0 => first | exact rfl | assumption
  case c2r6 => ktr_room
  case c2r7 => ktr_units
  case c2r8 =>
  intro rc2 nwc2 hc2 tkc2 Fc2 Nc2 hOc2
  obtain ⟨t2, rfl, rfl⟩ := hOc2
  try dsimp only
  try k_fold
  k_steps
  refine hret _ _ _ _ (by assumption) (by assumption) ⟨_, by (rw [d2iF, if_neg hne]), rfl⟩
end
theorem reset_ZCD : True := by
  k_with_none
  w_top off
  exact True.intro

-- ZCE
open PySem PySem.W PyProof.Rows PySem.Calls PySem.Spec
set_option Elab.async false
section
local macro_rules | `(tactic| k_room) => `(tactic| ktr_room)

set_option maxHeartbeats 4000000
theorem d2iF_more {n : Int} {ds : List Int} : ∀ (k k' : Nat) (lo hi : Int), lo < hi → (hi - lo).toNat ≤ k → (hi - lo).toNat ≤ k' → d2iF k n ds lo hi = d2iF k' n ds lo hi
  | 0, _, lo, hi, h0, h1, _ => by exfalso; omega
  | _, 0, lo, hi, h0, _, h2 => by exfalso; omega
  | k + 1, k' + 1, lo, hi, h0, h1, h2 => by
    unfold d2iF
    split
    · rfl
    · obtain ⟨m1, m2⟩ := midF_lt (lo := lo) (hi := hi) (by omega)
      rw [d2iF_more k k' (midF lo hi) hi m2 (by omega) (by omega), d2iF_more k k' lo (midF lo hi) m1 (by omega) (by omega)]
theorem d2iF_fuel {n : Int} {ds : List Int} (h1 : 1 ≤ ds.length) (h6 : ds.length ≤ 6) : d2iF 6 n ds 0 ds.length = d2iF ds.length n ds 0 ds.length := d2iF_more _ _ _ _ (by omega) (by omega) (by omega)
theorem d2i_con (w : World) (p : Program) (loose : List Str) (mean : ExcName → Option Value) (mg mb : Str → Option Value) (n : Int) (tn : Tok) (D : Addr) (nn : Nat) (vd : List Value) (ds : List Int) (rest rest0 : Led) (ps : Array Value) (h0 : ∀ p ∈ rest0, p ∈ rest)
    (ml : (D, W.listOf vd.toArray nn) ∈ rest) (hvd : IntsAre vd ds) (hl6 : ds.length ≤ 6) (hl1 : 1 ≤ ds.length) (hds : ∀ d ∈ ds, 0 ≤ d ∧ d < 64)
    (hn : 1 ≤ n) (hn2 : n ≤ 6) (hr : ∀ p ∈ rest, p.1 ≠ 37) (hps : TabSt 47 4 "_digits2int.<locals>.inner" ps rest0) :
    Con PySem.Challenge.rw_gb0004_02.row.prog w (Mine.hd.heap_39 w.params) p loose mean mg mb 42 [.ref D, .int n tn] ((37, tabObj ps) :: rest) 20 200
      (fun r news' => ∃ t tl ps', r = .int (d2iF ds.length n ds 0 ds.length) t ∧ news' = (37, tabObj ps') :: (tl ++ rest) ∧ TabSt 47 4 "_digits2int.<locals>.inner" ps' (tl ++ rest0) ∧
        (∀ q ∈ rest, ∀ p ∈ tl, @LT.lt Nat _ q.1 p.1) ∧ (∀ p ∈ tl, p.1 ≠ 37)) := by
  k_fill
  unfold Con
  intro dp un gd cn cs ca ccd cl outer A₀ base h₀ L m s Q E B F X N T hk hd hu hret
  have hMk : KstMark := kstMark
  have hlv : vd.length = ds.length := hvd.length
  refine wpAny_call ?_
  refine' code_defC ?k1 ?k2 ?k3 ?k4 ?k5 ?kA ?kF ?kK ?k6 ?k7 ?k8 ?k9 ?kB ?kD ?_ ?c2 ?c3 ?c4
  case kA => exact rfl
  case kF => exact rfl
  case kK => exact hk
  case k1 => exact B
  case k2 => exact F
  case k3 => exact X
  case k4 => exact N
  case k5 => exact T
  case k6 => k_is
  case k7 => k_is
  case k8 => ktr_room
  case k9 => first | exact BindsTo.of_eq rfl | exact binds_K (by k_in) rfl (by k_is) rfl rfl rfl
  case kB => exact rfl
  case kD => decide +kernel
  case c2 => exact rfl
  case c3 => exact rfl
  case c4 => exact rfl
  k_whole
  intro g' L' h1 tk1 cells1 FG1 F1 N1 Y1 B1 X1 T1 lt1
  k_cells Y1
  try simp only [List.cons_append, List.nil_append] at N1
  try dsimp only
  have hLo : Lo L' rest := fun p hp => lt1 p (.tail _ hp)
  k_lt lt1
  have CT : CodeHd g' 41 37 := codeHd_of_K X1 (by kernel_rfl)
  k_with "exec FunctionDef" => (
    k_dflt (refine' nestDef_K ?zd0 ?zk0 ?za0 ?_; (case zd0 => exact rfl); (case zk0 => exact rfl); (case za0 => exact rfl))
    k_dflt (refine' nest_any ?zF ?zN ?zT ?zC ?zcd ?zU hps ?zhs ?zcl ?_; (case zF => k_asm); (case zN => k_asm); (case zT => k_asm); (case zcd => exact rfl); (case zC => with_reducible assumption); (case zU => k_updF); (case zcl => exact rfl); (case zhs => (intro p9 h9; replace h9 := h0 _ h9; repeat (first | exact h9 | refine List.Mem.tail _ ?_))))
    k_whole
    intro fI cI oI vI tI ctI dI hI tkI FI NI dI1 dI2 ltI1 ltI2 hcI
    try dsimp only at NI
    k_lt ltI1
    rcases hcI with hcI | hcI <;> first | (have hcL : @LT.lt Nat _ cI L' := hLo _ (h0 _ hcI)) | k_lt hcI)
  have hemp : (!vd.toArray.isEmpty) = true := by
    cases vd with
    | nil => simp at hlv; omega
    | cons _ _ => rfl
  have hfit : ((vd.toArray.size : Nat) : Int) < 2 ^ 63 := by rw [List.size_toArray, hlv]; omega
  k_with "truthy ref" => (k_here; k_dflt ((with_reducible rename News _ _ _ _ => zNN); refine wpAny_truthy_list (PySem.IsL.isList (n := nn) (zNN (D, W.listOf vd.toArray nn) (by repeat (first | exact ml | refine List.Mem.tail _ ?_))).1) hfit ?_; rw [hemp]; k_whole))
  k_with "call builtin:len" => (k_here; k_dflt ((with_reducible rename News _ _ _ _ => zNN); refine len_list (PySem.IsL.isList (n := nn) (zNN (D, W.listOf vd.toArray nn) (by repeat (first | exact ml | refine List.Mem.tail _ ?_))).1) hfit ?_; rw [List.size_toArray, hlv]; k_whole))
  k_with "call ref" => (refine stop_here ?_)
  k_steps
  · (with_reducible rename News _ _ _ _ => nN)
    refine go_on ?_
    refine' inner2_con w p loose mean mg mb _ _ _ _ _ ?hinx _ _ _ _ _ _ _ _ _ _ _ _ _ _ _ _ _ n _ nn vd ds ?mfx ?mcx dI1 dI2 ?mIx ?hIx ?mNx ?hNx ?mDx ?hDx ?mlx hvd hl6 hds hn hn2 6 _ _ _ _ (Int.le_refl _) ?q2x (Int.le_refl _) ?q7x _ _ _ _ _ _ _ _ _ _ _ _ _ _ _ _ _ ?r1x ?r2x ?r3x ?r4x ?r5x ?r0x ?r6x ?r7x ?r8x
    case r4x => exact nN
    case mfx => exact .head _
    case mcx => exact .tail _ (.head _)
    case hinx => with_unfolding_all rfl
    case r1x => k_asm
    case r2x => k_asm
    case r3x => k_asm
    case r5x => k_asm
    case r0x => exact rfl
    case r6x => ktr_room
    case r7x => ktr_units
    case mIx => k_mem
    case hIx => first | with_reducible assumption | assumption | with_unfolding_all assumption
    case mNx => k_mem
    case hNx => first | with_reducible assumption | assumption | with_unfolding_all assumption
    case mDx => k_mem
    case hDx => first | with_reducible assumption | assumption | with_unfolding_all assumption
    case mlx => repeat (first | exact ml | refine List.Mem.tail _ ?_)
    case q2x => omega
    case q7x => omega
    case r8x =>
    intro r9 nw9 h9 tk9 F9 N9 hO9
    obtain ⟨t9, rfl, rfl⟩ := hO9
    try dsimp only
    try k_fold
    k_steps
    refine hret _ _ _ _ (by assumption) (news_sub (by assumption) ?sbx) ⟨t9, [(cI, oI)], #[rawInt ((47 : Nat) : Int), rawInt ((4 : Nat) : Int), .ref cI], ?w1x, rfl, ?w2x, ?w4x, ?w5x⟩
    case w1x => exact congrArg (fun x => Value.int x t9) (d2iF_fuel (by omega) (by omega))
    case w2x => exact .inr ⟨cI, oI, vI, tI, rfl, .head _, dI1, dI2⟩
    case w4x => (intro q9 h9 p9 g9; rcases List.mem_singleton.mp g9 with rfl; have := hLo q9 h9; show @LT.lt Nat _ q9.1 cI; omega)
    case w5x => (intro p9 g9; rcases List.mem_singleton.mp g9 with rfl; (refine neN ?_; dsimp only; omega))
    case sbx =>
      simp only [List.cons_append, List.nil_append]
      repeat (first | (refine List.forall_mem_cons.mpr ⟨by (repeat (first | exact List.Mem.head _ | refine List.Mem.tail _ ?_)), ?_⟩))
      intro p9 h9
      repeat (first | exact h9 | refine List.Mem.tail _ ?_)
  · (with_reducible rename News _ _ _ _ => nN)
    refine go_on ?_
    refine' inner2_con w p loose mean mg mb _ _ _ _ _ ?hiny _ _ _ _ _ _ _ _ _ _ _ _ _ _ _ _ _ n _ nn vd ds ?mfy ?mcy dI1 dI2 ?mIy ?hIy ?mNy ?hNy ?mDy ?hDy ?mly hvd hl6 hds hn hn2 6 _ _ _ _ (Int.le_refl _) ?q2y (Int.le_refl _) ?q7y _ _ _ _ _ _ _ _ _ _ _ _ _ _ _ _ _ ?r1y ?r2y ?r3y ?r4y ?r5y ?r0y ?r6y ?r7y ?r8y
    case r4y => exact nN
    case mfy => exact .head _
    case mcy => exact .tail _ (.head _)
    case hiny => with_unfolding_all rfl
    case r1y => k_asm
    case r2y => k_asm
    case r3y => k_asm
    case r5y => k_asm
    case r0y => exact rfl
    case r6y => ktr_room
    case r7y => ktr_units
    case mIy => k_mem
    case hIy => first | with_reducible assumption | assumption | with_unfolding_all assumption
    case mNy => k_mem
    case hNy => first | with_reducible assumption | assumption | with_unfolding_all assumption
    case mDy => k_mem
    case hDy => first | with_reducible assumption | assumption | with_unfolding_all assumption
    case mly => repeat (first | exact ml | refine List.Mem.tail _ ?_)
    case q2y => omega
    case q7y => omega
    case r8y =>
    intro r9 nw9 h9 tk9 F9 N9 hO9
    obtain ⟨t9, rfl, rfl⟩ := hO9
    try dsimp only
    try k_fold
    k_steps
    refine hret _ _ _ _ (by assumption) (news_sub (by assumption) ?sby) ⟨t9, [], #[rawInt ((47 : Nat) : Int), rawInt ((4 : Nat) : Int), .ref cI], ?w1y, rfl, ?w2y, ?w4y, ?w5y⟩
    case w1y => exact congrArg (fun x => Value.int x t9) (d2iF_fuel (by omega) (by omega))
    case w2y => exact .inr ⟨cI, oI, vI, tI, rfl, hcI, dI1, dI2⟩
    case w4y => (intro q9 h9 p9 g9; cases g9)
    case w5y => (intro p9 g9; cases g9)
    case sby =>
      simp only [List.cons_append, List.nil_append]
      repeat (first | (refine List.forall_mem_cons.mpr ⟨by (repeat (first | exact List.Mem.head _ | refine List.Mem.tail _ ?_)), ?_⟩))
      intro p9 h9
      repeat (first | exact h9 | refine List.Mem.tail _ ?_)
end
theorem reset_ZCE : True := by
  k_with_none
  w_top off
  exact True.intro

-- ZCF
open PySem PySem.W PyProof.Rows PySem.Calls PySem.Spec
set_option Elab.async false
section
local macro_rules | `(tactic| k_room) => `(tactic| ktr_room)

set_option maxHeartbeats 4000000
abbrev inQ1 : Str := Str.ofString "_int2digits.<locals>.inner"
abbrev inQ2 : Str := Str.ofString "_digits2int.<locals>.inner"
theorem v_bd {r d n : Int} (h0 : 0 ≤ r) (h1 : r < 42) (hd : 0 ≤ d ∧ d < 64) (hn : 0 ≤ n) (hn2 : n ≤ 6) : 0 ≤ r * 2 ^ n.toNat + d ∧ r * 2 ^ n.toNat + d < 1048576 := by
  have hp : (0 : Int) < 2 ^ n.toNat := pow_pos2 _
  have hp2 : (2 : Int) ^ n.toNat ≤ 64 := by
    have : (2 : Nat) ^ n.toNat ≤ 2 ^ 6 := Nat.pow_le_pow_right (by decide) (by omega)
    have h : (2 : Int) ^ n.toNat ≤ 2 ^ 6 := by exact_mod_cast this
    simpa using h
  have h3 : r * 2 ^ n.toNat ≤ 42 * 64 := Int.mul_le_mul (by omega) hp2 (by omega) (by decide)
  have h4 : 0 ≤ r * 2 ^ n.toNat := Int.mul_nonneg h0 (by omega)
  omega
theorem dmF_at {a b : Int} (ha : 0 < a) (ha2 : a < 42) (hb : 0 < b) (hb2 : b < 42) : dmF a b = (a / b, a % b) ∧ (∀ d ∈ i2dF a (dmBits b), 0 ≤ d ∧ d < 64) ∧ (∀ d ∈ (dmFold a b).2, 0 ≤ d ∧ d < 64) ∧ (dmFold a b).2.length = (i2dF a (dmBits b)).length ∧ 1 ≤ (i2dF a (dmBits b)).length ∧ (i2dF a (dmBits b)).length ≤ 6 := by
  obtain ⟨x, rfl⟩ := Int.eq_ofNat_of_zero_le (Int.le_of_lt ha)
  obtain ⟨y, rfl⟩ := Int.eq_ofNat_of_zero_le (Int.le_of_lt hb)
  have hx : 0 < x := by omega
  have hy : 0 < y := by omega
  exact dmF_small ⟨x, by omega⟩ ⟨y, by omega⟩ hx hy
theorem divmod_pos_con (w : World) (p : Program) (loose : List Str) (mean : ExcName → Option Value) (mg mb : Str → Option Value) (a b : Int) (ta tb : Tok) (rest rest0 : Led) (ps qs : Array Value) (h0 : ∀ p ∈ rest0, p ∈ rest)
    (ha : 0 < a) (ha2 : a < 42) (hb : 0 < b) (hb2 : b < 42) (hr : ∀ p ∈ rest, p.1 ≠ 30) (hr2 : ∀ p ∈ rest, p.1 ≠ 37) (hps : TabSt 32 4 inQ1 ps rest0) (hqs : TabSt 47 4 inQ2 qs rest0) :
    Con PySem.Challenge.rw_gb0004_02.row.prog w (Mine.hd.heap_39 w.params) p loose mean mg mb 49 [.int a ta, .int b tb] ((30, tabObj ps) :: (37, tabObj qs) :: rest) 30 300
      (fun r news' => ∃ D t1 t2 c tl ps' qs', r = .ref D ∧ news' = (D, tup2 (.int (a / b) t1) (.int (a % b) t2) c) :: (30, tabObj ps') :: (37, tabObj qs') :: (tl ++ rest) ∧
        TabSt 32 4 inQ1 ps' (tl ++ rest0) ∧ TabSt 47 4 inQ2 qs' (tl ++ rest0) ∧ Lo D (tl ++ rest) ∧ (∀ q ∈ rest, ∀ p ∈ tl, @LT.lt Nat _ q.1 p.1) ∧ (∀ p ∈ tl, p.1 ≠ 30 ∧ p.1 ≠ 37) ∧ @LT.lt Nat _ 30 D ∧ @LT.lt Nat _ 37 D) := by
  k_fill
  unfold Con
  intro dp un gd cn cs ca ccd cl outer A₀ base h₀ L m s Q E B F X N T hk hd hu hret
  have hbits := bits_bd (Int.le_of_lt hb) (by omega)
  have hbits1 := bits_pos hb (by omega)
  have hMk : KstMark := kstMark
  refine wpAny_call ?_
  refine' code_def ?k1 ?k2 ?k3 ?k4 ?k5 ?kA ?kF ?kK ?k6 ?k7 ?k8 ?k9 ?kB ?_ ?c2 ?c3 ?c4 ?c5
  case kA => exact rfl
  case kF => exact rfl
  case kK => exact hk
  case k1 => exact B
  case k2 => exact F
  case k3 => exact X
  case k4 => exact N
  case k5 => exact T
  case k6 => k_is
  case k7 => k_is
  case k8 => ktr_room
  case k9 => first | exact BindsTo.of_eq rfl | exact binds_K (by k_in) rfl (by k_is) rfl rfl rfl
  case c5 => decide
  case kB => exact locs rfl
  case c2 => exact rfl
  case c3 => exact rfl
  case c4 => exact rfl
  k_whole
  intro g' L' h1 FG1 F1 N1 B1 X1 T1
  try dsimp only
  k_with "newList" => (k_here; k_dflt (refine' newList_K ?zk1 ?zk2 ?_; (case zk1 => k_asm); (case zk2 => k_asm)); k_whole; intro lQ hQ FQ NQ ltQ)
  k_with "call type:reversed" => (k_here; k_dflt (refine' krv_reversed ?zk1 ?zk2 ?zk3 ?_; (case zk1 => k_asm); (case zk2 => k_asm); (case zk3 => is_list)); k_whole; intro lR hR FR NR ltR)
  k_with "call ref" => (refine stop_here ?_)
  k_with "exec For" => (refine stop_here ?_)
  k_with "pyIter ref" => (refine stop_here ?_)
  k_steps
  refine go_on ?_
  refine' i2d_con w p loose mean mg mb _ _ _ _ ((37, tabObj qs) :: rest) rest0 ps (fun _ h => .tail _ (h0 _ h)) ha (by omega) ?q1 ?q2 ?q3 hps _ _ _ _ _ _ _ _ _ _ _ _ _ _ _ _ _ ?c1r1 ?c1r2 ?c1r3 ?c1r4 ?c1r5 ?c1r0 ?c1r6 ?c1r7 ?c1r8
  case c1r1 => k_asm
  case c1r2 => k_asm
  case c1r3 => k_asm
  case c1r4 => k_asm
  case q1 => omega
  case q2 => omega
  case q3 => k_all
  case c1r5 => k_asm
  case c1r0 => first | exact rfl | assumption
  case c1r6 => ktr_room
  case c1r7 => ktr_units
  case c1r8 =>
  intro rc1 nwc1 hc1 tkc1 Fc1 Nc1 hOc1
  obtain ⟨D1, vd1, tl1, ps1, rfl, hvd1, rfl, hT1, hLoD1, hord1, hne1, hTD1, hneD1⟩ := hOc1
  try dsimp only
  try k_fold
  replace Nc1 := news_sub (l' := (D1, W.listOf vd1.toArray 0) :: (30, tabObj ps1) :: (37, tabObj qs) :: (tl1 ++ rest)) Nc1 (by
    intro p9 h9
    simp only [List.mem_cons, List.mem_append] at h9 ⊢
    rcases h9 with h | h | h | h | h <;> simp [h])
  k_steps
  refine go_on ?_
  (with_reducible rename Fr _ _ _ _ => lF)
  (with_reducible rename News _ _ _ _ => lN)
  have hLoR : Lo lR _ := ltR
  k_lt ltR
  have hLoQ : Lo lQ (tl1 ++ rest) := fun p hp => ltQ p (.tail _ (.tail _ (.tail _ hp)))
  k_lt ltQ
  have hdsz : vd1.length = (i2dF a (dmBits b)).length := hvd1.length
  have hAll := dmF_at ha ha2 hb hb2
  rw [show (vd1.length : Int) - 1 = ((vd1.toArray.size : Nat) : Int) - 1 by rw [List.size_toArray]] at lN
  refine' loop_revG (m₀ := ?m0) (fun i m nx => ∃ (vq : List Value) (tr : Tok) (c : Nat), IntsAre vq (((i2dF a (dmBits b)).reverse.take i).foldl (dmStep b (dmBits b)) (0, [])).2 ∧
      ((((i2dF a (dmBits b)).reverse.take i).foldl (dmStep b (dmBits b)) (0, [])).2.length ≤ i ∧ 0 ≤ (((i2dF a (dmBits b)).reverse.take i).foldl (dmStep b (dmBits b)) (0, [])).1 ∧ (((i2dF a (dmBits b)).reverse.take i).foldl (dmStep b (dmBits b)) (0, [])).1 < b) ∧
      m (Str.ofString "r") = some (.int (((i2dF a (dmBits b)).reverse.take i).foldl (dmStep b (dmBits b)) (0, [])).1 tr) ∧
      nx = (lQ, W.listOf vq.toArray c) :: (D1, W.listOf vd1.toArray 0) :: (30, tabObj ps1) :: (37, tabObj qs) :: (tl1 ++ rest) ∧ ∀ z : Str, z ≠ Str.ofString "a_digit" → z ≠ Str.ofString "r" → z ≠ Str.ofString "q_digit" → m z = ?m0 z) rfl ?hl lF lN ?hD ?hj ?hfix ?turn ?done
  case hl => exact .tail _ (.head _)
  case hD => exact hLoR
  case hj => exact ⟨[], _, _, .nil, ⟨Nat.le_refl _, Int.le_refl _, hb⟩, rfl, rfl, fun _ _ _ _ => rfl⟩
  case hfix => (rintro i m nx ⟨vq, tr, c, _, _, _, rfl, _⟩; exact .tail _ (.head _))
  case turn =>
    rintro i v m₁ nx h tk io hi hv ⟨vq, tr, c, hvq, hst, hr0, rfl, hm⟩ hne F₁ N₁
    obtain ⟨d, td, rfl, hd⟩ := ints_rev hvd1 hi hv
    have F₂ := kst_fr (ps := [(Str.ofString "r", Value.int (((i2dF a (dmBits b)).reverse.take i).foldl (dmStep b (dmBits b)) (0, [])).1 tr)]) (stored := [Str.ofString "q_digit"]) (by intro p hp; rw [List.mem_singleton.mp hp]; exact hr0) (fun z h1 h2 h3 => hm z h1 (h2 _ (List.mem_singleton.mpr rfl)) (by intro e; rw [e] at h3; exact absurd h3 (by decide))) F₁
    have hs : ((i2dF a (dmBits b)).reverse.take (i + 1)).foldl (dmStep b (dmBits b)) (0, []) = dmStep b (dmBits b) (((i2dF a (dmBits b)).reverse.take i).foldl (dmStep b (dmBits b)) (0, [])) d := by
      have hd' : (i2dF a (dmBits b)).reverse[i]? = some d := hd
      rw [List.take_add_one, hd']; simp
    have hd2 : 0 ≤ d ∧ d < 64 := hAll.2.1 d (by
      have := List.mem_of_getElem? hd
      exact List.mem_reverse.mp this)
    clear F₁ hr0 hm
    rw [hs]
    generalize ((i2dF a (dmBits b)).reverse.take i).foldl (dmStep b (dmBits b)) (0, []) = st at *
    have hi6 : i < 6 := by have := hAll.2.2.2.2.2; rw [List.size_toArray] at hi; omega
    have hvqs : vq.toArray.size ≤ sizeLine := by rw [List.size_toArray, hvq.length, sizeLine_eq]; omega
    clear hd hs hv hi
    have hv := v_bd (n := (Builtin.Int.intBits b : Int)) hst.2.1 (by omega) hd2 (by omega) (by omega)
    k_steps
    refine go_on ?_
    refine' div2n1n_con w p loose mean mg mb _ _ _ _ _ _ _ ?a0 ?a1 hb (by omega) ?n0 ?n1 _ _ _ _ _ _ _ _ _ _ _ _ _ _ _ _ _ ?d1r1 ?d1r2 ?d1r3 ?d1r4 ?d1r5 ?d1r0 ?d1r6 ?d1r7 ?d1r8
    case d1r1 => k_asm
    case d1r2 => k_asm
    case d1r3 => k_asm
    case d1r4 => k_asm
    case a0 => exact hv.1
    case a1 => exact hv.2
    case n0 => omega
    case n1 => omega
    case d1r5 => k_asm
    case d1r0 => first | exact rfl | assumption
    case d1r6 => ktr_room
    case d1r7 => ktr_units
    case d1r8 =>
    intro rd1 nwd1 hd1 tkd1 Fd1 Nd1 hOd1
    obtain ⟨Dd, td1, td2, cd1, rfl, rfl, hLod⟩ := hOd1
    try dsimp only
    try k_fold
    k_lt hLod
    k_with "call builtin:list.append" => (k_here; k_dflt (refine' append_K ?zk1 ?zk2 ?zk3 ?_ ?zz; (case zk1 => k_asm); (case zk2 => k_asm); (case zk3 => k_upd); (case zz => assumption)); k_whole; intro hA FA NA)
    k_steps
    dsimp only [GPost]
    (with_reducible rename Fr _ _ _ _ => eF)
    (with_reducible rename News _ _ _ _ => eN)
    simp only [List.push_toArray] at eN
    refine GEnd.intro eF (news_sub (l' := (lR, io) :: (lQ, W.listOf (vq ++ [Value.int ((st.1 * 2 ^ (dmBits b).toNat + d) / b) td1]).toArray (c + 1)) :: (D1, W.listOf vd1.toArray 0) :: (30, tabObj ps1) :: (37, tabObj qs) :: (tl1 ++ rest)) eN (fun p9 h9 => .tail _ h9)) ?e1 ⟨_, td2, c + 1, ?e2, ⟨?e3, Int.emod_nonneg _ (by omega), Int.emod_lt_of_pos _ hb⟩, rfl, rfl, ?e4⟩
    case e1 => (intro p hp; rcases List.mem_cons.mp hp with rfl | hp; exact Nat.ne_of_lt (hLoR (lQ, W.listOf #[] 0) (.head _)); exact hne p (.tail _ hp))
    case e2 => exact PyProof.Rows.IntsAre.append hvq (.cons _ _ .nil)
    case e3 => (show (st.2 ++ [_]).length ≤ i + 1; rw [List.length_append, List.length_singleton]; omega)
    case e4 => (intro z h1 h2 h3; simp [h1, h2, h3, kstB])
  case done =>
    rintro m₁ nx h tk ⟨vq, tr, c, hvq, hst, hr0, rfl, hm⟩ F₁ N₁
    have hfull : (i2dF a (dmBits b)).reverse.take vd1.toArray.size = (i2dF a (dmBits b)).reverse := List.take_of_length_le (by rw [List.length_reverse, List.size_toArray]; omega)
    rw [hfull] at hvq hst hr0
    have F₂ := kst_frOut (ps := [(Str.ofString "r", Value.int (dmFold a b).1 tr)]) (stored := [Str.ofString "q_digit"]) (by intro p hp; rw [List.mem_singleton.mp hp]; exact hr0) (fun z h1 h2 h3 => hm z h1 (h2 _ (List.mem_singleton.mpr rfl)) (by intro e; rw [e] at h3; exact absurd h3 (by decide))) F₁
    clear F₁ hr0 hm hfull
    change IntsAre vq (dmFold a b).2 at hvq
    have hvr := ints_reverse hvq
    have hvl : vq.length = (dmFold a b).2.length := hvq.length
    have hz : vq.toArray.toList.length ≤ sizeLine := by (show vq.length ≤ _); rw [sizeLine_eq, hvl, hAll.2.2.2.1]; have := hAll.2.2.2.2.2; omega
    k_with "call builtin:list.reverse" => (k_here; k_dflt (refine' kl_reverse (l := vq.reverse) ?zk1 ?zk2 ?zke ?zk3 hz ?_; (case zk1 => k_asm); (case zk2 => k_asm); (case zke => simp); (case zk3 => k_upd)); k_whole; intro hV FV NV)
    try dsimp only
    have hneTD : ∀ p ∈ tl1 ++ rest, p.1 ≠ 37 := fun p hp => by
      rcases List.mem_append.mp hp with h | h
      · exact Nat.ne_of_gt (hord1 _ (.head _) p h)
      · exact hr2 p h
    have hD1TD : @LT.lt Nat _ 37 D1 := hLoD1 _ (.head _)
    k_steps
    (with_reducible rename News _ _ _ _ => nN)
    replace nN := news_sub (l' := (37, tabObj qs) :: (lQ, W.listOf vq.reverse.toArray c) :: (D1, W.listOf vd1.toArray 0) :: (30, tabObj ps1) :: (tl1 ++ rest)) nN (by
      intro p9 h9
      simp only [List.mem_cons, List.mem_append] at h9 ⊢
      rcases h9 with h | h | h | h | h | h <;> simp [h])
    refine go_on ?_
    refine' d2i_con w p loose mean mg mb _ _ lQ c vq.reverse (dmFold a b).2.reverse ((lQ, W.listOf vq.reverse.toArray c) :: (D1, W.listOf vd1.toArray 0) :: (30, tabObj ps1) :: (tl1 ++ rest)) (tl1 ++ rest0) qs (fun p h => .tail _ (.tail _ (.tail _ ((List.mem_append.mp h).elim (fun h => List.mem_append_left _ h) (fun h => List.mem_append_right _ (h0 _ h)))))) (.head _) hvr ?s1 ?s2 ?s3 ?s4 ?s5 ?s6 (hqs.mono (fun _ h => List.mem_append_right _ h)) _ _ _ _ _ _ _ _ _ _ _ _ _ _ _ _ _ ?e1r1 ?e1r2 ?e1r3 ?e1r4 ?e1r5 ?e1r0 ?e1r6 ?e1r7 ?e1r8
    case e1r1 => k_asm
    case e1r2 => k_asm
    case e1r3 => k_asm
    case e1r4 => exact nN
    case s1 => rw [List.length_reverse, hAll.2.2.2.1]; exact hAll.2.2.2.2.2
    case s2 => rw [List.length_reverse, hAll.2.2.2.1]; exact hAll.2.2.2.2.1
    case s3 => exact fun d hd => hAll.2.2.1 d (List.mem_reverse.mp hd)
    case s4 => omega
    case s5 => omega
    case s6 => k_all
    case e1r5 => k_asm
    case e1r0 => first | exact rfl | assumption
    case e1r6 => ktr_room
    case e1r7 => ktr_units
    case e1r8 =>
    intro re1 nwe1 he1 tke1 Fe1 Ne1 hOe1
    obtain ⟨t9, tl2, qs2, rfl, rfl, hT2, hord2, hne2⟩ := hOe1
    try dsimp only
    try k_fold
    k_with "newTuple" => (k_here; k_dflt (refine' newTuple_N ?zk1 ?zk2 ?_ ?zk3; (case zk1 => k_asm); (case zk2 => k_asm); (case zk3 => size_fits)); k_whole; intro hU FU NU)
    k_steps
    (with_reducible rename News _ _ _ ((37, tabObj qs2) :: _) => nM)
    (with_reducible rename News _ _ _ _ => nE)
    have hLoF := Lo.of nM
    have e1 : d2iF (dmFold a b).2.reverse.length (dmBits b) (dmFold a b).2.reverse 0 (dmFold a b).2.reverse.length = a / b := by
      rw [List.length_reverse]; exact congrArg Prod.fst hAll.1
    have e2 : (dmFold a b).1 = a % b := congrArg Prod.snd hAll.1
    refine hret _ _ _ _ (by assumption) (news_sub nE ?w0) ⟨_, t9, tr, 0, tl2 ++ tl1, ps1, qs2, rfl, rfl, ?w1, ?w2, ?w3, ?w4, ?w5, ?w6, ?w7⟩
    case w0 =>
      rw [← e1, ← e2]
      intro p9 h9
      simp only [List.mem_cons, List.mem_append] at h9 ⊢
      rcases h9 with h | h | h | (h | h) | h <;> first | exact .inl h | simp [h]
    case w1 => exact hT1.mono (fun p h => by rw [List.append_assoc]; exact List.mem_append_right _ h)
    case w2 => rw [List.append_assoc]; exact hT2
    case w3 => (intro p h; refine hLoF p ?_; simp only [List.mem_cons, List.mem_append] at h ⊢; rcases h with (h | h) | h <;> simp [h])
    case w4 =>
      intro q hq p hp
      rcases List.mem_append.mp hp with h | h
      · exact hord2 q (.tail _ (.tail _ (.tail _ (List.mem_append_right _ hq)))) p h
      · exact hord1 q (.tail _ hq) p h
    case w5 =>
      intro p hp
      rcases List.mem_append.mp hp with h | h
      · exact ⟨Nat.ne_of_gt (hord2 (30, tabObj ps1) (.tail _ (.tail _ (.head _))) p h), hne2 p h⟩
      · exact ⟨hne1 p h, Nat.ne_of_gt (hord1 _ (.head _) p h)⟩
    case w6 => exact hLoF (30, tabObj ps1) (by simp)
    case w7 => exact hLoF (37, tabObj qs2) (.head _)
end
theorem reset_ZCF : True := by
  k_with_none
  w_top off
  exact True.intro

-- ZCG
open PySem PySem.W PyProof.Rows PySem.Calls PySem.Spec
set_option Elab.async false
section
local macro_rules | `(tactic| k_room) => `(tactic| ktr_room)

set_option maxHeartbeats 4000000
theorem int_divmod_con (w : World) (p : Program) (loose : List Str) (mean : ExcName → Option Value) (mg mb : Str → Option Value) (a b : Int) (ta tb : Tok) (rest rest0 : Led) (ps qs : Array Value) (h0 : ∀ p ∈ rest0, p ∈ rest)
    (ha : 0 < a) (ha2 : a < 42) (hb : 0 < b) (hb2 : b < 42) (hr : ∀ p ∈ rest, p.1 ≠ 30) (hr2 : ∀ p ∈ rest, p.1 ≠ 37) (hps : TabSt 32 4 inQ1 ps rest0) (hqs : TabSt 47 4 inQ2 qs rest0) :
    Con PySem.Challenge.rw_gb0004_02.row.prog w (Mine.hd.heap_39 w.params) p loose mean mg mb 56 [.int a ta, .int b tb] ((30, tabObj ps) :: (37, tabObj qs) :: rest) 40 400
      (fun r news' => ∃ D t1 t2 c tl ps' qs', r = .ref D ∧ news' = (D, tup2 (.int (a / b) t1) (.int (a % b) t2) c) :: (30, tabObj ps') :: (37, tabObj qs') :: (tl ++ rest) ∧
        TabSt 32 4 inQ1 ps' (tl ++ rest0) ∧ TabSt 47 4 inQ2 qs' (tl ++ rest0) ∧ Lo D (tl ++ rest) ∧ (∀ q ∈ rest, ∀ p ∈ tl, @LT.lt Nat _ q.1 p.1) ∧ (∀ p ∈ tl, p.1 ≠ 30 ∧ p.1 ≠ 37) ∧ @LT.lt Nat _ 30 D ∧ @LT.lt Nat _ 37 D) := by
  k_fill
  unfold Con
  intro dp un gd cn cs ca ccd cl outer A₀ base h₀ L m s Q E B F X N T hk hd hu hret
  have hMk : KstMark := kstMark
  refine wpAny_call ?_
  refine' code_def ?k1 ?k2 ?k3 ?k4 ?k5 ?kA ?kF ?kK ?k6 ?k7 ?k8 ?k9 ?kB ?_ ?c2 ?c3 ?c4 ?c5
  case kA => exact rfl
  case kF => exact rfl
  case kK => exact hk
  case k1 => exact B
  case k2 => exact F
  case k3 => exact X
  case k4 => exact N
  case k5 => exact T
  case k6 => k_is
  case k7 => k_is
  case k8 => ktr_room
  case k9 => first | exact BindsTo.of_eq rfl | exact binds_K (by k_in) rfl (by k_is) rfl rfl rfl
  case c5 => decide
  case kB => exact locs rfl
  case c2 => exact rfl
  case c3 => exact rfl
  case c4 => exact rfl
  k_whole
  intro g' L' h1 FG1 F1 N1 B1 X1 T1
  try dsimp only
  k_with "call ref" => (refine stop_here ?_)
  k_steps
  all_goals (try (exfalso; omega))
  refine go_on ?_
  refine' divmod_pos_con w p loose mean mg mb _ _ _ _ rest rest0 ps qs h0 ha ha2 hb hb2 hr hr2 hps hqs _ _ _ _ _ _ _ _ _ _ _ _ _ _ _ _ _ ?c1r1 ?c1r2 ?c1r3 ?c1r4 ?c1r5 ?c1r0 ?c1r6 ?c1r7 ?c1r8
  case c1r1 => k_asm
  case c1r2 => k_asm
  case c1r3 => k_asm
  case c1r4 => k_asm
  case c1r5 => k_asm
  case c1r0 => first | exact rfl | assumption
  case c1r6 => ktr_room
  case c1r7 => ktr_units
  case c1r8 =>
  intro rc1 nwc1 hc1 tkc1 Fc1 Nc1 hOc1
  obtain ⟨Dt, t1, t2, c9, tl, ps1, qs1, rfl, rfl, hT1, hT2, hL, ho, hn, hti, htd⟩ := hOc1
  try dsimp only
  try k_fold
  k_steps
  exact hret _ _ _ _ (by assumption) (by assumption) ⟨_, _, _, _, _, _, _, rfl, rfl, hT1, hT2, hL, ho, hn, hti, htd⟩
end
theorem reset_ZCG : True := by
  k_with_none
  w_top off
  exact True.intro

-- ZCB
open PySem PySem.W PyProof.Rows PySem.Calls PySem.Spec
set_option Elab.async false
section
local macro_rules | `(tactic| k_room) => `(tactic| ktr_room)

set_option maxHeartbeats 4000000
/-- what bisect_left's loop gives -/
def bisG : Nat → (Int → Bool) → Int → Int → Int
  | 0, _, lo, _ => lo
  | k + 1, f, lo, hi => if lo < hi then (if f ((lo + hi).fdiv 2) then bisG k f ((lo + hi).fdiv 2 + 1) hi else bisG k f lo ((lo + hi).fdiv 2)) else lo
theorem mid_bd {lo hi : Int} (h : lo < hi) : lo ≤ (lo + hi).fdiv 2 ∧ (lo + hi).fdiv 2 < hi := by
  rw [Int.fdiv_eq_ediv_of_nonneg _ (by decide)]; omega
theorem bisG_fuel : ∀ (k k' : Nat) (f : Int → Bool) (lo hi : Int), (hi - lo).toNat ≤ k → (hi - lo).toNat ≤ k' → bisG k f lo hi = bisG k' f lo hi
  | 0, 0, _, _, _, _, _ => rfl
  | 0, k' + 1, f, lo, hi, h, _ => by unfold bisG; rw [if_neg (by omega)]
  | k + 1, 0, f, lo, hi, _, h => by unfold bisG; rw [if_neg (by omega)]
  | k + 1, k' + 1, f, lo, hi, h1, h2 => by
    unfold bisG
    split
    · rename_i hp
      obtain ⟨m1, m2⟩ := mid_bd hp
      rw [bisG_fuel k k' f _ hi (by omega) (by omega), bisG_fuel k k' f lo _ (by omega) (by omega)]
    · rfl
def bis (f : Int → Bool) (lo hi : Int) : Int := bisG (hi - lo).toNat f lo hi
theorem bis_step {f : Int → Bool} {lo hi : Int} (h : lo < hi) : bis f lo hi = if f ((lo + hi).fdiv 2) then bis f ((lo + hi).fdiv 2 + 1) hi else bis f lo ((lo + hi).fdiv 2) := by
  obtain ⟨m1, m2⟩ := mid_bd h
  unfold bis
  obtain ⟨k, hk⟩ : ∃ k, (hi - lo).toNat = k + 1 := ⟨(hi - lo).toNat - 1, by omega⟩
  rw [hk, bisG, if_pos h, bisG_fuel k _ f _ hi (by omega) (Nat.le_refl _), bisG_fuel k _ f lo _ (by omega) (Nat.le_refl _)]
theorem bis_end {f : Int → Bool} {lo hi : Int} (h : ¬ lo < hi) : bis f lo hi = lo := by
  unfold bis
  have : (hi - lo).toNat = 0 := by omega
  rw [this]; rfl
def bisI (ns : List Int) (x : Int) : Int := bis (fun i => decide (ns.getD i.toNat 0 < x)) 0 ns.length
theorem bisect_int_con (w : World) (p : Program) (loose : List Str) (mean : ExcName → Option Value) (mg mb : Str → Option Value) (x : Int) (tx : Tok) (l : Addr) (nn : Nat) (vd : List Value) (ns : List Int) (news : Led)
    (ml : (l, W.listOf vd.toArray nn) ∈ news) (hvd : IntsAre vd ns) (hl : ns.length < 1048576) :
    Con PySem.Challenge.rw_gb0004_02.row.prog w (Mine.hd.heap_39 w.params) p loose mean mg mb 74 [.ref l, .int x tx] news 20 200
      (fun r news' => ∃ t, r = .int (bisI ns x) t ∧ news' = news) := by
  k_fill
  unfold Con
  intro dp un gd cn cs ca ccd cl outer A₀ base h₀ L m s Q E B F X N T hk hd hu hret
  have hMk : KstMark := kstMark
  have hlv : vd.length = ns.length := hvd.length
  have hfit : ((vd.toArray.size : Nat) : Int) < 2 ^ 63 := by rw [List.size_toArray, hlv]; omega
  refine wpAny_call ?_
  refine' code_def ?k1 ?k2 ?k3 ?k4 ?k5 ?kA ?kF ?kK ?k6 ?k7 ?k8 ?k9 ?kB ?_ ?c2 ?c3 ?c4 ?c5
  case kA => exact rfl
  case kF => exact rfl
  case kK => exact hk
  case k1 => exact B
  case k2 => exact F
  case k3 => exact X
  case k4 => exact N
  case k5 => exact T
  case k6 => k_is
  case k7 => k_is
  case k8 => ktr_room
  case k9 => first | exact BindsTo.of_eq rfl | exact binds_K (by k_in) rfl (by k_is) rfl rfl rfl | (refine' kp_binds ?kx ?ke; (case kx => k_in); (case ke => exact fun _ => rfl))
  case c5 => decide
  case kB => exact locs rfl
  case c2 => exact rfl
  case c3 => exact rfl
  case c4 => exact rfl
  k_whole
  intro g' L' h1 FG1 F1 N1 B1 X1 T1
  try dsimp only
  k_with "call builtin:len" => (k_here; k_dflt ((with_reducible rename News _ _ _ _ => zNN); refine len_list (PySem.IsL.isList (n := nn) (zNN (l, W.listOf vd.toArray nn) ml).1) hfit ?_; rw [List.size_toArray, hlv]; k_whole))
  k_with "call ref" => (refine stop_here ?_)
  k_with "exec While" => (refine stop_here ?_)
  k_steps
  refine go_on ?_
  (with_reducible rename Fr _ _ _ _ => lF)
  (with_reducible rename News _ _ _ _ => lN)
  refine' While_inv2 (m := ?m0) (fun k m nx => ∃ (lo hi : Int) (t1 t2 : Tok), k = (hi - lo).toNat ∧ 0 ≤ lo ∧ lo ≤ hi ∧ hi ≤ ns.length ∧ bis (fun i => decide (ns.getD i.toNat 0 < x)) lo hi = bisI ns x ∧
      nx = news ∧ m (Str.ofString "lo") = some (.int lo t1) ∧ m (Str.ofString "hi") = some (.int hi t2) ∧ ∀ z : Str, z ≠ Str.ofString "lo" → z ≠ Str.ofString "hi" → z ≠ Str.ofString "mid" → m z = ?m0 z) lF lN ?hj ?turn ?hE
  case hj => exact ⟨0, ns.length, _, _, rfl, Int.le_refl _, by omega, Int.le_refl _, rfl, rfl, rfl, rfl, fun _ _ _ _ => rfl⟩
  case hE => passes_own
  case turn =>
    rintro k m₁ nx h tk F₁ N₁ ⟨lo, hi, t1, t2, rfl, hl0, hlh, hhl, hb, rfl, hm1, hm2, hm⟩
    have F₂ := ksw_fr (ps := [(Str.ofString "lo", Value.int lo t1), (Str.ofString "hi", Value.int hi t2)]) (stored := [Str.ofString "mid"]) (by intro p hp; rcases List.mem_cons.mp hp with rfl | hp; exact hm1; rw [List.mem_singleton.mp hp]; exact hm2) (fun z h1 h2 => hm z (h1 _ (.head _)) (h1 _ (.tail _ (.head _))) (by intro e; rw [e] at h2; exact absurd h2 (by decide))) F₁
    clear F₁ hm1 hm2 hm
    have hmid : lo < hi → lo ≤ (lo + hi).fdiv 2 ∧ (lo + hi).fdiv 2 < hi := mid_bd
    k_with "subscriptTail" => (k_here; k_dflt (refine' ksa_sub ?zk1 ml hvd ?zk2 ?zk3 ?zk4 ?_ ?zk7; (case zk1 => k_asm); (case zk2 => omega); (case zk3 => omega); (case zk4 => omega); (case zk7 => with_unfolding_all rfl); k_whole; intro t9))
    k_steps
    · (with_reducible rename Fr _ _ _ _ => eF)
      (with_reducible rename News _ _ _ _ => eN)
      have hlt : lo < hi := by omega
      obtain ⟨m1, m2⟩ := hmid hlt
      refine ⟨_, _, _, nx, (hi - ((lo + hi).fdiv 2 + 1)).toNat, rfl, eF, eN, by omega, (lo + hi).fdiv 2 + 1, hi, _, _, rfl, by omega, by omega, hhl, ?_, rfl, rfl, rfl, ?_⟩
      · rw [← hb, bis_step hlt, if_pos (decide_eq_true (by assumption))]
      · (intro z h1 h2 h3; simp [h1, h2, h3, kstB])
    · (with_reducible rename Fr _ _ _ _ => eF)
      (with_reducible rename News _ _ _ _ => eN)
      have hlt : lo < hi := by omega
      obtain ⟨m1, m2⟩ := hmid hlt
      refine ⟨_, _, _, nx, ((lo + hi).fdiv 2 - lo).toNat, rfl, eF, eN, by omega, lo, (lo + hi).fdiv 2, _, _, rfl, hl0, m1, by omega, ?_, rfl, rfl, rfl, ?_⟩
      · rw [← hb, bis_step hlt, if_neg (by rw [decide_eq_true_eq]; omega)]
      · (intro z h1 h2 h3; simp [h1, h2, h3, kstB])
    · refine hret _ _ _ _ (by assumption) (by assumption) ⟨t1, by rw [← hb, bis_end (by omega)], rfl⟩
end
theorem reset_ZCB : True := by
  k_with_none
  w_top off
  exact True.intro

-- ZCBT
open PySem PySem.W PyProof.Rows PySem.Calls PySem.Spec
set_option Elab.async false
section
local macro_rules | `(tactic| k_room) => `(tactic| ktr_room)

set_option maxHeartbeats 4000000
def bisT (ns : List (List Int)) (x : List Int) : Int := bis (fun i => lexLt (ns.getD i.toNat []) x) 0 ns.length
theorem bisect_tup_con (w : World) (p : Program) (loose : List Str) (mean : ExcName → Option Value) (mg mb : Str → Option Value) (x : Addr) (ux : List Value) (xv : List Int) (cx : Nat) (l : Addr) (nn : Nat) (vd : List Value) (ns : List (List Int)) (news : Led)
    (ml : (l, W.listOf vd.toArray nn) ∈ news) (hvd : TupsAre news vd ns) (hl : ns.length < 1048576) (t0 : Tok) (mx : (x, tupO ux cx) ∈ news) (hux : IntsAre ux xv) :
    Con PySem.Challenge.rw_gb0004_02.row.prog w (Mine.hd.heap_39 w.params) p loose mean mg mb 74 [.ref l, .ref x, .int 0 t0, .none] news 20 200
      (fun r news' => ∃ t, r = .int (bisT ns xv) t ∧ news' = news) := by
  k_fill
  unfold Con
  intro dp un gd cn cs ca ccd cl outer A₀ base h₀ L m s Q E B F X N T hk hd hu hret
  have hMk : KstMark := kstMark
  have hlv : vd.length = ns.length := hvd.length
  have hfit : ((vd.toArray.size : Nat) : Int) < 2 ^ 63 := by rw [List.size_toArray, hlv]; omega
  refine wpAny_call ?_
  refine' code_def ?k1 ?k2 ?k3 ?k4 ?k5 ?kA ?kF ?kK ?k6 ?k7 ?k8 ?k9 ?kB ?_ ?c2 ?c3 ?c4 ?c5
  case kA => exact rfl
  case kF => exact rfl
  case kK => exact hk
  case k1 => exact B
  case k2 => exact F
  case k3 => exact X
  case k4 => exact N
  case k5 => exact T
  case k6 => k_is
  case k7 => k_is
  case k8 => ktr_room
  case k9 => first | exact BindsTo.of_eq rfl | exact binds_K (by k_in) rfl (by k_is) rfl rfl rfl | (refine' kp_binds ?kx ?ke; (case kx => k_in); (case ke => exact fun _ => rfl))
  case c5 => decide
  case kB => exact locs rfl
  case c2 => exact rfl
  case c3 => exact rfl
  case c4 => exact rfl
  k_whole
  intro g' L' h1 FG1 F1 N1 B1 X1 T1
  try dsimp only
  k_with "call builtin:len" => (k_here; k_dflt ((with_reducible rename News _ _ _ _ => zNN); refine len_list (PySem.IsL.isList (n := nn) (zNN (l, W.listOf vd.toArray nn) ml).1) hfit ?_; rw [List.size_toArray, hlv]; k_whole))
  k_with "call ref" => (refine stop_here ?_)
  k_with "exec While" => (refine stop_here ?_)
  k_steps
  refine go_on ?_
  (with_reducible rename Fr _ _ _ _ => lF)
  (with_reducible rename News _ _ _ _ => lN)
  refine' While_inv2 (m := ?m0) (fun k m nx => ∃ (lo hi : Int) (t1 t2 : Tok), k = (hi - lo).toNat ∧ 0 ≤ lo ∧ lo ≤ hi ∧ hi ≤ ns.length ∧ bis (fun i => lexLt (ns.getD i.toNat []) xv) lo hi = bisT ns xv ∧
      nx = news ∧ m (Str.ofString "lo") = some (.int lo t1) ∧ m (Str.ofString "hi") = some (.int hi t2) ∧ ∀ z : Str, z ≠ Str.ofString "lo" → z ≠ Str.ofString "hi" → z ≠ Str.ofString "mid" → m z = ?m0 z) lF lN ?hj ?turn ?hE
  case hj => exact ⟨0, ns.length, _, _, rfl, Int.le_refl _, by omega, Int.le_refl _, rfl, rfl, rfl, rfl, fun _ _ _ _ => rfl⟩
  case hE => passes_own
  case turn =>
    rintro k m₁ nx h tk F₁ N₁ ⟨lo, hi, t1, t2, rfl, hl0, hlh, hhl, hb, rfl, hm1, hm2, hm⟩
    have F₂ := ksw_fr (ps := [(Str.ofString "lo", Value.int lo t1), (Str.ofString "hi", Value.int hi t2)]) (stored := [Str.ofString "mid"]) (by intro p hp; rcases List.mem_cons.mp hp with rfl | hp; exact hm1; rw [List.mem_singleton.mp hp]; exact hm2) (fun z h1 h2 => hm z (h1 _ (.head _)) (h1 _ (.tail _ (.head _))) (by intro e; rw [e] at h2; exact absurd h2 (by decide))) F₁
    clear F₁ hm1 hm2 hm
    have hmid : lo < hi → lo ≤ (lo + hi).fdiv 2 ∧ (lo + hi).fdiv 2 < hi := mid_bd
    k_with "subscriptTail" => (k_here; k_dflt (
      (have hlt9 : lo < hi := by omega)
      (obtain ⟨n1, n2⟩ := hmid hlt9)
      (obtain ⟨aT, uT, cT, hv9, hm9, hi9⟩ := hvd.get (i := ((lo + hi).fdiv 2).toNat) (by omega))
      (with_reducible rename News _ _ _ _ => zNN)
      (refine' list_item (PySem.IsL.isList (n := nn) (zNN (l, W.listOf vd.toArray nn) ml).1) ?zk2 ?zk4 hv9 ?_ ?zk7)
      (case zk2 => omega)
      (case zk4 => omega)
      (case zk7 => with_unfolding_all rfl)
      k_whole))
    k_with "compareOp Lt ref ref" => (k_here; k_dflt (
      (with_reducible rename News _ _ _ _ => zNN)
      (with_reducible rename (_, tupO _ _) ∈ _ => zMM)
      (with_reducible rename IntsAre _ (List.getD _ _ _) => zII)
      (refine' tuple_lt (zNN _ zMM).1 (zNN _ mx).1 zII hux ?zku ?_)
      (case zku => show _ < cLine; (try simp only [units_deeper, units_in1] at *); have := cLine_is; (try dsimp only [ktrTop] at *); omega)
      k_whole))
    k_steps
    · (with_reducible rename Fr _ _ _ _ => eF)
      (with_reducible rename News _ _ _ _ => eN)
      have hlt : lo < hi := by omega
      obtain ⟨m1, m2⟩ := hmid hlt
      refine ⟨_, _, _, nx, (hi - ((lo + hi).fdiv 2 + 1)).toNat, rfl, eF, eN, by omega, (lo + hi).fdiv 2 + 1, hi, _, _, rfl, by omega, by omega, hhl, ?_, rfl, rfl, rfl, ?_⟩
      · rw [← hb, bis_step hlt, if_pos (by assumption)]
      · (intro z h1 h2 h3; simp [h1, h2, h3, kstB])
    · (with_reducible rename Fr _ _ _ _ => eF)
      (with_reducible rename News _ _ _ _ => eN)
      have hlt : lo < hi := by omega
      obtain ⟨m1, m2⟩ := hmid hlt
      refine ⟨_, _, _, nx, ((lo + hi).fdiv 2 - lo).toNat, rfl, eF, eN, by omega, lo, (lo + hi).fdiv 2, _, _, rfl, hl0, m1, by omega, ?_, rfl, rfl, rfl, ?_⟩
      · rw [← hb, bis_step hlt, if_neg (by first | assumption | (rename _ = false => h9; rw [h9]; decide))]
      · (intro z h1 h2 h3; simp [h1, h2, h3, kstB])
    · refine hret _ _ _ _ (by assumption) (by assumption) ⟨t1, by rw [← hb, bis_end (by omega)], rfl⟩
end
theorem reset_ZCBT : True := by
  k_with_none
  w_top off
  exact True.intro

-- ZCS
open PySem PySem.W PyProof.Rows PySem.Calls PySem.Spec
set_option Elab.async false
section
local macro_rules | `(tactic| k_room) => `(tactic| ktr_room)

set_option maxHeartbeats 4000000
theorem bis_bd {f : Int → Bool} : ∀ (k : Nat) (lo hi : Int), lo ≤ hi → lo ≤ bisG k f lo hi ∧ bisG k f lo hi ≤ hi
  | 0, lo, hi, h => ⟨Int.le_refl _, h⟩
  | k + 1, lo, hi, h => by
    unfold bisG
    split
    · rename_i hp
      obtain ⟨m1, m2⟩ := mid_bd hp
      split
      · have := bis_bd (f := f) k ((lo + hi).fdiv 2 + 1) hi (by omega); omega
      · have := bis_bd (f := f) k lo ((lo + hi).fdiv 2) (by omega); omega
    · omega
theorem bisT_bd (ns : List (List Int)) (x : List Int) : 0 ≤ bisT ns x ∧ bisT ns x ≤ ns.length := bis_bd _ _ _ (by omega)
/-- what insort_left makes of a list of tuples -/
def insT (ns : List (List Int)) (x : List Int) : List (List Int) := ns.take (bisT ns x).toNat ++ x :: ns.drop (bisT ns x).toNat
theorem insT_tups {news : Led} {vd : List Value} {ns : List (List Int)} {x : Addr} {ux : List Value} {xv : List Int} {cx : Nat} (h : TupsAre news vd ns) (mx : (x, tupO ux cx) ∈ news) (hux : IntsAre ux xv) :
    TupsAre news (kl_ins vd (bisT ns xv) (.ref x)) (insT ns xv) := by
  obtain ⟨b0, b1⟩ := bisT_bd ns xv
  have hl := h.length
  unfold kl_ins insT
  rw [if_neg (by omega), Nat.min_eq_left (by omega)]
  exact (h.take _).append (.cons mx hux (h.drop _))
theorem insort_con (w : World) (p : Program) (loose : List Str) (mean : ExcName → Option Value) (mg mb : Str → Option Value) (x : Addr) (ux : List Value) (xv : List Int) (cx : Nat) (l : Addr) (nn : Nat) (vd : List Value) (ns : List (List Int)) (R R0 : Led) (hsub : ∀ p ∈ R0, p ∈ R)
    (hvd : TupsAre R0 vd ns) (hl : ns.length < 1048576) (mx : (x, tupO ux cx) ∈ R0) (hux : IntsAre ux xv) (hR : ∀ p ∈ R, p.1 ≠ l) :
    Con PySem.Challenge.rw_gb0004_02.row.prog w (Mine.hd.heap_39 w.params) p loose mean mg mb 65 [.ref l, .ref x] ((l, W.listOf vd.toArray nn) :: R) 30 300
      (fun r news' => r = .none ∧ ∃ vd', TupsAre R0 vd' (insT ns xv) ∧ news' = (l, W.listOf vd'.toArray (nn + 1)) :: R) := by
  k_fill
  unfold Con
  intro dp un gd cn cs ca ccd cl outer A₀ base h₀ L m s Q E B F X N T hk hd hu hret
  have hMk : KstMark := kstMark
  have hlv : vd.length = ns.length := hvd.length
  obtain ⟨b0, b1⟩ := bisT_bd ns xv
  refine wpAny_call ?_
  refine' code_def ?k1 ?k2 ?k3 ?k4 ?k5 ?kA ?kF ?kK ?k6 ?k7 ?k8 ?k9 ?kB ?_ ?c2 ?c3 ?c4 ?c5
  case kA => exact rfl
  case kF => exact rfl
  case kK => exact hk
  case k1 => exact B
  case k2 => exact F
  case k3 => exact X
  case k4 => exact N
  case k5 => exact T
  case k6 => k_is
  case k7 => k_is
  case k8 => ktr_room
  case k9 => first | exact BindsTo.of_eq rfl | exact binds_K (by k_in) rfl (by k_is) rfl rfl rfl | (refine' kp_binds ?kx ?ke; (case kx => k_in); (case ke => exact fun _ => rfl))
  case c5 => decide
  case kB => exact locs rfl
  case c2 => exact rfl
  case c3 => exact rfl
  case c4 => exact rfl
  k_whole
  intro g' L' h1 FG1 F1 N1 B1 X1 T1
  try dsimp only
  k_with "call ref" => (refine stop_here ?_)
  k_steps
  refine go_on ?_
  refine' bisect_tup_con w p loose mean mg mb x ux xv cx l nn vd ns _ (.head _) (hvd.mono (fun _ h => .tail _ (hsub _ h))) hl _ (.tail _ (hsub _ mx)) hux _ _ _ _ _ _ _ _ _ _ _ _ _ _ _ _ _ ?c1r1 ?c1r2 ?c1r3 ?c1r4 ?c1r5 ?c1r0 ?c1r6 ?c1r7 ?c1r8
  case c1r1 => k_asm
  case c1r2 => k_asm
  case c1r3 => k_asm
  case c1r4 => k_asm
  case c1r5 => k_asm
  case c1r0 => first | exact rfl | assumption
  case c1r6 => ktr_room
  case c1r7 => ktr_units
  case c1r8 =>
  intro rc1 nwc1 hc1 tkc1 Fc1 Nc1 hOc1
  obtain ⟨t1, rfl, rfl⟩ := hOc1
  try dsimp only
  try k_fold
  k_with "call builtin:list.insert" => (k_here; k_dflt (refine' kl_insert (l := kl_ins vd (bisT ns xv) (.ref x)) ?zF ?zN ?zf rfl ?zU ?zz ?_; (case zF => k_asm); (case zN => k_asm); (case zU => exact Upd.head hR); (case zf => (unfold Builtin.List.listFitsIndex; rw [Bool.and_eq_true]; exact ⟨decide_eq_true (by omega), decide_eq_true (by omega)⟩)); (case zz => (show vd.length ≤ _; rw [sizeLine_eq]; omega))); k_whole; intro hI FI NI)
  k_steps
  exact hret _ _ _ _ (by assumption) (by assumption) ⟨rfl, _, insT_tups hvd mx hux, rfl⟩
end
theorem reset_ZCS : True := by
  k_with_none
  w_top off
  exact True.intro

-- ZW
open PySem PySem.W PyProof.Rows PySem.Calls PySem.Spec
set_option Elab.async false
section
local macro_rules | `(tactic| k_room) => `(tactic| ktr_room)

set_option maxHeartbeats 4000000
theorem news_drop2 {h₀ h : Heap} {L : Addr} {x d : Addr × Obj} {r : Led} (N : News h₀ L h (x :: d :: r)) : News h₀ L h (x :: r) :=
  news_sub N fun p hp => (List.mem_cons.mp hp).elim (fun e => e ▸ .head _) fun h => .tail _ (.tail _ h)
/-- what _law_way gives -/
def wayF (a b : Int) : List Int := if 0 < a / b - b / 2 then [b, a / b - b / 2] else [2 * (a / b), 1 - (a / b - b / 2)]
theorem law_way_con (w : World) (p : Program) (loose : List Str) (mean : ExcName → Option Value) (mg mb : Str → Option Value) (a b : Int) (ta tb : Tok) (rest rest0 : Led) (ps qs : Array Value) (h0 : ∀ p ∈ rest0, p ∈ rest)
    (ha : 0 < a) (ha2 : a < 42) (hb : 0 < b) (hb2 : b < 42) (hr : ∀ p ∈ rest, p.1 ≠ 30) (hr2 : ∀ p ∈ rest, p.1 ≠ 37) (hps : TabSt 32 4 inQ1 ps rest0) (hqs : TabSt 47 4 inQ2 qs rest0) :
    Con PySem.Challenge.rw_gb0004_02.row.prog w (Mine.hd.heap_39 w.params) p loose mean mg mb 81 [.int a ta, .int b tb] ((30, tabObj ps) :: (37, tabObj qs) :: rest) 50 500
      (fun r news' => ∃ D us c tl ps' qs', r = .ref D ∧ news' = (D, tupO us c) :: (30, tabObj ps') :: (37, tabObj qs') :: (tl ++ rest) ∧ IntsAre us (wayF a b) ∧
        TabSt 32 4 inQ1 ps' (tl ++ rest0) ∧ TabSt 47 4 inQ2 qs' (tl ++ rest0) ∧ Lo D (tl ++ rest) ∧ (∀ q ∈ rest, ∀ p ∈ tl, @LT.lt Nat _ q.1 p.1) ∧ (∀ p ∈ tl, p.1 ≠ 30 ∧ p.1 ≠ 37) ∧ @LT.lt Nat _ 30 D ∧ @LT.lt Nat _ 37 D) := by
  k_fill
  unfold Con
  intro dp un gd cn cs ca ccd cl outer A₀ base h₀ L m s Q E B F X N T hk hd hu hret
  have hMk : KstMark := kstMark
  refine wpAny_call ?_
  refine' code_def ?k1 ?k2 ?k3 ?k4 ?k5 ?kA ?kF ?kK ?k6 ?k7 ?k8 ?k9 ?kB ?_ ?c2 ?c3 ?c4 ?c5
  case kA => exact rfl
  case kF => exact rfl
  case kK => exact hk
  case k1 => exact B
  case k2 => exact F
  case k3 => exact X
  case k4 => exact N
  case k5 => exact T
  case k6 => k_is
  case k7 => k_is
  case k8 => ktr_room
  case k9 => first | exact BindsTo.of_eq rfl | exact binds_K (by k_in) rfl (by k_is) rfl rfl rfl
  case c5 => decide
  case kB => exact locs rfl
  case c2 => exact rfl
  case c3 => exact rfl
  case c4 => exact rfl
  k_whole
  intro g' L' h1 FG1 F1 N1 B1 X1 T1
  try dsimp only
  k_with_none
  k_with "call ref" => (refine stop_here ?_)
  k_steps
  all_goals (try (exfalso; omega))
  refine go_on ?_
  refine' int_divmod_con w p loose mean mg mb _ _ _ _ rest rest0 ps qs h0 ha ha2 hb hb2 hr hr2 hps hqs _ _ _ _ _ _ _ _ _ _ _ _ _ _ _ _ _ ?c1r1 ?c1r2 ?c1r3 ?c1r4 ?c1r5 ?c1r0 ?c1r6 ?c1r7 ?c1r8
  case c1r1 => k_asm
  case c1r2 => k_asm
  case c1r3 => k_asm
  case c1r4 => k_asm
  case c1r5 => k_asm
  case c1r0 => first | exact rfl | assumption
  case c1r6 => ktr_room
  case c1r7 => ktr_units
  case c1r8 =>
  intro rc1 nwc1 hc1 tkc1 Fc1 Nc1 hOc1
  obtain ⟨Dt, t1, t2, c9, tl, ps1, qs1, rfl, rfl, hT1, hT2, hL, ho, hn, hti, htd⟩ := hOc1
  try dsimp only
  try k_fold
  have hfd : b.fdiv 2 = b / 2 := Int.fdiv_eq_ediv_of_nonneg b (by decide)
  have hdb : a / b < 42 := Int.lt_of_le_of_lt (Int.ediv_le_self b (Int.le_of_lt ha)) ha2
  have hda : 0 ≤ a / b := Int.ediv_nonneg (Int.le_of_lt ha) (Int.le_of_lt hb)
  k_steps
  all_goals ((with_reducible rename _ ∧ @LT.lt Nat _ _ _ ∧ @LT.lt Nat _ _ _ ∧ AllLt _ _ => zl); (with_reducible rename Fr _ _ _ _ => eF); (with_reducible rename News _ _ _ _ => eN))
  · refine hret _ _ _ _ eF (news_drop2 eN) ⟨_, _, _, tl, ps1, qs1, rfl, rfl, ?i1, hT1, hT2, kst_ltOf zl.2.2.2, ho, hn, zl.2.1, zl.2.2.1⟩
    case i1 => (rw [hfd]; unfold wayF; rw [if_pos (by omega)]; exact .cons _ _ (.cons _ _ .nil))
  · refine hret _ _ _ _ eF (news_drop2 eN) ⟨_, _, _, tl, ps1, qs1, rfl, rfl, ?i2, hT1, hT2, kst_ltOf zl.2.2.2, ho, hn, zl.2.1, zl.2.2.1⟩
    case i2 => (rw [hfd]; unfold wayF; rw [if_neg (by omega)]; exact .cons _ _ (.cons _ _ .nil))
end
theorem reset_ZW : True := by
  k_with_none
  w_top off
  exact True.intro

-- ZN
open PySem PySem.W PyProof.Rows PySem.Calls PySem.Spec
set_option maxRecDepth 100000
section
theorem compTurn_in (elt target iter : PySem.Expr) (g0 : Comprehension) (ifs : List PySem.Expr) (scope : Scope) (pos : Pos) (it acc : Value) (env : Env) :
    compTurn (.ListComp elt [g0, ⟨target, iter, ifs, 0⟩] scope pos) 1 it acc env = (do
      standAt iter.pos
      match ← pyNext it with
      | none => pure (.done .next)
      | some v =>
        letOwnedTupleGo target it v
        assign target env v
        let mut ok := true
        for c in ifs do
          if ok then ok ← isTrue c env (eval c env)
        if ok then
          (do let _ ← call (.builtin "list.append") [acc, ← eval elt env])
        again (.compLoop (.ListComp elt [g0, ⟨target, iter, ifs, 0⟩] scope pos) 1 it acc env)) := by rfl
theorem compTurn_out (elt target iter t1 i1 : PySem.Expr) (ifs : List PySem.Expr) (scope : Scope) (pos : Pos) (it acc : Value) (env : Env) :
    compTurn (.ListComp elt [⟨target, iter, [], 0⟩, ⟨t1, i1, ifs, 0⟩] scope pos) 0 it acc env = (do
      standAt iter.pos
      match ← pyNext it with
      | none => pure (.done .next)
      | some v =>
        letOwnedTupleGo target it v
        assign target env v
        let x ← eval i1 env
        standAt i1.pos
        let x ← foldedSetIterable i1 env x
        let _ ← runOwn (.compStart (.ListComp elt [⟨target, iter, [], 0⟩, ⟨t1, i1, ifs, 0⟩] scope pos) 1 (← holding [x] (pyIter x)) acc env) env
        again (.compLoop (.ListComp elt [⟨target, iter, [], 0⟩, ⟨t1, i1, ifs, 0⟩] scope pos) 0 it acc env)) := by rfl
section
variable {prog : Program} {w : World} {A : Around} {E : Value → Shared → Prop} {R : Result → Shared → Prop} {s : Shared}
theorem start_in {elt target iter : PySem.Expr} {g0 : Comprehension} {ifs : List PySem.Expr} {scope : Scope} {pos : Pos} {it acc : Value} {env : Env}
    (h0 : codeAny (model prog w) A (.compLoop (.ListComp elt [g0, ⟨target, iter, ifs, 0⟩] scope pos) 1 it acc env) R s)
    (h : wpAny (model prog w) A (pyIter it) (fun it' s' => codeAny (model prog w) A (.compLoop (.ListComp elt [g0, ⟨target, iter, ifs, 0⟩] scope pos) 1 it' acc env) R s')
      (notedBy (model prog w) A env fun x s' => R (.error x) s') s) :
    codeAny (model prog w) A (.compStart (.ListComp elt [g0, ⟨target, iter, ifs, 0⟩] scope pos) 1 it acc env) R s := by
  refine codeAny_of_tree ?_
  show wpAny _ _ ((compStart (.ListComp elt [g0, ⟨target, iter, ifs, 0⟩] scope pos) 1 it acc env).onRaise (fun x => do noteFrame x env; standAt theWindowsPlace)) _ _ s
  refine wpAny_notedAt ?_
  unfold compStart
  show wpAny _ _ (ask >>= _) _ _ s
  refine wpAny_bind (wpAny_askSetting (wpAny_ite ?_))
  split
  · first
      | exact wpAny_bind (wpAny_pure (wpAny_pure (And.intro rfl h0)))
      | exact wpAny_pure (And.intro rfl h0)
  · first
      | exact wpAny_bind (wpAny_rule (wpAny_bind (wpAny_standAt (wpAny_bind (wpAny_mono h (fun it' s' h' => wpAny_pure (And.intro rfl h')) fun _ _ x => x)))))
      | (refine wpAny_bind (wpAny_rule ?_); show wpAny _ _ (standAt iter.pos >>= _) _ _ s; exact wpAny_bind (wpAny_standAt (wpAny_bind (wpAny_mono h (fun it' s' h' => wpAny_pure (And.intro rfl h')) fun _ _ x => x))))
theorem loop_in {elt target iter : PySem.Expr} {g0 : Comprehension} {ifs : List PySem.Expr} {scope : Scope} {pos : Pos} {it acc : Value} {env : Env} (I : Nat → Shared → Prop)
    (turn : ∀ n s, I n s → wpAny (model prog w) A (pyNext it) (fun r s₁ => match r with
      | none => R (.ok .next) s₁
      | some v => wpAny (model prog w) A (assign target env v) (fun _ s₂ =>
          wpAny (model prog w) A (forIn ifs true fun c r => if r = true then do let ok ← isTrue c env (eval c env); pure (ForInStep.yield ok) else pure (ForInStep.yield r)) (fun ok s₃ =>
            if ok = true then wpAny (model prog w) A (eval elt env) (fun x s₄ =>
              wpAny (model prog w) A (call (.builtin "list.append") [acc, x]) (fun _ s₅ => ∃ m, m < n ∧ I m s₅) (notedBy (model prog w) A env fun e s' => R (.error e) s') s₄) (notedBy (model prog w) A env fun e s' => R (.error e) s') s₃
            else ∃ m, m < n ∧ I m s₃) (notedBy (model prog w) A env fun e s' => R (.error e) s') s₂) (notedBy (model prog w) A env fun e s' => R (.error e) s') s₁) (notedBy (model prog w) A env fun e s' => R (.error e) s') s)
    (n : Nat) (h : I n s) (ht : ∀ v, letOwnedTupleGo target it v = pure () := by intro _; rfl) :
    codeAny (model prog w) A (.compLoop (.ListComp elt [g0, ⟨target, iter, ifs, 0⟩] scope pos) 1 it acc env) R s := by
  refine codeAny_loop rfl I (fun n s hI => ?_) n h
  show wpAny _ A ((compTurn (.ListComp elt [g0, ⟨target, iter, ifs, 0⟩] scope pos) 1 it acc env).onRaise (fun x => do noteFrame x env; theTreesLotGoes x)) _ _ s
  refine wpAny_noted ?_
  rw [compTurn_in]
  refine wpAny_bind (wpAny_standAt (wpAny_bind (wpAny_mono (turn n s hI) (fun r s₁ h₁ => ?_) fun _ _ h' => h')))
  cases r with
  | none => exact wpAny_pure h₁
  | some v =>
    refine wpAny_bind (wpAny_of_eq (ht v) ?_)
    refine wpAny_bind (wpAny_mono h₁ (fun _ s₂ h₂ => wpAny_bind (wpAny_mono h₂ (fun ok s₃ h₃ => ?_) fun _ _ h' => h')) fun _ _ h' => h')
    cases ok with
    | false => exact wpAny_pure ⟨rfl, h₃⟩
    | true =>
      exact wpAny_bind (wpAny_bind (wpAny_mono h₃ (fun x s₄ h₄ => wpAny_bind (wpAny_mono h₄ (fun _ s₅ h₅ => wpAny_pure (wpAny_pure ⟨rfl, h₅⟩)) fun _ _ h' => h')) fun _ _ h' => h'))
theorem loop_out {elt target iter t1 i1 : PySem.Expr} {ifs : List PySem.Expr} {scope : Scope} {pos : Pos} {it acc : Value} {env : Env} (I : Nat → Shared → Prop)
    (hs : ∀ x, foldedSetIterable i1 env x = pure x)
    (turn : ∀ n s, I n s → wpAny (model prog w) A (pyNext it) (fun r s₁ => match r with
      | none => R (.ok .next) s₁
      | some v => wpAny (model prog w) A (assign target env v) (fun _ s₂ =>
          wpAny (model prog w) A (eval i1 env) (fun x s₃ => wpAny (model prog w) A (pyIter x) (fun it1 s₄ =>
            codeAny (model prog w) A (.compStart (.ListComp elt [⟨target, iter, [], 0⟩, ⟨t1, i1, ifs, 0⟩] scope pos) 1 it1 acc env) (fun r s₅ => match r with
              | .ok _ => ∃ m, m < n ∧ I m s₅
              | .error e => cameBackBy (model prog w) A env (notedBy (model prog w) A env fun e s' => R (.error e) s') e s₅) s₄) (notedBy (model prog w) A env fun e s' => R (.error e) s') s₃)
            (notedBy (model prog w) A env fun e s' => R (.error e) s') s₂) (notedBy (model prog w) A env fun e s' => R (.error e) s') s₁) (notedBy (model prog w) A env fun e s' => R (.error e) s') s)
    (n : Nat) (h : I n s) (ht : ∀ v, letOwnedTupleGo target it v = pure () := by intro _; rfl) :
    codeAny (model prog w) A (.compLoop (.ListComp elt [⟨target, iter, [], 0⟩, ⟨t1, i1, ifs, 0⟩] scope pos) 0 it acc env) R s := by
  refine codeAny_loop rfl I (fun n s hI => ?_) n h
  show wpAny _ A ((compTurn (.ListComp elt [⟨target, iter, [], 0⟩, ⟨t1, i1, ifs, 0⟩] scope pos) 0 it acc env).onRaise (fun x => do noteFrame x env; theTreesLotGoes x)) _ _ s
  refine wpAny_noted ?_
  rw [compTurn_out]
  refine wpAny_bind (wpAny_standAt (wpAny_bind (wpAny_mono (turn n s hI) (fun r s₁ h₁ => ?_) fun _ _ h' => h')))
  cases r with
  | none => exact wpAny_pure h₁
  | some v =>
    refine wpAny_bind (wpAny_of_eq (ht v) ?_)
    refine wpAny_bind (wpAny_mono h₁ (fun _ s₂ h₂ => ?_) fun _ _ h' => h')
    refine wpAny_bind (wpAny_mono h₂ (fun x s₃ h₃ => ?_) fun _ _ h' => h')
    refine wpAny_bind (wpAny_standAt (wpAny_bind (wpAny_of_eq (hs x) ?_)))
    refine wpAny_bind (wpAny_holding (wpAny_mono h₃ (fun it1 s₄ h₄ => ?_) fun _ _ h' => h'))
    refine wpAny_bind (wpAny_runOwn (codeAny_mono h₄ fun r s₅ h₅ => ?_))
    cases r with
    | ok f => exact wpAny_pure ⟨rfl, h₅⟩
    | error e => exact h₅
end
end

-- ZN2
open PySem PySem.W PyProof.Rows PySem.Calls PySem.Spec
set_option maxRecDepth 100000
section
/-- a list comprehension of two clauses, the second with one test -/
abbrev e2 (elt : PySem.Expr) (x0 : Str) (p0 : Pos) (i0 : PySem.Expr) (x1 : Str) (p1 : Pos) (i1 ct : PySem.Expr) (scope : Scope) (pos : Pos) : PySem.Expr := .ListComp elt [⟨.Name x0 p0, i0, [], 0⟩, ⟨.Name x1 p1, i1, [ct], 0⟩] scope pos
def TestPost (s : Shared) (h : Heap) (c b : Bool) (s₁ : Shared) : Prop := b = c ∧ ∃ tk', s₁ = { s with heap := h, toks := tk' }
def EltPost (h₀ : Heap) (L : Addr) (m : Str → Option Value) (s : Shared) (led : Led) (xs : List Int) (y : Value) (s₁ : Shared) : Prop :=
  ∃ D' us c h' tk', y = .ref D' ∧ s₁ = { s with heap := h', toks := tk' } ∧ Fr h₀ L h' m ∧ News h₀ L h' ((D', tupO us c) :: led) ∧ Lo D' led ∧ IntsAre us xs
def SrcPost (h₀ : Heap) (L : Addr) (m : Str → Option Value) (s : Shared) (led : Led) (a b : Int) (xv : Value) (s₁ : Shared) : Prop :=
  ∃ r t u v h' tk', xv = .ref r ∧ s₁ = { s with heap := h', toks := tk' } ∧ Fr h₀ L h' m ∧ News h₀ L h' led ∧ IsRange h' r a b 1 t u v
def TwoTest (prog : Program) (w : World) (A : Around) (h₀ : Heap) (L : Addr) (m : Str → Option Value) (env : Env) (scope : Scope) (cl : List (Str × Addr)) (ct : PySem.Expr) (x0 x1 : Str) (s : Shared) (cN : Addr) (oN : Obj) (pr : Int → Int → Bool) (P0 P1 : Int → Prop) : Prop :=
  ∀ (I1 I0 C D : Addr) (o1 o0 oC : Obj) (ys : List Value) (m₂ : Str → Option Value) (k0 k1 : Int) (t0 t1 : Tok) (nx : Led) (h : Heap) (tk : Nat) (E' : Value → Shared → Prop),
    P0 k0 → P1 k1 → LCg.NsObj oC m₂ → m₂ x0 = some (.int k0 t0) → m₂ x1 = some (.int k1 t1) → Fr h₀ L h m → News h₀ L h ((I1, o1) :: (I0, o0) :: (C, oC) :: (D, LCg.lst ys) :: (cN, oN) :: nx) →
    wpAny (model prog w) A (isTrue ct (compEnvC scope cl C env) (eval ct (compEnvC scope cl C env))) (TestPost s h (pr k0 k1)) E' { s with heap := h, toks := tk }
def TwoElt (prog : Program) (w : World) (A : Around) (h₀ : Heap) (L : Addr) (m : Str → Option Value) (env : Env) (scope : Scope) (cl : List (Str × Addr)) (elt : PySem.Expr) (x0 x1 : Str) (s : Shared) (cN : Addr) (oN : Obj) (pr : Int → Int → Bool) (f : Int → Int → List Int) (P0 P1 : Int → Prop) : Prop :=
  ∀ (I1 I0 C D : Addr) (o1 o0 oC : Obj) (ys : List Value) (m₂ : Str → Option Value) (k0 k1 : Int) (t0 t1 : Tok) (nx : Led) (h : Heap) (tk : Nat) (E' : Value → Shared → Prop),
    P0 k0 → P1 k1 → pr k0 k1 = true → LCg.NsObj oC m₂ → m₂ x0 = some (.int k0 t0) → m₂ x1 = some (.int k1 t1) → Fr h₀ L h m → News h₀ L h ((I1, o1) :: (I0, o0) :: (C, oC) :: (D, LCg.lst ys) :: (cN, oN) :: nx) →
    wpAny (model prog w) A (eval elt (compEnvC scope cl C env)) (EltPost h₀ L m s ((I1, o1) :: (I0, o0) :: (C, oC) :: (D, LCg.lst ys) :: (cN, oN) :: nx) (f k0 k1)) E' { s with heap := h, toks := tk }
def TwoSrc (prog : Program) (w : World) (A : Around) (h₀ : Heap) (L : Addr) (m : Str → Option Value) (env : Env) (scope : Scope) (cl : List (Str × Addr)) (i1 : PySem.Expr) (x0 : Str) (s : Shared) (cN : Addr) (oN : Obj) (a1 b1 : Int) (P0 : Int → Prop) : Prop :=
  ∀ (I0 C D : Addr) (o0 oC : Obj) (ys : List Value) (m₂ : Str → Option Value) (k0 : Int) (t0 : Tok) (nx : Led) (h : Heap) (tk : Nat) (E' : Value → Shared → Prop),
    P0 k0 → LCg.NsObj oC m₂ → m₂ x0 = some (.int k0 t0) → Fr h₀ L h m → News h₀ L h ((I0, o0) :: (C, oC) :: (D, LCg.lst ys) :: (cN, oN) :: nx) →
    wpAny (model prog w) A (eval i1 (compEnvC scope cl C env)) (SrcPost h₀ L m s ((I0, o0) :: (C, oC) :: (D, LCg.lst ys) :: (cN, oN) :: nx) a1 b1) E' { s with heap := h, toks := tk }
def twoIn (pr : Int → Int → Bool) (f : Int → Int → List Int) (k0 : Int) (acc : List (List Int)) (k1 : Int) : List (List Int) := if pr k0 k1 = true then acc ++ [f k0 k1] else acc
def twoRow (pr : Int → Int → Bool) (f : Int → Int → List Int) (a1 : Int) (n1 : Nat) (acc : List (List Int)) (k0 : Int) : List (List Int) := (rangeKs a1 n1).foldl (twoIn pr f k0) acc
def twoF (pr : Int → Int → Bool) (f : Int → Int → List Int) (a0 : Int) (n0 : Nat) (a1 : Int) (n1 : Nat) : List (List Int) := (rangeKs a0 n0).foldl (twoRow pr f a1 n1) []
theorem rangeKs_at (a : Int) {n i : Nat} (h : i < n) : (rangeKs a n)[i]? = some (a + (i : Int)) := by
  simp only [rangeKs]
  rw [List.getElem?_map, List.getElem?_range h]; rfl
section
variable {prog : Program} {w : World} {A : Around} {E : Value → Shared → Prop} {s : Shared} {h₀ : Heap} {L : Addr} {m : Str → Option Value} {env : Env}
theorem two_inner {elt i0 i1 ct : PySem.Expr} {x0 x1 : Str} {p0 p1 : Pos} {scope : Scope} {cl : List (Str × Addr)} {pos : Pos} {cN : Addr} {oN : Obj} {pr : Int → Int → Bool} {f : Int → Int → List Int} {P0 P1 : Int → Prop}
    (hh : A.handled = none) (hkind : scope.kind = .function) (hx1 : scope.names.lookup x1 = some .local) (h01 : x0 ≠ x1)
    (Ht : TwoTest prog w A h₀ L m env scope cl ct x0 x1 s cN oN pr P0 P1) (He : TwoElt prog w A h₀ L m env scope cl elt x0 x1 s cN oN pr f P0 P1)
    {a1 : Int} {n1 : Nat} (hP1 : ∀ i : Nat, i < n1 → P1 (a1 + (i : Int))) {I1 I0 C D : Addr} {o0 : Obj} {k0 : Int} {t0 : Tok} (hk0 : P0 k0) {R : Led} {RR : Result → Shared → Prop}
    (hCL : C ≠ L) (hC₀ : h₀.get? C = none) (hDL : D ≠ L) (hD₀ : h₀.get? D = none) (hIL : L ≠ I1) (hI₀ : h₀.get? I1 = none)
    (hCD : C ≠ D) (hIC : I1 ≠ C) (hID : I1 ≠ D) (h0C : I0 ≠ C) (h0D : I0 ≠ D) (hI0 : I0 ≠ I1)
    (hR : ∀ p ∈ (cN, oN) :: R, p.1 ≠ I1 ∧ p.1 ≠ C ∧ p.1 ≠ D) (B0 : Nat) (hB : B0 + n1 ≤ sizeLine) {acc0 : List (List Int)}
    (done : ∀ h tk oC m₂ ys tl, Fr h₀ L h m → LCg.NsObj oC m₂ → News h₀ L h ((I0, o0) :: (C, oC) :: (D, LCg.lst ys) :: (cN, oN) :: (tl ++ R)) → TupsAre tl ys (twoRow pr f a1 n1 acc0 k0) → ys.length ≤ B0 + n1 →
      (∀ p ∈ tl, p.1 ≠ I1 ∧ p.1 ≠ I0 ∧ p.1 ≠ C ∧ p.1 ≠ D ∧ @LT.lt Nat _ D p.1) → RR (.ok .next) { s with heap := h, toks := tk })
    {ys : List Value} {tl : Led} {oC : Obj} {m₂ : Str → Option Value} {h : Heap} {tk : Nat} (hst : IsRangeIter h I1 a1 (n1 : Int) 1) (F : Fr h₀ L h m) (hoC : LCg.NsObj oC m₂) (hm0 : m₂ x0 = some (.int k0 t0))
    (N : News h₀ L h ((I0, o0) :: (C, oC) :: (D, LCg.lst ys) :: (cN, oN) :: (tl ++ R))) (hT : TupsAre tl ys acc0) (hlen : ys.length ≤ B0) (htl : ∀ p ∈ tl, p.1 ≠ I1 ∧ p.1 ≠ I0 ∧ p.1 ≠ C ∧ p.1 ≠ D ∧ @LT.lt Nat _ D p.1) :
    codeAny (model prog w) A (.compLoop (e2 elt x0 p0 i0 x1 p1 i1 ct scope pos) 1 (.ref I1) (.ref D) (compEnvC scope cl C env)) RR { s with heap := h, toks := tk } := by
  have W := LCg.range_walks (prog := prog) (w := w) (A := A) (I := I1) hh a1 n1
  refine loop_in (fun k s' => ∃ h tk i ys tl oC m₂, s' = { s with heap := h, toks := tk } ∧ i ≤ n1 ∧ k = n1 + 1 - i ∧ IsRangeIter h I1 (a1 + (i : Nat) * 1) ((n1 : Int) - (i : Nat)) 1 ∧ Fr h₀ L h m ∧ LCg.NsObj oC m₂ ∧ m₂ x0 = some (.int k0 t0) ∧
      News h₀ L h ((I0, o0) :: (C, oC) :: (D, LCg.lst ys) :: (cN, oN) :: (tl ++ R)) ∧ TupsAre tl ys (((rangeKs a1 n1).take i).foldl (twoIn pr f k0) acc0) ∧ ys.length ≤ B0 + i ∧ (∀ p ∈ tl, p.1 ≠ I1 ∧ p.1 ≠ I0 ∧ p.1 ≠ C ∧ p.1 ≠ D ∧ @LT.lt Nat _ D p.1))
    ?turn (n1 + 1) ⟨h, tk, 0, ys, tl, oC, m₂, rfl, Nat.zero_le _, rfl, by simpa using hst, F, hoC, hm0, N, hT, hlen, htl⟩
  rintro k s' ⟨h, tk, i, ys, tl, oC, m₂, rfl, hi, rfl, hst, F, hoC, hm0, N, hT, hlen, htl⟩
  have off : ∀ p ∈ (I0, o0) :: (C, oC) :: (D, LCg.lst ys) :: (cN, oN) :: (tl ++ R), p.1 ≠ I1 := by
    intro p hp
    rcases List.mem_cons.mp hp with rfl | hp
    · exact hI0
    rcases List.mem_cons.mp hp with rfl | hp
    · exact Ne.symm hIC
    rcases List.mem_cons.mp hp with rfl | hp
    · exact Ne.symm hID
    rcases List.mem_cons.mp hp with rfl | hp
    · exact (hR _ (.head _)).1
    rcases List.mem_append.mp hp with hp | hp
    · exact (htl p hp).1
    · exact (hR p (.tail _ hp)).1
  by_cases hlt : i < n1
  · refine W.item i _ _ _ hlt hst fun v h₂ tk₂ hPv hst₂ hk₂ => ?_
    obtain ⟨t1, rfl⟩ := hPv
    have F₂ := LCg.fr_but F hk₂ hIL hI₀
    have N₂ := LCg.news_but N hk₂ off
    refine wpAny_assign_Name (wpAny_storeName_local (lookup_relabel_local hx1) (hoC.ns (N₂ (C, oC) (.tail _ (.head _))).1) (fun h₃ hn₃ hs₃ => ?_) (by simp [compEnvC, relabel, hkind]))
    obtain ⟨oC3, heC, hoC3⟩ := LCg.ns_obj hn₃
    have hst₃ : IsRangeIter h₃ I1 (a1 + (i + 1 : Nat) * 1) ((n1 : Int) - (i + 1 : Nat)) 1 := hs₃.extBut I1 _ hIC hst₂
    have F₃ : Fr h₀ L h₃ m := F₂.change hs₃ hCL hC₀
    obtain ⟨o1, ho1⟩ : ∃ o, h₃.get? I1 = some o := ⟨_, hst₃⟩
    have N₃ : News h₀ L h₃ ((I1, o1) :: (I0, o0) :: (C, oC3) :: (D, LCg.lst ys) :: (cN, oN) :: (tl ++ R)) := by
      intro p hp
      rcases List.mem_cons.mp hp with rfl | hp
      · exact ⟨ho1, Ne.symm hIL, hI₀⟩
      rcases List.mem_cons.mp hp with rfl | hp
      · have z := N₂ (I0, o0) (.head _)
        exact ⟨hs₃.extBut _ _ h0C z.1, z.2⟩
      rcases List.mem_cons.mp hp with rfl | hp
      · exact ⟨heC, hCL, hC₀⟩
      have z := N₂ p (.tail _ (.tail _ hp))
      refine ⟨hs₃.extBut _ _ ?_ z.1, z.2⟩
      rcases List.mem_cons.mp hp with rfl | hp
      · exact Ne.symm hCD
      rcases List.mem_cons.mp hp with rfl | hp
      · exact (hR _ (.head _)).2.1
      rcases List.mem_append.mp hp with hp | hp
      · exact (htl p hp).2.2.1
      · exact (hR p (.tail _ hp)).2.1
    have hm3 : (if x0 = x1 then some (Value.int (a1 + (i : Int)) t1) else m₂ x0) = some (.int k0 t0) := by rw [if_neg h01, hm0]
    refine wpAny_tests_one (wpAny_mono (Ht I1 I0 C D _ o0 oC3 ys _ k0 (a1 + (i : Int)) t0 t1 (tl ++ R) h₃ _ _ hk0 (hP1 i hlt) hoC3 hm3 (if_pos rfl) F₃ N₃) (fun b s₁ hb => ?_) fun _ _ e => e)
    obtain ⟨rfl, tk₃, rfl⟩ := hb
    have hfold : ((rangeKs a1 n1).take (i + 1)).foldl (twoIn pr f k0) acc0 = twoIn pr f k0 (((rangeKs a1 n1).take i).foldl (twoIn pr f k0) acc0) (a1 + (i : Int)) := by
      rw [List.take_add_one, rangeKs_at a1 hlt]; simp
    by_cases hpr : pr k0 (a1 + (i : Int)) = true
    · rw [if_pos hpr]
      refine wpAny_mono (He I1 I0 C D _ o0 oC3 ys _ k0 (a1 + (i : Int)) t0 t1 (tl ++ R) h₃ _ _ hk0 (hP1 i hlt) hpr hoC3 hm3 (if_pos rfl) F₃ N₃) (fun y s₁ hy => ?_) fun _ _ e => e
      obtain ⟨D', us, c, h₄, tk₄, rfl, rfl, F₄, N₄, lo, hus⟩ := hy
      have zD := (N₄ (D, LCg.lst ys) (.tail _ (.tail _ (.tail _ (.tail _ (.head _)))))).1
      refine append_at (hsz := by show ys.toArray.size ≤ sizeLine; rw [List.size_toArray]; omega) zD fun h₅ hs₅ hD₅ => ?_
      have lI1 : @LT.lt Nat _ I1 D' := lo _ (.head _)
      have lI0 : @LT.lt Nat _ I0 D' := lo _ (.tail _ (.head _))
      have lC : @LT.lt Nat _ C D' := lo _ (.tail _ (.tail _ (.head _)))
      have lD : @LT.lt Nat _ D D' := lo _ (.tail _ (.tail _ (.tail _ (.head _))))
      refine ⟨n1 + 1 - (i + 1), by omega, h₅, tk₄, i + 1, ys ++ [.ref D'], (D', tupO us c) :: tl, oC3, _, rfl, hlt, rfl, (hs₅.extBut I1 _ hID (N₄ (I1, o1) (.tail _ (.head _))).1).trans (ho1.symm.trans hst₃), F₄.change hs₅ hDL hD₀, hoC3, hm3, ?_, ?_, by rw [List.length_append, List.length_singleton]; omega, ?_⟩
      · intro p hp
        rcases List.mem_cons.mp hp with rfl | hp
        · have z := N₄ (I0, o0) (.tail _ (.tail _ (.head _)))
          exact ⟨hs₅.extBut _ _ h0D z.1, z.2⟩
        rcases List.mem_cons.mp hp with rfl | hp
        · have z := N₄ (C, oC3) (.tail _ (.tail _ (.tail _ (.head _))))
          exact ⟨hs₅.extBut _ _ hCD z.1, z.2⟩
        rcases List.mem_cons.mp hp with rfl | hp
        · exact ⟨hD₅.trans (congrArg some (LCg.lst_snoc ys _)), hDL, hD₀⟩
        rcases List.mem_cons.mp hp with rfl | hp
        · have z := N₄ (cN, oN) (.tail _ (.tail _ (.tail _ (.tail _ (.tail _ (.head _))))))
          exact ⟨hs₅.extBut _ _ (hR _ (.head _)).2.2 z.1, z.2⟩
        rcases List.mem_cons.mp (show p ∈ (D', tupO us c) :: (tl ++ R) from hp) with rfl | hp
        · have z := N₄ (D', tupO us c) (.head _)
          exact ⟨hs₅.extBut _ _ (Nat.ne_of_gt lD) z.1, z.2⟩
        have z := N₄ p (.tail _ (.tail _ (.tail _ (.tail _ (.tail _ (.tail _ hp))))))
        refine ⟨hs₅.extBut _ _ ?_ z.1, z.2⟩
        rcases List.mem_append.mp hp with hp | hp
        · exact (htl p hp).2.2.2.1
        · exact (hR p (.tail _ hp)).2.2
      · rw [hfold, twoIn, if_pos hpr]
        exact (hT.mono fun _ h => .tail _ h).append (.cons (.head _) hus .nil)
      · intro p hp
        rcases List.mem_cons.mp hp with rfl | hp
        · exact ⟨Nat.ne_of_gt lI1, Nat.ne_of_gt lI0, Nat.ne_of_gt lC, Nat.ne_of_gt lD, lD⟩
        · exact htl p hp
    · rw [if_neg hpr]
      refine ⟨n1 + 1 - (i + 1), by omega, h₃, tk₃, i + 1, ys, tl, oC3, _, rfl, hlt, rfl, hst₃, F₃, hoC3, hm3, fun p hp => N₃ p (.tail _ hp), ?_, by omega, htl⟩
      rw [hfold, twoIn, if_neg hpr]
      exact hT
  · obtain rfl : i = n1 := Nat.le_antisymm hi (Nat.not_lt.mp hlt)
    refine W.done _ _ _ hst fun h₂ tk₂ hk₂ => ?_
    refine done h₂ tk₂ oC m₂ ys tl (LCg.fr_but F hk₂ hIL hI₀) hoC (LCg.news_but N hk₂ off) ?_ hlen htl
    have e : (rangeKs a1 i).take i = rangeKs a1 i := List.take_of_length_le (by rw [rangeKs_length]; exact Nat.le_refl _)
    rw [e] at hT
    exact hT
end
end

-- ZN3
open PySem PySem.W PyProof.Rows PySem.Calls PySem.Spec
set_option maxRecDepth 100000
section
section
variable {prog : Program} {w : World} {A : Around} {E : Value → Shared → Prop} {s : Shared} {h₀ : Heap} {L : Addr} {m : Str → Option Value} {env : Env}
theorem range_small_of {a b : Int} {n : Nat} (hn : Builtin.Range.rangeSize a b 1 = (n : Int)) {h : Heap} {I : Addr} (hI : h.get? I = some { cls := .type "range_iterator", data := .fields #[rawInt a, rawInt (Builtin.Range.rangeSize a b 1), rawInt 1] }) : IsRangeIter h I a (n : Int) 1 := by
  rw [hn] at hI; exact hI
theorem Assign_two {elt i0 i1 ct : PySem.Expr} {x0 x1 y : Str} {p0 p1 py : Pos} {scope : Scope} {cl : List (Str × Addr)} {pos spos : Pos} {cN : Addr} {oN : Obj} {R : Led} {Q : Flow → Shared → Prop} (pr : Int → Int → Bool) (f : Int → Int → List Int) (P0 P1 : Int → Prop) (a0 b0 : Int) (n0 : Nat) (a1 b1 : Int) (n1 : Nat)
    (F₀ : Fr h₀ L s.heap m) (N₀ : News h₀ L s.heap ((cN, oN) :: R)) (hLe : env.locals = L) (hh : A.handled = none)
    (hsw : swapsWith (e2 elt x0 p0 i0 x1 p1 i1 ct scope pos) (some (.Name y py)) spos.line env = pure true)
    (hclos : closureFor scope env = pure cl) (hcell : ∀ z ∈ scope.names, z.2 ≠ .cell) (hkind : scope.kind = .function)
    (hnames : ∀ z ∈ scope.names, z.2 = .local → scope.names.lookup z.1 = some .local) (hx0 : scope.names.lookup x0 = some .local) (hx1 : scope.names.lookup x1 = some .local) (h01 : x0 ≠ x1)
    (hy : env.kindOf y = some .local) (hp : (env.scope.kind == .class || (env.scope.kind == .module && env.locals != env.globals)) = false)
    (hs0 : ∀ x, foldedSetIterable i0 env x = pure x) (hs1 : ∀ C x, foldedSetIterable i1 (compEnvC scope cl C env) x = pure x)
    (h0 : wpAny (model prog w) A (eval i0 env) (SrcPost h₀ L m s ((cN, oN) :: R) a0 b0) E s)
    (sm0 : Builtin.Range.small a0 b0 1 = true) (hn0 : Builtin.Range.rangeSize a0 b0 1 = (n0 : Int)) (sm1 : Builtin.Range.small a1 b1 1 = true) (hn1 : Builtin.Range.rangeSize a1 b1 1 = (n1 : Int))
    (hP0 : ∀ i : Nat, i < n0 → P0 (a0 + (i : Int))) (hP1 : ∀ i : Nat, i < n1 → P1 (a1 + (i : Int))) (hB : n0 * n1 ≤ sizeLine)
    (Hs : TwoSrc prog w A h₀ L m env scope cl i1 x0 s cN oN a1 b1 P0) (Ht : TwoTest prog w A h₀ L m env scope cl ct x0 x1 s cN oN pr P0 P1) (He : TwoElt prog w A h₀ L m env scope cl elt x0 x1 s cN oN pr f P0 P1)
    (done : ∀ D h tk ys tl, Fr h₀ L h (fun z => if z = y then some (.ref D) else m z) → News h₀ L h ((D, LCg.lst ys) :: (cN, oN) :: (tl ++ R)) → TupsAre tl ys (twoF pr f a0 n0 a1 n1) → ys.length ≤ n0 * n1 →
      (∀ p ∈ tl, @LT.lt Nat _ D p.1) → (∀ p ∈ (cN, oN) :: R, @LT.lt Nat _ p.1 D) → Q .next { s with heap := h, toks := tk }) :
    wpAny (model prog w) A (exec (.Assign [.Name y py] (e2 elt x0 p0 i0 x1 p1 i1 ct scope pos) spos) env) Q E s := by
  subst hLe
  rw [exec_Assign_Name_used _ _ _ _ hsw]
  refine wpAny_bind (wpAny_standAt (wpAny_bind ?_))
  show wpAny _ A (do let _ ← comprehension (e2 elt x0 p0 i0 x1 p1 i1 ct scope pos) scope env _ (newList []) false (eval i0 env) (some (assign (.Name y py) env))) _ _ s
  refine wpAny_bind (wpAny_mono (wpAny_comprehension_free (use := some (assign (.Name y py) env)) (Q := fun _ s' => Q .next s') rfl hs0 hclos hkind hnames
    (wpAny_mono h0 (fun xv s₁ h₁ => ?_) fun _ _ e => e)) (fun _ s' hq => wpAny_pure (wpAny_pure hq)) fun _ _ e => e)
  obtain ⟨r, t, u, v, hr, tkr, rfl, rfl, F, N, rg⟩ := h₁
  refine wpAny_pyIter_range rg sm0 ?_
  generalize hI : hr.objs.size = I0
  generalize hHp : hr.push { cls := .type "range_iterator", data := .fields #[rawInt a0, rawInt (Builtin.Range.rangeSize a0 b0 1), rawInt 1] } = hp1
  have hit : IsRangeIter hp1 I0 a0 (n0 : Int) 1 := range_small_of hn0 (by rw [← hHp, ← hI]; exact Heap.get?_push_size _ rfl)
  have up : ∀ b o, hr.get? b = some o → hp1.get? b = some o := fun b o e => hHp ▸ Heap.get?_push_of_some _ e
  have hsz1 : hp1.objs.size = I0 + 1 := by rw [← hHp, Heap.size_push, hI]
  have hI₀ : h₀.get? I0 = none := hI ▸ next_is_new F
  have hLI : @LT.lt Nat _ env.locals I0 := hI ▸ F.ns.lt
  have hlt0 : ∀ p ∈ (cN, oN) :: R, @LT.lt Nat _ p.1 I0 := fun p hp => hI ▸ Heap.lt_size (N p hp).1
  replace F := F.keeps up
  replace N := N.grown up
  show wpAny _ A (newList []) _ _ { s with heap := hp1, toks := tkr }
  refine wpAny_newObj_type (wpAny_newFunctionEnv hcell (by intro y hy; simp at hy) (fun h₁ hns₁ hsb₁ => ?_) hkind)
  dsimp only at hns₁ hsb₁ ⊢
  generalize hH2 : hp1.push { cls := .type "list", dict := none, data := .seq ([] : List Value).toArray } = H2 at hns₁ hsb₁ ⊢
  have hCs : H2.objs.size = I0 + 2 := by rw [← hH2, Heap.size_push, hsz1]
  generalize hC : H2.objs.size = C at hns₁ hsb₁ hCs ⊢
  have hDs : hp1.objs.size = I0 + 1 := hsz1
  generalize hD : hp1.objs.size = D at hDs ⊢
  have lID : @LT.lt Nat _ I0 D := by omega
  have lDC : @LT.lt Nat _ D C := by omega
  have upA : ∀ b o, b ≠ C → hp1.get? b = some o → h₁.get? b = some o := fun b o hb e => hsb₁.extBut b o hb (Heap.get?_push_of_some _ (by rw [← hH2]; exact Heap.get?_push_of_some _ e))
  have hlt1 : ∀ b o, hp1.get? b = some o → @LT.lt Nat _ b D := fun b o e => hD ▸ Heap.lt_size e
  have upB : ∀ b o, hp1.get? b = some o → h₁.get? b = some o := fun b o e => upA b o (Nat.ne_of_lt (Nat.lt_trans (hlt1 b o e) lDC)) e
  have hacc : h₁.get? D = some (LCg.lst []) := hsb₁.extBut _ _ (Nat.ne_of_lt lDC) (Heap.get?_push_of_some _ (by rw [← hD, ← hH2]; exact Heap.get?_push_size _ rfl))
  have fresh₀ : ∀ a, @LE.le Nat _ I0 a → h₀.get? a = none := fun a ha => by
    cases e : h₀.get? a with
    | none => rfl
    | some o' => exact absurd (Nat.lt_of_lt_of_le (Heap.lt_size e) (Nat.le_trans F.above (Nat.le_of_lt hLI))) (Nat.not_lt.mpr ha)
  have hD₀ : h₀.get? D = none := fresh₀ _ (by omega)
  have hC₀ : h₀.get? C = none := fresh₀ _ (by omega)
  have hDL : D ≠ env.locals := Nat.ne_of_gt (by omega)
  have hCL : C ≠ env.locals := Nat.ne_of_gt (by omega)
  have hIL : env.locals ≠ I0 := Nat.ne_of_lt hLI
  have hCD : C ≠ D := Nat.ne_of_gt lDC
  have h0C : I0 ≠ C := Nat.ne_of_lt (by omega)
  have h0D : I0 ≠ D := Nat.ne_of_lt lID
  obtain ⟨oC0, heC0, hoC0⟩ := LCg.ns_obj hns₁
  have W := LCg.range_walks (prog := prog) (w := w) (A := A) (I := I0) hh a0 n0
  have loop : ∀ tk₁, codeAny (model prog w) A (.compLoop (e2 elt x0 p0 i0 x1 p1 i1 ct scope pos) 0 (.ref I0) (.ref D) (compEnvC scope cl C env))
      (compPost (model prog w) A E (some (assign (.Name y py) env)) (fun _ s' => Q .next s') (.ref D) C) { s with heap := h₁, toks := tk₁ } := by
    intro tk₁
    refine loop_out (fun k s' => ∃ h tk i ys tl oC m₂, s' = { s with heap := h, toks := tk } ∧ i ≤ n0 ∧ k = n0 + 1 - i ∧ IsRangeIter h I0 (a0 + (i : Nat) * 1) ((n0 : Int) - (i : Nat)) 1 ∧ Fr h₀ env.locals h m ∧ LCg.NsObj oC m₂ ∧
        News h₀ env.locals h ((C, oC) :: (D, LCg.lst ys) :: (cN, oN) :: (tl ++ R)) ∧ TupsAre tl ys (((rangeKs a0 n0).take i).foldl (twoRow pr f a1 n1) []) ∧ ys.length ≤ i * n1 ∧ (∀ p ∈ tl, p.1 ≠ I0 ∧ p.1 ≠ C ∧ @LT.lt Nat _ D p.1))
      (hs1 C) ?turn (n0 + 1) ⟨h₁, tk₁, 0, [], [], oC0, _, rfl, Nat.zero_le _, rfl, by simpa using upB _ _ hit, F.keeps upB, hoC0, ?n0, .nil, Nat.zero_le _, fun _ h => nomatch h⟩
    case n0 =>
      intro p hp
      rcases List.mem_cons.mp hp with rfl | hp
      · exact ⟨heC0, hCL, hC₀⟩
      rcases List.mem_cons.mp hp with rfl | hp
      · exact ⟨hacc, hDL, hD₀⟩
      · exact N.grown upB p hp
    rintro k s' ⟨h, tk, i, ys, tl, oC, m₂, rfl, hi, rfl, hst, F', hoC, N', hT, hlen, htl⟩
    have off : ∀ p ∈ (C, oC) :: (D, LCg.lst ys) :: (cN, oN) :: (tl ++ R), p.1 ≠ I0 := by
      intro p hp
      rcases List.mem_cons.mp hp with rfl | hp
      · exact Ne.symm h0C
      rcases List.mem_cons.mp hp with rfl | hp
      · exact Ne.symm h0D
      rcases List.mem_cons.mp hp with rfl | hp
      · exact Nat.ne_of_lt (hlt0 _ (.head _))
      rcases List.mem_append.mp hp with hp | hp
      · exact (htl p hp).1
      · exact Nat.ne_of_lt (hlt0 p (.tail _ hp))
    have offC : ∀ p ∈ (D, LCg.lst ys) :: (cN, oN) :: (tl ++ R), p.1 ≠ C := by
      intro p hp
      rcases List.mem_cons.mp hp with rfl | hp
      · exact Ne.symm hCD
      rcases List.mem_cons.mp hp with rfl | hp
      · exact Nat.ne_of_lt (by have := hlt0 _ (List.Mem.head _); omega)
      rcases List.mem_append.mp hp with hp | hp
      · exact (htl p hp).2.1
      · exact Nat.ne_of_lt (by have := hlt0 p (.tail _ hp); omega)
    by_cases hlt : i < n0
    · refine W.item i _ _ _ hlt hst fun v h₂ tk₂ hPv hst₂ hk₂ => ?_
      obtain ⟨t0, rfl⟩ := hPv
      have F₂ := LCg.fr_but F' hk₂ hIL hI₀
      have N₂ := LCg.news_but N' hk₂ off
      refine wpAny_assign_Name (wpAny_storeName_local (lookup_relabel_local hx0) (hoC.ns (N₂ (C, oC) (.head _)).1) (fun h₃ hn₃ hs₃ => ?_) (by simp [compEnvC, relabel, hkind]))
      obtain ⟨oC3, heC, hoC3⟩ := LCg.ns_obj hn₃
      have hst₃ : IsRangeIter h₃ I0 (a0 + (i + 1 : Nat) * 1) ((n0 : Int) - (i + 1 : Nat)) 1 := hs₃.extBut I0 _ h0C hst₂
      have F₃ : Fr h₀ env.locals h₃ m := F₂.change hs₃ hCL hC₀
      obtain ⟨o0, ho0⟩ : ∃ o, h₃.get? I0 = some o := ⟨_, hst₃⟩
      have N₃ : News h₀ env.locals h₃ ((I0, o0) :: (C, oC3) :: (D, LCg.lst ys) :: (cN, oN) :: (tl ++ R)) := by
        intro p hp
        rcases List.mem_cons.mp hp with rfl | hp
        · exact ⟨ho0, Ne.symm hIL, hI₀⟩
        rcases List.mem_cons.mp hp with rfl | hp
        · exact ⟨heC, hCL, hC₀⟩
        have z := N₂ p (.tail _ hp)
        exact ⟨hs₃.extBut _ _ (offC p hp) z.1, z.2⟩
      have hm3 : (if x0 = x0 then some (Value.int (a0 + (i : Int)) t0) else m₂ x0) = some (.int (a0 + (i : Int)) t0) := if_pos rfl
      refine wpAny_mono (Hs I0 C D o0 oC3 ys _ (a0 + (i : Int)) t0 (tl ++ R) h₃ _ _ (hP0 i hlt) hoC3 hm3 F₃ N₃) (fun xv s₁ hx => ?_) fun _ _ e => e
      obtain ⟨r1, t9, u9, v9, h₄, tk₄, rfl, rfl, F₄, N₄, rg1⟩ := hx
      refine wpAny_pyIter_range rg1 sm1 ?_
      generalize hI1 : h₄.objs.size = I1
      generalize hHp1 : h₄.push { cls := .type "range_iterator", data := .fields #[rawInt a1, rawInt (Builtin.Range.rangeSize a1 b1 1), rawInt 1] } = h₅
      have hit1 : IsRangeIter h₅ I1 a1 (n1 : Int) 1 := range_small_of hn1 (by rw [← hHp1, ← hI1]; exact Heap.get?_push_size _ rfl)
      have up1 : ∀ b o, h₄.get? b = some o → h₅.get? b = some o := fun b o e => hHp1 ▸ Heap.get?_push_of_some _ e
      have lt1 : ∀ p ∈ (I0, o0) :: (C, oC3) :: (D, LCg.lst ys) :: (cN, oN) :: (tl ++ R), @LT.lt Nat _ p.1 I1 := fun p hp => hI1 ▸ Heap.lt_size (N₄ p hp).1
      have hIC : @LT.lt Nat _ C I1 := lt1 (C, oC3) (.tail _ (.head _))
      have hID : @LT.lt Nat _ D I1 := lt1 (D, LCg.lst ys) (.tail _ (.tail _ (.head _)))
      have hI0I : @LT.lt Nat _ I0 I1 := lt1 (I0, o0) (.head _)
      have hrow : ((rangeKs a0 n0).take (i + 1)).foldl (twoRow pr f a1 n1) [] = twoRow pr f a1 n1 (((rangeKs a0 n0).take i).foldl (twoRow pr f a1 n1) []) (a0 + (i : Int)) := by
        rw [List.take_add_one, rangeKs_at a0 hlt]; simp
      have hmul : (i + 1) * n1 ≤ n0 * n1 := Nat.mul_le_mul_right _ hlt
      rw [Nat.succ_mul] at hmul
      have inner : ∀ RR : Result → Shared → Prop, (∀ s₅, (∃ k, k < n0 + 1 - i ∧ ∃ h tk i ys tl oC m₂, s₅ = { s with heap := h, toks := tk } ∧ i ≤ n0 ∧ k = n0 + 1 - i ∧ IsRangeIter h I0 (a0 + (i : Nat) * 1) ((n0 : Int) - (i : Nat)) 1 ∧ Fr h₀ env.locals h m ∧ LCg.NsObj oC m₂ ∧
          News h₀ env.locals h ((C, oC) :: (D, LCg.lst ys) :: (cN, oN) :: (tl ++ R)) ∧ TupsAre tl ys (((rangeKs a0 n0).take i).foldl (twoRow pr f a1 n1) []) ∧ ys.length ≤ i * n1 ∧ (∀ p ∈ tl, p.1 ≠ I0 ∧ p.1 ≠ C ∧ @LT.lt Nat _ D p.1)) → RR (.ok .next) s₅) →
          codeAny (model prog w) A (.compLoop (e2 elt x0 p0 i0 x1 p1 i1 ct scope pos) 1 (.ref I1) (.ref D) (compEnvC scope cl C env)) RR { s with heap := h₅, toks := tk₄ } := by
        intro RR hRR
        refine two_inner hh hkind hx1 h01 Ht He hP1 (hP0 i hlt) hCL hC₀ hDL hD₀ (Nat.ne_of_lt (Nat.lt_trans hLI hI0I)) (hI1 ▸ next_is_new F₄) hCD (Nat.ne_of_gt hIC) (Nat.ne_of_gt hID) h0C h0D (Nat.ne_of_lt hI0I)
          ?hR (i * n1) (by omega) ?done hit1 (F₄.keeps up1) hoC3 hm3 (N₄.grown up1) hT hlen ?htl
        case hR =>
          intro p hp
          refine ⟨Nat.ne_of_lt (lt1 p ?_), Nat.ne_of_lt ?_, Nat.ne_of_lt ?_⟩
          · rcases List.mem_cons.mp hp with rfl | hp
            · exact .tail _ (.tail _ (.tail _ (.head _)))
            · exact .tail _ (.tail _ (.tail _ (.tail _ (List.mem_append_right _ hp))))
          · have := hlt0 p hp; omega
          · have := hlt0 p hp; omega
        case htl =>
          intro p hp
          have h1 := htl p hp
          have h2 := lt1 p (.tail _ (.tail _ (.tail _ (.tail _ (List.mem_append_left _ hp)))))
          exact ⟨Nat.ne_of_lt h2, h1.1, h1.2.1, Nat.ne_of_gt h1.2.2, h1.2.2⟩
        case done =>
          intro h₆ tk₆ oC6 m₆ ys6 tl6 F₆ hoC6 N₆ hT6 hlen6 htl6
          refine hRR _ ⟨n0 + 1 - (i + 1), by omega, h₆, tk₆, i + 1, ys6, tl6, oC6, m₆, rfl, hlt, rfl, (N₆ (I0, o0) (.head _)).1.trans (ho0.symm.trans hst₃), F₆, hoC6, fun p hp => N₆ p (.tail _ hp), by rw [hrow]; exact hT6, by rw [Nat.succ_mul]; exact hlen6, ?_⟩
          intro p hp
          have h1 := htl6 p hp
          exact ⟨h1.2.1, h1.2.2.1, h1.2.2.2.2⟩
      refine start_in (inner _ fun s₅ h => h) (wpAny_pyIter_rangeiter hit1 (inner _ fun s₅ h => h))
    · obtain rfl : i = n0 := Nat.le_antisymm hi (Nat.not_lt.mp hlt)
      refine W.done _ _ _ hst fun h₂ tk₂ hk₂ => ?_
      have F₂ := LCg.fr_but F' hk₂ hIL hI₀
      have N₂ := LCg.news_but N' hk₂ off
      show wpAny _ A (assign (.Name y py) env (.ref D)) _ _ _
      refine wpAny_assign_Name (wpAny_storeName_local hy F₂.ns (fun h₃ hn₃ hs₃ => ?_) hp)
      have hL₀ : h₀.get? env.locals = none := Heap.get?_none_of_le F₂.above
      have F₃ : Fr h₀ env.locals h₃ (fun z => if z = y then some (.ref D) else m z) := ⟨hn₃, fun b o e => hs₃.extBut b o (fun q => by rw [q, hL₀] at e; cases e) (F₂.keep b o e), F₂.above⟩
      refine ⟨m₂, (hoC.ns (N₂ (C, oC) (.head _)).1).sameBut hs₃ hCL, fun h'' hs'' => done D h'' _ ys tl (F₃.change hs'' hCL hC₀) (fun p hp => ?_) ?_ hlen (fun p hp => (htl p hp).2.2) fun p hp => Nat.lt_trans (hlt0 p hp) lID⟩
      · have z : h₃.get? p.1 = some p.2 := hs₃.extBut _ _ (N₂ p (.tail _ hp)).2.1 (N₂ p (.tail _ hp)).1
        exact ⟨hs''.extBut _ _ (offC p hp) z, (N₂ p (.tail _ hp)).2⟩
      · have e : (rangeKs a0 i).take i = rangeKs a0 i := List.take_of_length_le (by rw [rangeKs_length]; exact Nat.le_refl _)
        rw [e] at hT
        exact hT
  exact codeAny_compStart_list (loop _) (W.self 0 _ _ _ (by simpa using upB _ _ hit) (loop _))
end
end

-- ZNP
open PySem PySem.W PyProof.Rows PySem.Calls PySem.Spec
set_option Elab.async false
section
set_option maxRecDepth 100000
set_option maxHeartbeats 8000000
def getIn (b : Option Stmt) (i k : Nat) : Option (Str × Scope × Stmt) := match b with
  | some (.FunctionDef n _ l _ _ _ sc _ _ _) => match l[i]? with
    | some (.For _ _ body _ _) => (body[k]?).map fun st => (n, sc, st)
    | _ => none
  | _ => none
def plP (number many first : Int) : Bool := decide (many * first + (many * (many - 1)).fdiv 2 = number) && decide (many ≤ 8)
def plainF (number : Int) : List (List Int) := twoF (plP number) (fun a b => [a, b]) 1 number.toNat 1 number.toNat
theorem plain_comp (w : World) (p : Program) (loose : List Str) (mean : ExcName → Option Value) (mg mb : Str → Option Value) (nm : Str) (sc : Scope) (st : Stmt) (hget : getIn (PySem.Challenge.pw_gb0004_02.main.body[13]?) 1 1 = some (nm, sc, st))
    (L fa cO cN : Addr) (cd : Value) (h₀ : Heap) (m : Str → Option Value) (s : Shared) (Q : Flow → Shared → Prop) (E : Value → Shared → Prop)
    (B : Below callerA h₀ [] h₀) (X : (Mine.hd.heap_39 w.params).In h₀) (T : Top p loose mean mg mb h₀)
    (number : Int) (tn : Tok) (h1 : 1 ≤ number) (h2 : number ≤ 30) (oN : Obj) (hN : oN.data = .cell (some (.int number tn))) (R : Led)
    (F : Fr h₀ L s.heap m) (N : News h₀ L s.heap ((cN, oN) :: R))
    (done : ∀ D h tk ys tl, Fr h₀ L h (fun z => if z = Str.ofString "plain" then some (.ref D) else m z) → News h₀ L h ((D, LCg.lst ys) :: (cN, oN) :: (tl ++ R)) → TupsAre tl ys (plainF number) →
      (∀ p ∈ tl, @LT.lt Nat _ D p.1) → (∀ p ∈ (cN, oN) :: R, @LT.lt Nat _ p.1 D) → Q .next { s with heap := h, toks := tk }) :
    wpAny (model PySem.Challenge.rw_gb0004_02.row.prog w) (callerA.deeper (envX nm sc L fa cd [("order", cO), ("number", cN)])) (exec st (envX nm sc L fa cd [("order", cO), ("number", cN)])) Q E s := by
  revert X
  k_fill
  intro X
  with_unfolding_all cases hget
  have hMk : KstMark := kstMark
  k_with_none
  refine' Assign_two (h₀ := h₀) (L := L) (m := m) (cN := cN) (oN := oN) (R := R) (cl := [("number", cN)]) (plP number) (fun a b => [a, b]) (fun k => 1 ≤ k ∧ k ≤ number) (fun k => 1 ≤ k ∧ k ≤ number) 1 (number + 1) number.toNat 1 (number + 1) number.toNat
    F N rfl rfl ?sw ?clos ?cell ?kind ?names ?x0 ?x1 ?x01 ?y ?hp ?s0 ?s1 ?h0 ?sm0 ?hn0 ?sm1 ?hn1 ?P0 ?P1 ?hB ?Hs ?Ht ?He ?done
  case sw => with_unfolding_all rfl
  case clos => with_unfolding_all rfl
  case cell => decide
  case kind => rfl
  case names => decide
  case x0 => rfl
  case x1 => rfl
  case x01 => decide
  case y => rfl
  case hp => rfl
  case s0 => intro _; rfl
  case s1 => intro _ _; rfl
  case sm0 => exact small_one (by omega) (by omega) (by omega) (by omega)
  case sm1 => exact small_one (by omega) (by omega) (by omega) (by omega)
  case hn0 => refine (rangeSize_nat _ _).trans ?_; omega
  case hn1 => refine (rangeSize_nat _ _).trans ?_; omega
  case P0 => (intro i hi; omega)
  case P1 => (intro i hi; omega)
  case hB => (rw [sizeLine_eq]; exact Nat.le_trans (Nat.mul_le_mul (show number.toNat ≤ 30 by omega) (show number.toNat ≤ 30 by omega)) (by decide))
  case done =>
    intro D h tk ys tl F' N' hT _ g1 g2
    exact done D h tk ys tl F' N' hT g1 g2
  case h0 =>
    k_steps
    (with_reducible rename IsRange _ _ _ _ _ _ _ _ => rg)
    (with_reducible rename Fr _ _ _ _ => eF)
    (with_reducible rename News _ _ _ _ => eN)
    exact ⟨_, _, _, _, _, _, rfl, rfl, eF, eN, rg⟩
  case Hs =>
    unfold TwoSrc
    intro I0 C D o0 oC ys m₂ k0 t0 nx h tk E' hk hoC hm0 F' N'
    clear F N done
    k_steps
    (with_reducible rename IsRange _ _ _ _ _ _ _ _ => rg)
    (with_reducible rename Fr _ _ _ _ => eF)
    (with_reducible rename News _ _ _ _ => eN)
    exact ⟨_, _, _, _, _, _, rfl, rfl, eF, eN, rg⟩
  case Ht =>
    unfold TwoTest
    intro I1 I0 C D o1 o0 oC ys m₂ k0 k1 t0 t1 nx h tk E' hk0 hk1 hoC hm0 hm1 F' N'
    clear F N done
    k_steps
    all_goals refine ⟨?_, _, rfl⟩
    all_goals (unfold plP; symm; simp only [Bool.and_eq_true, Bool.and_eq_false_iff, decide_eq_true_eq, decide_eq_false_iff_not])
    · exact ⟨by assumption, by assumption⟩
    · exact .inr (by assumption)
    · exact .inl (by assumption)
  case He =>
    unfold TwoElt
    intro I1 I0 C D o1 o0 oC ys m₂ k0 k1 t0 t1 nx h tk E' hk0 hk1 hpr hoC hm0 hm1 F' N'
    clear F N done
    k_steps
    (with_reducible rename @LT.lt Nat _ _ _ ∧ @LT.lt Nat _ _ _ ∧ @LT.lt Nat _ _ _ ∧ @LT.lt Nat _ _ _ ∧ @LT.lt Nat _ _ _ ∧ AllLt _ _ => zl)
    (with_reducible rename Fr _ _ _ _ => eF)
    (with_reducible rename News _ _ _ _ => eN)
    refine ⟨_, _, _, _, _, rfl, rfl, eF, eN, ?_, .cons _ _ (.cons _ _ .nil)⟩
    exact List.forall_mem_cons.mpr ⟨zl.1, List.forall_mem_cons.mpr ⟨zl.2.1, List.forall_mem_cons.mpr ⟨zl.2.2.1, List.forall_mem_cons.mpr ⟨zl.2.2.2.1, List.forall_mem_cons.mpr ⟨zl.2.2.2.2.1, kst_ltOf zl.2.2.2.2.2⟩⟩⟩⟩⟩
end
theorem reset_ZNP : True := by
  k_with_none
  w_top off
  exact True.intro

-- ZLR
open PySem PySem.W PyProof.Rows PySem.Calls PySem.Spec
set_option Elab.async false
set_option maxRecDepth 100000
section
theorem loop_rangeS {prog : Program} {w : World} {A : Around} {E : Value → Shared → Prop} {s : Shared} {env : Env} {h₀ : Heap} {x : Str} {body : List Stmt} {Q : Flow → Shared → Prop} {r : Addr} {a₀ b₀ c₀ : Int} {t₀ u₀ v₀ : Tok} {n : Nat} {m₀ : Str → Option Value} {news : Led} (J : Nat → (Str → Option Value) → Led → Prop)
    (hh : A.handled = none) (hr : IsRange s.heap r a₀ b₀ c₀ t₀ u₀ v₀) (hsmall : Builtin.Range.small a₀ b₀ c₀ = true) (hn : Builtin.Range.rangeSize a₀ b₀ c₀ = (n : Int)) (F : Fr h₀ env.locals s.heap m₀) (N : News h₀ env.locals s.heap news) (hj : J 0 m₀ news)
    (turn : ∀ I, Lo I news → ∀ i t m₁ nx h tk io, i < n → J i m₁ nx → (∀ p ∈ nx, p.1 ≠ I) → Fr h₀ env.locals h (fun y => if y = x then some (.int (a₀ + (i : Int) * c₀) t) else m₁ y) → News h₀ env.locals h ((I, io) :: nx) →
      wpAny (model prog w) A (execs body env) (GPost h₀ env.locals I io (J (i + 1)) { s with heap := h, toks := tk } Q) E { s with heap := h, toks := tk })
    (done : ∀ m₁ nx h tk, J n m₁ nx → Fr h₀ env.locals h m₁ → News h₀ env.locals h nx → Q .next { s with heap := h, toks := tk }) :
    wpAny (model prog w) A (pyIter (.ref r)) (fun it s₂ => LoopAtV prog w A h₀ env x body Q E it s₂) E s := by
  refine wpAny_pyIter_range hr hsmall ?_
  have W : Walks prog w A s.heap.objs.size [s.heap.objs.size] [s.heap.objs.size] n (fun i v => i < n ∧ ∃ t, v = .int (a₀ + i * c₀) t)
      (fun i h => IsRangeIter h s.heap.objs.size (a₀ + (i : Nat) * c₀) ((n : Int) - (i : Nat)) c₀) := (Walks.range hh _ a₀ c₀ n).bound
  refine loopG (fixed := []) J W ?_ ?_ (next_is_new F) ?_ ?_ (by show IsRangeIter _ _ _ _ _; rw [hn]; simpa using Heap.get?_push_size _ rfl) (F.push _) (fun p hp => ⟨Heap.get?_push_of_some _ (N p hp).1, (N p hp).2⟩) hj (fun _ _ _ _ p hp => nomatch hp) ?_ done
  · intro b hb
    exact .inl (List.mem_singleton.mp hb)
  · intro i h hst
    exact ⟨_, hst⟩
  · intro e
    exact absurd F.ns.lt (e ▸ Nat.lt_irrefl _)
  · intro p hp e
    exact absurd (Heap.lt_size (N p hp).1) (e ▸ Nat.lt_irrefl _)
  · rintro i v m₁ nx h tk io hi ⟨_, t, rfl⟩ hJ hnx F₁ N₁
    exact turn _ (Lo.of N) i t m₁ nx h tk io hi hJ hnx F₁ N₁
end

-- ZO
open PySem PySem.W PyProof.Rows PySem.Calls PySem.Spec
set_option Elab.async false
section

set_option maxRecDepth 100000
set_option maxHeartbeats 8000000
/-- the loop that stands k-th in the body of the loop that stands i-th -/
def getFor2 (b : Option Stmt) (i k : Nat) : Option (Str × Scope × Str × List Stmt) := match b with
  | some (.FunctionDef n _ l _ _ _ sc _ _ _) => match l[i]? with
    | some (.For _ _ body _ _) => match body[k]? with
      | some (.For (.Name x _) _ body2 _ _) => some (n, sc, x, body2)
      | _ => none
    | _ => none
  | _ => none
def oddN (number : Int) : Nat := ((number + 1) / 2).toNat
def oddKs (number : Int) : List Int := (List.range (oddN number)).map fun i : Nat => 1 + (i : Int) * 2
def orderTurn (number : Int) (acc : List (List Int)) (odd : Int) : List (List Int) := if number % odd = 0 then insT acc (wayF number odd) else acc
def orderF (number : Int) : List (List Int) := (oddKs number).foldl (orderTurn number) []
theorem oddKs_get {number : Int} {i : Nat} (h : i < oddN number) : (oddKs number)[i]? = some (1 + (i : Int) * 2) := by
  unfold oddKs
  rw [List.getElem?_map, List.getElem?_range h]; rfl
theorem insT_len (ns : List (List Int)) (x : List Int) : (insT ns x).length = ns.length + 1 := by
  obtain ⟨b0, b1⟩ := bisT_bd ns x
  unfold insT
  simp only [List.length_append, List.length_take, List.length_cons, List.length_drop]
  omega
theorem small_odd : ∀ i : Fin 30, Builtin.Range.small 1 ((i.val : Int) + 1 + 1) 2 = true := by decide +kernel
theorem oddloop (w : World) (p : Program) (loose : List Str) (mean : ExcName → Option Value) (mg mb : Str → Option Value) (nm : Str) (sc : Scope) (x : Str) (body : List Stmt) (hget : getFor2 (PySem.Challenge.pw_gb0004_02.main.body[13]?) 1 3 = some (nm, sc, x, body))
    (L fa cO cN : Addr) (cd : Value) (h₀ : Heap) (m0 : Str → Option Value) (s : Shared) (Q : Flow → Shared → Prop) (E : Value → Shared → Prop)
    (B : Below callerA h₀ [] h₀) (X : (Mine.hd.heap_39 w.params).In h₀) (T : Top p loose mean mg mb h₀) (hE : PassesOwn (model PySem.Challenge.rw_gb0004_02.row.prog w) (callerA.deeper (envX nm sc L fa cd [("order", cO), ("number", cN)])) (envX nm sc L fa cd [("order", cO), ("number", cN)]) E)
    (l r : Addr) (number : Int) (tn : Tok) (n1 : 1 ≤ number) (n2 : number ≤ 30) (oO oN : Obj) (hO : oO.data = .cell (some (.ref l))) (hN : oN.data = .cell (some (.int number tn))) (ps qs : Array Value) (R R0 : Led) (h00 : ∀ p ∈ R0, p ∈ R) (t₀ u₀ v₀ : Tok)
    (hr : IsRange s.heap r 1 (number + 1) 2 t₀ u₀ v₀) (F : Fr h₀ L s.heap m0) (N : News h₀ L s.heap ((l, W.listOf #[] 0) :: (30, tabObj ps) :: (37, tabObj qs) :: (cO, oO) :: (cN, oN) :: R))
    (hP : TabSt 32 4 inQ1 ps R0) (hQ : TabSt 47 4 inQ2 qs R0) (hR : ∀ p ∈ R, p.1 ≠ l ∧ p.1 ≠ 30 ∧ p.1 ≠ 37 ∧ p.1 ≠ cO ∧ p.1 ≠ cN)
    (l30 : @LT.lt Nat _ 30 l) (l37 : @LT.lt Nat _ 37 l) (lO : @LT.lt Nat _ cO l) (lN : @LT.lt Nat _ cN l) (c37 : @LT.lt Nat _ 37 cN) (cNO : @LT.lt Nat _ cN cO)
    (done : ∀ (m' : Str → Option Value) (h : Heap) (tk : Nat) (vo : List Value) (c : Nat) (ps qs : Array Value) (tl : Led), Fr h₀ L h m' → News h₀ L h ((l, W.listOf vo.toArray c) :: (30, tabObj ps) :: (37, tabObj qs) :: (cO, oO) :: (cN, oN) :: (tl ++ R)) →
      TupsAre tl vo (orderF number) → TabSt 32 4 inQ1 ps (tl ++ R0) → TabSt 47 4 inQ2 qs (tl ++ R0) → (∀ p ∈ tl, @LT.lt Nat _ l p.1) → (∀ z : Str, z ≠ Str.ofString "odd" → m' z = m0 z) → Q .next { s with heap := h, toks := tk }) :
    wpAny (model PySem.Challenge.rw_gb0004_02.row.prog w) (callerA.deeper (envX nm sc L fa cd [("order", cO), ("number", cN)])) (pyIter (.ref r)) (fun it s₂ => LoopAtV PySem.Challenge.rw_gb0004_02.row.prog w (callerA.deeper (envX nm sc L fa cd [("order", cO), ("number", cN)])) h₀ (envX nm sc L fa cd [("order", cO), ("number", cN)]) x body Q E it s₂) E s := by
  revert X
  k_fill
  intro X
  with_unfolding_all cases hget
  have hMk : KstMark := kstMark
  k_with_none
  k_with "call ref" => (refine stop_here ?_)
  have sub0 : ∀ tl : Led, ∀ p ∈ tl ++ R0, p ∈ tl ++ R := fun tl p h => (List.mem_append.mp h).elim (fun h => List.mem_append_left _ h) (fun h => List.mem_append_right _ (h00 p h))
  have hon : 2 * (oddN number : Int) ≤ number + 1 := by unfold oddN; omega
  refine' loop_rangeS (n := oddN number) (m₀ := m0) (fun i m nx => ∃ (vo : List Value) (c : Nat) (ps qs : Array Value) (tl : Led), nx = (l, W.listOf vo.toArray c) :: (30, tabObj ps) :: (37, tabObj qs) :: (cO, oO) :: (cN, oN) :: (tl ++ R) ∧ TupsAre tl vo (((oddKs number).take i).foldl (orderTurn number) []) ∧
      TabSt 32 4 inQ1 ps (tl ++ R0) ∧ TabSt 47 4 inQ2 qs (tl ++ R0) ∧ (∀ p ∈ tl, @LT.lt Nat _ l p.1) ∧ (((oddKs number).take i).foldl (orderTurn number) []).length ≤ i ∧ ∀ z : Str, z ≠ Str.ofString "odd" → m z = m0 z) rfl hr ?hs ?hn F N ?hj ?turn ?done
  case hs =>
    obtain ⟨i, hi⟩ : ∃ i : Fin 30, (i.val : Int) + 1 = number := ⟨⟨(number - 1).toNat, by omega⟩, by show (((number - 1).toNat : Nat) : Int) + 1 = _; omega⟩
    rw [← hi]
    exact small_odd i
  case hn => (unfold Builtin.Range.rangeSize oddN; simp only [show (2 : Int) > 0 by decide, if_true]; split <;> omega)
  case hj => exact ⟨[], 0, ps, qs, [], rfl, .nil, hP, hQ, (fun _ h => nomatch h), Nat.le_refl _, fun _ _ => rfl⟩
  case done =>
    rintro m' nx h tk ⟨vo, c, ps, qs, tl, rfl, hT, hP, hQ, hU, _, h3⟩ F' N'
    have e : (oddKs number).take (oddN number) = oddKs number := List.take_of_length_le (by unfold oddKs; rw [List.length_map, List.length_range]; exact Nat.le_refl _)
    rw [e] at hT
    exact done m' h tk vo c ps qs tl F' N' hT hP hQ hU h3
  case turn =>
    rintro I hI i t m₁ nx h tk io hi ⟨vo, c, ps, qs, tl, rfl, hT, hP, hQ, hU, hlen, h3⟩ hnx F₁ N₁
    have hs : (((oddKs number).take (i + 1)).foldl (orderTurn number) []) = orderTurn number (((oddKs number).take i).foldl (orderTurn number) []) (1 + (i : Int) * 2) := by
      rw [List.take_add_one, oddKs_get hi]; simp
    rw [hs]
    generalize (((oddKs number).take i).foldl (orderTurn number) []) = od at *
    have hI30 : @LT.lt Nat _ 30 I := hI (30, tabObj _) (.tail _ (.head _))
    have hI37 : @LT.lt Nat _ 37 I := hI (37, tabObj _) (.tail _ (.tail _ (.head _)))
    have hIl : @LT.lt Nat _ l I := hI (l, W.listOf #[] 0) (.head _)
    have hIO : @LT.lt Nat _ cO I := hI (cO, oO) (.tail _ (.tail _ (.tail _ (.head _))))
    have hIN : @LT.lt Nat _ cN I := hI (cN, oN) (.tail _ (.tail _ (.tail _ (.tail _ (.head _)))))
    have hR30 : ∀ p ∈ tl ++ R, p.1 ≠ 30 := fun p hp => (List.mem_append.mp hp).elim (fun h => Nat.ne_of_gt (Nat.lt_trans l30 (hU p h))) fun h => (hR p h).2.1
    have hR37 : ∀ p ∈ tl ++ R, p.1 ≠ 37 := fun p hp => (List.mem_append.mp hp).elim (fun h => Nat.ne_of_gt (Nat.lt_trans l37 (hU p h))) fun h => (hR p h).2.2.1
    have hRl : ∀ p ∈ tl ++ R, p.1 ≠ l := fun p hp => (List.mem_append.mp hp).elim (fun h => Nat.ne_of_gt (hU p h)) fun h => (hR p h).1
    have hRO : ∀ p ∈ tl ++ R, p.1 ≠ cO := fun p hp => (List.mem_append.mp hp).elim (fun h => Nat.ne_of_gt (Nat.lt_trans lO (hU p h))) fun h => (hR p h).2.2.2.1
    have hRN : ∀ p ∈ tl ++ R, p.1 ≠ cN := fun p hp => (List.mem_append.mp hp).elim (fun h => Nat.ne_of_gt (Nat.lt_trans lN (hU p h))) fun h => (hR p h).2.2.2.2
    have hRI : ∀ p ∈ tl ++ R, p.1 ≠ I := fun p hp => hnx p (.tail _ (.tail _ (.tail _ (.tail _ (.tail _ hp)))))
    have hodd : 1 + (i : Int) * 2 < 42 := by omega
    have hodd0 : 0 < 1 + (i : Int) * 2 := by omega
    clear done hr F N hI
    k_steps
    (with_reducible rename News _ _ _ _ => nS)
    have nS1 := news_sub (l' := (30, tabObj ps) :: (37, tabObj qs) :: ((I, io) :: (l, W.listOf vo.toArray c) :: (cO, oO) :: (cN, oN) :: (tl ++ R))) nS (by
      intro p9 h9
      simp only [List.mem_cons, List.mem_append] at h9 ⊢
      rcases h9 with h | h | h | h | h | h | h | h <;> simp [h])
    refine go_on ?_
    refine' int_divmod_con w p loose mean mg mb number (1 + (i : Int) * 2) _ _ ((I, io) :: (l, W.listOf vo.toArray c) :: (cO, oO) :: (cN, oN) :: (tl ++ R)) (tl ++ R0) ps qs (fun p h => .tail _ (.tail _ (.tail _ (.tail _ (sub0 tl p h))))) (by omega) (by omega) hodd0 hodd (by k_all) (by k_all) hP hQ _ _ _ _ _ _ _ _ _ _ _ _ _ _ _ _ _ ?a1r1 ?a1r2 ?a1r3 ?a1r4 ?a1r5 ?a1r0 ?a1r6 ?a1r7 ?a1r8
    case a1r1 => k_asm
    case a1r2 => k_asm
    case a1r3 => k_asm
    case a1r4 => exact nS1
    case a1r5 => k_asm
    case a1r0 => first | exact rfl | assumption
    case a1r6 => ktr_room
    case a1r7 => ktr_units
    case a1r8 =>
    intro ra1 nwa1 ha1 tka1 Fa1 Na1 hOa1
    obtain ⟨Dt, u1, u2, c9, tl2, ps2, qs2, rfl, rfl, hU1, hU2, hL, ho, hn, hti, htd⟩ := hOa1
    try dsimp only
    try k_fold
    replace Na1 := news_sub (l' := (Dt, tup2 (.int (number / (1 + (i : Int) * 2)) u1) (.int (number % (1 + (i : Int) * 2)) u2) c9) :: (30, tabObj ps2) :: (37, tabObj qs2) :: ((I, io) :: (l, W.listOf vo.toArray c) :: (cO, oO) :: (cN, oN) :: (tl2 ++ (tl ++ R)))) Na1 (by
      intro p9 h9
      simp only [List.mem_cons, List.mem_append] at h9 ⊢
      rcases h9 with h | h | h | h | h | h | h | h | h <;> simp [h])
    have hl2 : ∀ p ∈ tl2 ++ tl, @LT.lt Nat _ l p.1 := fun p hp => (List.mem_append.mp hp).elim (ho (l, W.listOf vo.toArray c) (.tail _ (.head _)) p) (hU p)
    have hRI2 : ∀ p ∈ tl2 ++ (tl ++ R), p.1 ≠ I := fun p hp => (List.mem_append.mp hp).elim (fun h => Nat.ne_of_gt (ho (I, io) (.head _) p h)) (hRI p)
    have hDI : @LT.lt Nat _ I Dt := hL (I, io) (List.mem_append_right _ (.head _))
    clear ho hn
    k_steps
    rotate_left
    · (with_reducible rename Fr _ _ _ _ => eF)
      (with_reducible rename News _ _ _ _ => eN)
      dsimp only [GPost]
      refine GEnd.intro eF (news_sub (l' := (I, io) :: (l, W.listOf vo.toArray c) :: (30, tabObj ps2) :: (37, tabObj qs2) :: (cO, oO) :: (cN, oN) :: ((tl2 ++ tl) ++ R)) eN ?eN1) ?eN2 ⟨vo, c, ps2, qs2, tl2 ++ tl, rfl, ?eT, ?eP, ?eQ, hl2, ?el, ?e3⟩
      case eN1 => (intro p9 h9; simp only [List.mem_cons, List.mem_append, or_assoc] at h9 ⊢; rcases h9 with h | h | h | h | h | h | h | h | h <;> simp [h])
      case eN2 => (rw [List.append_assoc]; exact List.forall_mem_cons.mpr ⟨by k_ne, List.forall_mem_cons.mpr ⟨by k_ne, List.forall_mem_cons.mpr ⟨by k_ne, List.forall_mem_cons.mpr ⟨by k_ne, List.forall_mem_cons.mpr ⟨by k_ne, hRI2⟩⟩⟩⟩⟩)
      case eT => (rw [orderTurn, if_neg (by assumption)]; exact hT.mono fun _ h => List.mem_append_right _ h)
      case eP => (rw [List.append_assoc]; exact hU1)
      case eQ => (rw [List.append_assoc]; exact hU2)
      case el => (rw [orderTurn, if_neg (by assumption)]; omega)
      case e3 => (intro z g; simp only [if_neg g]; exact h3 z g)
    (with_reducible rename number % _ = 0 => hmod)
    have hR30b : ∀ p ∈ tl2 ++ (tl ++ R), p.1 ≠ 30 := fun p hp => (List.mem_append.mp hp).elim (fun h => Nat.ne_of_gt (Nat.lt_trans l30 (hl2 p (List.mem_append_left _ h)))) (hR30 p)
    have hR37b : ∀ p ∈ tl2 ++ (tl ++ R), p.1 ≠ 37 := fun p hp => (List.mem_append.mp hp).elim (fun h => Nat.ne_of_gt (Nat.lt_trans l37 (hl2 p (List.mem_append_left _ h)))) (hR37 p)
    have hRlb : ∀ p ∈ tl2 ++ (tl ++ R), p.1 ≠ l := fun p hp => (List.mem_append.mp hp).elim (fun h => Nat.ne_of_gt (hl2 p (List.mem_append_left _ h))) (hRl p)
    (with_reducible rename News _ _ _ _ => nS2)
    have nS3 := news_sub (l' := (30, tabObj ps2) :: (37, tabObj qs2) :: ((I, io) :: (l, W.listOf vo.toArray c) :: (cO, oO) :: (cN, oN) :: (tl2 ++ (tl ++ R)))) nS2 (fun p h => .tail _ h)
    refine go_on ?_
    refine' law_way_con w p loose mean mg mb number (1 + (i : Int) * 2) _ _ ((I, io) :: (l, W.listOf vo.toArray c) :: (cO, oO) :: (cN, oN) :: (tl2 ++ (tl ++ R))) (tl2 ++ (tl ++ R0)) ps2 qs2 (fun p h => .tail _ (.tail _ (.tail _ (.tail _ ((List.mem_append.mp h).elim (fun h => List.mem_append_left _ h) (fun h => List.mem_append_right _ (sub0 tl p h))))))) (by omega) (by omega) hodd0 hodd (by k_all) (by k_all) hU1 hU2 _ _ _ _ _ _ _ _ _ _ _ _ _ _ _ _ _ ?a2r1 ?a2r2 ?a2r3 ?a2r4 ?a2r5 ?a2r0 ?a2r6 ?a2r7 ?a2r8
    case a2r1 => k_asm
    case a2r2 => k_asm
    case a2r3 => k_asm
    case a2r4 => exact nS3
    case a2r5 => k_asm
    case a2r0 => first | exact rfl | assumption
    case a2r6 => ktr_room
    case a2r7 => ktr_units
    case a2r8 =>
    intro ra2 nwa2 ha2 tka2 Fa2 Na2 hOa2
    obtain ⟨D, us, cu, tl3, ps3, qs3, rfl, rfl, hus, hV1, hV2, hLD, ho3, hn3, hD30, hD37⟩ := hOa2
    try dsimp only
    try k_fold
    replace Na2 := news_sub (l' := (D, tupO us cu) :: (30, tabObj ps3) :: (37, tabObj qs3) :: ((I, io) :: (l, W.listOf vo.toArray c) :: (cO, oO) :: (cN, oN) :: (tl3 ++ (tl2 ++ (tl ++ R))))) Na2 (by
      intro p9 h9
      simp only [List.mem_cons, List.mem_append] at h9 ⊢
      rcases h9 with h | h | h | h | h | h | h | h | h | h | h <;> simp [h])
    have hDl : @LT.lt Nat _ l D := hLD (l, W.listOf vo.toArray c) (List.mem_append_right _ (.tail _ (.head _)))
    have hDI2 : @LT.lt Nat _ I D := hLD (I, io) (List.mem_append_right _ (.head _))
    have hDO : @LT.lt Nat _ cO D := Nat.lt_trans lO hDl
    have hDN : @LT.lt Nat _ cN D := Nat.lt_trans lN hDl
    have hl3 : ∀ p ∈ tl3 ++ (tl2 ++ tl), @LT.lt Nat _ l p.1 := fun p hp => (List.mem_append.mp hp).elim (ho3 (l, W.listOf vo.toArray c) (.tail _ (.head _)) p) (hl2 p)
    have hRI3 : ∀ p ∈ tl3 ++ (tl2 ++ (tl ++ R)), p.1 ≠ I := fun p hp => (List.mem_append.mp hp).elim (fun h => Nat.ne_of_gt (ho3 (I, io) (.head _) p h)) (hRI2 p)
    have hRlc : ∀ p ∈ tl3 ++ (tl2 ++ (tl ++ R)), p.1 ≠ l := fun p hp => (List.mem_append.mp hp).elim (fun h => Nat.ne_of_gt (ho3 (l, W.listOf vo.toArray c) (.tail _ (.head _)) p h)) (hRlb p)
    clear ho3 hn3
    k_steps
    (with_reducible rename News _ _ _ _ => nS4)
    refine go_on ?_
    refine' insort_con w p loose mean mg mb D us (wayF number (1 + (i : Int) * 2)) cu l c vo od ((D, tupO us cu) :: (I, io) :: (30, tabObj ps3) :: (37, tabObj qs3) :: (cO, oO) :: (cN, oN) :: (tl3 ++ (tl2 ++ (tl ++ R)))) ((D, tupO us cu) :: (tl3 ++ (tl2 ++ tl))) ?i1 (hT.mono (fun _ h => .tail _ (List.mem_append_right _ (List.mem_append_right _ h)))) (by omega) (.head _) hus (by k_all) _ _ _ _ _ _ _ _ _ _ _ _ _ _ _ _ _ ?a3r1 ?a3r2 ?a3r3 ?a3r4 ?a3r5 ?a3r0 ?a3r6 ?a3r7 ?a3r8
    case a3r1 => k_asm
    case a3r2 => k_asm
    case a3r3 => k_asm
    case a3r4 => exact news_sub nS4 (by
      intro p9 h9
      simp only [List.mem_cons, List.mem_append] at h9 ⊢
      rcases h9 with h | h | h | h | h | h | h | h | h | h | h <;> simp [h])
    case i1 => (intro p9 h9; simp only [List.mem_cons, List.mem_append] at h9 ⊢; rcases h9 with h | h | h | h <;> simp [h])
    case a3r5 => k_asm
    case a3r0 => first | exact rfl | assumption
    case a3r6 => ktr_room
    case a3r7 => ktr_units
    case a3r8 =>
    intro ra3 nwa3 ha3 tka3 Fa3 Na3 hOa3
    obtain ⟨rfl, vo2, hT2, rfl⟩ := hOa3
    try dsimp only
    try k_fold
    k_steps
    (with_reducible rename Fr _ _ _ _ => eF)
    (with_reducible rename News _ _ _ _ => eN)
    dsimp only [GPost]
    refine GEnd.intro eF (news_sub (l' := (I, io) :: (l, W.listOf vo2.toArray (c + 1)) :: (30, tabObj ps3) :: (37, tabObj qs3) :: (cO, oO) :: (cN, oN) :: (((D, tupO us cu) :: (tl3 ++ (tl2 ++ tl))) ++ R)) eN ?eN1) ?eN2 ⟨vo2, c + 1, ps3, qs3, (D, tupO us cu) :: (tl3 ++ (tl2 ++ tl)), rfl, ?eT, ?eP, ?eQ, ?eU, ?el, ?e3⟩
    case eN1 => (intro p9 h9; simp only [List.cons_append, List.mem_cons, List.mem_append, or_assoc] at h9 ⊢; rcases h9 with h | h | h | h | h | h | h | h | h | h | h <;> simp [h])
    case eN2 => (simp only [List.cons_append, List.append_assoc]; exact List.forall_mem_cons.mpr ⟨by k_ne, List.forall_mem_cons.mpr ⟨by k_ne, List.forall_mem_cons.mpr ⟨by k_ne, List.forall_mem_cons.mpr ⟨by k_ne, List.forall_mem_cons.mpr ⟨by k_ne, List.forall_mem_cons.mpr ⟨by k_ne, hRI3⟩⟩⟩⟩⟩⟩)
    case eT => (rw [orderTurn, if_pos hmod]; exact hT2)
    case eP => (simp only [List.cons_append, List.append_assoc]; exact hV1.mono fun _ h => .tail _ h)
    case eQ => (simp only [List.cons_append, List.append_assoc]; exact hV2.mono fun _ h => .tail _ h)
    case eU => exact List.forall_mem_cons.mpr ⟨hDl, hl3⟩
    case el => (rw [orderTurn, if_pos hmod, insT_len]; omega)
    case e3 => (intro z g; simp only [if_neg g]; exact h3 z g)
end
theorem reset_ZO : True := by
  k_with_none
  w_top off
  exact True.intro

-- ZFT
open PySem PySem.W PyProof.Rows PySem.Calls PySem.Spec
set_option Elab.async false
section
set_option maxRecDepth 100000
set_option maxHeartbeats 4000000
section
variable {prog : Program} {w : World} {A : Around} {E : Value → Shared → Prop} {s : Shared} {h₀ : Heap} {L r : Addr} {m : Str → Option Value} {news : Led}
/-- sum of a range -/
theorem sum_rangeK {a b : Int} {t u v : Tok} {n : Nat} {Q : Value → Shared → Prop} (hh : A.handled = none) (F : Fr h₀ L s.heap m) (N : News h₀ L s.heap news) (hr : IsRange s.heap r a b 1 t u v) (sm : Builtin.Range.small a b 1 = true) (hn : Builtin.Range.rangeSize a b 1 = (n : Int))
    (h : ∀ h' tk t', Fr h₀ L h' m → News h₀ L h' news → Q (.int (preSum (fun i : Nat => a + (i : Int)) n) t') { s with heap := h', toks := tk }) :
    wpAny (model prog w) A (call (.builtin "sum") [.ref r]) Q E s := by
  have W := (LCg.range_walks (prog := prog) (w := w) (A := A.in1) (I := s.heap.objs.size) hh a n).toS
  refine call_sum_walkAnyS (wpAny_pyIter_range hr sm ?_)
  refine ⟨s.heap.objs.size, _, _, _, _, _, _, fun i : Nat => a + (i : Int), rfl, W, ?_, fun b hb => ?_, fun i v hP => hP, fun s' t' hm => ?_⟩
  · show IsRangeIter _ _ _ _ _
    rw [hn]
    simpa using Heap.get?_push_size _ rfl
  · rw [List.mem_singleton.mp hb]
    exact Heap.lt_size (Heap.get?_push_size _ rfl)
  · obtain ⟨h', g', d', tk', os'⟩ := s'
    have e1 : g' = s.gens := hm.gens
    have e2 : d' = s.drawn := hm.drawn
    have e3 : os' = s.os := hm.os
    subst e1 e2 e3
    have up : ∀ b o, s.heap.get? b = some o → h'.get? b = some o := fun b o e => hm.heap b o (fun hb => absurd (Heap.lt_size e) ((List.mem_singleton.mp hb) ▸ Nat.lt_irrefl _)) (Heap.get?_push_of_some _ e)
    exact h h' tk' t' (F.keeps up) (N.grown up)
end
def triL : List Int := (rangeKs 0 32).map fun k : Int => (k * (k + 1)).fdiv 2
/-- what the law asks of one way -/
def Good (number many first : Int) : Prop := (1 ≤ many ∧ 1 ≤ first ∧ first + many ≤ 32) ∧ preSum (fun i : Nat => first + (i : Int)) (first + many - first).toNat = number ∧
  bisI triL (triL.getD (first + many - 1).toNat 0 - number) = first - 1 ∧ triL.getD (first - 1).toNat 0 + number = triL.getD (first + many - 1).toNat 0
/-- the body of the loop by two names that stands k-th in the body of the loop that stands i-th -/
def getBodyT (b : Option Stmt) (i k : Nat) : Option (Str × Scope × List Stmt) := match b with
  | some (.FunctionDef n _ l _ _ _ sc _ _ _) => match l[i]? with
    | some (.For _ _ body _ _) => match body[k]? with
      | some (.For _ _ body2 _ _) => some (n, sc, body2)
      | _ => none
    | _ => none
  | _ => none
theorem triL_len : triL.length = 32 := by decide
theorem tri_bd (i : Nat) : 0 ≤ triL.getD i 0 ∧ triL.getD i 0 ≤ 496 := by
  by_cases h : i < 32
  · have : ∀ j : Fin 32, 0 ≤ triL.getD j.val 0 ∧ triL.getD j.val 0 ≤ 496 := by decide
    exact this ⟨i, h⟩
  · have e : triL.getD i 0 = 0 := by rw [List.getD, List.getElem?_eq_none (by rw [triL_len]; omega)]; rfl
    rw [e]; omega
theorem wayturn (w : World) (p : Program) (loose : List Str) (mean : ExcName → Option Value) (mg mb : Str → Option Value) (nm : Str) (sc : Scope) (body : List Stmt) (hget : getBodyT (PySem.Challenge.pw_gb0004_02.main.body[13]?) 1 6 = some (nm, sc, body))
    (L fa cO cN : Addr) (cd : Value) (h₀ : Heap) (m : Str → Option Value) (s : Shared) (Q : Flow → Shared → Prop) (E : Value → Shared → Prop)
    (B : Below callerA h₀ [] h₀) (X : (Mine.hd.heap_39 w.params).In h₀) (T : Top p loose mean mg mb h₀) (hE : PassesOwn (model PySem.Challenge.rw_gb0004_02.row.prog w) (callerA.deeper (envX nm sc L fa cd [("order", cO), ("number", cN)])) (envX nm sc L fa cd [("order", cO), ("number", cN)]) E)
    (R : Led) (S : Addr) (ys : List Value) (number many first : Int) (tn ta tb : Tok) (oN : Obj) (hN : oN.data = .cell (some (.int number tn))) (hg : Good number many first) (h30 : 1 ≤ number ∧ number ≤ 30) (hys : IntsAre ys triL)
    (F : Fr h₀ L s.heap m) (N : News h₀ L s.heap ((S, LCg.lst ys) :: (cN, oN) :: R))
    (hma : m (Str.ofString "many") = some (.int many ta)) (hmb : m (Str.ofString "first") = some (.int first tb)) (hms : m (Str.ofString "sums") = some (.ref S))
    (done : ∀ (m' : Str → Option Value) (h : Heap) (tk : Nat), Fr h₀ L h m' → News h₀ L h ((S, LCg.lst ys) :: (cN, oN) :: R) → (∀ z : Str, z ≠ Str.ofString "place" → m' z = m z) → Q .next { s with heap := h, toks := tk }) :
    wpAny (model PySem.Challenge.rw_gb0004_02.row.prog w) (callerA.deeper (envX nm sc L fa cd [("order", cO), ("number", cN)])) (execs body (envX nm sc L fa cd [("order", cO), ("number", cN)])) Q E s := by
  revert X
  k_fill
  intro X
  with_unfolding_all cases hget
  have hMk : KstMark := kstMark
  k_with_none
  k_with "call ref" => (refine stop_here ?_)
  k_with "subscriptTail" => (k_here; k_dflt (refine' ksa_sub ?zk1 ?zkm hys ?zk2 ?zk3 ?zk4 ?_ ?zk7; (case zk1 => k_asm); (case zkm => exact .head _); (case zk2 => omega); (case zk3 => (rw [triL_len]; omega)); (case zk4 => omega); (case zk7 => with_unfolding_all rfl); k_whole; intro t9))
  k_with "call builtin:sum" => (k_here; k_dflt (refine' sum_rangeK ?zs0 ?zs1 ?zs2 ?zs3 ?zs4 ?zs5 ?_; (case zs0 => rfl); (case zs1 => k_asm); (case zs2 => k_asm); (case zs3 => with_reducible assumption); (case zs4 => exact small_one (by omega) (by omega) (by omega) (by omega)); (case zs5 => exact rangeSize_nat _ _); k_whole; intro hS tkS tS FS NS))
  obtain ⟨⟨g1, g2, g3⟩, g4, g5, g6⟩ := hg
  have hem : ∀ y : Str, (if y = Str.ofString "many" then some (Value.int many ta) else if y = Str.ofString "first" then some (Value.int first tb) else if y = Str.ofString "sums" then some (Value.ref S) else m y) = m y := by
    intro y
    by_cases h1 : y = Str.ofString "many"
    · rw [if_pos h1, h1, hma]
    · rw [if_neg h1]
      by_cases h2 : y = Str.ofString "first"
      · rw [if_pos h2, h2, hmb]
      · rw [if_neg h2]
        by_cases h3 : y = Str.ofString "sums"
        · rw [if_pos h3, h3, hms]
        · rw [if_neg h3]
  have F2 : Fr h₀ L s.heap (fun y => if y = Str.ofString "many" then some (.int many ta) else if y = Str.ofString "first" then some (.int first tb) else if y = Str.ofString "sums" then some (.ref S) else m y) := by
    rw [funext hem]; exact F
  clear F
  have b1 := tri_bd (first + many - 1).toNat
  have b2 := tri_bd (first - 1).toNat
  k_steps
  any_goals (exfalso; contradiction)
  refine go_on ?_
  refine' bisect_int_con w p loose mean mg mb _ _ S _ ys triL ((S, LCg.lst ys) :: (cN, oN) :: R) (.head _) hys (by decide) _ _ _ _ _ _ _ _ _ _ _ _ _ _ _ _ _ ?b1r1 ?b1r2 ?b1r3 ?b1r4 ?b1r5 ?b1r0 ?b1r6 ?b1r7 ?b1r8
  case b1r1 => k_asm
  case b1r2 => k_asm
  case b1r3 => k_asm
  case b1r4 => k_asm
  case b1r5 => k_asm
  case b1r0 => first | exact rfl | assumption
  case b1r6 => ktr_room
  case b1r7 => ktr_units
  case b1r8 =>
  intro rb1 nwb1 hb1 tkb1 Fb1 Nb1 hOb1
  obtain ⟨t1, rfl, rfl⟩ := hOb1
  try dsimp only
  try k_fold

  rw [g5]
  k_steps
  any_goals (exfalso; contradiction)
  (with_reducible rename Fr _ _ _ _ => eF)
  (with_reducible rename News _ _ _ _ => eN)
  exact done _ _ _ eF eN (fun z g => (if_neg g).trans (hem z))
end
theorem reset_ZFT : True := by
  k_with_none
  w_top off
  exact True.intro

-- ZFP
open PySem PySem.W PyProof.Rows PySem.Calls PySem.Spec
set_option maxRecDepth 100000
section
def goodB (number many first : Int) : Bool := decide (1 ≤ many ∧ 1 ≤ first ∧ first + many ≤ 32) && (decide (preSum (fun i : Nat => first + (i : Int)) (first + many - first).toNat = number) && (decide (bisI triL (triL.getD (first + many - 1).toNat 0 - number) = first - 1) && decide (triL.getD (first - 1).toNat 0 + number = triL.getD (first + many - 1).toNat 0)))
theorem goodB_good {number many first : Int} (h : goodB number many first = true) : Good number many first := by
  unfold goodB at h
  simp only [Bool.and_eq_true, decide_eq_true_eq] at h
  exact ⟨h.1, h.2.1, h.2.2.1, h.2.2.2⟩
def bitSum (number : Int) : Int := (i2dF number 1).sum
def tailB (number : Int) : List (List Int) → Bool
  | [[a, b]] => decide (a = 1) && (decide (b = number) && (decide (bitSum number = 1) && goodB number a b))
  | [[a, b], [c, d]] => !decide (bitSum number = 1) && (decide (a < c) && (goodB number a b && goodB number c d))
  | [[a, b], [c, d], [e, f]] => !decide (bitSum number = 1) && (decide (a < c) && (decide (c < e) && (goodB number a b && (goodB number c d && goodB number e f))))
  | [[a, b], [c, d], [e, f], [g, h]] => !decide (bitSum number = 1) && (decide (a < c) && (decide (c < e) && (decide (e < g) && (goodB number a b && (goodB number c d && (goodB number e f && goodB number g h))))))
  | _ => false
theorem fin_law : ∀ i : Fin 30, plainF (1 + (i.val : Int)) = orderF (1 + (i.val : Int)) ∧ tailB (1 + (i.val : Int)) (orderF (1 + (i.val : Int))) = true := by decide +kernel
/-- what the tail of a turn finds -/
inductive Ways (number : Int) : List (List Int) → Prop
  | one : bitSum number = 1 → Good number 1 number → Ways number [[1, number]]
  | two {a b c d : Int} : bitSum number ≠ 1 → a < c → Good number a b → Good number c d → Ways number [[a, b], [c, d]]
  | three {a b c d e f : Int} : bitSum number ≠ 1 → a < c → c < e → Good number a b → Good number c d → Good number e f → Ways number [[a, b], [c, d], [e, f]]
  | four {a b c d e f g h : Int} : bitSum number ≠ 1 → a < c → c < e → e < g → Good number a b → Good number c d → Good number e f → Good number g h → Ways number [[a, b], [c, d], [e, f], [g, h]]
theorem tailB_ways {number : Int} : ∀ {l : List (List Int)}, tailB number l = true → Ways number l
  | [[a, b]], h => by
    simp only [tailB, Bool.and_eq_true, decide_eq_true_eq] at h
    obtain ⟨rfl, rfl, h1, h2⟩ := h
    exact .one h1 (goodB_good h2)
  | [[a, b], [c, d]], h => by
    simp only [tailB, Bool.and_eq_true, Bool.not_eq_true', decide_eq_true_eq, decide_eq_false_iff_not] at h
    exact .two h.1 h.2.1 (goodB_good h.2.2.1) (goodB_good h.2.2.2)
  | [[a, b], [c, d], [e, f]], h => by
    simp only [tailB, Bool.and_eq_true, Bool.not_eq_true', decide_eq_true_eq, decide_eq_false_iff_not] at h
    exact .three h.1 h.2.1 h.2.2.1 (goodB_good h.2.2.2.1) (goodB_good h.2.2.2.2.1) (goodB_good h.2.2.2.2.2)
  | [[a, b], [c, d], [e, f], [g, k]], h => by
    simp only [tailB, Bool.and_eq_true, Bool.not_eq_true', decide_eq_true_eq, decide_eq_false_iff_not] at h
    exact .four h.1 h.2.1 h.2.2.1 h.2.2.2.1 (goodB_good h.2.2.2.2.1) (goodB_good h.2.2.2.2.2.1) (goodB_good h.2.2.2.2.2.2.1) (goodB_good h.2.2.2.2.2.2.2)
theorem ways {number : Int} (h1 : 1 ≤ number) (h2 : number ≤ 30) : plainF number = orderF number ∧ Ways number (orderF number) := by
  obtain ⟨i, hi⟩ : ∃ i : Fin 30, 1 + (i.val : Int) = number := ⟨⟨(number - 1).toNat, by omega⟩, by show 1 + (((number - 1).toNat : Nat) : Int) = _; omega⟩
  have := fin_law i
  rw [hi] at this
  exact ⟨this.1, tailB_ways this.2⟩
end

-- ZMT
open PySem PySem.W PyProof.Rows PySem.Calls PySem.Spec
set_option Elab.async false
section
theorem fr_as {h₀ h : Heap} {L : Addr} {m : Str → Option Value} {a : Str} {v : Value} (e : m a = some v) (F : Fr h₀ L h m) : Fr h₀ L h (fun y => if y = a then some v else m y) := by
  have em : (fun y => if y = a then some v else m y) = m := by
    funext y
    by_cases hy : y = a
    · rw [if_pos hy, hy, e]
    · rw [if_neg hy]
  rw [em]; exact F
theorem fr_as3 {h₀ h : Heap} {L : Addr} {m : Str → Option Value} {a b c : Str} {v v' v'' : Value} (ea : m a = some v) (eb : m b = some v') (ec : m c = some v'') (F : Fr h₀ L h m) : Fr h₀ L h (fun y => if y = a then some v else if y = b then some v' else if y = c then some v'' else m y) := by
  refine fr_as (m := fun y => if y = b then some v' else if y = c then some v'' else m y) ?_ (fr_as (m := fun y => if y = c then some v'' else m y) ?_ (fr_as ec F))
  · skip
    by_cases h1 : a = b
    · rw [if_pos h1, ← eb, ← h1, ea]
    · rw [if_neg h1]
      by_cases h2 : a = c
      · rw [if_pos h2, ← ec, ← h2, ea]
      · rw [if_neg h2, ea]
  · skip
    by_cases h2 : b = c
    · rw [if_pos h2, ← ec, ← h2, eb]
    · rw [if_neg h2, eb]
theorem tups_cons {R : Led} {vf : List Value} {n : List Int} {ns : List (List Int)} (h : TupsAre R vf (n :: ns)) : ∃ a us c vf', vf = .ref a :: vf' ∧ (a, tupO us c) ∈ R ∧ IntsAre us n ∧ TupsAre R vf' ns := by
  cases h with
  | cons m i r => exact ⟨_, _, _, _, rfl, m, i, r⟩
theorem tups_nil {R : Led} {vf : List Value} (h : TupsAre R vf []) : vf = [] := by cases h; rfl
theorem TabSt.one {line col : Nat} {qual : Str} {ps : Array Value} {R : Led} (h : TabSt line col qual ps R) {d : Addr × Obj} (hd : d ∈ R) : ∃ c o, (c, o) ∈ R ∧ TabSt line col qual ps [(c, o)] := by
  rcases h with h | ⟨c', oc, vs, t, h1, h2, h3, h4⟩
  · exact ⟨d.1, d.2, hd, .inl h⟩
  · exact ⟨c', oc, h2, .inr ⟨c', oc, vs, t, h1, .head _, h3, h4⟩⟩
theorem unr_end {h₀ : Heap} {L : Addr} {p : Addr × Obj} {rest : (Str → Option Value) → List (Addr × Obj) → Prop} {s₁ : Shared} {h' : Heap} {tk : Nat} {m' : Str → Option Value} {news' : Led} (F : Fr h₀ L h' m') (N : News h₀ L h' (p :: news')) (hn : ∀ q ∈ news', q.1 ≠ p.1) (r : rest m' news') :
    UnrEndW h₀ L s₁ [p] rest { s₁ with heap := h', toks := tk } :=
  ⟨h', tk, m', news', rfl, F, N, fun q hq x hx => by rw [List.mem_singleton.mp hx]; exact hn q hq, r⟩
theorem ints_two {us : List Value} {a b : Int} (h : IntsAre us [a, b]) : ∃ t1 t2, us = [.int a t1, .int b t2] := by
  cases h with
  | cons _ t1 h => cases h with
    | cons _ t2 h => cases h; exact ⟨t1, t2, rfl⟩
/-- the rest of the body, from the k-th statement on, of the loop that stands i-th -/
def getTail (b : Option Stmt) (i k : Nat) : Option (Str × Scope × List Stmt) := match b with
  | some (.FunctionDef n _ l _ _ _ sc _ _ _) => match l[i]? with
    | some (.For _ _ body _ _) => some (n, sc, body.drop k)
    | _ => none
  | _ => none
/-- all addresses of a ledger lie below, written out -/
def AL (d : Addr) : Led → Prop
  | [] => True
  | [p] => @LT.lt Nat _ p.1 d
  | p :: q :: r => @LT.lt Nat _ p.1 d ∧ AL d (q :: r)
theorem al_ne {d : Addr} : ∀ (l : Led), AL d l → ∀ q ∈ l, q.1 ≠ d
  | [], _, _, h => nomatch h
  | [p], hp, q, h => by rw [List.mem_singleton.mp h]; exact Nat.ne_of_lt hp
  | p :: q :: r, hp, x, h => by
    rcases List.mem_cons.mp h with rfl | h
    · exact Nat.ne_of_lt hp.1
    · exact al_ne (q :: r) hp.2 x h
/-- a fact that the walk is not to see -/
def HidP (P : Prop) : Prop := P
end

-- ZSO
open PySem PySem.W PyProof.Rows PySem.Calls PySem.Spec
set_option Elab.async false
section
section
variable {prog : Program} {w : World} {A : Around} {E : Value → Shared → Prop} {s : Shared}
/-- list.sort of one item: nothing is asked -/
theorem sort_one_tree {a : Addr} {v : Value} {n : Nat} {P : PySem.Fin → Shared → Prop} (ho : s.heap.get? a = some (seqObj "list" #[v] n))
    (h : P (.done (.ret .none)) { s with heap := sortedHeap s.heap a [v] #[v] }) :
    wpAny (model prog w) A (Builtin.«list.sort» ⟨[.ref a], []⟩) P E s := by
  rw [list_sort_plain]
  refine wpAny_bind (listItems_at ho rfl ?_)
  refine wpAny_bind (listUpdate_at ho rfl ?_ (by rw [sizeLine_eq]; exact Nat.le_of_ble_eq_true rfl) (Nat.zero_le _))
  obtain ⟨e1, ho1⟩ : ∃ e1, (s.heap.update a (Obj.mapSeq fun _ => #[])).get? a = some (seqObj "list" #[] e1) := ⟨_, get?_update_seq ho (fun _ => #[])⟩
  refine wpAny_bind (seqEpoch_at ho1 rfl ?_)
  refine wpAny_bind (wpAny_newTuple ?_ (by rw [sizeLine_eq]; exact Nat.le_of_ble_eq_true rfl))
  refine wpAny_bind (wpAny_newList ?_ (Nat.zero_le _))
  refine wpAny_holding ?_
  have ho6 : (((s.heap.update a (Obj.mapSeq fun _ => #[])).push (seqObj "tuple" #[v] 0)).push (seqObj "list" #[] 0)).get? a = some (seqObj "list" #[] e1) :=
    Heap.get?_push_of_some _ (Heap.get?_push_of_some _ ho1)
  show wpAny (model prog w) A _ P E { s with heap := ((s.heap.update a (Obj.mapSeq fun _ => #[])).push (seqObj "tuple" #[v] 0)).push (seqObj "list" #[] 0) }
  dsimp only
  have h2 : (#[v] : Array Value).size < 2 := by simp
  rw [if_pos h2, if_pos h2]
  refine wpAny_bind (wpAny_pure ?_)
  rw [StateT.run_pure]
  refine wpAny_bind (wpAny_pure ?_)
  dsimp only
  refine wpAny_bind (seqEpoch_at ho6 rfl ?_)
  have e : (arrOf (SortSt.mk' general' ((#[v] : Array Value).zip #[v]) #[] 7 none)).map (·.2) = #[v] := by
    show (((#[v] : Array Value).zip #[v]).map (·.2)) = #[v]
    simp
  rw [e]
  refine wpAny_bind (listUpdate_at ho6 rfl ?_ (Nat.zero_le _) (by rw [sizeLine_eq]; exact Nat.le_of_ble_eq_true rfl))
  simp only [bne_self_eq_false, Bool.false_eq_true, if_false]
  exact wpAny_pure h
theorem sorted_one {l : Addr} {v : Value} {Q : Value → Shared → Prop} (hl : s.heap.IsList l #[v])
    (h : Q (.ref (s.heap.objs.size + 1)) { s with heap := sortedAll s.heap [v] #[v] }) :
    wpAny (model prog w) A (call (.builtin "sorted") [.ref l]) Q E s := by
  refine Calls.call_function_entry kind_sorted plain_sorted entry_sorted (args_sorted1 _) ?_
  unfold Builtin.«sorted»
  refine wpAny_bind (m := checkCount "sorted" 1 1 _) (wpAny_pure ?_)
  refine wpAny_bind (collect_list (vs := [v]) hl ?_ (by rw [sizeLine_eq]; exact Nat.le_of_ble_eq_true rfl))
  refine wpAny_bind (wpAny_newList ?_ (by rw [sizeLine_eq]; exact Nat.le_of_ble_eq_true rfl))
  have hsz : ((s.heap.push (seqObj "list" #[] 0)).update s.heap.objs.size (Obj.mapSeq (· ++ #[v]))).objs.size = s.heap.objs.size + 1 := by
    rw [Heap.size_update, size_push']
  have hoL : (((s.heap.push (seqObj "list" #[] 0)).update s.heap.objs.size (Obj.mapSeq (· ++ #[v]))).push (seqObj "list" #[v] 0)).get? (s.heap.objs.size + 1) = some (seqObj "list" #[v] 0) := by
    rw [← hsz]; exact Heap.get?_push_size _ rfl
  show wpAny _ _ _ _ _ { s with heap := ((s.heap.push (seqObj "list" #[] 0)).update s.heap.objs.size (Obj.mapSeq (· ++ #[v]))).push (seqObj "list" #[v] 0) }
  rw [hsz]
  refine wpAny_bind (wpAny_holding (wpAny_call_entry slot_list_sort ⟨_, hoL, rfl⟩ entry_list_sort (sort_one_tree hoL ⟨_, rfl, ?_⟩) (args_list_sort _)))
  exact wpAny_pure ⟨_, rfl, h⟩
theorem sorted_oneN {h₀ : Heap} {L : Addr} {m : Str → Option Value} {news : List (Addr × Obj)} {l : Addr} {v : Value} {Q : Value → Shared → Prop}
    (F : Fr h₀ L s.heap m) (N : News h₀ L s.heap news) (hl : s.heap.IsList l #[v])
    (h : ∀ (D : Addr) (e : Nat) (h' : Heap), Fr h₀ L h' m → News h₀ L h' ((D, W.listOf #[v] e) :: news) → (∀ q ∈ news, @LT.lt Nat _ q.1 D) → Q (.ref D) { s with heap := h' }) :
    wpAny (model prog w) A (call (.builtin "sorted") [.ref l]) Q E s := by
  refine sorted_one hl ?_
  obtain ⟨e, he⟩ := sortedAll_at s.heap [v] #[v]
  exact h _ e _ (F.kept fun _ _ => sortedAll_old) (N.kept_cons F (fun _ _ => sortedAll_old) (Nat.le_succ _) he) fun p hp => Nat.lt_succ_of_lt (Heap.lt_size (N p hp).1)
end
end

section
local macro_rules | `(tactic| walk_at "execs nil") => `(tactic| (k_here; k_dflt (dsimp only); first | k_gentoks | refine wpAny_execs_nil ?_))
local macro_rules | `(tactic| walk_at "execs cons") => `(tactic| (k_here; k_dflt (dsimp only)))

-- ZTL
open PySem PySem.W PyProof.Rows PySem.Calls PySem.Spec
set_option Elab.async false
section
local macro_rules | `(tactic| walk_at "CompEnd") => `(tactic| ((with_reducible rename Fr _ _ _ _ => zF); (with_reducible rename News _ _ _ _ => zN); (with_reducible rename (@Ne Nat _ _ ∧ @Ne Nat _ _ ∧ @Ne Nat _ _) ∧ _ => zO); (with_reducible rename @Ne Nat _ _ ∧ @Ne Nat _ _ ∧ @Ne Nat _ _ => zE); k_dflt (refine LCg.CompEnd.intro zF zN _ (fun _ h => h) (by simp only [LCg.Off3, and_true]; exact zO) True.intro ?_); clear zO zE))
local macro_rules | `(tactic| walk_at "FinE") => `(tactic| ((unfold LCg.FinE); intro D' h' tk' F' N' o1'; clear o1'; (try simp only [List.nil_append, List.cons_append] at N'); (try dsimp only)))

set_option maxRecDepth 100000
set_option maxHeartbeats 4000000
theorem news_front2 {h₀ h : Heap} {L : Addr} {a b : Addr × Obj} {l : Led} (N : News h₀ L h l) (ha : a ∈ l) (hb : b ∈ l) : News h₀ L h (a :: b :: l) := fun p hp => N p (by
  rcases List.mem_cons.mp hp with rfl | hp
  · exact ha
  rcases List.mem_cons.mp hp with rfl | hp
  · exact hb
  exact hp)
theorem news_back2 {h₀ h : Heap} {L : Addr} {a b : Addr × Obj} {l : Led} (N : News h₀ L h (a :: b :: l)) : News h₀ L h l := fun p hp => N p (.tail _ (.tail _ hp))
theorem tail1 (w : World) (p : Program) (loose : List Str) (mean : ExcName → Option Value) (mg mb : Str → Option Value) (nm : Str) (sc : Scope) (body : List Stmt) (hget : getTail (PySem.Challenge.pw_gb0004_02.main.body[13]?) 1 4 = some (nm, sc, body))
    (L fa cO cN : Addr) (cd : Value) (h₀ : Heap) (m : Str → Option Value) (s : Shared) (Q : Flow → Shared → Prop) (E : Value → Shared → Prop)
    (B : Below callerA h₀ [] h₀) (X : (Mine.hd.heap_39 w.params).In h₀) (T : Top p loose mean mg mb h₀) (hE : PassesOwn (model PySem.Challenge.rw_gb0004_02.row.prog w) (callerA.deeper (envX nm sc L fa cd [("order", cO), ("number", cN)])) (envX nm sc L fa cd [("order", cO), ("number", cN)]) E)
    (l P S jI jD : Addr) (oI oD : Obj) (number : Int) (tn : Tok) (oO oN : Obj) (hO : oO.data = .cell (some (.ref l))) (hN : oN.data = .cell (some (.int number tn))) (vo vp ys : List Value) (co : Nat) (ps qs : Array Value) (R : Led) (h30 : 1 ≤ number ∧ number ≤ 30)
     (hsum : bitSum number = 1) (hg0 : Good number 1 number) (hys : IntsAre ys triL)
    (F : Fr h₀ L s.heap m) (N : News h₀ L s.heap ((l, W.listOf vo.toArray co) :: (P, LCg.lst vp) :: (30, tabObj ps) :: (37, tabObj qs) :: (cO, oO) :: (cN, oN) :: (S, LCg.lst ys) :: (jI, oI) :: (jD, oD) :: R))
    (hTo : TupsAre R vo [[1, number]]) (hTp : TupsAre R vp [[1, number]]) (hP : TabSt 32 4 inQ1 ps R) (hQ : TabSt 47 4 inQ2 qs R) (hR : ∀ p ∈ R, p.1 ≠ 30 ∧ p.1 ≠ 37 ∧ p.1 ≠ cO ∧ p.1 ≠ cN ∧ p.1 ≠ S ∧ p.1 ≠ jI)
    (lN : @LT.lt Nat _ 37 cN) (lO : @LT.lt Nat _ cN cO) (lS : HidP (S ≠ 30)) (lD2 : @LT.lt Nat _ cO jD) (lD : @LT.lt Nat _ S jD) (lI : @LT.lt Nat _ jD jI) (lP : @LT.lt Nat _ jI P) (ll : @LT.lt Nat _ P l)
    (hm1 : m (Str.ofString "sums") = some (.ref S)) (hm2 : m (Str.ofString "plain") = some (.ref P))
    (done : ∀ (m' : Str → Option Value) (h : Heap) (tk : Nat) (ps' : Array Value) (R' : Led), Fr h₀ L h m' → News h₀ L h ((30, tabObj ps') :: (37, tabObj qs) :: (cO, oO) :: (cN, oN) :: (S, LCg.lst ys) :: (jI, oI) :: (jD, oD) :: R') → TabSt 32 4 inQ1 ps' R' → TabSt 47 4 inQ2 qs R' →
      (∀ p ∈ R', p.1 ≠ 30 ∧ p.1 ≠ 37 ∧ p.1 ≠ cO ∧ p.1 ≠ cN ∧ p.1 ≠ S ∧ p.1 ≠ jI) → m' (Str.ofString "sums") = some (.ref S) → Q .next { s with heap := h, toks := tk }) :
    wpAny (model PySem.Challenge.rw_gb0004_02.row.prog w) (callerA.deeper (envX nm sc L fa cd [("order", cO), ("number", cN)])) (execs body (envX nm sc L fa cd [("order", cO), ("number", cN)])) Q E s := by
  revert X
  k_fill
  intro X
  with_unfolding_all cases hget
  have hMk : KstMark := kstMark
  k_with_none
  obtain ⟨xo0, uo0, co0, vvo0, rfl, mmo0, iio0, hTo⟩ := tups_cons hTo
  obtain ⟨to0a, to0b, rfl⟩ := ints_two iio0
  cases tups_nil hTo
  obtain ⟨xp0, up0, cp0, vvp0, rfl, mmp0, iip0, hTp⟩ := tups_cons hTp
  obtain ⟨tp0a, tp0b, rfl⟩ := ints_two iip0
  cases tups_nil hTp
  obtain ⟨cP, oP, mmP, hP1⟩ := hP.one mmo0
  obtain ⟨cQ, oQ, mmQ, hQ1⟩ := hQ.one mmo0
  have hsub : ∀ q ∈ [(cP, oP), (cQ, oQ), (xo0, tupO [.int (1) to0a, .int number to0b] co0), (xp0, tupO [.int (1) tp0a, .int number tp0b] cp0)], q ∈ R := List.forall_mem_cons.mpr ⟨mmP, List.forall_mem_cons.mpr ⟨mmQ, List.forall_mem_cons.mpr ⟨mmo0, List.forall_mem_cons.mpr ⟨mmp0, List.forall_mem_nil _⟩⟩⟩⟩
  have N2 := news_sub (l' := (l, _) :: (P, _) :: (30, _) :: (37, _) :: (cO, oO) :: (cN, oN) :: (S, _) :: (jI, oI) :: (jD, oD) :: [(cP, oP), (cQ, oQ), (xo0, tupO [.int (1) to0a, .int number to0b] co0), (xp0, tupO [.int (1) tp0a, .int number tp0b] cp0)]) N (by
    intro p9 h9
    rcases List.mem_cons.mp h9 with rfl | h9
    · exact .head _
    rcases List.mem_cons.mp h9 with rfl | h9
    · exact .tail _ (.head _)
    rcases List.mem_cons.mp h9 with rfl | h9
    · exact .tail _ (.tail _ (.head _))
    rcases List.mem_cons.mp h9 with rfl | h9
    · exact .tail _ (.tail _ (.tail _ (.head _)))
    rcases List.mem_cons.mp h9 with rfl | h9
    · exact .tail _ (.tail _ (.tail _ (.tail _ (.head _))))
    rcases List.mem_cons.mp h9 with rfl | h9
    · exact .tail _ (.tail _ (.tail _ (.tail _ (.tail _ (.head _)))))
    rcases List.mem_cons.mp h9 with rfl | h9
    · exact .tail _ (.tail _ (.tail _ (.tail _ (.tail _ (.tail _ (.head _))))))
    rcases List.mem_cons.mp h9 with rfl | h9
    · exact .tail _ (.tail _ (.tail _ (.tail _ (.tail _ (.tail _ (.tail _ (.head _)))))))
    rcases List.mem_cons.mp h9 with rfl | h9
    · exact .tail _ (.tail _ (.tail _ (.tail _ (.tail _ (.tail _ (.tail _ (.tail _ (.head _))))))))
    exact .tail _ (.tail _ (.tail _ (.tail _ (.tail _ (.tail _ (.tail _ (.tail _ (.tail _ (hsub p9 h9))))))))))
  have hdP : HidP (cP ≠ 30 ∧ cP ≠ 37 ∧ cP ≠ cO ∧ cP ≠ cN ∧ cP ≠ S ∧ cP ≠ jI) := hR _ mmP
  have hdQ : HidP (cQ ≠ 30 ∧ cQ ≠ 37 ∧ cQ ≠ cO ∧ cQ ≠ cN ∧ cQ ≠ S ∧ cQ ≠ jI) := hR _ mmQ
  have hdo0 : HidP (xo0 ≠ 30) := (hR _ mmo0).1
  clear hsub hR N hP hQ mmP mmQ mmo0 iio0 mmp0 iip0
  have F2 := fr_as ((if_neg (by decide)).trans hm1) (fr_as hm2 F)
  clear F
  k_with "call builtin:sorted" => (k_here; k_dflt (refine' sorted_oneN ?zk1 ?zk2 ?zk3 ?_; (case zk1 => k_asm); (case zk2 => k_asm); (case zk3 => kso_list)); intro D' e' h' F' N' l1; (try k_lt l1); (try k_sweep))
  k_with "call ref" => (refine stop_here ?_)
  k_steps
  (with_reducible rename News _ _ _ _ => nI)
  (with_reducible rename Fr _ _ _ _ => fI)
  have nJ := news_sub (l' := (30, tabObj ps) :: [(l, W.listOf [.ref xo0].toArray co), (37, tabObj qs), (cO, oO), (cN, oN), (S, LCg.lst ys), (jI, oI), (jD, oD), (cP, oP), (cQ, oQ), (xo0, tupO [.int (1) to0a, .int number to0b] co0)]) nI (by lcg_sub)
  have hr30 : ∀ q ∈ [(l, W.listOf [.ref xo0].toArray co), (37, tabObj qs), (cO, oO), (cN, oN), (S, LCg.lst ys), (jI, oI), (jD, oD), (cP, oP), (cQ, oQ), (xo0, tupO [.int (1) to0a, .int number to0b] co0)], q.1 ≠ 30 := List.forall_mem_cons.mpr ⟨Nat.ne_of_gt (by omega), List.forall_mem_cons.mpr ⟨(show (37 : Nat) ≠ 30 by decide), List.forall_mem_cons.mpr ⟨Nat.ne_of_gt (by omega), List.forall_mem_cons.mpr ⟨Nat.ne_of_gt (by omega), List.forall_mem_cons.mpr ⟨lS, List.forall_mem_cons.mpr ⟨Nat.ne_of_gt (by omega), List.forall_mem_cons.mpr ⟨Nat.ne_of_gt (by omega), List.forall_mem_cons.mpr ⟨hdP.1, List.forall_mem_cons.mpr ⟨hdQ.1, List.forall_mem_cons.mpr ⟨hdo0, List.forall_mem_nil _⟩⟩⟩⟩⟩⟩⟩⟩⟩⟩
  clear nI
  refine go_on ?_
  refine' i2d_con w p loose mean mg mb number 1 _ _ [(l, W.listOf [.ref xo0].toArray co), (37, tabObj qs), (cO, oO), (cN, oN), (S, LCg.lst ys), (jI, oI), (jD, oD), (cP, oP), (cQ, oQ), (xo0, tupO [.int (1) to0a, .int number to0b] co0)] [(cP, oP)] ps (fun q hq => by rw [List.mem_singleton.mp hq]; k_mem) (by omega) (by omega) (by decide) (by decide) hr30 hP1 _ _ _ _ _ _ _ _ _ _ _ _ _ _ _ _ _ ?i1r1 ?i1r2 ?i1r3 ?i1r4 ?i1r5 ?i1r0 ?i1r6 ?i1r7 ?i1r8
  case i1r1 => k_asm
  case i1r2 => k_asm
  case i1r3 => k_asm
  case i1r4 => exact nJ
  case i1r5 => k_asm
  case i1r0 => first | exact rfl | assumption
  case i1r6 => ktr_room
  case i1r7 => ktr_units
  case i1r8 =>
  intro ri1 nwi1 hi1 tki1 Fi1 Ni1 hOi1
  obtain ⟨D, vd, tl, ps1, rfl, hvd, rfl, hT1, hLo, hord, hne, h30D, hneD⟩ := hOi1
  try dsimp only
  try k_fold
  obtain ⟨cP2, oP2, mP2, hP2⟩ := hT1.one (d := (cP, oP)) (List.mem_append_right _ (.head _))
  have hdP2 : HidP (cP2 ≠ 30 ∧ cP2 ≠ 37 ∧ cP2 ≠ cO ∧ cP2 ≠ cN ∧ cP2 ≠ S ∧ cP2 ≠ jI) := by
    rcases List.mem_append.mp mP2 with h | h
    · exact ⟨hne _ h, Nat.ne_of_gt (hord (37, tabObj qs) (by k_mem) _ h), Nat.ne_of_gt (hord (cO, oO) (by k_mem) _ h), Nat.ne_of_gt (hord (cN, oN) (by k_mem) _ h), Nat.ne_of_gt (hord (S, LCg.lst ys) (by k_mem) _ h), Nat.ne_of_gt (hord (jI, oI) (by k_mem) _ h)⟩
    · cases List.mem_singleton.mp h; exact hdP
  have mP3 : (cP2, oP2) ∈ tl ++ [(l, W.listOf [.ref xo0].toArray co), (37, tabObj qs), (cO, oO), (cN, oN), (S, LCg.lst ys), (jI, oI), (jD, oD), (cP, oP), (cQ, oQ), (xo0, tupO [.int (1) to0a, .int number to0b] co0)] := by
    rcases List.mem_append.mp mP2 with h | h
    · exact List.mem_append_left _ h
    · cases List.mem_singleton.mp h; exact List.mem_append_right _ (by k_mem)
  replace Ni1 := news_sub (l' := (D, _) :: (30, tabObj ps1) :: (cP2, oP2) :: [(l, W.listOf [.ref xo0].toArray co), (37, tabObj qs), (cO, oO), (cN, oN), (S, LCg.lst ys), (jI, oI), (jD, oD), (cP, oP), (cQ, oQ), (xo0, tupO [.int (1) to0a, .int number to0b] co0)]) Ni1 (fun q hq => by
    rcases List.mem_cons.mp hq with rfl | hq
    · exact .head _
    rcases List.mem_cons.mp hq with rfl | hq
    · exact .tail _ (.head _)
    rcases List.mem_cons.mp hq with rfl | hq
    · exact .tail _ (.tail _ mP3)
    · exact .tail _ (.tail _ (List.mem_append_right _ hq)))
  clear hT1 hLo hord hne hneD mP2 mP3 hr30 nJ fI
  have hs9 : (i2dF number 1).sum = 1 := hsum
  k_with "exec For Tuple Name cons nil" => (refine stop_here ?_)
  k_steps
  any_goals (first | (exfalso; contradiction) | (exfalso; simp_all; done) | skip)
  refine go_on ?_
  k_with_none
  k_with "execs cons" => (refine stop_here ?_)
  k_here
  (rename Fr _ _ _ _ => lF9)
  (with_unfolding_all refine' For_turns lF9 ?_)
  k_whole
  k_steps
  (with_reducible rename @LT.lt Nat _ _ _ ∧ @LT.lt Nat _ _ _ ∧ _ => zl)
  refine go_on ?_
  (with_reducible rename Fr _ _ _ _ => lF0)
  (with_reducible rename News _ _ _ _ => lN0)
  refine wayturn w p loose mean mg mb _ _ _ rfl L fa cO cN cd h₀ _ _ _ _ B X T (by passes_own) _ S ys number 1 number tn _ _ oN hN hg0 h30 hys lF0 (news_front2 lN0 (by k_mem) (by k_mem)) rfl rfl rfl ?_
  clear lF0 lN0
  intro m5 h5 tk5 F5 N5 hk5
  replace F5 := fr_as ((hk5 (Str.ofString "sums") (by decide)).trans rfl) F5
  replace N5 := news_back2 N5
  clear hk5
  try dsimp only
  k_steps
  refine' unr_end F5 N5 ?hn5x0 ⟨?hs5x0, ?hr5x0⟩
  case hn5x0 => exact al_ne _ zl
  case hs5x0 => k_subL
  case hr5x0 =>
  clear F5 N5
  k_steps
  (with_reducible rename Fr _ _ _ _ => eF)
  (with_reducible rename News _ _ _ _ => eN)
  exact done _ _ _ ps1 [(cP2, oP2), (cQ, oQ)] eF (news_sub eN (by lcg_sub)) (hP2.mono fun q hq => by rw [List.mem_singleton.mp hq]; exact .head _) (hQ1.mono fun q hq => by rw [List.mem_singleton.mp hq]; exact .tail _ (.head _)) (List.forall_mem_cons.mpr ⟨hdP2, List.forall_mem_cons.mpr ⟨hdQ, List.forall_mem_nil _⟩⟩) rfl
theorem tail2 (w : World) (p : Program) (loose : List Str) (mean : ExcName → Option Value) (mg mb : Str → Option Value) (nm : Str) (sc : Scope) (body : List Stmt) (hget : getTail (PySem.Challenge.pw_gb0004_02.main.body[13]?) 1 4 = some (nm, sc, body))
    (L fa cO cN : Addr) (cd : Value) (h₀ : Heap) (m : Str → Option Value) (s : Shared) (Q : Flow → Shared → Prop) (E : Value → Shared → Prop)
    (B : Below callerA h₀ [] h₀) (X : (Mine.hd.heap_39 w.params).In h₀) (T : Top p loose mean mg mb h₀) (hE : PassesOwn (model PySem.Challenge.rw_gb0004_02.row.prog w) (callerA.deeper (envX nm sc L fa cd [("order", cO), ("number", cN)])) (envX nm sc L fa cd [("order", cO), ("number", cN)]) E)
    (l P S jI jD : Addr) (oI oD : Obj) (number : Int) (tn : Tok) (oO oN : Obj) (hO : oO.data = .cell (some (.ref l))) (hN : oN.data = .cell (some (.int number tn))) (vo vp ys : List Value) (co : Nat) (ps qs : Array Value) (R : Led) (h30 : 1 ≤ number ∧ number ≤ 30)
    (a0 b0 a1 b1 : Int) (hlt0 : a0 < a1) (hsum : bitSum number ≠ 1) (hg0 : Good number a0 b0) (hg1 : Good number a1 b1) (hys : IntsAre ys triL)
    (F : Fr h₀ L s.heap m) (N : News h₀ L s.heap ((l, W.listOf vo.toArray co) :: (P, LCg.lst vp) :: (30, tabObj ps) :: (37, tabObj qs) :: (cO, oO) :: (cN, oN) :: (S, LCg.lst ys) :: (jI, oI) :: (jD, oD) :: R))
    (hTo : TupsAre R vo [[a0, b0], [a1, b1]]) (hTp : TupsAre R vp [[a0, b0], [a1, b1]]) (hP : TabSt 32 4 inQ1 ps R) (hQ : TabSt 47 4 inQ2 qs R) (hR : ∀ p ∈ R, p.1 ≠ 30 ∧ p.1 ≠ 37 ∧ p.1 ≠ cO ∧ p.1 ≠ cN ∧ p.1 ≠ S ∧ p.1 ≠ jI)
    (lN : @LT.lt Nat _ 37 cN) (lO : @LT.lt Nat _ cN cO) (lS : HidP (S ≠ 30)) (lD2 : @LT.lt Nat _ cO jD) (lD : @LT.lt Nat _ S jD) (lI : @LT.lt Nat _ jD jI) (lP : @LT.lt Nat _ jI P) (ll : @LT.lt Nat _ P l)
    (hm1 : m (Str.ofString "sums") = some (.ref S)) (hm2 : m (Str.ofString "plain") = some (.ref P))
    (done : ∀ (m' : Str → Option Value) (h : Heap) (tk : Nat) (ps' : Array Value) (R' : Led), Fr h₀ L h m' → News h₀ L h ((30, tabObj ps') :: (37, tabObj qs) :: (cO, oO) :: (cN, oN) :: (S, LCg.lst ys) :: (jI, oI) :: (jD, oD) :: R') → TabSt 32 4 inQ1 ps' R' → TabSt 47 4 inQ2 qs R' →
      (∀ p ∈ R', p.1 ≠ 30 ∧ p.1 ≠ 37 ∧ p.1 ≠ cO ∧ p.1 ≠ cN ∧ p.1 ≠ S ∧ p.1 ≠ jI) → m' (Str.ofString "sums") = some (.ref S) → Q .next { s with heap := h, toks := tk }) :
    wpAny (model PySem.Challenge.rw_gb0004_02.row.prog w) (callerA.deeper (envX nm sc L fa cd [("order", cO), ("number", cN)])) (execs body (envX nm sc L fa cd [("order", cO), ("number", cN)])) Q E s := by
  revert X
  k_fill
  intro X
  with_unfolding_all cases hget
  have hMk : KstMark := kstMark
  k_with_none
  obtain ⟨xo0, uo0, co0, vvo0, rfl, mmo0, iio0, hTo⟩ := tups_cons hTo
  obtain ⟨to0a, to0b, rfl⟩ := ints_two iio0
  obtain ⟨xo1, uo1, co1, vvo1, rfl, mmo1, iio1, hTo⟩ := tups_cons hTo
  obtain ⟨to1a, to1b, rfl⟩ := ints_two iio1
  cases tups_nil hTo
  obtain ⟨xp0, up0, cp0, vvp0, rfl, mmp0, iip0, hTp⟩ := tups_cons hTp
  obtain ⟨tp0a, tp0b, rfl⟩ := ints_two iip0
  obtain ⟨xp1, up1, cp1, vvp1, rfl, mmp1, iip1, hTp⟩ := tups_cons hTp
  obtain ⟨tp1a, tp1b, rfl⟩ := ints_two iip1
  cases tups_nil hTp
  obtain ⟨cP, oP, mmP, hP1⟩ := hP.one mmo0
  obtain ⟨cQ, oQ, mmQ, hQ1⟩ := hQ.one mmo0
  have hsub : ∀ q ∈ [(cP, oP), (cQ, oQ), (xo0, tupO [.int (a0) to0a, .int b0 to0b] co0), (xo1, tupO [.int (a1) to1a, .int b1 to1b] co1), (xp0, tupO [.int (a0) tp0a, .int b0 tp0b] cp0), (xp1, tupO [.int (a1) tp1a, .int b1 tp1b] cp1)], q ∈ R := List.forall_mem_cons.mpr ⟨mmP, List.forall_mem_cons.mpr ⟨mmQ, List.forall_mem_cons.mpr ⟨mmo0, List.forall_mem_cons.mpr ⟨mmo1, List.forall_mem_cons.mpr ⟨mmp0, List.forall_mem_cons.mpr ⟨mmp1, List.forall_mem_nil _⟩⟩⟩⟩⟩⟩
  have N2 := news_sub (l' := (l, _) :: (P, _) :: (30, _) :: (37, _) :: (cO, oO) :: (cN, oN) :: (S, _) :: (jI, oI) :: (jD, oD) :: [(cP, oP), (cQ, oQ), (xo0, tupO [.int (a0) to0a, .int b0 to0b] co0), (xo1, tupO [.int (a1) to1a, .int b1 to1b] co1), (xp0, tupO [.int (a0) tp0a, .int b0 tp0b] cp0), (xp1, tupO [.int (a1) tp1a, .int b1 tp1b] cp1)]) N (by
    intro p9 h9
    rcases List.mem_cons.mp h9 with rfl | h9
    · exact .head _
    rcases List.mem_cons.mp h9 with rfl | h9
    · exact .tail _ (.head _)
    rcases List.mem_cons.mp h9 with rfl | h9
    · exact .tail _ (.tail _ (.head _))
    rcases List.mem_cons.mp h9 with rfl | h9
    · exact .tail _ (.tail _ (.tail _ (.head _)))
    rcases List.mem_cons.mp h9 with rfl | h9
    · exact .tail _ (.tail _ (.tail _ (.tail _ (.head _))))
    rcases List.mem_cons.mp h9 with rfl | h9
    · exact .tail _ (.tail _ (.tail _ (.tail _ (.tail _ (.head _)))))
    rcases List.mem_cons.mp h9 with rfl | h9
    · exact .tail _ (.tail _ (.tail _ (.tail _ (.tail _ (.tail _ (.head _))))))
    rcases List.mem_cons.mp h9 with rfl | h9
    · exact .tail _ (.tail _ (.tail _ (.tail _ (.tail _ (.tail _ (.tail _ (.head _)))))))
    rcases List.mem_cons.mp h9 with rfl | h9
    · exact .tail _ (.tail _ (.tail _ (.tail _ (.tail _ (.tail _ (.tail _ (.tail _ (.head _))))))))
    exact .tail _ (.tail _ (.tail _ (.tail _ (.tail _ (.tail _ (.tail _ (.tail _ (.tail _ (hsub p9 h9))))))))))
  have hdP : HidP (cP ≠ 30 ∧ cP ≠ 37 ∧ cP ≠ cO ∧ cP ≠ cN ∧ cP ≠ S ∧ cP ≠ jI) := hR _ mmP
  have hdQ : HidP (cQ ≠ 30 ∧ cQ ≠ 37 ∧ cQ ≠ cO ∧ cQ ≠ cN ∧ cQ ≠ S ∧ cQ ≠ jI) := hR _ mmQ
  have hdo0 : HidP (xo0 ≠ 30) := (hR _ mmo0).1
  have hdo1 : HidP (xo1 ≠ 30) := (hR _ mmo1).1
  clear hsub hR N hP hQ mmP mmQ mmo0 iio0 mmo1 iio1 mmp0 iip0 mmp1 iip1
  have F2 := fr_as ((if_neg (by decide)).trans hm1) (fr_as hm2 F)
  clear F
  have hne0 : ¬ a0 = a1 := Int.ne_of_lt hlt0
  k_with "ite" => ((with_reducible refine split_ieq (fun hi9 => absurd hi9 (by with_reducible assumption)) ?_); intro _; (try dsimp only))
  k_with "KatGo" => (first | (kat_known; first | refine kat_yes ?_ | refine kat_no ?_) | (refine kat_go (fun hk' => ?_) (fun hk' => ?_) <;> (try simp only [beq_iff_eq, beq_eq_false_iff_ne, ne_eq, decide_eq_true_eq, decide_eq_false_iff_not] at hk') <;> (first | exact absurd hk' (Int.ne_of_gt (by with_reducible assumption)) | skip)))
  k_with "KasNext" => (first | kas_known | (refine kas_split (fun hk' => ?_) (fun hk' => ?_) <;> (try simp only [decide_eq_true_eq, decide_eq_false_iff_not, Int.not_lt] at hk') <;> (first | exact absurd hk' (Int.lt_asymm (by with_reducible assumption)) | skip)))
  k_with "call ref" => (refine stop_here ?_)
  k_steps
  (with_reducible rename News _ _ _ _ => nI)
  (with_reducible rename Fr _ _ _ _ => fI)
  have nJ := news_sub (l' := (30, tabObj ps) :: [(l, W.listOf [.ref xo0, .ref xo1].toArray co), (37, tabObj qs), (cO, oO), (cN, oN), (S, LCg.lst ys), (jI, oI), (jD, oD), (cP, oP), (cQ, oQ), (xo0, tupO [.int (a0) to0a, .int b0 to0b] co0), (xo1, tupO [.int (a1) to1a, .int b1 to1b] co1)]) nI (by lcg_sub)
  have hr30 : ∀ q ∈ [(l, W.listOf [.ref xo0, .ref xo1].toArray co), (37, tabObj qs), (cO, oO), (cN, oN), (S, LCg.lst ys), (jI, oI), (jD, oD), (cP, oP), (cQ, oQ), (xo0, tupO [.int (a0) to0a, .int b0 to0b] co0), (xo1, tupO [.int (a1) to1a, .int b1 to1b] co1)], q.1 ≠ 30 := List.forall_mem_cons.mpr ⟨Nat.ne_of_gt (by omega), List.forall_mem_cons.mpr ⟨(show (37 : Nat) ≠ 30 by decide), List.forall_mem_cons.mpr ⟨Nat.ne_of_gt (by omega), List.forall_mem_cons.mpr ⟨Nat.ne_of_gt (by omega), List.forall_mem_cons.mpr ⟨lS, List.forall_mem_cons.mpr ⟨Nat.ne_of_gt (by omega), List.forall_mem_cons.mpr ⟨Nat.ne_of_gt (by omega), List.forall_mem_cons.mpr ⟨hdP.1, List.forall_mem_cons.mpr ⟨hdQ.1, List.forall_mem_cons.mpr ⟨hdo0, List.forall_mem_cons.mpr ⟨hdo1, List.forall_mem_nil _⟩⟩⟩⟩⟩⟩⟩⟩⟩⟩⟩
  clear nI
  refine go_on ?_
  refine' i2d_con w p loose mean mg mb number 1 _ _ [(l, W.listOf [.ref xo0, .ref xo1].toArray co), (37, tabObj qs), (cO, oO), (cN, oN), (S, LCg.lst ys), (jI, oI), (jD, oD), (cP, oP), (cQ, oQ), (xo0, tupO [.int (a0) to0a, .int b0 to0b] co0), (xo1, tupO [.int (a1) to1a, .int b1 to1b] co1)] [(cP, oP)] ps (fun q hq => by rw [List.mem_singleton.mp hq]; k_mem) (by omega) (by omega) (by decide) (by decide) hr30 hP1 _ _ _ _ _ _ _ _ _ _ _ _ _ _ _ _ _ ?i1r1 ?i1r2 ?i1r3 ?i1r4 ?i1r5 ?i1r0 ?i1r6 ?i1r7 ?i1r8
  case i1r1 => k_asm
  case i1r2 => k_asm
  case i1r3 => k_asm
  case i1r4 => exact nJ
  case i1r5 => k_asm
  case i1r0 => first | exact rfl | assumption
  case i1r6 => ktr_room
  case i1r7 => ktr_units
  case i1r8 =>
  intro ri1 nwi1 hi1 tki1 Fi1 Ni1 hOi1
  obtain ⟨D, vd, tl, ps1, rfl, hvd, rfl, hT1, hLo, hord, hne, h30D, hneD⟩ := hOi1
  try dsimp only
  try k_fold
  obtain ⟨cP2, oP2, mP2, hP2⟩ := hT1.one (d := (cP, oP)) (List.mem_append_right _ (.head _))
  have hdP2 : HidP (cP2 ≠ 30 ∧ cP2 ≠ 37 ∧ cP2 ≠ cO ∧ cP2 ≠ cN ∧ cP2 ≠ S ∧ cP2 ≠ jI) := by
    rcases List.mem_append.mp mP2 with h | h
    · exact ⟨hne _ h, Nat.ne_of_gt (hord (37, tabObj qs) (by k_mem) _ h), Nat.ne_of_gt (hord (cO, oO) (by k_mem) _ h), Nat.ne_of_gt (hord (cN, oN) (by k_mem) _ h), Nat.ne_of_gt (hord (S, LCg.lst ys) (by k_mem) _ h), Nat.ne_of_gt (hord (jI, oI) (by k_mem) _ h)⟩
    · cases List.mem_singleton.mp h; exact hdP
  have mP3 : (cP2, oP2) ∈ tl ++ [(l, W.listOf [.ref xo0, .ref xo1].toArray co), (37, tabObj qs), (cO, oO), (cN, oN), (S, LCg.lst ys), (jI, oI), (jD, oD), (cP, oP), (cQ, oQ), (xo0, tupO [.int (a0) to0a, .int b0 to0b] co0), (xo1, tupO [.int (a1) to1a, .int b1 to1b] co1)] := by
    rcases List.mem_append.mp mP2 with h | h
    · exact List.mem_append_left _ h
    · cases List.mem_singleton.mp h; exact List.mem_append_right _ (by k_mem)
  replace Ni1 := news_sub (l' := (D, _) :: (30, tabObj ps1) :: (cP2, oP2) :: [(l, W.listOf [.ref xo0, .ref xo1].toArray co), (37, tabObj qs), (cO, oO), (cN, oN), (S, LCg.lst ys), (jI, oI), (jD, oD), (cP, oP), (cQ, oQ), (xo0, tupO [.int (a0) to0a, .int b0 to0b] co0), (xo1, tupO [.int (a1) to1a, .int b1 to1b] co1)]) Ni1 (fun q hq => by
    rcases List.mem_cons.mp hq with rfl | hq
    · exact .head _
    rcases List.mem_cons.mp hq with rfl | hq
    · exact .tail _ (.head _)
    rcases List.mem_cons.mp hq with rfl | hq
    · exact .tail _ (.tail _ mP3)
    · exact .tail _ (.tail _ (List.mem_append_right _ hq)))
  clear hT1 hLo hord hne hneD mP2 mP3 hr30 nJ fI
  have hs9 : (i2dF number 1).sum ≠ 1 := hsum
  k_with "exec For Tuple Name cons nil" => (refine stop_here ?_)
  k_steps
  any_goals (first | (exfalso; contradiction) | (exfalso; simp_all; done) | skip)
  refine go_on ?_
  k_with_none
  k_with "execs cons" => (refine stop_here ?_)
  k_here
  (rename Fr _ _ _ _ => lF9)
  (with_unfolding_all refine' For_turns lF9 ?_)
  k_whole
  k_steps
  (with_reducible rename @LT.lt Nat _ _ _ ∧ @LT.lt Nat _ _ _ ∧ _ => zl)
  refine go_on ?_
  (with_reducible rename Fr _ _ _ _ => lF0)
  (with_reducible rename News _ _ _ _ => lN0)
  refine wayturn w p loose mean mg mb _ _ _ rfl L fa cO cN cd h₀ _ _ _ _ B X T (by passes_own) _ S ys number a0 b0 tn _ _ oN hN hg0 h30 hys lF0 (news_front2 lN0 (by k_mem) (by k_mem)) rfl rfl rfl ?_
  clear lF0 lN0
  intro m5 h5 tk5 F5 N5 hk5
  replace F5 := fr_as ((hk5 (Str.ofString "sums") (by decide)).trans rfl) F5
  replace N5 := news_back2 N5
  clear hk5
  try dsimp only
  k_steps
  refine' unr_end F5 N5 ?hn5x0 ⟨?hs5x0, ?hr5x0⟩
  case hn5x0 => exact al_ne _ zl
  case hs5x0 => k_subL
  case hr5x0 =>
  clear F5 N5
  k_steps
  refine go_on ?_
  (with_reducible rename Fr _ _ _ _ => lF0)
  (with_reducible rename News _ _ _ _ => lN0)
  refine wayturn w p loose mean mg mb _ _ _ rfl L fa cO cN cd h₀ _ _ _ _ B X T (by passes_own) _ S ys number a1 b1 tn _ _ oN hN hg1 h30 hys lF0 (news_front2 lN0 (by k_mem) (by k_mem)) rfl rfl rfl ?_
  clear lF0 lN0
  intro m5 h5 tk5 F5 N5 hk5
  replace F5 := fr_as ((hk5 (Str.ofString "sums") (by decide)).trans rfl) F5
  replace N5 := news_back2 N5
  clear hk5
  try dsimp only
  k_steps
  refine' unr_end F5 N5 ?hn5x1 ⟨?hs5x1, ?hr5x1⟩
  case hn5x1 => exact al_ne _ zl
  case hs5x1 => k_subL
  case hr5x1 =>
  clear F5 N5
  k_steps
  (with_reducible rename Fr _ _ _ _ => eF)
  (with_reducible rename News _ _ _ _ => eN)
  exact done _ _ _ ps1 [(cP2, oP2), (cQ, oQ)] eF (news_sub eN (by lcg_sub)) (hP2.mono fun q hq => by rw [List.mem_singleton.mp hq]; exact .head _) (hQ1.mono fun q hq => by rw [List.mem_singleton.mp hq]; exact .tail _ (.head _)) (List.forall_mem_cons.mpr ⟨hdP2, List.forall_mem_cons.mpr ⟨hdQ, List.forall_mem_nil _⟩⟩) rfl
theorem tail3 (w : World) (p : Program) (loose : List Str) (mean : ExcName → Option Value) (mg mb : Str → Option Value) (nm : Str) (sc : Scope) (body : List Stmt) (hget : getTail (PySem.Challenge.pw_gb0004_02.main.body[13]?) 1 4 = some (nm, sc, body))
    (L fa cO cN : Addr) (cd : Value) (h₀ : Heap) (m : Str → Option Value) (s : Shared) (Q : Flow → Shared → Prop) (E : Value → Shared → Prop)
    (B : Below callerA h₀ [] h₀) (X : (Mine.hd.heap_39 w.params).In h₀) (T : Top p loose mean mg mb h₀) (hE : PassesOwn (model PySem.Challenge.rw_gb0004_02.row.prog w) (callerA.deeper (envX nm sc L fa cd [("order", cO), ("number", cN)])) (envX nm sc L fa cd [("order", cO), ("number", cN)]) E)
    (l P S jI jD : Addr) (oI oD : Obj) (number : Int) (tn : Tok) (oO oN : Obj) (hO : oO.data = .cell (some (.ref l))) (hN : oN.data = .cell (some (.int number tn))) (vo vp ys : List Value) (co : Nat) (ps qs : Array Value) (R : Led) (h30 : 1 ≤ number ∧ number ≤ 30)
    (a0 b0 a1 b1 a2 b2 : Int) (hlt0 : a0 < a1) (hlt1 : a1 < a2) (hsum : bitSum number ≠ 1) (hg0 : Good number a0 b0) (hg1 : Good number a1 b1) (hg2 : Good number a2 b2) (hys : IntsAre ys triL)
    (F : Fr h₀ L s.heap m) (N : News h₀ L s.heap ((l, W.listOf vo.toArray co) :: (P, LCg.lst vp) :: (30, tabObj ps) :: (37, tabObj qs) :: (cO, oO) :: (cN, oN) :: (S, LCg.lst ys) :: (jI, oI) :: (jD, oD) :: R))
    (hTo : TupsAre R vo [[a0, b0], [a1, b1], [a2, b2]]) (hTp : TupsAre R vp [[a0, b0], [a1, b1], [a2, b2]]) (hP : TabSt 32 4 inQ1 ps R) (hQ : TabSt 47 4 inQ2 qs R) (hR : ∀ p ∈ R, p.1 ≠ 30 ∧ p.1 ≠ 37 ∧ p.1 ≠ cO ∧ p.1 ≠ cN ∧ p.1 ≠ S ∧ p.1 ≠ jI)
    (lN : @LT.lt Nat _ 37 cN) (lO : @LT.lt Nat _ cN cO) (lS : HidP (S ≠ 30)) (lD2 : @LT.lt Nat _ cO jD) (lD : @LT.lt Nat _ S jD) (lI : @LT.lt Nat _ jD jI) (lP : @LT.lt Nat _ jI P) (ll : @LT.lt Nat _ P l)
    (hm1 : m (Str.ofString "sums") = some (.ref S)) (hm2 : m (Str.ofString "plain") = some (.ref P))
    (done : ∀ (m' : Str → Option Value) (h : Heap) (tk : Nat) (ps' : Array Value) (R' : Led), Fr h₀ L h m' → News h₀ L h ((30, tabObj ps') :: (37, tabObj qs) :: (cO, oO) :: (cN, oN) :: (S, LCg.lst ys) :: (jI, oI) :: (jD, oD) :: R') → TabSt 32 4 inQ1 ps' R' → TabSt 47 4 inQ2 qs R' →
      (∀ p ∈ R', p.1 ≠ 30 ∧ p.1 ≠ 37 ∧ p.1 ≠ cO ∧ p.1 ≠ cN ∧ p.1 ≠ S ∧ p.1 ≠ jI) → m' (Str.ofString "sums") = some (.ref S) → Q .next { s with heap := h, toks := tk }) :
    wpAny (model PySem.Challenge.rw_gb0004_02.row.prog w) (callerA.deeper (envX nm sc L fa cd [("order", cO), ("number", cN)])) (execs body (envX nm sc L fa cd [("order", cO), ("number", cN)])) Q E s := by
  revert X
  k_fill
  intro X
  with_unfolding_all cases hget
  have hMk : KstMark := kstMark
  k_with_none
  obtain ⟨xo0, uo0, co0, vvo0, rfl, mmo0, iio0, hTo⟩ := tups_cons hTo
  obtain ⟨to0a, to0b, rfl⟩ := ints_two iio0
  obtain ⟨xo1, uo1, co1, vvo1, rfl, mmo1, iio1, hTo⟩ := tups_cons hTo
  obtain ⟨to1a, to1b, rfl⟩ := ints_two iio1
  obtain ⟨xo2, uo2, co2, vvo2, rfl, mmo2, iio2, hTo⟩ := tups_cons hTo
  obtain ⟨to2a, to2b, rfl⟩ := ints_two iio2
  cases tups_nil hTo
  obtain ⟨xp0, up0, cp0, vvp0, rfl, mmp0, iip0, hTp⟩ := tups_cons hTp
  obtain ⟨tp0a, tp0b, rfl⟩ := ints_two iip0
  obtain ⟨xp1, up1, cp1, vvp1, rfl, mmp1, iip1, hTp⟩ := tups_cons hTp
  obtain ⟨tp1a, tp1b, rfl⟩ := ints_two iip1
  obtain ⟨xp2, up2, cp2, vvp2, rfl, mmp2, iip2, hTp⟩ := tups_cons hTp
  obtain ⟨tp2a, tp2b, rfl⟩ := ints_two iip2
  cases tups_nil hTp
  obtain ⟨cP, oP, mmP, hP1⟩ := hP.one mmo0
  obtain ⟨cQ, oQ, mmQ, hQ1⟩ := hQ.one mmo0
  have hsub : ∀ q ∈ [(cP, oP), (cQ, oQ), (xo0, tupO [.int (a0) to0a, .int b0 to0b] co0), (xo1, tupO [.int (a1) to1a, .int b1 to1b] co1), (xo2, tupO [.int (a2) to2a, .int b2 to2b] co2), (xp0, tupO [.int (a0) tp0a, .int b0 tp0b] cp0), (xp1, tupO [.int (a1) tp1a, .int b1 tp1b] cp1), (xp2, tupO [.int (a2) tp2a, .int b2 tp2b] cp2)], q ∈ R := List.forall_mem_cons.mpr ⟨mmP, List.forall_mem_cons.mpr ⟨mmQ, List.forall_mem_cons.mpr ⟨mmo0, List.forall_mem_cons.mpr ⟨mmo1, List.forall_mem_cons.mpr ⟨mmo2, List.forall_mem_cons.mpr ⟨mmp0, List.forall_mem_cons.mpr ⟨mmp1, List.forall_mem_cons.mpr ⟨mmp2, List.forall_mem_nil _⟩⟩⟩⟩⟩⟩⟩⟩
  have N2 := news_sub (l' := (l, _) :: (P, _) :: (30, _) :: (37, _) :: (cO, oO) :: (cN, oN) :: (S, _) :: (jI, oI) :: (jD, oD) :: [(cP, oP), (cQ, oQ), (xo0, tupO [.int (a0) to0a, .int b0 to0b] co0), (xo1, tupO [.int (a1) to1a, .int b1 to1b] co1), (xo2, tupO [.int (a2) to2a, .int b2 to2b] co2), (xp0, tupO [.int (a0) tp0a, .int b0 tp0b] cp0), (xp1, tupO [.int (a1) tp1a, .int b1 tp1b] cp1), (xp2, tupO [.int (a2) tp2a, .int b2 tp2b] cp2)]) N (by
    intro p9 h9
    rcases List.mem_cons.mp h9 with rfl | h9
    · exact .head _
    rcases List.mem_cons.mp h9 with rfl | h9
    · exact .tail _ (.head _)
    rcases List.mem_cons.mp h9 with rfl | h9
    · exact .tail _ (.tail _ (.head _))
    rcases List.mem_cons.mp h9 with rfl | h9
    · exact .tail _ (.tail _ (.tail _ (.head _)))
    rcases List.mem_cons.mp h9 with rfl | h9
    · exact .tail _ (.tail _ (.tail _ (.tail _ (.head _))))
    rcases List.mem_cons.mp h9 with rfl | h9
    · exact .tail _ (.tail _ (.tail _ (.tail _ (.tail _ (.head _)))))
    rcases List.mem_cons.mp h9 with rfl | h9
    · exact .tail _ (.tail _ (.tail _ (.tail _ (.tail _ (.tail _ (.head _))))))
    rcases List.mem_cons.mp h9 with rfl | h9
    · exact .tail _ (.tail _ (.tail _ (.tail _ (.tail _ (.tail _ (.tail _ (.head _)))))))
    rcases List.mem_cons.mp h9 with rfl | h9
    · exact .tail _ (.tail _ (.tail _ (.tail _ (.tail _ (.tail _ (.tail _ (.tail _ (.head _))))))))
    exact .tail _ (.tail _ (.tail _ (.tail _ (.tail _ (.tail _ (.tail _ (.tail _ (.tail _ (hsub p9 h9))))))))))
  have hdP : HidP (cP ≠ 30 ∧ cP ≠ 37 ∧ cP ≠ cO ∧ cP ≠ cN ∧ cP ≠ S ∧ cP ≠ jI) := hR _ mmP
  have hdQ : HidP (cQ ≠ 30 ∧ cQ ≠ 37 ∧ cQ ≠ cO ∧ cQ ≠ cN ∧ cQ ≠ S ∧ cQ ≠ jI) := hR _ mmQ
  have hdo0 : HidP (xo0 ≠ 30) := (hR _ mmo0).1
  have hdo1 : HidP (xo1 ≠ 30) := (hR _ mmo1).1
  have hdo2 : HidP (xo2 ≠ 30) := (hR _ mmo2).1
  clear hsub hR N hP hQ mmP mmQ mmo0 iio0 mmo1 iio1 mmo2 iio2 mmp0 iip0 mmp1 iip1 mmp2 iip2
  have F2 := fr_as ((if_neg (by decide)).trans hm1) (fr_as hm2 F)
  clear F
  have hne0 : ¬ a0 = a1 := Int.ne_of_lt hlt0
  have hne1 : ¬ a1 = a2 := Int.ne_of_lt hlt1
  k_with "ite" => ((with_reducible refine split_ieq (fun hi9 => absurd hi9 (by with_reducible assumption)) ?_); intro _; (try dsimp only))
  k_with "KatGo" => (first | (kat_known; first | refine kat_yes ?_ | refine kat_no ?_) | (refine kat_go (fun hk' => ?_) (fun hk' => ?_) <;> (try simp only [beq_iff_eq, beq_eq_false_iff_ne, ne_eq, decide_eq_true_eq, decide_eq_false_iff_not] at hk') <;> (first | exact absurd hk' (Int.ne_of_gt (by with_reducible assumption)) | skip)))
  k_with "KasNext" => (first | kas_known | (refine kas_split (fun hk' => ?_) (fun hk' => ?_) <;> (try simp only [decide_eq_true_eq, decide_eq_false_iff_not, Int.not_lt] at hk') <;> (first | exact absurd hk' (Int.lt_asymm (by with_reducible assumption)) | skip)))
  k_with "call ref" => (refine stop_here ?_)
  k_steps
  (with_reducible rename News _ _ _ _ => nI)
  (with_reducible rename Fr _ _ _ _ => fI)
  have nJ := news_sub (l' := (30, tabObj ps) :: [(l, W.listOf [.ref xo0, .ref xo1, .ref xo2].toArray co), (37, tabObj qs), (cO, oO), (cN, oN), (S, LCg.lst ys), (jI, oI), (jD, oD), (cP, oP), (cQ, oQ), (xo0, tupO [.int (a0) to0a, .int b0 to0b] co0), (xo1, tupO [.int (a1) to1a, .int b1 to1b] co1), (xo2, tupO [.int (a2) to2a, .int b2 to2b] co2)]) nI (by lcg_sub)
  have hr30 : ∀ q ∈ [(l, W.listOf [.ref xo0, .ref xo1, .ref xo2].toArray co), (37, tabObj qs), (cO, oO), (cN, oN), (S, LCg.lst ys), (jI, oI), (jD, oD), (cP, oP), (cQ, oQ), (xo0, tupO [.int (a0) to0a, .int b0 to0b] co0), (xo1, tupO [.int (a1) to1a, .int b1 to1b] co1), (xo2, tupO [.int (a2) to2a, .int b2 to2b] co2)], q.1 ≠ 30 := List.forall_mem_cons.mpr ⟨Nat.ne_of_gt (by omega), List.forall_mem_cons.mpr ⟨(show (37 : Nat) ≠ 30 by decide), List.forall_mem_cons.mpr ⟨Nat.ne_of_gt (by omega), List.forall_mem_cons.mpr ⟨Nat.ne_of_gt (by omega), List.forall_mem_cons.mpr ⟨lS, List.forall_mem_cons.mpr ⟨Nat.ne_of_gt (by omega), List.forall_mem_cons.mpr ⟨Nat.ne_of_gt (by omega), List.forall_mem_cons.mpr ⟨hdP.1, List.forall_mem_cons.mpr ⟨hdQ.1, List.forall_mem_cons.mpr ⟨hdo0, List.forall_mem_cons.mpr ⟨hdo1, List.forall_mem_cons.mpr ⟨hdo2, List.forall_mem_nil _⟩⟩⟩⟩⟩⟩⟩⟩⟩⟩⟩⟩
  clear nI
  refine go_on ?_
  refine' i2d_con w p loose mean mg mb number 1 _ _ [(l, W.listOf [.ref xo0, .ref xo1, .ref xo2].toArray co), (37, tabObj qs), (cO, oO), (cN, oN), (S, LCg.lst ys), (jI, oI), (jD, oD), (cP, oP), (cQ, oQ), (xo0, tupO [.int (a0) to0a, .int b0 to0b] co0), (xo1, tupO [.int (a1) to1a, .int b1 to1b] co1), (xo2, tupO [.int (a2) to2a, .int b2 to2b] co2)] [(cP, oP)] ps (fun q hq => by rw [List.mem_singleton.mp hq]; k_mem) (by omega) (by omega) (by decide) (by decide) hr30 hP1 _ _ _ _ _ _ _ _ _ _ _ _ _ _ _ _ _ ?i1r1 ?i1r2 ?i1r3 ?i1r4 ?i1r5 ?i1r0 ?i1r6 ?i1r7 ?i1r8
  case i1r1 => k_asm
  case i1r2 => k_asm
  case i1r3 => k_asm
  case i1r4 => exact nJ
  case i1r5 => k_asm
  case i1r0 => first | exact rfl | assumption
  case i1r6 => ktr_room
  case i1r7 => ktr_units
  case i1r8 =>
  intro ri1 nwi1 hi1 tki1 Fi1 Ni1 hOi1
  obtain ⟨D, vd, tl, ps1, rfl, hvd, rfl, hT1, hLo, hord, hne, h30D, hneD⟩ := hOi1
  try dsimp only
  try k_fold
  obtain ⟨cP2, oP2, mP2, hP2⟩ := hT1.one (d := (cP, oP)) (List.mem_append_right _ (.head _))
  have hdP2 : HidP (cP2 ≠ 30 ∧ cP2 ≠ 37 ∧ cP2 ≠ cO ∧ cP2 ≠ cN ∧ cP2 ≠ S ∧ cP2 ≠ jI) := by
    rcases List.mem_append.mp mP2 with h | h
    · exact ⟨hne _ h, Nat.ne_of_gt (hord (37, tabObj qs) (by k_mem) _ h), Nat.ne_of_gt (hord (cO, oO) (by k_mem) _ h), Nat.ne_of_gt (hord (cN, oN) (by k_mem) _ h), Nat.ne_of_gt (hord (S, LCg.lst ys) (by k_mem) _ h), Nat.ne_of_gt (hord (jI, oI) (by k_mem) _ h)⟩
    · cases List.mem_singleton.mp h; exact hdP
  have mP3 : (cP2, oP2) ∈ tl ++ [(l, W.listOf [.ref xo0, .ref xo1, .ref xo2].toArray co), (37, tabObj qs), (cO, oO), (cN, oN), (S, LCg.lst ys), (jI, oI), (jD, oD), (cP, oP), (cQ, oQ), (xo0, tupO [.int (a0) to0a, .int b0 to0b] co0), (xo1, tupO [.int (a1) to1a, .int b1 to1b] co1), (xo2, tupO [.int (a2) to2a, .int b2 to2b] co2)] := by
    rcases List.mem_append.mp mP2 with h | h
    · exact List.mem_append_left _ h
    · cases List.mem_singleton.mp h; exact List.mem_append_right _ (by k_mem)
  replace Ni1 := news_sub (l' := (D, _) :: (30, tabObj ps1) :: (cP2, oP2) :: [(l, W.listOf [.ref xo0, .ref xo1, .ref xo2].toArray co), (37, tabObj qs), (cO, oO), (cN, oN), (S, LCg.lst ys), (jI, oI), (jD, oD), (cP, oP), (cQ, oQ), (xo0, tupO [.int (a0) to0a, .int b0 to0b] co0), (xo1, tupO [.int (a1) to1a, .int b1 to1b] co1), (xo2, tupO [.int (a2) to2a, .int b2 to2b] co2)]) Ni1 (fun q hq => by
    rcases List.mem_cons.mp hq with rfl | hq
    · exact .head _
    rcases List.mem_cons.mp hq with rfl | hq
    · exact .tail _ (.head _)
    rcases List.mem_cons.mp hq with rfl | hq
    · exact .tail _ (.tail _ mP3)
    · exact .tail _ (.tail _ (List.mem_append_right _ hq)))
  clear hT1 hLo hord hne hneD mP2 mP3 hr30 nJ fI
  have hs9 : (i2dF number 1).sum ≠ 1 := hsum
  k_with "exec For Tuple Name cons nil" => (refine stop_here ?_)
  k_steps
  any_goals (first | (exfalso; contradiction) | (exfalso; simp_all; done) | skip)
  refine go_on ?_
  k_with_none
  k_with "execs cons" => (refine stop_here ?_)
  k_here
  (rename Fr _ _ _ _ => lF9)
  (with_unfolding_all refine' For_turns lF9 ?_)
  k_whole
  k_steps
  (with_reducible rename @LT.lt Nat _ _ _ ∧ @LT.lt Nat _ _ _ ∧ _ => zl)
  refine go_on ?_
  (with_reducible rename Fr _ _ _ _ => lF0)
  (with_reducible rename News _ _ _ _ => lN0)
  refine wayturn w p loose mean mg mb _ _ _ rfl L fa cO cN cd h₀ _ _ _ _ B X T (by passes_own) _ S ys number a0 b0 tn _ _ oN hN hg0 h30 hys lF0 (news_front2 lN0 (by k_mem) (by k_mem)) rfl rfl rfl ?_
  clear lF0 lN0
  intro m5 h5 tk5 F5 N5 hk5
  replace F5 := fr_as ((hk5 (Str.ofString "sums") (by decide)).trans rfl) F5
  replace N5 := news_back2 N5
  clear hk5
  try dsimp only
  k_steps
  refine' unr_end F5 N5 ?hn5x0 ⟨?hs5x0, ?hr5x0⟩
  case hn5x0 => exact al_ne _ zl
  case hs5x0 => k_subL
  case hr5x0 =>
  clear F5 N5
  k_steps
  refine go_on ?_
  (with_reducible rename Fr _ _ _ _ => lF0)
  (with_reducible rename News _ _ _ _ => lN0)
  refine wayturn w p loose mean mg mb _ _ _ rfl L fa cO cN cd h₀ _ _ _ _ B X T (by passes_own) _ S ys number a1 b1 tn _ _ oN hN hg1 h30 hys lF0 (news_front2 lN0 (by k_mem) (by k_mem)) rfl rfl rfl ?_
  clear lF0 lN0
  intro m5 h5 tk5 F5 N5 hk5
  replace F5 := fr_as ((hk5 (Str.ofString "sums") (by decide)).trans rfl) F5
  replace N5 := news_back2 N5
  clear hk5
  try dsimp only
  k_steps
  refine' unr_end F5 N5 ?hn5x1 ⟨?hs5x1, ?hr5x1⟩
  case hn5x1 => exact al_ne _ zl
  case hs5x1 => k_subL
  case hr5x1 =>
  clear F5 N5
  k_steps
  refine go_on ?_
  (with_reducible rename Fr _ _ _ _ => lF0)
  (with_reducible rename News _ _ _ _ => lN0)
  refine wayturn w p loose mean mg mb _ _ _ rfl L fa cO cN cd h₀ _ _ _ _ B X T (by passes_own) _ S ys number a2 b2 tn _ _ oN hN hg2 h30 hys lF0 (news_front2 lN0 (by k_mem) (by k_mem)) rfl rfl rfl ?_
  clear lF0 lN0
  intro m5 h5 tk5 F5 N5 hk5
  replace F5 := fr_as ((hk5 (Str.ofString "sums") (by decide)).trans rfl) F5
  replace N5 := news_back2 N5
  clear hk5
  try dsimp only
  k_steps
  refine' unr_end F5 N5 ?hn5x2 ⟨?hs5x2, ?hr5x2⟩
  case hn5x2 => exact al_ne _ zl
  case hs5x2 => k_subL
  case hr5x2 =>
  clear F5 N5
  k_steps
  (with_reducible rename Fr _ _ _ _ => eF)
  (with_reducible rename News _ _ _ _ => eN)
  exact done _ _ _ ps1 [(cP2, oP2), (cQ, oQ)] eF (news_sub eN (by lcg_sub)) (hP2.mono fun q hq => by rw [List.mem_singleton.mp hq]; exact .head _) (hQ1.mono fun q hq => by rw [List.mem_singleton.mp hq]; exact .tail _ (.head _)) (List.forall_mem_cons.mpr ⟨hdP2, List.forall_mem_cons.mpr ⟨hdQ, List.forall_mem_nil _⟩⟩) rfl
theorem tail4 (w : World) (p : Program) (loose : List Str) (mean : ExcName → Option Value) (mg mb : Str → Option Value) (nm : Str) (sc : Scope) (body : List Stmt) (hget : getTail (PySem.Challenge.pw_gb0004_02.main.body[13]?) 1 4 = some (nm, sc, body))
    (L fa cO cN : Addr) (cd : Value) (h₀ : Heap) (m : Str → Option Value) (s : Shared) (Q : Flow → Shared → Prop) (E : Value → Shared → Prop)
    (B : Below callerA h₀ [] h₀) (X : (Mine.hd.heap_39 w.params).In h₀) (T : Top p loose mean mg mb h₀) (hE : PassesOwn (model PySem.Challenge.rw_gb0004_02.row.prog w) (callerA.deeper (envX nm sc L fa cd [("order", cO), ("number", cN)])) (envX nm sc L fa cd [("order", cO), ("number", cN)]) E)
    (l P S jI jD : Addr) (oI oD : Obj) (number : Int) (tn : Tok) (oO oN : Obj) (hO : oO.data = .cell (some (.ref l))) (hN : oN.data = .cell (some (.int number tn))) (vo vp ys : List Value) (co : Nat) (ps qs : Array Value) (R : Led) (h30 : 1 ≤ number ∧ number ≤ 30)
    (a0 b0 a1 b1 a2 b2 a3 b3 : Int) (hlt0 : a0 < a1) (hlt1 : a1 < a2) (hlt2 : a2 < a3) (hsum : bitSum number ≠ 1) (hg0 : Good number a0 b0) (hg1 : Good number a1 b1) (hg2 : Good number a2 b2) (hg3 : Good number a3 b3) (hys : IntsAre ys triL)
    (F : Fr h₀ L s.heap m) (N : News h₀ L s.heap ((l, W.listOf vo.toArray co) :: (P, LCg.lst vp) :: (30, tabObj ps) :: (37, tabObj qs) :: (cO, oO) :: (cN, oN) :: (S, LCg.lst ys) :: (jI, oI) :: (jD, oD) :: R))
    (hTo : TupsAre R vo [[a0, b0], [a1, b1], [a2, b2], [a3, b3]]) (hTp : TupsAre R vp [[a0, b0], [a1, b1], [a2, b2], [a3, b3]]) (hP : TabSt 32 4 inQ1 ps R) (hQ : TabSt 47 4 inQ2 qs R) (hR : ∀ p ∈ R, p.1 ≠ 30 ∧ p.1 ≠ 37 ∧ p.1 ≠ cO ∧ p.1 ≠ cN ∧ p.1 ≠ S ∧ p.1 ≠ jI)
    (lN : @LT.lt Nat _ 37 cN) (lO : @LT.lt Nat _ cN cO) (lS : HidP (S ≠ 30)) (lD2 : @LT.lt Nat _ cO jD) (lD : @LT.lt Nat _ S jD) (lI : @LT.lt Nat _ jD jI) (lP : @LT.lt Nat _ jI P) (ll : @LT.lt Nat _ P l)
    (hm1 : m (Str.ofString "sums") = some (.ref S)) (hm2 : m (Str.ofString "plain") = some (.ref P))
    (done : ∀ (m' : Str → Option Value) (h : Heap) (tk : Nat) (ps' : Array Value) (R' : Led), Fr h₀ L h m' → News h₀ L h ((30, tabObj ps') :: (37, tabObj qs) :: (cO, oO) :: (cN, oN) :: (S, LCg.lst ys) :: (jI, oI) :: (jD, oD) :: R') → TabSt 32 4 inQ1 ps' R' → TabSt 47 4 inQ2 qs R' →
      (∀ p ∈ R', p.1 ≠ 30 ∧ p.1 ≠ 37 ∧ p.1 ≠ cO ∧ p.1 ≠ cN ∧ p.1 ≠ S ∧ p.1 ≠ jI) → m' (Str.ofString "sums") = some (.ref S) → Q .next { s with heap := h, toks := tk }) :
    wpAny (model PySem.Challenge.rw_gb0004_02.row.prog w) (callerA.deeper (envX nm sc L fa cd [("order", cO), ("number", cN)])) (execs body (envX nm sc L fa cd [("order", cO), ("number", cN)])) Q E s := by
  revert X
  k_fill
  intro X
  with_unfolding_all cases hget
  have hMk : KstMark := kstMark
  k_with_none
  obtain ⟨xo0, uo0, co0, vvo0, rfl, mmo0, iio0, hTo⟩ := tups_cons hTo
  obtain ⟨to0a, to0b, rfl⟩ := ints_two iio0
  obtain ⟨xo1, uo1, co1, vvo1, rfl, mmo1, iio1, hTo⟩ := tups_cons hTo
  obtain ⟨to1a, to1b, rfl⟩ := ints_two iio1
  obtain ⟨xo2, uo2, co2, vvo2, rfl, mmo2, iio2, hTo⟩ := tups_cons hTo
  obtain ⟨to2a, to2b, rfl⟩ := ints_two iio2
  obtain ⟨xo3, uo3, co3, vvo3, rfl, mmo3, iio3, hTo⟩ := tups_cons hTo
  obtain ⟨to3a, to3b, rfl⟩ := ints_two iio3
  cases tups_nil hTo
  obtain ⟨xp0, up0, cp0, vvp0, rfl, mmp0, iip0, hTp⟩ := tups_cons hTp
  obtain ⟨tp0a, tp0b, rfl⟩ := ints_two iip0
  obtain ⟨xp1, up1, cp1, vvp1, rfl, mmp1, iip1, hTp⟩ := tups_cons hTp
  obtain ⟨tp1a, tp1b, rfl⟩ := ints_two iip1
  obtain ⟨xp2, up2, cp2, vvp2, rfl, mmp2, iip2, hTp⟩ := tups_cons hTp
  obtain ⟨tp2a, tp2b, rfl⟩ := ints_two iip2
  obtain ⟨xp3, up3, cp3, vvp3, rfl, mmp3, iip3, hTp⟩ := tups_cons hTp
  obtain ⟨tp3a, tp3b, rfl⟩ := ints_two iip3
  cases tups_nil hTp
  obtain ⟨cP, oP, mmP, hP1⟩ := hP.one mmo0
  obtain ⟨cQ, oQ, mmQ, hQ1⟩ := hQ.one mmo0
  have hsub : ∀ q ∈ [(cP, oP), (cQ, oQ), (xo0, tupO [.int (a0) to0a, .int b0 to0b] co0), (xo1, tupO [.int (a1) to1a, .int b1 to1b] co1), (xo2, tupO [.int (a2) to2a, .int b2 to2b] co2), (xo3, tupO [.int (a3) to3a, .int b3 to3b] co3), (xp0, tupO [.int (a0) tp0a, .int b0 tp0b] cp0), (xp1, tupO [.int (a1) tp1a, .int b1 tp1b] cp1), (xp2, tupO [.int (a2) tp2a, .int b2 tp2b] cp2), (xp3, tupO [.int (a3) tp3a, .int b3 tp3b] cp3)], q ∈ R := List.forall_mem_cons.mpr ⟨mmP, List.forall_mem_cons.mpr ⟨mmQ, List.forall_mem_cons.mpr ⟨mmo0, List.forall_mem_cons.mpr ⟨mmo1, List.forall_mem_cons.mpr ⟨mmo2, List.forall_mem_cons.mpr ⟨mmo3, List.forall_mem_cons.mpr ⟨mmp0, List.forall_mem_cons.mpr ⟨mmp1, List.forall_mem_cons.mpr ⟨mmp2, List.forall_mem_cons.mpr ⟨mmp3, List.forall_mem_nil _⟩⟩⟩⟩⟩⟩⟩⟩⟩⟩
  have N2 := news_sub (l' := (l, _) :: (P, _) :: (30, _) :: (37, _) :: (cO, oO) :: (cN, oN) :: (S, _) :: (jI, oI) :: (jD, oD) :: [(cP, oP), (cQ, oQ), (xo0, tupO [.int (a0) to0a, .int b0 to0b] co0), (xo1, tupO [.int (a1) to1a, .int b1 to1b] co1), (xo2, tupO [.int (a2) to2a, .int b2 to2b] co2), (xo3, tupO [.int (a3) to3a, .int b3 to3b] co3), (xp0, tupO [.int (a0) tp0a, .int b0 tp0b] cp0), (xp1, tupO [.int (a1) tp1a, .int b1 tp1b] cp1), (xp2, tupO [.int (a2) tp2a, .int b2 tp2b] cp2), (xp3, tupO [.int (a3) tp3a, .int b3 tp3b] cp3)]) N (by
    intro p9 h9
    rcases List.mem_cons.mp h9 with rfl | h9
    · exact .head _
    rcases List.mem_cons.mp h9 with rfl | h9
    · exact .tail _ (.head _)
    rcases List.mem_cons.mp h9 with rfl | h9
    · exact .tail _ (.tail _ (.head _))
    rcases List.mem_cons.mp h9 with rfl | h9
    · exact .tail _ (.tail _ (.tail _ (.head _)))
    rcases List.mem_cons.mp h9 with rfl | h9
    · exact .tail _ (.tail _ (.tail _ (.tail _ (.head _))))
    rcases List.mem_cons.mp h9 with rfl | h9
    · exact .tail _ (.tail _ (.tail _ (.tail _ (.tail _ (.head _)))))
    rcases List.mem_cons.mp h9 with rfl | h9
    · exact .tail _ (.tail _ (.tail _ (.tail _ (.tail _ (.tail _ (.head _))))))
    rcases List.mem_cons.mp h9 with rfl | h9
    · exact .tail _ (.tail _ (.tail _ (.tail _ (.tail _ (.tail _ (.tail _ (.head _)))))))
    rcases List.mem_cons.mp h9 with rfl | h9
    · exact .tail _ (.tail _ (.tail _ (.tail _ (.tail _ (.tail _ (.tail _ (.tail _ (.head _))))))))
    exact .tail _ (.tail _ (.tail _ (.tail _ (.tail _ (.tail _ (.tail _ (.tail _ (.tail _ (hsub p9 h9))))))))))
  have hdP : HidP (cP ≠ 30 ∧ cP ≠ 37 ∧ cP ≠ cO ∧ cP ≠ cN ∧ cP ≠ S ∧ cP ≠ jI) := hR _ mmP
  have hdQ : HidP (cQ ≠ 30 ∧ cQ ≠ 37 ∧ cQ ≠ cO ∧ cQ ≠ cN ∧ cQ ≠ S ∧ cQ ≠ jI) := hR _ mmQ
  have hdo0 : HidP (xo0 ≠ 30) := (hR _ mmo0).1
  have hdo1 : HidP (xo1 ≠ 30) := (hR _ mmo1).1
  have hdo2 : HidP (xo2 ≠ 30) := (hR _ mmo2).1
  have hdo3 : HidP (xo3 ≠ 30) := (hR _ mmo3).1
  clear hsub hR N hP hQ mmP mmQ mmo0 iio0 mmo1 iio1 mmo2 iio2 mmo3 iio3 mmp0 iip0 mmp1 iip1 mmp2 iip2 mmp3 iip3
  have F2 := fr_as ((if_neg (by decide)).trans hm1) (fr_as hm2 F)
  clear F
  k_with "call builtin:sorted" => (k_here; (with_unfolding_all refine' kat_sorted ?zw1 ?zw2 ?zw3 ?zw4 ?zw5 ?_; (case zw1 => k_asm); (case zw2 => k_asm); (case zw3 => kso_list); (case zw4 => exact Nat.le_of_ble_eq_true rfl); (case zw5 => exact Nat.le_of_ble_eq_true rfl); k_whole); intro D' e' h' F' N' l1; (try k_lt l1); (try k_sweep); kat_kinds)
  have hne0 : ¬ a0 = a1 := Int.ne_of_lt hlt0
  have hne1 : ¬ a1 = a2 := Int.ne_of_lt hlt1
  have hne2 : ¬ a2 = a3 := Int.ne_of_lt hlt2
  k_with "ite" => ((with_reducible refine split_ieq (fun hi9 => absurd hi9 (by with_reducible assumption)) ?_); intro _; (try dsimp only))
  k_with "KatGo" => (first | (kat_known; first | refine kat_yes ?_ | refine kat_no ?_) | (refine kat_go (fun hk' => ?_) (fun hk' => ?_) <;> (try simp only [beq_iff_eq, beq_eq_false_iff_ne, ne_eq, decide_eq_true_eq, decide_eq_false_iff_not] at hk') <;> (first | exact absurd hk' (Int.ne_of_gt (by with_reducible assumption)) | skip)))
  k_with "KasNext" => (first | kas_known | (refine kas_split (fun hk' => ?_) (fun hk' => ?_) <;> (try simp only [decide_eq_true_eq, decide_eq_false_iff_not, Int.not_lt] at hk') <;> (first | exact absurd hk' (Int.lt_asymm (by with_reducible assumption)) | skip)))
  k_with "call ref" => (refine stop_here ?_)
  k_steps
  (with_reducible rename News _ _ _ _ => nI)
  (with_reducible rename Fr _ _ _ _ => fI)
  have nJ := news_sub (l' := (30, tabObj ps) :: [(l, W.listOf [.ref xo0, .ref xo1, .ref xo2, .ref xo3].toArray co), (37, tabObj qs), (cO, oO), (cN, oN), (S, LCg.lst ys), (jI, oI), (jD, oD), (cP, oP), (cQ, oQ), (xo0, tupO [.int (a0) to0a, .int b0 to0b] co0), (xo1, tupO [.int (a1) to1a, .int b1 to1b] co1), (xo2, tupO [.int (a2) to2a, .int b2 to2b] co2), (xo3, tupO [.int (a3) to3a, .int b3 to3b] co3)]) nI (by lcg_sub)
  have hr30 : ∀ q ∈ [(l, W.listOf [.ref xo0, .ref xo1, .ref xo2, .ref xo3].toArray co), (37, tabObj qs), (cO, oO), (cN, oN), (S, LCg.lst ys), (jI, oI), (jD, oD), (cP, oP), (cQ, oQ), (xo0, tupO [.int (a0) to0a, .int b0 to0b] co0), (xo1, tupO [.int (a1) to1a, .int b1 to1b] co1), (xo2, tupO [.int (a2) to2a, .int b2 to2b] co2), (xo3, tupO [.int (a3) to3a, .int b3 to3b] co3)], q.1 ≠ 30 := List.forall_mem_cons.mpr ⟨Nat.ne_of_gt (by omega), List.forall_mem_cons.mpr ⟨(show (37 : Nat) ≠ 30 by decide), List.forall_mem_cons.mpr ⟨Nat.ne_of_gt (by omega), List.forall_mem_cons.mpr ⟨Nat.ne_of_gt (by omega), List.forall_mem_cons.mpr ⟨lS, List.forall_mem_cons.mpr ⟨Nat.ne_of_gt (by omega), List.forall_mem_cons.mpr ⟨Nat.ne_of_gt (by omega), List.forall_mem_cons.mpr ⟨hdP.1, List.forall_mem_cons.mpr ⟨hdQ.1, List.forall_mem_cons.mpr ⟨hdo0, List.forall_mem_cons.mpr ⟨hdo1, List.forall_mem_cons.mpr ⟨hdo2, List.forall_mem_cons.mpr ⟨hdo3, List.forall_mem_nil _⟩⟩⟩⟩⟩⟩⟩⟩⟩⟩⟩⟩⟩
  clear nI
  refine go_on ?_
  refine' i2d_con w p loose mean mg mb number 1 _ _ [(l, W.listOf [.ref xo0, .ref xo1, .ref xo2, .ref xo3].toArray co), (37, tabObj qs), (cO, oO), (cN, oN), (S, LCg.lst ys), (jI, oI), (jD, oD), (cP, oP), (cQ, oQ), (xo0, tupO [.int (a0) to0a, .int b0 to0b] co0), (xo1, tupO [.int (a1) to1a, .int b1 to1b] co1), (xo2, tupO [.int (a2) to2a, .int b2 to2b] co2), (xo3, tupO [.int (a3) to3a, .int b3 to3b] co3)] [(cP, oP)] ps (fun q hq => by rw [List.mem_singleton.mp hq]; k_mem) (by omega) (by omega) (by decide) (by decide) hr30 hP1 _ _ _ _ _ _ _ _ _ _ _ _ _ _ _ _ _ ?i1r1 ?i1r2 ?i1r3 ?i1r4 ?i1r5 ?i1r0 ?i1r6 ?i1r7 ?i1r8
  case i1r1 => k_asm
  case i1r2 => k_asm
  case i1r3 => k_asm
  case i1r4 => exact nJ
  case i1r5 => k_asm
  case i1r0 => first | exact rfl | assumption
  case i1r6 => ktr_room
  case i1r7 => ktr_units
  case i1r8 =>
  intro ri1 nwi1 hi1 tki1 Fi1 Ni1 hOi1
  obtain ⟨D, vd, tl, ps1, rfl, hvd, rfl, hT1, hLo, hord, hne, h30D, hneD⟩ := hOi1
  try dsimp only
  try k_fold
  obtain ⟨cP2, oP2, mP2, hP2⟩ := hT1.one (d := (cP, oP)) (List.mem_append_right _ (.head _))
  have hdP2 : HidP (cP2 ≠ 30 ∧ cP2 ≠ 37 ∧ cP2 ≠ cO ∧ cP2 ≠ cN ∧ cP2 ≠ S ∧ cP2 ≠ jI) := by
    rcases List.mem_append.mp mP2 with h | h
    · exact ⟨hne _ h, Nat.ne_of_gt (hord (37, tabObj qs) (by k_mem) _ h), Nat.ne_of_gt (hord (cO, oO) (by k_mem) _ h), Nat.ne_of_gt (hord (cN, oN) (by k_mem) _ h), Nat.ne_of_gt (hord (S, LCg.lst ys) (by k_mem) _ h), Nat.ne_of_gt (hord (jI, oI) (by k_mem) _ h)⟩
    · cases List.mem_singleton.mp h; exact hdP
  have mP3 : (cP2, oP2) ∈ tl ++ [(l, W.listOf [.ref xo0, .ref xo1, .ref xo2, .ref xo3].toArray co), (37, tabObj qs), (cO, oO), (cN, oN), (S, LCg.lst ys), (jI, oI), (jD, oD), (cP, oP), (cQ, oQ), (xo0, tupO [.int (a0) to0a, .int b0 to0b] co0), (xo1, tupO [.int (a1) to1a, .int b1 to1b] co1), (xo2, tupO [.int (a2) to2a, .int b2 to2b] co2), (xo3, tupO [.int (a3) to3a, .int b3 to3b] co3)] := by
    rcases List.mem_append.mp mP2 with h | h
    · exact List.mem_append_left _ h
    · cases List.mem_singleton.mp h; exact List.mem_append_right _ (by k_mem)
  replace Ni1 := news_sub (l' := (D, _) :: (30, tabObj ps1) :: (cP2, oP2) :: [(l, W.listOf [.ref xo0, .ref xo1, .ref xo2, .ref xo3].toArray co), (37, tabObj qs), (cO, oO), (cN, oN), (S, LCg.lst ys), (jI, oI), (jD, oD), (cP, oP), (cQ, oQ), (xo0, tupO [.int (a0) to0a, .int b0 to0b] co0), (xo1, tupO [.int (a1) to1a, .int b1 to1b] co1), (xo2, tupO [.int (a2) to2a, .int b2 to2b] co2), (xo3, tupO [.int (a3) to3a, .int b3 to3b] co3)]) Ni1 (fun q hq => by
    rcases List.mem_cons.mp hq with rfl | hq
    · exact .head _
    rcases List.mem_cons.mp hq with rfl | hq
    · exact .tail _ (.head _)
    rcases List.mem_cons.mp hq with rfl | hq
    · exact .tail _ (.tail _ mP3)
    · exact .tail _ (.tail _ (List.mem_append_right _ hq)))
  clear hT1 hLo hord hne hneD mP2 mP3 hr30 nJ fI
  have hs9 : (i2dF number 1).sum ≠ 1 := hsum
  k_with "exec For Tuple Name cons nil" => (refine stop_here ?_)
  k_steps
  any_goals (first | (exfalso; contradiction) | (exfalso; simp_all; done) | skip)
  refine go_on ?_
  k_with_none
  k_with "execs cons" => (refine stop_here ?_)
  k_here
  (rename Fr _ _ _ _ => lF9)
  (with_unfolding_all refine' For_turns lF9 ?_)
  k_whole
  k_steps
  (with_reducible rename @LT.lt Nat _ _ _ ∧ @LT.lt Nat _ _ _ ∧ _ => zl)
  refine go_on ?_
  (with_reducible rename Fr _ _ _ _ => lF0)
  (with_reducible rename News _ _ _ _ => lN0)
  refine wayturn w p loose mean mg mb _ _ _ rfl L fa cO cN cd h₀ _ _ _ _ B X T (by passes_own) _ S ys number a0 b0 tn _ _ oN hN hg0 h30 hys lF0 (news_front2 lN0 (by k_mem) (by k_mem)) rfl rfl rfl ?_
  clear lF0 lN0
  intro m5 h5 tk5 F5 N5 hk5
  replace F5 := fr_as ((hk5 (Str.ofString "sums") (by decide)).trans rfl) F5
  replace N5 := news_back2 N5
  clear hk5
  try dsimp only
  k_steps
  refine' unr_end F5 N5 ?hn5x0 ⟨?hs5x0, ?hr5x0⟩
  case hn5x0 => exact al_ne _ zl
  case hs5x0 => k_subL
  case hr5x0 =>
  clear F5 N5
  k_steps
  refine go_on ?_
  (with_reducible rename Fr _ _ _ _ => lF0)
  (with_reducible rename News _ _ _ _ => lN0)
  refine wayturn w p loose mean mg mb _ _ _ rfl L fa cO cN cd h₀ _ _ _ _ B X T (by passes_own) _ S ys number a1 b1 tn _ _ oN hN hg1 h30 hys lF0 (news_front2 lN0 (by k_mem) (by k_mem)) rfl rfl rfl ?_
  clear lF0 lN0
  intro m5 h5 tk5 F5 N5 hk5
  replace F5 := fr_as ((hk5 (Str.ofString "sums") (by decide)).trans rfl) F5
  replace N5 := news_back2 N5
  clear hk5
  try dsimp only
  k_steps
  refine' unr_end F5 N5 ?hn5x1 ⟨?hs5x1, ?hr5x1⟩
  case hn5x1 => exact al_ne _ zl
  case hs5x1 => k_subL
  case hr5x1 =>
  clear F5 N5
  k_steps
  refine go_on ?_
  (with_reducible rename Fr _ _ _ _ => lF0)
  (with_reducible rename News _ _ _ _ => lN0)
  refine wayturn w p loose mean mg mb _ _ _ rfl L fa cO cN cd h₀ _ _ _ _ B X T (by passes_own) _ S ys number a2 b2 tn _ _ oN hN hg2 h30 hys lF0 (news_front2 lN0 (by k_mem) (by k_mem)) rfl rfl rfl ?_
  clear lF0 lN0
  intro m5 h5 tk5 F5 N5 hk5
  replace F5 := fr_as ((hk5 (Str.ofString "sums") (by decide)).trans rfl) F5
  replace N5 := news_back2 N5
  clear hk5
  try dsimp only
  k_steps
  refine' unr_end F5 N5 ?hn5x2 ⟨?hs5x2, ?hr5x2⟩
  case hn5x2 => exact al_ne _ zl
  case hs5x2 => k_subL
  case hr5x2 =>
  clear F5 N5
  k_steps
  refine go_on ?_
  (with_reducible rename Fr _ _ _ _ => lF0)
  (with_reducible rename News _ _ _ _ => lN0)
  refine wayturn w p loose mean mg mb _ _ _ rfl L fa cO cN cd h₀ _ _ _ _ B X T (by passes_own) _ S ys number a3 b3 tn _ _ oN hN hg3 h30 hys lF0 (news_front2 lN0 (by k_mem) (by k_mem)) rfl rfl rfl ?_
  clear lF0 lN0
  intro m5 h5 tk5 F5 N5 hk5
  replace F5 := fr_as ((hk5 (Str.ofString "sums") (by decide)).trans rfl) F5
  replace N5 := news_back2 N5
  clear hk5
  try dsimp only
  k_steps
  refine' unr_end F5 N5 ?hn5x3 ⟨?hs5x3, ?hr5x3⟩
  case hn5x3 => exact al_ne _ zl
  case hs5x3 => k_subL
  case hr5x3 =>
  clear F5 N5
  k_steps
  (with_reducible rename Fr _ _ _ _ => eF)
  (with_reducible rename News _ _ _ _ => eN)
  exact done _ _ _ ps1 [(cP2, oP2), (cQ, oQ)] eF (news_sub eN (by lcg_sub)) (hP2.mono fun q hq => by rw [List.mem_singleton.mp hq]; exact .head _) (hQ1.mono fun q hq => by rw [List.mem_singleton.mp hq]; exact .tail _ (.head _)) (List.forall_mem_cons.mpr ⟨hdP2, List.forall_mem_cons.mpr ⟨hdQ, List.forall_mem_nil _⟩⟩) rfl
end
theorem reset_ZTL : True := by
  k_with_none
  w_top off
  exact True.intro

end

-- ZT1
open PySem PySem.W PyProof.Rows PySem.Calls PySem.Spec
set_option Elab.async false
section
set_option maxRecDepth 100000
set_option maxHeartbeats 4000000
/-- the body of the loop that stands i-th in a def's block -/
def getLoop (b : Option Stmt) (i : Nat) : Option (Str × Scope × Str × List Stmt) := match b with
  | some (.FunctionDef n _ l _ _ _ sc _ _ _) => match l[i]? with
    | some (.For (.Name x _) _ body _ _) => some (n, sc, x, body)
    | _ => none
  | _ => none
theorem news_ord {h₀ h : Heap} {L : Addr} {a b c d e f g i j : Addr × Obj} {tl R : Led} (N : News h₀ L h (a :: b :: c :: d :: e :: (tl ++ (f :: g :: i :: j :: R)))) : News h₀ L h (a :: j :: b :: c :: d :: e :: f :: g :: i :: (tl ++ R)) := news_sub N (by
  intro p hp
  simp only [List.mem_cons, List.mem_append] at hp ⊢
  rcases hp with h | h | h | h | h | h | h | h | h | h | h <;> simp [h])
theorem turn (w : World) (p : Program) (loose : List Str) (mean : ExcName → Option Value) (mg mb : Str → Option Value) (nm : Str) (sc : Scope) (x : Str) (body : List Stmt) (hget : getLoop (PySem.Challenge.pw_gb0004_02.main.body[13]?) 1 = some (nm, sc, x, body))
    (L fa cO cN : Addr) (cd : Value) (h₀ : Heap) (m : Str → Option Value) (s : Shared) (Q : Flow → Shared → Prop) (E : Value → Shared → Prop)
    (B : Below callerA h₀ [] h₀) (X : (Mine.hd.heap_39 w.params).In h₀) (T : Top p loose mean mg mb h₀) (hE : PassesOwn (model PySem.Challenge.rw_gb0004_02.row.prog w) (callerA.deeper (envX nm sc L fa cd [("order", cO), ("number", cN)])) (envX nm sc L fa cd [("order", cO), ("number", cN)]) E)
    (S jI jD : Addr) (oI oD : Obj) (ys : List Value) (v : Int) (tv : Tok) (oO oN : Obj) (vO vN : Option Value) (ps qs : Array Value) (R : Led)
    (hys : IntsAre ys triL) (hO : oO.data = .cell vO) (hN : oN.data = .cell vN)
    (F : Fr h₀ L s.heap (fun y => if y = x then some (.int v tv) else m y)) (N : News h₀ L s.heap ((30, tabObj ps) :: (37, tabObj qs) :: (cO, oO) :: (cN, oN) :: (S, LCg.lst ys) :: (jI, oI) :: (jD, oD) :: R))
    (hP : TabSt 32 4 inQ1 ps R) (hQ : TabSt 47 4 inQ2 qs R)
    (hR : ∀ p ∈ R, p.1 ≠ 30 ∧ p.1 ≠ 37 ∧ p.1 ≠ cO ∧ p.1 ≠ cN ∧ p.1 ≠ S ∧ p.1 ≠ jI) (hcN : @LT.lt Nat _ 37 cN) (hcO : @LT.lt Nat _ cN cO) (hS0 : @Ne Nat S 30) (hS7 : @Ne Nat S 37) (hSO : @Ne Nat S cO) (hSN : @Ne Nat S cN) (hjO : @LT.lt Nat _ cO jD) (hjD : @LT.lt Nat _ S jD) (hjI : @LT.lt Nat _ jD jI)
    (hm : m (Str.ofString "sums") = some (.ref S))
    (done : ∀ (m' : Str → Option Value) (h : Heap) (tk : Nat) (oO' oN' : Obj) (ps' qs' : Array Value) (R' : Led), Fr h₀ L h m' → News h₀ L h ((30, tabObj ps') :: (37, tabObj qs') :: (cO, oO') :: (cN, oN') :: (S, LCg.lst ys) :: (jI, oI) :: (jD, oD) :: R') →
      (∃ v, oO'.data = .cell v) → (∃ v, oN'.data = .cell v) → TabSt 32 4 inQ1 ps' R' → TabSt 47 4 inQ2 qs' R' →
      (∀ p ∈ R', p.1 ≠ 30 ∧ p.1 ≠ 37 ∧ p.1 ≠ cO ∧ p.1 ≠ cN ∧ p.1 ≠ S ∧ p.1 ≠ jI) → m' (Str.ofString "sums") = some (.ref S) → Q .next { s with heap := h, toks := tk }) :
    wpAny (model PySem.Challenge.rw_gb0004_02.row.prog w) (callerA.deeper (envX nm sc L fa cd [("order", cO), ("number", cN)])) (execs body (envX nm sc L fa cd [("order", cO), ("number", cN)])) Q E s := by
  revert X
  k_fill
  intro X
  with_unfolding_all cases hget
  have hMk : KstMark := kstMark
  k_with_none
  k_with "call ref" => (refine stop_here ?_)
  k_with "pyIter ref" => (refine stop_here ?_)
  k_with "exec Assign cons ListComp" => (refine stop_here ?_)
  have hR30 : ∀ p ∈ R, p.1 ≠ 30 := fun p hp => (hR p hp).1
  have hR37 : ∀ p ∈ R, p.1 ≠ 37 := fun p hp => (hR p hp).2.1
  have hRO : ∀ p ∈ R, p.1 ≠ cO := fun p hp => (hR p hp).2.2.1
  have hRN : ∀ p ∈ R, p.1 ≠ cN := fun p hp => (hR p hp).2.2.2.1
  have hv1 := Int.fmod_nonneg_of_pos v (show (0 : Int) < 30 by decide)
  have hv2 := Int.fmod_lt_of_pos v (show (0 : Int) < 30 by decide)
  k_steps
  (with_reducible rename Fr _ _ _ _ => lF)
  (with_reducible rename News _ _ _ _ => lN)
  (with_reducible rename _ = Data.cell (some _) => lD)
  (with_reducible rename Obj => oN2)
  refine go_on ?_
  refine' plain_comp w p loose mean mg mb _ _ _ ?pg L fa cO cN cd h₀ _ _ _ _ B X T _ _ ?p1 ?p2 _ lD ((30, tabObj ps) :: (37, tabObj qs) :: (cO, oO) :: (S, LCg.lst ys) :: (jI, oI) :: (jD, oD) :: R) lF (news_sub lN ?p3) ?pdone
  case pg => rfl
  case p1 => omega
  case p2 => omega
  case p3 => (intro p9 h9; simp only [List.mem_cons] at h9 ⊢; rcases h9 with h | h | h | h | h | h | h | h <;> simp [h])
  case pdone =>
  clear lF lN
  intro P hP' tkP vp tlp FP NP hTp gP lP
  have lPI : @LT.lt Nat _ jI P := lP (jI, oI) (.tail _ (.tail _ (.tail _ (.tail _ (.tail _ (.head _))))))
  have hR1 : ∀ p ∈ tlp ++ R, p.1 ≠ 30 ∧ p.1 ≠ 37 ∧ p.1 ≠ cO ∧ p.1 ≠ cN ∧ p.1 ≠ S ∧ p.1 ≠ jI ∧ p.1 ≠ P := by
    intro p hp
    rcases List.mem_append.mp hp with h | h
    · have h1 := gP p h
      exact ⟨Nat.ne_of_gt (by omega), Nat.ne_of_gt (by omega), Nat.ne_of_gt (by omega), Nat.ne_of_gt (by omega), Nat.ne_of_gt (by omega), Nat.ne_of_gt (by omega), Nat.ne_of_gt (by omega)⟩
    · have h1 := hR p h
      exact ⟨h1.1, h1.2.1, h1.2.2.1, h1.2.2.2.1, h1.2.2.2.2.1, h1.2.2.2.2.2, Nat.ne_of_lt (lP p (.tail _ (.tail _ (.tail _ (.tail _ (.tail _ (.tail _ (.tail _ h))))))))⟩
  replace NP := news_sub (l' := (30, tabObj ps) :: (37, tabObj qs) :: (cO, oO) :: (cN, oN2) :: (S, LCg.lst ys) :: (jI, oI) :: (jD, oD) :: (P, LCg.lst vp) :: (tlp ++ R)) NP (by
    intro p9 h9; simp only [List.mem_cons, List.mem_append] at h9 ⊢; rcases h9 with h | h | h | h | h | h | h | h | h | h <;> simp [h])
  have hTp1 := hTp.mono (news' := tlp ++ R) (fun _ h => List.mem_append_left _ h)
  have hP1 := hP.mono (rest' := tlp ++ R) (fun _ h => List.mem_append_right _ h)
  have hQ1 := hQ.mono (rest' := tlp ++ R) (fun _ h => List.mem_append_right _ h)
  clear hTp gP lP hR30 hR37 hRO hRN hR hP hQ
  generalize tlp ++ R = R1 at *
  have hR30 : ∀ p ∈ R1, p.1 ≠ 30 := fun p hp => (hR1 p hp).1
  have hR37 : ∀ p ∈ R1, p.1 ≠ 37 := fun p hp => (hR1 p hp).2.1
  have hRO : ∀ p ∈ R1, p.1 ≠ cO := fun p hp => (hR1 p hp).2.2.1
  have hRN : ∀ p ∈ R1, p.1 ≠ cN := fun p hp => (hR1 p hp).2.2.2.1
  try dsimp only
  k_steps
  (with_reducible rename IsRange _ _ _ _ _ _ _ _ => rg)
  (with_reducible rename Fr _ _ _ _ => lF)
  (with_reducible rename News _ _ _ _ => lN)
  (with_reducible rename _ = Data.cell (some (Value.ref _)) => lD2)
  (with_reducible rename Obj => oO2)
  (with_reducible rename @LT.lt Nat _ _ _ ∧ @LT.lt Nat _ _ _ ∧ @LT.lt Nat _ _ _ ∧ @LT.lt Nat _ _ _ ∧ @LT.lt Nat _ _ _ ∧ @LT.lt Nat _ _ _ ∧ @LT.lt Nat _ _ _ ∧ @LT.lt Nat _ _ _ ∧ AllLt _ _ => zl)
  obtain ⟨z30, z37, zO, zN, zS, zI, zD, zP, zA⟩ := zl
  refine go_on ?_
  refine' oddloop w p loose mean mg mb _ _ _ _ ?og L fa cO cN cd h₀ _ _ _ _ B X T ?oe _ _ (1 + v.fmod 30) _ ?on1 ?on2 _ oN2 lD2 lD ps qs ((S, LCg.lst ys) :: (jI, oI) :: (jD, oD) :: (P, LCg.lst vp) :: R1) R1 (fun _ h => .tail _ (.tail _ (.tail _ (.tail _ h)))) _ _ _ rg lF lN hP1 hQ1 ?oR z30 z37 zO zN hcN hcO ?odone
  case og => rfl
  case oe => passes_own
  case on1 => omega
  case on2 => omega
  case oR =>
    refine List.forall_mem_cons.mpr ⟨⟨Nat.ne_of_lt zS, hS0, hS7, hSO, hSN⟩, List.forall_mem_cons.mpr ⟨⟨Nat.ne_of_lt zI, Nat.ne_of_gt (by omega), Nat.ne_of_gt (by omega), Nat.ne_of_gt (by omega), Nat.ne_of_gt (by omega)⟩,
      List.forall_mem_cons.mpr ⟨⟨Nat.ne_of_lt zD, Nat.ne_of_gt (by omega), Nat.ne_of_gt (by omega), Nat.ne_of_gt (by omega), Nat.ne_of_gt (by omega)⟩, List.forall_mem_cons.mpr ⟨⟨Nat.ne_of_lt zP, Nat.ne_of_gt (by omega), Nat.ne_of_gt (by omega), Nat.ne_of_gt (by omega), Nat.ne_of_gt (by omega)⟩, fun p hp => ?_⟩⟩⟩⟩
    have h1 := hR1 p hp
    exact ⟨Nat.ne_of_lt (kst_ltOf zA p hp), h1.1, h1.2.1, h1.2.2.1, h1.2.2.2.1⟩
  case odone =>
  clear lF rg
  intro m1 hO' tkO vo co ps1 qs1 tlo FO NO hTo hPo hQo gO hmO
  have hn30 : 1 ≤ 1 + v.fmod 30 ∧ 1 + v.fmod 30 ≤ 30 := ⟨by omega, by omega⟩
  obtain ⟨hpe, hw⟩ := ways hn30.1 hn30.2
  rw [hpe] at hTp1
  have hR9 : ∀ p ∈ tlo ++ R1, p.1 ≠ 30 ∧ p.1 ≠ 37 ∧ p.1 ≠ cO ∧ p.1 ≠ cN ∧ p.1 ≠ S ∧ p.1 ≠ jI := by
    intro p hp
    rcases List.mem_append.mp hp with h | h
    · have h1 := gO p h
      exact ⟨Nat.ne_of_gt (Nat.lt_trans z30 h1), Nat.ne_of_gt (Nat.lt_trans z37 h1), Nat.ne_of_gt (Nat.lt_trans zO h1), Nat.ne_of_gt (Nat.lt_trans zN h1), Nat.ne_of_gt (Nat.lt_trans zS h1), Nat.ne_of_gt (Nat.lt_trans zI h1)⟩
    · have h1 := hR1 p h
      exact ⟨h1.1, h1.2.1, h1.2.2.1, h1.2.2.2.1, h1.2.2.2.2.1, h1.2.2.2.2.2.1⟩
  have N9 := news_ord NO
  have hTo9 := hTo.mono (news' := tlo ++ R1) (fun _ h => List.mem_append_left _ h)
  have hTp9 := hTp1.mono (news' := tlo ++ R1) (fun _ h => List.mem_append_right _ h)
  have hm91 := (hmO (Str.ofString "sums") (by decide)).trans ((if_neg (by decide)).trans ((if_neg (by decide)).trans hm))
  have hm92 := (hmO (Str.ofString "plain") (by decide)).trans (if_pos rfl)
  clear NO hTo hTp1 hR1 hmO zA gO hP1 hQ1 lN
  try dsimp only
  generalize orderF (1 + v.fmod 30) = od at *
  cases hw with
  | one hs g0 =>
    refine' tail1 w p loose mean mg mb _ _ _ ?tg L fa cO cN cd h₀ _ _ _ _ B X T ?te _ P S jI jD oI oD _ _ _ oN2 lD2 lD vo vp ys co ps1 qs1 (tlo ++ R1) hn30 hs g0 hys FO N9 hTo9 hTp9 hPo hQo hR9 hcN hcO hS0 hjO hjD hjI lPI zP hm91 hm92 ?td
    case tg => rfl
    case te => passes_own
    case td => exact fun m' h tk ps' R' F' N' g1 g2 g3 g4 => done _ _ _ _ _ _ _ _ F' N' ⟨_, lD2⟩ ⟨_, lD⟩ g1 g2 g3 g4
  | two hs l0 g0 g1 =>
    refine' tail2 w p loose mean mg mb _ _ _ ?tg L fa cO cN cd h₀ _ _ _ _ B X T ?te _ P S jI jD oI oD _ _ _ oN2 lD2 lD vo vp ys co ps1 qs1 (tlo ++ R1) hn30 _ _ _ _ l0 hs g0 g1 hys FO N9 hTo9 hTp9 hPo hQo hR9 hcN hcO hS0 hjO hjD hjI lPI zP hm91 hm92 ?td
    case tg => rfl
    case te => passes_own
    case td => exact fun m' h tk ps' R' F' N' g1 g2 g3 g4 => done _ _ _ _ _ _ _ _ F' N' ⟨_, lD2⟩ ⟨_, lD⟩ g1 g2 g3 g4
  | three hs l0 l1 g0 g1 g2 =>
    refine' tail3 w p loose mean mg mb _ _ _ ?tg L fa cO cN cd h₀ _ _ _ _ B X T ?te _ P S jI jD oI oD _ _ _ oN2 lD2 lD vo vp ys co ps1 qs1 (tlo ++ R1) hn30 _ _ _ _ _ _ l0 l1 hs g0 g1 g2 hys FO N9 hTo9 hTp9 hPo hQo hR9 hcN hcO hS0 hjO hjD hjI lPI zP hm91 hm92 ?td
    case tg => rfl
    case te => passes_own
    case td => exact fun m' h tk ps' R' F' N' g1 g2 g3 g4 => done _ _ _ _ _ _ _ _ F' N' ⟨_, lD2⟩ ⟨_, lD⟩ g1 g2 g3 g4
  | four hs l0 l1 l2 g0 g1 g2 g3 =>
    refine' tail4 w p loose mean mg mb _ _ _ ?tg L fa cO cN cd h₀ _ _ _ _ B X T ?te _ P S jI jD oI oD _ _ _ oN2 lD2 lD vo vp ys co ps1 qs1 (tlo ++ R1) hn30 _ _ _ _ _ _ _ _ l0 l1 l2 hs g0 g1 g2 g3 hys FO N9 hTo9 hTp9 hPo hQo hR9 hcN hcO hS0 hjO hjD hjI lPI zP hm91 hm92 ?td
    case tg => rfl
    case te => passes_own
    case td => exact fun m' h tk ps' R' F' N' g1 g2 g3 g4 => done _ _ _ _ _ _ _ _ F' N' ⟨_, lD2⟩ ⟨_, lD⟩ g1 g2 g3 g4
end
theorem reset_ZT1 : True := by
  k_with_none
  w_top off
  exact True.intro

-- ZS
open PySem PySem.W PyProof.Rows PySem.Calls PySem.Spec
set_option Elab.async false
section
set_option maxRecDepth 100000
set_option maxHeartbeats 4000000
theorem ints_get {vs : List Value} {ns : List Int} (h : IntsAre vs ns) {i : Nat} {v : Value} (hv : vs.toArray[i]? = some v) : ∃ k t, v = .int k t := by
  have hv' : vs[i]? = some v := by simpa using hv
  have hm := List.mem_of_getElem? hv'
  clear hv hv'
  induction h with
  | nil => cases hm
  | cons k t r ih =>
    rcases List.mem_cons.mp hm with rfl | hm
    · exact ⟨_, _, rfl⟩
    · exact ih hm
theorem permI {a b c d e f g : Addr × Obj} {l : Led} : ∀ p ∈ b :: c :: d :: e :: f :: a :: g :: l, p ∈ a :: b :: c :: d :: e :: f :: g :: l := by
  intro p h; simp only [List.mem_cons] at h ⊢; rcases h with h | h | h | h | h | h | h | h <;> simp [h]
theorem permO {a b c d e f g : Addr × Obj} {l : Led} : ∀ p ∈ a :: b :: c :: d :: e :: f :: g :: l, p ∈ b :: c :: d :: e :: f :: a :: g :: l := by
  intro p h; simp only [List.mem_cons] at h ⊢; rcases h with h | h | h | h | h | h | h | h <;> simp [h]
theorem sliceloop (w : World) (p : Program) (loose : List Str) (mean : ExcName → Option Value) (mg mb : Str → Option Value) (nm : Str) (sc : Scope) (x : Str) (body : List Stmt) (hget : getLoop (PySem.Challenge.pw_gb0004_02.main.body[13]?) 1 = some (nm, sc, x, body))
    (L fa cO cN : Addr) (cd : Value) (h₀ : Heap) (m0 : Str → Option Value) (s : Shared) (Q : Flow → Shared → Prop) (E : Value → Shared → Prop)
    (B : Below callerA h₀ [] h₀) (X : (Mine.hd.heap_39 w.params).In h₀) (T : Top p loose mean mg mb h₀) (hE : PassesOwn (model PySem.Challenge.rw_gb0004_02.row.prog w) (callerA.deeper (envX nm sc L fa cd [("order", cO), ("number", cN)])) (envX nm sc L fa cd [("order", cO), ("number", cN)]) E)
    (S D : Addr) (ys ws : List Value) (ns : List Int) (oO oN : Obj) (vO vN : Option Value) (hws : IntsAre ws ns) (hys : IntsAre ys triL) (hO : oO.data = .cell vO) (hN : oN.data = .cell vN)
    (F : Fr h₀ L s.heap m0) (N : News h₀ L s.heap [(D, W.listOf ws.toArray 0), (S, LCg.lst ys), (cO, oO), (cN, oN), (37, tabObj #[]), (30, tabObj #[])])
    (hcN : @LT.lt Nat _ 37 cN) (hcO : @LT.lt Nat _ cN cO) (hS0 : @Ne Nat S 30) (hS7 : @Ne Nat S 37) (hSO : @Ne Nat S cO) (hSN : @Ne Nat S cN) (hjO : @LT.lt Nat _ cO D) (hjD : @LT.lt Nat _ S D)
    (hm : m0 (Str.ofString "sums") = some (.ref S))
    (done : ∀ (m' : Str → Option Value) (h : Heap) (tk : Nat) (ps qs : Array Value) (tl : Led), Fr h₀ L h m' → News h₀ L h ((30, tabObj ps) :: (37, tabObj qs) :: tl) → TabSt 32 4 inQ1 ps tl → TabSt 47 4 inQ2 qs tl → Q .next { s with heap := h, toks := tk }) :
    wpAny (model PySem.Challenge.rw_gb0004_02.row.prog w) (callerA.deeper (envX nm sc L fa cd [("order", cO), ("number", cN)])) (pyIter (.ref D)) (fun it s₂ => LoopAtV PySem.Challenge.rw_gb0004_02.row.prog w (callerA.deeper (envX nm sc L fa cd [("order", cO), ("number", cN)])) h₀ (envX nm sc L fa cd [("order", cO), ("number", cN)]) x body Q E it s₂) E s := by
  refine' loop_listG (m₀ := m0) (fun i m nx => ∃ (oO oN : Obj) (ps qs : Array Value) (R : Led), nx = (30, tabObj ps) :: (37, tabObj qs) :: (cO, oO) :: (cN, oN) :: (S, LCg.lst ys) :: (D, W.listOf ws.toArray 0) :: R ∧ (∃ v, oO.data = .cell v) ∧ (∃ v, oN.data = .cell v) ∧ TabSt 32 4 inQ1 ps R ∧ TabSt 47 4 inQ2 qs R ∧
      (∀ p ∈ R, p.1 ≠ 30 ∧ p.1 ≠ 37 ∧ p.1 ≠ cO ∧ p.1 ≠ cN ∧ p.1 ≠ S) ∧ m (Str.ofString "sums") = some (.ref S)) rfl (l := D) (items := ws.toArray) (nn := 0) ?hl F (news_sub (l' := [(30, tabObj #[]), (37, tabObj #[]), (cO, oO), (cN, oN), (S, LCg.lst ys), (D, W.listOf ws.toArray 0)]) N ?hN) ?hj ?hfix ?turn ?done
  case hl => k_mem
  case hN => lcg_sub
  case hj => exact ⟨oO, oN, #[], #[], [], rfl, ⟨_, hO⟩, ⟨_, hN⟩, .inl rfl, .inl rfl, (fun _ h => nomatch h), hm⟩
  case hfix =>
    rintro i m nx ⟨oO, oN, ps, qs, R, rfl, _⟩
    exact .tail _ (.tail _ (.tail _ (.tail _ (.tail _ (.head _)))))
  case done =>
    rintro m' nx h tk ⟨oO, oN, ps, qs, R, rfl, _, _, hP, hQ, _, _⟩ F' N'
    exact done m' h tk ps qs ((cO, oO) :: (cN, oN) :: (S, LCg.lst ys) :: (D, W.listOf ws.toArray 0) :: R) F' N' (hP.mono fun _ h => .tail _ (.tail _ (.tail _ (.tail _ h)))) (hQ.mono fun _ h => .tail _ (.tail _ (.tail _ (.tail _ h))))
  case turn =>
    rintro I hI i v m₁ nx h tk io hi hv ⟨oO, oN, ps, qs, R, rfl, ⟨vO, hO⟩, ⟨vN, hN⟩, hP, hQ, hR, hm1⟩ hnx F₁ N₁
    obtain ⟨k, t, rfl⟩ := ints_get hws hv
    have hID : @LT.lt Nat _ D I := hI (D, W.listOf ws.toArray 0) (.tail _ (.tail _ (.tail _ (.tail _ (.tail _ (.head _))))))
    refine' turn w p loose mean mg mb nm sc x body hget L fa cO cN cd h₀ m₁ _ _ _ B X T ?te S I D io _ ys k t oO oN vO vN ps qs R hys hO hN F₁ (news_sub N₁ ?tn) hP hQ ?tR hcN hcO hS0 hS7 hSO hSN hjO hjD hID hm1 ?td
    case te => exact hE
    case tn => exact permI
    case tR => exact fun p hp => ⟨(hR p hp).1, (hR p hp).2.1, (hR p hp).2.2.1, (hR p hp).2.2.2.1, (hR p hp).2.2.2.2, hnx p (.tail _ (.tail _ (.tail _ (.tail _ (.tail _ (.tail _ hp))))))⟩
    case td =>
      intro m' h' tk' oO' oN' ps' qs' R' F' N' gO gN gP gQ gR gm
      refine GEnd.intro F' (news_sub (l' := (I, io) :: (30, tabObj ps') :: (37, tabObj qs') :: (cO, oO') :: (cN, oN') :: (S, LCg.lst ys) :: (D, W.listOf ws.toArray 0) :: R') N' ?gn) ?gne ⟨oO', oN', ps', qs', R', rfl, gO, gN, gP, gQ, fun p hp => ⟨(gR p hp).1, (gR p hp).2.1, (gR p hp).2.2.1, (gR p hp).2.2.2.1, (gR p hp).2.2.2.2.1⟩, gm⟩
      case gn => exact permO
      case gne => exact List.forall_mem_cons.mpr ⟨Nat.ne_of_lt (by omega), List.forall_mem_cons.mpr ⟨Nat.ne_of_lt (by omega), List.forall_mem_cons.mpr ⟨Nat.ne_of_lt (by omega), List.forall_mem_cons.mpr ⟨Nat.ne_of_lt (by omega), List.forall_mem_cons.mpr ⟨Nat.ne_of_lt (by omega), List.forall_mem_cons.mpr ⟨Nat.ne_of_lt (by omega), fun p hp => (gR p hp).2.2.2.2.2⟩⟩⟩⟩⟩⟩
end

-- ZM
open PySem PySem.W PyProof.Rows PySem.Calls PySem.Spec
set_option Elab.async false
section
set_option maxRecDepth 100000
set_option maxHeartbeats 4000000
theorem law2 : PySem.Challenge.rw_gb0004_02.Holds := Mine.hd (by
  k_with_none
  k_with "call ref" => (refine stop_here ?_)
  k_with "pyIter ref" => (refine stop_here ?_)
  k_go0
  all_goals try k_fold
  k_steps
  refine go_on ?_
  (with_reducible rename Fr _ _ _ _ => lF)
  (with_reducible rename News _ _ _ _ => lN)
  (with_reducible rename (Mine.hd.heap_39 _).In _ => lX)
  (with_reducible rename Below callerA _ _ _ => lB)
  (with_reducible rename Top _ _ _ _ _ _ => lT)
  (with_reducible rename IntsAre _ (List.map _ _) => lys)
  (with_reducible rename IntsAre _ (List.take _ _) => lsl)
  (with_reducible rename @LT.lt Nat _ _ _ ∧ @LT.lt Nat _ _ _ ∧ @LT.lt Nat _ _ _ ∧ @LT.lt Nat _ _ _ ∧ @LT.lt Nat _ _ _ => llt)
  (with_reducible rename @Ne Nat _ _ ∧ @Ne Nat _ _ ∧ @Ne Nat _ _ ∧ @Ne Nat _ _ => lne)
  (with_reducible rename @LT.lt Nat _ _ _ ∧ @LT.lt Nat _ _ _ => lL)
  refine' sliceloop _ _ _ _ _ _ _ _ _ _ ?hget _ _ _ _ _ _ _ _ _ _ lB lX lT ?hE _ _ _ _ _ _ _ _ _ lsl ?hys ?hO ?hN lF ?hNw ?h1 ?h2 ?h3 ?h4 ?h5 ?h6 ?h7 ?h8 ?h9 ?done
  case hNw => with_unfolding_all exact lN
  case hget => rfl
  case hE => passes_own
  case hys => exact lys
  case hO => assumption
  case hN => assumption
  case h1 => omega
  case h2 => omega
  case h3 => exact Ne.symm lne.2.2.2
  case h4 => exact Ne.symm lne.2.2.1
  case h5 => exact Ne.symm lne.1
  case h6 => exact Ne.symm lne.2.1
  case h7 => exact llt.2.1
  case h8 => exact llt.1
  case h9 => rfl
  case done =>
    clear lN lF
    intro m9 h9 tk9 psz qsz tlz Fz Nz hPz hQz
    try dsimp only
    k_steps)
end
theorem reset_ZM : True := by
  k_with_none
  w_top off
  exact True.intro

end Mine
theorem PySem.Challenge.cw_gb0004_02_holds : PySem.Challenge.rw_gb0004_02.Holds := by
  exact Mine.law2
