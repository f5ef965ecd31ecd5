import PyProof.Rows.All
import Wide.All
import OpenK.AllK
import Wide.FinOn
import PySem.Challenge.RW_pk0001_01
open PySem PySem.W PyProof.Rows
set_option Elab.async false
set_option maxRecDepth 100000
namespace Mine
section -- Hd
set_option maxHeartbeats 8000000
open_top hd for PySem.Challenge.rw_pk0001_01

end
section -- Base

abbrev PR : Program := PySem.Challenge.rw_pk0001_01.row.prog
abbrev Fe : Value → Shared → Prop := fun _ _ => False

/-- the ground that every call stands on -/
structure Gd (w : World) (h : Heap) : Prop where
  k : (hd.heap_39 w.params).In h
  t : ∃ p loose mean mg mb, Top p loose mean mg mb h

theorem Gd.keeps {w : World} {h h' : Heap} (G : Gd w h) (hk : ∀ b o, h.get? b = some o → h'.get? b = some o) : Gd w h' :=
  ⟨fun a o e => hk a o (G.k a o e), let ⟨p, l, me, mg, mb, T⟩ := G.t; ⟨p, l, me, mg, mb, T.keeps hk⟩⟩

structure Room (A : Around) (d : Nat) : Prop where
  handled : A.handled = none
  depth : A.depth + d < 1000
  units : A.units + 10 * d < 9900

theorem Room.deeper {A : Around} {d : Nat} (R : Room A (d + 1)) (env : Env) : Room (A.deeper env) d :=
  ⟨R.handled, by have := R.depth; show A.depth + 1 + d < 1000; omega, by have := R.units; show A.units + 3 + 10 * d < 9900; omega⟩
theorem Room.less {A : Around} {d d' : Nat} (R : Room A d) (h : d' ≤ d) : Room A d' :=
  ⟨R.handled, by have := R.depth; omega, by have := R.units; omega⟩
theorem Room.lim {A : Around} {d : Nat} (R : Room A d) : A.depth < recursionLimit := by have := R.depth; show A.depth < 1000; omega

/-- a tree that gives a value told by R and keeps all that stood -/
abbrev Pw {α : Type} (w : World) (A : Around) (t : Sem α) (R : α → Heap → Prop) (s : Shared) : Prop :=
  wpAny (model PR w) A t (fun v s' => R v s'.heap ∧ Keeps s s') Fe s


theorem noE {α : Type} {w : World} {A : Around} {t : Sem α} {s : Shared} {Q : α → Shared → Prop} {E : Value → Shared → Prop} (h : wpAny (model PR w) A t Q Fe s) : wpAny (model PR w) A t Q E s :=
  wpAny_mono h (fun _ _ x => x) fun _ _ f => f.elim

/-- a call of a def without cells -/
theorem call_pure {w : World} {A : Around} {s : Shared} {K : Frag} {name qual : Str} {params : Arguments} {body : List Stmt} {scope : Scope} {dV kV doc pm cdv ct oc : Value} {an od : Option Addr} {osl : Array (Option Value)} {f : Addr} {vals : List Value} {binds : List (Str × Value)} {R : Value → Heap → Prop}
    (X : K.In s.heap) (T : s.heap.NoLimit) (hroom : A.depth < recursionLimit)
    (ho : K.lookup f = some ⟨oc, od, .func (fnOf name qual params body scope dV kV doc pm an cdv ct), osl⟩) (hcd : codeIn K cdv qual = true)
    (hbind : BindsTo s (fnOf name qual params body scope dV kV doc pm an cdv ct) ⟨vals, []⟩ binds) (hloc : ∀ y ∈ binds, scope.names.lookup y.1 = some .local)
    (hco : scope.isCoroutine = false) (hgen : scope.isGenerator = false) (hk : scope.kind = .function) (hcell : ∀ x ∈ scope.names, x.2 ≠ .cell)
    (h : ∀ L h₁ tk, tk = s.toks + binds.length → Fr s.heap L h₁ (fun y => binds.reverse.lookup y) → 
      wpAny (model PR w) (A.deeper (envOf qual scope L f cdv)) (execs body (envOf qual scope L f cdv))
        (fun fl s' => R (match fl with | .ret v => v | _ => .none) s'.heap ∧ ∃ h' tk m, s' = { s with heap := h', toks := tk } ∧ Fr s.heap L h' m) Fe { s with heap := h₁, toks := tk }) :
    Pw w A (call (.ref f) vals) R s := by
  refine wpAny_call (codeAny_call_def (fd := fnOf name qual params body scope dV kV doc pm an cdv ct) (body := body) (binds := binds) hroom (X _ _ ho) rfl T (codeRec_of X hcd) rfl hbind hcell hloc (fun h₁ hns hk₁ => ?_) hco hgen hk)
  refine wpAny_mono (h s.heap.objs.size h₁ _ rfl ⟨hns, hk₁, Nat.le_refl _⟩) (fun fl s' hl => ?_) fun _ _ f => f.elim
  obtain ⟨hr, h', tk, m, rfl, F⟩ := hl
  exact ⟨hr, h', tk, rfl, F.keep⟩


end
section -- Loops1

section
variable {w : World} {A : Around} {E : Value → Shared → Prop} {H : Heap} {gn : Array GenState} {dr : Drawn} {tk₀ : Nat} {os : OsState} {env : Env} {h₀ : Heap} {x : Str} {body : List Stmt} {Q : Flow → Shared → Prop} {L : Addr}

theorem it_walk {I : Addr} {fp wr : List Addr} {n : Nat} {P : Nat → Value → Prop} {St : Nat → Heap → Prop} {m₀ : Str → Option Value} {news : List (Addr × Obj)} (J : Nat → (Str → Option Value) → List (Addr × Obj) → Prop) (hL : env.locals = L)
    (W : Walks PR w A I fp wr n P St) (hLf : L ∉ fp) (hwr : ∀ b ∈ wr, h₀.get? b = none) (hnw : ∀ p ∈ news, p.1 ∉ wr) (hfp : ∀ q ∈ news, q.1 ∉ fp) (hst : St 0 H)
    (F : Fr h₀ L H m₀) (N : News h₀ L H news) (hj : J 0 m₀ news)
    (turn : ∀ i v m₁ news₁ h tk own, i < n → P i v → news₁.map (·.1) = news.map (·.1) → OwnOff own (news.map (·.1)) → J i m₁ news₁ → Fr h₀ L h (fun y => if y = x then some v else m₁ y) → News h₀ L h (news₁ ++ own) →
      wpAny (model PR w) A (execs body env) (InvPostN h₀ L (J (i + 1)) own (news.map (·.1)) ⟨h, gn, dr, tk, os⟩ Q) E ⟨h, gn, dr, tk, os⟩)
    (done : ∀ m₁ news₁ h tk, J n m₁ news₁ → Fr h₀ L h m₁ → News h₀ L h news₁ → Q .next ⟨h, gn, dr, tk, os⟩) :
    LoopAtV PR w A h₀ env x body Q E (.ref I) ⟨H, gn, dr, tk₀, os⟩ := by
  subst hL
  exact loop_invN J W hLf hwr hnw hfp hst F N hj turn done

theorem it_range {r : Addr} {a b : Int} {t u v : Tok} {n : Nat} {m₀ : Str → Option Value} {news : List (Addr × Obj)} (J : Nat → (Str → Option Value) → List (Addr × Obj) → Prop) (hL : env.locals = L)
    (hh : A.handled = none) (hr : IsRange H r a b 1 t u v) (ha : -(2 ^ 62) ≤ a) (ha' : a < 2 ^ 62) (hb' : b < 2 ^ 62) (hn : b - a = (n : Int) ∨ (b ≤ a ∧ n = 0))
    (F : Fr h₀ L H m₀) (N : News h₀ L H news) (hj : J 0 m₀ news)
    (turn : ∀ (i : Nat) t m₁ news₁ h tk own, i < n → news₁.map (·.1) = news.map (·.1) → OwnOff own (news.map (·.1)) → J i m₁ news₁ → Fr h₀ L h (fun y => if y = x then some (.int (a + i) t) else m₁ y) → News h₀ L h (news₁ ++ own) →
      wpAny (model PR w) A (execs body env) (InvPostN h₀ L (J (i + 1)) own (news.map (·.1)) ⟨h, gn, dr, tk, os⟩ Q) E ⟨h, gn, dr, tk, os⟩)
    (done : ∀ m₁ news₁ h tk, J n m₁ news₁ → Fr h₀ L h m₁ → News h₀ L h news₁ → Q .next ⟨h, gn, dr, tk, os⟩) (hb : -(2 ^ 62) ≤ b := by first | decide | omega) :
    wpAny (model PR w) A (pyIter (.ref r)) (fun it s₂ => LoopAtV PR w A h₀ env x body Q E it s₂) E ⟨H, gn, dr, tk₀, os⟩ := by
  have hsz : Builtin.Range.rangeSize a b 1 = (n : Int) := by rw [rangeSize_one]; split <;> omega
  refine wpAny_pyIter_range hr (small_one ha ha' hb hb') ?_
  have W : Walks PR w A H.objs.size [H.objs.size] [H.objs.size] n (fun i v => i < n ∧ ∃ t, v = .int (a + i * 1) t)
      (fun i h => IsRangeIter h H.objs.size (a + (i : Nat) * 1) ((n : Int) - (i : Nat)) 1) := (Walks.range hh _ a 1 n).bound
  refine it_walk J hL W ?_ ?_ ?_ ?_ (by show IsRangeIter _ _ _ _ _; rw [hsz]; simpa using Heap.get?_push_size _ rfl) (F.push _) (fun p hp => ⟨Heap.get?_push_of_some _ (N p hp).1, (N p hp).2⟩) hj ?_ done
  · intro hm
    exact absurd F.ns.lt ((List.mem_singleton.mp hm) ▸ Nat.lt_irrefl _)
  · intro b hb
    rw [List.mem_singleton.mp hb]
    exact next_is_new F
  · intro p hp hI
    exact absurd (Heap.lt_size (N p hp).1) ((List.mem_singleton.mp hI) ▸ Nat.lt_irrefl _)
  · intro p hp hI
    exact absurd (Heap.lt_size (N p hp).1) ((List.mem_singleton.mp hI) ▸ Nat.lt_irrefl _)
  · rintro i v m₁ nx h tk own hi ⟨_, t, rfl⟩ hm hoff hJ F₁ N₁
    have e1 : a + (i : Int) * 1 = a + (i : Int) := by omega
    rw [e1] at F₁
    exact turn i t m₁ nx h tk own hi hm hoff hJ F₁ N₁

/-- range(n), the turns' numbers as naturals -/
theorem it_rangeN {r : Addr} {a b : Int} {a' b' : Nat} {t u v : Tok} {n : Nat} {m₀ : Str → Option Value} {news : List (Addr × Obj)} (J : Nat → (Str → Option Value) → List (Addr × Obj) → Prop) (hL : env.locals = L)
    (ha : a = a') (hb : b = b') (hh : A.handled = none) (hr : IsRange H r a b 1 t u v) (ha' : a' < 2 ^ 62) (hb' : b' < 2 ^ 62) (hn : b' - a' = n)
    (F : Fr h₀ L H m₀) (N : News h₀ L H news) (hj : J 0 m₀ news)
    (turn : ∀ (i : Nat) t m₁ news₁ h tk own, i < n → news₁.map (·.1) = news.map (·.1) → OwnOff own (news.map (·.1)) → J i m₁ news₁ → Fr h₀ L h (fun y => if y = x then some (.int ((a' + i : Nat) : Int) t) else m₁ y) → News h₀ L h (news₁ ++ own) →
      wpAny (model PR w) A (execs body env) (InvPostN h₀ L (J (i + 1)) own (news.map (·.1)) ⟨h, gn, dr, tk, os⟩ Q) E ⟨h, gn, dr, tk, os⟩)
    (done : ∀ m₁ news₁ h tk, J n m₁ news₁ → Fr h₀ L h m₁ → News h₀ L h news₁ → Q .next ⟨h, gn, dr, tk, os⟩) :
    wpAny (model PR w) A (pyIter (.ref r)) (fun it s₂ => LoopAtV PR w A h₀ env x body Q E it s₂) E ⟨H, gn, dr, tk₀, os⟩ := by
  subst ha hb
  refine it_range (n := n) J hL hh hr (by omega) (by omega) (by omega) (by omega) F N hj (fun i t m₁ news₁ h tk own hi hm ho hJ F₁ N₁ => ?_) done (by omega)
  exact turn i t m₁ news₁ h tk own hi hm ho hJ (by rw [Int.natCast_add]; exact F₁) N₁
end

theorem inv_end {h₀ : Heap} {L : Addr} {J : (Str → Option Value) → List (Addr × Obj) → Prop} {own : List (Addr × Obj)} {adr : List Addr} {h : Heap} {gn : Array GenState} {dr : Drawn} {tk₀ : Nat} {os : OsState} {Q : Flow → Shared → Prop} {h' : Heap} {tk : Nat} {m' : Str → Option Value} {nx : List (Addr × Obj)}
    (F : Fr h₀ L h' m') (N : News h₀ L h' (nx ++ own)) (ha : nx.map (·.1) = adr) (hJ : J m' nx) : InvPostN h₀ L J own adr ⟨h, gn, dr, tk₀, os⟩ Q .next ⟨h', gn, dr, tk, os⟩ :=
  ⟨h', tk, m', nx ++ own, nx, rfl, F, N, fun _ hp => List.mem_append_left _ hp, fun _ hp => List.mem_append_right _ hp, ha, hJ⟩


end
section -- Rl

theorem fillIt {P : Prop} (_ : (PySem.Challenge.rw_pk0001_01, hd.heap_39) = (PySem.Challenge.rw_pk0001_01, hd.heap_39)) (h : P) : P := h

theorem lit_nat (n : Nat) : (@OfNat.ofNat Int n _) = ((@OfNat.ofNat Nat n _ : Nat) : Int) := rfl
theorem set_int {x : Str} {a b : Nat} {t : Tok} {m : Option Value} (h : a = b) : ∃ t', (if x = x then some (Value.int (a : Nat) t) else m) = some (Value.int (b : Nat) t') := ⟨t, by rw [if_pos rfl, h]⟩
theorem fnd_ne {m : Str → Option Value} {x y : Str} {v : Option Value} (h : (x == y) = false) : (if x = y then v else m x) = m x := if_neg (by simpa using h)

/-! bits -/
theorem or_split : ∀ (n a b : Nat), a ≤ n → (a ||| b) = (a ^^^ b) + (a &&& b) := by
  intro n
  induction n with
  | zero => intro a b h; obtain rfl : a = 0 := by omega
            simp
  | succ n ih =>
    intro a b h
    by_cases h0 : a = 0
    · subst h0; simp
    have := ih (a / 2) (b / 2) (by omega)
    have e1 := Nat.div_add_mod (a ||| b) 2
    have e2 := Nat.div_add_mod (a ^^^ b) 2
    have e3 := Nat.div_add_mod (a &&& b) 2
    rw [Nat.or_div_two] at e1
    rw [Nat.xor_div_two] at e2
    rw [Nat.and_div_two] at e3
    have m1 : (a ||| b) % 2 = (a ^^^ b) % 2 + (a &&& b) % 2 := by
      have a2 : a % 2 = 0 ∨ a % 2 = 1 := by omega
      have b2 : b % 2 = 0 ∨ b % 2 = 1 := by omega
      rw [← Nat.and_one_is_mod (a ||| b), ← Nat.and_one_is_mod (a ^^^ b), ← Nat.and_one_is_mod (a &&& b)]
      rw [Nat.and_or_distrib_right, Nat.and_xor_distrib_right, Nat.and_assoc, Nat.and_one_is_mod, Nat.and_one_is_mod]
      rcases a2 with a2 | a2 <;> rcases b2 with b2 | b2 <;> rw [a2, b2] <;> first | rfl | (rw [← Nat.and_one_is_mod] at a2; simp [a2])
    omega
theorem band (a b : Nat) : Builtin.bitAnd (a : Int) (b : Int) = ((a &&& b : Nat) : Int) := by
  unfold Builtin.bitAnd
  rw [show decide ((0 : Int) ≤ a) = true from by simp, show decide ((0 : Int) ≤ b) = true from by simp]
  simp
theorem bx (a b : Nat) : Builtin.bitXor (a : Int) (b : Int) = ((a ^^^ b : Nat) : Int) := by
  have h := or_split a a b (Nat.le_refl _)
  have e2 : Builtin.bitOr (a : Int) (b : Int) = ((a ||| b : Nat) : Int) := by
    unfold Builtin.bitOr Builtin.bitAnd
    have n1 : ∀ c : Nat, decide ((0 : Int) ≤ Builtin.bitNot (c : Int)) = false := fun c => by unfold Builtin.bitNot; simp; omega
    have n2 : ∀ c : Nat, (Builtin.bitNot (Builtin.bitNot (c : Int))) = c := fun c => by unfold Builtin.bitNot; omega
    rw [n1, n1]
    simp only [n2, Int.toNat_natCast]
  unfold Builtin.bitXor
  rw [band, e2]
  omega
theorem noPl {a : Int} {b : Nat} (hb : b < 2 ^ 64) : Builtin.divisionGoesByPylong a (b : Int) = false := by
  unfold Builtin.divisionGoesByPylong
  dsimp only
  have h1 : ¬ ((if ((b : Int) == 0) = true then 0 else (b : Int).natAbs.log2 / 30 + 1) > 300) := by
    split
    · omega
    · have : (b : Int).natAbs.log2 < 64 := by
        rw [Int.natAbs_natCast]
        by_cases h0 : b = 0
        · subst h0; decide
        · exact (Nat.log2_lt h0).mpr hb
      omega
  rw [decide_eq_false h1]; rfl
theorem bits_lt {a : Nat} (ha : a < 2 ^ 64) : Builtin.Int.intBits (a : Int) ≤ 64 := intBits_le_iff.mpr (by simpa using ha)

section
variable {w : World} {A : Around} {E : Value → Shared → Prop} {h : Heap} {gn : Array GenState} {dr : Drawn} {tk : Nat} {os : OsState} {Q : Value → Shared → Prop} {a b : Int} {x y : Nat} {t u : Tok} {env : Env} {k : Nat} {pos : Pos}

theorem k_int {i : Int} (hQ : Q (.int i tk) ⟨h, gn, dr, tk + 1, os⟩) : wpAny (model PR w) A (eval (.Constant (.int i) k pos) env) Q E ⟨h, gn, dr, tk, os⟩ := wpAny_Constant_int hQ
theorem k_str {i : Str} (hQ : Q (.str i tk) ⟨h, gn, dr, tk + 1, os⟩) : wpAny (model PR w) A (eval (.Constant (.str i) k pos) env) Q E ⟨h, gn, dr, tk, os⟩ := Calls.Constant_str hQ
theorem k_bytes {i : List UInt8} (hQ : Q (.bytes i.toArray tk) ⟨h, gn, dr, tk + 1, os⟩) : wpAny (model PR w) A (eval (.Constant (.bytes i) k pos) env) Q E ⟨h, gn, dr, tk, os⟩ := fun _ _ _ => hQ
theorem k_bool {i : Bool} (hQ : Q (.bool i) ⟨h, gn, dr, tk, os⟩) : wpAny (model PR w) A (eval (.Constant (.bool i) k pos) env) Q E ⟨h, gn, dr, tk, os⟩ := fun _ _ _ => hQ

theorem r_add (ha : a = x) (hb : b = y) (hQ : Q (.int ((x + y : Nat) : Int) tk) ⟨h, gn, dr, tk + 1, os⟩) : wpAny (model PR w) A (binaryOp .Add (.int a t) (.int b u)) Q E ⟨h, gn, dr, tk, os⟩ := by
  subst ha hb; refine add_int ?_; exact hQ
theorem r_sub (ha : a = x) (hb : b = y) (hle : y ≤ x) (hQ : Q (.int ((x - y : Nat) : Int) tk) ⟨h, gn, dr, tk + 1, os⟩) : wpAny (model PR w) A (binaryOp .Sub (.int a t) (.int b u)) Q E ⟨h, gn, dr, tk, os⟩ := by
  subst ha hb; refine sub_int ?_; rw [← Int.ofNat_sub hle]; exact hQ
theorem r_mul (ha : a = x) (hb : b = y) (hs : x < 2 ^ 64) (hQ : Q (.int ((x * y : Nat) : Int) tk) ⟨h, gn, dr, tk + 1, os⟩) : wpAny (model PR w) A (binaryOp .Mult (.int a t) (.int b u)) Q E ⟨h, gn, dr, tk, os⟩ := by
  subst ha hb; refine mul_int ?_ (IntMulOk.of_left (bits_lt hs)); exact hQ
theorem r_fdiv (ha : a = x) (hb : b = y) (h0 : y ≠ 0) (hs : y < 2 ^ 64) (hQ : Q (.int ((x / y : Nat) : Int) tk) ⟨h, gn, dr, tk + 1, os⟩) : wpAny (model PR w) A (binaryOp .FloorDiv (.int a t) (.int b u)) Q E ⟨h, gn, dr, tk, os⟩ := by
  subst ha hb; refine floordiv_int (by omega) ?_ (.inl (noPl hs)); rw [Int.fdiv_eq_ediv_of_nonneg _ (by omega)]; exact hQ
theorem r_mod (ha : a = x) (hb : b = y) (h0 : y ≠ 0) (hQ : Q (.int ((x % y : Nat) : Int) tk) ⟨h, gn, dr, tk + 1, os⟩) : wpAny (model PR w) A (binaryOp .Mod (.int a t) (.int b u)) Q E ⟨h, gn, dr, tk, os⟩ := by
  subst ha hb; refine mod_int' (by omega) ?_; rw [Int.fmod_eq_emod_of_nonneg _ (by omega)]; exact hQ
theorem r_pow (ha : a = x) (hb : b = y) (hs : x < 2 ^ 64) (hy : y < 1000) (hQ : Q (.int ((x ^ y : Nat) : Int) tk) ⟨h, gn, dr, tk + 1, os⟩) : wpAny (model PR w) A (binaryOp .Pow (.int a t) (.int b u)) Q E ⟨h, gn, dr, tk, os⟩ := by
  subst ha hb
  refine pow_int (by omega) ?_ ?_
  · have := bits_lt hs
    have h2 : ((Builtin.Int.intBits (x : Int) : Nat) : Int) * (y : Int) ≤ 64 * 1000 := Int.mul_le_mul (by omega) (by omega) (by omega) (by omega)
    omega
  · rw [Int.toNat_natCast, ← Int.natCast_pow]; exact hQ
theorem r_and (ha : a = x) (hb : b = y) (hQ : Q (.int ((x &&& y : Nat) : Int) tk) ⟨h, gn, dr, tk + 1, os⟩) : wpAny (model PR w) A (binaryOp .BitAnd (.int a t) (.int b u)) Q E ⟨h, gn, dr, tk, os⟩ := by
  subst ha hb; refine and_int ?_; rw [band]; exact hQ
theorem r_xor (ha : a = x) (hb : b = y) (hQ : Q (.int ((x ^^^ y : Nat) : Int) tk) ⟨h, gn, dr, tk + 1, os⟩) : wpAny (model PR w) A (binaryOp .BitXor (.int a t) (.int b u)) Q E ⟨h, gn, dr, tk, os⟩ := by
  subst ha hb; refine xor_int ?_; rw [bx]; exact hQ
theorem fd2 (n m : Nat) : (n : Int).fdiv (2 ^ (m : Int).toNat) = ((n / 2 ^ m : Nat) : Int) := by
  rw [Int.toNat_natCast, Int.fdiv_eq_ediv_of_nonneg _ (Int.le_of_lt (Int.pow_pos (by decide)))]
  rw [show ((2 : Int) ^ m) = ((2 ^ m : Nat) : Int) from (Int.natCast_pow 2 m).symm]
  exact (Int.natCast_ediv n (2 ^ m)).symm
theorem r_shr (ha : a = x) (hb : b = y) (hQ : Q (.int ((x / 2 ^ y : Nat) : Int) tk) ⟨h, gn, dr, tk + 1, os⟩) : wpAny (model PR w) A (binaryOp .RShift (.int a t) (.int b u)) Q E ⟨h, gn, dr, tk, os⟩ := by
  subst ha hb; refine rshift_int (by omega) ?_; rw [fd2]; exact hQ
theorem r_ishr (ha : a = x) (hb : b = y) (hQ : Q (.int ((x / 2 ^ y : Nat) : Int) tk) ⟨h, gn, dr, tk + 1, os⟩) : wpAny (model PR w) A (inplaceOp .RShift (.int a t) (.int b u)) Q E ⟨h, gn, dr, tk, os⟩ := by
  subst ha hb; refine irshift_int (by omega) ?_; rw [fd2]; exact hQ
theorem r_eq (ha : a = x) (hb : b = y) (hQ : Q (.bool (decide (x = y))) ⟨h, gn, dr, tk, os⟩) : wpAny (model PR w) A (compareOp .Eq (.int a t) (.int b u)) Q E ⟨h, gn, dr, tk, os⟩ := by
  subst ha hb; refine eq_int ?_
  rw [show ((x : Int) == (y : Int)) = decide (x = y) from by rw [Bool.eq_iff_iff]; simp; omega]; exact hQ
theorem r_ne (ha : a = x) (hb : b = y) (hQ : Q (.bool (decide (x ≠ y))) ⟨h, gn, dr, tk, os⟩) : wpAny (model PR w) A (compareOp .NotEq (.int a t) (.int b u)) Q E ⟨h, gn, dr, tk, os⟩ := by
  subst ha hb; refine ne_int ?_
  rw [show ((x : Int) != (y : Int)) = decide (x ≠ y) from by rw [Bool.eq_iff_iff]; simp; omega]; exact hQ
theorem r_truthy (ha : a = x) {Q : Bool → Shared → Prop} (hQ : Q (decide (x ≠ 0)) ⟨h, gn, dr, tk, os⟩) : wpAny (model PR w) A (truthy (.int a t)) Q E ⟨h, gn, dr, tk, os⟩ := by
  subst ha; refine PyProof.Rows.truthy_int ?_
  rw [show ((x : Int) != 0) = decide (x ≠ 0) from by rw [Bool.eq_iff_iff]; simp]; exact hQ

theorem r_range1 {n : Int} (hQ : ∀ h' t' u' v', IsRange h' h.objs.size 0 n 1 t' u' v' → h' = h.push { cls := .type "range", data := .fields #[.int 0 t', .int n u', .int 1 v'] } → Q (.ref h.objs.size) ⟨h', gn, dr, tk + 1 + 1, os⟩) :
    wpAny (model PR w) A (call (.type "range") [.int n t]) Q E ⟨h, gn, dr, tk, os⟩ := call_range_1 (hQ _ _ _ _ (IsRange.new _ _ _ _ _ _ _) rfl)
theorem r_range2 (hQ : ∀ h' t' u' v', IsRange h' h.objs.size a b 1 t' u' v' → h' = h.push { cls := .type "range", data := .fields #[.int a t', .int b u', .int 1 v'] } → Q (.ref h.objs.size) ⟨h', gn, dr, tk + 1, os⟩) :
    wpAny (model PR w) A (call (.type "range") [.int a t, .int b u]) Q E ⟨h, gn, dr, tk, os⟩ := call_range_2 (hQ _ _ _ _ (IsRange.new _ _ _ _ _ _ _) rfl)

section
variable {h₀ : Heap} {L f : Addr} {m : Str → Option Value} {cn : Str} {cs : Scope} {ccd : Value} {v : Value} {z : Str} {news : List (Addr × Obj)}
theorem g_bi (F : Fr h₀ L h m) (G : Gd w h₀) (e : nsIn (hd.heap_39 w.params) mainGlobals z = some none) (hv : bootBuiltins z = some v) (hn : z ≠ "__name__") (hQ : Q v ⟨h, gn, dr, tk, os⟩)
    (hk : cs.kind = .function) (hx : (envOf cn cs L f ccd).kindOf z = some .globalImplicit) (hd : (z == ("__debug__" : Str)) = false) :
    wpAny (model PR w) A (eval (.Name z pos) (envOf cn cs L f ccd)) Q E ⟨h, gn, dr, tk, os⟩ := by
  obtain ⟨X, p, loose, mean, mg, mb, T⟩ := G
  exact name_B (s := ⟨h, gn, dr, tk, os⟩) F X (topRead_of T) e hv hn hQ hk hx hd
theorem g_ref (F : Fr h₀ L h m) (G : Gd w h₀) (e : nsIn (hd.heap_39 w.params) mainGlobals z = some (some v)) (hQ : Q v ⟨h, gn, dr, tk, os⟩)
    (hk : cs.kind = .function) (hx : (envOf cn cs L f ccd).kindOf z = some .globalImplicit) (hd : (z == ("__debug__" : Str)) = false) :
    wpAny (model PR w) A (eval (.Name z pos) (envOf cn cs L f ccd)) Q E ⟨h, gn, dr, tk, os⟩ := by
  obtain ⟨X, p, loose, mean, mg, mb, T⟩ := G
  exact name_K (s := ⟨h, gn, dr, tk, os⟩) F X (topRead_of T) e hQ hk hx hd
theorem g_ld (F : Fr h₀ L h m) (hv : m z = some v) (hQ : Q v ⟨h, gn, dr, tk, os⟩)
    (hk : cs.kind = .function) (hx : (envOf cn cs L f ccd).kindOf z = some .local) (hd : (z == ("__debug__" : Str)) = false) :
    wpAny (model PR w) A (eval (.Name z pos) (envOf cn cs L f ccd)) Q E ⟨h, gn, dr, tk, os⟩ := ld (s := ⟨h, gn, dr, tk, os⟩) F hv hQ hk hx hd
theorem g_ldn (F : Fr h₀ L h m) (hv : m z = some v) (hQ : Q v ⟨h, gn, dr, tk, os⟩)
    (hk : cs.kind = .function) (hx : (envOf cn cs L f ccd).kindOf z = some .local) :
    wpAny (model PR w) A (loadName (envOf cn cs L f ccd) z) Q E ⟨h, gn, dr, tk, os⟩ := ldn (s := ⟨h, gn, dr, tk, os⟩) F hv hQ hk hx
theorem g_st {Q : Unit → Shared → Prop} (F : Fr h₀ L h m) (N : News h₀ L h news)
    (hQ : ∀ h', (Fr h₀ L h' fun y => if y = z then some v else m y) → News h₀ L h' news → Q () ⟨h', gn, dr, tk + 1, os⟩)
    (hk : cs.kind = .function) (hx : (envOf cn cs L f ccd).kindOf z = some .local) :
    wpAny (model PR w) A (storeName (envOf cn cs L f ccd) z v) Q E ⟨h, gn, dr, tk, os⟩ := stN (s := ⟨h, gn, dr, tk, os⟩) F N hQ hk hx
end
end

theorem use {α : Type} {w : World} {A : Around} {t : Sem α} {R : α → Heap → Prop} {h : Heap} {gn : Array GenState} {dr : Drawn} {tk : Nat} {os : OsState} {Q : α → Shared → Prop} {E : Value → Shared → Prop}
    (hp : Pw w A t R ⟨h, gn, dr, tk, os⟩) (k : ∀ v h' tk', R v h' → (∀ b o, h.get? b = some o → h'.get? b = some o) → Q v ⟨h', gn, dr, tk', os⟩) : wpAny (model PR w) A t Q E ⟨h, gn, dr, tk, os⟩ :=
  wpAny_mono hp (fun v s' hv => by
    obtain ⟨hr, h', tk, rfl, hk⟩ := hv
    exact k v h' tk hr hk) fun _ _ f => f.elim

end
local macro_rules | `(tactic| walk_at "go1") => `(tactic| first
  | with_reducible refine wpAny_execs_cons ?_
  | with_reducible refine wpAny_execs_nil ?_
  | with_reducible refine wpAny_Return_some ?_
  | ((with_reducible refine wpAny_Assign_Name ?_ ?ha); (case ha => rfl))
  | with_reducible refine wpAny_AugAssign_Name ?_
  | with_reducible refine wpAny_If ?_
  | ((with_reducible refine wpAny_isTrue_Compare1 ?_ ?ha); (case ha => rfl))
  | ((with_reducible refine wpAny_Compare1 ?_ ?ha); (case ha => rfl))
  | with_reducible refine wpAny_BinOp ?_
  | with_reducible refine PyProof.Rows.IfExp_ ?_
  | with_reducible refine PyProof.Rows.isTrue_and_nil ?_
  | with_reducible refine PyProof.Rows.isTrue_or_nil ?_
  | with_reducible refine PyProof.Rows.isTrue_and ?_
  | with_reducible refine PyProof.Rows.isTrue_or ?_
  | with_reducible refine PyProof.Rows.isTrue_not ?_
  | with_reducible refine PyProof.Rows.Subscript_ ?_
  | with_reducible refine PyProof.Rows.List_ ?_
  | with_reducible refine k_int ?_
  | with_reducible refine k_str ?_
  | with_reducible refine k_bytes ?_
  | with_reducible refine k_bool ?_
  | ((with_reducible refine Call_ ?_ ?ha); (case ha => rfl))
  | ((with_reducible refine Pv.callWith_type1 ?_ ?ha ?hb); (case ha => rfl); (case hb => rfl))
  | ((with_reducible refine spliced_more ?_ ?ha); (case ha => rfl))
  | with_reducible refine spliced_none ?_
  | ((with_reducible refine' r_add ?ha ?hb ?_); (case ha => first | with_reducible exact lit_nat _ | rfl); (case hb => first | with_reducible exact lit_nat _ | rfl))
  | ((with_reducible refine' r_and ?ha ?hb ?_); (case ha => first | with_reducible exact lit_nat _ | rfl); (case hb => first | with_reducible exact lit_nat _ | rfl))
  | ((with_reducible refine' r_xor ?ha ?hb ?_); (case ha => first | with_reducible exact lit_nat _ | rfl); (case hb => first | with_reducible exact lit_nat _ | rfl))
  | ((with_reducible refine' r_shr ?ha ?hb ?_); (case ha => first | with_reducible exact lit_nat _ | rfl); (case hb => first | with_reducible exact lit_nat _ | rfl))
  | ((with_reducible refine' r_ishr ?ha ?hb ?_); (case ha => first | with_reducible exact lit_nat _ | rfl); (case hb => first | with_reducible exact lit_nat _ | rfl))
  | ((with_reducible refine' r_eq ?ha ?hb ?_); (case ha => first | with_reducible exact lit_nat _ | rfl); (case hb => first | with_reducible exact lit_nat _ | rfl))
  | ((with_reducible refine' r_ne ?ha ?hb ?_); (case ha => first | with_reducible exact lit_nat _ | rfl); (case hb => first | with_reducible exact lit_nat _ | rfl))
  | ((with_reducible refine' r_truthy ?ha ?_); (case ha => first | with_reducible exact lit_nat _ | rfl))
  | ((with_reducible refine' r_pow ?ha ?hb ?hc ?hd ?_); (case ha => first | with_reducible exact lit_nat _ | rfl); (case hb => first | with_reducible exact lit_nat _ | rfl); (case hc => first | decide | assumption | omega); (case hd => first | decide | assumption | omega))
  | ((with_reducible refine' r_fdiv ?ha ?hb ?hc ?hd ?_); (case ha => first | with_reducible exact lit_nat _ | rfl); (case hb => first | with_reducible exact lit_nat _ | rfl); (case hc => first | decide | assumption | omega); (case hd => first | decide | assumption | omega))
  | ((with_reducible refine' r_mod ?ha ?hb ?hc ?_); (case ha => first | with_reducible exact lit_nat _ | rfl); (case hb => first | with_reducible exact lit_nat _ | rfl); (case hc => first | decide | assumption | omega))
  | ((with_reducible refine' r_mul ?ha ?hb ?hc ?_); (case ha => first | with_reducible exact lit_nat _ | rfl); (case hb => first | with_reducible exact lit_nat _ | rfl); (case hc => first | decide | assumption | omega))
  | ((with_reducible refine' r_sub ?ha ?hb ?hc ?_); (case ha => first | with_reducible exact lit_nat _ | rfl); (case hb => first | with_reducible exact lit_nat _ | rfl); (case hc => first | decide | assumption | omega))
  | with_reducible refine wpAny_truthy_bool ?_
  | ((with_reducible refine isTrue_plain ?_ ?ha); (case ha => rfl))
  | ((with_reducible refine g_st (by assumption) (by assumption) ?_ ?ha ?hb); (case ha => rfl); (case hb => rfl); intro _ _ _))
local macro_rules | `(tactic| walk_at "go") => `(tactic| repeat (walk_at "go1"))
local macro_rules | `(tactic| walk_at "fill") => `(tactic| (refine fillIt ?ha ?_; (case ha => (k_fill; rfl))))
local macro_rules | `(tactic| walk_at "bi") => `(tactic| ((with_reducible refine' g_bi (by assumption) (by assumption) ?ha ?hb ?hc ?_ ?hd ?he ?hf); (case ha => k_is); (case hb => boot_by_name); (case hc => decide); (case hd => rfl); (case he => rfl); (case hf => decide)))
local macro_rules | `(tactic| walk_at "gl") => `(tactic| ((with_reducible refine' g_ref (by assumption) (by assumption) ?ha ?_ ?hd ?he ?hf); (case ha => k_is); (case hd => rfl); (case he => rfl); (case hf => decide)))
local macro_rules | `(tactic| walk_at "mv") => `(tactic| ((try dsimp only); repeat (first | with_reducible exact if_pos rfl | with_reducible refine (if_neg (by decide)).trans ?_ | with_reducible assumption | rfl)))
local macro_rules | `(tactic| walk_at "ld") => `(tactic| first | ((with_reducible refine' g_ld (by assumption) ?hv ?_ ?ha ?hb ?hc); (case ha => rfl); (case hb => rfl); (case hc => decide); (case hv => walk_at "mv")) | ((with_reducible refine' g_ldn (by assumption) ?hv ?_ ?ha ?hb); (case ha => rfl); (case hb => rfl); (case hv => walk_at "mv")))
local macro_rules | `(tactic| walk_at "run") => `(tactic| repeat (first | walk_at "go1" | walk_at "ld"))
local macro_rules | `(tactic| walk_at "cw") => `(tactic| ((with_reducible refine PyProof.Rows.callWith_builtin1 ?_ ?ha ?hb); (case ha => rfl); (case hb => rfl)))
local macro_rules | `(tactic| walk_at "cd") => `(tactic| ((with_reducible refine callWith_K (K := hd.heap_39 _) (Gd.k (by assumption)) ?hk ?_ ?ha ?hb); (case hk => k_is); (case ha => rfl); (case hb => rfl)))
section -- Gc

def rep (f : Nat → Nat) : Nat → Nat → Nat
  | 0, c => c
  | n + 1, c => f (rep f n c)
def crcBit (c : Nat) : Nat := if c % 2 = 1 then (c / 2) ^^^ 3988292384 else c / 2
def genCrc (c : Nat) : Nat := rep crcBit 8 c

set_option maxHeartbeats 4000000 in
set_option pp.deepTerms.threshold 6 in
set_option pp.maxSteps 4000 in
theorem c_gen_crc (w : World) {A : Around} {s : Shared} (G : Gd w s.heap) (Rm : Room A 2) (c : Nat) (t : Tok) :
    Pw w A (call (.ref 62) [.int (c : Int) t]) (fun v _ => ∃ t', v = .int (genCrc c : Nat) t') s := by
  walk_at "fill"
  obtain ⟨p, loose, mean, mg, mb, T⟩ := G.t
  refine call_pure (binds := [(Str.ofString "crc", .int (c : Int) t)]) G.k T.nolimit Rm.lim (by k_is) (by k_is) (BindsTo.of_eq rfl) (locs rfl) rfl rfl rfl (by decide) ?_
  intro L h₁ tk _ F
  have N : News s.heap L h₁ [] := News.nil
  refine wpAny_execs_cons (For_invV s.heap rfl rfl ?_)
  walk_at "go"
  walk_at "bi"
  walk_at "go"
  refine r_range1 ?_
  intro h' t' u' v' hr he
  refine it_range (L := L) (n := 8) (news := []) (fun i m _ => ∃ t, m (Str.ofString "crc") = some (.int (rep crcBit i c : Nat) t)) rfl Rm.handled hr (by decide) (by decide) (by decide) (.inl (by decide)) (he ▸ F.push _) News.nil ⟨t, rfl⟩ ?_ ?_
  · rintro i t' m₁ news₁ h tk own hi hnm _ ⟨tc, hm⟩ F N
    have hm' : (if Str.ofString "crc" = Str.ofString "j" then some (Value.int (0 + (i : Int)) t') else m₁ (Str.ofString "crc")) = some (.int (rep crcBit i c : Nat) tc) := (fnd_ne (by decide)).trans hm
    walk_at "go"
    refine g_ld F hm' ?_ rfl rfl (by decide)
    walk_at "go"
    refine split_dec (fun hb => ?_) fun hb => ?_
    · walk_at "go"
      refine g_ld F hm' ?_ rfl rfl (by decide)
      walk_at "go"
      refine inv_end (by assumption) (by assumption) hnm ?_
      rw [Nat.and_one_is_mod] at hb
      exact set_int (by show _ = crcBit (rep crcBit i c); rw [crcBit, if_pos (by omega)])
    · walk_at "go"
      refine g_ldn F hm' ?_ rfl rfl
      walk_at "go"
      refine inv_end (by assumption) (by assumption) hnm ?_
      rw [Nat.and_one_is_mod] at hb
      exact set_int (by show _ = crcBit (rep crcBit i c); rw [crcBit, if_neg (by omega)])
  · rintro m₁ news₁ h tk ⟨tc, hm⟩ F N
    walk_at "go"
    refine g_ld F hm ?_ rfl rfl (by decide)
    exact ⟨⟨_, rfl⟩, _, _, _, rfl, F⟩

end
section -- Ls

def stepBit (o k r : Nat) : Nat := if r / 2 ^ 31 ≠ o / 2 ^ k % 2 then (r * 2 % 2 ^ 32) ^^^ 79764919 else r * 2 % 2 ^ 32
def stepN (o : Nat) : Nat → Nat → Nat
  | 0, r => r
  | k + 1, r => stepBit o k (stepN o k r)
def lawStep (r o : Nat) : Nat := stepN o 8 r
theorem stepBit_lt (o k r : Nat) : stepBit o k r < 2 ^ 32 := by
  unfold stepBit
  have h : r * 2 % 2 ^ 32 < 2 ^ 32 := Nat.mod_lt _ (by decide)
  split
  · exact Nat.xor_lt_two_pow h (by decide)
  · exact h
theorem stepN_lt {o r : Nat} (h : r < 2 ^ 32) : ∀ k, stepN o k r < 2 ^ 32
  | 0 => h
  | _ + 1 => stepBit_lt _ _ _
theorem lawStep_lt {o r : Nat} : lawStep r o < 2 ^ 32 := stepBit_lt _ _ _

set_option maxHeartbeats 4000000 in
set_option pp.deepTerms.threshold 6 in
set_option pp.maxSteps 4000 in
theorem c_law_step (w : World) {A : Around} {s : Shared} (G : Gd w s.heap) (Rm : Room A 2) {r o : Nat} (hr32 : r < 2 ^ 32) (t u : Tok) :
    Pw w A (call (.ref 69) [.int (r : Int) t, .int (o : Int) u]) (fun v _ => ∃ t', v = .int (lawStep r o : Nat) t') s := by
  walk_at "fill"
  obtain ⟨p, loose, mean, mg, mb, T⟩ := G.t
  refine call_pure (binds := [(Str.ofString "rest", .int (r : Int) t), (Str.ofString "octet", .int (o : Int) u)]) G.k T.nolimit Rm.lim (by k_is) (by k_is) (BindsTo.of_eq rfl) (locs rfl) rfl rfl rfl (by decide) ?_
  intro L h₁ tk _ F
  have N : News s.heap L h₁ [] := News.nil
  refine wpAny_execs_cons (For_invV s.heap rfl rfl ?_)
  walk_at "go"
  walk_at "bi"
  walk_at "go"
  refine r_range1 ?_
  intro h' t' u' v' hr he
  refine it_rangeN (L := L) (n := 8) (a' := 0) (b' := 8) (news := []) (fun i m _ => (∃ t, m (Str.ofString "rest") = some (.int (stepN o i r : Nat) t)) ∧ m (Str.ofString "octet") = some (.int (o : Int) u)) rfl rfl rfl Rm.handled hr (by decide) (by decide) rfl (he ▸ F.push _) News.nil ⟨⟨t, rfl⟩, rfl⟩ ?_ ?_
  · rintro i t' m₁ news₁ h tk own hi hnm _ ⟨⟨tc, hm⟩, hmo⟩ F N
    rw [Nat.zero_add] at F
    have hlt := stepN_lt (o := o) hr32 i
    have h2 : 2 ^ i ≠ 0 := by have := Nat.two_pow_pos i; omega
    have h3 : 2 ^ i < 2 ^ 64 := Nat.pow_lt_pow_right (by decide) (by omega)
    walk_at "run"
    refine split_dec (fun hb => ?_) fun hb => ?_
    · walk_at "run"
      refine inv_end (by assumption) (by assumption) hnm ⟨?_, ?_⟩
      · exact set_int (by show _ = stepBit o i (stepN o i r); rw [stepBit, if_pos hb])
      · walk_at "mv"
    · walk_at "run"
      refine inv_end (by assumption) (by assumption) hnm ⟨?_, ?_⟩
      · exact set_int (by show _ = stepBit o i (stepN o i r); rw [stepBit, if_neg hb])
      · walk_at "mv"
  · rintro m₁ news₁ h tk ⟨⟨tc, hm⟩, _⟩ F N
    walk_at "go"
    refine g_ld F hm ?_ rfl rfl (by decide)
    exact ⟨⟨_, rfl⟩, _, _, _, rfl, F⟩

end
section -- Sre1
open PySem.Sre

def rn : Nat → Sre.M → Sre.M
  | 0, m => m
  | n + 1, m => rn n m.step

theorem step_done {m : Sre.M} (h : m.outcome.isSome = true) : m.step = m := by unfold M.step; rw [if_pos h]
theorem rn_done {m : Sre.M} (h : m.outcome.isSome = true) : ∀ n, rn n m = m
  | 0 => rfl
  | n + 1 => by rw [rn, step_done h]; exact rn_done h n
theorem runFor_rn : ∀ n m, Sre.M.runFor n m = rn n m
  | 0, _ => rfl
  | n + 1, m => by
    rw [Sre.M.runFor]
    split
    · rename_i h; exact (rn_done h _).symm
    · exact runFor_rn n m.step
theorem rn_add : ∀ a b m, rn (a + b) m = rn b (rn a m)
  | 0, b, m => by rw [Nat.zero_add]; rfl
  | a + 1, b, m => by rw [Nat.succ_add]; exact rn_add a b m.step

/-- it comes from m to m' within k steps -/
def To (k : Nat) (m m' : Sre.M) : Prop := ∃ j, j ≤ k ∧ rn j m = m'
theorem To.refl {k : Nat} {m : Sre.M} : To k m m := ⟨0, Nat.zero_le _, rfl⟩
theorem To.trans {a b : Nat} {m m' m'' : Sre.M} (h : To a m m') (h' : To b m' m'') : To (a + b) m m'' := by
  obtain ⟨j, hj, e⟩ := h
  obtain ⟨j', hj', e'⟩ := h'
  exact ⟨j + j', by omega, by rw [rn_add, e, e']⟩
theorem To.one {m m' : Sre.M} (h : m.step = m') : To 1 m m' := ⟨1, Nat.le_refl _, h⟩
theorem To.more {a b : Nat} {m m' : Sre.M} (h : To a m m') (hb : a ≤ b) : To b m m' := let ⟨j, hj, e⟩ := h; ⟨j, by omega, e⟩

theorem drive {w : World} {A : Around} {E : Value → Shared → Prop} {s : Shared} {Q : Sre.M → Shared → Prop} {m' : Sre.M} (hd : m'.outcome.isSome = true) (hQ : Q m' s) :
    ∀ (turns : Nat) (m : Sre.M), To (4 * turns) m m' → 0 < turns → wpAny (model PR w) A (Builtin.Re.reDrive turns m) Q E s
  | 0, _, _, h0 => absurd h0 (Nat.lt_irrefl _)
  | n + 1, m, h, _ => by
    rw [Builtin.Re.reDrive]
    rw [runFor_rn]
    show wpAny _ _ (if (rn 4 m).outcome.isSome = true then pure (rn 4 m) else (do rule "sre.turn"; Builtin.Re.reDrive n (rn 4 m))) _ _ _
    obtain ⟨j, hj, e⟩ := h
    by_cases h4 : (rn 4 m).outcome.isSome = true
    · rw [if_pos h4]
      have : rn 4 m = m' := by
        by_cases hj4 : j ≤ 4
        · have : rn 4 m = rn (4 - j) (rn j m) := by rw [← rn_add]; congr 1; omega
          rw [this, e, rn_done hd]
        · have : rn j m = rn (j - 4) (rn 4 m) := by rw [← rn_add]; congr 1; omega
          rw [rn_done h4] at this
          rw [← this, e]
      rw [this]
      exact wpAny_pure hQ
    · rw [if_neg h4]
      have hj4 : ¬ j ≤ 4 := fun hj4 => by
        have : rn 4 m = rn (4 - j) (rn j m) := by rw [← rn_add]; congr 1; omega
        rw [this, e, rn_done hd] at h4
        exact h4 hd
      refine wpAny_bind (wpAny_rule ?_)
      have e2 : rn (j - 4) (rn 4 m) = m' := by rw [← rn_add, ← e]; congr 1; omega
      exact drive hd hQ n _ ⟨j - 4, by omega, e2⟩ (by omega)

theorem rules_for {w : World} {A : Around} {E : Value → Shared → Prop} {s : Shared} {Q : PUnit → Shared → Prop} (sn : Sre.Seen) (hQ : Q ⟨⟩ s) : ∀ l : List Nat,
    wpAny (model PR w) A (forIn l PUnit.unit fun i _ => do
      if sn.has i = true then do rule (Sre.names.getD i ""); pure (ForInStep.yield PUnit.unit) else pure (ForInStep.yield PUnit.unit)) Q E s
  | [] => by rw [List.forIn_nil]; exact wpAny_pure hQ
  | i :: l => by
    rw [List.forIn_cons]
    refine wpAny_bind ?_
    split
    · exact wpAny_bind (wpAny_rule (wpAny_pure (rules_for sn hQ l)))
    · exact wpAny_pure (rules_for sn hQ l)

theorem toMatch {w : World} {A : Around} {E : Value → Shared → Prop} {s : Shared} {Q : Option Sre.M → Shared → Prop} {m m' : Sre.M} {k : Nat} (h : To k m m') (hk : k ≤ 4 * 2 ^ 64)
    (ho : m'.outcome = some .matched) (hm : Q (some m') s) : wpAny (model PR w) A (Builtin.Re.reRunToEnd m) Q E s := by
  unfold Builtin.Re.reRunToEnd
  refine wpAny_bind (drive (by rw [ho]; rfl) ?_ _ m (h.more hk) (by decide))
  refine wpAny_bind (rules_for m'.seen ?_ _)
  rw [ho]
  exact wpAny_pure hm
theorem toFail {w : World} {A : Around} {E : Value → Shared → Prop} {s : Shared} {Q : Option Sre.M → Shared → Prop} {m m' : Sre.M} {k : Nat} (h : To k m m') (hk : k ≤ 4 * 2 ^ 64)
    (ho : m'.outcome = some .failed) (hm : Q none s) : wpAny (model PR w) A (Builtin.Re.reRunToEnd m) Q E s := by
  unfold Builtin.Re.reRunToEnd
  refine wpAny_bind (drive (by rw [ho]; rfl) ?_ _ m (h.more hk) (by decide))
  refine wpAny_bind (rules_for m'.seen ?_ _)
  rw [ho]
  exact wpAny_pure hm

/-! the first pattern: a dot at a row's front -/
def code1 : Array Nat := #[14, 4, 0, 1, 1, 6, 1, 16, 46, 1]
/-- about to try at place s -/
def A1 (tx : Array Nat) (s : Nat) (must out : Bool) (sn : Sre.Seen) : Sre.M :=
  { code := code1, text := tx, lim := tx.size, start := s, lastStart := tx.size, mustAdvance := must, pc := 5, pos := s, handed := s, outermost := out, marks := #[],
    frames := [{ wait := .nextStart, pc := 5, pos := s, outermost := out }], weight := 1, seen := sn }
def front (tx : Array Nat) (s : Nat) : Bool := s == 0 || tx.getD (s - 1) 0 == 10
def hit1 (tx : Array Nat) (s : Nat) : Prop := front tx s = true ∧ s < tx.size ∧ tx.getD s 0 = 46

theorem search1 (tx : Array Nat) (s : Nat) (h : s < tx.size) (must : Bool) : forSearch code1 tx 0 s tx.size must = A1 tx s must true (({} : Sre.Seen).add 14) := by
  unfold forSearch
  have h1 : (header code1) = (1, 5) := rfl
  rw [h1]
  have h2 : (decide (s > tx.size) || decide (tx.size - s < 1)) = false := by simp; omega
  simp only [h2]
  rfl
theorem search1_none (tx : Array Nat) (s : Nat) (h : tx.size ≤ s) (must : Bool) : ∃ m', To 1 (forSearch code1 tx 0 s tx.size must) m' ∧ m'.outcome = some .failed := by
  unfold forSearch
  have h1 : (header code1) = (1, 5) := rfl
  rw [h1]
  have h2 : (decide (s > tx.size) || decide (tx.size - s < 1)) = true := by simp; omega
  simp only [h2]
  exact ⟨_, .one rfl, rfl⟩

theorem at1 {tx : Array Nat} {s : Nat} {must out : Bool} {sn : Sre.Seen} (h : front tx s = true) : ∃ sn', (A1 tx s must out sn).step = { A1 tx s must out sn' with pc := 7 } := by
  refine ⟨(sn.add 6).add 44, ?_⟩
  unfold front at h
  show (if (s == 0 || tx.getD (s - 1) 0 == 10) = true then _ else _) = _
  rw [if_pos h]
  rfl
theorem at1f {tx : Array Nat} {s : Nat} {must out : Bool} {sn : Sre.Seen} (h : front tx s = false) : ∃ sn', (A1 tx s must out sn).step = { A1 tx s must out sn' with answer := some false } := by
  refine ⟨(sn.add 6).add 44, ?_⟩
  unfold front at h
  show (if (s == 0 || tx.getD (s - 1) 0 == 10) = true then _ else _) = _
  rw [h]
  rfl
theorem lit1 {tx : Array Nat} {s : Nat} {must out : Bool} {sn : Sre.Seen} (h : s < tx.size) (hc : tx.getD s 0 = 46) :
    ∃ sn', ({ A1 tx s must out sn with pc := 7 } : Sre.M).step = { A1 tx s must out sn' with pc := 9, pos := s + 1 } := by
  refine ⟨sn.add 16, ?_⟩
  show (if s ≥ tx.size then _ else (match (Except.ok (tx.getD s 0 == 46, sn.add 16) : Except String (Bool × Sre.Seen)) with | .error _ => _ | .ok (false, _) => _ | .ok (true, _) => _)) = _
  rw [if_neg (by omega), hc]
  rfl
theorem lit1f {tx : Array Nat} {s : Nat} {must out : Bool} {sn : Sre.Seen} (h : ¬ (s < tx.size ∧ tx.getD s 0 = 46)) :
    ∃ sn', ({ A1 tx s must out sn with pc := 7 } : Sre.M).step = { A1 tx s must out sn' with pc := 7, answer := some false } := by
  refine ⟨sn.add 16, ?_⟩
  show (if s ≥ tx.size then _ else (match (Except.ok (tx.getD s 0 == 46, sn.add 16) : Except String (Bool × Sre.Seen)) with | .error _ => _ | .ok (false, _) => _ | .ok (true, _) => _)) = _
  by_cases h1 : s ≥ tx.size
  · rw [if_pos h1]; rfl
  · rw [if_neg h1]
    have h2 : (tx.getD s 0 == 46) = false := beq_eq_false_iff_ne.mpr fun e => h ⟨by omega, e⟩
    rw [h2]
    rfl
theorem suc1 {tx : Array Nat} {s : Nat} {must out : Bool} {sn : Sre.Seen} :
    ∃ sn', ({ A1 tx s must out sn with pc := 9, pos := s + 1 } : Sre.M).step = { A1 tx s must out sn' with pc := 9, pos := s + 1, handed := s + 1, answer := some true } := by
  refine ⟨sn.add 1, ?_⟩
  show (if (out && ((false && s + 1 != tx.size) || (must && s + 1 == s))) = true then _ else _) = _
  have : (out && ((false && s + 1 != tx.size) || (must && s + 1 == s))) = false := by
    rw [show (s + 1 == s) = false by simp]; cases out <;> cases must <;> rfl
  rw [this]
  rfl
theorem yes1 {tx : Array Nat} {s : Nat} {must out : Bool} {sn : Sre.Seen} :
    ∃ m', To 2 ({ A1 tx s must out sn with pc := 9, pos := s + 1, handed := s + 1, answer := some true } : Sre.M) m' ∧ m'.outcome = some .matched ∧ m'.start = s ∧ m'.handed = s + 1 :=
  ⟨_, (To.one rfl).trans (To.one rfl), rfl, rfl, rfl⟩
theorem no1 {tx : Array Nat} {s : Nat} {must out : Bool} {sn : Sre.Seen} {pc : Nat} (h : s < tx.size) :
    ({ A1 tx s must out sn with pc := pc, answer := some false } : Sre.M).step = A1 tx (s + 1) false false sn := by
  show (if s < tx.size then _ else _) = _
  rw [if_pos h]
  rfl
theorem no1e {tx : Array Nat} {s : Nat} {must out : Bool} {sn : Sre.Seen} {pc : Nat} (h : ¬ s < tx.size) :
    ∃ m', To 2 ({ A1 tx s must out sn with pc := pc, answer := some false } : Sre.M) m' ∧ m'.outcome = some .failed := by
  have e : ({ A1 tx s must out sn with pc := pc, answer := some false } : Sre.M).step = { A1 tx s must out sn with pc := 5, answer := some false, frames := [], weight := 0 } := by
    show (if s < tx.size then _ else _) = _
    rw [if_neg h]
    rfl
  exact ⟨_, (To.one e).trans (To.one rfl), rfl⟩

theorem try1_yes {tx : Array Nat} {s : Nat} {must out : Bool} {sn : Sre.Seen} (h : hit1 tx s) :
    ∃ m', To 5 (A1 tx s must out sn) m' ∧ m'.outcome = some .matched ∧ m'.start = s ∧ m'.handed = s + 1 := by
  obtain ⟨h1, h2, h3⟩ := h
  obtain ⟨sn1, e1⟩ := at1 (must := must) (out := out) (sn := sn) h1
  obtain ⟨sn2, e2⟩ := lit1 (must := must) (out := out) (sn := sn1) h2 h3
  obtain ⟨sn3, e3⟩ := suc1 (tx := tx) (s := s) (must := must) (out := out) (sn := sn2)
  obtain ⟨m', t, r⟩ := yes1 (tx := tx) (s := s) (must := must) (out := out) (sn := sn3)
  exact ⟨m', (((To.one e1).trans (To.one e2)).trans (To.one e3)).trans t, r⟩
theorem try1_fall {tx : Array Nat} {s : Nat} {must out : Bool} {sn : Sre.Seen} (h : ¬ hit1 tx s) :
    ∃ sn' pc, To 2 (A1 tx s must out sn) { A1 tx s must out sn' with pc := pc, answer := some false } := by
  cases h1 : front tx s with
  | false =>
    obtain ⟨sn1, e1⟩ := at1f (must := must) (out := out) (sn := sn) h1
    exact ⟨sn1, 5, (To.one e1).more (by decide)⟩
  | true =>
    obtain ⟨sn1, e1⟩ := at1 (must := must) (out := out) (sn := sn) h1
    obtain ⟨sn2, e2⟩ := lit1f (must := must) (out := out) (sn := sn1) (s := s) (tx := tx) fun q => h ⟨h1, q⟩
    exact ⟨sn2, 7, (To.one e1).trans (To.one e2)⟩

/-- the search from s: the first hit at or behind s, or none -/
theorem run1 (tx : Array Nat) : ∀ (n s : Nat) (must out : Bool) (sn : Sre.Seen), tx.size - s = n → s ≤ tx.size →
    (∃ f m', s ≤ f ∧ hit1 tx f ∧ (∀ j, s ≤ j → j < f → ¬ hit1 tx j) ∧ To (3 * n + 5) (A1 tx s must out sn) m' ∧ m'.outcome = some .matched ∧ m'.start = f ∧ m'.handed = f + 1) ∨
    ((∀ j, s ≤ j → ¬ hit1 tx j) ∧ ∃ m', To (3 * n + 5) (A1 tx s must out sn) m' ∧ m'.outcome = some .failed) := by
  intro n
  induction n with
  | zero =>
    intro s must out sn hn hs
    have hno : ∀ j, s ≤ j → ¬ hit1 tx j := fun j hj q => by have := q.2.1; omega
    obtain ⟨sn1, pc, t⟩ := try1_fall (must := must) (out := out) (sn := sn) (hno s (Nat.le_refl _))
    obtain ⟨m', t', o⟩ := no1e (must := must) (out := out) (sn := sn1) (pc := pc) (s := s) (tx := tx) (by omega)
    exact .inr ⟨hno, m', (t.trans t').more (by omega), o⟩
  | succ n ih =>
    intro s must out sn hn hs
    by_cases hh : hit1 tx s
    · obtain ⟨m', t, r⟩ := try1_yes (must := must) (out := out) (sn := sn) hh
      exact .inl ⟨s, m', Nat.le_refl _, hh, fun j h1 h2 => by omega, t.more (by omega), r⟩
    · obtain ⟨sn1, pc, t⟩ := try1_fall (must := must) (out := out) (sn := sn) hh
      have t2 := t.trans (To.one (no1 (must := must) (out := out) (sn := sn1) (pc := pc) (s := s) (tx := tx) (by omega)))
      rcases ih (s + 1) false false sn1 (by omega) (by omega) with ⟨f, m', h1, h2, h3, t3, r⟩ | ⟨h1, m', t3, r⟩
      · refine .inl ⟨f, m', by omega, h2, fun j hj hf => ?_, (t2.trans t3).more (by omega), r⟩
        by_cases e : j = s
        · exact e ▸ hh
        · exact h3 j (by omega) hf
      · refine .inr ⟨fun j hj => ?_, m', (t2.trans t3).more (by omega), r⟩
        by_cases e : j = s
        · exact e ▸ hh
        · exact h1 j (by omega)

theorem find1 {w : World} {A : Around} {E : Value → Shared → Prop} {st : Shared} {Q : Option Sre.M → Shared → Prop} (tx : Array Nat) (s : Nat) (must : Bool) (hsz : tx.size ≤ 2 ^ 32)
    (hm : ∀ f m', s ≤ f → hit1 tx f → (∀ j, s ≤ j → j < f → ¬ hit1 tx j) → m'.start = f → m'.handed = f + 1 → Q (some m') st)
    (hf : (∀ j, s ≤ j → ¬ hit1 tx j) → Q none st) : wpAny (model PR w) A (Builtin.Re.reRunToEnd (forSearch code1 tx 0 s tx.size must)) Q E st := by
  by_cases h : s < tx.size
  · rw [search1 tx s h must]
    rcases run1 tx _ s must true _ rfl (Nat.le_of_lt h) with ⟨f, m', h1, h2, h3, t, o, r1, r2⟩ | ⟨h1, m', t, o⟩
    · exact toMatch t (by omega) o (hm f m' h1 h2 h3 r1 r2)
    · exact toFail t (by omega) o (hf h1)
  · obtain ⟨m', t, o⟩ := search1_none tx s (by omega) must
    exact toFail t (by decide) o (hf fun j hj q => by have := q.2.1; omega)

end
section -- Sre2
open PySem.Sre

/-! the second pattern: a row's end -/
def code2 : Array Nat := #[14, 9, 4, 1, 2, 16, 10, 16, 13, 0, 7, 7, 16, 13, 16, 10, 15, 18, 5, 16, 10, 15, 13, 11, 16, 13, 5, 5, 0, 16, 10, 1, 15, 2, 0, 1]
def S2 (tx : Array Nat) (f pc pos hd : Nat) (out : Bool) (fr : List Sre.Frame) (wt : Nat) (an : Option Bool) (sn : Sre.Seen) : Sre.M :=
  { code := code2, text := tx, lim := tx.size, start := f, lastStart := tx.size, pc := pc, pos := pos, handed := hd, outermost := out, marks := #[], frames := fr, weight := wt, answer := an, seen := sn }
abbrev ns2 (f : Nat) (out : Bool) : Sre.Frame := { wait := .nextStart, pc := 10, pos := f, outermost := out }
abbrev nb2 (pc f : Nat) (out : Bool) : Sre.Frame := { wait := .nextBranch, pc := pc, pos := f, outermost := out }
abbrev ln2 (f : Nat) (out : Bool) : Sre.Frame := { wait := .lookNot, pc := 26, pos := f, outermost := out }

def isLit (pc k : Nat) : Prop := (pc = 12 ∧ k = 13) ∨ (pc = 14 ∧ k = 10) ∨ (pc = 19 ∧ k = 10) ∨ (pc = 24 ∧ k = 13) ∨ (pc = 29 ∧ k = 10)
section
variable {tx : Array Nat} {f pos hd wt pc k : Nat} {out : Bool} {fr : List Sre.Frame} {sn : Sre.Seen}
theorem lit2 (hl : isLit pc k) (h : pos < tx.size) (hc : tx.getD pos 0 = k) : (S2 tx f pc pos hd out fr wt none sn).step = S2 tx f (pc + 2) (pos + 1) hd out fr wt none (sn.add 16) := by
  rcases hl with ⟨rfl, rfl⟩ | ⟨rfl, rfl⟩ | ⟨rfl, rfl⟩ | ⟨rfl, rfl⟩ | ⟨rfl, rfl⟩ <;>
  · show (if pos ≥ tx.size then _ else (match (Except.ok (tx.getD pos 0 == _, sn.add 16) : Except String (Bool × Sre.Seen)) with | .error _ => _ | .ok (false, _) => _ | .ok (true, _) => _)) = _
    rw [if_neg (by omega), hc]
    rfl
theorem lit2f (hl : isLit pc k) (h : ¬ (pos < tx.size ∧ tx.getD pos 0 = k)) : (S2 tx f pc pos hd out fr wt none sn).step = S2 tx f pc pos hd out fr wt (some false) (sn.add 16) := by
  rcases hl with ⟨rfl, rfl⟩ | ⟨rfl, rfl⟩ | ⟨rfl, rfl⟩ | ⟨rfl, rfl⟩ | ⟨rfl, rfl⟩ <;>
  · first
      | show (if pos ≥ tx.size then _ else (match (Except.ok (tx.getD pos 0 == 13, sn.add 16) : Except String (Bool × Sre.Seen)) with | .error _ => _ | .ok (false, _) => _ | .ok (true, _) => _)) = _
      | show (if pos ≥ tx.size then _ else (match (Except.ok (tx.getD pos 0 == 10, sn.add 16) : Except String (Bool × Sre.Seen)) with | .error _ => _ | .ok (false, _) => _ | .ok (true, _) => _)) = _
    by_cases h1 : pos ≥ tx.size
    · rw [if_pos h1]; rfl
    · rw [if_neg h1]
      rw [beq_eq_false_iff_ne.mpr fun e => h ⟨by omega, e⟩]
      rfl
end
section
variable {tx : Array Nat} {f pos hd : Nat} {out : Bool} {fr : List Sre.Frame} {sn : Sre.Seen}
theorem br2 : (S2 tx f 10 f f out [ns2 f out] 1 none sn).step = S2 tx f 12 f f out [nb2 11 f out, ns2 f out] 2 none (sn.add 7) := rfl
theorem jp16 {wt : Nat} : (S2 tx f 16 pos hd out fr wt none sn).step = S2 tx f 35 pos hd out fr wt none (sn.add 15) := rfl
theorem jp21 {wt : Nat} : (S2 tx f 21 pos hd out fr wt none sn).step = S2 tx f 35 pos hd out fr wt none (sn.add 15) := rfl
theorem jp32 {wt : Nat} : (S2 tx f 32 pos hd out fr wt none sn).step = S2 tx f 35 pos hd out fr wt none (sn.add 15) := rfl
theorem suc2 {wt : Nat} : (S2 tx f 35 pos hd out fr wt none sn).step = S2 tx f 35 pos pos out fr wt (some true) (sn.add 1) := by
  show (if (out && ((false && pos != tx.size) || (false && pos == f))) = true then _ else _) = _
  have : (out && ((false && pos != tx.size) || (false && pos == f))) = false := by cases out <;> rfl
  rw [this]
  rfl
theorem alt18 {pc ps : Nat} {o : Bool} {h : Nat} : (S2 tx f pc ps h o [nb2 11 f out, ns2 f out] 2 (some false) sn).step = S2 tx f 19 f f out [nb2 18 f out, ns2 f out] 2 none sn := rfl
theorem alt23 {pc ps : Nat} {o : Bool} {h : Nat} : (S2 tx f pc ps h o [nb2 18 f out, ns2 f out] 2 (some false) sn).step = S2 tx f 24 f f out [nb2 23 f out, ns2 f out] 2 none sn := rfl
theorem asn2 : (S2 tx f 26 pos hd out [nb2 23 f out, ns2 f out] 2 none sn).step = S2 tx f 29 pos pos false [ln2 pos out, nb2 23 f out, ns2 f out] 3 none (sn.add 5) := rfl
theorem lnot {pc ps : Nat} {o : Bool} {h : Nat} : (S2 tx f pc ps h o [ln2 pos out, nb2 23 f out, ns2 f out] 3 (some false) sn).step = S2 tx f 32 pos h out [nb2 23 f out, ns2 f out] 2 none sn := rfl
theorem yes2 {pc ps h : Nat} {b : Nat} {o : Bool} : ∃ m', To 3 (S2 tx f pc ps h o [nb2 b f out, ns2 f out] 2 (some true) sn) m' ∧ m'.outcome = some .matched ∧ m'.start = f ∧ m'.handed = h :=
  ⟨_, ((To.one rfl).trans (To.one rfl)).trans (To.one rfl), rfl, rfl, rfl⟩

/-- where the end at f has its end -/
def endOf (tx : Array Nat) (f : Nat) : Nat := if tx.getD f 0 = 13 ∧ f + 1 < tx.size ∧ tx.getD (f + 1) 0 = 10 then f + 2 else f + 1
def hit2 (tx : Array Nat) (f : Nat) : Prop := f < tx.size ∧ (tx.getD f 0 = 10 ∨ tx.getD f 0 = 13)

theorem match2 (hh : hit2 tx f) : ∃ m', To 20 (S2 tx f 10 f f out [ns2 f out] 1 none sn) m' ∧ m'.outcome = some .matched ∧ m'.start = f ∧ m'.handed = endOf tx f := by
  obtain ⟨hf, hc⟩ := hh
  have t1 := To.one (br2 (tx := tx) (f := f) (out := out) (sn := sn))
  rcases hc with hc | hc
  · have t2 := t1.trans (To.one (lit2f (.inl ⟨rfl, rfl⟩) (by rw [hc]; omega)))
    have t3 := t2.trans (To.one alt18)
    have t4 := t3.trans (To.one (lit2 (.inr (.inr (.inl ⟨rfl, rfl⟩))) hf hc))
    have t5 := t4.trans (To.one jp21)
    have t6 := t5.trans (To.one suc2)
    obtain ⟨m', t, o, r1, r2⟩ := yes2 (tx := tx) (f := f) (out := out) (pc := 35) (ps := f + 1) (h := f + 1) (b := 18) (o := out) (sn := ((((((sn.add 7).add 16).add 16)).add 15).add 1))
    refine ⟨m', (t6.trans t).more (by decide), o, r1, ?_⟩
    rw [r2, endOf, if_neg (by rw [hc]; omega)]
  · have t2 := t1.trans (To.one (lit2 (.inl ⟨rfl, rfl⟩) hf hc))
    by_cases h2 : f + 1 < tx.size ∧ tx.getD (f + 1) 0 = 10
    · have t3 := t2.trans (To.one (lit2 (.inr (.inl ⟨rfl, rfl⟩)) h2.1 h2.2))
      have t4 := t3.trans (To.one jp16)
      have t5 := t4.trans (To.one suc2)
      obtain ⟨m', t, o, r1, r2⟩ := yes2 (tx := tx) (f := f) (out := out) (pc := 35) (ps := f + 1 + 1) (h := f + 1 + 1) (b := 11) (o := out) (sn := (((((sn.add 7).add 16).add 16)).add 15).add 1)
      refine ⟨m', (t5.trans t).more (by decide), o, r1, ?_⟩
      rw [r2, endOf, if_pos ⟨hc, h2⟩]
    · have t3 := t2.trans (To.one (lit2f (.inr (.inl ⟨rfl, rfl⟩)) h2))
      have t4 := t3.trans (To.one alt18)
      have t5 := t4.trans (To.one (lit2f (.inr (.inr (.inl ⟨rfl, rfl⟩))) (by rw [hc]; omega)))
      have t6 := t5.trans (To.one alt23)
      have t7 := t6.trans (To.one (lit2 (.inr (.inr (.inr (.inl ⟨rfl, rfl⟩)))) hf hc))
      have t8 := t7.trans (To.one asn2)
      have t9 := t8.trans (To.one (lit2f (.inr (.inr (.inr (.inr ⟨rfl, rfl⟩)))) h2))
      have t10 := t9.trans (To.one lnot)
      have t11 := t10.trans (To.one jp32)
      have t12 := t11.trans (To.one suc2)
      obtain ⟨m', t, o, r1, r2⟩ := yes2 (tx := tx) (f := f) (out := out) (pc := 35) (ps := f + 1) (h := f + 1) (b := 23) (o := out) (sn := ((((((((((sn.add 7).add 16).add 16).add 16).add 16).add 5).add 16).add 15)).add 1))
      refine ⟨m', (t12.trans t).more (by decide), o, r1, ?_⟩
      rw [r2, endOf, if_neg (fun q => h2 q.2)]
end

theorem set2 (c : Nat) (sn : Sre.Seen) : ∃ sn', inSet code2 c code2.size 5 true sn = .ok (c == 10 || c == 13, sn') := by
  have e : inSet code2 c code2.size 5 true sn = (if (c == 10) = true then .ok (true, sn.add 16) else (if (c == 13) = true then .ok (true, (sn.add 16).add 16) else .ok (false, ((sn.add 16).add 16).add 0))) := rfl
  rw [e]
  cases c == 10 with
  | true => exact ⟨_, rfl⟩
  | false =>
    cases c == 13 with
    | true => exact ⟨_, rfl⟩
    | false => exact ⟨_, rfl⟩

theorem adm2 (m : Sre.M) (tx : Array Nat) (hc : m.code = code2) (ht : m.text = tx) (hl : m.lim = tx.size) : ∀ (n s : Nat) (sn : Sre.Seen), tx.size - s < n →
    (∃ f sn', s ≤ f ∧ hit2 tx f ∧ (∀ j, s ≤ j → j < f → ¬ hit2 tx j) ∧ Sre.M.admitted m n s sn = .ok (some f, sn')) ∨ ((∀ j, s ≤ j → ¬ hit2 tx j) ∧ ∃ sn', Sre.M.admitted m n s sn = .ok (none, sn')) := by
  intro n
  induction n with
  | zero => intro s sn h; omega
  | succ n ih =>
    intro s sn h
    rw [Sre.M.admitted, hl, hc, ht]
    by_cases hs : s ≥ tx.size
    · rw [if_pos hs]
      exact .inr ⟨fun j hj q => by have := q.1; omega, _, rfl⟩
    · rw [if_neg hs]
      obtain ⟨sn1, e⟩ := set2 (tx.getD s 0) sn
      rw [e]
      cases hb : (tx.getD s 0 == 10 || tx.getD s 0 == 13) with
      | true =>
        have hh : hit2 tx s := ⟨by omega, by rw [Bool.or_eq_true, beq_iff_eq, beq_iff_eq] at hb; exact hb⟩
        exact .inl ⟨s, sn1, Nat.le_refl _, hh, fun j h1 h2 => by omega, rfl⟩
      | false =>
        have hh : ¬ hit2 tx s := fun q => by
          rw [Bool.or_eq_false_iff, beq_eq_false_iff_ne, beq_eq_false_iff_ne] at hb
          exact q.2.elim hb.1 hb.2
        rcases ih (s + 1) sn1 (by omega) with ⟨f, sn', h1, h2, h3, e2⟩ | ⟨h1, sn', e2⟩
        · refine .inl ⟨f, sn', by omega, h2, fun j hj hf => ?_, e2⟩
          by_cases e : j = s
          · exact e ▸ hh
          · exact h3 j (by omega) hf
        · refine .inr ⟨fun j hj => ?_, sn', e2⟩
          by_cases e : j = s
          · exact e ▸ hh
          · exact h1 j (by omega)

theorem search2 (tx : Array Nat) (s : Nat) (must : Bool) :
    (∃ f m', s ≤ f ∧ hit2 tx f ∧ (∀ j, s ≤ j → j < f → ¬ hit2 tx j) ∧ To 20 (forSearch code2 tx 0 s tx.size must) m' ∧ m'.outcome = some .matched ∧ m'.start = f ∧ m'.handed = endOf tx f) ∨
    ((∀ j, s ≤ j → ¬ hit2 tx j) ∧ ∃ m', To 20 (forSearch code2 tx 0 s tx.size must) m' ∧ m'.outcome = some .failed) := by
  unfold forSearch
  have h1 : (header code2) = (1, 10) := rfl
  rw [h1]
  by_cases hs : tx.size ≤ s
  · have h2 : (decide (s > tx.size) || decide (tx.size - s < 1)) = true := by simp; omega
    simp only [h2]
    exact .inr ⟨fun j hj q => by have := q.1; omega, _, (To.one rfl).more (by decide), rfl⟩
  · have h2 : (decide (s > tx.size) || decide (tx.size - s < 1)) = false := by simp; omega
    simp only [h2]
    have hs2 : ∀ m0 : Sre.M, m0.code = code2 → m0.text = tx → m0.lim = tx.size → m0.lastStart = tx.size → m0.pc = 10 → m0.weight = 0 → m0.frames = [] → m0.wholeText = false → m0.marks = #[] → m0.loops = #[] → m0.inner = none → m0.answer = none → m0.outcome = none →
        (∃ f m', s ≤ f ∧ hit2 tx f ∧ (∀ j, s ≤ j → j < f → ¬ hit2 tx j) ∧ To 20 (m0.attemptFrom s true) m' ∧ m'.outcome = some .matched ∧ m'.start = f ∧ m'.handed = endOf tx f) ∨
        ((∀ j, s ≤ j → ¬ hit2 tx j) ∧ ∃ m', To 20 (m0.attemptFrom s true) m' ∧ m'.outcome = some .failed) := by
      intro m0 e1 e2 e3 e4 e5 e6 e7 e8 e9 e10 e11 e12 e13
      obtain ⟨code, text, lim, start, lastStart, wholeText, mustAdvance, pc, pos, handed, outermost, marks, lastmark, lastindex, loops, inner, frames, weight, answer, seen, outcome⟩ := m0
      dsimp only at e1 e2 e3 e4 e5 e6 e7 e8 e9 e10 e11 e12 e13
      subst e1 e2 e3 e4 e5 e6 e7 e8 e9 e10 e11 e12 e13
      have hfs : ∀ (m : Sre.M), m.code = code2 → m.hasFirstSet = true := fun m e => by unfold Sre.M.hasFirstSet; rw [e]; rfl
      unfold Sre.M.attemptFrom
      rw [hfs _ rfl]
      rcases adm2 ⟨code2, text, text.size, start, text.size, false, mustAdvance, 10, pos, handed, outermost, #[], lastmark, lastindex, #[], none, [], 0, none, seen, none⟩ text rfl rfl rfl (text.size + 1 - s) s seen (by omega) with ⟨f, sn', h1, h2, h3, e⟩ | ⟨h1, sn', e⟩
      · refine .inl ?_
        obtain ⟨m', t, o, r1, r2⟩ := match2 (out := true) (sn := sn') h2
        refine ⟨f, m', h1, h2, h3, ?_, o, r1, r2⟩
        rw [e]
        exact t
      · refine .inr ⟨h1, ?_⟩
        rw [e]
        exact ⟨_, (To.one rfl).more (by decide), rfl⟩
    simp only [Bool.false_eq_true, if_false]
    apply hs2 <;> rfl

theorem find2 {w : World} {A : Around} {E : Value → Shared → Prop} {st : Shared} {Q : Option Sre.M → Shared → Prop} (tx : Array Nat) (s : Nat) (must : Bool)
    (hm : ∀ f m', s ≤ f → hit2 tx f → (∀ j, s ≤ j → j < f → ¬ hit2 tx j) → m'.start = f → m'.handed = endOf tx f → Q (some m') st)
    (hf : (∀ j, s ≤ j → ¬ hit2 tx j) → Q none st) : wpAny (model PR w) A (Builtin.Re.reRunToEnd (forSearch code2 tx 0 s tx.size must)) Q E st := by
  rcases search2 tx s must with ⟨f, m', h1, h2, h3, t, o, r1, r2⟩ | ⟨h1, m', t, o⟩
  · exact toMatch t (by decide) o (hm f m' h1 h2 h3 r1 r2)
  · exact toFail t (by decide) o (hf h1)

end
section -- Sub1
open PySem.Builtin.Re

theorem slot_sub : Slot "re.Pattern" "sub" "re.Pattern.sub" :=
  .of (owner := "re.Pattern") (n := "sub") (by rw [typeLookup_type, builtinLookup_eq_fast]; kernel_rfl) (by decide +kernel) (by decide +kernel) (by decide +kernel)
    (by first | exact .inl (by decide +kernel) | exact .inr (by decide +kernel)) (by rw [isSubtype_type]; kernel_rfl)
theorem attrs_pat : PlainAttrs "re.Pattern" :=
  ⟨⟨"object.__getattribute__", by rw [typeLookup_type, builtinLookup_eq_fast]; kernel_rfl, by decide +kernel⟩, by rw [typeLookup_type, builtinLookup_eq_fast]; kernel_rfl⟩
theorem type_sub : typeOf (.builtin "re.Pattern.sub") = pure (.type "method_descriptor") := by show builtinType _ = _; rw [builtinType_eq_fast]; kernel_rfl
theorem entry_sub : entryFor table "re.Pattern.sub" = some Builtin.«re.Pattern.sub» := entryFor_of_tree (by kernel_rfl)
theorem args_sub (a b c : Value) : argsOk "re.Pattern.sub" ⟨[a, b, c], []⟩ := by unfold argsOk; kernel_rfl
theorem plain_loop : plainId "re.Pattern.sub.loop" = true := by decide +kernel
theorem entry_loop : entryFor table "re.Pattern.sub.loop" = some Builtin.«re.Pattern.sub.loop» := entryFor_of_tree (by kernel_rfl)

abbrev pat1 : Obj := { cls := .type "re.Pattern", data := .fields #[.bytes #[40, 63, 109, 41, 94, 92, 46] 285, .int 8 298, .int 0 0, .none, .none, .ref 35, .int 1 0] }
abbrev cod1 : Obj := { cls := .type "tuple", data := .seq #[.int 14 0, .int 4 0, .int 0 0, .int 1 0, .int 1 0, .int 6 0, .int 1 0, .int 16 0, .int 46 0, .int 1 0] }
structure Pt1 (h : Heap) : Prop where
  pat : h.get? 36 = some pat1
  cod : h.get? 35 = some cod1

theorem whole1 {w : World} {A : Around} {E : Value → Shared → Prop} {s : Shared} {Q : ReTarget → Shared → Prop} {b : Array UInt8} {t : Tok} (P : Pt1 s.heap)
    (hQ : Q ⟨.ref 36, .bytes b t, code1, b.map (·.toNat), 1, 0, 0, (b.map (·.toNat)).size⟩ s) : wpAny (model PR w) A (reWholeTarget (.ref 36) (.bytes b t)) Q E s := by
  unfold reWholeTarget
  refine wpAny_bind ?_
  unfold fieldsOf
  refine wpAny_bind (wpAny_load P.pat (wpAny_pure ?_))
  refine wpAny_bind ?_
  unfold reTextOf
  refine wpAny_bind (wpAny_of_eq (show asStr? (.bytes b t) = pure none from rfl) ?_)
  refine wpAny_bind (wpAny_of_eq KBy.quiet_eq (wpAny_pure ?_))
  refine wpAny_bind (wpAny_pure ?_)
  refine wpAny_bind ?_
  unfold reRawItems
  refine wpAny_bind ?_
  unfold seqItems?
  refine wpAny_bind (wpAny_load P.cod (wpAny_pure (wpAny_pure (wpAny_pure ?_))))
  have e : Array.map (fun x : Int => x.toNat) (Array.map reRawOf ((some #[Value.int 14 0, Value.int 4 0, Value.int 0 0, Value.int 1 0, Value.int 1 0, Value.int 6 0, Value.int 1 0, Value.int 16 0, Value.int 46 0, Value.int 1 0]).getD #[])) = code1 := by decide +kernel
  rw [e]
  exact hQ

end
section -- Jn
open PySem.Builtin

theorem slot_bjoin : Slot "bytes" "join" "bytes.join" :=
  .of (owner := "bytes") (n := "join") (by rw [typeLookup_type, builtinLookup_eq_fast]; kernel_rfl) (by decide +kernel) (by decide +kernel) (by decide +kernel)
    (by first | exact .inl (by decide +kernel) | exact .inr (by decide +kernel)) (by rw [isSubtype_type]; kernel_rfl)
theorem entry_bjoin : entryFor table "bytes.join" = some Builtin.«bytes.join» := entryFor_of_tree (by kernel_rfl)
theorem args_bjoin (a b : Value) : argsOk "bytes.join" ⟨[a, b], []⟩ := by unfold argsOk; kernel_rfl

theorem buffer_eqF {id : String} {b : Array UInt8} {t : Tok} {full : Bool} : Bytes.buffer? id (.bytes b t) full = pure (some b) := by
  unfold Bytes.buffer?
  rw [KBy.special_eq KBy.look_buffer, KBy.own_buffer, KBy.own_release]
  kernel_rfl
theorem take_eq {id : String} {b : Array UInt8} {t : Tok} {fl : Int} : Bytes.takeBufferQuiet? id (.bytes b t) fl = pure (some (b, none)) := by
  have e : Bytes.takeBuffer? id (.bytes b t) fl = pure (some (b, none)) := by
    unfold Bytes.takeBuffer?
    rw [KBy.special_eq KBy.look_buffer, KBy.own_buffer, buffer_eqF]
    kernel_rfl
  unfold Bytes.takeBufferQuiet?
  rw [e]
  rfl


abbrev bvals (ps : List (Array UInt8 × Tok)) : Array Value := (ps.map fun p => Value.bytes p.1 p.2).toArray
def bcat (ps : List (Array UInt8 × Tok)) : Array UInt8 := (ps.map (·.1)).foldl (· ++ ·) #[]


theorem forIn_upto {M : Model} {A : Around} {E : Value → Shared → Prop} {s : Shared} {β : Type} {body : Nat → β → Sem (ForInStep β)} (st : Nat → β) (n : Nat) {Q : β → Shared → Prop}
    (h : ∀ i, i < n → ∀ Q' : ForInStep β → Shared → Prop, Q' (.yield (st (i + 1))) s → wpAny M A (body i (st i)) Q' E s) (hQ : Q (st n) s) : wpAny M A (forIn [:n] (st 0) body) Q E s := by
  rw [Std.Legacy.Range.forIn_eq_forIn_range']
  have key : ∀ (k i : Nat), i + k = n → wpAny M A (forIn (List.range' i k 1) (st i) body) Q E s := by
    intro k
    induction k with
    | zero => intro i hi; obtain rfl : i = n := by omega
              rw [List.range'_zero, List.forIn_nil]; exact wpAny_pure hQ
    | succ k ih =>
      intro i hi
      rw [List.range'_succ, List.forIn_cons]
      exact wpAny_bind (h i (by omega) _ (ih (i + 1) (by omega)))
  have := key n 0 (by omega)
  simpa [Std.Legacy.Range.size] using this

theorem take_snoc {α : Type} {l : List α} {i : Nat} (h : i < l.length) : l.take (i + 1) = l.take i ++ [l[i]] := by rw [List.take_add_one, List.getElem?_eq_getElem h]; rfl
theorem getD_bvals {ps : List (Array UInt8 × Tok)} {i : Nat} (h : i < ps.length) : (bvals ps).getD i .none = .bytes ps[i].1 ps[i].2 := by
  simp [bvals, h]

theorem joined_nil : ∀ (ps : List (Array UInt8)) (a : Array UInt8) (k : Nat), (ps.zipIdx k).foldl (fun out (p : Array UInt8 × Nat) => (if p.2 > 0 then out ++ #[] else out) ++ p.1) a = ps.foldl (· ++ ·) a
  | [], _, _ => rfl
  | p :: r, a, k => by
    rw [List.zipIdx_cons, List.foldl_cons, List.foldl_cons, ← joined_nil r (a ++ p) (k + 1)]
    congr 1
    split <;> simp

theorem letGo_b {M : Model} {A : Around} {E : Value → Shared → Prop} {s : Shared} {Q : Unit → Shared → Prop} (hQ : Q () s) : ∀ (r k : List Value), wpAny M A (letGo r k) Q E s
  | [], _ => wpAny_pure hQ
  | _ :: rest, k => by
    rw [letGo]
    exact wpAny_bind (wpAny_holding (wpAny_point (letGo_b hQ rest k)))
theorem joinLetGo_b {M : Model} {A : Around} {E : Value → Shared → Prop} {s : Shared} {Q : Unit → Shared → Prop} (hQ : Q () s) (k : List Value) : ∀ (ps : List (Array UInt8 × Tok)), wpAny M A (Bytes.joinLetGo (ps.map fun p => (Value.bytes p.1 p.2, none)) k) Q E s
  | [] => wpAny_pure hQ
  | p :: r => by
    rw [List.map_cons]
    show wpAny _ _ (letGo _ _ >>= fun _ => _) _ _ _
    exact wpAny_bind (letGo_b (joinLetGo_b hQ k r) _ _)

set_option maxHeartbeats 4000000 in
set_option pp.deepTerms.threshold 8 in
theorem join_b {w : World} {A : Around} {E : Value → Shared → Prop} {s : Shared} {Q : Value → Shared → Prop} {l : Addr} {c : Nat} {t : Tok} (ps : List (Array UInt8 × Tok))
    (hl : s.heap.get? l = some (listOf (bvals ps) c)) (hsz : (bcat ps).size ≤ 16777216)
    (hQ : ∀ u tk, Q (.bytes (bcat ps) u) { s with toks := tk }) : wpAny (model PR w) A (call (.builtin "bytes.join") [.bytes #[] t, .ref l]) Q E s := by
  refine wpAny_call_entry slot_bjoin (typeIs_bytes s _ _) entry_bjoin ?_ (args_bjoin _ _)
  unfold Builtin.«bytes.join» Bytes.joinM
  refine wpAny_bind (wpAny_of_eq (a := (Value.bytes #[] t, Value.ref l)) rfl ?_)
  have hT : s.TypeIs (.ref l) "list" := ⟨_, hl, rfl⟩
  refine wpAny_bind (m := Bytes.joinItems (.ref l)) ?_
  unfold Bytes.joinItems
  refine wpAny_bind (wpAny_typeOf hT (wpAny_pure ?_))
  refine wpAny_bind (wpAny_seqItems hl rfl ?_)
  dsimp only
  rw [if_pos (by decide : (Bytes.Kind.bytes == Bytes.Kind.bytes) = true)]
  rcases ps with _ | ⟨p, _ | ⟨q, r⟩⟩
  case' cons.nil =>
    obtain ⟨b, u⟩ := p
    show wpAny _ _ (typeOf (Value.bytes b u) >>= fun _ => _) _ _ _
    refine wpAny_bind (wpAny_typeOf (typeIs_bytes s b u) ?_)
    refine wpAny_bind (wpAny_rule (wpAny_pure ⟨_, rfl, ?_⟩))
    have := hQ u s.toks
    rw [show bcat [(b, u)] = b from by simp [bcat]] at this
    exact this
  case' nil =>
    show wpAny _ _ (forIn [: (bvals []).size] (#[], []) _ >>= fun _ => _) _ _ _
    generalize ([] : List (Array UInt8 × Tok)) = ps at *
  case' cons.cons =>
    show wpAny _ _ (forIn [: (bvals (p :: q :: r)).size] (#[], []) _ >>= fun _ => _) _ _ _
    generalize p :: q :: r = ps at *
  all_goals
    refine wpAny_bind (forIn_upto (fun i => (((ps.take i).map (·.1)).toArray, (ps.take i).map fun p => (Value.bytes p.1 p.2, none))) (bvals ps).size ?_ ?_)
    · intro i hi Q' hQ'
      have hi' : i < ps.length := by simpa [bvals] using hi
      refine wpAny_bind (wpAny_seqItems hl rfl ?_)
      dsimp only
      have hany : ((ps.take i).map fun p => (Value.bytes p.1 p.2, (none : Option Value))).any (fun x => x.1.onHeap) = false := by
        rw [List.any_eq_false]
        intro x hx
        obtain ⟨p, _, rfl⟩ := List.mem_map.mp hx
        simp [Value.onHeap]
      rw [if_neg (by rw [hany]; decide), getD_bvals hi']
      refine wpAny_bind (wpAny_holding (wpAny_of_eq take_eq ?_))
      dsimp only
      refine wpAny_bind (wpAny_seqItems hl rfl ?_)
      dsimp only
      rw [if_neg (by simp)]
      refine wpAny_pure ?_
      rw [take_snoc hi'] at hQ'
      simp only [List.map_append, List.map_cons, List.map_nil] at hQ'
      simp only [List.push_toArray]
      exact hQ'
    · have e0 : ps.take (bvals ps).size = ps := List.take_of_length_le (by simp [bvals])
      dsimp only
      rw [e0]
      refine wpAny_bind (wpAny_of_eq (a := #[]) rfl ?_)
      have e1 : Bytes.joined #[] (ps.map (·.1)) = bcat ps := by unfold Bytes.joined bcat; exact joined_nil _ _ _
      have hlen : ∀ (qs : List (Array UInt8)) (a : Array UInt8), (qs.foldl (· ++ ·) a).size = qs.foldl (fun n q => n + q.size) a.size := by
        intro qs
        induction qs with
        | nil => intro a; rfl
        | cons q r ih => intro a; rw [List.foldl_cons, List.foldl_cons, ih]; simp
      have hsz' : ¬ Bytes.tooLong (Array.foldl (fun x1 x2 => x1 + x2.size) ((#[] : Array UInt8).size * (((ps.map (·.1)).toArray).size - 1)) ((ps.map (·.1)).toArray)) = true := by
        rw [KBy.tooLong_not]
        · decide
        · have := hlen (ps.map (·.1)) #[]
          unfold bcat at hsz
          rw [this] at hsz
          simpa using hsz
      rw [if_neg hsz']
      show wpAny _ _ (mkBytes _ >>= fun _ => _) _ _ _
      rw [show Bytes.joined #[] ((ps.map (·.1)).toArray.toList) = bcat ps from e1]
      refine wpAny_bind (wpAny_mkBytes ?_ (by rw [sizeLine_eq]; omega))
      refine wpAny_bind (wpAny_holding (wpAny_point ?_))
      refine wpAny_bind (joinLetGo_b ?_ _ ps)
      exact wpAny_pure ⟨_, rfl, hQ _ _⟩

end
section -- Sub2
open PySem.Builtin.Re

/-- a dot more at each row's front -/
def dotsL : Bool → List UInt8 → List UInt8
  | _, [] => []
  | p, c :: r => if p && c == 46 then 46 :: 46 :: dotsL false r else c :: dotsL (c == 10) r

theorem bcat_snoc (ps : List (Array UInt8 × Tok)) (a : Array UInt8) (t : Tok) : bcat (ps ++ [(a, t)]) = bcat ps ++ a := by simp [bcat]
theorem toNat_back (x : UInt8) : x.toNat.toUInt8 = x := by simp
theorem slice_eq (b : Array UInt8) (i j : Nat) : ((b.map (·.toNat)).extract i j).map (·.toUInt8) = b.extract i j := by
  rw [← Array.map_extract, Array.map_map]
  conv => rhs; rw [← Array.map_id (b.extract i j)]
  congr 1
  funext x; exact toNat_back x

theorem front_succ {b : Array UInt8} {i : Nat} (h : i < b.size) : front (b.map (·.toNat)) (i + 1) = (b[i] == 10) := by
  unfold front
  have e : (b.map (·.toNat)).getD (i + 1 - 1) 0 = b[i].toNat := by simp [h]
  rw [e]
  have : (i + 1 == 0) = false := by simp
  rw [this, Bool.false_or, Bool.eq_iff_iff, beq_iff_eq, beq_iff_eq]
  constructor
  · intro q; exact UInt8.toNat_inj.mp q
  · intro q; rw [q]; rfl
theorem hit1_iff {b : Array UInt8} {i : Nat} (h : i < b.size) : hit1 (b.map (·.toNat)) i ↔ (front (b.map (·.toNat)) i && b[i] == 46) = true := by
  unfold hit1
  have e : (b.map (·.toNat)).getD i 0 = b[i].toNat := by simp [h]
  rw [e, Bool.and_eq_true, beq_iff_eq, Array.size_map]
  constructor
  · rintro ⟨a, _, c⟩; exact ⟨a, UInt8.toNat_inj.mp c⟩
  · rintro ⟨a, c⟩; exact ⟨a, h, by rw [c]; rfl⟩

theorem dots_none (b : Array UInt8) : ∀ n d, b.size - d = n → (∀ j, d ≤ j → ¬ hit1 (b.map (·.toNat)) j) → dotsL (front (b.map (·.toNat)) d) (b.toList.drop d) = b.toList.drop d := by
  intro n
  induction n with
  | zero => intro d hd _; rw [List.drop_of_length_le (by simp; omega)]; rfl
  | succ n ih =>
    intro d hd hno
    have hlt : d < b.size := by omega
    rw [List.drop_eq_getElem_cons (by simpa using hlt), Array.getElem_toList, dotsL]
    have h0 := hno d (Nat.le_refl _)
    rw [hit1_iff hlt] at h0
    rw [if_neg h0, ← front_succ hlt, ih (d + 1) (by omega) fun j hj => hno j (by omega)]
theorem dots_hit (b : Array UInt8) : ∀ n d f, f - d = n → d ≤ f → f < b.size → hit1 (b.map (·.toNat)) f → (∀ j, d ≤ j → j < f → ¬ hit1 (b.map (·.toNat)) j) →
    dotsL (front (b.map (·.toNat)) d) (b.toList.drop d) = (b.extract d f).toList ++ 46 :: 46 :: dotsL (front (b.map (·.toNat)) (f + 1)) (b.toList.drop (f + 1)) := by
  intro n
  induction n with
  | zero =>
    intro d f hn hle hf hh _
    obtain rfl : d = f := by omega
    have h0 := (hit1_iff hf).mp hh
    rw [List.drop_eq_getElem_cons (by simpa using hf), Array.getElem_toList, dotsL, if_pos h0]
    rw [front_succ hf]
    have : b[d] = 46 := by simp at h0; exact h0.2
    rw [this]
    simp
  | succ n ih =>
    intro d f hn hle hf hh hno
    have hlt : d < b.size := by omega
    have h0 := hno d (Nat.le_refl _) (by omega)
    rw [hit1_iff hlt] at h0
    rw [List.drop_eq_getElem_cons (by simpa using hlt), Array.getElem_toList, dotsL, if_neg h0, ← front_succ hlt, ih (d + 1) f (by omega) (by omega) hf hh fun j hj => hno j (by omega)]
    have e : (b.extract d f).toList = b[d] :: (b.extract (d + 1) f).toList := by
      rw [Array.toList_extract, Array.toList_extract, List.extract_eq_take_drop, List.extract_eq_take_drop, List.drop_eq_getElem_cons (by simpa using hlt), Array.getElem_toList]
      rw [show f - d = (f - (d + 1)) + 1 by omega, List.take_succ_cons]
    rw [e]
    rfl

theorem cat_fits {b : Array UInt8} (hb : b.size ≤ 8000000) : ∀ p l, (dotsL p l).length ≤ 2 * l.length
  | _, [] => Nat.le_refl _
  | p, c :: r => by
    rw [dotsL]
    split
    · have := cat_fits hb false r; simp; omega
    · have := cat_fits hb (c == 10) r; simp; omega


theorem lit_b (x : Array UInt8) (t : Tok) : reLiteralCannotBeTurned (.bytes x t) = pure () := by
  unfold reLiteralCannotBeTurned
  rw [KBy.isInstance_eq]
  rfl
theorem bvals_push (ps : List (Array UInt8 × Tok)) (x : Array UInt8) (u : Tok) : (bvals ps).push (.bytes x u) = bvals (ps ++ [(x, u)]) := by simp [bvals]
theorem push_b {M : Model} {A : Around} {E : Value → Shared → Prop} {s : Shared} {Q : Unit → Shared → Prop} {pl : Addr} {ps : List (Array UInt8 × Tok)} {c : Nat} {x : Array UInt8} {u : Tok}
    (hl : s.heap.get? pl = some (listOf (bvals ps) c)) (hsz : ps.length ≤ 16000000)
    (h : ∀ h', h'.get? pl = some (listOf (bvals (ps ++ [(x, u)])) (c + 1)) → (∀ a o, a ≠ pl → s.heap.get? a = some o → h'.get? a = some o) → Q () { s with heap := h' }) :
    wpAny M A (updateSeq pl fun a => a.push (.bytes x u)) Q E s := by
  refine wpAny_updateSeq hl rfl (h _ ?_ ?_) (by simp [bvals, sizeLine_eq]; omega) 
  · rw [Heap.get?_update_self _ hl rfl]
    rw [← bvals_push]
    show some (Obj.mk _ _ (Data.seq _ (if ((bvals ps).push (Value.bytes x u)).size == (bvals ps).size then c else c + 1)) _) = _
    rw [if_neg (by simp)]
  · intro a o ha e
    exact (Heap.get?_update_other _ _ (Ne.symm ha)).trans e

set_option maxHeartbeats 400000 in
set_option pp.deepTerms.threshold 8 in
theorem sub_loop1 {w : World} {A : Around} {b : Array UInt8} {tb tr : Tok} {pl : Addr} {R : Result → Shared → Prop} (hb : b.size ≤ 8000000) (hp1 : pl ≠ 35) (hp2 : pl ≠ 36) :
    ∀ (n d : Nat) (ps : List (Array UInt8 × Tok)) (c : Nat) (k : Int) (s : Shared), b.size - d = n → d ≤ b.size → Pt1 s.heap → s.heap.get? pl = some (listOf (bvals ps) c) → 
      (bcat ps).size ≤ 2 * d → ps.length ≤ 2 * d → (ps = [] → d = 0) →
      (∀ h' tk u, (∀ a o, a ≠ pl → s.heap.get? a = some o → h'.get? a = some o) → R (.ok (.ret (.bytes ((bcat ps).toList ++ dotsL (front (b.map (·.toNat)) d) (b.toList.drop d)).toArray u))) { s with heap := h', toks := tk }) →
      codeAny (model PR w) A (.builtin "re.Pattern.sub.loop" ⟨[.ref 36, .bytes b tb, .bytes #[46, 46] tr, rawInt 0, rawInt 0, rawInt k, rawInt d, rawInt d, .bool false, .ref pl, .bool false], []⟩) R s := by
  intro n
  induction n using Nat.strongRecOn with
  | ind n ih =>
    intro d ps c k s hn hd P hl hsz hpl hps hR
    refine codeAny_builtin entry_loop ?_
    rw [Around.under_plainId plain_loop _]
    unfold Builtin.«re.Pattern.sub.loop»
    show wpAny _ _ (reWholeTarget (.ref 36) (.bytes b tb) >>= _) _ _ _
    refine wpAny_bind (whole1 P ?_)
    dsimp only
    rw [if_pos (by decide)]
    refine wpAny_bind (wpAny_of_eq (lit_b _ _) ?_)
    refine wpAny_bind ?_
    rw [if_neg (by rw [show ((0 : Int) != 0) = false from rfl, Bool.false_and]; decide)]
    unfold reNextFound
    dsimp only
    rw [Int.toNat_natCast]
    have hsz32 : (b.map (·.toNat)).size ≤ 2 ^ 32 := by rw [Array.size_map]; exact Nat.le_trans hb (by decide)
    with_reducible refine find1 (b.map (·.toNat)) d false hsz32 (fun f m' h1 h2 h3 r1 r2 => ?_) fun hno => ?_
    · have hf : f < b.size := by have := h2.2.1; simpa using this
      dsimp only
      rw [r1, r2]
      have ek : ((f + 1 == f) : Bool) = false := by simp
      rw [ek]
      have eR := dots_hit b _ d f rfl h1 hf h2 h3
      rw [eR] at hR
      by_cases hdf : d < f
      · rw [if_pos hdf]
        unfold reSlice
        rw [if_neg (by decide)]
        refine wpAny_bind (wpAny_mkBytes ?_ (by rw [sizeLine_eq]; simp; omega))
        rw [slice_eq]
        refine wpAny_bind (push_b (by exact hl) (by omega) fun h' hl' hk' => ?_)
        rw [if_pos (by decide)]
        refine wpAny_bind (wpAny_pure ?_)
        rw [if_pos (show (Value.bytes #[46, 46] tr != Value.none) = true from rfl)]
        refine wpAny_bind (push_b (by exact hl') (by simp; omega) fun h'' hl'' hk'' => ?_)
        refine wpAny_pure ⟨plainId_quiet plain_loop _, ?_⟩
        refine ih (b.size - (f + 1)) (by omega) (f + 1) _ _ _ _ rfl (by omega) ⟨hk'' _ _ (Ne.symm hp2) (hk' _ _ (Ne.symm hp2) P.pat), hk'' _ _ (Ne.symm hp1) (hk' _ _ (Ne.symm hp1) P.cod)⟩ hl'' ?_ ?_ ?_ ?_
        · rw [bcat_snoc, bcat_snoc]; simp; omega
        · simp; omega
        · intro e; simp at e
        · intro h3 tk u hk3
          have := hR h3 tk u fun a o ha e => hk3 a o ha (hk'' a o ha (hk' a o ha e))
          rw [bcat_snoc, bcat_snoc]
          simpa using this
      · have hdf' : d = f := by omega
        subst hdf'
        rw [if_neg hdf, if_pos (by decide)]
        refine wpAny_bind (wpAny_pure ?_)
        rw [if_pos (show (Value.bytes #[46, 46] tr != Value.none) = true from rfl)]
        refine wpAny_bind (push_b hl (by omega) fun h'' hl'' hk'' => ?_)
        refine wpAny_pure ⟨plainId_quiet plain_loop _, ?_⟩
        refine ih (b.size - (d + 1)) (by omega) (d + 1) _ _ _ _ rfl (by omega) ⟨hk'' _ _ (Ne.symm hp2) P.pat, hk'' _ _ (Ne.symm hp1) P.cod⟩ hl'' ?_ ?_ ?_ ?_
        · rw [bcat_snoc]; simp; omega
        · simp; omega
        · intro e; simp at e
        · intro h3 tk u hk3
          have := hR h3 tk u fun a o ha e => hk3 a o ha (hk'' a o ha e)
          rw [bcat_snoc]
          simpa using this
    · have eR := dots_none b _ d rfl hno
      rw [eR] at hR
      dsimp only
      have fin : ∀ (s' : Shared) (ps' : List (Array UInt8 × Tok)) (c' : Nat), s'.heap.get? pl = some (listOf (bvals ps') c') → (bcat ps').size ≤ 16000000 → 
          (∀ tk u, R (.ok (.ret (.bytes (bcat ps') u))) { s' with toks := tk }) →
          wpAny (model PR w) A.in1 (do
            let joiner ← reSlice (b.map (·.toNat)) 1 0 0
            let it ← seqItems? (Value.ref pl)
            if (it.getD #[]).isEmpty = true then do
                let text ← pure joiner
                if false = true then do
                    let r ← holding [text] (do newTuple [text, ← mkInt k])
                    ret r
                  else ret text
              else do
                let text ← call (Value.builtin (if ((1 : Nat) == 0) = true then "str.join" else "bytes.join")) [joiner, Value.ref pl]
                if false = true then do
                    let r ← holding [text] (do newTuple [text, ← mkInt k])
                    ret r
                  else ret text) (fun fin s' => match fin with | .done f => R (.ok f) s' | .again c' => c'.quiet = true ∧ codeAny (model PR w) A c' R s') (fun e s' => R (.error e) s') s' := by
        intro s' ps' c' hl' hz' hR'
        unfold reSlice
        rw [if_neg (by decide)]
        refine wpAny_bind (wpAny_mkBytes ?_ (by simp))
        rw [slice_eq]
        refine wpAny_bind (wpAny_seqItems hl' rfl ?_)
        by_cases he : ps' = []
        · subst he
          rw [if_pos (show ((some (bvals [])).getD #[]).isEmpty = true from rfl)]
          refine wpAny_bind (wpAny_pure ?_)
          rw [if_neg (by decide)]
          have := hR' (s'.toks + 1) s'.toks
          exact wpAny_pure (by simpa [bcat] using this)
        · rw [if_neg (by simpa [bvals] using he)]
          refine wpAny_bind ?_
          rw [if_neg (by decide)]
          rw [show b.extract 0 0 = #[] by simp]
          refine join_b ps' hl' (by omega) fun u tk => ?_
          rw [if_neg (by decide)]
          exact wpAny_pure (hR' tk u)
      by_cases hdl : d < b.size
      · rw [if_pos (by simpa using hdl)]
        unfold reSlice
        rw [if_neg (by decide)]
        refine wpAny_bind (wpAny_mkBytes ?_ (by rw [sizeLine_eq]; simp; omega))
        rw [slice_eq]
        refine wpAny_bind (push_b (by exact hl) (by omega) fun h' hl' hk' => ?_)
        refine fin _ _ _ hl' (by rw [bcat_snoc]; simp; omega) fun tk u => ?_
        have := hR h' tk u hk'
        rw [bcat_snoc]
        have e : (bcat ps ++ b.extract d (b.map (·.toNat)).size) = ((bcat ps).toList ++ b.toList.drop d).toArray := by
          apply Array.toList_inj.mp
          simp [List.extract_eq_take_drop]
          exact List.take_of_length_le (by simp)
        rw [e]
        exact this
      · rw [if_neg (by simpa using hdl)]
        refine fin s ps c hl (by omega) fun tk u => ?_
        have := hR s.heap tk u fun _ _ _ e => e
        rw [List.drop_of_length_le (by simp; omega)] at this
        simpa using this

end
section -- Qp
open PySem.Builtin.Re

theorem no_call_bytes : typeLookup (.type "bytes") "__call__" = pure none := by rw [typeLookup_type, builtinLookup_eq_fast]; kernel_rfl
theorem named_sub (r s : Value) : reNamed "re.Pattern.sub" "sub" ["repl", "string", "count"] 2 [r, s] [] = pure [some r, some s, none] := by rfl

theorem Pt1.of {w : World} {h : Heap} (G : Gd w h) : Pt1 h := ⟨G.k _ _ rfl, G.k _ _ rfl⟩

set_option maxHeartbeats 1000000 in
set_option pp.deepTerms.threshold 8 in
theorem call_sub1 {w : World} {A : Around} {s : Shared} {b : Array UInt8} {tb tr : Tok} (P : Pt1 s.heap) (hb : b.size ≤ 8000000) :
    Pw w A (call (.builtin "re.Pattern.sub") [.ref 36, .bytes #[46, 46] tr, .bytes b tb]) (fun v _ => ∃ t, v = .bytes (dotsL true b.toList).toArray t) s := by
  have hT : s.TypeIs (.ref 36) "re.Pattern" := ⟨_, P.pat, rfl⟩
  refine wpAny_call (codeAny_call_builtin slot_sub.plain entry_sub (slot_sub.check _ _ _ _ _ _ _ _ hT (args_sub _ _ _) ?_))
  unfold Builtin.«re.Pattern.sub» reSubstitute
  dsimp only
  refine wpAny_bind (wpAny_of_eq (named_sub _ _) ?_)
  dsimp only
  refine wpAny_bind (wpAny_pure ?_)
  refine wpAny_bind (wpAny_of_eq (KBy.special_eq no_call_bytes) ?_)
  rw [if_neg (by decide)]
  refine wpAny_bind (wpAny_of_eq (show asStr? (.bytes #[46, 46] tr) = pure none from rfl) ?_)
  dsimp only
  refine wpAny_bind (wpAny_of_eq KBy.quiet_eq ?_)
  dsimp only
  refine wpAny_bind (wpAny_pure ?_)
  rw [if_neg (by decide), if_pos (by decide +kernel)]
  refine wpAny_bind (wpAny_pure ?_)
  dsimp only
  refine wpAny_bind (wpAny_holding (whole1 P ?_))
  rw [if_neg (by decide)]
  unfold newList
  refine wpAny_bind (wpAny_newObj_type ?_)
  refine wpAny_pure ⟨plainId_quiet plain_loop _, ?_⟩
  have l35 : s.heap.objs.size ≠ 35 := fun e => absurd (Heap.lt_size P.cod) (by rw [e]; exact Nat.lt_irrefl _)
  have l36 : s.heap.objs.size ≠ 36 := fun e => absurd (Heap.lt_size P.pat) (by rw [e]; exact Nat.lt_irrefl _)
  refine sub_loop1 hb l35 l36 _ 0 [] 0 0 _ rfl (Nat.zero_le _) ⟨Heap.get?_push_of_some _ P.pat, Heap.get?_push_of_some _ P.cod⟩ (Heap.get?_push_size _ rfl) (by simp [bcat]) (by simp) (fun _ => rfl) fun h' tk u hk => ?_
  refine ⟨⟨u, ?_⟩, h', tk, rfl, fun a o e => hk a o (fun q => absurd (Heap.lt_size e) (by rw [q]; exact Nat.lt_irrefl _)) (Heap.get?_push_of_some _ e)⟩
  rw [show (bcat []).toList = [] by simp [bcat], List.nil_append, List.drop_zero]
  rfl

theorem get_sub {M : Model} {A : Around} {E : Value → Shared → Prop} {s : Shared} {pl : Sem Bool} {Q : Value × List Value → Shared → Prop} {a : Addr} {vs : Array Value} (hp : s.heap.get? a = some { cls := .type "re.Pattern", data := .fields vs })
    (h : Q (.builtin "re.Pattern.sub", [.ref a]) s) : wpAny M A (getMethod (.ref a) "sub" pl) Q E s :=
  getMethod_builtin ⟨_, hp, rfl⟩ attrs_pat slot_sub type_sub (fun a' e => by cases e; exact ⟨_, hp, rfl⟩) h

set_option maxHeartbeats 1000000 in
set_option pp.deepTerms.threshold 8 in
theorem c_quote_periods (w : World) {A : Around} {s : Shared} (G : Gd w s.heap) (Rm : Room A 2) {b : Array UInt8} (t : Tok) (hb : b.size ≤ 8000000) :
    Pw w A (call (.ref 48) [.bytes b t]) (fun v _ => ∃ t', v = .bytes (dotsL true b.toList).toArray t') s := by
  walk_at "fill"
  obtain ⟨p, loose, mean, mg, mb, T⟩ := G.t
  refine call_pure (binds := [(Str.ofString "bindata", .bytes b t)]) G.k T.nolimit Rm.lim (by k_is) (by k_is) (BindsTo.of_eq rfl) (locs rfl) rfl rfl rfl (by decide) ?_
  intro L h₁ tk _ F
  have N : News s.heap L h₁ [] := News.nil
  walk_at "run"
  refine MethodCall_ ?_
  walk_at "gl"
  refine get_sub (F.keep _ _ (Pt1.of G).pat) ?_
  refine callWith_method1 ?_
  walk_at "run"
  refine use (call_sub1 ⟨F.keep _ _ (Pt1.of G).pat, F.keep _ _ (Pt1.of G).cod⟩ hb) fun v h' tk' hv hk => ?_
  exact ⟨hv, _, _, _, rfl, F.keeps hk⟩

end
section -- Sub3
open PySem.Builtin.Re

/-- each end of a row made even: a return and a feed -/
def eolsF : Bool → List Nat → List Nat
  | _, [] => []
  | sk, c :: r => if c = 10 then (if sk then eolsF false r else 13 :: 10 :: eolsF false r) else if c = 13 then 13 :: 10 :: eolsF true r else c :: eolsF false r

theorem eols_len : ∀ p l, (eolsF p l).length ≤ 2 * l.length
  | _, [] => Nat.le_refl _
  | p, c :: r => by
    have h1 := eols_len false r
    have h2 := eols_len true r
    rw [eolsF]
    split
    · split <;> simp <;> omega
    · split <;> simp <;> omega

abbrev pat2 : Obj := { cls := .type "re.Pattern", data := .fields #[.str (Str.ofString "(?:\\r\\n|\\n|\\r(?!\\n))") 301, .int 32 340, .int 0 0, .none, .none, .ref 40, .int 0 0] }
abbrev its2 : Array Value := #[.int 14 0, .int 9 0, .int 4 0, .int 1 0, .int 2 0, .int 16 0, .int 10 0, .int 16 0, .int 13 0, .int 0 0, .int 7 0, .int 7 0, .int 16 0, .int 13 0, .int 16 0, .int 10 0, .int 15 0, .int 18 0, .int 5 0, .int 16 0, .int 10 0, .int 15 0, .int 13 0, .int 11 0, .int 16 0, .int 13 0, .int 5 0, .int 5 0, .int 0 0, .int 16 0, .int 10 0, .int 1 0, .int 15 0, .int 2 0, .int 0 0, .int 1 0]
abbrev cod2 : Obj := { cls := .type "tuple", data := .seq its2 }
structure Pt2 (h : Heap) : Prop where
  pat : h.get? 41 = some pat2
  cod : h.get? 40 = some cod2

theorem whole2 {w : World} {A : Around} {E : Value → Shared → Prop} {s : Shared} {Q : ReTarget → Shared → Prop} {x : Str} {t : Tok} (P : Pt2 s.heap)
    (hQ : Q ⟨.ref 41, .str x t, code2, x.cps, 0, 0, 0, x.cps.size⟩ s) : wpAny (model PR w) A (reWholeTarget (.ref 41) (.str x t)) Q E s := by
  unfold reWholeTarget
  refine wpAny_bind ?_
  unfold fieldsOf
  refine wpAny_bind (wpAny_load P.pat (wpAny_pure ?_))
  refine wpAny_bind ?_
  unfold reTextOf
  refine wpAny_bind (wpAny_of_eq (show asStr? (.str x t) = pure (some x) from rfl) (wpAny_pure ?_))
  refine wpAny_bind (wpAny_pure ?_)
  refine wpAny_bind ?_
  unfold reRawItems
  refine wpAny_bind ?_
  unfold seqItems?
  refine wpAny_bind (wpAny_load P.cod (wpAny_pure (wpAny_pure (wpAny_pure ?_))))
  have e : Array.map (fun x : Int => x.toNat) (Array.map reRawOf ((some its2).getD #[])) = code2 := by decide +kernel
  rw [e]
  exact hQ

abbrev svals (ps : List (Str × Tok)) : Array Value := (strValues ps).toArray
def scat (ps : List (Str × Tok)) : List Nat := (ps.map (·.1.cps.toList)).flatten
theorem scat_snoc (ps : List (Str × Tok)) (a : Str) (t : Tok) : scat (ps ++ [(a, t)]) = scat ps ++ a.cps.toList := by simp [scat]

theorem glue_nil (l : List (Str × Tok)) : Txt.join ⟨#[]⟩ (l.map (·.1)) = ⟨(scat l).toArray⟩ := by
  show Builtin.Str.glued _ _ = _
  rw [StrLaws.glued_eq_join]
  induction l with
  | nil => rfl
  | cons p r ih =>
    cases r with
    | nil => simp [Str.join, scat]
    | cons q r =>
      rw [List.map_cons, List.map_cons, Str.join, ← List.map_cons, ih]
      · apply Str.ext'
        rw [Str.cps_append, Str.cps_append]
        apply Array.toList_inj.mp
        simp [scat]
      · intro h; simp at h

theorem eols_none (tx : Array Nat) : ∀ n d, tx.size - d = n → (∀ j, d ≤ j → ¬ hit2 tx j) → eolsF false (tx.toList.drop d) = tx.toList.drop d := by
  intro n
  induction n with
  | zero => intro d hd _; rw [List.drop_of_length_le (by simp; omega)]; rfl
  | succ n ih =>
    intro d hd hno
    have hlt : d < tx.size := by omega
    have h0 := hno d (Nat.le_refl _)
    have e : tx.getD d 0 = tx[d] := by simp [hlt]
    unfold hit2 at h0
    rw [e] at h0
    rw [List.drop_eq_getElem_cons (by simpa using hlt), Array.getElem_toList, eolsF, if_neg (fun q => h0 ⟨hlt, .inl q⟩), if_neg (fun q => h0 ⟨hlt, .inr q⟩), ih (d + 1) (by omega) fun j hj => hno j (by omega)]

theorem eols_skip {l : List Nat} (h : l.head? ≠ some 10) : eolsF true l = eolsF false l := by
  cases l with
  | nil => rfl
  | cons c r =>
    have : c ≠ 10 := fun e => h (by rw [e]; rfl)
    rw [eolsF, eolsF, if_neg this, if_neg this]

theorem eols_hit (tx : Array Nat) : ∀ n d f, f - d = n → d ≤ f → hit2 tx f → (∀ j, d ≤ j → j < f → ¬ hit2 tx j) →
    eolsF false (tx.toList.drop d) = (tx.extract d f).toList ++ 13 :: 10 :: eolsF false (tx.toList.drop (endOf tx f)) := by
  intro n
  induction n with
  | zero =>
    intro d f hn hle hh _
    obtain rfl : d = f := by omega
    obtain ⟨hf, hc⟩ := hh
    have e : tx.getD d 0 = tx[d] := by simp [hf]
    rw [List.drop_eq_getElem_cons (by simpa using hf), Array.getElem_toList]
    rw [e] at hc
    unfold endOf
    rw [e]
    rcases hc with hc | hc
    · rw [eolsF, if_pos hc, if_neg (by decide), if_neg (by rw [hc]; omega)]
      simp
    · rw [eolsF, if_neg (by rw [hc]; decide), if_pos hc]
      by_cases h2 : d + 1 < tx.size ∧ tx.getD (d + 1) 0 = 10
      · rw [if_pos ⟨hc, h2⟩]
        have e2 : tx.getD (d + 1) 0 = tx[d + 1]'h2.1 := by simp [h2.1]
        rw [e2] at h2
        rw [List.drop_eq_getElem_cons (by simpa using h2.1), Array.getElem_toList, eolsF, if_pos h2.2, if_pos rfl]
        simp
      · rw [if_neg (fun q => h2 q.2), eols_skip]
        · simp
        · rw [List.head?_drop]
          intro q
          rw [Array.getElem?_toList] at q
          obtain ⟨q1, q2⟩ := Array.getElem?_eq_some_iff.mp q
          exact h2 ⟨q1, by simp [q1, q2]⟩
  | succ n ih =>
    intro d f hn hle hh hno
    have hlt : d < tx.size := by have := hh.1; omega
    have h0 := hno d (Nat.le_refl _) (by omega)
    have e0 : tx.getD d 0 = tx[d] := by simp [hlt]
    unfold hit2 at h0
    rw [e0] at h0
    rw [List.drop_eq_getElem_cons (by simpa using hlt), Array.getElem_toList, eolsF, if_neg (fun q => h0 ⟨hlt, .inl q⟩), if_neg (fun q => h0 ⟨hlt, .inr q⟩), ih (d + 1) f (by omega) (by omega) hh fun j hj => hno j (by omega)]
    have e : (tx.extract d f).toList = tx[d] :: (tx.extract (d + 1) f).toList := by
      rw [Array.toList_extract, Array.toList_extract, List.extract_eq_take_drop, List.extract_eq_take_drop, List.drop_eq_getElem_cons (by simpa using hlt), Array.getElem_toList]
      rw [show f - d = (f - (d + 1)) + 1 by omega, List.take_succ_cons]
    rw [e]
    rfl

end
section -- Sub4
open PySem.Builtin.Re

theorem lit_s (x : Str) (t : Tok) : reLiteralCannotBeTurned (.str x t) = pure () := rfl
theorem svals_push (ps : List (Str × Tok)) (x : Str) (u : Tok) : (svals ps).push (.str x u) = svals (ps ++ [(x, u)]) := by simp [svals, strValues]
theorem svals_size (ps : List (Str × Tok)) : (svals ps).size = ps.length := by simp [svals, strValues]
theorem push_s {M : Model} {A : Around} {E : Value → Shared → Prop} {s : Shared} {Q : Unit → Shared → Prop} {pl : Addr} {ps : List (Str × Tok)} {c : Nat} {x : Str} {u : Tok}
    (hl : s.heap.get? pl = some (listOf (svals ps) c)) (hsz : ps.length ≤ 16000000)
    (h : ∀ h', h'.get? pl = some (listOf (svals (ps ++ [(x, u)])) (c + 1)) → (∀ a o, a ≠ pl → s.heap.get? a = some o → h'.get? a = some o) → Q () { s with heap := h' }) :
    wpAny M A (updateSeq pl fun a => a.push (.str x u)) Q E s := by
  refine wpAny_updateSeq hl rfl (h _ ?_ ?_) (by rw [svals_size, sizeLine_eq]; omega) (by rw [Array.size_push, svals_size, sizeLine_eq]; omega)
  · rw [Heap.get?_update_self _ hl rfl]
    rw [← svals_push]
    show some (Obj.mk _ _ (Data.seq _ (if ((svals ps).push (Value.str x u)).size == (svals ps).size then c else c + 1)) _) = _
    rw [if_neg (by simp)]
  · intro a o ha e
    exact (Heap.get?_update_other _ _ (Ne.symm ha)).trans e

abbrev crlf : Str := ⟨#[13, 10]⟩
theorem endOf_gt (tx : Array Nat) (f : Nat) : f < endOf tx f := by unfold endOf; split <;> omega
theorem endOf_le {tx : Array Nat} {f : Nat} (h : f < tx.size) : endOf tx f ≤ tx.size := by
  unfold endOf
  by_cases q : tx.getD f 0 = 13 ∧ f + 1 < tx.size ∧ tx.getD (f + 1) 0 = 10
  · rw [if_pos q]; omega
  · rw [if_neg q]; omega

theorem join_ok {l : List (Str × Tok)} (h : (scat l).length ≤ 16000000) : JoinOk ⟨#[]⟩ (l.map (·.1)) = true := by
  unfold JoinOk Builtin.Str.tooLong
  rw [StrLaws.joinTotal]
  have e : ((l.map (·.1)).map (·.length)).sum = (scat l).length := by
    unfold scat
    rw [List.length_flatten, List.map_map, List.map_map]
    congr 1
  rw [e]
  have : (⟨#[]⟩ : Str).length = 0 := rfl
  rw [this, sizeLine_eq, Nat.mul_zero]
  simp
  omega

set_option maxHeartbeats 400000 in
set_option pp.deepTerms.threshold 8 in
theorem sub_loop2 {w : World} {A : Around} {x : Str} {tb tr : Tok} {pl : Addr} {R : Result → Shared → Prop} (hb : x.cps.size ≤ 8000000) (hp1 : pl ≠ 40) (hp2 : pl ≠ 41) :
    ∀ (n d : Nat) (ps : List (Str × Tok)) (c : Nat) (k : Int) (s : Shared), x.cps.size - d = n → d ≤ x.cps.size → Pt2 s.heap → s.heap.get? pl = some (listOf (svals ps) c) → 
      (scat ps).length ≤ 2 * d → ps.length ≤ 2 * d →
      (∀ h' tk u, (∀ a o, a ≠ pl → s.heap.get? a = some o → h'.get? a = some o) → R (.ok (.ret (.str ⟨(scat ps ++ eolsF false (x.cps.toList.drop d)).toArray⟩ u))) { s with heap := h', toks := tk }) →
      codeAny (model PR w) A (.builtin "re.Pattern.sub.loop" ⟨[.ref 41, .str x tb, .str crlf tr, rawInt 0, rawInt 0, rawInt k, rawInt d, rawInt d, .bool false, .ref pl, .bool false], []⟩) R s := by
  intro n
  induction n using Nat.strongRecOn with
  | ind n ih =>
    intro d ps c k s hn hd P hl hsz hpl hR
    refine codeAny_builtin entry_loop ?_
    rw [Around.under_plainId plain_loop _]
    unfold Builtin.«re.Pattern.sub.loop»
    show wpAny _ _ (reWholeTarget (.ref 41) (.str x tb) >>= _) _ _ _
    refine wpAny_bind (whole2 P ?_)
    dsimp only
    rw [if_pos (by decide)]
    refine wpAny_bind (wpAny_of_eq (lit_s _ _) ?_)
    refine wpAny_bind ?_
    rw [if_neg (by rw [show ((0 : Int) != 0) = false from rfl, Bool.false_and]; decide)]
    unfold reNextFound
    dsimp only
    rw [Int.toNat_natCast]
    with_reducible refine find2 x.cps d false (fun f m' h1 h2 h3 r1 r2 => ?_) fun hno => ?_
    · have hf : f < x.cps.size := h2.1
      have hg := endOf_gt x.cps f
      have hle := endOf_le hf
      dsimp only
      rw [r1, r2]
      have ek : ((endOf x.cps f == f) : Bool) = false := beq_eq_false_iff_ne.mpr (by omega)
      rw [ek]
      have eR := eols_hit x.cps _ d f rfl h1 h2 h3
      rw [eR] at hR
      by_cases hdf : d < f
      · rw [if_pos hdf]
        unfold reSlice
        rw [if_pos (by decide)]
        refine wpAny_bind (wpAny_mkStr ?_ (by rw [sizeLine_eq]; simp [Str.length]; omega))
        refine wpAny_bind (push_s (by exact hl) (by omega) fun h' hl' hk' => ?_)
        rw [if_pos (by decide)]
        refine wpAny_bind (wpAny_pure ?_)
        rw [if_pos (show (Value.str crlf tr != Value.none) = true from rfl)]
        refine wpAny_bind (push_s (by exact hl') (by simp; omega) fun h'' hl'' hk'' => ?_)
        refine wpAny_pure ⟨plainId_quiet plain_loop _, ?_⟩
        refine ih (x.cps.size - endOf x.cps f) (by omega) (endOf x.cps f) _ _ _ _ rfl hle ⟨hk'' _ _ (Ne.symm hp2) (hk' _ _ (Ne.symm hp2) P.pat), hk'' _ _ (Ne.symm hp1) (hk' _ _ (Ne.symm hp1) P.cod)⟩ hl'' ?_ ?_ ?_
        · rw [scat_snoc, scat_snoc]; simp; omega
        · simp; omega
        · intro h3 tk u hk3
          have := hR h3 tk u fun a o ha e => hk3 a o ha (hk'' a o ha (hk' a o ha e))
          rw [scat_snoc, scat_snoc]
          simpa using this
      · have hdf' : d = f := by omega
        subst hdf'
        rw [if_neg hdf, if_pos (by decide)]
        refine wpAny_bind (wpAny_pure ?_)
        rw [if_pos (show (Value.str crlf tr != Value.none) = true from rfl)]
        refine wpAny_bind (push_s hl (by omega) fun h'' hl'' hk'' => ?_)
        refine wpAny_pure ⟨plainId_quiet plain_loop _, ?_⟩
        refine ih (x.cps.size - endOf x.cps d) (by omega) (endOf x.cps d) _ _ _ _ rfl hle ⟨hk'' _ _ (Ne.symm hp2) P.pat, hk'' _ _ (Ne.symm hp1) P.cod⟩ hl'' ?_ ?_ ?_
        · rw [scat_snoc]; simp; omega
        · simp; omega
        · intro h3 tk u hk3
          have := hR h3 tk u fun a o ha e => hk3 a o ha (hk'' a o ha e)
          rw [scat_snoc]
          simpa using this
    · have eR := eols_none x.cps _ d rfl hno
      rw [eR] at hR
      dsimp only
      have fin : ∀ (s' : Shared) (ps' : List (Str × Tok)) (c' : Nat), s'.heap.get? pl = some (listOf (svals ps') c') → (scat ps').length ≤ 16000000 → 
          (∀ tk u, R (.ok (.ret (.str ⟨(scat ps').toArray⟩ u))) { s' with toks := tk }) →
          wpAny (model PR w) A.in1 (do
            let joiner ← reSlice x.cps 0 0 0
            let it ← seqItems? (Value.ref pl)
            if (it.getD #[]).isEmpty = true then do
                let text ← pure joiner
                if false = true then do
                    let r ← holding [text] (do newTuple [text, ← mkInt k])
                    ret r
                  else ret text
              else do
                let text ← call (Value.builtin (if ((0 : Nat) == 0) = true then "str.join" else "bytes.join")) [joiner, Value.ref pl]
                if false = true then do
                    let r ← holding [text] (do newTuple [text, ← mkInt k])
                    ret r
                  else ret text) (fun fin s' => match fin with | .done f => R (.ok f) s' | .again c' => c'.quiet = true ∧ codeAny (model PR w) A c' R s') (fun e s' => R (.error e) s') s' := by
        intro s' ps' c' hl' hz' hR'
        unfold reSlice
        rw [if_pos (by decide)]
        refine wpAny_bind (wpAny_mkStr ?_ (by simp [Str.length]))
        refine wpAny_bind (wpAny_seqItems hl' rfl ?_)
        rw [show x.cps.extract 0 0 = #[] by simp]
        by_cases he : ps' = []
        · subst he
          rw [if_pos (show ((some (svals [])).getD #[]).isEmpty = true from rfl)]
          refine wpAny_bind (wpAny_pure ?_)
          rw [if_neg (by decide)]
          have := hR' (s'.toks + 1) s'.toks
          exact wpAny_pure (by simpa [scat] using this)
        · rw [if_neg (by simpa [svals, strValues] using he)]
          refine wpAny_bind ?_
          rw [if_pos (by decide)]
          refine SC.join (l := ps') ⟨_, hl', rfl, _, rfl⟩ rfl (join_ok hz') fun u tk => ?_
          rw [if_neg (by decide), glue_nil]
          exact wpAny_pure (hR' tk u)
      by_cases hdl : d < x.cps.size
      · rw [if_pos hdl]
        unfold reSlice
        rw [if_pos (by decide)]
        refine wpAny_bind (wpAny_mkStr ?_ (by rw [sizeLine_eq]; simp [Str.length]; omega))
        refine wpAny_bind (push_s (by exact hl) (by omega) fun h' hl' hk' => ?_)
        refine fin _ _ _ hl' (by rw [scat_snoc]; simp; omega) fun tk u => ?_
        have := hR h' tk u hk'
        rw [scat_snoc]
        have e : (scat ps ++ (x.cps.extract d x.cps.size).toList) = (scat ps ++ x.cps.toList.drop d) := by
          simp [List.extract_eq_take_drop]
          exact List.take_of_length_le (by simp)
        rw [e]
        exact this
      · rw [if_neg hdl]
        refine fin s ps c hl (by omega) fun tk u => ?_
        have := hR s.heap tk u fun _ _ _ e => e
        rw [List.drop_of_length_le (by simp; omega)] at this
        simpa [eolsF] using this

end
section -- Fe
open PySem.Builtin.Re

theorem no_call_str : typeLookup (.type "str") "__call__" = pure none := by rw [typeLookup_type, builtinLookup_eq_fast]; kernel_rfl
theorem special_str {x : Str} {t : Tok} {name : Str} {r : Option Value} (h : typeLookup (.type "str") name = pure r) : specialOf (.str x t) name = pure r := by
  have e : specialOf (.str x t) name = typeLookup (.type "str") name := rfl
  rw [e, h]
theorem Pt2.of {w : World} {h : Heap} (G : Gd w h) : Pt2 h := ⟨G.k _ _ rfl, G.k _ _ rfl⟩

set_option maxHeartbeats 1000000 in
set_option pp.deepTerms.threshold 8 in
theorem call_sub2 {w : World} {A : Around} {s : Shared} {x : Str} {tb tr : Tok} (P : Pt2 s.heap) (hb : x.cps.size ≤ 8000000) :
    Pw w A (call (.builtin "re.Pattern.sub") [.ref 41, .str crlf tr, .str x tb]) (fun v _ => ∃ t, v = .str ⟨(eolsF false x.cps.toList).toArray⟩ t) s := by
  have hT : s.TypeIs (.ref 41) "re.Pattern" := ⟨_, P.pat, rfl⟩
  refine wpAny_call (codeAny_call_builtin slot_sub.plain entry_sub (slot_sub.check _ _ _ _ _ _ _ _ hT (args_sub _ _ _) ?_))
  unfold Builtin.«re.Pattern.sub» reSubstitute
  dsimp only
  refine wpAny_bind (wpAny_of_eq (named_sub _ _) ?_)
  dsimp only
  refine wpAny_bind (wpAny_pure ?_)
  refine wpAny_bind (wpAny_of_eq (special_str no_call_str) ?_)
  rw [if_neg (by decide)]
  refine wpAny_bind (wpAny_of_eq (show asStr? (.str crlf tr) = pure (some crlf) from rfl) ?_)
  dsimp only
  refine wpAny_bind (wpAny_pure ?_)
  rw [if_neg (by decide), if_pos (by decide +kernel)]
  refine wpAny_bind (wpAny_pure ?_)
  dsimp only
  refine wpAny_bind (wpAny_holding (whole2 P ?_))
  rw [if_neg (by decide)]
  unfold newList
  refine wpAny_bind (wpAny_newObj_type ?_)
  refine wpAny_pure ⟨plainId_quiet plain_loop _, ?_⟩
  have l35 : s.heap.objs.size ≠ 40 := fun e => absurd (Heap.lt_size P.cod) (by rw [e]; exact Nat.lt_irrefl _)
  have l36 : s.heap.objs.size ≠ 41 := fun e => absurd (Heap.lt_size P.pat) (by rw [e]; exact Nat.lt_irrefl _)
  refine sub_loop2 hb l35 l36 _ 0 [] 0 0 _ rfl (Nat.zero_le _) ⟨Heap.get?_push_of_some _ P.pat, Heap.get?_push_of_some _ P.cod⟩ (Heap.get?_push_size _ rfl) (by simp [scat]) (by simp) fun h' tk u hk => ?_
  refine ⟨⟨u, ?_⟩, h', tk, rfl, fun a o e => hk a o (fun q => absurd (Heap.lt_size e) (by rw [q]; exact Nat.lt_irrefl _)) (Heap.get?_push_of_some _ e)⟩
  rw [show scat [] = [] by simp [scat], List.nil_append, List.drop_zero]

theorem crlf_is : Str.ofString "\r\n" = crlf := by decide +kernel

set_option maxHeartbeats 1000000 in
set_option pp.deepTerms.threshold 8 in
theorem c_fix_eols (w : World) {A : Around} {s : Shared} (G : Gd w s.heap) (Rm : Room A 2) {x : Str} (t : Tok) (hb : x.cps.size ≤ 8000000) :
    Pw w A (call (.ref 55) [.str x t]) (fun v _ => ∃ t', v = .str ⟨(eolsF false x.cps.toList).toArray⟩ t') s := by
  walk_at "fill"
  obtain ⟨p, loose, mean, mg, mb, T⟩ := G.t
  refine call_pure (binds := [(Str.ofString "data", .str x t)]) G.k T.nolimit Rm.lim (by k_is) (by k_is) (BindsTo.of_eq rfl) (locs rfl) rfl rfl rfl (by decide) ?_
  intro L h₁ tk _ F
  have N : News s.heap L h₁ [] := News.nil
  walk_at "run"
  refine MethodCall_ ?_
  walk_at "gl"
  refine get_sub (F.keep _ _ (Pt2.of G).pat) ?_
  refine callWith_method1 ?_
  walk_at "run"
  walk_at "gl"
  walk_at "run"
  rw [crlf_is]
  refine use (call_sub2 ⟨F.keep _ _ (Pt2.of G).pat, F.keep _ _ (Pt2.of G).cod⟩ hb) fun v h' tk' hv hk => ?_
  exact ⟨hv, _, _, _, rfl, F.keeps hk⟩

end
section -- Cp

section
variable {w : World} {A : Around} {E : Value → Shared → Prop} {h : Heap} {gn : Array GenState} {dr : Drawn} {tk : Nat} {os : OsState} {Q : Value → Shared → Prop} {env : Env} {pos : Pos} {m : Str → Option Value} {z : Str} {v : Value} {c L : Addr}

theorem x_loc (hL : env.locals = L) (hn : h.Ns L m) (hv : m z = some v) (hQ : Q v ⟨h, gn, dr, tk, os⟩) (hk : env.scope.kind = .function) (hx : env.kindOf z = some .local) (hd : (z == ("__debug__" : Str)) = false) :
    wpAny (model PR w) A (eval (.Name z pos) env) Q E ⟨h, gn, dr, tk, os⟩ := by subst hL; exact wpAny_Name (wpAny_loadName_local hk hx hn hv hQ) hd
theorem x_cell (hc : env.cells.lookup z = some c) (hv : h.IsCell c (some v)) (hQ : Q v ⟨h, gn, dr, tk, os⟩) (hk : env.scope.kind = .function) (hx : env.kindOf z = some .cell) (hd : (z == ("__debug__" : Str)) = false) :
    wpAny (model PR w) A (eval (.Name z pos) env) Q E ⟨h, gn, dr, tk, os⟩ := wpAny_Name (wpAny_loadName_cell hk hx hc hv hQ) hd
theorem x_ref (G : Gd w h) (e : nsIn (hd.heap_39 w.params) mainGlobals z = some (some v)) (hQ : Q v ⟨h, gn, dr, tk, os⟩) (hg : env.globals = mainGlobals) (hk : env.scope.kind = .function) (hx : env.kindOf z = some .globalImplicit) (hd : (z == ("__debug__" : Str)) = false) :
    wpAny (model PR w) A (eval (.Name z pos) env) Q E ⟨h, gn, dr, tk, os⟩ := by
  obtain ⟨X, p, loose, mean, mg, mb, T⟩ := G
  exact PySem.Calls.Name_function_global hk hx (PySem.Calls.loadGlobal_global (by rw [hg]; exact T.g) (mg_of X T.g e) hQ) hd
theorem x_bi (G : Gd w h) (e : nsIn (hd.heap_39 w.params) mainGlobals z = some none) (hv : bootBuiltins z = some v) (hn : z ≠ "__name__") (hQ : Q v ⟨h, gn, dr, tk, os⟩) (hg : env.globals = mainGlobals) (hb : env.builtins = builtinsNs)
    (hk : env.scope.kind = .function) (hx : env.kindOf z = some .globalImplicit) (hd : (z == ("__debug__" : Str)) = false) :
    wpAny (model PR w) A (eval (.Name z pos) env) Q E ⟨h, gn, dr, tk, os⟩ := by
  obtain ⟨X, p, loose, mean, mg, mb, T⟩ := G
  exact PySem.Calls.Name_function_global hk hx (PySem.Calls.loadGlobal_builtin (by rw [hg]; exact T.g) (mg_none_of X T.g e) (by rw [hb]; exact T.b) ((T.builtins z hn).trans hv) hQ) hd
end

theorem paired_map {α β γ : Type} {F : α → β → Prop} {R : γ → α → Prop} {G : γ → β → Prop} {p : α → Bool} {q : γ → Bool} (hp : ∀ c a, R c a → p a = q c) (hF : ∀ c a b, R c a → F a b → G c b) :
    ∀ {cs : List γ} {as : List α} {bs : List β}, Paired R cs as → Paired F (as.filter p) bs → Paired G (cs.filter q) bs
  | _, _, _, .nil, h => by cases h; exact .nil
  | c :: cs, a :: as, bs, .cons hr hrs, h => by
    rw [List.filter_cons] at h ⊢
    rw [hp c a hr] at h
    cases hq : q c with
    | true =>
      rw [hq] at h
      simp only [if_true] at h ⊢
      cases h with
      | cons h1 h2 => exact .cons (hF c a _ hr h1) (paired_map hp hF hrs h2)
    | false =>
      rw [hq] at h
      simp only [Bool.false_eq_true, if_false] at h ⊢
      exact paired_map hp hF hrs h
theorem paired_of_get {α β : Type} {R : α → β → Prop} : ∀ {as : List α} {bs : List β}, as.length = bs.length → (∀ (i : Nat) a b, as[i]? = some a → bs[i]? = some b → R a b) → Paired R as bs
  | [], [], _, _ => .nil
  | [], _ :: _, h, _ => by simp at h
  | _ :: _, [], h, _ => by simp at h
  | a :: as, b :: bs, h, hr => .cons (hr 0 a b rfl rfl) (paired_of_get (by simpa using h) fun i x y hx hy => hr (i + 1) x y (by simpa using hx) (by simpa using hy))

/-- what a comprehension's source hands on -/
abbrev LcAt (w : World) (A : Around) (env : Env) (scope : Scope) (cl : List (Str × Addr)) (x : Str) (ifs : List Expr) (elt : Expr) (p : Value → Bool) (F : Value → Value → Prop) (Q : Value → Shared → Prop) (it : Value) (s₂ : Shared) : Prop :=
  ∃ I fp wr n P St, it = .ref I ∧ Walks PR w A I fp wr n P St ∧ n ≤ sizeLine ∧ St 0 s₂.heap ∧ (∀ b ∈ fp, b < s₂.heap.objs.size) ∧
      QuietOnC PR w A env scope cl x ifs elt wr P p F s₂ ∧
      (∀ D h' tk ys (vs : List Value), s₂.heap.get? D = none → h'.IsList D ys → h'.PlainList D ys → vs.length = n → (∀ j v, vs[j]? = some v → P j v) → Paired F (vs.filter p) ys.toList →
        (∀ b o, b ∉ wr → s₂.heap.get? b = some o → h'.get? b = some o) → Q (.ref D) { s₂ with heap := h', toks := tk })

section
variable {w : World} {A : Around} {E : Value → Shared → Prop} {H : Heap} {gn : Array GenState} {dr : Drawn} {tk₀ : Nat} {os : OsState} {env : Env} {Q : Value → Shared → Prop} {scope : Scope} {cl : List (Str × Addr)} {x : Str} {ifs : List Expr} {elt : Expr}

open Classical in
/-- over any source: items with a reading, a test, a word for the element -/
theorem lcG {α : Type} {items : List α} {dec : α → Value → Prop} (inj : ∀ a b v, dec a v → dec b v → a = b) (tst : α → Bool) (G : α → Value → Prop) {I : Addr} {fp wr : List Addr} {P : Nat → Value → Prop} {St : Nat → Heap → Prop}
    (W : Walks PR w A I fp wr items.length P St) (hsz : items.length ≤ sizeLine) (hP : ∀ i v, P i v → ∃ a, items[i]? = some a ∧ dec a v)
    (hst : St 0 H) (hfp : ∀ b ∈ fp, b < H.objs.size)
    (tests : ∀ C a v h₃ gn₃ dr₃ tk₃ os₃ m₃ E', a ∈ items → dec a v → h₃.Ns C m₃ → m₃ x = some v → (∀ b o, b ∉ wr → H.get? b = some o → h₃.get? b = some o) → H.objs.size ≤ C →
      wpAny (model PR w) A (forIn ifs true fun c r => if r = true then do let ok ← isTrue c (compEnvC scope cl C env) (eval c (compEnvC scope cl C env)); pure (ForInStep.yield ok) else pure (ForInStep.yield r))
        (fun ok s₄ => ok = tst a ∧ Keeps ⟨h₃, gn₃, dr₃, tk₃, os₃⟩ s₄) E' ⟨h₃, gn₃, dr₃, tk₃, os₃⟩)
    (elm : ∀ C a v h₃ gn₃ dr₃ tk₃ os₃ m₃ E', a ∈ items → tst a = true → dec a v → h₃.Ns C m₃ → m₃ x = some v → (∀ b o, b ∉ wr → H.get? b = some o → h₃.get? b = some o) → H.objs.size ≤ C →
      wpAny (model PR w) A (eval elt (compEnvC scope cl C env)) (fun y s₄ => G a y ∧ Keeps ⟨h₃, gn₃, dr₃, tk₃, os₃⟩ s₄) E' ⟨h₃, gn₃, dr₃, tk₃, os₃⟩)
    (done : ∀ D h' tk ys, H.get? D = none → h'.PlainList D ys → Paired G (items.filter tst) ys.toList → (∀ b o, b ∉ wr → H.get? b = some o → h'.get? b = some o) → Q (.ref D) ⟨h', gn, dr, tk, os⟩) :
    LcAt w A env scope cl x ifs elt (fun v => decide (∃ a, dec a v ∧ tst a = true)) (fun v y => ∀ a, dec a v → G a y) Q (.ref I) ⟨H, gn, dr, tk₀, os⟩ := by
  have hp : ∀ a v, dec a v → decide (∃ a, dec a v ∧ tst a = true) = tst a := fun a v hd => by
    cases ht : tst a with
    | true => exact decide_eq_true ⟨a, hd, ht⟩
    | false => exact decide_eq_false fun ⟨b, hb, hb'⟩ => by rw [inj b a v hb hd, ht] at hb'; cases hb'
  refine ⟨I, fp, wr, items.length, P, St, rfl, W, hsz, hst, hfp, ⟨?_, ?_⟩, ?_⟩
  · rintro C i v ⟨h₃, gn₃, dr₃, tk₃, os₃⟩ m₃ E' hC hPv hn hm hk _
    obtain ⟨a, ha, hd⟩ := hP i v hPv
    rw [hp a v hd]
    exact tests C a v h₃ gn₃ dr₃ tk₃ os₃ m₃ E' (List.mem_of_getElem? ha) hd hn hm hk hC
  · rintro C i v ⟨h₃, gn₃, dr₃, tk₃, os₃⟩ m₃ E' hC hPv hpv hn hm hk _
    obtain ⟨a, ha, hd⟩ := hP i v hPv
    rw [hp a v hd] at hpv
    refine wpAny_mono (elm C a v h₃ gn₃ dr₃ tk₃ os₃ m₃ E' (List.mem_of_getElem? ha) hpv hd hn hm hk hC) (fun y s₄ hy => ⟨fun b hb => ?_, hy.2⟩) fun _ _ e => e
    rw [inj b a v hb hd]
    exact hy.1
  · intro D h' tk ys vs hD _ hpl hlen hPs hF hk
    refine done D h' tk ys hD hpl ?_ hk
    have hR : Paired dec items vs := paired_of_get hlen.symm fun i a v ha hv => by
      obtain ⟨a', ha', hd⟩ := hP i v (hPs i v hv)
      rw [ha] at ha'
      cases ha'
      exact hd
    exact paired_map (fun c a hr => hp c a hr) (fun c a b hr hf => hf c hr) hR hF

theorem ifs_nil {M : Model} {env' : Env} {Q' : Bool → Shared → Prop} {E' : Value → Shared → Prop} {s : Shared} (h : Q' true s) :
    wpAny M A (forIn ([] : List Expr) true fun c r => if r = true then do let ok ← isTrue c env' (eval c env'); pure (ForInStep.yield ok) else pure (ForInStep.yield r)) Q' E' s := by
  rw [List.forIn_nil]; exact wpAny_pure h

abbrev decN (k : Nat) (v : Value) : Prop := ∃ t, v = .int (k : Int) t
theorem decN_inj (a b : Nat) (v : Value) (h : decN a v) (h' : decN b v) : a = b := by obtain ⟨t, rfl⟩ := h; obtain ⟨u, e⟩ := h'; injection e with e1; omega
abbrev decI (k : Int) (v : Value) : Prop := ∃ t, v = .int k t
theorem decI_inj (a b : Int) (v : Value) (h : decI a v) (h' : decI b v) : a = b := by obtain ⟨t, rfl⟩ := h; obtain ⟨u, e⟩ := h'; injection e
abbrev decC (k : Nat) (v : Value) : Prop := ∃ t, v = .str ⟨#[k]⟩ t
theorem decC_inj (a b : Nat) (v : Value) (h : decC a v) (h' : decC b v) : a = b := by obtain ⟨t, rfl⟩ := h; obtain ⟨u, e⟩ := h'; simp at e; exact e.1
abbrev decS (k : Str) (v : Value) : Prop := ∃ t, v = .str k t
theorem decS_inj (a b : Str) (v : Value) (h : decS a v) (h' : decS b v) : a = b := by obtain ⟨t, rfl⟩ := h; obtain ⟨u, e⟩ := h'; injection e

open Classical in
theorem lc_range {r : Addr} {a b : Int} {a' b' : Nat} {t u v : Tok} (tst : Nat → Bool) (G : Nat → Value → Prop) (ha : a = a') (hb : b = b') (hh : A.handled = none) (hr : IsRange H r a b 1 t u v) (ha' : a' ≤ b') (hb' : b' < 2 ^ 24)
    (tests : ∀ C k tv h₃ gn₃ dr₃ tk₃ os₃ m₃ E', a' ≤ k → k < b' → h₃.Ns C m₃ → m₃ x = some (.int (k : Nat) tv) → (∀ b o, H.get? b = some o → h₃.get? b = some o) → H.objs.size ≤ C →
      wpAny (model PR w) A (forIn ifs true fun c r => if r = true then do let ok ← isTrue c (compEnvC scope cl C env) (eval c (compEnvC scope cl C env)); pure (ForInStep.yield ok) else pure (ForInStep.yield r))
        (fun ok s₄ => ok = tst k ∧ Keeps ⟨h₃, gn₃, dr₃, tk₃, os₃⟩ s₄) E' ⟨h₃, gn₃, dr₃, tk₃, os₃⟩)
    (elm : ∀ C k tv h₃ gn₃ dr₃ tk₃ os₃ m₃ E', a' ≤ k → k < b' → tst k = true → h₃.Ns C m₃ → m₃ x = some (.int (k : Nat) tv) → (∀ b o, H.get? b = some o → h₃.get? b = some o) → H.objs.size ≤ C →
      wpAny (model PR w) A (eval elt (compEnvC scope cl C env)) (fun y s₄ => G k y ∧ Keeps ⟨h₃, gn₃, dr₃, tk₃, os₃⟩ s₄) E' ⟨h₃, gn₃, dr₃, tk₃, os₃⟩)
    (done : ∀ D h' tk ys, H.get? D = none → h'.PlainList D ys → Paired G ((List.range' a' (b' - a')).filter tst) ys.toList → (∀ b o, H.get? b = some o → h'.get? b = some o) → Q (.ref D) ⟨h', gn, dr, tk, os⟩) :
    wpAny (model PR w) A (pyIter (.ref r)) (fun it s₂ => LcAt w A env scope cl x ifs elt (fun v => decide (∃ a, decN a v ∧ tst a = true)) (fun v y => ∀ a, decN a v → G a y) Q it s₂) E ⟨H, gn, dr, tk₀, os⟩ := by
  subst ha hb
  have hsz : Builtin.Range.rangeSize (a' : Int) b' 1 = ((b' - a' : Nat) : Int) := by rw [rangeSize_one]; split <;> omega
  refine wpAny_pyIter_range hr (small_one (by omega) (by omega) (by omega) (by omega)) ?_
  have W : Walks PR w A H.objs.size [H.objs.size] [H.objs.size] (List.range' a' (b' - a')).length (fun i v => i < b' - a' ∧ ∃ t, v = .int ((a' : Int) + i * 1) t)
      (fun i h => IsRangeIter h H.objs.size ((a' : Int) + (i : Nat) * 1) (((b' - a' : Nat) : Int) - (i : Nat)) 1) := by rw [List.length_range']; exact (Walks.range hh _ _ 1 _).bound
  have kp : ∀ (h₃ : Heap) (o : Obj), (∀ b o', b ∉ [H.objs.size] → (H.push o).get? b = some o' → h₃.get? b = some o') → ∀ b o', H.get? b = some o' → h₃.get? b = some o' := fun h₃ o hk b o' e =>
    hk b o' (fun q => absurd (Heap.lt_size e) (by rw [List.mem_singleton.mp q]; exact Nat.lt_irrefl _)) (Heap.get?_push_of_some _ e)
  have mem : ∀ k, k ∈ List.range' a' (b' - a') → a' ≤ k ∧ k < b' := fun k hk => by rw [List.mem_range'_1] at hk; omega
  refine lcG (items := List.range' a' (b' - a')) decN_inj tst G W (by rw [List.length_range', sizeLine_eq]; omega) ?_ (by show IsRangeIter _ _ _ _ _; rw [hsz]; simpa using Heap.get?_push_size _ rfl) ?_ ?_ ?_ ?_
  · rintro i v ⟨hi, t, rfl⟩
    exact ⟨a' + i, by simp [hi], t, by congr 1; omega⟩
  · intro b hb
    rw [List.mem_singleton.mp hb, Heap.size_push]
    exact Nat.lt_succ_self _
  · rintro C k _ h₃ gn₃ dr₃ tk₃ os₃ m₃ E' hk ⟨tv, rfl⟩ hn hm hkp hC
    exact tests C k tv h₃ gn₃ dr₃ tk₃ os₃ m₃ E' (mem k hk).1 (mem k hk).2 hn hm (kp _ _ hkp) (Nat.le_trans (by rw [Heap.size_push]; exact Nat.le_succ _) hC)
  · rintro C k _ h₃ gn₃ dr₃ tk₃ os₃ m₃ E' hk ht ⟨tv, rfl⟩ hn hm hkp hC
    exact elm C k tv h₃ gn₃ dr₃ tk₃ os₃ m₃ E' (mem k hk).1 (mem k hk).2 ht hn hm (kp _ _ hkp) (Nat.le_trans (by rw [Heap.size_push]; exact Nat.le_succ _) hC)
  · intro D h' tk ys hD hpl hp hkp
    refine done D h' tk ys ?_ hpl hp (kp _ _ hkp)
    cases e : H.get? D with
    | none => rfl
    | some o => rw [Heap.get?_push_of_some _ e] at hD; cases hD
end

end
section -- Cp2

theorem paired_len {α β : Type} {R : α → β → Prop} : ∀ {as : List α} {bs : List β}, Paired R as bs → as.length = bs.length
  | _, _, .nil => rfl
  | _, _, .cons _ h => by rw [List.length_cons, List.length_cons, paired_len h]
theorem paired_get {α β : Type} {R : α → β → Prop} : ∀ {as : List α} {bs : List β} {i : Nat} {b : β}, Paired R as bs → bs[i]? = some b → ∃ a, as[i]? = some a ∧ R a b
  | _, _, 0, b, .cons h _, e => by simp at e; subst e; exact ⟨_, rfl, h⟩
  | _, _, i + 1, b, .cons _ h, e => by simp at e; obtain ⟨a, ha, hr⟩ := paired_get h e; exact ⟨a, by simpa using ha, hr⟩
theorem paired_mono {α β : Type} {R R' : α → β → Prop} (hr : ∀ a b, R a b → R' a b) : ∀ {as : List α} {bs : List β}, Paired R as bs → Paired R' as bs
  | _, _, .nil => .nil
  | _, _, .cons h hs => .cons (hr _ _ h) (paired_mono hr hs)
theorem paired_all {α β : Type} {R : α → β → Prop} {f : α → Bool} (hf : ∀ a, f a = true) {as : List α} {bs : List β} (h : Paired R (as.filter f) bs) : Paired R as bs := by
  rw [List.filter_eq_self.mpr fun a _ => hf a] at h; exact h
theorem sum_cast (f : Nat → Nat) : ∀ l : List Nat, (l.map fun k => (f k : Int)).sum = (((l.map f).sum : Nat) : Int)
  | [] => rfl
  | a :: l => by simp [sum_cast f l]
theorem ints_of {f : Nat → Nat} : ∀ {ks : List Nat} {vs : List Value}, Paired (fun k v => ∃ t, v = Value.int (f k : Nat) t) ks vs → IntsAre vs (ks.map fun k => (f k : Int))
  | _, _, .nil => .nil
  | _, _, .cons ⟨t, e⟩ h => by subst e; exact .cons _ _ (ints_of h)

section
variable {w : World} {A : Around} {E : Value → Shared → Prop} {H : Heap} {gn : Array GenState} {dr : Drawn} {tk₀ : Nat} {os : OsState} {env : Env} {Q : Value → Shared → Prop} {scope : Scope} {cl : List (Str × Addr)} {x : Str} {ifs : List Expr} {elt : Expr}

open Classical in
theorem lc_str {xs : Str} {tx : Tok} (tst : Nat → Bool) (G : Nat → Value → Prop) (hh : A.handled = none) (hsz : xs.cps.size ≤ 16000000)
    (tests : ∀ C k tv h₃ gn₃ dr₃ tk₃ os₃ m₃ E', k ∈ xs.cps.toList → h₃.Ns C m₃ → m₃ x = some (.str ⟨#[k]⟩ tv) → (∀ b o, H.get? b = some o → h₃.get? b = some o) → H.objs.size ≤ C →
      wpAny (model PR w) A (forIn ifs true fun c r => if r = true then do let ok ← isTrue c (compEnvC scope cl C env) (eval c (compEnvC scope cl C env)); pure (ForInStep.yield ok) else pure (ForInStep.yield r))
        (fun ok s₄ => ok = tst k ∧ Keeps ⟨h₃, gn₃, dr₃, tk₃, os₃⟩ s₄) E' ⟨h₃, gn₃, dr₃, tk₃, os₃⟩)
    (elm : ∀ C k tv h₃ gn₃ dr₃ tk₃ os₃ m₃ E', k ∈ xs.cps.toList → tst k = true → h₃.Ns C m₃ → m₃ x = some (.str ⟨#[k]⟩ tv) → (∀ b o, H.get? b = some o → h₃.get? b = some o) → H.objs.size ≤ C →
      wpAny (model PR w) A (eval elt (compEnvC scope cl C env)) (fun y s₄ => G k y ∧ Keeps ⟨h₃, gn₃, dr₃, tk₃, os₃⟩ s₄) E' ⟨h₃, gn₃, dr₃, tk₃, os₃⟩)
    (done : ∀ D h' tk ys, H.get? D = none → h'.PlainList D ys → Paired G (xs.cps.toList.filter tst) ys.toList → (∀ b o, H.get? b = some o → h'.get? b = some o) → Q (.ref D) ⟨h', gn, dr, tk, os⟩) :
    wpAny (model PR w) A (pyIter (.str xs tx)) (fun it s₂ => LcAt w A env scope cl x ifs elt (fun v => decide (∃ a, decC a v ∧ tst a = true)) (fun v y => ∀ a, decC a v → G a y) Q it s₂) E ⟨H, gn, dr, tk₀, os⟩ := by
  refine wpAny_pyIter_str fun o St hW hst => ?_
  have W := hW A hh
  have kp : ∀ (h₃ : Heap) (o : Obj), (∀ b o', b ∉ [H.objs.size] → (H.push o).get? b = some o' → h₃.get? b = some o') → ∀ b o', H.get? b = some o' → h₃.get? b = some o' := fun h₃ o hk b o' e =>
    hk b o' (fun q => absurd (Heap.lt_size e) (by rw [List.mem_singleton.mp q]; exact Nat.lt_irrefl _)) (Heap.get?_push_of_some _ e)
  have W' : Walks PR w A H.objs.size [H.objs.size] [H.objs.size] xs.cps.toList.length (SignAt xs) St := by rw [Array.length_toList]; exact W
  refine lcG (items := xs.cps.toList) decC_inj tst G W' (by rw [Array.length_toList, sizeLine_eq]; omega) ?_ hst ?_ ?_ ?_ ?_
  · rintro i v ⟨c, u, hc, rfl⟩
    exact ⟨c, by rw [Array.getElem?_toList]; exact hc, u, rfl⟩
  · intro b hb
    rw [List.mem_singleton.mp hb, Heap.size_push]
    exact Nat.lt_succ_self _
  · rintro C k _ h₃ gn₃ dr₃ tk₃ os₃ m₃ E' hk ⟨tv, rfl⟩ hn hm hkp hC
    exact tests C k tv h₃ gn₃ dr₃ tk₃ os₃ m₃ E' hk hn hm (kp _ _ hkp) (Nat.le_trans (by rw [Heap.size_push]; exact Nat.le_succ _) hC)
  · rintro C k _ h₃ gn₃ dr₃ tk₃ os₃ m₃ E' hk ht ⟨tv, rfl⟩ hn hm hkp hC
    exact elm C k tv h₃ gn₃ dr₃ tk₃ os₃ m₃ E' hk ht hn hm (kp _ _ hkp) (Nat.le_trans (by rw [Heap.size_push]; exact Nat.le_succ _) hC)
  · intro D h' tk ys hD hpl hp hkp
    refine done D h' tk ys ?_ hpl hp (kp _ _ hkp)
    cases e : H.get? D with
    | none => rfl
    | some o => rw [Heap.get?_push_of_some _ e] at hD; cases hD

open Classical in
theorem lc_list {α : Type} {items : List α} {dec : α → Value → Prop} (inj : ∀ a b v, dec a v → dec b v → a = b) {l : Addr} {vs : List Value} (tst : α → Bool) (G : α → Value → Prop) (hh : A.handled = none) (hl : H.IsList l vs.toArray) (hd : Paired dec items vs) (hsz : vs.length ≤ 16000000)
    (tests : ∀ C a v h₃ gn₃ dr₃ tk₃ os₃ m₃ E', a ∈ items → dec a v → h₃.Ns C m₃ → m₃ x = some v → (∀ b o, H.get? b = some o → h₃.get? b = some o) → H.objs.size ≤ C →
      wpAny (model PR w) A (forIn ifs true fun c r => if r = true then do let ok ← isTrue c (compEnvC scope cl C env) (eval c (compEnvC scope cl C env)); pure (ForInStep.yield ok) else pure (ForInStep.yield r))
        (fun ok s₄ => ok = tst a ∧ Keeps ⟨h₃, gn₃, dr₃, tk₃, os₃⟩ s₄) E' ⟨h₃, gn₃, dr₃, tk₃, os₃⟩)
    (elm : ∀ C a v h₃ gn₃ dr₃ tk₃ os₃ m₃ E', a ∈ items → tst a = true → dec a v → h₃.Ns C m₃ → m₃ x = some v → (∀ b o, H.get? b = some o → h₃.get? b = some o) → H.objs.size ≤ C →
      wpAny (model PR w) A (eval elt (compEnvC scope cl C env)) (fun y s₄ => G a y ∧ Keeps ⟨h₃, gn₃, dr₃, tk₃, os₃⟩ s₄) E' ⟨h₃, gn₃, dr₃, tk₃, os₃⟩)
    (done : ∀ D h' tk ys, H.get? D = none → h'.PlainList D ys → Paired G (items.filter tst) ys.toList → (∀ b o, H.get? b = some o → h'.get? b = some o) → Q (.ref D) ⟨h', gn, dr, tk, os⟩) :
    wpAny (model PR w) A (pyIter (.ref l)) (fun it s₂ => LcAt w A env scope cl x ifs elt (fun v => decide (∃ a, dec a v ∧ tst a = true)) (fun v y => ∀ a, dec a v → G a y) Q it s₂) E ⟨H, gn, dr, tk₀, os⟩ := by
  have hne : l ≠ H.objs.size := by obtain ⟨o, ho, _⟩ := hl; exact Nat.ne_of_lt (Heap.lt_size ho)
  refine wpAny_pyIter_list hl ?_
  have W := Walks.list (prog := PR) (w := w) hh H.objs.size l hne vs.toArray
  have kp : ∀ (h₃ : Heap) (o : Obj), (∀ b o', b ∉ [H.objs.size] → (H.push o).get? b = some o' → h₃.get? b = some o') → ∀ b o', H.get? b = some o' → h₃.get? b = some o' := fun h₃ o hk b o' e =>
    hk b o' (fun q => absurd (Heap.lt_size e) (by rw [List.mem_singleton.mp q]; exact Nat.lt_irrefl _)) (Heap.get?_push_of_some _ e)
  have hlen : vs.toArray.size = items.length := by rw [List.size_toArray, paired_len hd]
  rw [hlen] at W
  refine lcG (items := items) inj tst G W (by rw [paired_len hd, sizeLine_eq]; omega) ?_ ⟨⟨_, Heap.get?_push_size _ rfl, rfl, rfl⟩, hl.at fun o e => Heap.get?_push_of_some _ e⟩ ?_ ?_ ?_ ?_
  · intro i v hv
    exact paired_get hd (by simpa using hv)
  · intro b hb
    rw [Heap.size_push]
    rcases List.mem_cons.mp hb with e | hb
    · rw [e]; exact Nat.lt_succ_self _
    · rw [List.mem_singleton.mp hb]
      obtain ⟨o, ho, _⟩ := hl
      exact Nat.lt_succ_of_lt (Heap.lt_size ho)
  · intro C k v h₃ gn₃ dr₃ tk₃ os₃ m₃ E' hk hdv hn hm hkp hC
    exact tests C k v h₃ gn₃ dr₃ tk₃ os₃ m₃ E' hk hdv hn hm (kp _ _ hkp) (Nat.le_trans (by rw [Heap.size_push]; exact Nat.le_succ _) hC)
  · intro C k v h₃ gn₃ dr₃ tk₃ os₃ m₃ E' hk ht hdv hn hm hkp hC
    exact elm C k v h₃ gn₃ dr₃ tk₃ os₃ m₃ E' hk ht hdv hn hm (kp _ _ hkp) (Nat.le_trans (by rw [Heap.size_push]; exact Nat.le_succ _) hC)
  · intro D h' tk ys hD hpl hp hkp
    refine done D h' tk ys ?_ hpl hp (kp _ _ hkp)
    cases e : H.get? D with
    | none => rfl
    | some o => rw [Heap.get?_push_of_some _ e] at hD; cases hD
end

theorem lc_start {w : World} {A : Around} {E : Value → Shared → Prop} {s : Shared} {env : Env} {elt iter : Expr} {x : Str} {px : Pos} {ifs : List Expr} {scope : Scope} {cl : List (Str × Addr)} {pos : Pos} {Q : Value → Shared → Prop} {p : Value → Bool} {F : Value → Value → Prop}
    (hclos : closureFor scope env = pure cl) (hcell : ∀ y ∈ scope.names, y.2 ≠ .cell) (hkind : scope.kind = .function)
    (hnames : ∀ y ∈ scope.names, y.2 = .local → scope.names.lookup y.1 = some .local) (hx : scope.names.lookup x = some .local)
    (hs : ∀ x, foldedSetIterable iter env x = pure x)
    (h : wpAny (model PR w) A (eval iter env) (fun xv s₁ => wpAny (model PR w) A (pyIter xv) (fun it s₂ => LcAt w A env scope cl x ifs elt p F Q it s₂) E s₁) E s) :
    wpAny (model PR w) A (eval (.ListComp elt [⟨.Name x px, iter, ifs, 0⟩] scope pos) env) Q E s := wpAny_ListComp_free p F hclos hcell hkind hnames hx h hs

theorem keeps_refl {h : Heap} {gn : Array GenState} {dr : Drawn} {tk tk' : Nat} {os : OsState} : Keeps ⟨h, gn, dr, tk, os⟩ ⟨h, gn, dr, tk', os⟩ := ⟨h, tk', rfl, fun _ _ e => e⟩
theorem keeps_of {h h' : Heap} {gn : Array GenState} {dr : Drawn} {tk tk' : Nat} {os : OsState} (hk : ∀ b o, h.get? b = some o → h'.get? b = some o) : Keeps ⟨h, gn, dr, tk, os⟩ ⟨h', gn, dr, tk', os⟩ := ⟨h', tk', rfl, hk⟩

/-- a call of a def with cells -/
theorem call_pureC {w : World} {A : Around} {s : Shared} {K : Frag} {name qual : Str} {params : Arguments} {body : List Stmt} {scope : Scope} {dV kV doc pm cdv ct oc : Value} {an od : Option Addr} {osl : Array (Option Value)} {f : Addr} {vals : List Value} {binds : List (Str × Value)} {R : Value → Heap → Prop}
    (X : K.In s.heap) (T : s.heap.NoLimit) (hroom : A.depth < recursionLimit)
    (ho : K.lookup f = some ⟨oc, od, .func (fnOf name qual params body scope dV kV doc pm an cdv ct), osl⟩) (hcd : codeIn K cdv qual = true)
    (hbind : BindsTo s (fnOf name qual params body scope dV kV doc pm an cdv ct) ⟨vals, []⟩ binds) (hkind : (binds.all fun y => scope.names.lookup y.1 == some .local || scope.names.lookup y.1 == some .cell) = true)
    (hnd : ((cellsFrom 0 scope.names []).map (·.1)).Nodup)
    (hco : scope.isCoroutine = false) (hgen : scope.isGenerator = false) (hk : scope.kind = .function)
    (h : ∀ L h₁ tk cells, Fr s.heap L h₁ (bindL (envOfC qual scope L f cdv).kindOf binds fun _ => none) → News s.heap L h₁ cells → CellsAre (bindC (envOfC qual scope L f cdv).kindOf binds fun _ => none) (cellsFrom (L + 1) scope.names []) cells →
      wpAny (model PR w) (A.deeper (envOfC qual scope L f cdv)) (execs body (envOfC qual scope L f cdv))
        (fun fl s' => R (match fl with | .ret v => v | _ => .none) s'.heap ∧ ∃ h' tk m, s' = { s with heap := h', toks := tk } ∧ Fr s.heap L h' m) Fe { s with heap := h₁, toks := tk }) :
    Pw w A (call (.ref f) vals) R s := by
  refine wpAny_call ?_
  refine codeAny_call_function hroom (X _ _ ho) rfl hco hgen rfl (codeRec_of X hcd) (hbind _ _ _ _ ?_)
  refine wpAny_newFunctionEnv_cells hk (kindsX hkind _) fun env' he s' x => ?_
  subst he
  refine ⟨T.keeps x.toInCall.keep, codeAny_func ?_⟩
  obtain ⟨h₁, tk, rfl, _⟩ := x.done
  have hk₁ := x.toInCall.keep
  obtain ⟨cells, NC, Y⟩ := Cl.news (h₀ := s.heap) (Nat.le_refl _) fun n c hm => ⟨x.cell n c (lookup_of_mem_nodup (cellsFrom_names scope.names 0 (s.heap.objs.size + 1) [] [] rfl ▸ hnd) hm), x.above n c hm⟩
  refine wpAny_mono (h s.heap.objs.size h₁ tk cells ⟨x.toInCall.ns, hk₁, Nat.le_refl _⟩ NC Y) (fun fl s' hl => ?_) fun _ _ f => f.elim
  obtain ⟨hr, h', tk, m, rfl, F⟩ := hl
  exact ⟨hr, h', tk, rfl, F.keep⟩

end
local macro_rules | `(tactic| walk_at "cl") => `(tactic| ((with_reducible refine' x_loc ?hL (by assumption) (by assumption) ?_ ?ha ?hb ?hc); (case hL => rfl); (case ha => rfl); (case hb => rfl); (case hc => decide)))
local macro_rules | `(tactic| walk_at "cc") => `(tactic| ((with_reducible refine' x_cell ?hL ?hv ?_ ?ha ?hb ?hc); (case hL => rfl); (case ha => rfl); (case hb => rfl); (case hc => decide); (case hv => assumption)))
local macro_rules | `(tactic| walk_at "cg") => `(tactic| ((with_reducible refine' x_ref (by assumption) ?ha ?_ ?hg ?hd ?he ?hf); (case ha => k_is); (case hg => rfl); (case hd => rfl); (case he => rfl); (case hf => decide)))
local macro_rules | `(tactic| walk_at "cb") => `(tactic| ((with_reducible refine' x_bi (by assumption) ?ha ?hb ?hc ?_ ?hg ?hh ?hd ?he ?hf); (case ha => k_is); (case hb => boot_by_name); (case hc => decide); (case hg => rfl); (case hh => rfl); (case hd => rfl); (case he => rfl); (case hf => decide)))
local macro_rules | `(tactic| walk_at "lc") => `(tactic| ((with_reducible refine' lc_start ?ha ?hb ?hc ?hd ?he ?hf ?_); (case ha => rfl); (case hb => decide); (case hc => rfl); (case hd => decide); (case he => rfl); (case hf => (intro _; rfl)); rotate_left 2))
section -- Oc

theorem r_ord {w : World} {A : Around} {E : Value → Shared → Prop} {h : Heap} {gn : Array GenState} {dr : Drawn} {tk : Nat} {os : OsState} {Q : Value → Shared → Prop} {c : Nat} {t : Tok} (hQ : Q (.int (c : Nat) tk) ⟨h, gn, dr, tk + 1, os⟩) :
    wpAny (model PR w) A (call (.builtin "ord") [.str ⟨#[c]⟩ t]) Q E ⟨h, gn, dr, tk, os⟩ := PySem.P.ord_of_char hQ

set_option maxHeartbeats 1000000 in
set_option pp.deepTerms.threshold 8 in
theorem c_octets (w : World) {A : Around} {s : Shared} (G : Gd w s.heap) (Rm : Room A 2) {x : Str} (t : Tok) (hb : x.cps.size ≤ 8000000) (hc : ∀ c ∈ x.cps.toList, c < 256) :
    Pw w A (call (.ref 98) [.str x t]) (fun v _ => ∃ t', v = .bytes (x.cps.map (·.toUInt8)) t') s := by
  walk_at "fill"
  obtain ⟨p, loose, mean, mg, mb, T⟩ := G.t
  refine call_pure (binds := [(Str.ofString "text", .str x t)]) G.k T.nolimit Rm.lim (by k_is) (by k_is) (BindsTo.of_eq rfl) (locs rfl) rfl rfl rfl (by decide) ?_
  intro L h₁ tk _ F
  have N : News s.heap L h₁ [] := News.nil
  walk_at "run"
  walk_at "bi"
  walk_at "run"
  walk_at "lc"
  walk_at "run"
  refine lc_str (xs := x) (fun _ => true) (fun k v => ∃ t, v = .int (k : Nat) t) Rm.handled (by omega) ?_ ?_ ?_
  · intro C k tv h₃ gn₃ dr₃ tk₃ os₃ m₃ E' hk hn hm hkp hC
    exact ifs_nil ⟨rfl, keeps_refl⟩
  · intro C k tv h₃ gn₃ dr₃ tk₃ os₃ m₃ E' hk _ hn hm hkp hC
    have G₃ : Gd w h₃ := (G.keeps F.keep).keeps hkp
    walk_at "run"
    walk_at "cb"
    walk_at "cw"
    walk_at "run"
    walk_at "cl"
    walk_at "run"
    exact r_ord ⟨⟨_, rfl⟩, keeps_refl⟩
  · intro D h' tk ys hD hpl hp hkp
    have hp' := paired_all (fun _ => rfl) hp
    walk_at "run"
    have hi := ints_of (f := fun k => k) hp'
    refine call_bytes_ints (vs := ys.toList) hpl.isList hi ?_ ?_ Rm.handled ?_
    · intro n hn
      obtain ⟨c, hc', rfl⟩ := List.mem_map.mp hn
      have := hc c hc'
      omega
    · rw [← paired_len hp', Array.length_toList, sizeLine_eq]; omega
    · intro h'' t' k hk
      refine ⟨⟨t', ?_⟩, _, _, _, rfl, (F.keeps hkp).keeps hk⟩
      have e : byteArr (x.cps.toList.map fun k : Nat => (k : Int)) = x.cps.map (·.toUInt8) := Array.toList_inj.mp (by simp [byteArr])
      exact congrArg (Value.bytes · t') e

end
section -- Spl
open PySem.StrLaws PySem.Builtin.Str

def scuts (y : List Nat) : Nat → Nat → List Nat → List Nat
  | _, _, [] => []
  | i, free, c :: r => if free ≤ i ∧ (c :: r).take y.length = y then i :: scuts y (i + 1) (i + y.length) r else scuts y (i + 1) free r

/-- the parts between the places where y stands; k signs still belong to the last such place -/
def hcons (c : Nat) : List (List Nat) → List (List Nat)
  | p :: ps => (c :: p) :: ps
  | [] => [[c]]
def parts (y : List Nat) : Nat → List Nat → List (List Nat)
  | _, [] => [[]]
  | k + 1, _ :: r => parts y k r
  | 0, c :: r => if (c :: r).take y.length = y then [] :: parts y (y.length - 1) r else hcons c (parts y 0 r)
theorem parts_ne (y : List Nat) : ∀ k l, ∃ p ps, parts y k l = p :: ps
  | _, [] => ⟨_, _, rfl⟩
  | k + 1, _ :: r => by rw [parts]; exact parts_ne y k r
  | 0, c :: r => by
    rw [parts]
    split
    · exact ⟨_, _, rfl⟩
    · obtain ⟨p, ps, e⟩ := parts_ne y 0 r
      rw [e]
      exact ⟨_, _, rfl⟩

theorem occ_scuts (x y : Str) (hy : y.cps.toList ≠ []) (limit : Nat) : ∀ (k i free : Nat) (found : Array Nat), x.length - i = k → i ≤ x.length → found.size + (k + 1) ≤ limit →
    (forIn (List.range' i (k + 1)) (found, free) (occBody x y x.length limit)).run.fst.toList = found.toList ++ scuts y.cps.toList i free (x.cps.toList.drop i) := by
  have hyl : 0 < y.length := by
    have : y.cps.toList.length = y.length := by simp [Str.length]
    rw [← this]
    exact List.length_pos_iff.mpr hy
  have hyL : y.cps.toList.length = y.length := by simp [Str.length]
  have hxL : x.cps.toList.length = x.length := by simp [Str.length]
  intro k
  induction k with
  | zero =>
    intro i free found hk hi hf
    obtain rfl : i = x.length := by omega
    rw [show List.range' x.length (0 + 1) = [x.length] from rfl, List.forIn_cons]
    unfold occBody
    rw [if_neg (by omega), List.drop_of_length_le (by omega)]
    simp [scuts]
  | succ k ih =>
    intro i free found hk hi hf
    have hlt : i < x.length := by omega
    rw [List.range'_succ, List.forIn_cons]
    rw [List.drop_eq_getElem_cons (by omega), scuts]
    rw [← List.drop_eq_getElem_cons (by omega)]
    have hsub : subAt x y i = true ↔ (x.cps.toList.drop i).take y.cps.toList.length = y.cps.toList := by rw [subAt_eq, beq_iff_eq, hyL]
    by_cases hc : free ≤ i ∧ (x.cps.toList.drop i).take y.cps.toList.length = y.cps.toList
    · have hfit : i + y.length ≤ x.length := by
        have := congrArg List.length hc.2
        rw [List.length_take, List.length_drop, hyL, hxL] at this
        omega
      have e : occBody x y x.length limit i (found, free) = pure (ForInStep.yield (found.push i, i + y.length)) := by
        unfold occBody
        exact if_pos ⟨⟨⟨by show found.size < limit; omega, hc.1⟩, hfit⟩, hsub.mpr hc.2⟩
      rw [if_pos hc, e, hyL]
      have := ih (i + 1) (i + y.length) (found.push i) (by omega) (by omega) (by rw [Array.size_push]; omega)
      refine Eq.trans this ?_
      simp
    · have e : occBody x y x.length limit i (found, free) = pure (ForInStep.yield (found, free)) := by
        unfold occBody
        exact if_neg (fun q => hc ⟨q.1.1.2, hsub.mp q.2⟩)
      rw [if_neg hc, e]
      exact ih (i + 1) free found (by omega) (by omega) (by omega)
theorem occ_all (x y : Str) (hy : y.cps.toList ≠ []) : occurrences x y 0 x.length (x.length + 1) = scuts y.cps.toList 0 0 x.cps.toList := by
  rw [occ_eq]
  have := occ_scuts x y hy (x.length + 1) x.length 0 0 #[] (by omega) (by omega) (by simp)
  rw [show x.length + 1 - 0 = x.length + 1 by omega, this]
  simp

def hpre (p : List Nat) : List (List Nat) → List (List Nat)
  | q :: qs => (p ++ q) :: qs
  | [] => [p]

theorem from_parts (x : Str) (y : List Nat) (hy : y ≠ []) : ∀ (k i free a : Nat), x.length - i = k → i ≤ x.length → 
    (free ≤ i → a ≤ i → (partsFrom x y.length a (scuts y i free (x.cps.toList.drop i))).map (·.cps.toList) = hpre ((x.cps.toList.drop a).take (i - a)) (parts y 0 (x.cps.toList.drop i))) ∧
    (i < free → free ≤ x.length → a = free → (partsFrom x y.length a (scuts y i free (x.cps.toList.drop i))).map (·.cps.toList) = parts y (free - i) (x.cps.toList.drop i)) := by
  have hxL : x.cps.toList.length = x.length := by simp [Str.length]
  have hyl : 0 < y.length := List.length_pos_iff.mpr hy
  intro k
  induction k with
  | zero =>
    intro i free a hk hi
    obtain rfl : i = x.length := by omega
    rw [List.drop_of_length_le (by omega)]
    refine ⟨fun _ ha => ?_, fun h1 h2 => by omega⟩
    rw [scuts, partsFrom, parts]
    simp [hpre, strSub_toList]
  | succ k ih =>
    intro i free a hk hi
    have hlt : i < x.length := by omega
    have hd := List.drop_eq_getElem_cons (l := x.cps.toList) (i := i) (by omega)
    refine ⟨fun h1 h2 => ?_, fun h1 h2 h3 => ?_⟩
    · rw [hd, scuts, parts]
      by_cases hc : (x.cps.toList[i]'(by omega) :: x.cps.toList.drop (i + 1)).take y.length = y
      · rw [if_pos ⟨h1, hc⟩, if_pos hc, partsFrom, List.map_cons, strSub_toList]
        have hfit : i + y.length ≤ x.length := by
          have := congrArg List.length hc
          rw [← hd, List.length_take, List.length_drop, hxL] at this
          omega
        by_cases hy1 : y.length = 1
        · have := (ih (i + 1) (i + y.length) (i + y.length) (by omega) (by omega)).1 (by omega) (by omega)
          rw [this, hy1]
          simp [hpre]
          obtain ⟨p, ps, e⟩ := parts_ne y 0 (x.cps.toList.drop (i + 1))
          rw [e]
        · have := (ih (i + 1) (i + y.length) (i + y.length) (by omega) (by omega)).2 (by omega) hfit rfl
          rw [this, show i + y.length - (i + 1) = y.length - 1 by omega]
          simp [hpre]
      · rw [if_neg (fun q => hc q.2), if_neg hc]
        have := (ih (i + 1) free a (by omega) (by omega)).1 (by omega) (by omega)
        rw [this]
        obtain ⟨p, ps, e⟩ := parts_ne y 0 (x.cps.toList.drop (i + 1))
        rw [e]
        have e2 : (x.cps.toList.drop a).take (i + 1 - a) = (x.cps.toList.drop a).take (i - a) ++ [x.cps.toList[i]'(by omega)] := by
          rw [show i + 1 - a = (i - a) + 1 by omega, List.take_add_one, List.getElem?_drop, show a + (i - a) = i by omega, List.getElem?_eq_getElem (by omega)]
          rfl
        rw [e2]
        simp [hpre, hcons]
    · subst h3
      rw [hd, scuts, if_neg (by omega)]
      obtain ⟨j, hj⟩ : ∃ j, a - i = j + 1 := ⟨a - i - 1, by omega⟩
      rw [hj, parts]
      by_cases hia : i + 1 < a
      · have := (ih (i + 1) a a (by omega) (by omega)).2 hia h2 rfl
        rw [this]
        congr 1
        omega
      · obtain rfl : a = i + 1 := by omega
        have := (ih (i + 1) (i + 1) (i + 1) (by omega) (by omega)).1 (by omega) (by omega)
        rw [this]
        obtain rfl : j = 0 := by omega
        obtain ⟨p, ps, e⟩ := parts_ne y 0 (x.cps.toList.drop (i + 1))
        rw [e]
        simp [hpre]

theorem between_parts (x y : Str) (hy : y.cps.toList ≠ []) : (partsBetween x (occurrences x y 0 x.length (x.length + 1)) y.length).map (·.cps.toList) = parts y.cps.toList 0 x.cps.toList := by
  have hyL : y.cps.toList.length = y.length := by simp [Str.length]
  rw [partsBetween_eq, occ_all x y hy]
  have := (from_parts x y.cps.toList hy x.length 0 0 0 (by omega) (by omega)).1 (by omega) (by omega)
  rw [hyL] at this
  rw [List.drop_zero] at this
  rw [this]
  obtain ⟨p, ps, e⟩ := parts_ne y.cps.toList 0 x.cps.toList
  rw [e]
  simp [hpre]

end
section -- Spl2
open PySem.StrLaws PySem.Builtin.Str

def joinL (z : List Nat) : List (List Nat) → List Nat
  | [] => []
  | [p] => p
  | p :: q :: ps => p ++ z ++ joinL z (q :: ps)
theorem joinL_cons {z p : List Nat} {ps : List (List Nat)} (h : ps ≠ []) : joinL z (p :: ps) = p ++ z ++ joinL z ps := by
  cases ps with
  | nil => exact absurd rfl h
  | cons q qs => rfl
theorem join_toList (z : Str) : ∀ l : List Str, (Str.join z l).cps.toList = joinL z.cps.toList (l.map (·.cps.toList))
  | [] => rfl
  | [p] => rfl
  | p :: q :: ps => by
    rw [Str.join, Str.cps_append, Str.cps_append, Array.toList_append, Array.toList_append, join_toList z (q :: ps)]
    · rfl
    · intro h; cases h

def replF (y z : List Nat) : Nat → List Nat → List Nat
  | _, [] => []
  | k + 1, _ :: r => replF y z k r
  | 0, c :: r => if (c :: r).take y.length = y then z ++ replF y z (y.length - 1) r else c :: replF y z 0 r
theorem join_parts (y z : List Nat) : ∀ k l, joinL z (parts y k l) = replF y z k l
  | _, [] => by rw [parts, replF]; rfl
  | k + 1, _ :: r => by rw [parts, replF]; exact join_parts y z k r
  | 0, c :: r => by
    rw [parts, replF]
    split
    · obtain ⟨p, ps, e⟩ := parts_ne y (y.length - 1) r
      rw [joinL_cons (by rw [e]; simp), join_parts y z _ r]
      rfl
    · obtain ⟨p, ps, e⟩ := parts_ne y 0 r
      have := join_parts y z 0 r
      rw [e] at this ⊢
      rw [← this]
      cases ps <;> simp [hcons, joinL]
theorem replF_len (y z : List Nat) (hz : z.length ≤ 2) : ∀ k l, (replF y z k l).length ≤ 2 * l.length
  | _, [] => by rw [replF]; exact Nat.le_refl _
  | k + 1, _ :: r => by rw [replF]; have := replF_len y z hz k r; simp; omega
  | 0, c :: r => by
    rw [replF]
    split
    · have := replF_len y z hz (y.length - 1) r; simp; omega
    · have := replF_len y z hz 0 r; simp; omega

theorem parts_short {y : List Nat} : ∀ l : List Nat, l.length < y.length → parts y 0 l = [l]
  | [], _ => rfl
  | c :: r, h => by
    rw [parts, if_neg (fun e => by have := congrArg List.length e; rw [List.length_take] at this; omega), parts_short r (by simp at h; omega)]
    rfl

theorem replace_toList (x y z : Str) (hy : y.cps.toList ≠ []) : (Txt.replace x y z).cps.toList = replF y.cps.toList z.cps.toList 0 x.cps.toList := by
  have hyl : (y.length == 0) = false := by
    rw [beq_eq_false_iff_ne]
    intro e
    have : y.cps.toList.length = y.length := by simp [Str.length]
    rw [e] at this
    exact hy (List.length_eq_zero_iff.mp this)
  have hb := between_parts x y hy
  rw [← join_parts, ← hb]
  unfold Txt.replace
  rw [hyl]
  simp only [Bool.false_and, Bool.or_false]
  cases he : (occurrences x y 0 x.length (x.length + 1)).isEmpty with
  | true =>
    rw [if_pos rfl, List.isEmpty_iff.mp he]
    simp [partsBetween, joinL, strSub, Str.length]
  | false =>
    rw [if_neg (by decide), glued_eq_join, join_toList]
theorem split_toList (x y : Str) (hy : y.cps.toList ≠ []) (hk : Builtin.Str.strKind y = 1) : (Txt.split x y).map (·.cps.toList) = parts y.cps.toList 0 x.cps.toList := by
  have hb := between_parts x y hy
  unfold Txt.split
  have hk1 : decide (Builtin.Str.strKind x < Builtin.Str.strKind y) = false := by
    rw [hk]
    unfold Builtin.Str.strKind
    exact decide_eq_false (by split <;> (try split) <;> omega)
  rw [hk1, Bool.or_false]
  by_cases hs : x.length < y.length
  · rw [if_pos (decide_eq_true hs), parts_short _ (by simpa [Str.length] using hs)]
    rfl
  · rw [if_neg (by simpa using hs)]
    cases he : (occurrences x y 0 x.length (x.length + 1)).isEmpty with
    | true =>
      rw [if_pos rfl, ← hb, List.isEmpty_iff.mp he]
      simp [partsBetween, strSub, Str.length]
    | false => rw [if_neg (by decide)]; exact hb

theorem replace_len {x y z : Str} (hy : y.cps.toList ≠ []) (hz : z.cps.toList.length ≤ 2) : (Txt.replace x y z).length ≤ 2 * x.length := by
  have h1 := replace_toList x y z hy
  have h2 := replF_len y.cps.toList z.cps.toList hz 0 x.cps.toList
  have e1 : (Txt.replace x y z).length = (Txt.replace x y z).cps.toList.length := by simp [Str.length]
  have e2 : x.length = x.cps.toList.length := by simp [Str.length]
  rw [e1, e2, h1]
  exact h2

theorem rep2 : ∀ l, replF [13] [10] 0 l = l.map fun c => if c = 13 then 10 else c
  | [] => rfl
  | c :: r => by
    rw [replF, rep2 r]
    by_cases h : c = 13
    · subst h; simp [rep2 r]
    · rw [if_neg (by simpa using h)]; simp [h]
theorem rep3 : ∀ l, replF [10] [13, 10] 0 l = l.flatMap fun c => if c = 10 then [13, 10] else [c]
  | [] => rfl
  | c :: r => by
    rw [replF, rep3 r]
    by_cases h : c = 10
    · subst h; simp [rep3 r]
    · rw [if_neg (by simpa using h)]; simp [h]

theorem even_list : ∀ (n : Nat) (l : List Nat), l.length ≤ n → replF [10] [13, 10] 0 (replF [13] [10] 0 (replF [13, 10] [10] 0 l)) = eolsF false l := by
  intro n
  induction n with
  | zero => intro l h; obtain rfl : l = [] := List.length_eq_zero_iff.mp (by omega); rfl
  | succ n ih =>
    intro l h
    cases l with
    | nil => rfl
    | cons c r =>
      have hr : r.length ≤ n := by simp at h; omega
      have ih' := ih r hr
      rw [rep2, rep3] at ih' ⊢
      by_cases hc : c = 13
      · subst hc
        cases r with
        | nil => rfl
        | cons d r' =>
          have ih'' := ih r' (by simp at hr; omega)
          rw [rep2, rep3] at ih''
          by_cases hd : d = 10
          · subst hd
            rw [replF, if_pos (by simp)]
            show List.flatMap _ (List.map _ ([10] ++ replF [13, 10] [10] 1 (10 :: r'))) = _
            rw [replF, eolsF, if_neg (by decide), if_pos rfl, eolsF, if_pos rfl, if_pos rfl, ← ih'']
            simp
          · rw [replF, if_neg (by simpa using hd)]
            rw [eolsF, if_neg (by decide), if_pos rfl, eols_skip (by simpa using hd), ← ih']
            simp
      · by_cases h10 : c = 10
        · subst h10
          rw [replF, if_neg (by simp), eolsF, if_pos rfl, if_neg (by decide), ← ih']
          simp
        · rw [replF, if_neg (by simp [hc]), eolsF, if_neg h10, if_neg hc, ← ih']
          simp [hc, h10]

end
section -- Ev

theorem r_replace {w : World} {A : Around} {E : Value → Shared → Prop} {h : Heap} {gn : Array GenState} {dr : Drawn} {tk : Nat} {os : OsState} {Q : Value → Shared → Prop} {x y z : Str} {t : Tok} {a b : Nat}
    (hu : 0 < a) (huv : a < b) (hne : (y == z) = false) (hsz : x.length + (x.length + 1) * z.length ≤ 16777216)
    (hQ : ∀ t' k, tk ≤ k → Q (.str (Txt.replace x y z) t') ⟨h, gn, dr, k, os⟩) :
    wpAny (model PR w) A (call (.builtin "str.replace") [.str x t, .str y a, .str z b]) Q E ⟨h, gn, dr, tk, os⟩ :=
  wpAny_with_toks (n := tk) (Nat.le_refl _) (SC.replace (Nat.ne_of_gt hu) (Nat.ne_of_gt (Nat.lt_trans hu huv)) (Nat.ne_of_lt huv) hne hsz fun t' k hk => hQ t' k hk)

def evenS (x : Str) : Str := Txt.replace (Txt.replace (Txt.replace x (Str.ofString "\r\n") (Str.ofString "\n")) (Str.ofString "\r") (Str.ofString "\n")) (Str.ofString "\n") (Str.ofString "\r\n")

theorem t_crlf : (Str.ofString "\r\n").cps.toList = [13, 10] := by decide +kernel
theorem t_cr : (Str.ofString "\r").cps.toList = [13] := by decide +kernel
theorem t_lf : (Str.ofString "\n").cps.toList = [10] := by decide +kernel
theorem evenS_eq (x : Str) : evenS x = ⟨(eolsF false x.cps.toList).toArray⟩ := by
  apply Str.ext'
  apply Array.toList_inj.mp
  unfold evenS
  rw [replace_toList _ _ _ (by rw [t_lf]; simp), replace_toList _ _ _ (by rw [t_cr]; simp), replace_toList _ _ _ (by rw [t_crlf]; simp), t_crlf, t_cr, t_lf, even_list _ _ (Nat.le_refl _)]

set_option maxHeartbeats 1000000 in
set_option pp.deepTerms.threshold 8 in
theorem c_even (w : World) {A : Around} {s : Shared} (G : Gd w s.heap) (Rm : Room A 2) {x : Str} (t : Tok) (hb : x.length ≤ 300000) :
    Pw w A (call (.ref 81) [.str x t]) (fun v _ => ∃ t', v = .str ⟨(eolsF false x.cps.toList).toArray⟩ t') s := by
  rw [← evenS_eq]
  walk_at "fill"
  obtain ⟨p, loose, mean, mg, mb, T⟩ := G.t
  refine call_pure (binds := [(Str.ofString "text", .str x t)]) G.k T.nolimit Rm.lim (by k_is) (by k_is) (BindsTo.of_eq rfl) (locs rfl) rfl rfl rfl (by decide) ?_
  intro L h₁ tk htk F
  have h0 : 0 < tk := by rw [htk]; simp
  have N : News s.heap L h₁ [] := News.nil
  have l1 := replace_len (x := x) (y := Str.ofString "\r\n") (z := Str.ofString "\n") (by rw [t_crlf]; simp) (by rw [t_lf]; simp)
  have l2 := replace_len (x := Txt.replace x (Str.ofString "\r\n") (Str.ofString "\n")) (y := Str.ofString "\r") (z := Str.ofString "\n") (by rw [t_cr]; simp) (by rw [t_lf]; simp)
  have z1 : (Str.ofString "\n").length = 1 := by decide +kernel
  have z2 : (Str.ofString "\r\n").length = 2 := by decide +kernel
  walk_at "run"
  refine MethodCall_ ?_
  refine MethodCall_ ?_
  refine MethodCall_ ?_
  walk_at "run"
  refine GM.replace ?_
  refine callWith_method1 ?_
  walk_at "run"
  refine r_replace (by omega) (by omega) (by decide +kernel) (by rw [z1]; omega) fun t1 k1 hk1 => ?_
  refine GM.replace ?_
  refine callWith_method1 ?_
  walk_at "run"
  refine r_replace (by omega) (by omega) (by decide +kernel) (by rw [z1]; omega) fun t2 k2 hk2 => ?_
  refine GM.replace ?_
  refine callWith_method1 ?_
  walk_at "run"
  refine r_replace (by omega) (by omega) (by decide +kernel) (by rw [z2]; omega) fun t3 k3 hk3 => ?_
  exact ⟨⟨_, rfl⟩, _, _, _, rfl, F⟩

end
section -- Mi

theorem preSum_take (ns : List Int) : ∀ n, preSum (fun i => ns.getD i 0) n = (ns.take n).sum
  | 0 => by simp [preSum]
  | n + 1 => by
    rw [preSum, preSum_take ns n, List.take_add_one, List.sum_append]
    congr 1
    cases h : ns[n]? with
    | none => simp [List.getD, h]
    | some a => simp [List.getD, h]
theorem take_sum_bound {ns : List Int} {B : Int} (h0 : 0 ≤ B) (hB : ∀ n ∈ ns, 0 ≤ n ∧ n ≤ B) : ∀ n : Nat, 0 ≤ (ns.take n).sum ∧ (ns.take n).sum ≤ n * B := by
  intro n
  induction n with
  | zero => simp
  | succ n ih =>
    rw [List.take_add_one, List.sum_append]
    have e : ((n + 1 : Nat) : Int) * B = n * B + B := by rw [Int.natCast_add, Int.add_mul]; simp
    rw [e]
    cases h : ns[n]? with
    | none => simp; omega
    | some a =>
      have := hB a (List.mem_of_getElem? h)
      simp
      omega

theorem r_sum {w : World} {A : Around} {E : Value → Shared → Prop} {h : Heap} {gn : Array GenState} {dr : Drawn} {tk : Nat} {os : OsState} {Q : Value → Shared → Prop} {l : Addr} {vs : List Value} {ns : List Int}
    (hl : h.IsList l vs.toArray) (hi : IntsAre vs ns) (hh : A.handled = none) (hB : ∀ n ∈ ns, 0 ≤ n ∧ n ≤ 2 ^ 32) (hlen : ns.length ≤ 2 ^ 20)
    (hQ : ∀ h' tk t', (∀ b o, h.get? b = some o → h'.get? b = some o) → Q (.int ns.sum t') ⟨h', gn, dr, tk, os⟩) :
    wpAny (model PR w) A (call (.builtin "sum") [.ref l]) Q E ⟨h, gn, dr, tk, os⟩ := by
  refine call_sum_walk ?_
  have hne : l ≠ h.objs.size := by obtain ⟨o, ho, _⟩ := hl; exact Nat.ne_of_lt (Heap.lt_size ho)
  refine wpAny_pyIter_list hl ?_
  have W := Walks.list (prog := PR) (w := w) (A := A.in1) hh h.objs.size l hne vs.toArray
  have hlen' : vs.toArray.size = ns.length := by simp [hi.length]
  rw [hlen'] at W
  refine ⟨_, _, _, _, _, _, fun i => ns.getD i 0, rfl, W, ⟨⟨_, Heap.get?_push_size _ rfl, rfl, rfl⟩, hl.at fun o e => Heap.get?_push_of_some _ e⟩, ?_, ?_, ?_, ?_⟩
  · intro b hb
    rw [Heap.size_push]
    rcases List.mem_cons.mp hb with e | hb
    · rw [e]; exact Nat.lt_succ_self _
    · rw [List.mem_singleton.mp hb]
      obtain ⟨o, ho, _⟩ := hl
      exact Nat.lt_succ_of_lt (Heap.lt_size ho)
  · intro i v hv
    have hv' : vs[i]? = some v := by simpa using hv
    have hlt : i < ns.length := by
      rw [← hi.length]
      exact (List.getElem?_eq_some_iff.mp hv').1
    obtain ⟨t, hx⟩ := hi.get i ns[i] (by simp [hlt])
    rw [hx] at hv'
    cases hv'
    exact ⟨t, by simp [List.getD, hlt]⟩
  · intro j hj
    have h1 := hB ns[j] (List.getElem_mem hj)
    have e1 : ns.getD j 0 = ns[j] := by simp [List.getD, hj]
    rw [preSum_take]
    have h2 := take_sum_bound (by decide) hB (j + 1)
    unfold InLong
    dsimp only
    rw [e1]
    have h3 : ((j + 1 : Nat) : Int) * 2 ^ 32 ≤ 2 ^ 20 * 2 ^ 32 := Int.mul_le_mul_of_nonneg_right (by omega) (by decide)
    have e4 : (2 : Int) ^ 20 * 2 ^ 32 = 4503599627370496 := by decide
    rw [e4] at h3
    have e5 : (2 : Int) ^ 63 = 9223372036854775808 := by decide
    rw [e5]
    have e6 : (2 : Int) ^ 32 = 4294967296 := by decide
    rw [e6] at h1
    omega
  · intro h' tk' t' hk
    rw [preSum_take, List.take_length]
    refine hQ h' tk' t' fun b o e => hk b o (fun q => absurd (Heap.lt_size e) (by rw [List.mem_singleton.mp q]; exact Nat.lt_irrefl _)) (Heap.get?_push_of_some _ e)

def mirror (r : Nat) : Nat := ((List.range 32).map fun k => r / 2 ^ k % 2 * 2 ^ (31 - k)).sum

theorem cell_of {h₀ : Heap} {L : Addr} {h : Heap} {cells : List (Addr × Obj)} {cm : Str → Option Value} {n : Str} {c : Addr} {v : Value} (N : News h₀ L h cells) (Y : CellsAre cm [(n, c)] cells) (hv : cm n = some v) : h.IsCell c (some v) := by
  obtain ⟨o, rfl, hd⟩ := Y.one
  exact ⟨o, (N (c, o) (by simp)).1, by rw [hd, hv]⟩
theorem cell_keeps {h h' : Heap} {c : Addr} {v : Option Value} (x : h.IsCell c v) (hk : ∀ b o, h.get? b = some o → h'.get? b = some o) : h'.IsCell c v := let ⟨o, ho, r⟩ := x; ⟨o, hk _ _ ho, r⟩

set_option maxHeartbeats 1000000 in
set_option pp.deepTerms.threshold 8 in
theorem c_mirror (w : World) {A : Around} {s : Shared} (G : Gd w s.heap) (Rm : Room A 2) {r : Nat} (t : Tok) :
    Pw w A (call (.ref 74) [.int (r : Int) t]) (fun v _ => ∃ t', v = .int (mirror r : Nat) t') s := by
  walk_at "fill"
  obtain ⟨p, loose, mean, mg, mb, T⟩ := G.t
  refine call_pureC (binds := [(Str.ofString "rest", .int (r : Int) t)]) G.k T.nolimit Rm.lim (by k_is) (by k_is) (BindsTo.of_eq rfl) rfl (by decide) rfl rfl rfl ?_
  intro L h₁ tk cells F N Y
  have hc : h₁.IsCell (L + 1) (some (.int (r : Int) t)) := cell_of N Y rfl
  clear Y
  have G₁ : Gd w h₁ := G.keeps F.keep
  walk_at "run"
  walk_at "cb"
  walk_at "cw"
  walk_at "run"
  walk_at "lc"
  walk_at "run"
  walk_at "cb"
  walk_at "run"
  refine r_range1 fun h' t' u' v' hr he => ?_
  have hk' : ∀ b o, h₁.get? b = some o → h'.get? b = some o := fun b o e => by rw [he]; exact Heap.get?_push_of_some _ e
  refine lc_range (a' := 0) (b' := 32) (fun _ => true) (fun k v => ∃ t, v = .int (r / 2 ^ k % 2 * 2 ^ (31 - k) : Nat) t) rfl rfl Rm.handled hr (by decide) (by decide) ?_ ?_ ?_
  · intro C k tv h₃ gn₃ dr₃ tk₃ os₃ m₃ E' hk1 hk2 hn hm hkp hC
    exact ifs_nil ⟨rfl, keeps_refl⟩
  · intro C k tv h₃ gn₃ dr₃ tk₃ os₃ m₃ E' hk1 hk2 _ hn hm hkp hC
    have hc3 := cell_keeps (cell_keeps hc hk') hkp
    have p1 : 2 ^ k ≠ 0 := by have := Nat.two_pow_pos k; omega
    have p2 : 2 ^ k < 2 ^ 64 := Nat.pow_lt_pow_right (by decide) (by omega)
    have p3 : r / 2 ^ k % 2 < 2 ^ 64 := Nat.lt_trans (Nat.mod_lt _ (by decide)) (by decide)
    walk_at "run"
    walk_at "cc"
    walk_at "run"
    walk_at "cl"
    walk_at "run"
    walk_at "cl"
    walk_at "run"
    exact ⟨⟨_, rfl⟩, keeps_refl⟩
  · intro D h'' tk'' ys hD hpl hp hkp
    have hi := ints_of (f := fun k => r / 2 ^ k % 2 * 2 ^ (31 - k)) (paired_all (fun _ => rfl) hp)
    walk_at "run"
    refine r_sum (vs := ys.toList) hpl.isList hi Rm.handled ?_ ?_ fun h3 tk3 t3 hk3 => ?_
    · intro n hn
      obtain ⟨k, hk, rfl⟩ := List.mem_map.mp hn
      have h1 : r / 2 ^ k % 2 ≤ 1 := by have := Nat.mod_lt (r / 2 ^ k) (show 0 < 2 by decide); omega
      have h2 : 2 ^ (31 - k) ≤ 2 ^ 31 := Nat.pow_le_pow_right (by decide) (by omega)
      have h3 : r / 2 ^ k % 2 * 2 ^ (31 - k) ≤ 1 * 2 ^ 31 := Nat.mul_le_mul h1 h2
      exact ⟨by omega, by omega⟩
    · simp
    · refine ⟨⟨t3, ?_⟩, _, _, _, rfl, ((F.keeps hk').keeps hkp).keeps hk3⟩
      show Value.int _ t3 = _
      rw [sum_cast, mirror, List.range_eq_range']

end
section -- Loops2

section
variable {w : World} {A : Around} {E : Value → Shared → Prop} {H : Heap} {gn : Array GenState} {dr : Drawn} {tk₀ : Nat} {os : OsState} {env : Env} {h₀ : Heap} {x : Str} {body : List Stmt} {Q : Flow → Shared → Prop} {L : Addr} {m₀ : Str → Option Value} {news : List (Addr × Obj)}

theorem it_bytes {b : Array UInt8} {t : Tok} (J : Nat → (Str → Option Value) → List (Addr × Obj) → Prop) (hL : env.locals = L)
    (hh : A.handled = none) (F : Fr h₀ L H m₀) (N : News h₀ L H news) (hj : J 0 m₀ news)
    (turn : ∀ (i : Nat) (c : UInt8) t m₁ news₁ h tk own, b[i]? = some c → news₁.map (·.1) = news.map (·.1) → OwnOff own (news.map (·.1)) → J i m₁ news₁ → Fr h₀ L h (fun y => if y = x then some (.int (c.toNat : Nat) t) else m₁ y) → News h₀ L h (news₁ ++ own) →
      wpAny (model PR w) A (execs body env) (InvPostN h₀ L (J (i + 1)) own (news.map (·.1)) ⟨h, gn, dr, tk, os⟩ Q) E ⟨h, gn, dr, tk, os⟩)
    (done : ∀ m₁ news₁ h tk, J b.size m₁ news₁ → Fr h₀ L h m₁ → News h₀ L h news₁ → Q .next ⟨h, gn, dr, tk, os⟩) :
    wpAny (model PR w) A (pyIter (.bytes b t)) (fun it s₂ => LoopAtV PR w A h₀ env x body Q E it s₂) E ⟨H, gn, dr, tk₀, os⟩ := by
  refine KBw.pyIter_bytes ?_
  have W := KBw.walks (prog := PR) (w := w) hh H.objs.size b t
  refine it_walk J hL W ?_ ?_ ?_ ?_ ⟨_, Heap.get?_push_size _ rfl, rfl, rfl⟩ (F.push _) (fun p hp => ⟨Heap.get?_push_of_some _ (N p hp).1, (N p hp).2⟩) hj ?_ done
  · intro hm
    exact absurd F.ns.lt ((List.mem_singleton.mp hm) ▸ Nat.lt_irrefl _)
  · intro b hb
    rw [List.mem_singleton.mp hb]
    exact next_is_new F
  · intro p hp hI
    exact absurd (Heap.lt_size (N p hp).1) ((List.mem_singleton.mp hI) ▸ Nat.lt_irrefl _)
  · intro p hp hI
    exact absurd (Heap.lt_size (N p hp).1) ((List.mem_singleton.mp hI) ▸ Nat.lt_irrefl _)
  · rintro i v m₁ nx h tk own hi ⟨c, t, hc, rfl⟩ hm hoff hJ F₁ N₁
    exact turn i c t m₁ nx h tk own hc hm hoff hJ F₁ N₁

theorem it_str {xs : Str} {t : Tok} (J : Nat → (Str → Option Value) → List (Addr × Obj) → Prop) (hL : env.locals = L)
    (hh : A.handled = none) (F : Fr h₀ L H m₀) (N : News h₀ L H news) (hj : J 0 m₀ news)
    (turn : ∀ (i : Nat) (c : Nat) t m₁ news₁ h tk own, xs.cps[i]? = some c → news₁.map (·.1) = news.map (·.1) → OwnOff own (news.map (·.1)) → J i m₁ news₁ → Fr h₀ L h (fun y => if y = x then some (.str ⟨#[c]⟩ t) else m₁ y) → News h₀ L h (news₁ ++ own) →
      wpAny (model PR w) A (execs body env) (InvPostN h₀ L (J (i + 1)) own (news.map (·.1)) ⟨h, gn, dr, tk, os⟩ Q) E ⟨h, gn, dr, tk, os⟩)
    (done : ∀ m₁ news₁ h tk, J xs.cps.size m₁ news₁ → Fr h₀ L h m₁ → News h₀ L h news₁ → Q .next ⟨h, gn, dr, tk, os⟩) :
    wpAny (model PR w) A (pyIter (.str xs t)) (fun it s₂ => LoopAtV PR w A h₀ env x body Q E it s₂) E ⟨H, gn, dr, tk₀, os⟩ := by
  refine wpAny_pyIter_str fun o St hW hst => ?_
  have W := hW A hh
  refine it_walk J hL W ?_ ?_ ?_ ?_ hst (F.push _) (fun p hp => ⟨Heap.get?_push_of_some _ (N p hp).1, (N p hp).2⟩) hj ?_ done
  · intro hm
    exact absurd F.ns.lt ((List.mem_singleton.mp hm) ▸ Nat.lt_irrefl _)
  · intro b hb
    rw [List.mem_singleton.mp hb]
    exact next_is_new F
  · intro p hp hI
    exact absurd (Heap.lt_size (N p hp).1) ((List.mem_singleton.mp hI) ▸ Nat.lt_irrefl _)
  · intro p hp hI
    exact absurd (Heap.lt_size (N p hp).1) ((List.mem_singleton.mp hI) ▸ Nat.lt_irrefl _)
  · rintro i v m₁ nx h tk own hi ⟨c, t, hc, rfl⟩ hm hoff hJ F₁ N₁
    exact turn i c t m₁ nx h tk own hc hm hoff hJ F₁ N₁

/-- a list that stood ahead of the call -/
theorem it_list {l : Addr} {vs : List Value} (J : Nat → (Str → Option Value) → List (Addr × Obj) → Prop) (hL : env.locals = L)
    (hh : A.handled = none) (hl : h₀.IsList l vs.toArray) (F : Fr h₀ L H m₀) (N : News h₀ L H news) (hj : J 0 m₀ news)
    (turn : ∀ (i : Nat) v m₁ news₁ h tk own, vs[i]? = some v → news₁.map (·.1) = news.map (·.1) → OwnOff own (news.map (·.1)) → J i m₁ news₁ → Fr h₀ L h (fun y => if y = x then some v else m₁ y) → News h₀ L h (news₁ ++ own) →
      wpAny (model PR w) A (execs body env) (InvPostN h₀ L (J (i + 1)) own (news.map (·.1)) ⟨h, gn, dr, tk, os⟩ Q) E ⟨h, gn, dr, tk, os⟩)
    (done : ∀ m₁ news₁ h tk, J vs.length m₁ news₁ → Fr h₀ L h m₁ → News h₀ L h news₁ → Q .next ⟨h, gn, dr, tk, os⟩) :
    wpAny (model PR w) A (pyIter (.ref l)) (fun it s₂ => LoopAtV PR w A h₀ env x body Q E it s₂) E ⟨H, gn, dr, tk₀, os⟩ := by
  have hls : H.IsList l vs.toArray := hl.at fun o e => F.keep l o e
  obtain ⟨ol, hol, _⟩ := id hl
  have hlt : l < h₀.objs.size := Heap.lt_size hol
  have hne : l ≠ H.objs.size := Nat.ne_of_lt (Nat.lt_trans (Nat.lt_of_lt_of_le hlt F.above) F.ns.lt)
  refine wpAny_pyIter_list hls ?_
  have W := Walks.list (prog := PR) (w := w) hh H.objs.size l hne vs.toArray
  have hlen : vs.toArray.size = vs.length := by simp
  rw [hlen] at W
  refine it_walk J hL W ?_ ?_ ?_ ?_ ⟨⟨_, Heap.get?_push_size _ rfl, rfl, rfl⟩, hls.at fun o e => Heap.get?_push_of_some _ e⟩ (F.push _) (fun p hp => ⟨Heap.get?_push_of_some _ (N p hp).1, (N p hp).2⟩) hj ?_ done
  · intro hm
    rcases List.mem_cons.mp hm with e | hm
    · exact absurd F.ns.lt (e ▸ Nat.lt_irrefl _)
    · exact absurd (Nat.lt_of_lt_of_le hlt F.above) ((List.mem_singleton.mp hm) ▸ Nat.lt_irrefl _)
  · intro b hb
    rw [List.mem_singleton.mp hb]
    exact next_is_new F
  · intro p hp hI
    exact absurd (Heap.lt_size (N p hp).1) ((List.mem_singleton.mp hI) ▸ Nat.lt_irrefl _)
  · intro p hp hI
    rcases List.mem_cons.mp hI with e | hm
    · exact absurd (Heap.lt_size (N p hp).1) (e ▸ Nat.lt_irrefl _)
    · have := (N p hp).2.2
      rw [List.mem_singleton.mp hm, hol] at this
      cases this
  · rintro i v m₁ nx h tk own hi hv hm hoff hJ F₁ N₁
    exact turn i v m₁ nx h tk own (by simpa using hv) hm hoff hJ F₁ N₁
end

end
section -- Su

def crcStep (c o : Nat) : Nat := genCrc (c ^^^ o)
def crcOf (c : Nat) (l : List UInt8) : Nat := l.foldl (fun c o => crcStep c o.toNat) c

set_option maxHeartbeats 1000000 in
set_option pp.deepTerms.threshold 8 in
theorem c_sum (w : World) {A : Around} {s : Shared} (G : Gd w s.heap) (Rm : Room A 5) {b : Array UInt8} (t : Tok) :
    Pw w A (call (.ref 110) [.bytes b t]) (fun v _ => ∃ t', v = .int (crcOf 4294967295 b.toList : Nat) t') s := by
  walk_at "fill"
  obtain ⟨p, loose, mean, mg, mb, T⟩ := G.t
  refine call_pure (binds := [(Str.ofString "octets", .bytes b t)]) G.k T.nolimit Rm.lim (by k_is) (by k_is) (BindsTo.of_eq rfl) (locs rfl) rfl rfl rfl (by decide) ?_
  intro L h₁ tk _ F
  have N : News s.heap L h₁ [] := News.nil
  walk_at "run"
  refine For_invV s.heap rfl rfl ?_
  walk_at "run"
  refine it_bytes (L := L) (b := b) (news := []) (fun i m _ => ∃ t, m (Str.ofString "crc") = some (.int (crcOf 4294967295 (b.toList.take i) : Nat) t)) rfl Rm.handled (by assumption) (by assumption) ⟨_, rfl⟩ ?_ ?_
  · rintro i c t' m₁ news₁ h tk own hc hnm _ ⟨tc, hm⟩ F₁ N₁
    walk_at "run"
    walk_at "gl"
    walk_at "cd"
    walk_at "run"
    have G₁ := G.keeps F₁.keep
    refine ⟨G₁.k, ?_⟩
    refine use (c_gen_crc w G₁ ((Rm.deeper _).less (by decide)) _ _) fun v h' tk' hv hk => ?_
    obtain ⟨t2, rfl⟩ := hv
    have F₂ := F₁.keeps hk
    have N₂ := N₁.grown hk
    walk_at "run"
    refine inv_end (by assumption) (by assumption) hnm ?_
    refine set_int ?_
    obtain ⟨hi, rfl⟩ := Array.getElem?_eq_some_iff.mp hc
    rw [crcOf, crcOf, List.take_add_one, List.getElem?_eq_getElem (by simpa using hi), Option.toList_some, List.foldl_append]
    rfl
  · rintro m₁ news₁ h tk ⟨tc, hm⟩ F₁ N₁
    walk_at "run"
    rw [← Array.length_toList, List.take_length]
    exact ⟨⟨_, rfl⟩, _, _, _, rfl, F₁⟩

end
section -- Fro

theorem r_lenb {w : World} {A : Around} {E : Value → Shared → Prop} {h : Heap} {gn : Array GenState} {dr : Drawn} {tk : Nat} {os : OsState} {Q : Value → Shared → Prop} {b : Array UInt8} {t : Tok} (hb : b.size ≤ 16777216) (hQ : ∀ t' k, Q (.int (b.size : Nat) t') ⟨h, gn, dr, k, os⟩) :
    wpAny (model PR w) A (call (.builtin "len") [.bytes b t]) Q E ⟨h, gn, dr, tk, os⟩ := len_bytes (by omega) (hQ _ _)
theorem r_itemb {w : World} {A : Around} {E : Value → Shared → Prop} {h : Heap} {gn : Array GenState} {dr : Drawn} {tk : Nat} {os : OsState} {Q : Value → Shared → Prop} {b : Array UInt8} {t u : Tok} {i : Int} {k : Nat} {value slice : Expr} (hi : i = k) (hk : k < b.size) (hb : b.size ≤ 16777216)
    (hQ : ∀ t' k', Q (.int ((b.getD k 0).toNat : Nat) t') ⟨h, gn, dr, k', os⟩)
    (hs : subscripted slice false (.bytes b t) (.int i u) = operate [.bytes b t, .int i u] (getItem (.bytes b t) (.int i u)))
    (ht : ∀ r, letTemporaryGo value (.bytes b t) r = pure ()) :
    wpAny (model PR w) A (subscriptTail value slice (.bytes b t) (.int i u)) Q E ⟨h, gn, dr, tk, os⟩ := by
  subst hi
  refine KBw.item_K rfl (by rw [KBw.ints_length]; omega) (by omega) (by rw [KBw.ints_length]; omega) (fun t' k' _ _ => ?_) hs ht
  have e : (KBw.bInts b).getD ((k : Int)).toNat 0 = ((b.getD k 0).toNat : Int) := by
    rw [Int.toNat_natCast, List.getD_eq_getElem?_getD, KBw.ints_get (c := b[k]) (by simp [hk])]
    simp [hk]
  rw [e]
  exact hQ _ _

theorem ifs_one {M : Model} {A : Around} {env' : Env} {c : Expr} {Q' : Bool → Shared → Prop} {E' : Value → Shared → Prop} {s : Shared} (h : wpAny M A (isTrue c env' (eval c env')) Q' E' s) :
    wpAny M A (forIn [c] true fun c r => if r = true then do let ok ← isTrue c env' (eval c env'); pure (ForInStep.yield ok) else pure (ForInStep.yield r)) Q' E' s := by
  rw [List.forIn_cons]
  refine wpAny_bind ?_
  rw [if_pos rfl]
  refine wpAny_bind (wpAny_mono h (fun ok s' hq => wpAny_pure ?_) fun _ _ e => e)
  exact wpAny_pure hq

def isFront (b : Array UInt8) (k : Nat) : Bool := decide ((b.getD k 0).toNat = 46) && (decide (k = 0) || decide ((b.getD (k - 1) 0).toNat = 10))
def frontsOf (b : Array UInt8) : List Nat := (List.range' 0 b.size).filter (isFront b)

set_option maxHeartbeats 1000000 in
set_option pp.deepTerms.threshold 8 in
theorem c_fronts (w : World) {A : Around} {s : Shared} (G : Gd w s.heap) (Rm : Room A 2) {b : Array UInt8} (t : Tok) (hb : b.size ≤ 8000000) :
    Pw w A (call (.ref 115) [.bytes b t]) (fun v h' => ∃ D ys, v = .ref D ∧ s.heap.get? D = none ∧ h'.PlainList D ys ∧ Paired decN (frontsOf b) ys.toList) s := by
  walk_at "fill"
  obtain ⟨p, loose, mean, mg, mb, T⟩ := G.t
  refine call_pureC (binds := [(Str.ofString "octets", .bytes b t)]) G.k T.nolimit Rm.lim (by k_is) (by k_is) (BindsTo.of_eq rfl) rfl (by decide) rfl rfl rfl ?_
  intro L h₁ tk cells F N Y
  have hc : h₁.IsCell (L + 1) (some (.bytes b t)) := cell_of N Y rfl
  clear Y
  have G₁ : Gd w h₁ := G.keeps F.keep
  walk_at "run"
  walk_at "lc"
  walk_at "run"
  walk_at "cb"
  walk_at "run"
  walk_at "cb"
  walk_at "cw"
  walk_at "run"
  walk_at "cc"
  walk_at "run"
  refine r_lenb (by omega) fun t1 k1 => ?_
  walk_at "run"
  refine r_range1 fun h' t' u' v' hr he => ?_
  have hk' : ∀ b o, h₁.get? b = some o → h'.get? b = some o := fun b o e => by rw [he]; exact Heap.get?_push_of_some _ e
  refine lc_range (a' := 0) (b' := b.size) (isFront b) decN rfl rfl Rm.handled hr (by omega) (by omega) ?_ ?_ ?_
  · intro C k tv h₃ gn₃ dr₃ tk₃ os₃ m₃ E' hk1 hk2 hn hm hkp hC
    have hc3 := cell_keeps (cell_keeps hc hk') hkp
    refine ifs_one ?_
    walk_at "run"
    walk_at "cc"
    walk_at "run"
    walk_at "cl"
    refine r_itemb rfl hk2 (by omega) (fun t2 k2 => ?_) (by with_unfolding_all rfl) (by intro _; with_unfolding_all rfl)
    walk_at "run"
    refine split_dec (fun h46 => ?_) fun h46 => ?_
    · walk_at "run"
      walk_at "cl"
      walk_at "run"
      refine split_dec (fun h0 => ?_) fun h0 => ?_
      · refine ite_pos rfl ?_
        walk_at "run"
        exact ⟨by unfold isFront; rw [decide_eq_true h46, decide_eq_true h0]; rfl, keeps_refl⟩
      · walk_at "run"
        walk_at "cc"
        walk_at "run"
        walk_at "cl"
        walk_at "run"
        refine r_itemb rfl (show k - 1 < b.size by omega) (by omega) (fun t2 k2 => ?_) (by with_unfolding_all rfl) (by intro _; with_unfolding_all rfl)
        walk_at "run"
        refine split_dec (fun h10 => ?_) fun h10 => ?_
        · refine ite_pos rfl ?_
          walk_at "run"
          exact ⟨by unfold isFront; rw [decide_eq_true h46, decide_eq_true h10, Bool.or_true]; rfl, keeps_refl⟩
        · walk_at "run"
          exact ⟨by unfold isFront; rw [decide_eq_true h46, decide_eq_false h10, decide_eq_false h0]; rfl, keeps_refl⟩
    · exact ⟨by unfold isFront; rw [decide_eq_false h46]; rfl, keeps_refl⟩
  · intro C k tv h₃ gn₃ dr₃ tk₃ os₃ m₃ E' hk1 hk2 _ hn hm hkp hC
    walk_at "cl"
    exact ⟨⟨_, rfl⟩, keeps_refl⟩
  · intro D h'' tk'' ys hD hpl hp hkp
    refine ⟨⟨D, ys, rfl, ?_, hpl, hp⟩, _, _, _, rfl, (F.keeps hk').keeps hkp⟩
    cases e : s.heap.get? D with
    | none => rfl
    | some o => rw [hk' _ _ (F.keep _ _ e)] at hD; cases hD

end
section -- Dt

section
variable {w : World} {A : Around} {E : Value → Shared → Prop} {h : Heap} {gn : Array GenState} {dr : Drawn} {tk : Nat} {os : OsState} {Q : Value → Shared → Prop} {env : Env}

theorem r_slice_nc {j : Int} {k : Nat} {p' p : Pos} (hQ : Q (.ref h.objs.size) ⟨h.push { cls := .type "slice", data := .fields #[.none, .int j tk, .none] }, gn, dr, tk + 1, os⟩) :
    wpAny (model PR w) A (eval (.Slice none (some (.Constant (.int j) k p')) none p) env) Q E ⟨h, gn, dr, tk, os⟩ :=
  wpAny_Slice (evalPart_none_step (evalPart_some_step (wpAny_Constant_int (evalPart_none_step hQ))))
theorem r_slstr {x : Str} {t : Tok} {j : Int} {uj : Tok} {value slice : Expr} (hsz : x.length ≤ 16000000)
    (hQ : ∀ h' t' k, (∀ b o, h.get? b = some o → h'.get? b = some o) → Q (.str (Txt.slice x none (some j)) t') ⟨h', gn, dr, k, os⟩)
    (hs : subscripted slice false (.str x t) (.ref h.objs.size) = operate [.ref h.objs.size, .str x t] (getItem (.str x t) (.ref h.objs.size)))
    (ht : ∀ r, letTemporaryGo value (.str x t) r = pure ()) :
    wpAny (model PR w) A (subscriptTail value slice (.str x t) (.ref h.objs.size)) Q E ⟨h.push { cls := .type "slice", data := .fields #[.none, .int j uj, .none] }, gn, dr, tk, os⟩ :=
  tail_of_ItemOn (SBH.sliceItem_ns (s := ⟨h, gn, dr, tk, os⟩) (P := fun h' => ∀ b o, h.get? b = some o → h'.get? b = some o) (fun _ _ a b o e => Heap.get?_push_of_some _ (a b o e)) (fun _ _ e => e) (fun h' t' k a => hQ h' t' k a) (by rw [sizeLine_eq]; omega)) hs ht
theorem r_adds {x y : Str} {t u : Tok} (hsz : x.length + y.length ≤ 16000000) (hQ : ∀ t' k, Q (.str (x ++ y) t') ⟨h, gn, dr, k, os⟩) : wpAny (model PR w) A (binaryOp .Add (.str x t) (.str y u)) Q E ⟨h, gn, dr, tk, os⟩ :=
  SB.add (fun t' k => hQ t' k) (by rw [sizeLine_eq]; omega)
theorem r_eqs {x y : Str} {t u : Tok} (hQ : Q (.bool (decide (x = y))) ⟨h, gn, dr, tk, os⟩) : wpAny (model PR w) A (compareOp .Eq (.str x t) (.str y u)) Q E ⟨h, gn, dr, tk, os⟩ := by
  refine P.eq_str ?_
  have e : (x.cps.toList == y.cps.toList) = decide (x = y) := by
    rw [Bool.eq_iff_iff, beq_iff_eq, decide_eq_true_eq, Array.toList_inj]
    exact ⟨fun e => Str.ext' e, fun e => by rw [e]⟩
  rw [e]; exact hQ
theorem r_split {x y : Str} {t u : Tok} (hy : (y.length == 0) = false) (hsz : x.length ≤ 8000000) (hp : (Builtin.Str.partsBetween x (Builtin.Str.occurrences x y 0 x.length (x.length + 1)) y.length).length ≤ 16000000)
    (hQ : ∀ D l h' k, l.map (·.1) = Txt.split x y → (∀ b o, h.get? b = some o → h'.get? b = some o) → h'.IsList D (strValues l).toArray → Q (.ref D) ⟨h', gn, dr, k, os⟩) :
    wpAny (model PR w) A (call (.builtin "str.split") [.str x t, .str y u]) Q E ⟨h, gn, dr, tk, os⟩ := by
  refine SCG.split1 (Fm := fun s' => ∃ h' k, s' = ⟨h', gn, dr, k, os⟩ ∧ ∀ b o, h.get? b = some o → h'.get? b = some o) ?_ ⟨h, tk, rfl, fun _ _ e => e⟩ hy ?_ (by rw [sizeLine_eq]; omega) (by rw [sizeLine_eq]; omega)
  · rintro s' ob k ⟨h', k', rfl, hk⟩
    exact ⟨_, _, rfl, fun b o e => Heap.get?_push_of_some _ (hk b o e)⟩
  · rintro D l s' hl ⟨h', k, rfl, hk⟩ hi
    exact hQ D l h' k hl hk hi
end

def dot1 (p : List Nat) : List Nat := if p.take 1 = [46] then 46 :: p else p
theorem slice1 (x : Str) : (Txt.slice x none (some 1)).cps.toList = x.cps.toList.take 1 := by
  by_cases h : x.cps.toList.length = 0
  · have hx : x = Str.empty := by
      apply Str.ext'
      apply Array.toList_inj.mp
      rw [List.length_eq_zero_iff.mp h]
      rfl
    subst hx
    decide +kernel
  · have := beq_iff_eq.mp (slice_closes_to (x := x) (j := 1) ⟨by omega, by omega⟩)
    rw [this]
    simp

theorem parts_count (y : List Nat) : ∀ k l, (parts y k l).length ≤ l.length + 1
  | _, [] => by rw [parts]; simp
  | k + 1, _ :: r => by rw [parts]; have := parts_count y k r; simp; omega
  | 0, c :: r => by
    rw [parts]
    split
    · have := parts_count y (y.length - 1) r; simp; omega
    · have := parts_count y 0 r
      obtain ⟨p, ps, e⟩ := parts_ne y 0 r
      rw [e] at this ⊢
      simp [hcons] at this ⊢
      omega

/-- the octets of the text with a dot more at each row that begins with one -/
def dottedL (y l : List Nat) : List Nat := joinL y ((parts y 0 l).map dot1)

theorem strs_of {α : Type} {f : α → Str} : ∀ {ks : List α} {vs : List Value}, Paired (fun k v => ∃ t, v = Value.str (f k) t) ks vs → ∃ l : List (Str × Tok), vs = strValues l ∧ l.map (·.1) = ks.map f
  | _, _, .nil => ⟨[], rfl, rfl⟩
  | _, _, .cons ⟨t, e⟩ h => by
    subst e
    obtain ⟨l, e1, e2⟩ := strs_of h
    exact ⟨(_, t) :: l, by rw [e1]; rfl, by rw [List.map_cons, e2]; rfl⟩
theorem paired_strs : ∀ (l : List (Str × Tok)), Paired decS (l.map (·.1)) (strValues l)
  | [] => .nil
  | (_, t) :: l => .cons ⟨t, rfl⟩ (paired_strs l)

end
section -- Dt2

def dotS (x : Str) : Str := if Txt.slice x none (some 1) = Str.ofString "." then Str.ofString "." ++ x else x
theorem t_dot : (Str.ofString ".").cps.toList = [46] := by decide +kernel
theorem dotS_toList (x : Str) : (dotS x).cps.toList = dot1 x.cps.toList := by
  unfold dotS dot1
  have h : Txt.slice x none (some 1) = Str.ofString "." ↔ x.cps.toList.take 1 = [46] := by
    rw [← slice1, ← t_dot, Array.toList_inj]
    exact ⟨fun e => by rw [e], fun e => Str.ext' e⟩
  by_cases hc : x.cps.toList.take 1 = [46]
  · rw [if_pos hc, if_pos (h.mpr hc), Str.cps_append, Array.toList_append, t_dot]; rfl
  · rw [if_neg hc, if_neg (fun q => hc (h.mp q))]

theorem dot1_len (p : List Nat) : (dot1 p).length ≤ p.length + 1 := by unfold dot1; split <;> simp
theorem joinL_len (z : List Nat) : ∀ ps : List (List Nat), (joinL z ps).length ≤ (ps.map List.length).sum + ps.length * z.length
  | [] => by simp [joinL]
  | [p] => by simp [joinL]
  | p :: q :: ps => by
    rw [joinL_cons (by simp)]
    have := joinL_len z (q :: ps)
    simp only [List.length_append, List.map_cons, List.sum_cons, List.length_cons] at this ⊢
    have e : (ps.length + 1 + 1) * z.length = (ps.length + 1) * z.length + z.length := by rw [Nat.add_mul (ps.length + 1)]; simp
    omega
theorem parts_sum (y : List Nat) : ∀ k l, ((parts y k l).map List.length).sum ≤ l.length
  | _, [] => by rw [parts]; simp
  | k + 1, _ :: r => by rw [parts]; have := parts_sum y k r; simp; omega
  | 0, c :: r => by
    rw [parts]
    split
    · have := parts_sum y (y.length - 1) r; simp; omega
    · have := parts_sum y 0 r
      obtain ⟨p, ps, e⟩ := parts_ne y 0 r
      rw [e] at this ⊢
      simp [hcons] at this ⊢
      omega
theorem dot_sum : ∀ ps : List (List Nat), ((ps.map dot1).map List.length).sum ≤ (ps.map List.length).sum + ps.length
  | [] => by simp
  | p :: ps => by
    have := dot_sum ps
    have := dot1_len p
    simp only [List.map_cons, List.sum_cons, List.length_cons] at *
    omega
theorem dotted_len (y l : List Nat) (hy : y.length ≤ 2) : (dottedL y l).length ≤ 4 * l.length + 3 := by
  unfold dottedL
  have h1 := joinL_len y ((parts y 0 l).map dot1)
  have h2 := dot_sum (parts y 0 l)
  have h3 := parts_sum y 0 l
  have h4 := parts_count y 0 l
  have h5 : ((parts y 0 l).map dot1).length * y.length ≤ (l.length + 1) * 2 := Nat.mul_le_mul (by simpa using h4) hy
  omega
theorem joinL_mem {z : List Nat} {c : Nat} : ∀ {ps : List (List Nat)}, c ∈ joinL z ps → c ∈ z ∨ ∃ p ∈ ps, c ∈ p
  | [], h => by simp [joinL] at h
  | [p], h => .inr ⟨p, by simp, h⟩
  | p :: q :: ps, h => by
    rw [joinL_cons (by simp), List.mem_append, List.mem_append] at h
    rcases h with (h | h) | h
    · exact .inr ⟨p, by simp, h⟩
    · exact .inl h
    · rcases joinL_mem h with h | ⟨r, hr, hc⟩
      · exact .inl h
      · exact .inr ⟨r, by simp at hr ⊢; exact .inr hr, hc⟩
theorem parts_mem {y : List Nat} {c : Nat} : ∀ {k : Nat} {l p : List Nat}, p ∈ parts y k l → c ∈ p → c ∈ l
  | _, [], p, h, hc => by rw [parts] at h; simp at h; subst h; simp at hc
  | k + 1, _ :: r, p, h, hc => by rw [parts] at h; exact List.mem_cons_of_mem _ (parts_mem h hc)
  | 0, d :: r, p, h, hc => by
    rw [parts] at h
    split at h
    · rcases List.mem_cons.mp h with rfl | h
      · simp at hc
      · exact List.mem_cons_of_mem _ (parts_mem h hc)
    · obtain ⟨q, qs, e⟩ := parts_ne y 0 r
      rw [e] at h
      simp [hcons] at h
      rcases h with rfl | h
      · rcases List.mem_cons.mp hc with rfl | hc
        · simp
        · exact List.mem_cons_of_mem _ (parts_mem (by rw [e]; simp) hc)
      · exact List.mem_cons_of_mem _ (parts_mem (by rw [e]; simp [h]) hc)
theorem dotted_lt {y l : List Nat} (hy : ∀ c ∈ y, c < 256) (hl : ∀ c ∈ l, c < 256) : ∀ c ∈ dottedL y l, c < 256 := by
  intro c hc
  rcases joinL_mem hc with h | ⟨p, hp, hc⟩
  · exact hy c h
  · obtain ⟨q, hq, rfl⟩ := List.mem_map.mp hp
    unfold dot1 at hc
    split at hc
    · rcases List.mem_cons.mp hc with rfl | hc
      · decide
      · exact hl c (parts_mem hq hc)
    · exact hl c (parts_mem hq hc)

theorem mem_le_sum : ∀ {l : List Nat} {n : Nat}, n ∈ l → n ≤ l.sum
  | _ :: l, n, h => by
    rcases List.mem_cons.mp h with rfl | h
    · simp
    · have := mem_le_sum h; simp; omega
theorem joinOk_of {x y : Str} (hy : y.cps.toList ≠ []) (hk : Builtin.Str.strKind y = 1) (hy2 : y.cps.toList.length ≤ 2) (hb : x.length ≤ 100000) : JoinOk y ((Txt.split x y).map dotS) = true := by
  unfold JoinOk Builtin.Str.tooLong
  rw [StrLaws.joinTotal]
  have hs := split_toList x y hy hk
  have e1 : (((Txt.split x y).map dotS).map (·.length)).sum = (((parts y.cps.toList 0 x.cps.toList).map dot1).map List.length).sum := by
    rw [← hs, List.map_map, List.map_map, List.map_map]
    congr 1
    apply List.map_congr_left
    intro p _
    show (dotS p).length = (dot1 p.cps.toList).length
    rw [← dotS_toList]
    simp [Str.length]
  have e2 := congrArg List.length hs
  rw [List.length_map] at e2
  have h2 := dot_sum (parts y.cps.toList 0 x.cps.toList)
  have h3 := parts_sum y.cps.toList 0 x.cps.toList
  have h4 := parts_count y.cps.toList 0 x.cps.toList
  have e3 : y.length = y.cps.toList.length := by simp [Str.length]
  have e4 : x.cps.toList.length = x.length := by simp [Str.length]
  have h5 : ((Txt.split x y).map dotS).length * y.length ≤ (x.length + 1) * 2 := Nat.mul_le_mul (by rw [List.length_map]; omega) (by omega)
  rw [e1, sizeLine_eq]
  rw [Bool.not_eq_true', decide_eq_false_iff_not]
  omega

theorem joinS {x y : Str} (hy : y.cps.toList ≠ []) (hk : Builtin.Str.strKind y = 1) : Txt.join y ((Txt.split x y).map dotS) = ⟨(dottedL y.cps.toList x.cps.toList).toArray⟩ := by
  apply Str.ext'
  apply Array.toList_inj.mp
  show (Builtin.Str.glued _ _).cps.toList = _
  rw [StrLaws.glued_eq_join, join_toList, dottedL, ← split_toList x y hy hk, List.map_map, List.map_map]
  congr 1
  apply List.map_congr_left
  intro p _
  exact dotS_toList p

set_option maxHeartbeats 1000000 in
set_option pp.deepTerms.threshold 8 in
theorem c_dotted (w : World) {A : Around} {s : Shared} (G : Gd w s.heap) (Rm : Room A 5) {x y : Str} (t u : Tok) (hb : x.length ≤ 100000) (hy : y.cps.toList ≠ []) (hk : Builtin.Str.strKind y = 1) (hy2 : y.cps.toList.length ≤ 2) (hx : ∀ c ∈ x.cps.toList, c < 256) (hy256 : ∀ c ∈ y.cps.toList, c < 256) :
    Pw w A (call (.ref 103) [.str x t, .str y u]) (fun v _ => ∃ t', v = .bytes ((dottedL y.cps.toList x.cps.toList).toArray.map (·.toUInt8)) t') s := by
  walk_at "fill"
  obtain ⟨p, loose, mean, mg, mb, T⟩ := G.t
  refine call_pure (binds := [(Str.ofString "text", .str x t), (Str.ofString "end", .str y u)]) G.k T.nolimit Rm.lim (by k_is) (by k_is) (BindsTo.of_eq rfl) (locs rfl) rfl rfl rfl (by decide) ?_
  intro L h₁ tk _ F
  have G₁ : Gd w h₁ := G.keeps F.keep
  have N : News s.heap L h₁ [] := News.nil
  have hyl : (y.length == 0) = false := by
    rw [beq_eq_false_iff_ne]
    intro e
    have : y.cps.toList.length = y.length := by simp [Str.length]
    rw [e] at this
    exact hy (List.length_eq_zero_iff.mp this)
  have hxl : x.cps.toList.length = x.length := by simp [Str.length]
  have hpb := congrArg List.length (between_parts x y hy)
  rw [List.length_map] at hpb
  have hpc := parts_count y.cps.toList 0 x.cps.toList
  walk_at "run"
  walk_at "gl"
  walk_at "cd"
  walk_at "run"
  refine MethodCall_ ?_
  walk_at "run"
  refine GM.join ?_
  refine callWith_method1 ?_
  walk_at "run"
  walk_at "lc"
  refine MethodCall_ ?_
  walk_at "run"
  refine GM.split ?_
  refine callWith_method1 ?_
  walk_at "run"
  refine r_split hyl (by omega) (by omega) fun D l h' k hl hk' hD => ?_
  have hll := congrArg List.length hl
  rw [List.length_map] at hll
  have hsp := congrArg List.length (split_toList x y hy hk)
  rw [List.length_map] at hsp
  refine lc_list (dec := decS) (items := l.map (·.1)) decS_inj (fun _ => true) (fun r v => ∃ t, v = .str (dotS r) t) Rm.handled hD (paired_strs l) (by simp [strValues]; omega) ?_ ?_ ?_
  · intro C a v h₃ gn₃ dr₃ tk₃ os₃ m₃ E' ha hd hn hm hkp hC
    exact ifs_nil ⟨rfl, keeps_refl⟩
  · rintro C a v h₃ gn₃ dr₃ tk₃ os₃ m₃ E' ha _ ⟨tv, rfl⟩ hn hm hkp hC
    have hal : a.length ≤ 100000 := by
      rw [hl] at ha
      have h2 : a.cps.toList ∈ parts y.cps.toList 0 x.cps.toList := by rw [← split_toList x y hy hk]; exact List.mem_map.mpr ⟨a, ha, rfl⟩
      have h3 := parts_sum y.cps.toList 0 x.cps.toList
      have h4 : a.cps.toList.length ≤ ((parts y.cps.toList 0 x.cps.toList).map List.length).sum := mem_le_sum (List.mem_map.mpr ⟨_, h2, rfl⟩)
      have h5 : a.cps.toList.length = a.length := by simp [Str.length]
      omega
    walk_at "run"
    walk_at "cl"
    refine r_slice_nc ?_
    refine r_slstr (by omega) (fun h₄ t4 k4 hk4 => ?_) (by with_unfolding_all rfl) (by intro _; with_unfolding_all rfl)
    walk_at "run"
    refine r_eqs ?_
    walk_at "run"
    have hn4 := hn.keeps hk4
    refine split_dec (fun he => ?_) fun he => ?_
    · walk_at "run"
      walk_at "cl"
      refine r_adds (by have : (Str.ofString ".").length = 1 := by decide +kernel
                        omega) fun t5 k5 => ?_
      exact ⟨⟨_, by unfold dotS; rw [if_pos he]⟩, keeps_of hk4⟩
    · walk_at "cl"
      exact ⟨⟨_, by unfold dotS; rw [if_neg he]⟩, keeps_of hk4⟩
  · intro D' h'' tk'' ys hD' hpl hp hkp
    obtain ⟨l2, e1, e2⟩ := strs_of (paired_all (fun _ => rfl) hp)
    walk_at "run"
    have hpl' : h''.IsList D' (strValues l2).toArray := by rw [← e1]; exact hpl.isList
    rw [hl] at e2
    have hjo := joinS (x := x) hy hk
    have hdl := dotted_len y.cps.toList x.cps.toList hy2
    refine SC.join (l := l2) hpl' e2 ?_ fun t6 k6 => ?_
    · exact joinOk_of hy hk hy2 hb
    · rw [hjo]
      walk_at "run"
      refine ⟨(G₁.keeps fun b o e => hkp b o (hk' b o e)).k, ?_⟩
      refine use (c_octets w (G₁.keeps fun b o e => hkp b o (hk' b o e)) ((Rm.deeper _).less (by decide)) _ ?_ ?_) fun v h7 tk7 hv hk7 => ?_
      · simp; omega
      · intro c hc
        exact dotted_lt hy256 hx c (by simpa using hc)
      · exact ⟨hv, _, _, _, rfl, F.keeps fun b o e => hk7 b o (hkp b o (hk' b o e))⟩

end
section -- Se

section
variable {w : World} {A : Around} {E : Value → Shared → Prop} {h h₀ : Heap} {gn : Array GenState} {dr : Drawn} {tk : Nat} {os : OsState} {env : Env} {m : Str → Option Value} {z : Str} {v : Value} {c L : Addr} {news : List (Addr × Obj)}

theorem x_st {Q : Unit → Shared → Prop} (hL : env.locals = L) (F : Fr h₀ L h m) (N : News h₀ L h news)
    (hQ : ∀ h', (Fr h₀ L h' fun y => if y = z then some v else m y) → News h₀ L h' news → Q () ⟨h', gn, dr, tk + 1, os⟩)
    (hk : env.scope.kind = .function) (hx : env.kindOf z = some .local) :
    wpAny (model PR w) A (storeName env z v) Q E ⟨h, gn, dr, tk, os⟩ := by
  subst hL
  exact wpAny_storeName_local hx F.ns (fun h' hn hs => hQ h' (F.set hn hs) (N.set hs)) (by rw [hk]; rfl)
theorem r_chr {Q : Value → Shared → Prop} {i : Int} {n : Nat} {t : Tok} (hi : i = n) (hn : n < 256) (hQ : Q (.str ⟨#[n]⟩ tk) ⟨h, gn, dr, tk + 1, os⟩) : wpAny (model PR w) A (call (.builtin "chr") [.int i t]) Q E ⟨h, gn, dr, tk, os⟩ := by
  subst hi
  refine PySem.P.chr_of_int ?_ ?_
  · rw [Bool.or_eq_false_iff, decide_eq_false_iff_not, decide_eq_false_iff_not]
    omega
  · rw [Int.toNat_natCast]; exact hQ
theorem x_stc {Q : Unit → Shared → Prop} {v₀ : Option Value} (hc : env.cells.lookup z = some c) (hv : h.IsCell c v₀) (F : Fr h₀ L h m) (hcL : c ≠ L) (h0 : h₀.get? c = none)
    (hQ : ∀ h', Fr h₀ L h' m → h'.IsCell c (some v) → Heap.SameBut c h h' → Q () ⟨h', gn, dr, tk, os⟩) (hk : env.scope.kind = .function) (hx : env.kindOf z = some .cell) :
    wpAny (model PR w) A (storeName env z v) Q E ⟨h, gn, dr, tk, os⟩ := by
  refine wpAny_storeName_cell hk hx hc hv fun h' hc' hs => hQ h' ⟨F.ns.sameBut hs (Ne.symm hcL), fun b o e => ?_, F.above⟩ hc' hs
  exact hs.extBut b o (fun q => by rw [q, h0] at e; cases e) (F.keep b o e)
theorem r_tuple {elts : List Expr} {k : Nat} {pos : Pos} {Q : Value → Shared → Prop} {s : Shared}
    (hQ : wpAny (model PR w) A (spliced (backTo pos (starEach elts env))) (fun vs s₁ => vs.length ≤ sizeLine ∧ Q (.ref s₁.heap.objs.size) ⟨s₁.heap.push { cls := .type "tuple", data := .seq vs.toArray }, s₁.gens, s₁.drawn, s₁.toks, s₁.os⟩) E s) :
    wpAny (model PR w) A (eval (.Tuple elts k pos) env) Q E s := wpAny_Tuple hQ
theorem r_unpack {vs : List Value} {n : Nat} {Q : List Value → Shared → Prop} (F : Fr h₀ L h m) (N : News h₀ L h news) (hh : A.handled = none) (hn : n = vs.length)
    (hQ : ∀ h', Fr h₀ L h' m → News h₀ L h' news → Q vs ⟨h', gn, dr, tk, os⟩) :
    wpAny (model PR w) A (unpackItems (.ref h.objs.size) n none) Q E ⟨h.push { cls := .type "tuple", data := .seq vs.toArray }, gn, dr, tk, os⟩ := by
  refine unpackItemsN_ (s := ⟨h.push { cls := .type "tuple", data := .seq vs.toArray }, gn, dr, tk, os⟩) (items := vs.toArray) (F.push _) (N.pushKeep _) ?_ hh (by simp [hn]) fun h' F' N' => ?_
  · exact ⟨_, Heap.get?_push_size _ rfl, rfl, _, rfl⟩
  · exact hQ h' F' N'
theorem r_ord_cons {t : Value → Sem Unit} {ts : List (Value → Sem Unit)} {x : Value} {xs : List Value} {Q : Unit → Shared → Prop} {s : Shared} (hQ : wpAny (model PR w) A (t x) (fun _ s' => wpAny (model PR w) A (assignInOrder ts xs) Q E s') E s) :
    wpAny (model PR w) A (assignInOrder (t :: ts) (x :: xs)) Q E s := by rw [assignInOrder]; exact wpAny_bind (wpAny_holding hQ)
theorem r_ord_nil {Q : Unit → Shared → Prop} {s : Shared} (hQ : Q () s) : wpAny (model PR w) A (assignInOrder [] []) Q E s := by rw [assignInOrder]; exact wpAny_pure hQ; intro _ _ _ _ h; cases h
end

end
local macro_rules | `(tactic| walk_at "xl") => `(tactic| ((with_reducible refine' x_loc ?hL (Fr.ns (by assumption)) ?hv ?_ ?ha ?hb ?hc); (case hL => rfl); (case ha => rfl); (case hb => rfl); (case hc => decide); (case hv => walk_at "mv")))
local macro_rules | `(tactic| walk_at "xs") => `(tactic| ((with_reducible refine' x_st ?hL (by assumption) (by assumption) ?_ ?ha ?hb); (case hL => rfl); (case ha => rfl); (case hb => rfl); intro _ _ _))
local macro_rules | `(tactic| walk_at "xrun") => `(tactic| repeat (first | walk_at "go1" | walk_at "xl" | walk_at "xs"))
section -- Se2

def ownM : Nat := mirror 1010817802
def sealStep (st : Nat × Nat) (c : Nat) : Nat × Nat := (lawStep (if c = 46 ∧ st.2 = 10 then ownM else st.1) c, c)
def sealFold (l : List Nat) : Nat × Nat := l.foldl sealStep (4294967295, 10)
def sealWord (l : List Nat) : Nat := mirror (sealFold (eolsF false l)).1 ^^^ 1668189743
def sealL (l : List Nat) : List Nat := (List.range 4).map fun k => sealWord l / 256 ^ k % 256

theorem ownM_lt : ownM < 2 ^ 32 := by decide +kernel
theorem sealFold_lt (l : List Nat) : (sealFold l).1 < 2 ^ 32 := by
  rcases List.eq_nil_or_concat l with rfl | ⟨r, c, rfl⟩
  · decide
  · unfold sealFold
    rw [List.concat_eq_append, List.foldl_append]
    exact lawStep_lt
theorem t_lf1 : Str.ofString "\n" = ⟨#[10]⟩ := by decide +kernel
theorem t_dot1 : Str.ofString "." = ⟨#[46]⟩ := by decide +kernel
theorem one_eq {a b : Nat} : ((⟨#[a]⟩ : Str) = ⟨#[b]⟩) ↔ a = b := by simp

theorem set_loc {x : Str} {v w : Value} {m : Option Value} (h : v = w) : (if x = x then some v else m) = some w := by rw [if_pos rfl, h]

set_option maxHeartbeats 1000000 in
set_option pp.deepTerms.threshold 6 in
theorem c_seal (w : World) {A : Around} {s : Shared} (G : Gd w s.heap) (Rm : Room A 6) {x : Str} (t : Tok) (hb : x.length ≤ 100000) :
    Pw w A (call (.ref 86) [.str x t]) (fun v _ => ∃ t', v = .str ⟨(sealL x.cps.toList).toArray⟩ t') s := by
  walk_at "fill"
  obtain ⟨p, loose, mean, mg, mb, T⟩ := G.t
  refine call_pureC (binds := [(Str.ofString "text", .str x t)]) G.k T.nolimit Rm.lim (by k_is) (by k_is) (BindsTo.of_eq rfl) rfl (by decide) rfl rfl rfl ?_
  intro L h₁ tk cells F N Y
  obtain ⟨oc, rfl, hoc⟩ := CellsAre.one Y
  clear Y
  have G₁ : Gd w h₁ := G.keeps F.keep
  refine wpAny_execs_cons ?_
  refine Assign_Tuple_swapped (names := [Str.ofString "own", Str.ofString "rest", Str.ofString "ahead"]) ?_ rfl rfl
  refine r_tuple ?_
  walk_at "run"
  walk_at "cg"
  walk_at "cd"
  walk_at "run"
  refine ⟨G₁.k, ?_⟩
  refine use (c_mirror w G₁ ((Rm.deeper _).less (by decide)) _) fun v h' tk' hv hk => ?_
  obtain ⟨t1, rfl⟩ := hv
  walk_at "run"
  refine ⟨by simp [sizeLine_eq], ?_⟩
  refine r_unpack (vs := [_, _, _]) (F.keeps hk) (N.grown hk) Rm.handled rfl fun h2 F2 N2 => ?_
  dsimp only [List.reverse, List.reverseAux, List.map]
  refine r_ord_cons (wpAny_bindName ?_)
  walk_at "xrun"
  refine r_ord_cons (wpAny_bindName ?_)
  walk_at "xrun"
  refine r_ord_cons (wpAny_bindName ?_)
  walk_at "xrun"
  refine r_ord_nil ?_
  rename_i h3 F3 N3
  have G3 : Gd w h3 := G.keeps F3.keep
  have hxl : x.cps.toList.length = x.length := by simp [Str.length]
  refine wpAny_execs_cons (For_invV s.heap rfl rfl ?_)
  walk_at "run"
  walk_at "cg"
  walk_at "cd"
  walk_at "xrun"
  refine ⟨G3.k, ?_⟩
  refine use (c_even w G3 ((Rm.deeper _).less (by decide)) _ (by omega)) fun v h4 tk4 hv hk4 => ?_
  obtain ⟨t2, rfl⟩ := hv
  have F4 := F3.keeps hk4
  have N4 := N3.grown hk4
  refine it_str (L := L) (xs := ⟨(eolsF false x.cps.toList).toArray⟩) (news := [(L + 1, oc)]) (fun i m nx => nx = [(L + 1, oc)] ∧ (∃ t, m (Str.ofString "own") = some (.int (ownM : Nat) t)) ∧ (∃ t, m (Str.ofString "rest") = some (.int ((sealFold ((eolsF false x.cps.toList).take i)).1 : Nat) t)) ∧ ∃ t, m (Str.ofString "ahead") = some (.str ⟨#[(sealFold ((eolsF false x.cps.toList).take i)).2]⟩ t)) rfl Rm.handled F4 N4 ?_ ?_ ?_
  · refine ⟨rfl, ⟨_, by walk_at "mv"⟩, ⟨_, by walk_at "mv"⟩, ?_⟩
    refine ⟨?_, ?_⟩
    rotate_left
    · rw [show (sealFold ((eolsF false x.cps.toList).take 0)).2 = 10 from rfl, ← t_lf1]
      walk_at "mv"
  · rintro i c t' m₁ news₁ h tk own hc hnm hoff ⟨rfl, ⟨to, ho⟩, ⟨tr, hr⟩, ⟨ta, ha⟩⟩ F₁ N₁
    have G5 : Gd w h := G.keeps F₁.keep
    have hci : (eolsF false x.cps.toList)[i]? = some c := by simpa using hc
    have hsn : sealFold ((eolsF false x.cps.toList).take (i + 1)) = sealStep (sealFold ((eolsF false x.cps.toList).take i)) c := by
      unfold sealFold
      rw [List.take_add_one, hci, Option.toList_some, List.foldl_append]
      rfl
    have hlt := sealFold_lt ((eolsF false x.cps.toList).take i)
    have hol := ownM_lt
    walk_at "xrun"
    walk_at "cg"
    walk_at "cd"
    walk_at "xrun"
    rw [t_dot1]
    refine r_eqs ?_
    walk_at "xrun"
    refine split_dec (fun h46 => ?_) fun h46 => ?_
    · walk_at "xrun"
      rw [t_lf1]
      refine r_eqs ?_
      walk_at "xrun"
      refine split_dec (fun h10 => ?_) fun h10 => ?_
      · walk_at "xrun"
        refine ite_pos rfl ?_
        rw [one_eq] at h46 h10
        walk_at "xrun"
        walk_at "cb"
        walk_at "cw"
        walk_at "xrun"
        refine r_ord ?_
        walk_at "xrun"
        refine ⟨G5.k, ?_⟩
        refine use (c_law_step w G5 ((Rm.deeper _).less (by decide)) hol _ _) fun v h6 tk6 hv hk6 => ?_
        obtain ⟨t6, rfl⟩ := hv
        have F6 := F₁.keeps hk6
        have N6 := N₁.grown hk6
        walk_at "xrun"
        refine inv_end (by assumption) (by assumption) hnm ?_
        rw [hsn, sealStep, if_pos ⟨h46, h10⟩]
        exact ⟨rfl, ⟨_, by walk_at "mv"⟩, ⟨_, by walk_at "mv"⟩, ⟨_, by walk_at "mv"⟩⟩
      · refine ite_neg (by decide) ?_
        rw [one_eq] at h46 h10
        walk_at "xrun"
        walk_at "cb"
        walk_at "cw"
        walk_at "xrun"
        refine r_ord ?_
        walk_at "xrun"
        refine ⟨G5.k, ?_⟩
        refine use (c_law_step w G5 ((Rm.deeper _).less (by decide)) hlt _ _) fun v h6 tk6 hv hk6 => ?_
        obtain ⟨t6, rfl⟩ := hv
        have F6 := F₁.keeps hk6
        have N6 := N₁.grown hk6
        walk_at "xrun"
        refine inv_end (by assumption) (by assumption) hnm ?_
        rw [hsn, sealStep, if_neg (fun q => h10 q.2)]
        exact ⟨rfl, ⟨_, by walk_at "mv"⟩, ⟨_, by walk_at "mv"⟩, ⟨_, by walk_at "mv"⟩⟩
    · refine ite_neg (by decide) ?_
      rw [one_eq] at h46
      walk_at "xrun"
      walk_at "cb"
      walk_at "cw"
      walk_at "xrun"
      refine r_ord ?_
      walk_at "xrun"
      refine ⟨G5.k, ?_⟩
      refine use (c_law_step w G5 ((Rm.deeper _).less (by decide)) hlt _ _) fun v h6 tk6 hv hk6 => ?_
      obtain ⟨t6, rfl⟩ := hv
      have F6 := F₁.keeps hk6
      have N6 := N₁.grown hk6
      walk_at "xrun"
      refine inv_end (by assumption) (by assumption) hnm ?_
      rw [hsn, sealStep, if_neg (fun q => h46 q.1)]
      exact ⟨rfl, ⟨_, by walk_at "mv"⟩, ⟨_, by walk_at "mv"⟩, ⟨_, by walk_at "mv"⟩⟩
  · rintro m₁ news₁ h tk ⟨rfl, ⟨to, ho⟩, ⟨tr, hr⟩, ⟨ta, ha⟩⟩ F₁ N₁
    have G5 : Gd w h := G.keeps F₁.keep
    have hsz : ((⟨(eolsF false x.cps.toList).toArray⟩ : Str).cps.size) = (eolsF false x.cps.toList).length := by simp
    rw [hsz, List.take_length] at hr
    walk_at "xrun"
    walk_at "cg"
    walk_at "cd"
    walk_at "xrun"
    refine ⟨G5.k, ?_⟩
    refine use (c_mirror w G5 ((Rm.deeper _).less (by decide)) _) fun v h6 tk6 hv hk6 => ?_
    obtain ⟨t6, rfl⟩ := hv
    have F6 := F₁.keeps hk6
    have N6 := N₁.grown hk6
    walk_at "xrun"
    have hcell : h6.IsCell (L + 1) none := ⟨oc, (N6 (L + 1, oc) (by simp)).1, hoc⟩
    refine x_stc (c := L + 1) rfl hcell F6 (N6 (L + 1, oc) (by simp)).2.1 (N6 (L + 1, oc) (by simp)).2.2 ?_ rfl rfl
    intro h7 F7 hc7 _
    have G7 : Gd w h7 := G.keeps F7.keep
    walk_at "xrun"
    refine MethodCall_ ?_
    walk_at "xrun"
    refine GM.join ?_
    refine callWith_method1 ?_
    walk_at "xrun"
    walk_at "lc"
    walk_at "xrun"
    walk_at "cb"
    walk_at "xrun"
    refine r_range1 fun h' t' u' v' hr' he => ?_
    have hk' : ∀ b o, h7.get? b = some o → h'.get? b = some o := fun b o e => by rw [he]; exact Heap.get?_push_of_some _ e
    refine lc_range (a' := 0) (b' := 4) (fun _ => true) (fun k v => ∃ t, v = .str ⟨#[sealWord x.cps.toList / 256 ^ k % 256]⟩ t) rfl rfl Rm.handled hr' (by decide) (by decide) ?_ ?_ ?_
    · intro C k tv h₃ gn₃ dr₃ tk₃ os₃ m₃ E' hk1 hk2 hn hm hkp hC
      exact ifs_nil ⟨rfl, keeps_refl⟩
    · intro C k tv h₃ gn₃ dr₃ tk₃ os₃ m₃ E' hk1 hk2 _ hn hm hkp hC
      have hc3 := cell_keeps (cell_keeps hc7 hk') hkp
      have G₃ : Gd w h₃ := (G7.keeps hk').keeps hkp
      have p1 : 256 ^ k ≠ 0 := by have := Nat.pow_pos (n := k) (show 0 < 256 by decide); omega
      have p2 : 256 ^ k < 2 ^ 64 := by
        have : 256 ^ k ≤ 256 ^ 3 := Nat.pow_le_pow_right (by decide) (by omega)
        exact Nat.lt_of_le_of_lt this (by decide)
      walk_at "run"
      walk_at "cb"
      walk_at "cw"
      walk_at "run"
      walk_at "cc"
      walk_at "run"
      walk_at "cl"
      walk_at "run"
      refine r_chr rfl (Nat.mod_lt _ (by decide)) ?_
      exact ⟨⟨_, rfl⟩, keeps_refl⟩
    · intro D h'' tk'' ys hD hpl hp hkp
      obtain ⟨l2, e1, e2⟩ := strs_of (paired_all (fun _ => rfl) hp)
      walk_at "run"
      have hpl' : h''.IsList D (strValues l2).toArray := by rw [← e1]; exact hpl.isList
      have esc : scat l2 = sealL x.cps.toList := by
        have : l2.map (·.1.cps.toList) = (l2.map (·.1)).map (·.cps.toList) := by rw [List.map_map]; rfl
        unfold scat
        rw [this, e2]
        rfl
      rw [show Str.ofString "" = ⟨#[]⟩ by decide +kernel]
      refine SC.join (l := l2) hpl' rfl (join_ok (by rw [esc]; simp [sealL])) fun t9 k9 => ?_
      rw [glue_nil, esc]
      exact ⟨⟨_, rfl⟩, _, _, _, rfl, F7.keeps fun b o e => hkp b o (hk' b o e)⟩

end
section -- Tx

section
variable {w : World} {A : Around} {E : Value → Shared → Prop} {h h₀ : Heap} {gn : Array GenState} {dr : Drawn} {tk : Nat} {os : OsState} {Q : Value → Shared → Prop}
theorem r_newlist {vs : List Value} (hsz : vs.length ≤ 1000000) (hQ : ∀ h', h'.IsList h.objs.size vs.toArray → (∀ b o, h.get? b = some o → h'.get? b = some o) → Q (.ref h.objs.size) ⟨h', gn, dr, tk, os⟩) :
    wpAny (model PR w) A (newList vs) Q E ⟨h, gn, dr, tk, os⟩ := by
  unfold newList
  refine wpAny_newObj_type ?_ (by show vs.toArray.size ≤ sizeLine; rw [sizeLine_eq]; simp; omega)
  exact hQ _ ⟨_, Heap.get?_push_size _ rfl, rfl, _, rfl⟩ fun b o e => Heap.get?_push_of_some _ e
theorem r_item {value slice : Expr} {l : Addr} {vs : List Value} {i : Int} {k : Nat} {u : Tok} {v : Value} (hl : h.IsList l vs.toArray) (hi : i = k) (hx : vs[k]? = some v) (hk : k < 1000000) (hQ : Q v ⟨h, gn, dr, tk, os⟩)
    (hs : subscripted slice false (.ref l) (.int i u) = operate [.ref l, .int i u] (getItem (.ref l) (.int i u))) :
    wpAny (model PR w) A (subscriptTail value slice (.ref l) (.int i u)) Q E ⟨h, gn, dr, tk, os⟩ := by
  subst hi
  exact item_litK hl (by omega) (by omega) (by simpa using hx) hQ hs
end

theorem paired_at {α β : Type} {R : α → β → Prop} : ∀ {as : List α} {bs : List β} {i : Nat} {a : α}, Paired R as bs → as[i]? = some a → ∃ b, bs[i]? = some b ∧ R a b
  | _, _, 0, a, .cons h _, e => by simp at e; subst e; exact ⟨_, rfl, h⟩
  | _, _, i + 1, a, .cons _ h, e => by simp at e; obtain ⟨b, hb, hr⟩ := paired_at h e; exact ⟨b, by simpa using hb, hr⟩

theorem r_item_tab {w : World} {A : Around} {E : Value → Shared → Prop} {h : Heap} {gn : Array GenState} {dr : Drawn} {tk : Nat} {os : OsState} {Q : Value → Shared → Prop} {value slice : Expr} {l : Addr} {vs : List Value} {i : Int} {k : Nat} {u : Tok} (tab : List Str)
    (hl : h.IsList l vs.toArray) (hd : Paired decS tab vs) (hi : i = k) (hk : k < tab.length) (hk2 : k < 1000000) (hQ : ∀ t, Q (.str (tab.getD k Str.empty) t) ⟨h, gn, dr, tk, os⟩)
    (hs : subscripted slice false (.ref l) (.int i u) = operate [.ref l, .int i u] (getItem (.ref l) (.int i u))) :
    wpAny (model PR w) A (subscriptTail value slice (.ref l) (.int i u)) Q E ⟨h, gn, dr, tk, os⟩ := by
  obtain ⟨v, hv, ⟨t, rfl⟩⟩ := paired_at hd (List.getElem?_eq_getElem hk)
  refine r_item hl hi hv hk2 ?_ hs
  have := hQ t
  rw [List.getD_eq_getElem?_getD, List.getElem?_eq_getElem hk] at this
  exact this

def tabA : List Str := [Str.ofString "", Str.ofString ".", Str.ofString "..", Str.ofString "b"]
def tabB : List Str := [Str.ofString "", Str.ofString ".", Str.ofString "\x0b", Str.ofString "\x0c", Str.ofString "\x1d", Str.ofString "\x85", Str.ofString " ", Str.ofString "ÿ"]
def tabC : List Str := [Str.ofString "\n", Str.ofString "\r", Str.ofString "\r\n", Str.ofString ""]
def row2 (x : Str) (n : Nat) : Str := x ++ tabA.getD (n % 4) Str.empty ++ tabB.getD (n / 4 % 8) Str.empty
def row3 (x : Str) (n : Nat) : Str := row2 x n ++ (if n / 32 % 2 = 1 then ⟨(sealL (row2 x n).cps.toList).toArray⟩ else Str.ofString "")
def rowS (x : Str) (n : Nat) : Str := row3 x n ++ tabC.getD (n / 64 % 4) Str.empty
def textS (ns : List Nat) : Str := ns.foldl rowS (Str.ofString "")

theorem tab_len {tab : List Str} {B : Nat} (h : ∀ x ∈ tab, x.length ≤ B) (k : Nat) : (tab.getD k Str.empty).length ≤ B := by
  rw [List.getD_eq_getElem?_getD]
  cases e : tab[k]? with
  | none => simp [Str.length, Str.empty]
  | some x => exact h x (List.mem_of_getElem? e)
theorem lenA (k : Nat) : (tabA.getD k Str.empty).length ≤ 2 := tab_len (by decide +kernel) k
theorem lenB (k : Nat) : (tabB.getD k Str.empty).length ≤ 1 := tab_len (by decide +kernel) k
theorem lenC (k : Nat) : (tabC.getD k Str.empty).length ≤ 2 := tab_len (by decide +kernel) k
theorem seal_len (l : List Nat) : (⟨(sealL l).toArray⟩ : Str).length = 4 := by simp [Str.length, sealL]
theorem row2_len (x : Str) (n : Nat) : (row2 x n).length ≤ x.length + 3 := by
  unfold row2
  rw [Str.length_append, Str.length_append]
  have := lenA (n % 4); have := lenB (n / 4 % 8)
  omega
theorem row3_len (x : Str) (n : Nat) : (row3 x n).length ≤ x.length + 7 := by
  unfold row3
  rw [Str.length_append]
  have := row2_len x n
  split
  · rw [seal_len]; omega
  · have : (Str.ofString "").length = 0 := by decide +kernel
    omega
theorem rowS_len (x : Str) (n : Nat) : (rowS x n).length ≤ x.length + 9 := by
  unfold rowS
  rw [Str.length_append]
  have := row3_len x n; have := lenC (n / 64 % 4)
  omega
theorem textS_len (ns : List Nat) : (textS ns).length ≤ 9 * ns.length := by
  unfold textS
  have key : ∀ (l : List Nat) (x : Str), (l.foldl rowS x).length ≤ x.length + 9 * l.length := by
    intro l
    induction l with
    | nil => intro x; simp
    | cons n r ih => intro x; have := ih (rowS x n); have := rowS_len x n; simp only [List.foldl_cons, List.length_cons]; omega
  have := key ns (Str.ofString "")
  have e : (Str.ofString "").length = 0 := by decide +kernel
  omega
def low (x : Str) : Prop := ∀ c ∈ x.cps.toList, c < 256
theorem low_app {x y : Str} (hx : low x) (hy : low y) : low (x ++ y) := by
  intro c hc
  rw [Str.cps_append, Array.toList_append, List.mem_append] at hc
  exact hc.elim (hx c) (hy c)
theorem tab_low {tab : List Str} (h : ∀ x ∈ tab, low x) (k : Nat) : low (tab.getD k Str.empty) := by
  rw [List.getD_eq_getElem?_getD]
  cases e : tab[k]? with
  | none => intro c hc; simp [Str.empty] at hc
  | some x => exact h x (List.mem_of_getElem? e)
theorem lowA (k : Nat) : low (tabA.getD k Str.empty) := tab_low (by unfold low; decide +kernel) k
theorem lowB (k : Nat) : low (tabB.getD k Str.empty) := tab_low (by unfold low; decide +kernel) k
theorem lowC (k : Nat) : low (tabC.getD k Str.empty) := tab_low (by unfold low; decide +kernel) k
theorem low_seal (l : List Nat) : low ⟨(sealL l).toArray⟩ := by
  intro c hc
  have hc' : c ∈ sealL l := by simpa using hc
  unfold sealL at hc'
  obtain ⟨k, _, rfl⟩ := List.mem_map.mp hc'
  exact Nat.mod_lt _ (by decide)
theorem low_empty : low (Str.ofString "") := by unfold low; decide +kernel
theorem rowS_low {x : Str} (hx : low x) (n : Nat) : low (rowS x n) := by
  unfold rowS row3 row2
  refine low_app (low_app (low_app (low_app hx (lowA _)) (lowB _)) ?_) (lowC _)
  split
  · exact low_seal _
  · exact low_empty
theorem textS_low (ns : List Nat) : low (textS ns) := by
  unfold textS
  have key : ∀ (l : List Nat) (x : Str), low x → low (l.foldl rowS x) := by
    intro l
    induction l with
    | nil => intro x h; exact h
    | cons n r ih => intro x h; exact ih _ (rowS_low h n)
  exact key ns _ low_empty

set_option maxHeartbeats 1000000 in
set_option pp.deepTerms.threshold 6 in
theorem c_text (w : World) {A : Around} {s : Shared} (G : Gd w s.heap) (Rm : Room A 9) {l : Addr} {vs : List Value} {ns : List Nat} (hl : s.heap.IsList l vs.toArray) (hp : Paired decN ns vs) (hb : ns.length ≤ 1000) :
    Pw w A (call (.ref 93) [.ref l]) (fun v _ => ∃ t', v = .str (textS ns) t') s := by
  walk_at "fill"
  obtain ⟨p, loose, mean, mg, mb, T⟩ := G.t
  refine call_pure (binds := [(Str.ofString "numbers", .ref l)]) G.k T.nolimit Rm.lim (by k_is) (by k_is) (BindsTo.of_eq rfl) (locs rfl) rfl rfl rfl (by decide) ?_
  intro L h₁ tk _ F
  have N : News s.heap L h₁ [] := News.nil
  walk_at "run"
  refine For_invV s.heap rfl rfl ?_
  walk_at "run"
  have hlen := paired_len hp
  refine it_list (L := L) (vs := vs) (news := []) (fun i m nx => nx = [] ∧ ∃ t, m (Str.ofString "text") = some (.str (textS (ns.take i)) t)) rfl Rm.handled hl (by assumption) (by assumption) ⟨rfl, _, by walk_at "mv"⟩ ?_ ?_
  · rintro i v m₁ news₁ h tk own hv hnm _ ⟨rfl, tt, hm⟩ F₁ N₁
    obtain ⟨n, hn, ⟨tn, rfl⟩⟩ := paired_get hp hv
    have hsn : textS (ns.take (i + 1)) = rowS (textS (ns.take i)) n := by
      unfold textS
      rw [List.take_add_one, hn, Option.toList_some, List.foldl_append]
      rfl
    have hxl : (textS (ns.take i)).length ≤ 9000 := by have := textS_len (ns.take i); rw [List.length_take] at this; omega
    have l1 := lenA (n % 4)
    have l2 := lenB (n / 4 % 8)
    have l4 := lenC (n / 64 % 4)
    have r2 := row2_len (textS (ns.take i)) n
    have r3 := row3_len (textS (ns.take i)) n
    walk_at "run"
    refine r_newlist (by simp) fun h2 hl2 hk2 => ?_
    have F2 := F₁.keeps hk2
    have N2 := N₁.grown hk2
    walk_at "run"
    refine r_item_tab tabA hl2 (by repeat (first | exact .nil | refine .cons ⟨_, rfl⟩ ?_)) rfl (Nat.mod_lt _ (by decide)) (Nat.lt_trans (Nat.mod_lt _ (by decide : 0 < 4)) (by decide)) (fun t3 => ?_) (by with_unfolding_all rfl)
    refine r_adds (by omega) fun t4 k4 => ?_
    walk_at "run"
    rename_i h3 F3 N3
    refine r_newlist (by simp) fun h4 hl4 hk4 => ?_
    have F4 := F3.keeps hk4
    have N4 := N3.grown hk4
    walk_at "run"
    refine r_item_tab tabB hl4 (by repeat (first | exact .nil | refine .cons ⟨_, rfl⟩ ?_)) rfl (Nat.mod_lt _ (by decide)) (Nat.lt_trans (Nat.mod_lt _ (by decide : 0 < 8)) (by decide)) (fun t5 => ?_) (by with_unfolding_all rfl)
    refine r_adds (by rw [Str.length_append]; omega) fun t6 k6 => ?_
    walk_at "run"
    rename_i h5 F5 N5
    have G5 : Gd w h5 := G.keeps F5.keep
    have hr2 : (textS (ns.take i) ++ tabA.getD (n % 4) Str.empty ++ tabB.getD (n / 4 % 8) Str.empty) = row2 (textS (ns.take i)) n := rfl
    refine split_dec (fun hs => ?_) fun hs => ?_
    · have hr3 : row2 (textS (ns.take i)) n ++ ⟨(sealL (row2 (textS (ns.take i)) n).cps.toList).toArray⟩ = row3 (textS (ns.take i)) n := by rw [row3, if_pos hs]
      walk_at "run"
      walk_at "gl"
      walk_at "cd"
      walk_at "run"
      refine ⟨G5.k, ?_⟩
      rw [hr2]
      refine use (c_seal w G5 ((Rm.deeper _).less (by decide)) _ (by omega)) fun v h6 tk6 hv hk6 => ?_
      obtain ⟨t6, rfl⟩ := hv
      have F6 := F5.keeps hk6
      have N6 := N5.grown hk6
      refine r_adds (by rw [seal_len]; omega) fun t7 k7 => ?_
      rw [hr3]
      walk_at "run"
      rename_i h7 F7 N7
      refine r_newlist (by simp) fun h8 hl8 hk8 => ?_
      have F8 := F7.keeps hk8
      have N8 := N7.grown hk8
      walk_at "run"
      refine r_item_tab tabC hl8 (by repeat (first | exact .nil | refine .cons ⟨_, rfl⟩ ?_)) rfl (Nat.mod_lt _ (by decide)) (Nat.lt_trans (Nat.mod_lt _ (by decide : 0 < 4)) (by decide)) (fun t9 => ?_) (by with_unfolding_all rfl)
      refine r_adds (by omega) fun t10 k10 => ?_
      walk_at "run"
      refine inv_end (by assumption) (by assumption) hnm ?_
      rw [hsn]
      exact ⟨rfl, _, by walk_at "mv"⟩
    · have hr3 : row2 (textS (ns.take i)) n ++ Str.ofString "" = row3 (textS (ns.take i)) n := by rw [row3, if_neg hs]
      have e0 : (Str.ofString "").length = 0 := by decide +kernel
      walk_at "run"
      rw [hr2]
      refine r_adds (by omega) fun t7 k7 => ?_
      rw [hr3]
      walk_at "run"
      rename_i h7 F7 N7
      refine r_newlist (by simp) fun h8 hl8 hk8 => ?_
      have F8 := F7.keeps hk8
      have N8 := N7.grown hk8
      walk_at "run"
      refine r_item_tab tabC hl8 (by repeat (first | exact .nil | refine .cons ⟨_, rfl⟩ ?_)) rfl (Nat.mod_lt _ (by decide)) (Nat.lt_trans (Nat.mod_lt _ (by decide : 0 < 4)) (by decide)) (fun t9 => ?_) (by with_unfolding_all rfl)
      refine r_adds (by omega) fun t10 k10 => ?_
      walk_at "run"
      refine inv_end (by assumption) (by assumption) hnm ?_
      rw [hsn]
      exact ⟨rfl, _, by walk_at "mv"⟩
  · rintro m₁ news₁ h tk ⟨rfl, tt, hm⟩ F₁ N₁
    walk_at "run"
    rw [← hlen, List.take_length]
    exact ⟨⟨_, rfl⟩, _, _, _, rfl, F₁⟩

end
section -- Lk0

def lobj (vs : List Value) (n : Nat) : Obj := { cls := .type "list", data := .seq vs.toArray n }
theorem lobj_is {h : Heap} {a : Addr} {vs : List Value} {n : Nat} (e : h.get? a = some (lobj vs n)) : h.IsList a vs.toArray := ⟨_, e, rfl, n, rfl⟩

section
variable {w : World} {A : Around} {E : Value → Shared → Prop} {H : Heap} {gn : Array GenState} {dr : Drawn} {tk₀ : Nat} {os : OsState} {env : Env} {h₀ : Heap} {x : Str} {body : List Stmt} {Q : Flow → Shared → Prop} {L : Addr} {m₀ : Str → Option Value} {news : List (Addr × Obj)}

/-- a made list; the ledger may grow from turn to turn -/
theorem it_listG {l : Addr} {vs : List Value} {nl : Nat} (J : Nat → (Str → Option Value) → List (Addr × Obj) → Prop) (hL : env.locals = L)
    (hh : A.handled = none) (hlo : H.get? l = some (lobj vs nl)) (hlL : l ≠ L) (F : Fr h₀ L H m₀) (N : News h₀ L H news) (hj : J 0 m₀ news)
    (turn : ∀ (i : Nat) v m₁ news₁ h tk own, vs[i]? = some v → J i m₁ news₁ → (∀ p ∈ news₁, p.1 ≠ H.objs.size) → (∀ p ∈ own, p.1 = H.objs.size ∨ p.1 = l) → (∃ o, (H.objs.size, o) ∈ own) → Fr h₀ L h (fun y => if y = x then some v else m₁ y) → News h₀ L h (own ++ news₁) →
      wpAny (model PR w) A (execs body env) (fun fl s₂ => fl = .next ∧ ∃ h' tk m₂ news₂, s₂ = ⟨h', gn, dr, tk, os⟩ ∧ Fr h₀ L h' m₂ ∧ News h₀ L h' (own ++ news₂) ∧ (∀ p ∈ news₂, p.1 ≠ H.objs.size) ∧ J (i + 1) m₂ news₂) E ⟨h, gn, dr, tk, os⟩)
    (done : ∀ m₁ news₁ h tk, J vs.length m₁ news₁ → Fr h₀ L h m₁ → News h₀ L h news₁ → Q .next ⟨h, gn, dr, tk, os⟩) :
    wpAny (model PR w) A (pyIter (.ref l)) (fun it s₂ => LoopAtV PR w A h₀ env x body Q E it s₂) E ⟨H, gn, dr, tk₀, os⟩ := by
  subst hL
  have hls : H.IsList l vs.toArray := lobj_is hlo
  have hne : l ≠ H.objs.size := Nat.ne_of_lt (Heap.lt_size hlo)
  refine wpAny_pyIter_list hls ?_
  have W := Walks.list (prog := PR) (w := w) hh H.objs.size l hne vs.toArray
  have hlen : vs.toArray.size = vs.length := by simp
  rw [hlen] at W
  refine ⟨_, _, _, _, _, _, m₀, news, J, rfl, W, ?_, ?_, ?_, ⟨⟨_, Heap.get?_push_size _ rfl, rfl, rfl⟩, hls.at fun o e => Heap.get?_push_of_some _ e⟩, F.push _, (fun p hp => ⟨Heap.get?_push_of_some _ (N p hp).1, (N p hp).2⟩), hj, ?_, ?_⟩
  · intro hm
    rcases List.mem_cons.mp hm with e | hm
    · exact absurd F.ns.lt (e ▸ Nat.lt_irrefl _)
    · exact hlL (List.mem_singleton.mp hm).symm
  · intro b hb
    rw [List.mem_singleton.mp hb]
    exact next_is_new F
  · intro p hp hI
    exact absurd (Heap.lt_size (N p hp).1) ((List.mem_singleton.mp hI) ▸ Nat.lt_irrefl _)
  · rintro i v m₁ news₁ s₁ own ⟨h, tk, rfl⟩ hi hv hJ hnw hof hog hon hst F₁ N₁
    have hI : ∃ o, (H.objs.size, o) ∈ own := by
      obtain ⟨⟨o, ho, _⟩, _⟩ := hst
      exact ⟨o, hon _ (.head _) (next_is_new F) o ho⟩
    refine wpAny_mono (turn i v m₁ news₁ h tk own (by simpa using hv) hJ (fun p hp hI => hnw p hp (List.mem_singleton.mpr hI)) (fun p hp => ?_) hI F₁ N₁) (fun fl s₂ q => ?_) fun _ _ e => e
    · rcases List.mem_cons.mp (hof p hp) with e | e
      · exact .inl e
      · exact .inr (List.mem_singleton.mp e)
    · obtain ⟨rfl, h', tk', m₂, news₂, rfl, F₂, N₂, ha, hJ₂⟩ := q
      exact .next ⟨rfl, h', tk', m₂, news₂, rfl, F₂, N₂, fun p hp hI => ha p hp (List.mem_singleton.mp hI), hJ₂⟩
  · rintro h' tk m' news' F' N' _ hJ
    exact done m' news' h' tk hJ F' N'
end

section
variable {w : World} {A : Around} {E : Value → Shared → Prop} {h : Heap} {gn : Array GenState} {dr : Drawn} {tk : Nat} {os : OsState} {Q : Value → Shared → Prop} {h₀ : Heap} {L : Addr} {m : Str → Option Value} {news : List (Addr × Obj)} {a b : Int} {t u : Tok}
theorem r_ge (hQ : Q (.bool (decide (b ≤ a))) ⟨h, gn, dr, tk, os⟩) : wpAny (model PR w) A (compareOp .GtE (.int a t) (.int b u)) Q E ⟨h, gn, dr, tk, os⟩ := PyProof.Rows.ge_int hQ
theorem r_lt (hQ : Q (.bool (decide (a < b))) ⟨h, gn, dr, tk, os⟩) : wpAny (model PR w) A (compareOp .Lt (.int a t) (.int b u)) Q E ⟨h, gn, dr, tk, os⟩ := PyProof.Rows.lt_int hQ
theorem r_addI (hQ : Q (.int (a + b) tk) ⟨h, gn, dr, tk + 1, os⟩) : wpAny (model PR w) A (binaryOp .Add (.int a t) (.int b u)) Q E ⟨h, gn, dr, tk, os⟩ := add_int hQ
theorem r_neg {env : Env} {k : Nat} {i : Int} {p q : Pos} (hQ : ∀ t k', Q (.int (-i) t) ⟨h, gn, dr, k', os⟩) : wpAny (model PR w) A (eval (.UnaryOp .USub (.Constant (.int i) k p) q) env) Q E ⟨h, gn, dr, tk, os⟩ :=
  UnaryOp_ (k_int (PyProof.Rows.neg_int (hQ _ _)))
theorem News.sub {ns ns' : List (Addr × Obj)} (N : News h₀ L h ns) (hs : ∀ p ∈ ns', p ∈ ns) : News h₀ L h ns' := fun p hp => N p (hs p hp)
theorem r_newlistO {vs : List Value} (F : Fr h₀ L h m) (N : News h₀ L h news) (hsz : vs.length ≤ 1000000) (hQ : ∀ h', Fr h₀ L h' m → News h₀ L h' ((h.objs.size, lobj vs 0) :: news) → Q (.ref h.objs.size) ⟨h', gn, dr, tk, os⟩) :
    wpAny (model PR w) A (newList vs) Q E ⟨h, gn, dr, tk, os⟩ := newList_N F N (fun h' F' N' => hQ h' F' N') (by rw [sizeLine_eq]; omega)
theorem r_addlists {l b : Addr} {vs ws : List Value} (F : Fr h₀ L h m) (N : News h₀ L h news) (hl : h.IsList l vs.toArray) (hb : h.IsList b ws.toArray) (hsz : vs.length + ws.length ≤ 1000000)
    (hQ : ∀ h', Fr h₀ L h' m → News h₀ L h' ((h.objs.size, lobj (vs ++ ws) 0) :: news) → Q (.ref h.objs.size) ⟨h', gn, dr, tk, os⟩) :
    wpAny (model PR w) A (binaryOp .Add (.ref l) (.ref b)) Q E ⟨h, gn, dr, tk, os⟩ := add_lists F N hl hb (fun h' F' N' => hQ h' F' N') (by rw [sizeLine_eq]; omega)
theorem r_append {D : Addr} {vs : List Value} {n : Nat} {v : Value} {rest : List (Addr × Obj)} (F : Fr h₀ L h m) (N : News h₀ L h ((D, lobj vs n) :: rest)) (hap : ∀ p ∈ rest, p.1 ≠ D) (hsz : vs.length ≤ 1000000)
    (hQ : ∀ h', Fr h₀ L h' m → News h₀ L h' ((D, lobj (vs ++ [v]) (n + 1)) :: rest) → Q .none ⟨h', gn, dr, tk, os⟩) :
    wpAny (model PR w) A (call (.builtin "list.append") [.ref D, v]) Q E ⟨h, gn, dr, tk, os⟩ := by
  refine append_head F N hap (fun h' F' N' => hQ h' F' ?_) (by rw [sizeLine_eq]; simp; omega)
  rw [show lobj (vs ++ [v]) (n + 1) = { cls := .type "list", data := .seq (vs.toArray.push v) (n + 1) } from by unfold lobj; congr 2; simp]
  exact N'
theorem r_in {l : Addr} {vs : List Value} {ns : List Nat} {k : Nat} (hl : h.IsList l vs.toArray) (hi : Paired decN ns vs) (ha : a = k) (hQ : Q (.bool (decide (k ∈ ns))) ⟨h, gn, dr, tk, os⟩) :
    wpAny (model PR w) A (compareOp .In (.int a t) (.ref l)) Q E ⟨h, gn, dr, tk, os⟩ := by
  subst ha
  have hI : IntsAre vs (ns.map fun k => ((id k : Nat) : Int)) := ints_of hi
  refine in_list_ints hl hI ?_
  have e : ((ns.map fun k => ((id k : Nat) : Int)).any (· == (k : Int))) = decide (k ∈ ns) := by
    rw [Bool.eq_iff_iff, List.any_eq_true]
    constructor
    · rintro ⟨y, hy, e⟩
      obtain ⟨q, hq, rfl⟩ := List.mem_map.mp hy
      have e' : ((q : Nat) : Int) = (k : Int) := by simpa using e
      have : q = k := by omega
      exact decide_eq_true (this ▸ hq)
    · intro hk
      exact ⟨(k : Int), List.mem_map.mpr ⟨k, of_decide_eq_true hk, rfl⟩, by simp⟩
  rw [e]
  exact hQ
theorem r_lastitem {value slice : Expr} {l : Addr} {vi : List Value} {v : Value} (hl : h.IsList l (vi ++ [v]).toArray) (hQ : Q v ⟨h, gn, dr, tk, os⟩)
    (hs : subscripted slice false (.ref l) (.int (-1) u) = operate [.ref l, .int (-1) u] (getItem (.ref l) (.int (-1) u))) (hg : ∀ r, letTemporaryGo value (.ref l) r = pure ()) :
    wpAny (model PR w) A (subscriptTail value slice (.ref l) (.int (-1) u)) Q E ⟨h, gn, dr, tk, os⟩ := item_last hl hQ hs hg
theorem r_gmappend {D : Addr} {vs : List Value} {n : Nat} {pl : Sem Bool} {Q : Value × List Value → Shared → Prop} (N : News h₀ L h news) (hm : (D, lobj vs n) ∈ news) (hQ : Q (.builtin "list.append", [.ref D]) ⟨h, gn, dr, tk, os⟩) :
    wpAny (model PR w) A (getMethod (.ref D) (Str.ofString "append") pl) Q E ⟨h, gn, dr, tk, os⟩ := getMethod_append_N N hm hQ
end

end
section -- Lk

def lkStep (b : Array UInt8) (fs : List Nat) (st : Nat × List Bool) (p : Nat) : Nat × List Bool :=
  (lawStep st.1 (b.getD p 0).toNat, if p ∈ fs then st.2 ++ [decide (st.1 = ownM)] else st.2)
def lkRow (b : Array UInt8) (fs : List Nat) (r a n : Nat) : Nat × List Bool := (List.range' a n).foldl (lkStep b fs) (r, [])
def lkOf (b : Array UInt8) (fs : List Nat) : List (List Bool) :=
  (lkRow b fs 4294967295 0 b.size).2 :: fs.map fun f => (lkRow b fs ownM (f + 1) (fs.getLastD 0 - f)).2
theorem lkRow_lt {b : Array UInt8} {fs : List Nat} {r a n : Nat} (hr : r < 2 ^ 32) : (lkRow b fs r a n).1 < 2 ^ 32 := by
  induction n with
  | zero => exact hr
  | succ n ih =>
    unfold lkRow
    rw [List.range'_concat, List.foldl_append]
    exact lawStep_lt
theorem lkRow_succ {b : Array UInt8} {fs : List Nat} {r a n : Nat} : lkRow b fs r a (n + 1) = lkStep b fs (lkRow b fs r a n) (a + n) := by
  unfold lkRow
  rw [List.range'_concat, List.foldl_append, Nat.one_mul]
  rfl
theorem lkRow_len {b : Array UInt8} {fs : List Nat} {r a n : Nat} : (lkRow b fs r a n).2.length ≤ n := by
  induction n with
  | zero => exact Nat.le_refl _
  | succ n ih =>
    rw [lkRow_succ, lkStep]
    dsimp only
    split
    · simp; omega
    · omega

/-- the rows of bools stand in the heap -/
def RowAt (h : Heap) (bs : List Bool) (v : Value) : Prop := ∃ a, v = .ref a ∧ h.IsList a (bs.map Value.bool).toArray

def LinkRes (b : Array UInt8) (fs : List Nat) (v : Value) (h : Heap) : Prop :=
  ∃ D Dl t vs, v = .ref D ∧ h.IsList D #[.int (mirror (lkRow b fs 4294967295 0 b.size).1 : Nat) t, .ref Dl] ∧ h.IsList Dl vs.toArray ∧ Paired (RowAt h) (lkOf b fs) vs

/-- the ledger of the outer loop -/
def rowObj (q : (Addr × Nat) × List Bool) : Addr × Obj := (q.1.1, lobj (q.2.map Value.bool) q.1.2)

theorem getLastD_mem {fs : List Nat} (h : fs ≠ []) : fs.getLastD 0 ∈ fs := by
  rw [List.getLastD_eq_getLast?, List.getLast?_eq_some_getLast h]
  exact List.getLast_mem h
theorem paired_last {fs : List Nat} {vs : List Value} (hp : Paired decN fs vs) (hne : fs ≠ []) : ∃ vi t, vs = vi ++ [.int (fs.getLastD 0 : Nat) t] := by
  induction hp with
  | nil => exact absurd rfl hne
  | cons h hs ih =>
    rename_i f fs v vs
    obtain ⟨t, rfl⟩ := h
    cases hs with
    | nil => exact ⟨[], t, rfl⟩
    | cons h' hs' =>
      obtain ⟨vi, t', e⟩ := ih (by simp)
      exact ⟨.int (f : Nat) t :: vi, t', by rw [e]; simp [List.getLastD]⟩
theorem zip_snoc {α β : Type} (q : α) {ys : List β} {y : β} : ∀ {i : Nat} {xs : List α}, xs.length = i → ys[i]? = some y → (xs ++ [q]).zip ys = xs.zip ys ++ [(q, y)] := by
  intro i xs
  induction xs generalizing i ys with
  | nil => intro h e; subst h; cases ys with
    | nil => cases e
    | cons a r => simp at e; subst e; simp
  | cons a r ih =>
    intro h e
    cases ys with
    | nil => simp at e
    | cons b s =>
      cases i with
      | zero => simp at h
      | succ i => simp at h e; simp only [List.cons_append, List.zip_cons_cons]; rw [ih h e]
section
variable {h₀ h : Heap} {L : Addr} {own rows : List (Addr × Obj)} {x y : Addr × Obj}
theorem link_swap (N : News h₀ L h (x :: (own ++ (y :: rows)))) : News h₀ L h (y :: x :: (own ++ rows)) := News.sub N (by
  intro p hp
  rcases List.mem_cons.mp hp with rfl | hp
  · exact .tail _ (List.mem_append_right _ (.head _))
  rcases List.mem_cons.mp hp with rfl | hp
  · exact .head _
  rcases List.mem_append.mp hp with hp | hp
  · exact .tail _ (List.mem_append_left _ hp)
  · exact .tail _ (List.mem_append_right _ (.tail _ hp)))
theorem link_back (N : News h₀ L h (y :: x :: (own ++ rows))) : News h₀ L h (own ++ (y :: (rows ++ [x]))) := News.sub N (by
  intro p hp
  rcases List.mem_append.mp hp with hp | hp
  · exact .tail _ (.tail _ (List.mem_append_left _ hp))
  rcases List.mem_cons.mp hp with rfl | hp
  · exact .head _
  rcases List.mem_append.mp hp with hp | hp
  · exact .tail _ (.tail _ (List.mem_append_right _ hp))
  · rw [List.mem_singleton.mp hp]; exact .tail _ (.head _))
theorem link_apart {Dl : Addr} {ps : List (Addr × Nat)} {lk : List (List Bool)} (hx : x.1 ≠ Dl) (hps : ∀ p ∈ ps, p.1 ≠ Dl) (ho : ∀ p ∈ own, p.1 ≠ Dl) : ∀ p ∈ x :: (own ++ (ps.zip lk).map rowObj), p.1 ≠ Dl := by
  intro p hp
  rcases List.mem_cons.mp hp with rfl | hp
  · exact hx
  rcases List.mem_append.mp hp with hp | hp
  · exact ho p hp
  · obtain ⟨q, hq, rfl⟩ := List.mem_map.mp hp
    exact hps q.1 (List.of_mem_zip hq).1
theorem link_off {I : Addr} {o o' : Obj} {d : Addr} (hn : ∀ p ∈ (d, o) :: rows, p.1 ≠ I) (hx : x.1 ≠ I) : ∀ p ∈ (d, o') :: (rows ++ [x]), p.1 ≠ I := by
  intro p hp
  rcases List.mem_cons.mp hp with rfl | hp
  · exact hn (d, o) (.head _)
  rcases List.mem_append.mp hp with hp | hp
  · exact hn _ (.tail _ hp)
  · rw [List.mem_singleton.mp hp]; exact hx
end
theorem rows_at {h : Heap} : ∀ {ps : List (Addr × Nat)} {lk : List (List Bool)}, ps.length = lk.length → (∀ q ∈ ps.zip lk, h.get? (rowObj q).1 = some (rowObj q).2) → Paired (RowAt h) lk (ps.map fun p => Value.ref p.1)
  | [], [], _, _ => .nil
  | p :: ps, b :: lk, hl, hq => .cons ⟨p.1, rfl, lobj_is (hq (p, b) (.head _))⟩ (rows_at (by simpa using hl) fun q h => hq q (.tail _ h))
  | [], _ :: _, h, _ => by simp at h
  | _ :: _, [], h, _ => by simp at h

set_option maxHeartbeats 1000000 in
set_option pp.deepTerms.threshold 6 in
theorem c_linked (w : World) {A : Around} {s : Shared} (G : Gd w s.heap) (Rm : Room A 3) {b : Array UInt8} (t : Tok) {l : Addr} {vs : List Value} {fs : List Nat} (hb : b.size ≤ 500000) (hl : s.heap.IsList l vs.toArray) (hp : Paired decN fs vs) (hf : ∀ f ∈ fs, f < b.size) (hfl : fs.length ≤ 500000) :
    Pw w A (call (.ref 122) [.bytes b t, .ref l]) (LinkRes b fs) s := by
  walk_at "fill"
  obtain ⟨p, loose, mean, mg, mb, T⟩ := G.t
  refine call_pure (binds := [(Str.ofString "octets", .bytes b t), (Str.ofString "fronts", .ref l)]) G.k T.nolimit Rm.lim (by k_is) (by k_is) (BindsTo.of_eq rfl) (locs rfl) rfl rfl rfl (by decide) ?_
  intro L h₁ tk _ F
  have N : News s.heap L h₁ [] := News.nil
  have hlen := paired_len hp
  refine wpAny_execs_cons ?_
  refine Assign_Tuple_swapped (names := [Str.ofString "own", Str.ofString "total", Str.ofString "links"]) ?_ rfl rfl
  refine r_tuple ?_
  walk_at "run"
  walk_at "gl"
  walk_at "cd"
  walk_at "run"
  have G₁ : Gd w h₁ := G.keeps F.keep
  refine ⟨G₁.k, ?_⟩
  refine use (c_mirror w G₁ ((Rm.deeper _).less (by decide)) _) fun v h2 tk2 hv hk2 => ?_
  obtain ⟨t1, rfl⟩ := hv
  have F2 := F.keeps hk2
  walk_at "run"
  refine r_newlistO F2 News.nil (by simp) fun h3 F3 N3 => ?_
  walk_at "run"
  refine ⟨by simp [sizeLine_eq], ?_⟩
  refine r_unpack (vs := [_, _, _]) F3 N3 Rm.handled rfl fun h4 F4 N4 => ?_
  dsimp only [List.reverse, List.reverseAux, List.map]
  generalize hDl : h2.objs.size = Dl at *
  refine r_ord_cons (wpAny_bindName ?_)
  walk_at "run"
  refine r_ord_cons (wpAny_bindName ?_)
  walk_at "run"
  refine r_ord_cons (wpAny_bindName ?_)
  walk_at "run"
  refine r_ord_nil ?_
  rename_i h5 F5 N5
  refine wpAny_execs_cons (For_invV s.heap rfl rfl ?_)
  walk_at "run"
  refine r_neg fun t6 k6 => ?_
  walk_at "run"
  refine r_newlistO F5 N5 (by simp) fun h7 F7 N7 => ?_
  walk_at "run"
  refine r_addlists F7 N7 (lobj_is (N7 _ (.head _)).1) (hl.at fun o e => F7.keep _ _ e) (by simp; omega) fun h8 F8 N8 => ?_
  have hDl8 : Dl < h7.objs.size := Heap.lt_size (N7 _ (.tail _ (.head _))).1
  have hLl : h7.objs.size ≠ L := (N8 _ (.head _)).2.1
  generalize hla : h7.objs.size = la at *
  generalize hH : h8 = H at *
  have hDl9 : Dl < H.objs.size := Heap.lt_size (N8 _ (.tail _ (.tail _ (.head _)))).1
  have N9 : News s.heap L H [(Dl, lobj [] 0)] := News.sub N8 (by intro p hp; exact .tail _ (.tail _ hp))
  refine it_listG (L := L) (l := la) (vs := [Value.int (-1) t6] ++ vs) (nl := 0) (news := [(Dl, lobj [] 0)])
    (fun i m news => ∃ (ps : List (Addr × Nat)) (n : Nat), ps.length = i ∧ news = (Dl, lobj (ps.map fun p => Value.ref p.1) n) :: (ps.zip (lkOf b fs)).map rowObj ∧ (∀ p ∈ ps, p.1 ≠ Dl) ∧
      (∃ t, m (Str.ofString "own") = some (.int (ownM : Nat) t)) ∧ m (Str.ofString "links") = some (.ref Dl) ∧ m (Str.ofString "octets") = some (.bytes b t) ∧ m (Str.ofString "fronts") = some (.ref l) ∧
      (0 < i → ∃ t, m (Str.ofString "total") = some (.int (mirror (lkRow b fs 4294967295 0 b.size).1 : Nat) t)))
    rfl Rm.handled (N8 _ (.head _)).1 hLl F8 N9 ?_ ?_ ?_
  · exact ⟨[], 0, rfl, rfl, by simp, ⟨_, by walk_at "mv"⟩, by walk_at "mv", by walk_at "mv", by walk_at "mv", by simp⟩
  · rintro i v m₁ news₁ h tk own hv ⟨ps, n, hpi, rfl, hps, ⟨to, ho⟩, hlk, hoc, hfr, htot⟩ hnw hown ⟨oI, hoI⟩ F₁ N₁
    clear F N F2 F3 F4 N3 N4 F5 N5 F7 N7 F8 N8 N9 G₁
    cases i with
    | zero =>
      obtain rfl : Value.int (-1) t6 = v := by simpa using hv
      refine wpAny_execs_cons ?_
      refine Assign_Tuple_swapped (names := [Str.ofString "rest", Str.ofString "row"]) ?_ rfl rfl
      refine r_tuple ?_
      walk_at "run"
      refine r_ge ?_
      walk_at "run"
      refine ite_neg (by decide) ?_
      walk_at "run"
      have hIh : H.objs.size < h.objs.size := Heap.lt_size (N₁ _ (List.mem_append_left _ hoI)).1
      have hDh : Dl < h.objs.size := Heap.lt_size (N₁ _ (List.mem_append_right _ (.head _))).1
      refine r_newlistO F₁ N₁ (by simp) fun ha Fa Na => ?_
      walk_at "run"
      refine ⟨by simp [sizeLine_eq], ?_⟩
      refine r_unpack (vs := [_, _]) Fa Na Rm.handled rfl fun hc Fc Nc => ?_
      have hap : ∀ p ∈ own ++ ((Dl, lobj (ps.map fun p => Value.ref p.1) n) :: (ps.zip (lkOf b fs)).map rowObj), p.1 ≠ h.objs.size := fun p hp => Nat.ne_of_lt (Heap.lt_size (N₁ p hp).1)
      generalize hDr : h.objs.size = Dr at *
      dsimp only [List.reverse, List.reverseAux, List.map]
      refine r_ord_cons (wpAny_bindName ?_)
      walk_at "run"
      refine r_ord_cons (wpAny_bindName ?_)
      walk_at "run"
      refine r_ord_nil ?_
      rename_i hd Fd Nd
      refine wpAny_execs_cons (For_invV s.heap rfl rfl ?_)
      walk_at "run"
      walk_at "bi"
      walk_at "run"
      refine r_addI ?_
      walk_at "run"
      refine r_ge ?_
      walk_at "run"
      refine ite_neg (by decide) ?_
      walk_at "run"
      walk_at "bi"
      walk_at "cw"
      walk_at "run"
      refine r_lenb (by omega) fun te ke => ?_
      walk_at "run"
      refine r_range2 fun hg t₁ u₁ v₁ hr he => ?_
      have hkg : ∀ b o, hd.get? b = some o → hg.get? b = some o := fun b o e => by rw [he]; exact Heap.get?_push_of_some _ e
      have Fg := Fd.keeps hkg
      have Ng := Nd.grown hkg
      refine it_rangeN (L := L) (a' := 0) (b' := b.size) (n := b.size) (news := (Dr, lobj [] 0) :: (own ++ ((Dl, lobj (ps.map fun p => Value.ref p.1) n) :: (ps.zip (lkOf b fs)).map rowObj)))
        (fun j m nx => ∃ n', nx = (Dr, lobj ((lkRow b fs 4294967295 0 j).2.map Value.bool) n') :: (own ++ ((Dl, lobj (ps.map fun p => Value.ref p.1) n) :: (ps.zip (lkOf b fs)).map rowObj)) ∧
          (∃ t, m (Str.ofString "rest") = some (.int ((lkRow b fs 4294967295 0 j).1 : Nat) t)) ∧ m (Str.ofString "row") = some (.ref Dr) ∧ m (Str.ofString "begin") = some (.int (-1) t6) ∧
          (∃ t, m (Str.ofString "own") = some (.int (ownM : Nat) t)) ∧ m (Str.ofString "links") = some (.ref Dl) ∧ m (Str.ofString "octets") = some (.bytes b t) ∧ m (Str.ofString "fronts") = some (.ref l) ∧
          True)
        rfl (by first | rfl | decide) (by first | rfl | (push_cast; rfl)) Rm.handled hr (by omega) (by omega) (by omega) Fg Ng ?_ ?_ ?_
      · refine ⟨0, rfl, ⟨_, by walk_at "mv"⟩, by walk_at "mv", by walk_at "mv", ⟨_, by walk_at "mv"⟩, by walk_at "mv", by walk_at "mv", by walk_at "mv", ?_⟩
        trivial
      · rintro j tj m₂ news₂ hh tkk own' hj hnm hoff ⟨n', rfl, ⟨tr, hrest⟩, hrow, hbeg, ⟨to2, ho2⟩, hlk2, hoc2, hfr2, htot2⟩ F₂ N₂
        have hpl : 0 + j < b.size := by omega
        have hrl : (lkRow b fs 4294967295 0 j).1 < 2 ^ 32 := lkRow_lt (by first | decide | exact ownM_lt)
        have hln := lkRow_len (b := b) (fs := fs) (r := 4294967295) (a := 0) (n := j)
        have Gh : Gd w hh := G.keeps F₂.keep
        have hap2 : ∀ p ∈ (own ++ ((Dl, lobj (ps.map fun p => Value.ref p.1) n) :: (ps.zip (lkOf b fs)).map rowObj)) ++ own', p.1 ≠ Dr := fun p hp => (List.mem_append.mp hp).elim (hap p) fun q => hoff p q Dr (.head _)
        walk_at "run"
        refine r_in (hl.at fun o e => F₂.keep _ _ e) hp rfl ?_
        walk_at "run"
        refine split_dec (fun hin => ?_) fun hin => ?_
        · walk_at "run"
          refine wpAny_Expr ?_
          refine MethodCall_ ?_
          walk_at "run"
          refine r_gmappend N₂ (.head _) ?_
          refine callWith_method1 ?_
          walk_at "run"
          refine r_append F₂ N₂ hap2 (by simp; omega) fun h9 F9 N9 => ?_
          walk_at "run"
          have G9 : Gd w h9 := G.keeps F9.keep
          walk_at "gl"
          walk_at "cd"
          walk_at "run"
          refine r_itemb rfl hpl (by omega) (fun t8 k8 => ?_) (by with_unfolding_all rfl) (by intro _; with_unfolding_all rfl)
          walk_at "run"
          refine ⟨G9.k, ?_⟩
          refine use (c_law_step w G9 ((Rm.deeper _).less (by decide)) hrl _ _) fun v h6 tk6 hv hk6 => ?_
          obtain ⟨t6', rfl⟩ := hv
          have F6 := F9.keeps hk6
          have N6 := N9.grown hk6
          walk_at "run"
          refine inv_end (nx := (Dr, lobj ((lkRow b fs 4294967295 0 j).2.map Value.bool ++ [_]) (n' + 1)) :: (own ++ ((Dl, lobj (ps.map fun p => Value.ref p.1) n) :: (ps.zip (lkOf b fs)).map rowObj))) (by assumption) (by assumption) rfl ?_
          rw [lkRow_succ, lkStep]
          dsimp only
          rw [if_pos hin, List.map_append]
          exact ⟨_, rfl, ⟨_, by walk_at "mv"⟩, by walk_at "mv", by walk_at "mv", ⟨_, by walk_at "mv"⟩, by walk_at "mv", by walk_at "mv", by walk_at "mv", trivial⟩
        · walk_at "run"
          walk_at "gl"
          walk_at "cd"
          walk_at "run"
          refine r_itemb rfl hpl (by omega) (fun t8 k8 => ?_) (by with_unfolding_all rfl) (by intro _; with_unfolding_all rfl)
          walk_at "run"
          refine ⟨Gh.k, ?_⟩
          refine use (c_law_step w Gh ((Rm.deeper _).less (by decide)) hrl _ _) fun v h6 tk6 hv hk6 => ?_
          obtain ⟨t6', rfl⟩ := hv
          have F6 := F₂.keeps hk6
          have N6 := N₂.grown hk6
          walk_at "run"
          refine inv_end (by assumption) (by assumption) hnm ?_
          rw [lkRow_succ, lkStep]
          dsimp only
          rw [if_neg hin]
          exact ⟨_, rfl, ⟨_, by walk_at "mv"⟩, by walk_at "mv", by walk_at "mv", ⟨_, by walk_at "mv"⟩, by walk_at "mv", by walk_at "mv", by walk_at "mv", trivial⟩
      · rintro m₂ news₂ hh tkk ⟨n', rfl, ⟨tr, hrest⟩, hrow, hbeg, ⟨to2, ho2⟩, hlk2, hoc2, hfr2, htot2⟩ F₂ N₂
        have Gh : Gd w hh := G.keeps F₂.keep
        walk_at "run"
        refine r_lt ?_
        walk_at "run"
        refine ite_pos (by decide) ?_
        walk_at "run"
        walk_at "gl"
        walk_at "cd"
        walk_at "run"
        refine ⟨Gh.k, ?_⟩
        refine use (c_mirror w Gh ((Rm.deeper _).less (by decide)) _) fun v h6 tk6 hv hk6 => ?_
        obtain ⟨tm, rfl⟩ := hv
        have F6 := F₂.keeps hk6
        have N6 := N₂.grown hk6
        walk_at "run"
        rename_i h10 F10 N10
        refine wpAny_Expr ?_
        refine MethodCall_ ?_
        walk_at "run"
        have N11 := link_swap N10
        refine r_gmappend N11 (.head _) ?_
        refine callWith_method1 ?_
        walk_at "run"
        refine r_append F10 N11 ?_ (by simp; omega) fun h9 F9 N9 => ?_
        · exact link_apart (Nat.ne_of_gt hDh) hps fun p hp => (hown p hp).elim (fun e => e ▸ Nat.ne_of_gt hDl9) fun e => e ▸ Nat.ne_of_gt hDl8
        walk_at "run"
        have hzip := zip_snoc (Dr, n') hpi (show (lkOf b fs)[0]? = some (lkRow b fs 4294967295 0 b.size).2 from rfl)
        refine ⟨rfl, _, _, _, (Dl, lobj ((ps ++ [(Dr, n')]).map fun p => Value.ref p.1) (n + 1)) :: ((ps ++ [(Dr, n')]).zip (lkOf b fs)).map rowObj, rfl, F9, ?_, ?_, ⟨ps ++ [(Dr, n')], n + 1, by simp [hpi], rfl, ?_, ⟨_, by walk_at "mv"⟩, by walk_at "mv", by walk_at "mv", by walk_at "mv", ?_⟩⟩
        · rw [hzip, List.map_append, List.map_append]
          exact link_back N9
        · rw [hzip, List.map_append, List.map_append]
          exact link_off (x := rowObj ((Dr, n'), _)) hnw (show Dr ≠ H.objs.size from Nat.ne_of_gt hIh)
        · intro p hp
          rcases List.mem_append.mp hp with hp | hp
          · exact hps p hp
          · rw [List.mem_singleton.mp hp]; exact Nat.ne_of_gt hDh
        · exact fun _ => ⟨_, by walk_at "mv"⟩
    | succ j₀ =>
      obtain ⟨f, hfj, ⟨tf, rfl⟩⟩ := paired_get hp (show vs[j₀]? = some v by simpa using hv)
      have hne : fs ≠ [] := by rintro rfl; cases hfj
      have hflt := hf f (List.mem_of_getElem? hfj)
      have hlast := hf _ (getLastD_mem hne)
      have hil : j₀ < fs.length := by
        rcases Nat.lt_or_ge j₀ fs.length with q | q
        · exact q
        · rw [List.getElem?_eq_none q] at hfj; cases hfj
      refine wpAny_execs_cons ?_
      refine Assign_Tuple_swapped (names := [Str.ofString "rest", Str.ofString "row"]) ?_ rfl rfl
      refine r_tuple ?_
      walk_at "run"
      refine r_ge ?_
      walk_at "run"
      refine ite_pos (decide_eq_true (by omega)) ?_
      walk_at "run"
      have hIh : H.objs.size < h.objs.size := Heap.lt_size (N₁ _ (List.mem_append_left _ hoI)).1
      have hDh : Dl < h.objs.size := Heap.lt_size (N₁ _ (List.mem_append_right _ (.head _))).1
      refine r_newlistO F₁ N₁ (by simp) fun ha Fa Na => ?_
      walk_at "run"
      refine ⟨by simp [sizeLine_eq], ?_⟩
      refine r_unpack (vs := [_, _]) Fa Na Rm.handled rfl fun hc Fc Nc => ?_
      have hap : ∀ p ∈ own ++ ((Dl, lobj (ps.map fun p => Value.ref p.1) n) :: (ps.zip (lkOf b fs)).map rowObj), p.1 ≠ h.objs.size := fun p hp => Nat.ne_of_lt (Heap.lt_size (N₁ p hp).1)
      generalize hDr : h.objs.size = Dr at *
      dsimp only [List.reverse, List.reverseAux, List.map]
      refine r_ord_cons (wpAny_bindName ?_)
      walk_at "run"
      refine r_ord_cons (wpAny_bindName ?_)
      walk_at "run"
      refine r_ord_nil ?_
      rename_i hd Fd Nd
      refine wpAny_execs_cons (For_invV s.heap rfl rfl ?_)
      walk_at "run"
      walk_at "bi"
      walk_at "run"
      walk_at "run"
      refine r_ge ?_
      walk_at "run"
      refine ite_pos (decide_eq_true (by omega)) ?_
      walk_at "run"
      refine r_neg fun te ke => ?_
      obtain ⟨vi, tl, hvi⟩ := paired_last hp hne
      refine r_lastitem (vi := vi) (hvi ▸ hl.at fun o e => Fd.keep _ _ e) ?_ (by with_unfolding_all rfl) (by intro _; with_unfolding_all rfl)
      walk_at "run"
      refine r_range2 fun hg t₁ u₁ v₁ hr he => ?_
      have hkg : ∀ b o, hd.get? b = some o → hg.get? b = some o := fun b o e => by rw [he]; exact Heap.get?_push_of_some _ e
      have Fg := Fd.keeps hkg
      have Ng := Nd.grown hkg
      refine it_rangeN (L := L) (a' := (f + 1)) (b' := fs.getLastD 0 + 1) (n := (fs.getLastD 0 - f)) (news := (Dr, lobj [] 0) :: (own ++ ((Dl, lobj (ps.map fun p => Value.ref p.1) n) :: (ps.zip (lkOf b fs)).map rowObj)))
        (fun j m nx => ∃ n', nx = (Dr, lobj ((lkRow b fs ownM (f + 1) j).2.map Value.bool) n') :: (own ++ ((Dl, lobj (ps.map fun p => Value.ref p.1) n) :: (ps.zip (lkOf b fs)).map rowObj)) ∧
          (∃ t, m (Str.ofString "rest") = some (.int ((lkRow b fs ownM (f + 1) j).1 : Nat) t)) ∧ m (Str.ofString "row") = some (.ref Dr) ∧ m (Str.ofString "begin") = some (.int (f : Nat) tf) ∧
          (∃ t, m (Str.ofString "own") = some (.int (ownM : Nat) t)) ∧ m (Str.ofString "links") = some (.ref Dl) ∧ m (Str.ofString "octets") = some (.bytes b t) ∧ m (Str.ofString "fronts") = some (.ref l) ∧
          (0 < j₀ + 1 → ∃ t, m (Str.ofString "total") = some (.int (mirror (lkRow b fs 4294967295 0 b.size).1 : Nat) t)))
        rfl (by first | rfl | decide) (by first | rfl | (push_cast; rfl)) Rm.handled hr (by omega) (by omega) (by omega) Fg Ng ?_ ?_ ?_
      · refine ⟨0, rfl, ⟨_, by walk_at "mv"⟩, by walk_at "mv", by walk_at "mv", ⟨_, by walk_at "mv"⟩, by walk_at "mv", by walk_at "mv", by walk_at "mv", ?_⟩
        intro hi; obtain ⟨tt, e⟩ := htot hi; exact ⟨tt, by walk_at "mv"⟩
      · rintro j tj m₂ news₂ hh tkk own' hj hnm hoff ⟨n', rfl, ⟨tr, hrest⟩, hrow, hbeg, ⟨to2, ho2⟩, hlk2, hoc2, hfr2, htot2⟩ F₂ N₂
        have hpl : (f + 1) + j < b.size := by omega
        have hrl : (lkRow b fs ownM (f + 1) j).1 < 2 ^ 32 := lkRow_lt (by first | decide | exact ownM_lt)
        have hln := lkRow_len (b := b) (fs := fs) (r := ownM) (a := (f + 1)) (n := j)
        have Gh : Gd w hh := G.keeps F₂.keep
        have hap2 : ∀ p ∈ (own ++ ((Dl, lobj (ps.map fun p => Value.ref p.1) n) :: (ps.zip (lkOf b fs)).map rowObj)) ++ own', p.1 ≠ Dr := fun p hp => (List.mem_append.mp hp).elim (hap p) fun q => hoff p q Dr (.head _)
        walk_at "run"
        refine r_in (hl.at fun o e => F₂.keep _ _ e) hp rfl ?_
        walk_at "run"
        refine split_dec (fun hin => ?_) fun hin => ?_
        · walk_at "run"
          refine wpAny_Expr ?_
          refine MethodCall_ ?_
          walk_at "run"
          refine r_gmappend N₂ (.head _) ?_
          refine callWith_method1 ?_
          walk_at "run"
          refine r_append F₂ N₂ hap2 (by simp; omega) fun h9 F9 N9 => ?_
          walk_at "run"
          have G9 : Gd w h9 := G.keeps F9.keep
          walk_at "gl"
          walk_at "cd"
          walk_at "run"
          refine r_itemb rfl hpl (by omega) (fun t8 k8 => ?_) (by with_unfolding_all rfl) (by intro _; with_unfolding_all rfl)
          walk_at "run"
          refine ⟨G9.k, ?_⟩
          refine use (c_law_step w G9 ((Rm.deeper _).less (by decide)) hrl _ _) fun v h6 tk6 hv hk6 => ?_
          obtain ⟨t6', rfl⟩ := hv
          have F6 := F9.keeps hk6
          have N6 := N9.grown hk6
          walk_at "run"
          refine inv_end (nx := (Dr, lobj ((lkRow b fs ownM (f + 1) j).2.map Value.bool ++ [_]) (n' + 1)) :: (own ++ ((Dl, lobj (ps.map fun p => Value.ref p.1) n) :: (ps.zip (lkOf b fs)).map rowObj))) (by assumption) (by assumption) rfl ?_
          rw [lkRow_succ, lkStep]
          dsimp only
          rw [if_pos hin, List.map_append]
          exact ⟨_, rfl, ⟨_, by walk_at "mv"⟩, by walk_at "mv", by walk_at "mv", ⟨_, by walk_at "mv"⟩, by walk_at "mv", by walk_at "mv", by walk_at "mv", fun hi => let ⟨tt, e⟩ := htot2 hi; ⟨tt, by walk_at "mv"⟩⟩
        · walk_at "run"
          walk_at "gl"
          walk_at "cd"
          walk_at "run"
          refine r_itemb rfl hpl (by omega) (fun t8 k8 => ?_) (by with_unfolding_all rfl) (by intro _; with_unfolding_all rfl)
          walk_at "run"
          refine ⟨Gh.k, ?_⟩
          refine use (c_law_step w Gh ((Rm.deeper _).less (by decide)) hrl _ _) fun v h6 tk6 hv hk6 => ?_
          obtain ⟨t6', rfl⟩ := hv
          have F6 := F₂.keeps hk6
          have N6 := N₂.grown hk6
          walk_at "run"
          refine inv_end (by assumption) (by assumption) hnm ?_
          rw [lkRow_succ, lkStep]
          dsimp only
          rw [if_neg hin]
          exact ⟨_, rfl, ⟨_, by walk_at "mv"⟩, by walk_at "mv", by walk_at "mv", ⟨_, by walk_at "mv"⟩, by walk_at "mv", by walk_at "mv", by walk_at "mv", fun hi => let ⟨tt, e⟩ := htot2 hi; ⟨tt, by walk_at "mv"⟩⟩
      · rintro m₂ news₂ hh tkk ⟨n', rfl, ⟨tr, hrest⟩, hrow, hbeg, ⟨to2, ho2⟩, hlk2, hoc2, hfr2, htot2⟩ F₂ N₂
        have Gh : Gd w hh := G.keeps F₂.keep
        walk_at "run"
        refine r_lt ?_
        walk_at "run"
        refine ite_neg (by simp) ?_
        walk_at "run"
        have F10 := F₂
        have N10 := N₂
        refine wpAny_Expr ?_
        refine MethodCall_ ?_
        walk_at "run"
        have N11 := link_swap N10
        refine r_gmappend N11 (.head _) ?_
        refine callWith_method1 ?_
        walk_at "run"
        refine r_append F10 N11 ?_ (by simp; omega) fun h9 F9 N9 => ?_
        · exact link_apart (Nat.ne_of_gt hDh) hps fun p hp => (hown p hp).elim (fun e => e ▸ Nat.ne_of_gt hDl9) fun e => e ▸ Nat.ne_of_gt hDl8
        walk_at "run"
        have hzip := zip_snoc (Dr, n') hpi (show (lkOf b fs)[j₀ + 1]? = some (lkRow b fs ownM (f + 1) (fs.getLastD 0 - f)).2 from by rw [lkOf, List.getElem?_cons_succ, List.getElem?_map, hfj]; rfl)
        refine ⟨rfl, _, _, _, (Dl, lobj ((ps ++ [(Dr, n')]).map fun p => Value.ref p.1) (n + 1)) :: ((ps ++ [(Dr, n')]).zip (lkOf b fs)).map rowObj, rfl, F9, ?_, ?_, ⟨ps ++ [(Dr, n')], n + 1, by simp [hpi], rfl, ?_, ⟨_, by walk_at "mv"⟩, by walk_at "mv", by walk_at "mv", by walk_at "mv", ?_⟩⟩
        · rw [hzip, List.map_append, List.map_append]
          exact link_back N9
        · rw [hzip, List.map_append, List.map_append]
          exact link_off (x := rowObj ((Dr, n'), _)) hnw (show Dr ≠ H.objs.size from Nat.ne_of_gt hIh)
        · intro p hp
          rcases List.mem_append.mp hp with hp | hp
          · exact hps p hp
          · rw [List.mem_singleton.mp hp]; exact Nat.ne_of_gt hDh
        · exact fun _ => let ⟨tt, e⟩ := htot2 (Nat.succ_pos _); ⟨tt, by walk_at "mv"⟩
  · rintro m₁ news₁ h tk ⟨ps, n, hpi, rfl, hps, ⟨to, ho⟩, hlk, hoc, hfr, htot⟩ F₁ N₁
    obtain ⟨tt, htot⟩ := htot (by simp)
    walk_at "run"
    refine r_newlistO F₁ N₁ (by simp) fun h3 F3 N3 => ?_
    walk_at "run"
    refine ⟨⟨_, Dl, tt, ps.map (fun p => Value.ref p.1), rfl, lobj_is (N3 _ (.head _)).1, lobj_is (N3 _ (.tail _ (.head _))).1, ?_⟩, _, _, _, rfl, F3⟩
    refine rows_at (by simp [lkOf] at hpi ⊢; omega) fun q hq => (N3 (rowObj q) (.tail _ (.tail _ (List.mem_map.mpr ⟨q, hq, rfl⟩)))).1

end
section -- Lc2

/-- a comprehension with one cell, its own target -/
def compEnvX (scope : Scope) (cl : List (Str × Addr)) (x : Str) (C : Addr) (env : Env) : Env :=
  { scope := relabel scope env, locals := C, globals := env.globals, cells := (x, C + 1) :: cl, qual := env.qual, func := none, code := env.code, frame := env.frame, builtins := env.builtins }

local macro_rules | `(tactic| walk_at "oa") => `(tactic| first | omega | (show (_ : Nat) ≠ (_ : Nat); omega))
section
variable {w : World} {A : Around} {E : Value → Shared → Prop} {H : Heap} {gn : Array GenState} {dr : Drawn} {tk₀ : Nat} {os : OsState} {env : Env} {scope : Scope} {cl : List (Str × Addr)} {x y : Str} {elt iter : Expr} {px py pos spos : Pos} {s : Shared}

abbrev LccAt (w : World) (A : Around) (E : Value → Shared → Prop) (env : Env) (scope : Scope) (cl : List (Str × Addr)) (x y : Str) (px py : Pos) (elt iter : Expr) (pos : Pos) (Q : Flow → Shared → Prop) (it : Value) (s₂ : Shared) : Prop :=
  wpAny (model PR w) A (newList []) (fun acc s₃ => wpAny (model PR w) A (newFunctionEnv scope env.globals cl [] env.qual none .none (some env)) (fun cenv s₄ =>
    codeAny (model PR w) A (.compStart (.ListComp elt [⟨.Name x px, iter, [], 0⟩] scope pos) 0 it acc { cenv with scope := relabel scope env }) (compPost (model PR w) A E (some (assign (.Name y py) env)) (fun _ s' => Q .next s') acc cenv.locals) s₄) E s₃) E s₂

theorem asg_comp {Q : Flow → Shared → Prop} (hsw : swapsWith (.ListComp elt [⟨.Name x px, iter, [], 0⟩] scope pos) (some (.Name y py)) spos.line env = pure true)
    (hclos : closureFor scope env = pure cl) (hkind : scope.kind = .function) (hnames : ∀ z ∈ scope.names, z.2 = .local → scope.names.lookup z.1 = some .local)
    (hs : ∀ x, foldedSetIterable iter env x = pure x)
    (h : wpAny (model PR w) A (eval iter env) (fun xv s₁ => wpAny (model PR w) A (pyIter xv) (fun it s₂ => LccAt w A E env scope cl x y px py elt iter pos Q it s₂) E s₁) E s) :
    wpAny (model PR w) A (exec (.Assign [.Name y py] (.ListComp elt [⟨.Name x px, iter, [], 0⟩] scope pos) spos) env) Q E s := by
  rw [exec_Assign_Name_used _ _ _ _ hsw]
  refine wpAny_bind (wpAny_standAt (wpAny_bind ?_))
  show wpAny _ A (do let _ ← comprehension (.ListComp elt [⟨.Name x px, iter, [], 0⟩] scope pos) scope env _ (newList []) false (eval iter env) (some (assign (.Name y py) env))) _ _ s
  exact wpAny_bind (wpAny_mono (wpAny_comprehension_free (use := some (assign (.Name y py) env)) (Q := fun _ s' => Q .next s') rfl hs hclos hkind hnames h) (fun _ s' hq => wpAny_pure (wpAny_pure hq)) fun _ _ e => e)

theorem lcc_core {Q : Flow → Shared → Prop} {h₀ : Heap} {L : Addr} {m : Str → Option Value} {n : Nat} {I : Nat} {St : Nat → Heap → Prop} {H1 : Heap} (bsOf : Nat → List Value)
    (hcf : ∀ n, cellsFrom n scope.names cl = (x, n) :: cl) (hpc : ∀ h, pushCells h scope.names = h.push { cls := .type "cell", data := .cell none }) (hkind : scope.kind = .function)
    (hxk : ∀ C, (compEnvX scope cl x C env).kindOf x = some .cell)
    (hL : env.locals = L) (hy : env.kindOf y = some .local) (hek : env.scope.kind = .function)
    (F : Fr h₀ L H m) (hn : n ≤ 1000000) (W : Walks PR w A I [I] [I] n (fun i v => ∃ t, v = .int ((i : Nat) : Int) t) St) (hSt : ∀ i h, St i h → ∃ o, h.get? I = some o) (hst : St 0 H1)
    (hI : H.objs.size = I) (hH1 : H1.objs.size = I + 1) (old1 : ∀ b o, H.get? b = some o → H1.get? b = some o)
    (elm : ∀ C k tv h₃ gn₃ dr₃ tk₃ os₃ E', k < n → h₃.IsCell (C + 1) (some (.int (k : Nat) tv)) → (∀ b o, H.get? b = some o → h₃.get? b = some o) →
      wpAny (model PR w) A (eval elt (compEnvX scope cl x C env)) (fun y s₄ => (∃ a, y = .ref a ∧ h₃.get? a = none ∧ s₄.heap.IsList a (bsOf k).toArray) ∧ Keeps ⟨h₃, gn₃, dr₃, tk₃, os₃⟩ s₄) E' ⟨h₃, gn₃, dr₃, tk₃, os₃⟩)
    (done : ∀ D h' tk vs, Paired (fun k v => ∃ a, v = Value.ref a ∧ h'.IsList a (bsOf k).toArray) (List.range n) vs → h'.IsList D vs.toArray → Fr h₀ L h' (fun z => if z = y then some (.ref D) else m z) →
      (∀ b o, b ≠ L → H.get? b = some o → h'.get? b = some o) → Q .next ⟨h', gn, dr, tk, os⟩) :
    LccAt w A E env scope cl x y px py elt iter pos Q (.ref I) ⟨H1, gn, dr, tk₀, os⟩ := by
  subst hL
  refine wpAny_newObj_type ?_
  have hH2 : (H1.push { cls := .type "list", data := .seq ([] : List Value).toArray }).objs.size = I + 2 := by rw [Heap.size_push, hH1]
  have hacc : (H1.push { cls := .type "list", data := .seq ([] : List Value).toArray }).PlainList (I + 1) #[] := ⟨0, by rw [← hH1]; exact Heap.get?_push_size _ rfl⟩
  have old2 : ∀ b o, H1.get? b = some o → (H1.push { cls := .type "list", data := .seq ([] : List Value).toArray }).get? b = some o := fun b o e => Heap.get?_push_of_some _ e
  show wpAny _ _ _ _ _ ⟨H1.push { cls := .type "list", data := .seq ([] : List Value).toArray }, gn, dr, tk₀, os⟩
  dsimp only
  generalize H1.push { cls := .type "list", data := .seq ([] : List Value).toArray } = H2 at *
  rw [hH1]
  simp only [newFunctionEnv, Option.isSome_some, if_true]
  refine wpAny_bind (wpAny_alloc ?_)
  refine wpAny_bind (wpAny_layCells _ (fun name kind cells => by cases hkc : kind == NameKind.cell <;> simp [hkc]) _ _ _ _ ?_)
  rw [List.forIn_nil]
  refine wpAny_bind (wpAny_pure (wpAny_pure ?_))
  dsimp only
  rw [hcf, hpc, hH2]
  have hns := (Heap.Ns.new H2 (.type "dict"))
  rw [hH2] at hns
  have hs3 : (H2.push { cls := .type "dict", data := .dict #[] }).objs.size = I + 2 + 1 := by rw [Heap.size_push, hH2]
  have old3 : ∀ b o, H2.get? b = some o → (H2.push { cls := .type "dict", data := .dict #[] }).get? b = some o := fun b o e => Heap.get?_push_of_some _ e
  generalize H2.push { cls := .type "dict", data := .dict #[] } = H3 at *
  rw [hs3]
  have hcell : (H3.push { cls := .type "cell", data := .cell none }).IsCell (I + 2 + 1) none := ⟨_, by rw [← hs3]; exact Heap.get?_push_size _ rfl, rfl⟩
  have old4 : ∀ b o, H3.get? b = some o → (H3.push { cls := .type "cell", data := .cell none }).get? b = some o := fun b o e => Heap.get?_push_of_some _ e
  generalize H3.push { cls := .type "cell", data := .cell none } = H4 at *
  have old : ∀ b o, H.get? b = some o → H4.get? b = some o := fun b o e => old4 _ _ (old3 _ _ (old2 _ _ (old1 _ _ e)))
  have hacc4 : H4.PlainList (I + 1) #[] := hacc.at fun o e => old4 _ _ (old3 _ _ e)
  have hns4 := hns.at' fun o e => old4 _ o e
  have hst4 : St 0 H4 := W.frame _ _ _ hst fun b _ o e => old4 _ _ (old3 _ _ (old2 _ _ e))
  have hHI : ∀ (b : Nat) o, H.get? b = some o → b < I := fun b o e => hI ▸ Heap.lt_size e
  have loop : codeAny (model PR w) A (.compLoop (.ListComp elt [⟨.Name x px, iter, [], 0⟩] scope pos) 0 (.ref I) (.ref (I + 1)) (compEnvX scope cl x (I + 2) env))
      (compPost (model PR w) A E (some (assign (.Name y py) env)) (fun _ s' => Q .next s') (.ref (I + 1)) (I + 2)) ⟨H4, gn, dr, tk₀, os⟩ := by
    refine codeAny_compLoop_tests
      (fun k s' => ∃ h' tk i vc ys, s' = ⟨h', gn, dr, tk, os⟩ ∧ St i h' ∧ h'.PlainList (I + 1) ys ∧ (∃ m', h'.Ns (I + 2) m') ∧ h'.IsCell (I + 2 + 1) vc ∧
        Paired (fun k v => ∃ a, v = Value.ref a ∧ (a ≠ I ∧ a ≠ I + 1 ∧ a ≠ I + 2 ∧ a ≠ I + 2 + 1 ∧ a ≠ env.locals) ∧ h'.IsList a (bsOf k).toArray) (List.range i) ys.toList ∧ i ≤ n ∧ k = n + 1 - i ∧ (∀ b o, H.get? b = some o → h'.get? b = some o)) ?_ (n + 1)
      ⟨H4, tk₀, 0, none, #[], rfl, hst4, hacc4, ⟨_, hns4⟩, hcell, .nil, Nat.zero_le _, rfl, old⟩
    rintro k s' ⟨h', tk, i, vc, ys, rfl, hst', hacc', ⟨m', hns'⟩, hcell', hP, hi, rfl, hk⟩
    have nI : ∀ c, c ≠ I → c ∉ [I] := fun c hc q => hc (List.mem_singleton.mp q)
    obtain ⟨oL, _, _, hoL, _⟩ := id F.ns
    by_cases hlt : i < n
    · refine W.item i _ _ _ hlt hst' ?_
      rintro _ h₁ tk₁ ⟨tv, rfl⟩ hst₁ hk₁
      dsimp only at hk₁ ⊢
      have hc₁ : h₁.IsCell (I + 2 + 1) vc := let ⟨o, e, d⟩ := hcell'; ⟨o, hk₁ _ _ (nI _ (by walk_at "oa")) e, d⟩
      refine wpAny_assign_Name (wpAny_storeName_cell (by simpa [compEnvX, relabel] using hkind) (hxk _) (c := I + 2 + 1) (by simp [compEnvX]) hc₁ fun h₂ hc₂ hs₂ => ?_)
      have up₂ : ∀ b o, b ≠ I → b ≠ I + 2 + 1 → h'.get? b = some o → h₂.get? b = some o := fun b o h1 h2 e => hs₂.extBut b o h2 (hk₁ b o (nI _ h1) e)
      have hst₂ : St (i + 1) h₂ := W.frame _ _ _ hst₁ fun b hb o e => hs₂.extBut b o (by rw [List.mem_singleton.mp hb]; walk_at "oa") e
      have oldH₂ : ∀ b o, H.get? b = some o → h₂.get? b = some o := fun b o e => up₂ b o (Nat.ne_of_lt (hHI b o e)) (by have := hHI b o e; walk_at "oa") (hk b o e)
      refine wpAny_tests_nil ?_
      rw [if_pos rfl]
      refine wpAny_mono (elm (I + 2) i tv h₂ gn dr _ os _ hlt hc₂ oldH₂) (fun yv s₄ h₄ => ?_) fun _ _ e => e
      obtain ⟨⟨ra, rfl, hra, hrl⟩, h₃, tk₃, rfl, hk₃⟩ := h₄
      have hacc₃ : h₃.PlainList (I + 1) ys := hacc'.at fun o e => hk₃ _ _ (up₂ _ _ (by walk_at "oa") (by walk_at "oa") e)
      have hys : ys.size ≤ sizeLine := by
        have e1 := paired_len hP
        rw [List.length_range] at e1
        have e2 : ys.toList.length = ys.size := by simp
        rw [sizeLine_eq]; omega
      have off : ∀ a o, h₂.get? a = some o → ra ≠ a := fun a o e q => by rw [q, e] at hra; cases hra
      have hr5 : ra ≠ I ∧ ra ≠ I + 1 ∧ ra ≠ I + 2 ∧ ra ≠ I + 2 + 1 ∧ ra ≠ env.locals := by
        refine ⟨?_, ?_, ?_, ?_, ?_⟩
        · obtain ⟨o, e⟩ := hSt _ _ hst₂; exact off _ _ e
        · obtain ⟨_, e⟩ := hacc'; exact off _ _ (up₂ _ _ (by walk_at "oa") (by walk_at "oa") e)
        · obtain ⟨o, _, _, e, _⟩ := hns'; exact off _ _ (up₂ _ _ (by walk_at "oa") (by walk_at "oa") e)
        · obtain ⟨o, e, _⟩ := hc₂; exact off _ _ e
        · exact off _ _ (oldH₂ _ _ hoL)
      refine wpAny_list_append_plain (hsz := hys) hacc₃ fun h₅ hl₅ hs₅ => ?_
      have up₅ : ∀ b o, b ≠ I → b ≠ I + 2 + 1 → b ≠ I + 1 → h'.get? b = some o → h₅.get? b = some o := fun b o h1 h2 h3 e => hs₅.extBut b o h3 (hk₃ _ _ (up₂ b o h1 h2 e))
      refine ⟨n + 1 - (i + 1), by omega, h₅, tk₃, i + 1, some (.int (i : Nat) tv), ys.push (.ref ra), rfl, ?_, hl₅, ⟨m', hns'.at' fun o e => up₅ _ _ (by walk_at "oa") (by walk_at "oa") (by walk_at "oa") e⟩, ?_, ?_, hlt, rfl, ?_⟩
      · exact W.frame _ _ _ hst₂ fun b hb o e => hs₅.extBut b o (by rw [List.mem_singleton.mp hb]; walk_at "oa") (hk₃ _ _ e)
      · obtain ⟨o, e, d⟩ := hc₂; exact ⟨o, hs₅.extBut _ _ (by walk_at "oa") (hk₃ _ _ e), d⟩
      · rw [List.range_succ, Array.toList_push]
        refine Paired.snoc (paired_mono (fun k v q => ?_) hP) ⟨ra, rfl, hr5, hrl.extBut hs₅.extBut hr5.2.1⟩
        obtain ⟨a, rfl, ha, hla⟩ := q
        exact ⟨a, rfl, ha, hla.at fun o e => up₅ _ _ ha.1 ha.2.2.2.1 ha.2.1 e⟩
      · exact fun b o e => up₅ b o (by have := hHI b o e; walk_at "oa") (by have := hHI b o e; walk_at "oa") (by have := hHI b o e; walk_at "oa") (hk b o e)
    · have hin : i = n := by omega
      subst hin
      refine W.done _ _ _ hst' fun h₁ tk₁ hk₁ => ?_
      dsimp only at hk₁ ⊢
      have hLI := hHI _ _ hoL
      have hk₁' : ∀ b o, b ≠ I → h'.get? b = some o → h₁.get? b = some o := fun b o hb e => hk₁ b o (nI _ hb) e
      show wpAny _ A (assign (.Name y py) env (.ref (I + 1))) _ _ _
      refine wpAny_assign_Name (wpAny_storeName_local hy (F.ns.at' fun o e => hk₁' _ o (by walk_at "oa") (hk _ _ e)) (fun h₂ hn₂ hs₂ => ?_) (by rw [hek]; rfl))
      have hs₂' : ∀ b o, b ≠ env.locals → h₁.get? b = some o → h₂.get? b = some o := fun b o hb e => hs₂.extBut b o hb e
      refine ⟨m', hns'.at' fun o e => hs₂' _ _ (by walk_at "oa") (hk₁' _ _ (by walk_at "oa") e), fun h₃ hs₃ => ?_⟩
      have up₃ : ∀ b o, b ≠ I → b ≠ env.locals → b ≠ I + 2 → h'.get? b = some o → h₃.get? b = some o := fun b o h1 h2 h3 e => hs₃.extBut b o h3 (hs₂' _ _ h2 (hk₁' _ _ h1 e))
      refine done (I + 1) h₃ _ ys.toList (paired_mono (fun k v q => ?_) hP) ?_ ⟨hn₂.sameBut hs₃ (by walk_at "oa"), fun b o e => ?_, F.above⟩ fun b o hb e => ?_
      · obtain ⟨a, rfl, ha, hla⟩ := q
        exact ⟨a, rfl, hla.at fun o e => up₃ _ _ ha.1 ha.2.2.2.2 ha.2.2.1 e⟩
      · exact (hacc'.at fun o e => up₃ _ _ (by walk_at "oa") (by walk_at "oa") (by walk_at "oa") e).isList
      · have hbH := F.keep b o e
        have := hHI _ _ hbH
        exact up₃ b o (by walk_at "oa") (Nat.ne_of_lt (Nat.lt_of_lt_of_le (Heap.lt_size e) F.above)) (by walk_at "oa") (hk _ _ hbH)
      · have := hHI _ _ e
        exact up₃ b o (by walk_at "oa") hb (by walk_at "oa") (hk _ _ e)
  exact codeAny_compStart_list loop (W.self 0 _ _ _ hst4 loop)

theorem lcc_range {Q : Flow → Shared → Prop} {h₀ : Heap} {L : Addr} {m : Str → Option Value} {r : Addr} {a b : Int} {n : Nat} {t u v : Tok} (bsOf : Nat → List Value)
    (hcf : ∀ n, cellsFrom n scope.names cl = (x, n) :: cl) (hpc : ∀ h, pushCells h scope.names = h.push { cls := .type "cell", data := .cell none }) (hkind : scope.kind = .function)
    (hxk : ∀ C, (compEnvX scope cl x C env).kindOf x = some .cell)
    (hL : env.locals = L) (hy : env.kindOf y = some .local) (hek : env.scope.kind = .function)
    (F : Fr h₀ L H m)
    (ha : a = (0 : Nat)) (hb : b = n) (hh : A.handled = none) (hr : IsRange H r a b 1 t u v) (hn : n ≤ 1000000)
    (elm : ∀ C k tv h₃ gn₃ dr₃ tk₃ os₃ E', k < n → h₃.IsCell (C + 1) (some (.int (k : Nat) tv)) → (∀ b o, H.get? b = some o → h₃.get? b = some o) →
      wpAny (model PR w) A (eval elt (compEnvX scope cl x C env)) (fun y s₄ => (∃ a, y = .ref a ∧ h₃.get? a = none ∧ s₄.heap.IsList a (bsOf k).toArray) ∧ Keeps ⟨h₃, gn₃, dr₃, tk₃, os₃⟩ s₄) E' ⟨h₃, gn₃, dr₃, tk₃, os₃⟩)
    (done : ∀ D h' tk vs, Paired (fun k v => ∃ a, v = Value.ref a ∧ h'.IsList a (bsOf k).toArray) (List.range n) vs → h'.IsList D vs.toArray → Fr h₀ L h' (fun z => if z = y then some (.ref D) else m z) →
      (∀ b o, b ≠ L → H.get? b = some o → h'.get? b = some o) → Q .next ⟨h', gn, dr, tk, os⟩) :
    wpAny (model PR w) A (pyIter (.ref r)) (fun it s₂ => LccAt w A E env scope cl x y px py elt iter pos Q it s₂) E ⟨H, gn, dr, tk₀, os⟩ := by
  subst ha hb
  have hsz : Builtin.Range.rangeSize ((0 : Nat) : Int) n 1 = (n : Int) := by rw [rangeSize_one]; split <;> omega
  refine wpAny_pyIter_range hr (small_one (by omega) (by omega) (by omega) (by omega)) ?_
  have W₀ : Walks PR w A H.objs.size [H.objs.size] [H.objs.size] n (fun i v => ∃ t, v = .int (((0 : Nat) : Int) + i * 1) t)
      (fun i h => IsRangeIter h H.objs.size (((0 : Nat) : Int) + (i : Nat) * 1) ((n : Int) - (i : Nat)) 1) := Walks.range hh _ _ 1 _
  have W : Walks PR w A H.objs.size [H.objs.size] [H.objs.size] n (fun i v => ∃ t, v = .int ((i : Nat) : Int) t)
      (fun i h => IsRangeIter h H.objs.size (((0 : Nat) : Int) + (i : Nat) * 1) ((n : Int) - (i : Nat)) 1) :=
    ⟨W₀.sub, W₀.frame, fun i s Q E hi st hQ => W₀.item i s Q E hi st fun v h' tk hv st' hk => hQ v h' tk (by obtain ⟨t, rfl⟩ := hv; exact ⟨t, by congr 1; omega⟩) st' hk, W₀.done, W₀.self⟩
  refine lcc_core bsOf hcf hpc hkind hxk hL hy hek F hn W (fun i h e => ⟨_, e⟩) (by show IsRangeIter _ _ _ _ _; rw [hsz]; simpa using Heap.get?_push_size _ rfl) rfl (Heap.size_push ..) (fun b o e => Heap.get?_push_of_some _ e) elm done
end

end
section -- Lw0

section
variable {w : World} {A : Around} {E : Value → Shared → Prop} {h : Heap} {gn : Array GenState} {dr : Drawn} {tk : Nat} {os : OsState} {Q : Value → Shared → Prop} {h₀ : Heap} {L : Addr} {m : Str → Option Value} {news : List (Addr × Obj)} {a b : Int} {t u : Tok}

theorem pick_upto (vs : List Value) (k : Nat) : slicePick vs.toArray none (some (k : Int)) none = (vs.take k).toArray := by
  have e : sliceBounds none (some (k : Int)) none vs.toArray.size = (((0 : Nat) : Int), ((min k vs.length : Nat) : Int), 1) := by
    simp [sliceBounds]
    omega
  rw [kmk_pick_nat vs.toArray e]
  simp [List.take_eq_take_iff]
theorem r_sllist {value slice : Expr} {l : Addr} {vs : List Value} {k : Nat} {j : Int} {uj : Tok} (F : Fr h₀ L h m) (N : News h₀ L h news) (hl : h.IsList l vs.toArray) (hj : j = k) (hsz : vs.length ≤ 1000000)
    (hQ : ∀ h', Fr h₀ L h' m → News h₀ L h' ((h.objs.size + 1, lobj (vs.take k) 0) :: news) → Q (.ref (h.objs.size + 1)) ⟨h', gn, dr, tk, os⟩)
    (hs : subscripted slice false (.ref l) (.ref h.objs.size) = operate [.ref h.objs.size, .ref l] (getItem (.ref l) (.ref h.objs.size)))
    (ht : ∀ r, letTemporaryGo value (.ref l) r = pure ()) :
    wpAny (model PR w) A (subscriptTail value slice (.ref l) (.ref h.objs.size)) Q E ⟨h.push { cls := .type "slice", data := .fields #[.none, .int j uj, .none] }, gn, dr, tk, os⟩ := by
  subst hj
  refine slice_list (s := ⟨h, gn, dr, tk, os⟩) F N hl .none (.int _ _) (fun h' F' N' => hQ h' F' ?_) hs ht (by rw [sizeLine_eq]; simp; omega)
  rw [pick_upto] at N'
  exact N'
theorem r_modI {n : Nat} (hb : b = n) (h0 : n ≠ 0) (hQ : Q (.int ((a % (n : Int)).toNat : Nat) tk) ⟨h, gn, dr, tk + 1, os⟩) : wpAny (model PR w) A (binaryOp .Mod (.int a t) (.int b u)) Q E ⟨h, gn, dr, tk, os⟩ := by
  subst hb
  refine mod_int' (by omega) ?_
  rw [Int.fmod_eq_emod_of_nonneg _ (by omega)]
  have e : (((a % (n : Int)).toNat : Nat) : Int) = a % (n : Int) := Int.toNat_of_nonneg (Int.emod_nonneg _ (by omega))
  rw [e] at hQ
  exact hQ
theorem r_isib {x : Array UInt8} (hQ : Q (.bool true) ⟨h, gn, dr, tk, os⟩) : wpAny (model PR w) A (call (.builtin "isinstance") [.bytes x t, .type "bytes"]) Q E ⟨h, gn, dr, tk, os⟩ :=
  call_isinstance_yes (Tx := "bytes") rfl (by rfl) (by rw [isSubtype_type]; kernel_rfl) hQ
theorem r_neb {x y : Array UInt8} (hQ : Q (.bool (x.toList != y.toList)) ⟨h, gn, dr, tk, os⟩) : wpAny (model PR w) A (compareOp .NotEq (.bytes x t) (.bytes y u)) Q E ⟨h, gn, dr, tk, os⟩ := ne_bytes hQ
theorem mul3 (x : Str) : Txt.mul x 3 = x ++ x ++ x := by
  unfold Txt.mul
  rw [if_neg (by decide)]
  split
  · rename_i hc
    have h0 : x.length = 0 := by simpa using hc
    have : x.cps = #[] := by
      have : x.cps.size = 0 := h0
      exact Array.eq_empty_of_size_eq_zero this
    refine Str.ext' ?_
    rw [Str.cps_append, Str.cps_append, this]; rfl
  · refine Str.ext' ?_
    rw [Str.cps_append, Str.cps_append]
    simp [List.replicate]
theorem r_mul3 {x : Str} (hx : x.length ≤ 1000) (hQ : ∀ t' k, Q (.str (x ++ x ++ x) t') ⟨h, gn, dr, k, os⟩) : wpAny (model PR w) A (binaryOp .Mult (.str x t) (.int 3 u)) Q E ⟨h, gn, dr, tk, os⟩ := by
  refine SB.mul ⟨by decide, fun _ _ => by omega, fun _ _ => ?_⟩ fun t' k => ?_
  · unfold Builtin.Str.tooLong
    rw [sizeLine_eq]
    exact decide_eq_false (by show ¬ x.length * 3 > _; omega)
  · rw [mul3]; exact hQ t' k
theorem r_slbytes {value slice : Expr} {x : Array UInt8} {lv uv : Value} {lo hi : Option Int} (hl : IsPart lv lo) (hu : IsPart uv hi) (hx : x.size ≤ 16000000)
    (hQ : ∀ h' t' k, (∀ b o, h.get? b = some o → h'.get? b = some o) → Q (.bytes (KBy.picked x lo hi) t') ⟨h', gn, dr, k, os⟩)
    (hs : subscripted slice false (.bytes x t) (.ref h.objs.size) = operate [.ref h.objs.size, .bytes x t] (getItem (.bytes x t) (.ref h.objs.size)))
    (ht : ∀ r, letTemporaryGo value (.bytes x t) r = pure ()) :
    wpAny (model PR w) A (subscriptTail value slice (.bytes x t) (.ref h.objs.size)) Q E ⟨h.push { cls := .type "slice", data := .fields #[lv, uv, .none] }, gn, dr, tk, os⟩ :=
  tail_of_ItemOn ⟨"bytes", _, FB.slot_bytes_getitem.lookup, typeIs_bytes _ _ _, getItem_meets (typeIs_bytes _ _ _) (by decide) FB.slot_bytes_getitem FB.entry_bytes_getitem (FB.args_bytes_getitem_2 _ _) (KBc.meets_slice2 x t _ hl hu)
    ⟨Heap.IsSliceOf.new _ _ _ _, Nat.le_trans (KBc.size_picked_le x lo hi) (by rw [sizeLine_eq]; omega), fun t' k => hQ _ t' k fun b o e => Heap.get?_push_of_some _ e⟩⟩ hs ht
theorem r_lenl {l : Addr} {vs : List Value} (hl : h.IsList l vs.toArray) (hsz : vs.length ≤ 1000000) (hQ : ∀ t' k, Q (.int (vs.length : Nat) t') ⟨h, gn, dr, k, os⟩) : wpAny (model PR w) A (call (.builtin "len") [.ref l]) Q E ⟨h, gn, dr, tk, os⟩ := by
  refine PyProof.Rows.len_list hl (by simp; omega) ?_
  simpa using hQ _ _
theorem r_itemN {value slice : Expr} {l : Addr} {vs : List Value} {S : List Nat} {k : Nat} (hl : h.IsList l vs.toArray) (hp : Paired decN S vs) (ha : a = k) (hk : k < S.length) (hsz : S.length ≤ 1000000) (hQ : ∀ t', Q (.int (S.getD k 0 : Nat) t') ⟨h, gn, dr, tk, os⟩)
    (hs : subscripted slice false (.ref l) (.int a u) = operate [.ref l, .int a u] (getItem (.ref l) (.int a u))) :
    wpAny (model PR w) A (subscriptTail value slice (.ref l) (.int a u)) Q E ⟨h, gn, dr, tk, os⟩ := by
  obtain ⟨v, hv, ⟨t, rfl⟩⟩ := paired_at hp (List.getElem?_eq_getElem hk)
  refine r_item hl ha hv (by omega) ?_ hs
  have := hQ t
  rw [List.getD_eq_getElem?_getD, List.getElem?_eq_getElem hk] at this
  exact this
theorem r_addb {x y : Array UInt8} (hsz : x.size + y.size ≤ 16000000) (hQ : ∀ t' k, Q (.bytes (x ++ y) t') ⟨h, gn, dr, k, os⟩) : wpAny (model PR w) A (binaryOp .Add (.bytes x t) (.bytes y u)) Q E ⟨h, gn, dr, tk, os⟩ :=
  KBy.add_bytes (by omega) fun t' k => hQ t' k
theorem picked_take {x : Array UInt8} {f : Nat} : (KBy.picked x none (some (f : Int))).toList = x.toList.take f := by
  rw [KBc.picked_eq]
  simp [clipAt_nat, List.take_eq_take_iff]
theorem picked_drop {x : Array UInt8} {f : Nat} : (KBy.picked x (some (f : Int)) none).toList = x.toList.drop f := by
  rw [KBc.picked_eq]
  simp only [Option.elim, clipAt_nat]
  rcases Nat.le_total f x.size with hf | hf
  · rw [Nat.min_eq_left hf]
    exact List.take_of_length_le (by simp)
  · rw [Nat.min_eq_right hf, Nat.sub_self, List.take_zero]
    exact (List.drop_eq_nil_of_le (by simpa using hf)).symm
end

theorem paired_eq {α : Type} {f : α → Value} : ∀ {as : List α} {bs : List Value}, Paired (fun a b => b = f a) as bs → bs = as.map f
  | _, _, .nil => rfl
  | _, _, .cons h hs => by rw [List.map_cons, h, paired_eq hs]
/-! nested lists -/
section
open PySem.SeqAt
variable {A : Around} {s : Shared}
theorem eq_all {vs ws : List Value} {a b : Addr} (ha : s.heap.IsList a vs.toArray) (hb : s.heap.IsList b ws.toArray) (hu : A.units < cLine) (hl : vs.length = ws.length)
    (he : ∀ (j : Nat) x y, vs[j]? = some x → ws[j]? = some y → EqAt A.in1 s x y true) : RcAt A s (.ref a) (.ref b) true := by
  have h := RcAt.lists (e := fun _ => true) ha hb (by simpa using hl) hu (fun j h1 h2 => he j _ _ (by simp) (by simp))
  have e : (List.range vs.toArray.size).all (fun _ => true) = true := List.all_eq_true.mpr fun _ _ => rfl
  rw [e] at h
  exact h
theorem eq_row {bs : List Bool} {v v' : Value} (hu : A.units < cLine) (h : RowAt s.heap bs v) (h' : RowAt s.heap bs v') : EqAt A s v v' true := by
  obtain ⟨a, rfl, ha⟩ := h
  obtain ⟨b, rfl, hb⟩ := h'
  by_cases e : a = b
  · subst e; exact EqAt.same _
  · refine EqAt.of_refs e (eq_all ha hb hu rfl fun j x y hx hy => ?_)
    rw [hx] at hy
    cases hy
    exact EqAt.same _
theorem eq_tab {tab : List (List Bool)} {vs ws : List Value} {a b : Addr} (hu : A.units + 1 < cLine) (ha : s.heap.IsList a vs.toArray) (hb : s.heap.IsList b ws.toArray) (hp : Paired (RowAt s.heap) tab vs) (hq : Paired (RowAt s.heap) tab ws) :
    EqAt A s (.ref a) (.ref b) true := by
  by_cases e : a = b
  · subst e; exact EqAt.same _
  · refine EqAt.of_refs e (eq_all ha hb (by omega) (by rw [← paired_len hp, paired_len hq]) fun j x y hx hy => ?_)
    obtain ⟨bs, hbs, hx'⟩ := paired_get hp hx
    obtain ⟨bs', hbs', hy'⟩ := paired_get hq hy
    rw [hbs] at hbs'
    cases hbs'
    exact eq_row hu hx' hy'
end
theorem r_eqfinal {w : World} {A : Around} {E : Value → Shared → Prop} {h : Heap} {gn : Array GenState} {dr : Drawn} {tk : Nat} {os : OsState} {Q : Value → Shared → Prop} {tab : List (List Bool)} {vs ws : List Value} {D D' a b : Addr} {i : Int} {t u : Tok}
    (hu : A.units + 2 < cLine) (hD : h.IsList D #[.int i t, .ref a]) (hD' : h.IsList D' #[.int i u, .ref b]) (ha : h.IsList a vs.toArray) (hb : h.IsList b ws.toArray) (hp : Paired (RowAt h) tab vs) (hq : Paired (RowAt h) tab ws)
    (hQ : Q (.bool true) ⟨h, gn, dr, tk, os⟩) : wpAny (model PR w) A (compareOp .Eq (.ref D) (.ref D')) Q E ⟨h, gn, dr, tk, os⟩ := by
  have h1 : PySem.SeqAt.RcAt A ⟨h, gn, dr, tk, os⟩ (.ref D) (.ref D') true := by
    refine eq_all (vs := [_, _]) (ws := [_, _]) hD hD' (by omega) rfl fun j x y hx hy => ?_
    match j with
    | 0 =>
      cases hx; cases hy
      have e := PySem.SeqAt.EqAt.int_int (A := A.in1) (s := ⟨h, gn, dr, tk, os⟩) i t i u
      simpa using e
    | 1 =>
      cases hx; cases hy
      exact eq_tab (by show A.units + 1 + 1 < _; omega) ha hb hp hq
    | j + 2 => cases hx
  exact h1 PR w E Q hQ

end
section -- Pl0
def sumsOf (b : Array UInt8) : List Nat := crcOf 4294967295 b.toList :: (frontsOf b).map fun f => crcOf 4294967295 (b.toList.take f ++ b.toList.drop (f + 1))
def toldRow (S : List Nat) (i : Nat) : List Bool := (List.range' (i + 1) (S.length - (i + 1))).map fun j => decide (S.getD i 0 = S.getD j 0)
def toldOf (S : List Nat) : List (List Bool) := (List.range S.length).map (toldRow S)

end
section -- Pd

def dotF (p : Bool) : List (List Nat) → List (List Nat)
  | [] => []
  | q :: qs => (if p then dot1 q else q) :: qs.map dot1
def dN : Bool → List Nat → List Nat
  | _, [] => []
  | p, c :: r => if p = true ∧ c = 46 then 46 :: 46 :: dN false r else c :: dN (decide (c = 10)) r
theorem dotF_true (P : List (List Nat)) : dotF true P = P.map dot1 := by cases P <;> rfl
theorem joinL_hc (z : List Nat) (c : Nat) (p : List Nat) (ps : List (List Nat)) : joinL z ((c :: p) :: ps) = c :: joinL z (p :: ps) := by
  cases ps with
  | nil => rfl
  | cons q qs => rfl
theorem join_other (z : List Nat) (p : Bool) (c : Nat) (hc : c ≠ 10) (P : List (List Nat)) (hP : P ≠ []) (r : List Nat) (ih : joinL z (dotF false P) = dN false r) : joinL z (dotF p (hcons c P)) = dN p (c :: r) := by
  cases P with
  | nil => exact absurd rfl hP
  | cons q qs =>
    have hd : decide (c = 10) = false := decide_eq_false hc
    have ih' : joinL z (q :: qs.map dot1) = dN false r := ih
    rw [hcons, dotF, dN, hd]
    by_cases h : p = true ∧ c = 46
    · obtain ⟨rfl, rfl⟩ := h
      have e : dot1 (46 :: q) = 46 :: 46 :: q := by simp [dot1]
      rw [if_pos rfl, e, joinL_hc, joinL_hc, ih']
      simp
    · rw [if_neg h]
      have e : (if p = true then dot1 (c :: q) else c :: q) = c :: q := by
        cases p with
        | false => rfl
        | true =>
          have hc46 : c ≠ 46 := fun e => h ⟨rfl, e⟩
          simp [dot1, hc46]
      rw [e, joinL_hc, ih']
theorem join_end (z : List Nat) (p : Bool) (P : List (List Nat)) (hP : P ≠ []) (x : List Nat) (ih : joinL z (dotF true P) = x) : joinL z (dotF p ([] :: P)) = z ++ x := by
  rw [dotF_true] at ih
  have e : dotF p ([] :: P) = [] :: P.map dot1 := by cases p <;> rfl
  rw [e, joinL_cons (by simpa using hP), ih]
  rfl
theorem parts_nn (y : List Nat) (k : Nat) (l : List Nat) : parts y k l ≠ [] := by
  obtain ⟨p, ps, e⟩ := parts_ne y k l
  rw [e]; simp
theorem lf_main : ∀ (l : List Nat) (p : Bool), joinL [10] (dotF p (parts [10] 0 l)) = dN p l
  | [], p => by rw [parts, dN]; cases p <;> rfl
  | c :: r, p => by
    rw [parts]
    by_cases h : c = 10
    · subst h
      rw [if_pos (by rfl), dN, if_neg (by simp)]
      exact join_end [10] p _ (parts_nn _ _ _) _ (lf_main r true)
    · rw [if_neg (by simpa using h)]
      exact join_other [10] p c h _ (parts_nn _ _ _) r (lf_main r false)

inductive Ev : List Nat → Prop
  | nil : Ev []
  | crlf {r} : Ev r → Ev (13 :: 10 :: r)
  | other {c r} : c ≠ 13 → c ≠ 10 → Ev r → Ev (c :: r)
theorem ev_eols : ∀ (l : List Nat) (p : Bool), Ev (eolsF p l)
  | [], _ => by rw [eolsF]; exact .nil
  | c :: r, p => by
    rw [eolsF]
    split
    · split
      · exact ev_eols r false
      · exact .crlf (ev_eols r false)
    · split
      · exact .crlf (ev_eols r true)
      · exact .other (by assumption) (by assumption) (ev_eols r false)
theorem crlf_main {l : List Nat} (h : Ev l) : ∀ p : Bool, joinL [13, 10] (dotF p (parts [13, 10] 0 l)) = dN p l := by
  induction h with
  | nil => intro p; rw [parts, dN]; cases p <;> rfl
  | crlf _ ih =>
    intro p
    rw [parts, if_pos (by rfl), show [13, 10].length - 1 = 0 + 1 from rfl, parts, dN, if_neg (by simp), dN, if_neg (by simp)]
    exact join_end [13, 10] p _ (parts_nn _ _ _) _ (ih true)
  | other h13 h10 _ ih =>
    intro p
    rw [parts, if_neg (by simp [h13])]
    exact join_other [13, 10] p _ h10 _ (parts_nn _ _ _) _ (ih false)
theorem u8_eq {c d : Nat} (hc : c < 256) (hd : d < 256) : (c.toUInt8 == d.toUInt8) = decide (c = d) := by
  rw [Bool.eq_iff_iff, beq_iff_eq, decide_eq_true_eq]
  constructor
  · intro e
    have := congrArg UInt8.toNat e
    simp at this
    omega
  · rintro rfl; rfl
theorem dots_map : ∀ (l : List Nat) (p : Bool), (∀ c ∈ l, c < 256) → dotsL p (l.map (·.toUInt8)) = (dN p l).map (·.toUInt8)
  | [], _, _ => by rw [dN]; rfl
  | c :: r, p, h => by
    have hr := fun c hc => h c (.tail _ hc)
    have e1 : (c.toUInt8 == 46) = decide (c = 46) := u8_eq (h c (.head _)) (by decide)
    have e2 : (c.toUInt8 == 10) = decide (c = 10) := u8_eq (h c (.head _)) (by decide)
    rw [List.map_cons, dotsL, dN, e1, e2]
    by_cases hp : p = true ∧ c = 46
    · rw [if_pos hp, if_pos (by simp [hp.1, hp.2]), dots_map r false hr]
      rfl
    · rw [if_neg hp, if_neg (by simpa using hp), dots_map r _ hr]
      rfl
theorem ev_low {l : List Nat} (h : ∀ c ∈ l, c < 256) : ∀ p, ∀ c ∈ eolsF p l, c < 256 := by
  induction l with
  | nil => intro p c hc; rw [eolsF] at hc; cases hc
  | cons a r ih =>
    intro p c hc
    have hr := ih fun c hc => h c (.tail _ hc)
    rw [eolsF] at hc
    split at hc
    · split at hc
      · exact hr _ _ hc
      · rcases List.mem_cons.mp hc with rfl | hc
        · decide
        rcases List.mem_cons.mp hc with rfl | hc
        · decide
        exact hr _ _ hc
    · split at hc
      · rcases List.mem_cons.mp hc with rfl | hc
        · decide
        rcases List.mem_cons.mp hc with rfl | hc
        · decide
        exact hr _ _ hc
      · rcases List.mem_cons.mp hc with rfl | hc
        · exact h _ (.head _)
        · exact hr _ _ hc
theorem pl_even (l : List Nat) (hl : ∀ c ∈ l, c < 256) : dotsL true ((eolsF false l).map (·.toUInt8)) = (dottedL [13, 10] (eolsF false l)).map (·.toUInt8) := by
  rw [dots_map _ _ (ev_low hl false), ← crlf_main (ev_eols l false) true, dotF_true]
  rfl
theorem pl_lf (l : List Nat) (hl : ∀ c ∈ l, c < 256) : dotsL true (l.map (·.toUInt8)) = (dottedL [10] l).map (·.toUInt8) := by
  rw [dots_map _ _ hl, ← lf_main l true, dotF_true]
  rfl

end
section -- Pc

/-! the bits -/
theorem x2 (a b : Nat) : (a ^^^ b) % 2 = (a % 2 + b % 2) % 2 := by
  have h : (a ^^^ b) % 2 = (a % 2) ^^^ (b % 2) := by
    have := Nat.xor_mod_two_pow (a := a) (b := b) (n := 1)
    simpa using this
  rw [h]
  rcases (by omega : a % 2 = 0 ∨ a % 2 = 1) with ha | ha <;> rcases (by omega : b % 2 = 0 ∨ b % 2 = 1) with hb | hb <;> rw [ha, hb] <;> rfl
theorem xs (a b : Nat) : a ^^^ (a ^^^ b) = b := by rw [← Nat.xor_assoc, Nat.xor_self, Nat.zero_xor]
theorem xz {a b : Nat} (h : a ^^^ b = 0) : a = b := by
  have := congrArg (a ^^^ ·) h
  simp only [xs, Nat.xor_zero] at this
  exact this.symm
theorem crcBit_xor (a b : Nat) : crcBit (a ^^^ b) = crcBit a ^^^ crcBit b := by
  unfold crcBit
  rw [x2, Nat.xor_div_two]
  rcases (by omega : a % 2 = 0 ∨ a % 2 = 1) with ha | ha <;> rcases (by omega : b % 2 = 0 ∨ b % 2 = 1) with hb | hb <;> rw [ha, hb]
  · rfl
  · simp only [Nat.zero_add, Nat.reduceMod, if_true, if_false, Nat.zero_ne_one]
    rw [Nat.xor_assoc]
  · simp only [Nat.add_zero, Nat.reduceMod, if_true, if_false, Nat.zero_ne_one]
    rw [Nat.xor_assoc, Nat.xor_assoc, Nat.xor_comm (b / 2)]
  · simp only [Nat.reduceAdd, Nat.reduceMod, if_true, if_false, Nat.zero_ne_one]
    rw [Nat.xor_assoc, Nat.xor_comm 3988292384, Nat.xor_assoc (b / 2), Nat.xor_self, Nat.xor_zero]
theorem rep_xor {f : Nat → Nat} (hf : ∀ a b, f (a ^^^ b) = f a ^^^ f b) : ∀ n a b, rep f n (a ^^^ b) = rep f n a ^^^ rep f n b
  | 0, _, _ => rfl
  | n + 1, a, b => by rw [rep, rep_xor hf n, hf]; rfl
theorem genCrc_xor (a b : Nat) : genCrc (a ^^^ b) = genCrc a ^^^ genCrc b := rep_xor crcBit_xor 8 a b
theorem crcBit_lt {c : Nat} (h : c < 2 ^ 32) : crcBit c < 2 ^ 32 := by
  unfold crcBit
  split
  · exact Nat.xor_lt_two_pow (by omega) (by decide)
  · omega
theorem rep_lt {f : Nat → Nat} (hf : ∀ c, c < 2 ^ 32 → f c < 2 ^ 32) : ∀ n c, c < 2 ^ 32 → rep f n c < 2 ^ 32
  | 0, _, h => h
  | n + 1, c, h => hf _ (rep_lt hf n c h)
theorem genCrc_lt {c : Nat} (h : c < 2 ^ 32) : genCrc c < 2 ^ 32 := rep_lt (fun _ => crcBit_lt) 8 c h
theorem crcBit_zero {c : Nat} (h : c < 2 ^ 32) (e : crcBit c = 0) : c = 0 := by
  unfold crcBit at e
  split at e
  · have := xz e; omega
  · omega
theorem rep_zero {f : Nat → Nat} (hl : ∀ c, c < 2 ^ 32 → f c < 2 ^ 32) (hf : ∀ c, c < 2 ^ 32 → f c = 0 → c = 0) : ∀ n c, c < 2 ^ 32 → rep f n c = 0 → c = 0
  | 0, _, _, e => e
  | n + 1, c, h, e => rep_zero hl hf n c h (hf _ (rep_lt hl n c h) e)
theorem genCrc_zero {c : Nat} (h : c < 2 ^ 32) (e : genCrc c = 0) : c = 0 := rep_zero (fun _ => crcBit_lt) (fun _ => crcBit_zero) 8 c h e

/-! one fixed point -/
def kf : List Nat → Nat → Nat
  | [], _ => 0
  | t :: ts, y => (if y % 2 = 1 then t else 0) ^^^ kf ts (y / 2)
theorem kf_xor : ∀ ts a b, kf ts (a ^^^ b) = kf ts a ^^^ kf ts b
  | [], _, _ => by simp [kf]
  | t :: ts, a, b => by
    rw [kf, kf, kf, Nat.xor_div_two, kf_xor ts, x2]
    have e : (if (a % 2 + b % 2) % 2 = 1 then t else 0) = (if a % 2 = 1 then t else 0) ^^^ (if b % 2 = 1 then t else 0) := by
      rcases (by omega : a % 2 = 0 ∨ a % 2 = 1) with ha | ha <;> rcases (by omega : b % 2 = 0 ∨ b % 2 = 1) with hb | hb <;> rw [ha, hb] <;> simp
    rw [e, Nat.xor_assoc, Nat.xor_assoc]
    congr 1
    rw [← Nat.xor_assoc, Nat.xor_comm _ (kf ts (a / 2)), Nat.xor_assoc]
theorem pow_xor {n y : Nat} (h : y < 2 ^ n) : 2 ^ n ^^^ y = 2 ^ n + y := by
  have e : 2 ^ n + y = 2 ^ n * 1 + y := by omega
  rw [e]
  apply Nat.eq_of_testBit_eq
  intro i
  rw [Nat.testBit_two_pow_mul_add _ h, Nat.testBit_xor, Nat.testBit_two_pow]
  by_cases hi : i < n
  · rw [if_pos hi, decide_eq_false (by omega), Bool.false_xor]
  · rw [if_neg hi]
    have hy : y.testBit i = false := Nat.testBit_lt_two_pow (Nat.lt_of_lt_of_le h (Nat.pow_le_pow_right (by decide) (by omega)))
    rw [hy, Bool.xor_false]
    by_cases hn : n = i
    · subst hn; simp
    · rw [decide_eq_false hn]
      symm
      have : i - n ≠ 0 := by omega
      exact Nat.testBit_lt_two_pow (Nat.lt_of_lt_of_le (by decide : 1 < 2 ^ 1) (Nat.pow_le_pow_right (by decide) (by omega)))
theorem lin_id {f : Nat → Nat} (hf : ∀ a b, f (a ^^^ b) = f a ^^^ f b) (h0 : f 0 = 0) : ∀ n, (∀ k, k < n → f (2 ^ k) = 2 ^ k) → ∀ z, z < 2 ^ n → f z = z
  | 0, _, z, hz => by obtain rfl : z = 0 := by omega
                      exact h0
  | n + 1, hk, z, hz => by
    have ih := lin_id hf h0 n fun k h => hk k (by omega)
    by_cases hl : z < 2 ^ n
    · exact ih z hl
    · have hy : z - 2 ^ n < 2 ^ n := by rw [Nat.pow_succ] at hz; omega
      have e : z = 2 ^ n ^^^ (z - 2 ^ n) := by rw [pow_xor hy]; omega
      rw [e, hf, hk n (by omega), ih _ hy]
def ktab : List Nat := [709193467, 1418386934, 2836773868, 2304405913, 3385189747, 1224395943, 2448791886, 4170855645, 709193723, 1418387446, 2836774892, 2304407961, 3385193843, 1224404135, 2448808270, 4170888413, 709128187, 1418256374, 2836512748, 2303883673, 3386242419, 1222306983, 2444613966, 4162499805, 725905403, 1451810806, 2903621612, 2169665945, 3654677875, 1759177895, 3518355790, 2015016157]
theorem kf_zero : ∀ ts, kf ts 0 = 0
  | [] => rfl
  | _ :: ts => by rw [kf]; simp [kf_zero ts]
theorem fix_zero {z : Nat} (hz : z < 2 ^ 32) (h : genCrc z = z) : z = 0 := by
  have key : kf ktab (genCrc z ^^^ z) = z := by
    refine lin_id (f := fun z => kf ktab (genCrc z ^^^ z)) (fun a b => ?_) (by decide +kernel) 32 (by decide +kernel) z hz
    show kf ktab (genCrc (a ^^^ b) ^^^ (a ^^^ b)) = _
    rw [genCrc_xor, ← kf_xor]
    congr 1
    rw [Nat.xor_assoc, Nat.xor_assoc]
    congr 1
    rw [← Nat.xor_assoc, Nat.xor_comm (genCrc b) a, Nat.xor_assoc]
  rw [h, Nat.xor_self, kf_zero] at key
  exact key.symm

/-! the mirror -/
def Mn (n r : Nat) : Nat := ((List.range n).map fun k => r / 2 ^ k % 2 * 2 ^ (n - 1 - k)).sum
theorem Mn_succ (n r : Nat) : Mn (n + 1) r = 2 ^ n * (r % 2) + Mn n (r / 2) := by
  unfold Mn
  rw [List.range_succ_eq_map, List.map_cons, List.sum_cons, List.map_map]
  congr 1
  · simp [Nat.mul_comm]
  · congr 1
    apply List.map_congr_left
    intro k hk
    have hk := List.mem_range.mp hk
    simp only [Function.comp]
    rw [Nat.div_div_eq_div_mul, show 2 * 2 ^ k = 2 ^ (k + 1) by rw [Nat.pow_succ, Nat.mul_comm]]
    congr 2
    omega
theorem Mn_lt : ∀ n r, Mn n r < 2 ^ n
  | 0, _ => by simp [Mn]
  | n + 1, r => by
    rw [Mn_succ, Nat.pow_succ]
    have := Mn_lt n (r / 2)
    have h2 : 2 ^ n * (r % 2) ≤ 2 ^ n * 1 := Nat.mul_le_mul_left _ (by omega)
    omega
theorem Mn_bit : ∀ n r i, (Mn n r).testBit i = (decide (i < n) && r.testBit (n - 1 - i))
  | 0, r, i => by simp [Mn]
  | n + 1, r, i => by
    rw [Mn_succ, Nat.testBit_two_pow_mul_add _ (Mn_lt n (r / 2))]
    by_cases hi : i < n
    · rw [if_pos hi, Mn_bit n, decide_eq_true hi, decide_eq_true (by omega), Nat.testBit_div_two]
      congr 2
      omega
    · rw [if_neg hi]
      by_cases hn : i = n
      · subst hn
        rw [decide_eq_true (by omega), Nat.sub_self, Bool.true_and, show i + 1 - 1 - i = 0 by omega]
        rw [Nat.testBit_zero, Nat.testBit_zero]
        congr 1
        rw [Nat.mod_mod]
      · rw [decide_eq_false (by omega), Bool.false_and]
        exact Nat.testBit_lt_two_pow (Nat.lt_of_lt_of_le (by omega : r % 2 < 2 ^ 1) (Nat.pow_le_pow_right (by decide) (by omega)))
theorem mir_eq (r : Nat) : mirror r = Mn 32 r := rfl
theorem mir_bit (r i : Nat) : (mirror r).testBit i = (decide (i < 32) && r.testBit (31 - i)) := by rw [mir_eq, Mn_bit]
theorem mir_lt (r : Nat) : mirror r < 2 ^ 32 := by rw [mir_eq]; exact Mn_lt 32 r
theorem mir_xor (a b : Nat) : mirror (a ^^^ b) = mirror a ^^^ mirror b := by
  apply Nat.eq_of_testBit_eq
  intro i
  rw [Nat.testBit_xor, mir_bit, mir_bit, mir_bit, Nat.testBit_xor]
  cases decide (i < 32) <;> simp
theorem mir_mir {r : Nat} (h : r < 2 ^ 32) : mirror (mirror r) = r := by
  apply Nat.eq_of_testBit_eq
  intro i
  rw [mir_bit, mir_bit]
  by_cases hi : i < 32
  · rw [decide_eq_true hi, decide_eq_true (by omega), show 31 - (31 - i) = i by omega]; rfl
  · rw [decide_eq_false hi, Bool.false_and]
    exact (Nat.testBit_lt_two_pow (Nat.lt_of_lt_of_le h (Nat.pow_le_pow_right (by decide) (by omega)))).symm
theorem mir_shift (r : Nat) : mirror (r * 2 % 2 ^ 32) = mirror r / 2 := by
  apply Nat.eq_of_testBit_eq
  intro i
  rw [mir_bit, Nat.testBit_div_two, mir_bit, Nat.testBit_mod_two_pow]
  by_cases hi : i + 1 < 32
  · rw [decide_eq_true (by omega : i < 32), decide_eq_true hi, decide_eq_true (by omega : 31 - i < 32), show 31 - i = (31 - (i + 1)) + 1 by omega, Nat.testBit_succ, Nat.mul_div_cancel _ (by decide)]
    rfl
  · rw [decide_eq_false hi, Bool.false_and]
    by_cases h31 : i = 31
    · subst h31
      rw [Nat.testBit_zero, Nat.mul_mod_left]
      rfl
    · rw [decide_eq_false (by omega : ¬ i < 32), Bool.false_and]
theorem mir_top {r : Nat} (h : r < 2 ^ 32) : mirror r % 2 = r / 2 ^ 31 := by
  have e := mir_bit r 0
  rw [Nat.testBit_zero, Nat.testBit_eq_decide_div_mod_eq] at e
  simp only [Nat.sub_zero, show decide (0 < 32) = true from rfl, Bool.true_and, decide_eq_decide] at e
  have : r / 2 ^ 31 < 2 := by omega
  omega
theorem mir_bitstep {o k r : Nat} (h : r < 2 ^ 32) : mirror (stepBit o k r) = crcBit (mirror r ^^^ (o / 2 ^ k % 2)) := by
  have ht := mir_top h
  have hb : o / 2 ^ k % 2 < 2 := Nat.mod_lt _ (by decide)
  unfold stepBit crcBit
  generalize o / 2 ^ k % 2 = b at *
  have hr : r / 2 ^ 31 < 2 := by omega
  rw [x2, Nat.xor_div_two, show b / 2 = 0 by omega, Nat.xor_zero, ht]
  by_cases hc : r / 2 ^ 31 ≠ b
  · rw [if_pos hc, if_pos (by omega), mir_xor, mir_shift]
    congr 1
  · rw [if_neg hc, if_neg (by omega), mir_shift]
theorem crcBit_two (t : Nat) : crcBit (2 * t) = t := by
  unfold crcBit
  rw [if_neg (by omega)]
  omega
theorem bit_split (x : Nat) : x = (x % 2) ^^^ (2 * (x / 2)) := by
  apply Nat.eq_of_testBit_eq
  intro i
  rw [Nat.testBit_xor]
  cases i with
  | zero =>
    rw [Nat.testBit_zero, Nat.testBit_zero, Nat.testBit_zero, Nat.mod_mod, Nat.mul_mod_right]
    simp
  | succ i =>
    rw [Nat.testBit_succ, Nat.testBit_succ, Nat.testBit_succ, Nat.mul_div_cancel_left _ (by decide), show x % 2 / 2 = 0 by omega]
    simp
theorem mir_stepN {o r : Nat} (h : r < 2 ^ 32) (k : Nat) : rep crcBit k (mirror r ^^^ o) = mirror (stepN o k r) ^^^ (o / 2 ^ k) := by
  induction k with
  | zero => rw [rep, stepN, Nat.pow_zero, Nat.div_one]
  | succ k ih =>
    rw [rep, ih, stepN, mir_bitstep (stepN_lt h k)]
    generalize mirror (stepN o k r) = m
    have e := bit_split (o / 2 ^ k)
    have e2 : o / 2 ^ (k + 1) = o / 2 ^ k / 2 := by rw [Nat.div_div_eq_div_mul, ← Nat.pow_succ]
    rw [e2]
    generalize o / 2 ^ k = x at *
    have e3 : m ^^^ x = (m ^^^ x % 2) ^^^ (2 * (x / 2)) := by rw [Nat.xor_assoc, ← e]
    rw [e3, crcBit_xor, crcBit_two]
theorem mir_step {o r : Nat} (h : r < 2 ^ 32) (ho : o < 256) : mirror (lawStep r o) = crcStep (mirror r) o := by
  have := mir_stepN (o := o) h 8
  rw [show o / 2 ^ 8 = 0 by omega, Nat.xor_zero] at this
  exact this.symm

end
section -- Pe

theorem pl_gen : genCrc (1010817802 ^^^ 46) = 1010817802 := by decide +kernel
abbrev PP : Nat := 1010817802
theorem crcStep_lt {c o : Nat} (h : c < 2 ^ 32) (ho : o < 256) : crcStep c o < 2 ^ 32 := genCrc_lt (Nat.xor_lt_two_pow h (by omega))
theorem u8_lt (o : UInt8) : o.toNat < 256 := o.toNat_lt
theorem crcOf_cons (c : Nat) (o : UInt8) (l : List UInt8) : crcOf c (o :: l) = crcOf (crcStep c o.toNat) l := by unfold crcOf; rw [List.foldl_cons]
theorem crcOf_append (c : Nat) (l k : List UInt8) : crcOf c (l ++ k) = crcOf (crcOf c l) k := by unfold crcOf; rw [List.foldl_append]
theorem crcOf_lt {c : Nat} (h : c < 2 ^ 32) : ∀ l, crcOf c l < 2 ^ 32 := by
  intro l
  induction l generalizing c with
  | nil => exact h
  | cons o r ih => rw [crcOf_cons]; exact ih (crcStep_lt h (u8_lt o))
theorem rep_comm (f : Nat → Nat) : ∀ n c, rep f n (f c) = f (rep f n c)
  | 0, _ => rfl
  | n + 1, c => by rw [rep, rep_comm f n, rep]
theorem crcStep_xor (c d o : Nat) : crcStep (c ^^^ d) o = crcStep c o ^^^ genCrc d := by
  unfold crcStep
  rw [← genCrc_xor]
  congr 1
  rw [Nat.xor_assoc, Nat.xor_comm d, Nat.xor_assoc]
theorem crcOf_xor : ∀ (l : List UInt8) (c d : Nat), crcOf (c ^^^ d) l = crcOf c l ^^^ rep genCrc l.length d := by
  intro l
  induction l with
  | nil => intro c d; rfl
  | cons o r ih =>
    intro c d
    rw [crcOf_cons, crcStep_xor, ih, crcOf_cons, List.length_cons, rep, rep_comm]
theorem rep_gen_zero {d : Nat} (h : d < 2 ^ 32) (n : Nat) (e : rep genCrc n d = 0) : d = 0 := rep_zero (fun _ => genCrc_lt) (fun _ => genCrc_zero) n d h e
theorem crcOf_inj {c d : Nat} (hc : c < 2 ^ 32) (hd : d < 2 ^ 32) (l : List UInt8) (e : crcOf c l = crcOf d l) : c = d := by
  have h := crcOf_xor l c (c ^^^ d)
  rw [xs, ← e] at h
  have h2 : rep genCrc l.length (c ^^^ d) = 0 := by
    have := congrArg (crcOf c l ^^^ ·) h
    simp only [xs, Nat.xor_self] at this
    exact this.symm
  exact xz (rep_gen_zero (Nat.xor_lt_two_pow hc hd) _ h2)
theorem step46 (c : Nat) : crcStep c 46 = PP ^^^ genCrc (c ^^^ PP) := by
  have h : crcStep (PP ^^^ (c ^^^ PP)) 46 = crcStep PP 46 ^^^ genCrc (c ^^^ PP) := crcStep_xor _ _ _
  rw [Nat.xor_comm c, xs] at h
  rw [h, Nat.xor_comm PP c]
  congr 1
theorem fix46 {c : Nat} (hc : c < 2 ^ 32) : crcStep c 46 = c ↔ c = PP := by
  rw [step46]
  constructor
  · intro h
    have h2 := congrArg (PP ^^^ ·) h
    simp only [xs] at h2
    rw [Nat.xor_comm PP] at h2
    exact xz (fix_zero (Nat.xor_lt_two_pow hc (by decide)) h2)
  · rintro rfl
    decide +kernel
theorem eq_A {c : Nat} (hc : c < 2 ^ 32) (l : List UInt8) : crcOf c (46 :: l) = crcOf c l ↔ c = PP := by
  rw [crcOf_cons, show (46 : UInt8).toNat = 46 from rfl]
  constructor
  · intro h
    exact (fix46 hc).mp (crcOf_inj (crcStep_lt hc (by decide)) hc l h)
  · intro h
    rw [(fix46 hc).mpr h]
theorem eq_B {c : Nat} (hc : c < 2 ^ 32) (m l : List UInt8) : crcOf c (m ++ 46 :: l) = crcOf c (46 :: (m ++ l)) ↔ crcOf PP m = PP := by
  have hP : PP < 2 ^ 32 := by decide
  rw [crcOf_append, crcOf_cons, crcOf_cons, crcOf_append, show (46 : UInt8).toNat = 46 from rfl]
  have hX : crcStep (crcOf c m) 46 = PP ^^^ (genCrc (crcOf PP m ^^^ PP) ^^^ rep genCrc m.length (genCrc (c ^^^ PP))) := by
    rw [step46]
    congr 1
    have h := crcOf_xor m PP (c ^^^ PP)
    rw [Nat.xor_comm c, xs] at h
    rw [h, Nat.xor_comm PP c, rep_comm, ← genCrc_xor]
    congr 1
    rw [Nat.xor_assoc, Nat.xor_comm _ PP, ← Nat.xor_assoc]
  have hY : crcOf (crcStep c 46) m = crcOf PP m ^^^ rep genCrc m.length (genCrc (c ^^^ PP)) := by rw [step46, crcOf_xor]
  constructor
  · intro h
    have h1 := crcOf_inj (crcStep_lt (crcOf_lt hc m) (by decide)) (crcOf_lt (crcStep_lt hc (by decide)) m) l h
    rw [hX, hY, ← Nat.xor_assoc] at h1
    generalize rep genCrc m.length (genCrc (c ^^^ PP)) = q at h1
    have h2 := congrArg (· ^^^ q) h1
    simp only [Nat.xor_assoc, Nat.xor_self, Nat.xor_zero] at h2
    have h3 := congrArg (PP ^^^ ·) h2
    simp only [xs] at h3
    rw [Nat.xor_comm PP] at h3
    exact xz (fix_zero (Nat.xor_lt_two_pow (crcOf_lt hP m) hP) h3)
  · intro h
    congr 1
    rw [hX, hY, h, Nat.xor_self, show genCrc 0 = 0 from by decide +kernel, Nat.zero_xor]

/-! the registers of the mirror -/
def lawFold (r : Nat) (l : List UInt8) : Nat := l.foldl (fun r o => lawStep r o.toNat) r
theorem lawFold_lt {r : Nat} (h : r < 2 ^ 32) (l : List UInt8) : lawFold r l < 2 ^ 32 := by
  rcases List.eq_nil_or_concat l with rfl | ⟨k, o, rfl⟩
  · exact h
  · unfold lawFold
    rw [List.concat_eq_append, List.foldl_append]
    exact lawStep_lt
theorem lawFold_cons (r : Nat) (o : UInt8) (l : List UInt8) : lawFold r (o :: l) = lawFold (lawStep r o.toNat) l := by unfold lawFold; rw [List.foldl_cons]
theorem lawFold_nil (r : Nat) : lawFold r [] = r := rfl
theorem crcOf_nil (r : Nat) : crcOf r [] = r := rfl
theorem mir_fold : ∀ (l : List UInt8) {r : Nat}, r < 2 ^ 32 → mirror (lawFold r l) = crcOf (mirror r) l := by
  intro l
  induction l with
  | nil => intro r _; rw [lawFold_nil, crcOf_nil]
  | cons o k ih =>
    intro r h
    rw [lawFold_cons, crcOf_cons, ← mir_step h (u8_lt o)]
    exact ih (r := lawStep r o.toNat) lawStep_lt
theorem mir_own : mirror ownM = PP := by decide +kernel
theorem fold_own {r : Nat} (h : r < 2 ^ 32) (l : List UInt8) : decide (lawFold r l = ownM) = decide (crcOf (mirror r) l = PP) := by
  rw [decide_eq_decide, ← mir_fold l h, ← mir_own]
  constructor
  · intro e; rw [e]
  · intro e
    have := congrArg mirror e
    rwa [mir_mir (lawFold_lt h l), mir_mir ownM_lt] at this

section
variable {b : Array UInt8} {fs : List Nat}
theorem seg_succ {a n : Nat} (h : a + n < b.size) : (b.toList.drop a).take (n + 1) = (b.toList.drop a).take n ++ [b.getD (a + n) 0] := by
  rw [List.take_add_one, List.getElem?_drop]
  congr 1
  rw [Array.getElem?_toList, Array.getD_eq_getD_getElem?, Array.getElem?_eq_getElem h]
  rfl
theorem lkRow_one {r a : Nat} : ∀ n, a + n ≤ b.size → (lkRow b fs r a n).1 = lawFold r ((b.toList.drop a).take n)
  | 0, _ => by rw [List.take_zero]; rfl
  | n + 1, h => by
    rw [lkRow_succ, lkStep, lkRow_one n (by omega), seg_succ (by omega)]
    unfold lawFold
    rw [List.foldl_append]
    rfl
theorem lkRow_two {r a : Nat} : ∀ n, a + n ≤ b.size → (lkRow b fs r a n).2 = ((List.range' a n).filter fun p => decide (p ∈ fs)).map fun p => decide (lawFold r ((b.toList.drop a).take (p - a)) = ownM)
  | 0, _ => rfl
  | n + 1, h => by
    rw [lkRow_succ, lkStep, lkRow_one n (by omega), lkRow_two n (by omega), List.range'_concat, List.filter_append, List.map_append, Nat.one_mul]
    dsimp only
    by_cases hm : a + n ∈ fs
    · rw [if_pos hm, List.filter_cons_of_pos (by simpa using hm)]
      simp
    · rw [if_neg hm, List.filter_cons_of_neg (by simpa using hm)]
      simp
end
theorem pl_total (b : Array UInt8) : crcOf 4294967295 b.toList = mirror (lkRow b (frontsOf b) 4294967295 0 b.size).1 := by
  rw [lkRow_one b.size (by omega), mir_fold _ (by decide), show mirror 4294967295 = 4294967295 from by decide +kernel, List.drop_zero, List.take_of_length_le (by simp)]

end
section -- Pf

theorem sorted_ext : ∀ {l k : List Nat}, l.Pairwise (· < ·) → k.Pairwise (· < ·) → (∀ x, x ∈ l ↔ x ∈ k) → l = k
  | [], [], _, _, _ => rfl
  | [], y :: k, _, _, h => by have := (h y).mpr (.head _); cases this
  | x :: l, [], _, _, h => by have := (h x).mp (.head _); cases this
  | x :: l, y :: k, hl, hk, h => by
    obtain ⟨hl1, hl2⟩ := List.pairwise_cons.mp hl
    obtain ⟨hk1, hk2⟩ := List.pairwise_cons.mp hk
    have hxy : x = y := by
      rcases List.mem_cons.mp ((h x).mp (.head _)) with e | e
      · exact e
      rcases List.mem_cons.mp ((h y).mpr (.head _)) with e' | e'
      · exact e'.symm
      have := hk1 x e; have := hl1 y e'; omega
    subst hxy
    congr 1
    refine sorted_ext hl2 hk2 fun z => ⟨fun hz => ?_, fun hz => ?_⟩
    · rcases List.mem_cons.mp ((h z).mp (.tail _ hz)) with e | e
      · have := hl1 z hz; omega
      · exact e
    · rcases List.mem_cons.mp ((h z).mpr (.tail _ hz)) with e | e
      · have := hk1 z hz; omega
      · exact e
theorem fronts_sorted (b : Array UInt8) : (frontsOf b).Pairwise (· < ·) := (List.pairwise_lt_range' (s := 0) (n := b.size)).filter _
theorem range_sorted (a n : Nat) (p : Nat → Bool) : ((List.range' a n).filter p).Pairwise (· < ·) := (List.pairwise_lt_range' (s := a) (n := n)).filter _
theorem split_at {fs : List Nat} {i f : Nat} (h : fs[i]? = some f) : fs = fs.take i ++ f :: fs.drop (i + 1) := by
  obtain ⟨hi, e⟩ := List.getElem?_eq_some_iff.mp h
  rw [← e, List.getElem_cons_drop, List.take_append_drop]
theorem mem_drop {fs : List Nat} {i f : Nat} (hs : fs.Pairwise (· < ·)) (h : fs[i]? = some f) (p : Nat) : p ∈ fs.drop (i + 1) ↔ p ∈ fs ∧ f < p := by
  have e := split_at h
  rw [e] at hs
  obtain ⟨_, h2, h3⟩ := List.pairwise_append.mp hs
  obtain ⟨h4, _⟩ := List.pairwise_cons.mp h2
  constructor
  · intro hp
    exact ⟨List.mem_of_mem_drop hp, h4 p hp⟩
  · rintro ⟨hp, hl⟩
    rw [e] at hp
    rcases List.mem_append.mp hp with hp | hp
    · have := h3 p hp f (.head _); omega
    rcases List.mem_cons.mp hp with rfl | hp
    · omega
    · exact hp
theorem le_last : ∀ {fs : List Nat}, fs.Pairwise (· < ·) → ∀ p ∈ fs, p ≤ fs.getLastD 0
  | [], _, _, h => by cases h
  | [x], _, p, h => by rw [List.mem_singleton.mp h]; simp
  | x :: y :: r, hs, p, h => by
    obtain ⟨h1, h2⟩ := List.pairwise_cons.mp hs
    have ih := le_last h2
    have e : (x :: y :: r).getLastD 0 = (y :: r).getLastD 0 := by simp [List.getLastD]
    rw [e]
    rcases List.mem_cons.mp h with rfl | h
    · have := h1 y (.head _); have := ih y (.head _); omega
    · exact ih p h
theorem map_range_drop {α : Type} (g : Nat → α) (L : List Nat) (i : Nat) : (List.range' i (L.length - i)).map (fun j => g (L.getD j 0)) = (L.drop i).map g := by
  apply List.ext_getElem
  · simp
  · intro n h1 h2
    simp at h1
    simp only [List.getElem_map, List.getElem_range', List.getElem_drop, Nat.one_mul]
    congr 1
    rw [List.getD_eq_getElem?_getD, List.getElem?_eq_getElem (by omega)]
    rfl
theorem toldRow_eq (S : List Nat) (i : Nat) : toldRow S i = (S.drop (i + 1)).map fun y => decide (S.getD i 0 = y) := map_range_drop (fun y => decide (S.getD i 0 = y)) S (i + 1)
theorem map_getD {α : Type} (g : Nat → α) (L : List Nat) : L.map g = (List.range L.length).map fun i => g (L.getD i 0) := by
  have := map_range_drop g L 0
  rw [List.drop_zero, Nat.sub_zero] at this
  rw [← this, List.range_eq_range']

section
variable {b : Array UInt8}
theorem front_octet {f : Nat} (h : f ∈ frontsOf b) : f < b.size ∧ b.toList[f]? = some 46 := by
  obtain ⟨h1, h2⟩ := List.mem_filter.mp h
  rw [List.mem_range'_1] at h1
  have hf : f < b.size := by omega
  refine ⟨hf, ?_⟩
  unfold isFront at h2
  rw [Bool.and_eq_true, decide_eq_true_eq] at h2
  rw [Array.getElem?_toList, Array.getElem?_eq_getElem hf]
  have h3 := h2.1
  rw [Array.getD_eq_getD_getElem?, Array.getElem?_eq_getElem hf] at h3
  congr 1
  exact UInt8.toNat_inj.mp h3
theorem cut_at {f : Nat} (h : f ∈ frontsOf b) : b.toList = b.toList.take f ++ 46 :: b.toList.drop (f + 1) := by
  obtain ⟨h1, h2⟩ := front_octet h
  obtain ⟨hi, e⟩ := List.getElem?_eq_some_iff.mp h2
  rw [← e, List.getElem_cons_drop, List.take_append_drop]
theorem drop_cut {f g : Nat} (h : g ∈ frontsOf b) (hfg : f < g) : b.toList.drop (f + 1) = (b.toList.drop (f + 1)).take (g - (f + 1)) ++ 46 :: b.toList.drop (g + 1) := by
  obtain ⟨h1, h2⟩ := front_octet h
  obtain ⟨hi, e⟩ := List.getElem?_eq_some_iff.mp h2
  have e2 : (46 : UInt8) :: b.toList.drop (g + 1) = (b.toList.drop (f + 1)).drop (g - (f + 1)) := by
    rw [List.drop_drop, ← e, List.getElem_cons_drop]
    congr 1
    omega
  rw [e2, List.take_append_drop]
theorem take_cut {f g : Nat} (h : f ∈ frontsOf b) (hfg : f < g) : b.toList.take g = b.toList.take f ++ 46 :: (b.toList.drop (f + 1)).take (g - (f + 1)) := by
  obtain ⟨h1, _⟩ := front_octet h
  conv => lhs; rw [cut_at h]
  rw [List.take_append]
  have hl : (b.toList.take f).length = f := by rw [List.length_take, Array.length_toList]; omega
  rw [hl, List.take_of_length_le (by omega)]
  congr 1
  rw [show g - f = (g - (f + 1)) + 1 by omega, List.take_succ_cons]
theorem sum_front {f : Nat} (h : f ∈ frontsOf b) : decide (crcOf 4294967295 b.toList = crcOf 4294967295 (b.toList.take f ++ b.toList.drop (f + 1))) = decide (crcOf 4294967295 (b.toList.take f) = PP) := by
  rw [decide_eq_decide]
  conv => lhs; lhs; rw [cut_at h]
  rw [crcOf_append, crcOf_append]
  exact eq_A (crcOf_lt (by decide) _) _
theorem sum_two {f g : Nat} (hf : f ∈ frontsOf b) (hg : g ∈ frontsOf b) (hfg : f < g) :
    decide (crcOf 4294967295 (b.toList.take f ++ b.toList.drop (f + 1)) = crcOf 4294967295 (b.toList.take g ++ b.toList.drop (g + 1))) = decide (crcOf PP ((b.toList.drop (f + 1)).take (g - (f + 1))) = PP) := by
  rw [decide_eq_decide, take_cut hf hfg, crcOf_append, List.append_assoc, crcOf_append, List.cons_append]
  conv => lhs; lhs; rw [drop_cut hg hfg]
  exact eq_B (crcOf_lt (by decide) _) _ _
theorem getLastD_mem' {fs : List Nat} (h : fs ≠ []) : fs.getLastD 0 ∈ fs := getLastD_mem h
theorem row_front {i f : Nat} (h : (frontsOf b)[i]? = some f) : (lkRow b (frontsOf b) ownM (f + 1) ((frontsOf b).getLastD 0 - f)).2 = ((frontsOf b).drop (i + 1)).map fun g => decide (crcOf PP ((b.toList.drop (f + 1)).take (g - (f + 1))) = PP) := by
  have hm := List.mem_of_getElem? h
  have hs := fronts_sorted b
  have hne : frontsOf b ≠ [] := fun e => by rw [e] at hm; cases hm
  have hlast := (front_octet (getLastD_mem hne)).1
  have hfl := le_last hs f hm
  rw [lkRow_two _ (by omega)]
  have e : ((List.range' (f + 1) ((frontsOf b).getLastD 0 - f)).filter fun p => decide (p ∈ frontsOf b)) = (frontsOf b).drop (i + 1) := by
    refine sorted_ext (range_sorted _ _ _) (hs.sublist (List.drop_sublist _ _)) fun p => ?_
    rw [mem_drop hs h, List.mem_filter, List.mem_range'_1, decide_eq_true_eq]
    constructor
    · rintro ⟨h1, h2⟩; exact ⟨h2, by omega⟩
    · rintro ⟨h1, h2⟩
      have := le_last hs p h1
      exact ⟨by omega, h1⟩
  rw [e]
  apply List.map_congr_left
  intro g _
  rw [fold_own ownM_lt, mir_own]
theorem row_zero : (lkRow b (frontsOf b) 4294967295 0 b.size).2 = (frontsOf b).map fun f => decide (crcOf 4294967295 (b.toList.take f) = PP) := by
  rw [lkRow_two _ (by omega)]
  have e : ((List.range' 0 b.size).filter fun p => decide (p ∈ frontsOf b)) = frontsOf b := by
    refine sorted_ext (range_sorted _ _ _) (fronts_sorted b) fun p => ?_
    rw [List.mem_filter, List.mem_range'_1, decide_eq_true_eq]
    exact ⟨fun h => h.2, fun h => ⟨by have := (front_octet h).1; omega, h⟩⟩
  rw [e]
  apply List.map_congr_left
  intro g _
  rw [fold_own (by decide), show mirror 4294967295 = 4294967295 from by decide +kernel, List.drop_zero, Nat.sub_zero]
end
theorem pl_told (b : Array UInt8) : toldOf (sumsOf b) = lkOf b (frontsOf b) := by
  unfold toldOf lkOf
  have hlen : (sumsOf b).length = (frontsOf b).length + 1 := by unfold sumsOf; simp
  rw [hlen, List.range_succ_eq_map, List.map_cons, List.map_map, row_zero]
  congr 1
  · rw [toldRow_eq]
    unfold sumsOf
    rw [List.drop_succ_cons, List.drop_zero, List.map_map]
    apply List.map_congr_left
    intro f hf
    exact sum_front hf
  · rw [map_getD _ (frontsOf b)]
    apply List.map_congr_left
    intro i hi
    have hi := List.mem_range.mp hi
    have hg : (frontsOf b)[i]? = some ((frontsOf b).getD i 0) := by rw [List.getD_eq_getElem?_getD, List.getElem?_eq_getElem hi]; rfl
    rw [Function.comp, toldRow_eq, row_front hg]
    have hsi : (sumsOf b).getD (i + 1) 0 = crcOf 4294967295 (b.toList.take ((frontsOf b).getD i 0) ++ b.toList.drop ((frontsOf b).getD i 0 + 1)) := by
      unfold sumsOf
      rw [List.getD_cons_succ, List.getD_eq_getElem?_getD, List.getElem?_map, hg]
      rfl
    rw [hsi]
    generalize (frontsOf b).getD i 0 = f at *
    unfold sumsOf
    rw [List.drop_succ_cons, ← List.map_drop, List.map_map]
    apply List.map_congr_left
    intro g hgm
    obtain ⟨h1, h2⟩ := (mem_drop (fronts_sorted b) hg g).mp hgm
    exact sum_two (List.mem_of_getElem? hg) h1 h2

end
section -- Law
theorem eols_low {l : List Nat} (h : ∀ c ∈ l, c < 256) : ∀ p, ∀ c ∈ eolsF p l, c < 256 := by
  induction l with
  | nil => intro p c hc; rw [eolsF] at hc; cases hc
  | cons a r ih =>
    intro p c hc
    have hr := ih fun c hc => h c (.tail _ hc)
    rw [eolsF] at hc
    split at hc
    · split at hc
      · exact hr _ _ hc
      · rcases List.mem_cons.mp hc with rfl | hc
        · decide
        rcases List.mem_cons.mp hc with rfl | hc
        · decide
        exact hr _ _ hc
    · split at hc
      · rcases List.mem_cons.mp hc with rfl | hc
        · decide
        rcases List.mem_cons.mp hc with rfl | hc
        · decide
        exact hr _ _ hc
      · rcases List.mem_cons.mp hc with rfl | hc
        · exact h _ (.head _)
        · exact hr _ _ hc
theorem dots_len : ∀ p l, (dotsL p l).length ≤ 2 * l.length
  | _, [] => Nat.le_refl _
  | p, c :: r => by
    have h1 := dots_len false r
    have h2 := dots_len (c == 10) r
    rw [dotsL]
    split <;> simp <;> omega
def scriptNs (ns : List Int) : List Nat := ((ns.take 4 ++ [85, 34, 133, 199] : List Int).take 4).map fun (x : Int) => (x % 256).toNat
theorem ints_decI : ∀ {vs : List Value} {ns : List Int}, IntsAre vs ns → Paired decI ns vs
  | _, _, .nil => .nil
  | _, _, .cons n t h => .cons ⟨t, rfl⟩ (ints_decI h)


theorem paired_mapL {α γ β : Type} {f : α → γ} {R : γ → β → Prop} : ∀ {as : List α} {bs : List β}, Paired (fun a b => R (f a) b) as bs → Paired R (as.map f) bs
  | _, _, .nil => .nil
  | _, _, .cons h hs => .cons h (paired_mapL hs)
theorem cell_news {h₀ h : Heap} {L c : Addr} {o : Obj} {news : List (Addr × Obj)} {v : Option Value} (N : News h₀ L h news) (hm : (c, o) ∈ news) (hd : o.data = .cell v) : h.IsCell c v := ⟨o, (N _ hm).1, hd⟩

set_option maxHeartbeats 4000000 in
set_option pp.deepTerms.threshold 5 in
theorem law_holds : PySem.Challenge.rw_pk0001_01.Holds := Mine.hd (by
  w_strict (
    k_go0; (all_goals try k_fold)
    rename_i w s₀ s₁ mg mb _ _ fa o pm doc ho hg KX _ _ _ T _ _ _ _ _ _ wc _ _ ns _ _ _ _ _ _ _ l vs _ hL _ _ _ hI _ hlen _ _ _ h₁ tk₁ F os₁ os₂ hc₁ hc₂ N0 X0
    have G : Gd w s₁.heap := ⟨KX, _, _, _, _, _, T⟩
    obtain ⟨m, F, hm⟩ : ∃ m, Fr s₁.heap s₁.heap.objs.size h₁ m ∧ m (Str.ofString "script") = some (.ref l) := ⟨_, F, rfl⟩
    have hc₁ : os₁.data = Data.cell none := hc₁
    have hc₂ : os₂.data = Data.cell none := hc₂
    have hlen : ns.length ≤ 63 := by have := hlen; omega
    refine wpAny_mono (Q := fun fl s' => fl = .ret (.bool true) ∧ ∃ h' tk m, s' = { s₁ with heap := h', toks := tk } ∧ Fr s₁.heap s₁.heap.objs.size h' m) (E := Fe) ?_ (fun fl s' e => ?_) (fun _ _ f => f.elim)
    rotate_left
    · obtain ⟨rfl, h', tk, m', rfl, F'⟩ := e
      refine goodW_bool F' hg (raisesW_false ?_) ?_
      · wrow_none_raised
      · wrow_post
    walk_at "fill"
    have Rm : ∀ env, Room (callerA.deeper env) 11 := fun _ => ⟨rfl, show 1 + claimMargin + 1 + 11 < 1000 by decide, show 4 + 3 + 10 * 11 < 9900 by decide⟩
    have hns := paired_len (ints_decI hI)
    have G₁ : Gd w h₁ := G.keeps F.keep
    walk_at "xrun"
    walk_at "cg"
    walk_at "cd"
    walk_at "xrun"
    walk_at "lc"
    walk_at "xrun"
    refine r_slice_nc ?_
    refine r_sllist (k := 4) F N0 (hL.at fun o e => F.keep _ _ e) rfl (by omega) (fun h2 F2 N2 => ?_) (by with_unfolding_all rfl) (by intro _; with_unfolding_all rfl)
    walk_at "xrun"
    refine r_newlistO F2 N2 (by simp) fun h3 F3 N3 => ?_
    walk_at "xrun"
    refine r_addlists F3 N3 (lobj_is (N3 _ (.tail _ (.head _))).1) (lobj_is (N3 _ (.head _)).1) (by simp; omega) fun h4 F4 N4 => ?_
    walk_at "xrun"
    refine r_slice_nc ?_
    have N4l := lobj_is (N4 _ (.head _)).1
    refine kba_turn (value' := Expr.Name (Str.ofString "_") ⟨0, 0, 0, 0⟩) (fun _ => rfl) ?_
    refine r_sllist (k := 4) F4 N4 N4l rfl (by simp; omega) (fun h5 F5 N5 => ?_) (by with_unfolding_all rfl) (by intro _; with_unfolding_all rfl)
    walk_at "xrun"
    refine lc_list (items := (ns.take 4 ++ [85, 34, 133, 199] : List Int).take 4) (dec := decI) decI_inj (fun _ => true) (fun x v => decN (x % 256).toNat v) (Rm _).handled (lobj_is (N5 _ (.head _)).1) (ints_decI (IntsAre.take (IntsAre.append (IntsAre.take hI 4) (.cons _ _ (.cons _ _ (.cons _ _ (.cons _ _ .nil))))) 4)) (by simp) ?_ ?_ ?_
    · intro C a v h₃ gn₃ dr₃ tk₃ os₃ m₃ E' ha hd hn hm hkp hC
      exact ifs_nil ⟨rfl, keeps_refl⟩
    · rintro C a v h₃ gn₃ dr₃ tk₃ os₃ m₃ E' ha _ ⟨tv, rfl⟩ hn hm hkp hC
      walk_at "run"
      walk_at "cl"
      walk_at "run"
      refine r_modI rfl (by decide) ?_
      exact ⟨⟨_, rfl⟩, keeps_refl⟩
    intro D h6 tk6 ys hD hpl hp hk6
    have F6 := F5.keeps hk6
    have N6 := N5.grown hk6
    have hp6 : Paired decN (scriptNs ns) ys.toList := paired_mapL (paired_all (fun _ => rfl) hp)
    walk_at "xrun"
    have G6 : Gd w h6 := G.keeps F6.keep
    refine ⟨G6.k, ?_⟩
    have hnl : (scriptNs ns).length ≤ 4 := by unfold scriptNs; simp
    refine use (c_text w G6 ((Rm _).less (by decide)) (ns := scriptNs ns) (vs := ys.toList) (by simpa using hpl.isList) hp6 (by omega)) fun v h7 tk7 hv hk7 => ?_
    obtain ⟨t7, rfl⟩ := hv
    have hpl7 := textS_len (scriptNs ns)
    have hlow := textS_low (scriptNs ns)
    generalize textS (scriptNs ns) = pg at *
    have F7 := F6.keeps hk7
    have N7 : News s₁.heap s₁.heap.objs.size h7 [(s₁.heap.objs.size + 1 + 1, os₁), (s₁.heap.objs.size + 1, os₂)] := News.sub (N6.grown hk7) (fun p hp => .tail _ (.tail _ (.tail _ (.tail _ hp))))
    clear N6 N5 N4 N3 N2 N0 F6 F5 F4 F3 F2 hp6 hp hpl N4l
    walk_at "xrun"
    rename_i h8 F8 N8
    have G8 : Gd w h8 := G.keeps F8.keep
    have hpsz : pg.cps.size ≤ 36 := by have : pg.cps.size = pg.length := rfl; omega
    walk_at "cg"
    walk_at "cd"
    walk_at "xrun"
    walk_at "cg"
    walk_at "cd"
    walk_at "xrun"
    walk_at "cg"
    walk_at "cd"
    walk_at "xrun"
    refine ⟨G8.k, ?_⟩
    refine use (c_fix_eols w G8 ((Rm _).less (by decide)) _ (by omega)) fun v h9 tk9 hv hk9 => ?_
    obtain ⟨t9, rfl⟩ := hv
    have hel : (eolsF false pg.cps.toList).length ≤ 72 := by
      have := eols_len false pg.cps.toList
      have e : pg.cps.toList.length = pg.cps.size := Array.length_toList
      omega
    have helow := eols_low hlow false
    walk_at "xrun"
    have F9 := F8.keeps hk9
    have N9 := N8.grown hk9
    have G9 : Gd w h9 := G.keeps F9.keep
    refine ⟨G9.k, ?_⟩
    refine use (c_octets w G9 ((Rm _).less (by decide)) _ (by simp; omega) (by simpa using helow)) fun v h10 tk10 hv hk10 => ?_
    obtain ⟨t10, rfl⟩ := hv
    walk_at "xrun"
    have F10 := F9.keeps hk10
    have N10 := N9.grown hk10
    have G10 : Gd w h10 := G.keeps F10.keep
    refine ⟨G10.k, ?_⟩
    refine use (c_quote_periods w G10 ((Rm _).less (by decide)) _ (by simp; omega)) fun v h11 tk11 hv hk11 => ?_
    obtain ⟨t11, rfl⟩ := hv
    have hWl := dots_len true ((eolsF false pg.cps.toList).map (·.toUInt8))
    have hW2 := pl_even pg.cps.toList hlow
    rw [List.length_map] at hWl
    have eW : ((Str.mk (eolsF false pg.cps.toList).toArray).cps.map (·.toUInt8)).toList = (eolsF false pg.cps.toList).map (·.toUInt8) := by simp
    rw [eW]
    have F11 := F10.keeps hk11
    have N11 := N10.grown hk11
    clear F10 F9 F8 N10 N9 N8 G10 G9 G8 F7 N7
    generalize hWd : (dotsL true ((eolsF false pg.cps.toList).map (·.toUInt8))).toArray = W at *
    have hWs : W.size ≤ 144 := by rw [← hWd, List.size_toArray]; omega
    refine x_stc (c := s₁.heap.objs.size + 1) rfl (cell_news N11 (.tail _ (.head _)) hc₂) F11 (N11 _ (.tail _ (.head _))).2.1 (N11 _ (.tail _ (.head _))).2.2 (fun h12 F12 hcw hsb => ?_) rfl rfl
    obtain ⟨ow, how, hdw⟩ := id hcw
    have N12 : News s₁.heap s₁.heap.objs.size h12 [(s₁.heap.objs.size + 1 + 1, os₁), (s₁.heap.objs.size + 1, ow)] := by
      intro p hp
      rcases List.mem_cons.mp hp with rfl | hp
      · exact ⟨hsb.extBut _ _ (Nat.succ_ne_self _) (N11 _ (.head _)).1, (N11 _ (.head _)).2⟩
      · rw [List.mem_singleton.mp hp]
        exact ⟨how, (N11 _ (.tail _ (.head _))).2⟩
    have G12 : Gd w h12 := G.keeps F12.keep
    clear N11 F11 hsb
    walk_at "xrun"
    walk_at "cb"
    walk_at "cw"
    walk_at "xrun"
    walk_at "cc"
    walk_at "xrun"
    walk_at "cb"
    walk_at "xrun"
    refine r_isib ?_
    walk_at "xrun"
    refine ite_neg (by decide) ?_
    walk_at "xrun"
    walk_at "cc"
    walk_at "xrun"
    walk_at "cg"
    walk_at "cd"
    walk_at "xrun"
    walk_at "cg"
    walk_at "cd"
    walk_at "xrun"
    refine ⟨G12.k, ?_⟩
    refine use (c_even w G12 ((Rm _).less (by decide)) _ (by omega)) fun v h13 tk13 hv hk13 => ?_
    obtain ⟨t13, rfl⟩ := hv
    have F13 := F12.keeps hk13
    have N13 := N12.grown hk13
    have G13 : Gd w h13 := G.keeps F13.keep
    walk_at "xrun"
    refine ⟨G13.k, ?_⟩
    refine use (c_dotted w G13 ((Rm _).less (by decide)) _ _ (by simp [Str.length]; omega) (by decide +kernel) (by decide +kernel) (by decide +kernel) (by simpa using helow) (by decide +kernel)) fun v h14 tk14 hv hk14 => ?_
    obtain ⟨t14, rfl⟩ := hv
    have F14 := F13.keeps hk14
    have N14 := N13.grown hk14
    have G14 : Gd w h14 := G.keeps F14.keep
    refine r_neb ?_
    rw [show (W.toList != ((dottedL (Str.ofString "\r\n").cps.toList (Str.mk (eolsF false pg.cps.toList).toArray).cps.toList).toArray.map (·.toUInt8)).toList) = false by
      rw [← hWd, bne_eq_false_iff_eq, show (Str.ofString "\r\n").cps.toList = [13, 10] by decide +kernel, Array.toList_map]
      exact hW2]
    clear F13 N13 G13 F12 N12 G12
    walk_at "xrun"
    refine ite_neg (by decide) ?_
    walk_at "xrun"
    refine ite_neg (by decide) ?_
    walk_at "xrun"
    walk_at "cg"
    walk_at "cd"
    walk_at "xrun"
    walk_at "cg"
    walk_at "cd"
    walk_at "xrun"
    refine r_mul3 (by omega) fun t15 k15 => ?_
    have hpl3 : (pg ++ pg ++ pg).length ≤ 108 := by rw [Str.length_append, Str.length_append]; omega
    have hlow3 : low (pg ++ pg ++ pg) := low_app (low_app hlow hlow) hlow
    have hps3 : (pg ++ pg ++ pg).cps.size ≤ 108 := hpl3
    walk_at "xrun"
    refine ⟨G14.k, ?_⟩
    refine use (c_octets w G14 ((Rm _).less (by decide)) _ (by omega) hlow3) fun v h16 tk16 hv hk16 => ?_
    obtain ⟨t16, rfl⟩ := hv
    walk_at "xrun"
    have F16 := F14.keeps hk16
    have N16 := N14.grown hk16
    have G16 : Gd w h16 := G.keeps F16.keep
    refine ⟨G16.k, ?_⟩
    refine use (c_quote_periods w G16 ((Rm _).less (by decide)) _ (by simp; omega)) fun v h17 tk17 hv hk17 => ?_
    obtain ⟨t17, rfl⟩ := hv
    have F17 := F16.keeps hk17
    have N17 := N16.grown hk17
    have G17 : Gd w h17 := G.keeps F17.keep
    walk_at "xrun"
    walk_at "cg"
    walk_at "cd"
    walk_at "xrun"
    refine r_mul3 (by omega) fun t18 k18 => ?_
    walk_at "xrun"
    refine ⟨G17.k, ?_⟩
    refine use (c_dotted w G17 ((Rm _).less (by decide)) _ _ (by omega) (by decide +kernel) (by decide +kernel) (by decide +kernel) hlow3 (by decide +kernel)) fun v h19 tk19 hv hk19 => ?_
    obtain ⟨t19, rfl⟩ := hv
    have F19 := F17.keeps hk19
    have N19 := N17.grown hk19
    have G19 : Gd w h19 := G.keeps F19.keep
    refine r_neb ?_
    rw [show ((dotsL true ((pg ++ pg ++ pg).cps.map (·.toUInt8)).toList).toArray.toList != ((dottedL (Str.ofString "\n").cps.toList (pg ++ pg ++ pg).cps.toList).toArray.map (·.toUInt8)).toList) = false by
      rw [bne_eq_false_iff_eq, show (Str.ofString "\n").cps.toList = [10] by decide +kernel, Array.toList_map, Array.toList_map]
      exact pl_lf _ hlow3]
    clear F14 N14 G14 F16 N16 G16 F17 N17 G17
    walk_at "xrun"
    refine ite_neg (by decide) ?_
    walk_at "xrun"
    walk_at "cg"
    walk_at "cd"
    walk_at "xrun"
    refine ⟨G19.k, ?_⟩
    refine use (c_gen_crc w G19 ((Rm _).less (by decide)) _ _) fun v h20 tk20 hv hk20 => ?_
    obtain ⟨t20, rfl⟩ := hv
    have F20 := F19.keeps hk20
    have N20 := N19.grown hk20
    have G20 : Gd w h20 := G.keeps F20.keep
    rw [pl_gen]
    walk_at "xrun"
    refine ite_neg (by decide) ?_
    walk_at "xrun"
    refine ite_neg (by decide) ?_
    walk_at "xrun"
    have hcw20 := cell_news N20 (.tail _ (.head _)) hdw
    walk_at "cg"
    walk_at "cd"
    walk_at "xrun"
    walk_at "cc"
    walk_at "xrun"
    refine ⟨G20.k, ?_⟩
    refine use (c_fronts w G20 ((Rm _).less (by decide)) _ (by omega)) fun v h21 tk21 hv hk21 => ?_
    obtain ⟨Dh, ysh, rfl, hDh, hplh, hph⟩ := hv
    have F21 := F20.keeps hk21
    have N21 := N20.grown hk21
    have hDhn : s₁.heap.get? Dh = none := by
      cases e : s₁.heap.get? Dh with
      | none => rfl
      | some o => rw [F20.keep _ _ e] at hDh; cases hDh
    have hDh2 : Dh ≠ s₁.heap.objs.size + 1 + 1 := by
      rintro rfl
      rw [(N20 _ (.head _)).1] at hDh; cases hDh
    have hDhL : Dh ≠ s₁.heap.objs.size := by
      rintro rfl
      obtain ⟨oL, _, _, e, _⟩ := F20.ns
      rw [hDh] at e; cases e
    clear F19 N19 G19 F20 N20 G20 hcw20
    obtain ⟨nh, hnh⟩ := hplh
    have N22 : News s₁.heap s₁.heap.objs.size h21 [(Dh, lobj ysh.toList nh), (s₁.heap.objs.size + 1 + 1, os₁), (s₁.heap.objs.size + 1, ow)] := by
      intro p hp
      rcases List.mem_cons.mp hp with rfl | hp
      · refine ⟨hnh, ?_, ?_⟩
        · exact hDhL
        · exact hDhn
      · exact N21 p hp
    walk_at "xrun"
    rename_i h22 F22 N23
    have G22 : Gd w h22 := G.keeps F22.keep
    have hcw22 := cell_news N23 (.tail _ (.tail _ (.head _))) hdw
    walk_at "cg"
    walk_at "cd"
    walk_at "xrun"
    walk_at "cc"
    walk_at "xrun"
    refine ⟨G22.k, ?_⟩
    refine use (c_sum w G22 ((Rm _).less (by decide)) _) fun v h23 tk23 hv hk23 => ?_
    obtain ⟨t23, rfl⟩ := hv
    have F23 := F22.keeps hk23
    have N24 := N23.grown hk23
    walk_at "xrun"
    refine r_newlistO F23 N24 (by simp) fun h24 F24 N25 => ?_
    have G24 : Gd w h24 := G.keeps F24.keep
    have hcw24 := cell_news N25 (.tail _ (.tail _ (.tail _ (.head _)))) hdw
    clear F22 N23 G22 hcw22 F23 N24
    walk_at "xrun"
    walk_at "lc"
    walk_at "xrun"
    have hfs : ∀ f ∈ frontsOf W, f < W.size := fun f hf => by
      have := (List.mem_filter.mp hf).1
      rw [List.mem_range'_1] at this
      omega
    have hfl : (frontsOf W).length ≤ W.size := by
      have := List.length_filter_le (isFront W) (List.range' 0 W.size)
      rw [List.length_range'] at this
      exact this
    refine lc_list (items := frontsOf W) (dec := decN) decN_inj (fun _ => true) (fun f v => decN (crcOf 4294967295 (W.toList.take f ++ W.toList.drop (f + 1))) v) (Rm _).handled (lobj_is (N25 _ (.tail _ (.head _))).1) hph (by rw [← paired_len hph]; omega) ?_ ?_ ?_
    · intro C a v h₃ gn₃ dr₃ tk₃ os₃ m₃ E' ha hd hn hm hkp hC
      exact ifs_nil ⟨rfl, keeps_refl⟩
    · rintro C f v h₃ gn₃ dr₃ tk₃ os₃ m₃ E' hf _ ⟨tv, rfl⟩ hn hm hkp hC
      have G3 : Gd w h₃ := G24.keeps hkp
      have hcw3 := cell_keeps hcw24 hkp
      have hfW := hfs f hf
      walk_at "run"
      walk_at "cg"
      walk_at "cd"
      walk_at "run"
      walk_at "cc"
      refine wpAny_Slice (evalPart_none_step (evalPart_some_step ?_))
      walk_at "cl"
      refine evalPart_none_step ?_
      refine r_slbytes .none (.int _ _) (by omega) (fun h₄ t5 k5 hk4 => ?_) (by with_unfolding_all rfl) (by intro _; with_unfolding_all rfl)
      have G4 : Gd w h₄ := G3.keeps hk4
      have hcw4 := cell_keeps hcw3 hk4
      have hn4 : h₄.Ns C m₃ := hn.at' fun o e => hk4 _ _ e
      walk_at "run"
      walk_at "cc"
      refine wpAny_Slice (evalPart_some_step ?_)
      walk_at "run"
      walk_at "cl"
      walk_at "run"
      refine evalPart_none_step (evalPart_none_step ?_)
      refine r_slbytes (.int _ _) .none (by omega) (fun h₅ t6 k6 hk5 => ?_) (by with_unfolding_all rfl) (by intro _; with_unfolding_all rfl)
      have hsz1 : (KBy.picked W none (some (f : Int))).size ≤ 144 := by
        have e := congrArg List.length (picked_take (x := W) (f := f))
        simp only [Array.length_toList, List.length_take] at e; omega
      have hsz2 : (KBy.picked W (some ((f + 1 : Nat) : Int)) none).size ≤ 144 := by
        have e := congrArg List.length (picked_drop (x := W) (f := f + 1))
        simp only [Array.length_toList, List.length_drop] at e; omega
      refine r_addb (by omega) fun t8 k8 => ?_
      walk_at "run"
      have G5 : Gd w h₅ := G4.keeps hk5
      refine ⟨G5.k, ?_⟩
      refine use (c_sum w G5 ((Rm _).less (by decide)) _) fun v h₆ tk₆ hv hk6 => ?_
      obtain ⟨t9, rfl⟩ := hv
      rw [Array.toList_append, picked_take, picked_drop]
      exact ⟨⟨_, rfl⟩, keeps_of fun b o e => hk6 _ _ (hk5 _ _ (hk4 _ _ e))⟩
    intro D h25 tk25 yss hD25 hpl25 hp25 hk25
    have F25 := F24.keeps hk25
    have N26 := N25.grown hk25
    have hS : Paired decN (sumsOf W) (Value.int (crcOf 4294967295 W.toList : Nat) t23 :: yss.toList) := .cons ⟨_, rfl⟩ (paired_mapL (paired_all (fun _ => rfl) hp25))
    walk_at "xrun"
    refine r_addlists (vs := [_]) (ws := yss.toList) F25 N26 (lobj_is (N26 _ (.head _)).1) (by simpa using hpl25.isList) (by have := paired_len hS; simp [sumsOf] at this ⊢; omega) fun h26 F26 N27 => ?_
    have hDs2 : h25.objs.size ≠ s₁.heap.objs.size + 1 + 1 := Nat.ne_of_gt (Heap.lt_size (N26 _ (.tail _ (.tail _ (.head _)))).1)
    have NI := N27 _ (.tail _ (.tail _ (.tail _ (.head _))))
    refine x_stc (c := s₁.heap.objs.size + 1 + 1) rfl (cell_news N27 (.tail _ (.tail _ (.tail _ (.head _)))) hc₁) F26 NI.2.1 NI.2.2 (fun h27 F27 hcs hsb => ?_) rfl rfl
    obtain ⟨oS, hoS, hdS⟩ := id hcs
    generalize h25.objs.size = Ds at *
    have N28 : News s₁.heap s₁.heap.objs.size h27 [(Ds, lobj (Value.int (crcOf 4294967295 W.toList : Nat) t23 :: yss.toList) 0), (Dh, lobj ysh.toList nh), (s₁.heap.objs.size + 1 + 1, oS), (s₁.heap.objs.size + 1, ow)] := by
      intro p hp
      rcases List.mem_cons.mp hp with rfl | hp
      · exact ⟨hsb.extBut _ _ hDs2 (N27 _ (.head _)).1, (N27 _ (.head _)).2⟩
      rcases List.mem_cons.mp hp with rfl | hp
      · exact ⟨hsb.extBut _ _ hDh2 (N27 _ (.tail _ (.tail _ (.head _)))).1, (N27 _ (.tail _ (.tail _ (.head _)))).2⟩
      rcases List.mem_cons.mp hp with rfl | hp
      · exact ⟨hoS, NI.2⟩
      · rw [List.mem_singleton.mp hp]
        exact ⟨hsb.extBut _ _ (Nat.ne_of_lt (Nat.lt_succ_self _)) (N27 _ (.tail _ (.tail _ (.tail _ (.tail _ (.head _)))))).1, (N27 _ (.tail _ (.tail _ (.tail _ (.tail _ (.head _)))))).2⟩
    clear N27 N26 N25 F26 F25 F24 NI hsb hcw24
    have G27 : Gd w h27 := G.keeps F27.keep
    have hSl := paired_len hS
    have hSn : (sumsOf W).length ≤ 200 := by unfold sumsOf; simp; omega
    have hls27 := lobj_is (N28 _ (.head _)).1
    refine wpAny_execs_cons ?_
    refine asg_comp rfl rfl rfl (by decide) (by intro _; rfl) ?_
    walk_at "xrun"
    walk_at "cb"
    walk_at "xrun"
    walk_at "cb"
    walk_at "cw"
    walk_at "xrun"
    walk_at "cc"
    walk_at "xrun"
    refine r_lenl hls27 (by omega) fun t28 k28 => ?_
    rw [← hSl]
    walk_at "xrun"
    refine r_range1 fun h28 t' u' v' hr he => ?_
    have hk28 : ∀ b o, h27.get? b = some o → h28.get? b = some o := fun b o e => by rw [he]; exact Heap.get?_push_of_some _ e
    have F28 := F27.keeps hk28
    have N29 := N28.grown hk28
    refine lcc_range (L := s₁.heap.objs.size) (n := (sumsOf W).length) (fun k => (toldRow (sumsOf W) k).map Value.bool) (by intro n; rfl) (by intro h; rfl) rfl (by intro C; rfl) rfl rfl rfl F28 rfl rfl (Rm _).handled hr (by omega) ?_ ?_
    · intro C k tv h₃ gn₃ dr₃ tk₃ os₃ E' hkn hci hkp
      have G3 : Gd w h₃ := (G27.keeps hk28).keeps hkp
      have hcs3 := cell_keeps (cell_keeps hcs hk28) hkp
      have hls3 : h₃.IsList Ds _ := (hls27.at fun o e => hk28 _ _ e).at fun o e => hkp _ _ e
      walk_at "lc"
      walk_at "run"
      walk_at "cb"
      walk_at "run"
      walk_at "cc"
      walk_at "run"
      walk_at "cb"
      walk_at "cw"
      walk_at "run"
      walk_at "cc"
      walk_at "run"
      refine r_lenl hls3 (by omega) fun t4 k4 => ?_
      rw [← hSl]
      walk_at "run"
      refine r_range2 fun h₄ t' u' v' hr4 he4 => ?_
      have hk4 : ∀ b o, h₃.get? b = some o → h₄.get? b = some o := fun b o e => by rw [he4]; exact Heap.get?_push_of_some _ e
      refine lc_range (a' := k + 1) (b' := (sumsOf W).length) (fun _ => true) (fun j v => v = Value.bool (decide ((sumsOf W).getD k 0 = (sumsOf W).getD j 0))) rfl rfl (Rm _).handled hr4 (by omega) (by omega) ?_ ?_ ?_
      · intro C' j tj h₅ gn₅ dr₅ tk₅ os₅ m₅ E5 hj1 hj2 hn5 hm5 hkp5 hC5
        exact ifs_nil ⟨rfl, keeps_refl⟩
      · intro C' j tj h₅ gn₅ dr₅ tk₅ os₅ m₅ E5 hj1 hj2 _ hn5 hm5 hkp5 hC5
        have hcs5 := cell_keeps (cell_keeps hcs3 hk4) hkp5
        have hci5 := cell_keeps (cell_keeps hci hk4) hkp5
        have hls5 : h₅.IsList Ds _ := (hls3.at fun o e => hk4 _ _ e).at fun o e => hkp5 _ _ e
        walk_at "run"
        walk_at "cc"
        walk_at "run"
        walk_at "cc"
        refine r_itemN hls5 hS rfl hkn (by omega) (fun t6 => ?_) (by with_unfolding_all rfl)
        walk_at "run"
        walk_at "cc"
        walk_at "run"
        walk_at "cl"
        refine r_itemN hls5 hS rfl hj2 (by omega) (fun t7 => ?_) (by with_unfolding_all rfl)
        walk_at "run"
        exact ⟨rfl, keeps_refl⟩
      · intro D' h₆ tk₆ zs hD6 hpl6 hp6 hk6
        have hz : zs.toList = (toldRow (sumsOf W) k).map Value.bool := by
          have := paired_eq (paired_all (fun _ => rfl) hp6)
          rw [this, toldRow, List.map_map]; rfl
        refine ⟨⟨D', rfl, ?_, ?_⟩, keeps_of fun b o e => hk6 _ _ (hk4 _ _ e)⟩
        · cases e : h₃.get? D' with
          | none => rfl
          | some o => rw [hk4 _ _ e] at hD6; cases hD6
        · rw [← hz]; simpa using hpl6.isList
    intro D29 h29 tk29 vs29 hp29 hl29 F29 hk29
    have N30 : News s₁.heap s₁.heap.objs.size h29 [(Ds, lobj (Value.int (crcOf 4294967295 W.toList : Nat) t23 :: yss.toList) 0), (Dh, lobj ysh.toList nh), (s₁.heap.objs.size + 1 + 1, oS), (s₁.heap.objs.size + 1, ow)] :=
      fun p hp => ⟨hk29 _ _ (N29 p hp).2.1 (N29 p hp).1, (N29 p hp).2⟩
    have hp30 : Paired (RowAt h29) (toldOf (sumsOf W)) vs29 := paired_mapL hp29
    have G29 : Gd w h29 := G.keeps F29.keep
    have hcs29 := cell_news N30 (.tail _ (.tail _ (.head _))) hdS
    have hcw29 := cell_news N30 (.tail _ (.tail _ (.tail _ (.head _)))) hdw
    clear N29 N28 F28 F27 G27
    walk_at "xrun"
    walk_at "cc"
    walk_at "xrun"
    refine r_itemN (k := 0) (lobj_is (N30 _ (.head _)).1) hS rfl (by unfold sumsOf; simp) (by omega) (fun t30 => ?_) (by with_unfolding_all rfl)
    walk_at "xrun"
    refine r_newlist (by simp) fun h31 hl31 hk31 => ?_
    have F31 := F29.keeps hk31
    have N31 := N30.grown hk31
    have G31 : Gd w h31 := G.keeps F31.keep
    have hcw31 := cell_keeps hcw29 hk31
    generalize h29.objs.size = D31 at *
    walk_at "xrun"
    walk_at "cg"
    walk_at "cd"
    walk_at "xrun"
    walk_at "cc"
    walk_at "xrun"
    refine ⟨G31.k, ?_⟩
    refine use (c_linked w G31 ((Rm _).less (by decide)) _ (fs := frontsOf W) (by omega) (lobj_is (N31 _ (.tail _ (.head _))).1) hph hfs (by omega)) fun v h32 tk32 hv hk32 => ?_
    obtain ⟨D32, Dl32, t32, vs32, rfl, hD32, hDl32, hp32⟩ := hv
    rw [← pl_total, ← pl_told] at *
    refine r_eqfinal (tab := toldOf (sumsOf W)) (by show 4 + 3 + 2 < cLine; decide) (hl31.at fun o e => hk32 _ _ e) hD32 ((hl29.at fun o e => hk31 _ _ e).at fun o e => hk32 _ _ e) hDl32 (paired_mono (fun bs v q => ?_) hp30) hp32 ?_
    · obtain ⟨a, rfl, ha⟩ := q
      exact ⟨a, rfl, (ha.at fun o e => hk31 _ _ e).at fun o e => hk32 _ _ e⟩
    walk_at "xrun"
    exact ⟨rfl, _, _, _, rfl, F31.keeps hk32⟩))

end
end Mine
theorem PySem.Challenge.cw_pk0001_01_holds : PySem.Challenge.rw_pk0001_01.Holds := by
  exact Mine.law_holds
