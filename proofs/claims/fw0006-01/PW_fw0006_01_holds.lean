import PyProof.Rows.All
import Wide.All
import OpenK.AllK
import Wide.FinOn
import PySem.Challenge.RW_fw0006_01
open PySem PySem.W PyProof.Rows
set_option Elab.async false
set_option linter.all false
set_option maxRecDepth 100000 in
set_option maxHeartbeats 8000000 in
open_top hd for PySem.Challenge.rw_fw0006_01

namespace Mine
noncomputable abbrev loo : List Str := looseW hd.view_39 [Str.ofString "convertbits"]
noncomputable abbrev prg : Program := PySem.Challenge.rw_fw0006_01.row.prog

/-- the entry of a def, the caller's frames forgotten: no way raises -/
theorem enter {w : World} {A : Around} {s : Shared} {K : Frag} {Q : Value → Shared → Prop} {E : Value → Shared → Prop}
    {name qual : Str} {params : Arguments} {body : List Stmt} {scope : Scope} {dV kV doc pm cdv ct oc : Value} {an od : Option Addr} {osl : Array (Option Value)} {f : Addr} {vs : List Value} {binds : List (Str × Value)}
    (X : K.In s.heap) (T : s.heap.NoLimit) (hroom : A.depth < recursionLimit)
    (ho : K.lookup f = some ⟨oc, od, .func (fnOf name qual params body scope dV kV doc pm an cdv ct), osl⟩) (hcd : codeIn K cdv qual = true)
    (hbind : BindsTo s (fnOf name qual params body scope dV kV doc pm an cdv ct) ⟨vs, []⟩ binds) (hloc : ∀ y ∈ binds, scope.names.lookup y.1 = some .local)
    (h : ∀ L h₁, L = s.heap.objs.size → Fr s.heap L h₁ (fun y => binds.reverse.lookup y) → News s.heap L h₁ [] →
      wpAny (model prg w) (A.deeper (envOf qual scope L f cdv)) (execs body (envOf qual scope L f cdv))
        (fun fl s' => Q (match fl with | .ret v => v | _ => .none) s') (fun _ _ => False) { s with heap := h₁, toks := s.toks + binds.length })
    (hco : scope.isCoroutine = false) (hgen : scope.isGenerator = false) (hk : scope.kind = .function) (hcell : ∀ x ∈ scope.names, x.2 ≠ .cell) :
    wpAny (model prg w) A (call (.ref f) vs) Q E s := by
  refine wpAny_call ?_
  refine codeAny_call_def (fd := fnOf name qual params body scope dV kV doc pm an cdv ct) (body := body) (binds := binds) hroom (X _ _ ho) rfl T (codeRec_of X hcd) rfl hbind hcell hloc (fun h₁ hns hk₁ => ?_) hco hgen hk
  exact wpAny_mono (h _ h₁ rfl ⟨hns, hk₁, Nat.le_refl _⟩ News.nil) (fun _ _ x => x) (fun _ _ x => x.elim)
end Mine
namespace Mine
/- numbers: every int a cast -/
theorem xor_and_nat : ∀ a b : Nat, (a ^^^ b) + 2 * (a &&& b) = a + b := by
  intro a
  induction a using Nat.strongRecOn with
  | _ a ih =>
    intro b
    by_cases ha : a = 0
    · subst ha; simp
    · have h1 := ih (a / 2) (by omega) (b / 2)
      have h2 : (a ^^^ b) / 2 = a / 2 ^^^ b / 2 := Nat.xor_div_two
      have h3 : (a &&& b) / 2 = a / 2 &&& b / 2 := Nat.and_div_two
      have h4 := @Nat.xor_mod_two_eq_one a b
      have h5 := @Nat.and_mod_two_eq_one a b
      rw [← h2, ← h3] at h1
      have h6 : (a ^^^ b) % 2 < 2 := Nat.mod_lt _ (by decide)
      have h7 : (a &&& b) % 2 < 2 := Nat.mod_lt _ (by decide)
      omega
theorem or_and_nat (a b : Nat) : (a ||| b) + (a &&& b) = a + b := by
  have key : ∀ a b : Nat, (a ||| b) + (a &&& b) = a + b := by
    intro a
    induction a using Nat.strongRecOn with
    | _ a ih =>
      intro b
      by_cases ha : a = 0
      · subst ha; simp
      · have h1 := ih (a / 2) (by omega) (b / 2)
        have h2 : (a ||| b) / 2 = a / 2 ||| b / 2 := Nat.or_div_two
        have h3 : (a &&& b) / 2 = a / 2 &&& b / 2 := Nat.and_div_two
        have h4 := @Nat.or_mod_two_eq_one a b
        have h5 := @Nat.and_mod_two_eq_one a b
        rw [← h2, ← h3] at h1
        have h6 : (a ||| b) % 2 < 2 := Nat.mod_lt _ (by decide)
        have h7 : (a &&& b) % 2 < 2 := Nat.mod_lt _ (by decide)
        omega
  exact key a b
theorem bitAnd_nat (a b : Nat) : Builtin.bitAnd (a : Int) (b : Int) = ((a &&& b : Nat) : Int) := by
  rw [bitAnd_pp (by omega) (by omega)]; simp
theorem bitOr_nat (a b : Nat) : Builtin.bitOr (a : Int) (b : Int) = ((a ||| b : Nat) : Int) := by
  rw [bitOr_and, bitAnd_nat]; have := or_and_nat a b; omega
theorem bitXor_nat (a b : Nat) : Builtin.bitXor (a : Int) (b : Int) = ((a ^^^ b : Nat) : Int) := by
  rw [bitXor_and, bitAnd_nat]; have := xor_and_nat a b; omega
theorem pow_cast (k : Nat) : (2 : Int) ^ k = ((2 ^ k : Nat) : Int) := by
  simp
theorem fdiv_nat (a b : Nat) : (a : Int).fdiv (b : Int) = ((a / b : Nat) : Int) := by
  rw [Int.fdiv_eq_ediv_of_nonneg _ (by omega)]; simp
theorem fmod_nat (a b : Nat) : (a : Int).fmod (b : Int) = ((a % b : Nat) : Int) := by
  rw [Int.fmod_eq_emod_of_nonneg _ (by omega)]; simp

section
variable {w : World} {A : Around} {E : Value → Shared → Prop} {hp : Heap} {gs : Array GenState} {dr : Drawn} {tk : Nat} {os : OsState} {a b : Nat} {t u : Tok} {Q : Value → Shared → Prop}
theorem and_n (h : ∀ u tk, Q (.int ((a &&& b : Nat) : Int) u) ⟨hp, gs, dr, tk, os⟩) : wpAny (model prg w) A (binaryOp .BitAnd (.int (a : Int) t) (.int (b : Int) u)) Q E ⟨hp, gs, dr, tk, os⟩ := and_int (by rw [bitAnd_nat]; exact h _ _)
theorem or_n (h : ∀ u tk, Q (.int ((a ||| b : Nat) : Int) u) ⟨hp, gs, dr, tk, os⟩) : wpAny (model prg w) A (binaryOp .BitOr (.int (a : Int) t) (.int (b : Int) u)) Q E ⟨hp, gs, dr, tk, os⟩ := or_int (by rw [bitOr_nat]; exact h _ _)
theorem xor_n (h : ∀ u tk, Q (.int ((a ^^^ b : Nat) : Int) u) ⟨hp, gs, dr, tk, os⟩) : wpAny (model prg w) A (binaryOp .BitXor (.int (a : Int) t) (.int (b : Int) u)) Q E ⟨hp, gs, dr, tk, os⟩ := xor_int (by rw [bitXor_nat]; exact h _ _)
theorem ixor_n (h : ∀ u tk, Q (.int ((a ^^^ b : Nat) : Int) u) ⟨hp, gs, dr, tk, os⟩) : wpAny (model prg w) A (inplaceOp .BitXor (.int (a : Int) t) (.int (b : Int) u)) Q E ⟨hp, gs, dr, tk, os⟩ := ixor_int (by rw [bitXor_nat]; exact h _ _)
theorem rsh_n (h : ∀ u tk, Q (.int ((a / 2 ^ b : Nat) : Int) u) ⟨hp, gs, dr, tk, os⟩) : wpAny (model prg w) A (binaryOp .RShift (.int (a : Int) t) (.int (b : Int) u)) Q E ⟨hp, gs, dr, tk, os⟩ :=
  rshift_int (by omega) (by rw [Int.toNat_natCast, pow_cast, fdiv_nat]; exact h _ _)
theorem lsh_n (ha : a < 2 ^ 64) (hb : b ≤ 1000000) (h : ∀ u tk, Q (.int ((a * 2 ^ b : Nat) : Int) u) ⟨hp, gs, dr, tk, os⟩) : wpAny (model prg w) A (binaryOp .LShift (.int (a : Int) t) (.int (b : Int) u)) Q E ⟨hp, gs, dr, tk, os⟩ :=
  lshift_int_small (by omega) (by omega) (by simpa using ha) (by rw [Int.toNat_natCast, pow_cast, ← Int.natCast_mul]; exact h _ _)
theorem add_n (h : ∀ u tk, Q (.int ((a + b : Nat) : Int) u) ⟨hp, gs, dr, tk, os⟩) : wpAny (model prg w) A (binaryOp .Add (.int (a : Int) t) (.int (b : Int) u)) Q E ⟨hp, gs, dr, tk, os⟩ :=
  PyProof.Rows.add_int (by rw [← Int.natCast_add]; exact h _ _)
theorem iadd_n (h : ∀ u tk, Q (.int ((a + b : Nat) : Int) u) ⟨hp, gs, dr, tk, os⟩) : wpAny (model prg w) A (inplaceOp .Add (.int (a : Int) t) (.int (b : Int) u)) Q E ⟨hp, gs, dr, tk, os⟩ :=
  PyProof.Rows.iadd_int (by rw [← Int.natCast_add]; exact h _ _)
theorem sub_n (hab : b ≤ a) (h : ∀ u tk, Q (.int ((a - b : Nat) : Int) u) ⟨hp, gs, dr, tk, os⟩) : wpAny (model prg w) A (binaryOp .Sub (.int (a : Int) t) (.int (b : Int) u)) Q E ⟨hp, gs, dr, tk, os⟩ :=
  PyProof.Rows.sub_int (by rw [← Int.natCast_sub hab]; exact h _ _)
theorem isub_n (hab : b ≤ a) (h : ∀ u tk, Q (.int ((a - b : Nat) : Int) u) ⟨hp, gs, dr, tk, os⟩) : wpAny (model prg w) A (inplaceOp .Sub (.int (a : Int) t) (.int (b : Int) u)) Q E ⟨hp, gs, dr, tk, os⟩ :=
  PyProof.Rows.isub_int (by rw [← Int.natCast_sub hab]; exact h _ _)
theorem mul_n (h : ∀ u tk, Q (.int ((a * b : Nat) : Int) u) ⟨hp, gs, dr, tk, os⟩) (hm : IntMulOk (a : Int) (b : Int) := by mul_fits) : wpAny (model prg w) A (binaryOp .Mult (.int (a : Int) t) (.int (b : Int) u)) Q E ⟨hp, gs, dr, tk, os⟩ :=
  PyProof.Rows.mul_int (by rw [← Int.natCast_mul]; exact h _ _) hm
theorem div_n (hb : 0 < b) (ha : b < 2 ^ 30) (h : ∀ u tk, Q (.int ((a / b : Nat) : Int) u) ⟨hp, gs, dr, tk, os⟩) : wpAny (model prg w) A (binaryOp .FloorDiv (.int (a : Int) t) (.int (b : Int) u)) Q E ⟨hp, gs, dr, tk, os⟩ :=
  floordiv_int (by omega) (by rw [fdiv_nat]; exact h _ _) (Or.inl (PyProof.noPylong_small (by omega)))
theorem mod_n (hb : 0 < b) (h : ∀ u tk, Q (.int ((a % b : Nat) : Int) u) ⟨hp, gs, dr, tk, os⟩) : wpAny (model prg w) A (binaryOp .Mod (.int (a : Int) t) (.int (b : Int) u)) Q E ⟨hp, gs, dr, tk, os⟩ :=
  PyProof.Rows.mod_int (by omega) (by rw [fmod_nat]; exact h _ _)
theorem const_n {n : Nat} {env : Env} {k : Nat} {pos : Pos} (h : ∀ u tk, Q (.int ((OfNat.ofNat n : Nat) : Int) u) ⟨hp, gs, dr, tk, os⟩) :
    wpAny (model prg w) A (eval (.Constant (.int (@OfNat.ofNat Int n instOfNat)) k pos) env) Q E ⟨hp, gs, dr, tk, os⟩ := wpAny_Constant_int (h _ _)
theorem truthy_n {s : Shared} {Q : Bool → Shared → Prop} (h : Q (a != 0) s) : wpAny (model prg w) A (truthy (.int (a : Int) t)) Q E s :=
  PyProof.Rows.truthy_int (by have : ((a : Int) != 0) = (a != 0) := by (rw [Bool.eq_iff_iff]; simp)
                              rw [this]; exact h)
theorem store_n {h₀ : Heap} {L : Addr} {m : Str → Option Value} {news : List (Addr × Obj)} {name : Str} {scope : Scope} {f : Addr} {cd : Value} {x : Str} {v : Value} {Q : Unit → Shared → Prop}
    (F : Fr h₀ L hp m) (N : News h₀ L hp news) (h : ∀ h' tk, Fr h₀ L h' (fun y => if y = x then some v else m y) → News h₀ L h' news → Q () ⟨h', gs, dr, tk, os⟩)
    (hk : scope.kind = .function) (hl : (envOf name scope L f cd).kindOf x = some .local) :
    wpAny (model prg w) A (storeName (envOf name scope L f cd) x v) Q E ⟨hp, gs, dr, tk, os⟩ :=
  stN F N (fun h' F' N' => h h' _ F' N') hk hl
end
end Mine
namespace Mine
/- loops over ints by a fold; the names that the body stores are told, the others stay -/
def Upto (Y : List Str) (m m₀ : Str → Option Value) : Prop := ∀ z, z ∉ Y → m z = m₀ z
theorem Upto.refl {Y : List Str} {m : Str → Option Value} : Upto Y m m := fun _ _ => rfl
theorem Upto.out {Y : List Str} {m m₀ : Str → Option Value} {z : Str} (h : Upto Y m m₀) (hz : z ∉ Y) : m z = m₀ z := h z hz
theorem Upto.set {Y : List Str} {m m₀ : Str → Option Value} {x : Str} {v : Option Value} (hx : x ∈ Y) (h : Upto Y m m₀) : Upto Y (fun y => if y = x then v else m y) m₀ := fun z hz => by
  have : z ≠ x := fun e => hz (e ▸ hx)
  show (if z = x then v else m z) = m₀ z
  rw [if_neg this]; exact h z hz
theorem Upto.trans {Y Y' : List Str} {m m' m₀ : Str → Option Value} (hs : (Y'.all fun z => Y.contains z) = true) (h : Upto Y' m m') (h2 : Upto Y m' m₀) : Upto Y m m₀ := fun z hz => (h z fun q => hz (by simpa using List.all_eq_true.mp hs z q)).trans (h2 z hz)
def TurnEnd (h₀ : Heap) (L : Addr) (news own : List (Addr × Obj)) (R : (Str → Option Value) → Prop) (Y : List Str) (m₀ : Str → Option Value) (gs : Array GenState) (dr : Drawn) (os : OsState) (Q : Flow → Shared → Prop) (f : Flow) (s₂ : Shared) : Prop :=
  match f with
  | .ret v => Q (.ret v) s₂
  | .brk => Q .next s₂
  | _ => ∃ h' tk' m' news', s₂ = ⟨h', gs, dr, tk', os⟩ ∧ Fr h₀ L h' m' ∧ News h₀ L h' news' ∧ (∀ p ∈ news ++ own, p ∈ news') ∧ R m' ∧ Upto Y m' m₀
theorem TurnEnd.next {h₀ : Heap} {L : Addr} {news own news' : List (Addr × Obj)} {R : (Str → Option Value) → Prop} {Y : List Str} {m₀ m' : Str → Option Value} {gs : Array GenState} {dr : Drawn} {os : OsState} {Q : Flow → Shared → Prop} {h' : Heap} {tk' : Nat}
    (F : Fr h₀ L h' m') (N : News h₀ L h' news') (hn : ∀ p ∈ news ++ own, p ∈ news') (hR : R m') (hU : Upto Y m' m₀) : TurnEnd h₀ L news own R Y m₀ gs dr os Q .next ⟨h', gs, dr, tk', os⟩ :=
  ⟨h', tk', m', news', rfl, F, N, hn, hR, hU⟩
theorem TurnEnd.cont {h₀ : Heap} {L : Addr} {news own news' : List (Addr × Obj)} {R : (Str → Option Value) → Prop} {Y : List Str} {m₀ m' : Str → Option Value} {gs : Array GenState} {dr : Drawn} {os : OsState} {Q : Flow → Shared → Prop} {h' : Heap} {tk' : Nat}
    (F : Fr h₀ L h' m') (N : News h₀ L h' news') (hn : ∀ p ∈ news ++ own, p ∈ news') (hR : R m') (hU : Upto Y m' m₀) : TurnEnd h₀ L news own R Y m₀ gs dr os Q .cont ⟨h', gs, dr, tk', os⟩ :=
  ⟨h', tk', m', news', rfl, F, N, hn, hR, hU⟩

section
variable {w : World} {A : Around} {E : Value → Shared → Prop} {hp : Heap} {gs : Array GenState} {dr : Drawn} {tk : Nat} {os : OsState} {env : Env} {h₀ : Heap} {x : Str} {body : List Stmt} {Q : Flow → Shared → Prop}
theorem for_range {σ : Type} {r : Addr} {a₀ b₀ : Int} {t₀ u₀ v₀ : Tok} {n : Nat} {m₀ : Str → Option Value} {news : List (Addr × Obj)}
    (Y : List Str) (R : σ → (Str → Option Value) → Prop) (g : σ → Int → σ) (c₀ : σ)
    (hh : A.handled = none) (hr : IsRange hp r a₀ b₀ 1 t₀ u₀ v₀) (hsmall : Builtin.Range.small a₀ b₀ 1 = true) (hn : Builtin.Range.rangeSize a₀ b₀ 1 = (n : Int)) (F : Fr h₀ env.locals hp m₀) (N : News h₀ env.locals hp news) (hR : R c₀ m₀)
    (turn : ∀ k t a m₁ h tk own, k ∈ rangeKs a₀ n → OwnOff own (news.map (·.1)) → R a m₁ → Upto (x :: Y) m₁ m₀ → Fr h₀ env.locals h (fun y => if y = x then some (.int k t) else m₁ y) → News h₀ env.locals h (news ++ own) →
      wpAny (model prg w) A (execs body env) (TurnEnd h₀ env.locals news own (R (g a k)) (x :: Y) m₀ gs dr os Q) E ⟨h, gs, dr, tk, os⟩)
    (done : ∀ m₁ h tk, R ((rangeKs a₀ n).foldl g c₀) m₁ → Upto (x :: Y) m₁ m₀ → Fr h₀ env.locals h m₁ → News h₀ env.locals h news → Q .next ⟨h, gs, dr, tk, os⟩) :
    wpAny (model prg w) A (pyIter (.ref r)) (fun it s₂ => LoopAtV prg w A h₀ env x body Q E it s₂) E ⟨hp, gs, dr, tk, os⟩ := by
  refine iter_rangeS (fun a m nx => nx = news ∧ R a m ∧ Upto (x :: Y) m m₀) g c₀ hh hr hsmall hn F N ⟨rfl, hR, .refl⟩ ?_ ?_
  · rintro k t a m₁ nx h tk own hk ho ⟨rfl, hR₁, hU⟩ F₁ N₁
    refine wpAny_mono (turn k t a m₁ h tk own hk ho hR₁ hU F₁ N₁) (fun f s₂ e => ?_) fun _ _ e => e
    have fin : (∃ h' tk' m' news', s₂ = ⟨h', gs, dr, tk', os⟩ ∧ Fr h₀ env.locals h' m' ∧ News h₀ env.locals h' news' ∧ (∀ p ∈ nx ++ own, p ∈ news') ∧ R (g a k) m' ∧ Upto (x :: Y) m' m₀) →
        InvEndN h₀ env.locals (fun m nx' => nx' = nx ∧ R (g a k) m ∧ Upto (x :: Y) m m₀) own (nx.map (·.1)) ⟨h, gs, dr, tk, os⟩ s₂ := by
      rintro ⟨h', tk', m', news', rfl, F', N', hm, hR', hU'⟩
      exact ⟨h', tk', m', news', nx, rfl, F', N', fun p hp => hm p (List.mem_append_left _ hp), fun p hp => hm p (List.mem_append_right _ hp), rfl, rfl, hR', hU'⟩
    cases f with
    | ret v => exact e
    | brk => exact e
    | next => exact fin e
    | cont => exact fin e
  · rintro m₁ nx h tk ⟨rfl, hR₁, hU⟩ F₁ N₁
    exact done m₁ h tk hR₁ hU F₁ N₁
theorem for_list {σ : Type} {l : Addr} {vs : List Value} {ns : List Int} {m₀ : Str → Option Value} {news : List (Addr × Obj)}
    (Y : List Str) (R : σ → (Str → Option Value) → Prop) (g : σ → Int → σ) (c₀ : σ)
    (hh : A.handled = none) (hl : h₀.IsList l vs.toArray) (hi : IntsAre vs ns) (F : Fr h₀ env.locals hp m₀) (N : News h₀ env.locals hp news) (hR : R c₀ m₀)
    (turn : ∀ k t a m₁ h tk own, k ∈ ns → OwnOff own (news.map (·.1)) → R a m₁ → Upto (x :: Y) m₁ m₀ → Fr h₀ env.locals h (fun y => if y = x then some (.int k t) else m₁ y) → News h₀ env.locals h (news ++ own) →
      wpAny (model prg w) A (execs body env) (TurnEnd h₀ env.locals news own (R (g a k)) (x :: Y) m₀ gs dr os Q) E ⟨h, gs, dr, tk, os⟩)
    (done : ∀ m₁ h tk, R (ns.foldl g c₀) m₁ → Upto (x :: Y) m₁ m₀ → Fr h₀ env.locals h m₁ → News h₀ env.locals h news → Q .next ⟨h, gs, dr, tk, os⟩) :
    wpAny (model prg w) A (pyIter (.ref l)) (fun it s₂ => LoopAtV prg w A h₀ env x body Q E it s₂) E ⟨hp, gs, dr, tk, os⟩ := by
  refine iter_listS (fun a m nx => nx = news ∧ R a m ∧ Upto (x :: Y) m m₀) g c₀ hh hl hi F N ⟨rfl, hR, .refl⟩ ?_ ?_
  · rintro k t a m₁ nx h tk own hk ho ⟨rfl, hR₁, hU⟩ F₁ N₁
    refine wpAny_mono (turn k t a m₁ h tk own hk ho hR₁ hU F₁ N₁) (fun f s₂ e => ?_) fun _ _ e => e
    have fin : (∃ h' tk' m' news', s₂ = ⟨h', gs, dr, tk', os⟩ ∧ Fr h₀ env.locals h' m' ∧ News h₀ env.locals h' news' ∧ (∀ p ∈ nx ++ own, p ∈ news') ∧ R (g a k) m' ∧ Upto (x :: Y) m' m₀) →
        InvEndN h₀ env.locals (fun m nx' => nx' = nx ∧ R (g a k) m ∧ Upto (x :: Y) m m₀) own (nx.map (·.1)) ⟨h, gs, dr, tk, os⟩ s₂ := by
      rintro ⟨h', tk', m', news', rfl, F', N', hm, hR', hU'⟩
      exact ⟨h', tk', m', news', nx, rfl, F', N', fun p hp => hm p (List.mem_append_left _ hp), fun p hp => hm p (List.mem_append_right _ hp), rfl, rfl, hR', hU'⟩
    cases f with
    | ret v => exact e
    | brk => exact e
    | next => exact fin e
    | cont => exact fin e
  · rintro m₁ nx h tk ⟨rfl, hR₁, hU⟩ F₁ N₁
    exact done m₁ h tk hR₁ hU F₁ N₁
end

def natv (ns : List Nat) : List Int := ns.map fun (n : Nat) => (n : Int)
theorem fold_natv {σ : Type} (g : σ → Nat → σ) : ∀ (ns : List Nat) (c : σ), (natv ns).foldl (fun c k => g c k.toNat) c = ns.foldl g c
  | [], _ => rfl
  | n :: ns, c => by simp only [natv, List.map_cons, List.foldl_cons, Int.toNat_natCast]; exact fold_natv g ns _
theorem rangeKs_nat (n : Nat) : rangeKs 0 n = natv (List.range n) := by
  unfold rangeKs natv; simp
theorem natv_length (ns : List Nat) : (natv ns).length = ns.length := by simp [natv]
theorem natv_append (a b : List Nat) : natv (a ++ b) = natv a ++ natv b := by simp [natv]
theorem natv_get {ns : List Nat} {k : Nat} {n : Int} (h : (natv ns)[k]? = some n) : n = ((ns.getD k 0 : Nat) : Int) := by
  unfold natv at h
  rw [List.getElem?_map] at h
  cases hq : ns[k]? with
  | none => rw [hq] at h; cases h
  | some x => rw [hq] at h; simp at h; rw [← h, List.getD_eq_getElem?_getD, hq]; rfl
theorem ints_get {vs : List Value} {ns : List Nat} (hI : IntsAre vs (natv ns)) {k : Nat} (hk : k < ns.length) : ∃ u, vs[k]? = some (.int ((ns.getD k 0 : Nat) : Int) u) := by
  have hl : k < (natv ns).length := by rw [natv_length]; exact hk
  have h1 : (natv ns)[k]? = some (natv ns)[k] := List.getElem?_eq_getElem hl
  obtain ⟨t, ht⟩ := hI.get k _ h1
  exact ⟨t, by rw [ht, natv_get h1]⟩
section
variable {w : World} {A : Around} {E : Value → Shared → Prop} {hp : Heap} {gs : Array GenState} {dr : Drawn} {tk : Nat} {os : OsState}
theorem item_n {value slice : PySem.Expr} {l : Addr} {vs : List Value} {ns : List Nat} {k : Nat} {u : Tok} {Q : Value → Shared → Prop} (hl : hp.IsList l vs.toArray) (hI : IntsAre vs (natv ns)) (hk : k < ns.length) (hk2 : k < 2 ^ 60)
    (h : ∀ u, Q (.int ((ns.getD k 0 : Nat) : Int) u) ⟨hp, gs, dr, tk, os⟩)
    (hs : subscripted slice false (.ref l) (.int (k : Int) u) = operate [.ref l, .int (k : Int) u] (getItem (.ref l) (.int (k : Int) u))) :
    wpAny (model prg w) A (subscriptTail value slice (.ref l) (.int (k : Int) u)) Q E ⟨hp, gs, dr, tk, os⟩ := by
  obtain ⟨t, ht⟩ := ints_get hI hk
  exact tail_any hl.typeIs slot_list_getitem.lookup (wpAny_getItem_list hl (by omega) (by omega) (by simpa using ht) (h t)) hs
end
end Mine
namespace Mine
/- comprehensions: a source, what an item is, what an element gives -/
abbrev NatV (n : Nat) (v : Value) : Prop := ∃ t, v = .int (n : Int) t
abbrev StrV (x : Str) (v : Value) : Prop := ∃ t, v = .str x t
abbrev SignV (c : Nat) (v : Value) : Prop := ∃ t, v = .str ⟨#[c]⟩ t
theorem ints_of_paired : ∀ {ns : List Nat} {vs : List Value}, Paired NatV ns vs → IntsAre vs (natv ns)
  | _, _, .nil => .nil
  | _, _, .cons ⟨t, e⟩ r => by subst e; exact .cons _ t (ints_of_paired r)
theorem paired_of_ints : ∀ {ns : List Nat} {vs : List Value}, IntsAre vs (natv ns) → Paired NatV ns vs
  | [], _, h => by cases h; exact .nil
  | n :: ns, _, h => by
    obtain ⟨t, vs', rfl, h'⟩ := IntsAre.cons_inv (n := (n : Int)) (ns := natv ns) h
    exact .cons ⟨t, rfl⟩ (paired_of_ints h')
theorem strs_of_paired : ∀ {ns : List Str} {vs : List Value}, Paired StrV ns vs → StrsAre vs ns
  | _, _, .nil => .nil
  | _, _, .cons ⟨t, e⟩ r => by subst e; exact .cons _ t (strs_of_paired r)
theorem paired_get {α : Type} {V : α → Value → Prop} : ∀ {as : List α} {vs : List Value}, Paired V as vs → ∀ (i : Nat) v, vs[i]? = some v → ∃ a, as[i]? = some a ∧ V a v
  | _, _, .nil, i, v, h => by simp at h
  | _, _, .cons e r, 0, v, h => by simp at h; subst h; exact ⟨_, rfl, e⟩
  | _, _, .cons e r, i + 1, v, h => by simpa using paired_get r i v (by simpa using h)
theorem paired_of_get {α : Type} {V : α → Value → Prop} : ∀ {as : List α} {vs : List Value}, vs.length = as.length → (∀ (i : Nat) v, vs[i]? = some v → ∃ a, as[i]? = some a ∧ V a v) → Paired V as vs
  | [], [], _, _ => .nil
  | [], _ :: _, h, _ => by simp at h
  | _ :: _, [], h, _ => by simp at h
  | a :: as, v :: vs, h, g => by
    obtain ⟨a', e, ha⟩ := g 0 v rfl
    simp at e; subst e
    exact .cons ha (paired_of_get (by simpa using h) fun i v' h' => g (i + 1) v' (by simpa using h'))
theorem paired_mem {α : Type} {V : α → Value → Prop} : ∀ {as : List α} {vs : List Value}, Paired V as vs → ∀ v ∈ vs, ∃ a, a ∈ as ∧ V a v
  | _, _, .nil, v, h => by cases h
  | _, _, .cons e r, v, h => by
    rcases List.mem_cons.mp h with rfl | h
    · exact ⟨_, .head _, e⟩
    · obtain ⟨a, ha, hv⟩ := paired_mem r v h; exact ⟨a, .tail _ ha, hv⟩

/-- an iterable: its walk -/
def Src {α : Type} (w : World) (xv : Value) (g : Heap) (s₁ : Shared) (as : List α) (V : α → Value → Prop) : Prop :=
  ∀ (A : Around) (Q : Value → Shared → Prop) (E : Value → Shared → Prop), A.handled = none →
    (∀ I fp wr P St h₂, (∀ A' : Around, A'.handled = none → Walks prg w A' I fp wr as.length P St) → St 0 h₂ → (∀ b ∈ fp, b < h₂.objs.size) → (∀ b ∈ wr, s₁.heap.get? b = none) → (∀ b ∈ wr, s₁.heap.objs.size ≤ b) → (∀ b ∈ fp, (∃ o, g.get? b = some o ∧ o.cls ≠ .none) ∨ s₁.heap.objs.size ≤ b) → s₁.heap.objs.size ≤ h₂.objs.size →
      (∀ i v, P i v → ∃ a, as[i]? = some a ∧ V a v) → (∀ b o, s₁.heap.get? b = some o → h₂.get? b = some o) → Q (.ref I) { s₁ with heap := h₂ }) →
    wpAny (model prg w) A (pyIter xv) Q E s₁

theorem fresh_none {h : Heap} {a : Addr} (ha : h.objs.size ≤ a) : h.get? a = none := by
  cases e : h.get? a with
  | none => rfl
  | some o' => exact absurd (Heap.lt_size e) (Nat.not_lt.mpr ha)
theorem src_range {w : World} {g : Heap} {s : Shared} {r : Addr} {b : Int} {t₀ u₀ v₀ : Tok} {n : Nat} (hr : IsRange s.heap r 0 b 1 t₀ u₀ v₀) (hsmall : Builtin.Range.small 0 b 1 = true) (hn : Builtin.Range.rangeSize 0 b 1 = (n : Int)) :
    Src w (.ref r) g s (List.range n) NatV := by
  intro A Q E hA h
  refine wpAny_pyIter_range hr hsmall ?_
  have hl : (List.range n).length = n := List.length_range
  refine h s.heap.objs.size [s.heap.objs.size] [s.heap.objs.size] (fun i v => i < n ∧ ∃ t, v = .int (0 + i * 1) t) (fun i h => IsRangeIter h s.heap.objs.size (0 + (i : Nat) * 1) ((n : Int) - (i : Nat)) 1) _
    (fun A' hA' => by rw [hl]; exact (Walks.range hA' _ 0 1 n).bound) (by show IsRangeIter _ _ _ _ _; rw [hn]; simpa using Heap.get?_push_size _ rfl) ?_ ?_ ?_ ?_ ?_ ?_ ?_
  · intro b hb; rw [List.mem_singleton.mp hb, Heap.size_push]; exact Nat.lt_succ_self _
  · intro b hb; rw [List.mem_singleton.mp hb]; exact fresh_none (Nat.le_refl _)
  · intro b hb; rw [List.mem_singleton.mp hb]; exact Nat.le_refl _
  · intro b hb; rw [List.mem_singleton.mp hb]; exact .inr (Nat.le_refl _)
  · rw [Heap.size_push]; exact Nat.le_succ _
  · rintro i v ⟨hi, t, rfl⟩; exact ⟨i, by simp [hi], t, by simp⟩
  · intro b o e; exact Heap.get?_push_of_some _ e
theorem src_listG {α : Type} {w : World} {g : Heap} {s : Shared} {l : Addr} {vs : List Value} {as : List α} {V : α → Value → Prop} (hlg : g.IsList l vs.toArray) (hkg : ∀ b o, g.get? b = some o → s.heap.get? b = some o) (hv : Paired V as vs) : Src w (.ref l) g s as V := by
  have hl : s.heap.IsList l vs.toArray := hlg.at fun o e => hkg _ o e
  intro A Q E hA h
  refine wpAny_pyIter_list hl ?_
  have hlt : l < s.heap.objs.size := by obtain ⟨_, e, _⟩ := hl; exact Heap.lt_size e
  have hlen : vs.toArray.size = as.length := by simp [hv.length]
  refine h s.heap.objs.size [s.heap.objs.size, l] [s.heap.objs.size] (fun i v => vs.toArray[i]? = some v) (fun i h => h.IsListIter s.heap.objs.size l i ∧ h.IsList l vs.toArray) _
    (fun A' hA' => by rw [← hlen]; exact Walks.list hA' _ _ (Nat.ne_of_lt hlt) vs.toArray) ⟨⟨_, Heap.get?_push_size _ rfl, rfl, rfl⟩, hl.push _⟩ ?_ ?_ ?_ ?_ ?_ ?_ ?_
  · intro b hb
    rw [Heap.size_push]
    rcases List.mem_cons.mp hb with rfl | hb
    · exact Nat.lt_succ_self _
    · rw [List.mem_singleton.mp hb]; exact Nat.lt_succ_of_lt hlt
  · intro b hb; rw [List.mem_singleton.mp hb]; exact fresh_none (Nat.le_refl _)
  · intro b hb; rw [List.mem_singleton.mp hb]; exact Nat.le_refl _
  · intro b hb
    rcases List.mem_cons.mp hb with rfl | hb
    · exact .inr (Nat.le_refl _)
    · rw [List.mem_singleton.mp hb]
      obtain ⟨o, ho, hc, _⟩ := hlg
      exact .inl ⟨o, ho, by rw [hc]; simp⟩
  · rw [Heap.size_push]; exact Nat.le_succ _
  · intro i v e; exact paired_get hv i v (by simpa using e)
  · intro b o e; exact Heap.get?_push_of_some _ e
theorem src_list {α : Type} {w : World} {s : Shared} {l : Addr} {vs : List Value} {as : List α} {V : α → Value → Prop} (hl : s.heap.IsList l vs.toArray) (hv : Paired V as vs) : Src w (.ref l) s.heap s as V := src_listG hl (fun _ _ e => e) hv
theorem src_str {w : World} {g : Heap} {s : Shared} {y : Str} {t : Tok} : Src w (.str y t) g s y.cps.toList SignV := by
  intro A Q E hA h
  refine wpAny_pyIter_str fun o St W hst => ?_
  refine h s.heap.objs.size [s.heap.objs.size] [s.heap.objs.size] (SignAt y) St _ (fun A' hA' => by rw [Array.length_toList]; exact W A' hA') hst ?_ ?_ ?_ ?_ ?_ ?_ ?_
  · intro b hb; rw [List.mem_singleton.mp hb, Heap.size_push]; exact Nat.lt_succ_self _
  · intro b hb; rw [List.mem_singleton.mp hb]; exact fresh_none (Nat.le_refl _)
  · intro b hb; rw [List.mem_singleton.mp hb]; exact Nat.le_refl _
  · intro b hb; rw [List.mem_singleton.mp hb]; exact .inr (Nat.le_refl _)
  · rw [Heap.size_push]; exact Nat.le_succ _
  · rintro i v ⟨c, u, hc, rfl⟩; exact ⟨c, by simpa using hc, u, rfl⟩
  · intro b o e; exact Heap.get?_push_of_some _ e

section
variable {w : World} {A : Around} {E : Value → Shared → Prop} {s : Shared} {env : Env} {α β : Type}
open Classical in
noncomputable def liftP (V : α → Value → Prop) (pz : α → Bool) (v : Value) : Bool := decide (∃ a, V a v ∧ pz a = true)
theorem liftP_is {V : α → Value → Prop} {pz : α → Bool} (hV : ∀ a a' v, V a v → V a' v → a = a') {a : α} {v : Value} (h : V a v) : liftP V pz v = pz a := by
  unfold liftP
  cases hp : pz a with
  | true => simp only [decide_eq_true_eq]; exact ⟨a, h, hp⟩
  | false =>
    simp only [decide_eq_false_iff_not]
    rintro ⟨a', h', hp'⟩
    rw [hV a a' v h h'] at hp; rw [hp] at hp'; cases hp'
theorem paired_filter {V : α → Value → Prop} {pz : α → Bool} {Wt : β → Value → Prop} {g : α → β} (hV : ∀ a a' v, V a v → V a' v → a = a') :
    ∀ {as : List α} {vs : List Value}, Paired V as vs → ∀ {ys : List Value}, Paired (fun v y => ∃ a, V a v ∧ Wt (g a) y) (vs.filter (liftP V pz)) ys → Paired Wt ((as.filter pz).map g) ys
  | _, _, .nil, ys, h => by cases h; exact .nil
  | _, _, .cons (a := a) (b := v) hi hr, ys, h => by
    cases hp : pz a with
    | false =>
      rw [List.filter_cons_of_neg (by rw [liftP_is hV hi, hp]; exact Bool.false_ne_true)] at h
      rw [List.filter_cons_of_neg (by simp [hp])]
      exact paired_filter hV hr h
    | true =>
      rw [List.filter_cons_of_pos (by rw [liftP_is hV hi, hp])] at h
      rw [List.filter_cons_of_pos hp, List.map_cons]
      cases h with
      | cons hF ht =>
        obtain ⟨a', hi', hc⟩ := hF
        have e : a' = a := hV a' a _ hi' hi
        subst e
        exact .cons hc (paired_filter hV hr ht)

/-- what the tests and the element say of an item -/
structure Elt (w : World) (A : Around) (env : Env) (scope : Scope) (cl : List (Str × Addr)) (x : Str) (ifs : List Expr) (elt : Expr) (s₁ : Shared) (as : List α) (V : α → Value → Prop) (pz : α → Bool) (Wt : β → Value → Prop) (g : α → β) : Prop where
  tests : ∀ C a v H gs dr tk os m₃ E', a ∈ as → V a v → H.Ns C m₃ → m₃ x = some v → (∀ b o, s₁.heap.get? b = some o → H.get? b = some o) → s₁.heap.objs.size ≤ C →
    wpAny (model prg w) A (forIn ifs true fun c r => if r = true then do let ok ← isTrue c (compEnvC scope cl C env) (eval c (compEnvC scope cl C env)); pure (ForInStep.yield ok) else pure (ForInStep.yield r))
      (fun ok s₄ => ok = pz a ∧ Keeps ⟨H, gs, dr, tk, os⟩ s₄) E' ⟨H, gs, dr, tk, os⟩
  elt : ∀ C a v H gs dr tk os m₃ E', a ∈ as → V a v → pz a = true → H.Ns C m₃ → m₃ x = some v → (∀ b o, s₁.heap.get? b = some o → H.get? b = some o) → s₁.heap.objs.size ≤ C →
    wpAny (model prg w) A (eval elt (compEnvC scope cl C env)) (fun y s₄ => Wt (g a) y ∧ Keeps ⟨H, gs, dr, tk, os⟩ s₄) E' ⟨H, gs, dr, tk, os⟩

theorem Elt.quiet {w : World} {A : Around} {env : Env} {scope : Scope} {cl : List (Str × Addr)} {x : Str} {ifs : List Expr} {elt : Expr} {s₁ : Shared} {as : List α} {V : α → Value → Prop} {pz : α → Bool} {Wt : β → Value → Prop} {g : α → β}
    (h : Elt w A env scope cl x ifs elt s₁ as V pz Wt g) (hV : ∀ a a' v, V a v → V a' v → a = a') {wr : List Addr} {P : Nat → Value → Prop} {s₂ : Shared} (hsz : s₁.heap.objs.size ≤ s₂.heap.objs.size) (hwr : ∀ b ∈ wr, s₁.heap.get? b = none) (hP : ∀ i v, P i v → ∃ a, as[i]? = some a ∧ V a v)
    (hk : ∀ b o, s₁.heap.get? b = some o → s₂.heap.get? b = some o) : QuietOnC prg w A env scope cl x ifs elt wr P (liftP V pz) (fun v y => ∃ a, V a v ∧ Wt (g a) y) s₂ where
  tests := fun C i v s₃ m₃ E' hC hp hn hm hkp _ => by
    obtain ⟨a, ha, hv⟩ := hP i v hp
    obtain ⟨H, gs, dr, tk, os⟩ := s₃
    rw [liftP_is hV hv]
    exact h.tests C a v H gs dr tk os m₃ E' (List.mem_of_getElem? ha) hv hn hm (fun b o e => hkp b o (fun hm => by rw [hwr b hm] at e; cases e) (hk b o e)) (Nat.le_trans hsz hC)
  elt := fun C i v s₃ m₃ E' hC hp hpz hn hm hkp _ => by
    obtain ⟨a, ha, hv⟩ := hP i v hp
    obtain ⟨H, gs, dr, tk, os⟩ := s₃
    rw [liftP_is hV hv] at hpz
    exact wpAny_mono (h.elt C a v H gs dr tk os m₃ E' (List.mem_of_getElem? ha) hv hpz hn hm (fun b o e => hkp b o (fun hm => by rw [hwr b hm] at e; cases e) (hk b o e)) (Nat.le_trans hsz hC)) (fun y s₄ r => ⟨⟨a, hv, r.1⟩, r.2⟩) fun _ _ e => e

/-- a comprehension's value -/
theorem comp_f {elt iter : Expr} {x : Str} {px : Pos} {ifs : List Expr} {scope : Scope} {cl : List (Str × Addr)} {pos : Pos} {Q : Value → Shared → Prop}
    {as : List α} {V : α → Value → Prop} {pz : α → Bool} {Wt : β → Value → Prop} {g : α → β} (hV : ∀ a a' v, V a v → V a' v → a = a')
    (hA : A.handled = none) (hclos : closureFor scope env = pure cl) (hcell : ∀ y ∈ scope.names, y.2 ≠ .cell) (hkind : scope.kind = .function)
    (hnames : ∀ y ∈ scope.names, y.2 = .local → scope.names.lookup y.1 = some .local) (hx : scope.names.lookup x = some .local)
    (h : wpAny (model prg w) A (eval iter env) (fun xv s₁ => Src w xv s₁.heap s₁ as V ∧ as.length ≤ sizeLine ∧ Elt w A env scope cl x ifs elt s₁ as V pz Wt g ∧
      (∀ D H tk ys, s₁.heap.get? D = none → H.IsList D ys.toArray → Paired Wt ((as.filter pz).map g) ys → (∀ b o, s₁.heap.get? b = some o → H.get? b = some o) → Q (.ref D) { s₁ with heap := H, toks := tk })) E s)
    (hs : ∀ x, foldedSetIterable iter env x = pure x) :
    wpAny (model prg w) A (eval (.ListComp elt [⟨.Name x px, iter, ifs, 0⟩] scope pos) env) Q E s := by
  refine wpAny_ListComp_free (liftP V pz) (fun v y => ∃ a, V a v ∧ Wt (g a) y) hclos hcell hkind hnames hx (wpAny_mono h (fun xv s₁ h₁ => ?_) fun _ _ e => e) hs
  obtain ⟨hsrc, hlen, helt, hQ⟩ := h₁
  refine hsrc A _ _ hA fun I fp wr P St h₂ W hst hfp hwr hwr2 _ hsz hP hk => ?_
  refine ⟨I, fp, wr, as.length, P, St, rfl, W A hA, hlen, hst, hfp, helt.quiet hV hsz hwr hP hk, fun D h' tk ys vs hD hl _ hn hPv hF hk' => ?_⟩
  have hkeep : ∀ b o, s₁.heap.get? b = some o → h'.get? b = some o := fun b o e => hk' b o (fun hm => by rw [hwr b hm] at e; cases e) (hk b o e)
  have hD1 : s₁.heap.get? D = none := by
    cases e : s₁.heap.get? D with
    | none => rfl
    | some o => have : h₂.get? D = some o := hk D o e
                rw [show h₂.get? D = none from hD] at this; cases this
  exact hQ D h' tk ys.toList hD1 (by rw [Array.toArray_toList]; exact hl) (paired_filter hV (paired_of_get hn fun i v e => hP i v (hPv i v e)) hF) hkeep

theorem comp_fa {elt iter : Expr} {x y : Str} {px py : Pos} {ifs : List Expr} {scope : Scope} {cl : List (Str × Addr)} {pos spos : Pos} {Q : Flow → Shared → Prop}
    {as : List α} {V : α → Value → Prop} {pz : α → Bool} {Wt : β → Value → Prop} {g : α → β} (hV : ∀ a a' v, V a v → V a' v → a = a')
    (hsw : swapsWith (.ListComp elt [⟨.Name x px, iter, ifs, 0⟩] scope pos) (some (.Name y py)) spos.line env = pure true)
    (hA : A.handled = none) (hclos : closureFor scope env = pure cl) (hcell : ∀ y ∈ scope.names, y.2 ≠ .cell) (hkind : scope.kind = .function)
    (hnames : ∀ y ∈ scope.names, y.2 = .local → scope.names.lookup y.1 = some .local) (hx : scope.names.lookup x = some .local)
    (hy : env.kindOf y = some .local) (hp : (env.scope.kind == .class || (env.scope.kind == .module && env.locals != env.globals)) = false)
    (h : wpAny (model prg w) A (eval iter env) (fun xv s₁ => Src w xv s₁.heap s₁ as V ∧ as.length ≤ sizeLine ∧ Elt w A env scope cl x ifs elt s₁ as V pz Wt g ∧
      ∃ h₀ m news, Fr h₀ env.locals s₁.heap m ∧ News h₀ env.locals s₁.heap news ∧
      (∀ D H tk ys, s₁.heap.get? D = none → H.IsList D ys.toArray → Paired Wt ((as.filter pz).map g) ys → (∀ b o, b ≠ env.locals → s₁.heap.get? b = some o → H.get? b = some o) →
        Fr h₀ env.locals H (fun z => if z = y then some (.ref D) else m z) → News h₀ env.locals H news → Q .next { s₁ with heap := H, toks := tk })) E s)
    (hs : ∀ x, foldedSetIterable iter env x = pure x) :
    wpAny (model prg w) A (exec (.Assign [.Name y py] (.ListComp elt [⟨.Name x px, iter, ifs, 0⟩] scope pos) spos) env) Q E s := by
  refine wpAny_Assign_ListComp_free (liftP V pz) (fun v y => ∃ a, V a v ∧ Wt (g a) y) hsw hclos hcell hkind hnames hx hy hp (wpAny_mono h (fun xv s₁ h₁ => ?_) fun _ _ e => e) hs
  obtain ⟨hsrc, hlen, helt, h₀, m, news, F, N, hQ⟩ := h₁
  refine hsrc A _ _ hA fun I fp wr P St h₂ W hst hfp hwr hwr2 _ hsz hP hk => ?_
  have hLw : env.locals ∉ wr := fun hm => absurd F.ns.lt (Nat.not_lt.mpr (hwr2 _ hm))
  refine ⟨I, fp, wr, as.length, P, St, m, rfl, W A hA, hlen, hst, hfp, hLw, F.ns.keeps hk, helt.quiet hV hsz hwr hP hk, fun D h' tk ys vs hD hl _ hn hPv hF hns hk' => ?_⟩
  have hkeep : ∀ b o, b ≠ env.locals → s₁.heap.get? b = some o → h'.get? b = some o := fun b o hb e => hk' b o hb (fun hm => by rw [hwr b hm] at e; cases e) (hk b o e)
  have hD1 : s₁.heap.get? D = none := by
    cases e : s₁.heap.get? D with
    | none => rfl
    | some o => have : h₂.get? D = some o := hk D o e
                rw [show h₂.get? D = none from hD] at this; cases this
  exact hQ D h' tk ys.toList hD1 (by rw [Array.toArray_toList]; exact hl) (paired_filter hV (paired_of_get hn fun i v e => hP i v (hPv i v e)) hF) hkeep
    ⟨hns, fun b o e => hkeep b o (Nat.ne_of_lt (Nat.lt_of_lt_of_le (Heap.lt_size e) F.above)) (F.keep b o e), F.above⟩ (fun p hp => ⟨hkeep _ _ (N p hp).2.1 (N p hp).1, (N p hp).2⟩)

theorem tests_nil {C : Env} {Q : Bool → Shared → Prop} (h : Q true s) : wpAny (model prg w) A (forIn ([] : List Expr) true fun c r => if r = true then do let ok ← isTrue c C (eval c C); pure (ForInStep.yield ok) else pure (ForInStep.yield r)) Q E s := wpAny_pure h
theorem Keeps.rfl' {h : Heap} {gs : Array GenState} {dr : Drawn} {tk tk' : Nat} {os : OsState} : Keeps ⟨h, gs, dr, tk, os⟩ ⟨h, gs, dr, tk', os⟩ := ⟨h, tk', rfl, fun _ _ e => e⟩
theorem Elt.plain {w : World} {A : Around} {env : Env} {scope : Scope} {cl : List (Str × Addr)} {x : Str} {elt : Expr} {s₁ : Shared} {as : List α} {V : α → Value → Prop} {Wt : β → Value → Prop} {g : α → β}
    (h : ∀ C a v H gs dr tk os m₃ E', a ∈ as → V a v → H.Ns C m₃ → m₃ x = some v → (∀ b o, s₁.heap.get? b = some o → H.get? b = some o) → s₁.heap.objs.size ≤ C →
    wpAny (model prg w) A (eval elt (compEnvC scope cl C env)) (fun y s₄ => Wt (g a) y ∧ Keeps ⟨H, gs, dr, tk, os⟩ s₄) E' ⟨H, gs, dr, tk, os⟩) : Elt w A env scope cl x [] elt s₁ as V (fun _ => true) Wt g where
  tests := fun _ _ _ _ _ _ _ _ _ _ _ _ _ _ _ _ => tests_nil ⟨rfl, Keeps.rfl'⟩
  elt := fun C a v H gs dr tk os m₃ E' ha hv _ hn hm hk hC => h C a v H gs dr tk os m₃ E' ha hv hn hm hk hC
theorem filter_true (l : List α) : l.filter (fun _ => true) = l := List.filter_eq_self.mpr fun _ _ => rfl
theorem natV_inj (a a' : Nat) (v : Value) (h : NatV a v) (h' : NatV a' v) : a = a' := by
  obtain ⟨t, rfl⟩ := h; obtain ⟨t', e⟩ := h'; injection e with e _; omega
theorem signV_inj (a a' : Nat) (v : Value) (h : SignV a v) (h' : SignV a' v) : a = a' := by
  obtain ⟨t, rfl⟩ := h; obtain ⟨t', e⟩ := h'; injection e with e _; injection e with e; simpa using e

/- names at any frame -/
theorem nm_local {x : Str} {pos : Pos} {v : Value} {m : Str → Option Value} {Q : Value → Shared → Prop} {M : Model} (hn : s.heap.Ns env.locals m) (hv : m x = some v) (h : Q v s)
    (hk : env.scope.kind = .function) (hl : env.kindOf x = some .local) (hd : (x == ("__debug__" : Str)) = false) : wpAny M A (eval (.Name x pos) env) Q E s :=
  wpAny_Name (wpAny_loadName_local hk hl hn hv h) hd
theorem nm_localF {x : Str} {pos : Pos} {v : Value} {h₀ : Heap} {m : Str → Option Value} {Q : Value → Shared → Prop} {M : Model} (F : Fr h₀ env.locals s.heap m) (hv : m x = some v) (h : Q v s)
    (hk : env.scope.kind = .function) (hl : env.kindOf x = some .local) (hd : (x == ("__debug__" : Str)) = false) : wpAny M A (eval (.Name x pos) env) Q E s :=
  wpAny_Name (wpAny_loadName_local hk hl F.ns hv h) hd
theorem nm_cell {x : Str} {pos : Pos} {c : Addr} {v : Value} {Q : Value → Shared → Prop} {M : Model} (hv : s.heap.IsCell c (some v)) (hc : env.cells.lookup x = some c) (h : Q v s)
    (hk : env.scope.kind = .function) (hl : env.kindOf x = some .cell) (hd : (x == ("__debug__" : Str)) = false) : wpAny M A (eval (.Name x pos) env) Q E s :=
  wpAny_Name (wpAny_loadName_cell hk hl hc hv h) hd
theorem nm_K {K : Frag} {mg mb : Str → Option Value} {p : Program} {loose : List Str} {x : Str} {pos : Pos} {v : Value} {Q : Value → Shared → Prop} {M : Model} (X : K.In s.heap) (T : TopRead p loose mg mb s.heap) (e : nsIn K mainGlobals x = some (some v)) (h : Q v s)
    (hg : env.globals = mainGlobals) (hk : env.scope.kind = .function) (hl : env.kindOf x = some .globalImplicit) (hd : (x == ("__debug__" : Str)) = false) : wpAny M A (eval (.Name x pos) env) Q E s :=
  PySem.Calls.Name_function_global hk hl (PySem.Calls.loadGlobal_global (env := env) (show s.heap.Ns env.globals mg from hg ▸ T.g) (mg_of X T.g e) h) hd
theorem nm_B {K : Frag} {mg mb : Str → Option Value} {p : Program} {loose : List Str} {x : Str} {pos : Pos} {v : Value} {Q : Value → Shared → Prop} {M : Model} (X : K.In s.heap) (T : TopRead p loose mg mb s.heap) (e : nsIn K mainGlobals x = some none) (hv : bootBuiltins x = some v) (h : Q v s)
    (hg : env.globals = mainGlobals) (hbi : env.builtins = builtinsNs) (hk : env.scope.kind = .function) (hl : env.kindOf x = some .globalImplicit) (hd : (x == ("__debug__" : Str)) = false) (hn : x ≠ "__name__") : wpAny M A (eval (.Name x pos) env) Q E s :=
  PySem.Calls.Name_function_global hk hl (PySem.Calls.loadGlobal_builtin (env := env) (show s.heap.Ns env.globals mg from hg ▸ T.g) (mg_none_of X T.g e) (show s.heap.Ns env.builtins mb from hbi ▸ T.b) ((T.builtins x hn).trans hv) h) hd
end
end Mine
namespace Mine
theorem deeper_depth (A : Around) (e : Env) : (A.deeper e).depth = A.depth + 1 := rfl
abbrev lobj (d : Option Addr) (vs : List Value) (n : Nat) (sl : Array (Option Value)) : Obj := { cls := .type "list", dict := d, data := .seq vs.toArray n, slots := sl }
theorem news_list {h₀ hp H : Heap} {L D : Addr} {m : Str → Option Value} {news : List (Addr × Obj)} {vs : List Value} (F : Fr h₀ L hp m) (N : News h₀ L hp news) (hD : hp.get? D = none) (hl : H.IsList D vs.toArray)
    (hk : ∀ b o, hp.get? b = some o → H.get? b = some o) : ∃ d n sl, News h₀ L H ((D, lobj d vs n sl) :: news) := by
  obtain ⟨⟨c, d, dt, sl⟩, ho, hc, n, hd⟩ := hl
  simp only at hc hd
  subst hc hd
  refine ⟨d, n, sl, fun p hp' => ?_⟩
  rcases List.mem_cons.mp hp' with rfl | hp'
  · refine ⟨ho, fun e => ?_, ?_⟩
    · obtain ⟨oL, _, _, hL, _⟩ := F.ns
      rw [show D = L from e, hL] at hD; cases hD
    · cases e : h₀.get? D with
      | none => rfl
      | some o => rw [F.keep _ _ e] at hD; cases hD
  · exact ⟨hk _ _ (N p hp').1, (N p hp').2⟩
section
variable {w : World} {A : Around} {E : Value → Shared → Prop} {hp : Heap} {gs : Array GenState} {dr : Drawn} {tk : Nat} {os : OsState} {h₀ : Heap} {L : Addr} {m : Str → Option Value} {news : List (Addr × Obj)}
theorem add_nl {l b : Addr} {vs ws : List Value} {ns ms : List Nat} {Q : Value → Shared → Prop} (F : Fr h₀ L hp m) (N : News h₀ L hp news) (hl : hp.IsList l vs.toArray) (hb : hp.IsList b ws.toArray)
    (hi : IntsAre vs (natv ns)) (hj : IntsAre ws (natv ms)) (hsz : ns.length + ms.length ≤ 1000000)
    (h : ∀ D H tk, Fr h₀ L H m → News h₀ L H ((D, lobj none (vs ++ ws) 0 #[]) :: news) → IntsAre (vs ++ ws) (natv (ns ++ ms)) → Q (.ref D) ⟨H, gs, dr, tk, os⟩) :
    wpAny (model prg w) A (binaryOp .Add (.ref l) (.ref b)) Q E ⟨hp, gs, dr, tk, os⟩ :=
  add_lists_ints F N hl hb hi hj (fun H F' N' hI => h _ H _ F' N' (by rw [natv_append]; exact hI)) (by rw [natv_length, natv_length, show sizeLine = 2 ^ 24 from rfl]; omega)

theorem copy_nl {l : Addr} {vs : List Value} {Q : Value → Shared → Prop} (F : Fr h₀ L hp m) (N : News h₀ L hp news) (hl : hp.IsList l vs.toArray) (hsz : vs.length ≤ 1000000)
    (h : ∀ D H tk c, Fr h₀ L H m → News h₀ L H ((D, lobj none vs c #[]) :: news) → Q (.ref D) ⟨H, gs, dr, tk, os⟩) :
    wpAny (model prg w) A (call (.type "list") [.ref l]) Q E ⟨hp, gs, dr, tk, os⟩ :=
  list_copyK F N hl (fun D c H F' N' _ => h D H _ c F' N') (by rw [List.size_toArray, show sizeLine = 2 ^ 24 from rfl]; omega)
section
variable {a b : Nat} {t u : Tok} {Q : Value → Shared → Prop} {s : Shared}
theorem beq_cast : ((a : Int) == (b : Int)) = (a == b) := by rw [Bool.eq_iff_iff]; simp; omega
theorem eq_n (h : Q (.bool (a == b)) s) : wpAny (model prg w) A (compareOp .Eq (.int (a : Int) t) (.int (b : Int) u)) Q E s := PyProof.Rows.eq_int (by rw [beq_cast]; exact h)
theorem ne_n (h : Q (.bool (a != b)) s) : wpAny (model prg w) A (compareOp .NotEq (.int (a : Int) t) (.int (b : Int) u)) Q E s := PyProof.Rows.ne_int (by unfold bne; rw [beq_cast]; exact h)
theorem lt_n (h : Q (.bool (decide (a < b))) s) : wpAny (model prg w) A (compareOp .Lt (.int (a : Int) t) (.int (b : Int) u)) Q E s :=
  PyProof.Rows.lt_int (by have : decide ((a : Int) < (b : Int)) = decide (a < b) := by (rw [Bool.eq_iff_iff]; simp)
                          rw [this]; exact h)
theorem gt_n (h : Q (.bool (decide (b < a))) s) : wpAny (model prg w) A (compareOp .Gt (.int (a : Int) t) (.int (b : Int) u)) Q E s :=
  PyProof.Rows.gt_int (by have : decide ((b : Int) < (a : Int)) = decide (b < a) := by (rw [Bool.eq_iff_iff]; simp)
                          rw [this]; exact h)
theorem le_n (h : Q (.bool (decide (a ≤ b))) s) : wpAny (model prg w) A (compareOp .LtE (.int (a : Int) t) (.int (b : Int) u)) Q E s :=
  PyProof.Rows.le_int (by have : decide ((a : Int) ≤ (b : Int)) = decide (a ≤ b) := by (rw [Bool.eq_iff_iff]; simp)
                          rw [this]; exact h)
theorem ge_n (h : Q (.bool (decide (b ≤ a))) s) : wpAny (model prg w) A (compareOp .GtE (.int (a : Int) t) (.int (b : Int) u)) Q E s :=
  PyProof.Rows.ge_int (by have : decide ((b : Int) ≤ (a : Int)) = decide (b ≤ a) := by (rw [Bool.eq_iff_iff]; simp)
                          rw [this]; exact h)
end
end
end Mine
namespace Mine
/-- the entry of a def, over a base of one's own: what the call must leave as it is -/
theorem enterG {w : World} {A : Around} {s : Shared} {K : Frag} {Q : Value → Shared → Prop} {E : Value → Shared → Prop}
    {name qual : Str} {params : Arguments} {body : List Stmt} {scope : Scope} {dV kV doc pm cdv ct oc : Value} {an od : Option Addr} {osl : Array (Option Value)} {f : Addr} {vs : List Value} {binds : List (Str × Value)}
    (g : Heap) (hg : ∀ b o, g.get? b = some o → s.heap.get? b = some o) (hgs : g.objs.size ≤ s.heap.objs.size) (X : K.In s.heap) (T : s.heap.NoLimit) (hroom : A.depth < recursionLimit)
    (ho : K.lookup f = some ⟨oc, od, .func (fnOf name qual params body scope dV kV doc pm an cdv ct), osl⟩) (hcd : codeIn K cdv qual = true)
    (hbind : BindsTo s (fnOf name qual params body scope dV kV doc pm an cdv ct) ⟨vs, []⟩ binds) (hloc : ∀ y ∈ binds, scope.names.lookup y.1 = some .local)
    (h : ∀ L h₁, L = s.heap.objs.size → Fr g L h₁ (fun y => binds.reverse.lookup y) → News g L h₁ [] → (∀ b o, s.heap.get? b = some o → h₁.get? b = some o) →
      wpAny (model prg w) (A.deeper (envOf qual scope L f cdv)) (execs body (envOf qual scope L f cdv))
        (fun fl s' => Q (match fl with | .ret v => v | _ => .none) s') (fun _ _ => False) { s with heap := h₁, toks := s.toks + binds.length })
    (hco : scope.isCoroutine = false) (hgen : scope.isGenerator = false) (hk : scope.kind = .function) (hcell : ∀ x ∈ scope.names, x.2 ≠ .cell) :
    wpAny (model prg w) A (call (.ref f) vs) Q E s := by
  refine wpAny_call ?_
  refine codeAny_call_def (fd := fnOf name qual params body scope dV kV doc pm an cdv ct) (body := body) (binds := binds) hroom (X _ _ ho) rfl T (codeRec_of X hcd) rfl hbind hcell hloc (fun h₁ hns hk₁ => ?_) hco hgen hk
  exact wpAny_mono (h _ h₁ rfl ⟨hns, fun b o e => hk₁ b o (hg b o e), hgs⟩ News.nil hk₁) (fun _ _ x => x) (fun _ _ x => x.elim)
theorem enterC {w : World} {A : Around} {s : Shared} {K : Frag} {Q : Value → Shared → Prop} {E : Value → Shared → Prop}
    {name qual : Str} {params : Arguments} {body : List Stmt} {scope : Scope} {dV kV doc pm cdv ct oc : Value} {an od : Option Addr} {osl : Array (Option Value)} {f : Addr} {vs : List Value} {binds : List (Str × Value)}
    (g : Heap) (hg : ∀ b o, g.get? b = some o → s.heap.get? b = some o) (hgs : g.objs.size ≤ s.heap.objs.size) (X : K.In s.heap) (T : s.heap.NoLimit) (hroom : A.depth < recursionLimit)
    (ho : K.lookup f = some ⟨oc, od, .func (fnOf name qual params body scope dV kV doc pm an cdv ct), osl⟩) (hcd : codeIn K cdv qual = true)
    (hbind : BindsTo s (fnOf name qual params body scope dV kV doc pm an cdv ct) ⟨vs, []⟩ binds) (hkind : (binds.all fun y => scope.names.lookup y.1 == some .local || scope.names.lookup y.1 == some .cell) = true)
    (hnd : ((cellsFrom 0 scope.names []).map (·.1)).Nodup)
    (h : ∀ L h₁ tk cells, L = s.heap.objs.size → Fr g L h₁ (bindL (envOfC qual scope L f cdv).kindOf binds fun _ => none) → News g L h₁ cells →
      CellsAre (bindC (envOfC qual scope L f cdv).kindOf binds fun _ => none) (cellsFrom (L + 1) scope.names []) cells → (∀ b o, s.heap.get? b = some o → h₁.get? b = some o) →
      wpAny (model prg w) (A.deeper (envOfC qual scope L f cdv)) (execs body (envOfC qual scope L f cdv))
        (fun fl s' => Q (match fl with | .ret v => v | _ => .none) s') (fun _ _ => False) { s with heap := h₁, toks := tk })
    (hco : scope.isCoroutine = false) (hgen : scope.isGenerator = false) (hk : scope.kind = .function) :
    wpAny (model prg w) A (call (.ref f) vs) Q E s := by
  refine wpAny_call ?_
  refine codeAny_call_function hroom (X _ _ ho) rfl hco hgen rfl (codeRec_of X hcd) (hbind _ _ _ _ ?_)
  refine wpAny_newFunctionEnv_cells hk (kindsX hkind _) fun env' he s' x => ?_
  subst he
  refine ⟨T.keeps x.toInCall.keep, codeAny_func ?_⟩
  obtain ⟨h₁, tk, rfl, _⟩ := x.done
  have hk₁ := x.toInCall.keep
  obtain ⟨cells, NC, Y⟩ := Cl.news (h₀ := s.heap) (Nat.le_refl _) fun n c hm => ⟨x.cell n c (lookup_of_mem_nodup (cellsFrom_names scope.names 0 (s.heap.objs.size + 1) [] [] rfl ▸ hnd) hm), x.above n c hm⟩
  have NG : News g s.heap.objs.size h₁ cells := fun p hp => ⟨(NC p hp).1, (NC p hp).2.1, by
    cases q : g.get? p.1 with
    | none => rfl
    | some o => have := hg _ _ q; rw [(NC p hp).2.2] at this; cases this⟩
  exact wpAny_mono (h _ h₁ tk cells rfl ⟨x.toInCall.ns, fun b o e => hk₁ b o (hg b o e), hgs⟩ NG Y hk₁) (fun _ _ x => x) (fun _ _ x => x.elim)

section
variable {w : World} {A : Around} {E : Value → Shared → Prop} {hp : Heap} {gs : Array GenState} {dr : Drawn} {tk : Nat} {os : OsState} {h₀ : Heap} {L : Addr} {m : Str → Option Value} {news : List (Addr × Obj)} {env : Env}
theorem store_g {x : Str} {v : Value} {Q : Unit → Shared → Prop} (hl : env.kindOf x = some .local) (hk : env.scope.kind = .function) (hL : env.locals = L) (F : Fr h₀ L hp m) (N : News h₀ L hp news)
    (h : ∀ h' tk, Fr h₀ L h' (fun y => if y = x then some v else m y) → News h₀ L h' news → Q () ⟨h', gs, dr, tk, os⟩) : wpAny (model prg w) A (storeName env x v) Q E ⟨hp, gs, dr, tk, os⟩ := by
  subst hL
  exact wpAny_storeName_local hl F.ns (fun h' hn hs => h h' _ (F.set hn hs) (N.set hs)) (by rw [hk]; rfl)
theorem store_c {x : Str} {v : Value} {c : Addr} {o : Obj} {v₀ : Option Value} {Q : Unit → Shared → Prop} (hl : env.kindOf x = some .cell) (hk : env.scope.kind = .function) (hc : env.cells.lookup x = some c) (F : Fr h₀ L hp m) (N : News h₀ L hp ((c, o) :: news)) (hd : o.data = .cell v₀)
    (hne : ∀ p ∈ news, p.1 ≠ c) (h : ∀ h' o', Fr h₀ L h' m → News h₀ L h' ((c, o') :: news) → o'.data = .cell (some v) → Q () ⟨h', gs, dr, tk, os⟩) : wpAny (model prg w) A (storeName env x v) Q E ⟨hp, gs, dr, tk, os⟩ := by
  have hmem := N (c, o) (.head _)
  refine wpAny_storeName_cell hk hl hc ⟨o, hmem.1, hd⟩ fun h' hv hs => ?_
  obtain ⟨o', ho', hd'⟩ := hv
  refine h h' o' ⟨F.ns.sameBut hs (Ne.symm hmem.2.1), fun b ob e => (hs.2 b (fun q => ?_)).trans (F.keep b ob e), F.above⟩ (News.setAt (own := []) N (fun p hp => nomatch hp) hne hs ho') hd'
  rw [q, hmem.2.2] at e; cases e
theorem ne_of_data {c : Addr} {o : Obj} {v₀ : Option Value} (N : News h₀ L hp ((c, o) :: news)) (hd : o.data = .cell v₀) (hn : ∀ p ∈ news, ∀ v, p.2.data ≠ .cell v) : ∀ p ∈ news, p.1 ≠ c := fun p hp e => by
  have h1 := (N p (.tail _ hp)).1
  have h2 := (N (c, o) (.head _)).1
  rw [e] at h1
  have : p.2 = o := Option.some.inj (h1.symm.trans h2)
  exact hn p hp v₀ (this ▸ hd)
theorem News.sub {news' : List (Addr × Obj)} (N : News h₀ L hp news') (hs : ∀ p ∈ news, p ∈ news') : News h₀ L hp news := fun p hp => N p (hs p hp)
theorem cellAt {c : Addr} {o : Obj} {v : Value} (N : News h₀ L hp news) (hm : (c, o) ∈ news) (hd : o.data = .cell (some v)) : hp.IsCell c (some v) := ⟨o, N.get hm, hd⟩
end
end Mine
namespace Mine
/- texts as lists of codes -/
abbrev tx (l : List Nat) : Str := ⟨⟨l⟩⟩
theorem tx_append (a b : List Nat) : tx a ++ tx b = tx (a ++ b) := by
  show Str.append _ _ = _
  unfold Str.append; simp
theorem strs_of_signs : ∀ {cs : List Nat} {vs : List Value}, Paired SignV cs vs → StrsAre vs (cs.map fun c => tx [c])
  | _, _, .nil => .nil
  | _, _, .cons ⟨t, e⟩ r => by subst e; exact .cons _ t (strs_of_signs r)
theorem join_signs : ∀ cs : List Nat, Str.join (Str.ofString "") (cs.map fun c => tx [c]) = tx cs
  | [] => rfl
  | [c] => rfl
  | c :: c' :: r => by
    have ih := join_signs (c' :: r)
    rw [List.map_cons, List.map_cons] at *
    show tx [c] ++ Str.ofString "" ++ Str.join _ _ = _
    rw [ih]
    have e : Str.ofString "" = tx [] := by decide +kernel
    rw [e, tx_append, tx_append]; rfl
section
variable {w : World} {A : Around} {E : Value → Shared → Prop} {hp : Heap} {gs : Array GenState} {dr : Drawn} {tk : Nat} {os : OsState} {h₀ : Heap} {L : Addr} {m : Str → Option Value} {news : List (Addr × Obj)} {env : Env}
theorem join_n {D : Addr} {vs : List Value} {cs : List Nat} {x : Str} {t : Tok} {Q : Value → Shared → Prop} (hx : x = Str.ofString "") (hl : hp.IsList D vs.toArray) (hv : Paired SignV cs vs) (hlen : cs.length ≤ 100000)
    (h : ∀ t tk, Q (.str (tx cs) t) ⟨hp, gs, dr, tk, os⟩) : wpAny (model prg w) A (call (.builtin "str.join") [.str x t, .ref D]) Q E ⟨hp, gs, dr, tk, os⟩ := by
  subst hx
  refine join_list hl (by simpa using strs_of_signs hv) ?_ fun t' k => ?_
  · have e1 : (List.map (fun x => x.length) (cs.map fun c => tx [c])).sum = cs.length := by
      clear hv hlen h
      induction cs with
      | nil => rfl
      | cons c r ih => rw [List.map_cons, List.map_cons, List.sum_cons, ih]; show 1 + _ = _; simp; omega
    have e2 : (Str.ofString "").length = 0 := by decide +kernel
    rw [e1, e2]; omega
  · have e : Txt.join (Str.ofString "") (cs.map fun c => tx [c]) = tx cs := (beq_iff_eq.mp (join_plain_closes _ _)).trans (join_signs cs)
    rw [e]; exact h _ _
theorem add_s {x y : Str} {a b : List Nat} {t u : Tok} {Q : Value → Shared → Prop} (hx : x = tx a) (hy : y = tx b) (hsz : a.length + b.length ≤ 100000) (h : ∀ t tk, Q (.str (tx (a ++ b)) t) ⟨hp, gs, dr, tk, os⟩) :
    wpAny (model prg w) A (binaryOp .Add (.str x t) (.str y u)) Q E ⟨hp, gs, dr, tk, os⟩ := by
  subst hx hy
  exact PyProof.Rows.add_str (fun t' tk' => by rw [tx_append]; exact h _ _) (by show a.length + b.length ≤ 2 ^ 24; omega)

theorem const_s {x : Str} {env : Env} {k : Nat} {pos : Pos} {Q : Value → Shared → Prop} (h : ∀ u tk, Q (.str x u) ⟨hp, gs, dr, tk, os⟩) : wpAny (model prg w) A (eval (.Constant (.str x) k pos) env) Q E ⟨hp, gs, dr, tk, os⟩ :=
  PySem.Calls.Constant_str (h _ _)
theorem item_s {value slice : PySem.Expr} {x : Str} {l : List Nat} {k : Nat} {t u : Tok} {Q : Value → Shared → Prop} (hx : x = tx l) (hk : k < l.length) (hk2 : l.length < 2 ^ 60) (h : ∀ t tk, Q (.str ⟨#[l.getD k 0]⟩ t) ⟨hp, gs, dr, tk, os⟩)
    (hs : subscripted slice false (.str x t) (.int (k : Int) u) = operate [.str x t, .int (k : Int) u] (getItem (.str x t) (.int (k : Int) u))) :
    wpAny (model prg w) A (subscriptTail value slice (.str x t) (.int (k : Int) u)) Q E ⟨hp, gs, dr, tk, os⟩ := by
  refine tail_any (typeIs_str _ _ _) F.slot_str_getitem.lookup (P.getItem_str (c := l.getD k 0) ?_ ?_ (h _ _)) hs
  · simp only [Bool.or_eq_false_iff, decide_eq_false_iff_not]; omega
  · subst hx
    have e : seqIndex? (k : Int) (tx l).length = some k := by
      have e1 : (tx l).length = l.length := rfl
      have e2 : (if (k : Int) < 0 then (k : Int) + (l.length : Int) else (k : Int)) = (k : Int) := if_neg (by omega)
      simp only [seqIndex?, e1, e2]
      rw [if_pos (by simp; omega), Int.toNat_natCast]
    rw [e]
    show (Array.mk l)[k]? = _
    simp [List.getD_eq_getElem?_getD, hk]
end
end Mine
namespace Mine
theorem seqIdx {k n : Nat} (hk : k < n) : seqIndex? (k : Int) n = some k := by
  have e2 : (if (k : Int) < 0 then (k : Int) + (n : Int) else (k : Int)) = (k : Int) := if_neg (by omega)
  simp only [seqIndex?, e2]
  rw [if_pos (by simp; omega), Int.toNat_natCast]
section
variable {w : World} {A : Around} {E : Value → Shared → Prop} {hp : Heap} {gs : Array GenState} {dr : Drawn} {tk : Nat} {os : OsState} {h₀ : Heap} {L : Addr} {m : Str → Option Value} {news : List (Addr × Obj)} {env : Env}
theorem item_t {value slice : PySem.Expr} {l : Addr} {vs : List Value} {ns : List Nat} {k : Nat} {u : Tok} {Q : Value → Shared → Prop} (hl : IsTup hp l vs.toArray) (hI : IntsAre vs (natv ns)) (hk : k < ns.length) (hk2 : k < 2 ^ 60)
    (h : ∀ u, Q (.int ((ns.getD k 0 : Nat) : Int) u) ⟨hp, gs, dr, tk, os⟩)
    (hs : subscripted slice false (.ref l) (.int (k : Int) u) = operate [.ref l, .int (k : Int) u] (getItem (.ref l) (.int (k : Int) u))) :
    wpAny (model prg w) A (subscriptTail value slice (.ref l) (.int (k : Int) u)) Q E ⟨hp, gs, dr, tk, os⟩ := by
  obtain ⟨t, ht⟩ := ints_get hI hk
  have hlen : vs.length = ns.length := by have := hI.length; rw [natv_length] at this; omega
  exact item_tupleT hl (by omega) (by omega) (seqIdx (by omega)) ht (h t) hs
theorem K_tup {K : Frag} {t : Addr} {vs : List Value} {n : Nat} {d : Option Addr} {sl : Array (Option Value)} (X : K.In hp) (h : K.lookup t = some { cls := .type "tuple", dict := d, data := .seq vs.toArray n, slots := sl }) : IsTup hp t vs.toArray := ⟨_, X _ _ h, rfl, _, rfl⟩

theorem len_nl {l : Addr} {vs : List Value} {ns : List Nat} {Q : Value → Shared → Prop} (hl : hp.IsList l vs.toArray) (hI : IntsAre vs (natv ns)) (hsz : ns.length ≤ 1000000) (h : ∀ u tk, Q (.int ((ns.length : Nat) : Int) u) ⟨hp, gs, dr, tk, os⟩) :
    wpAny (model prg w) A (call (.builtin "len") [.ref l]) Q E ⟨hp, gs, dr, tk, os⟩ := by
  have hlen : vs.length = ns.length := by have := hI.length; rw [natv_length] at this; omega
  have e : ((vs.toArray.size : Nat) : Int) = ((ns.length : Nat) : Int) := by rw [List.size_toArray, hlen]
  exact PyProof.Rows.len_list hl (by rw [e]; omega) (by rw [e]; exact h _ _)

theorem item_last {value slice : PySem.Expr} {l : Addr} {vs : List Value} {ns : List Nat} {u : Tok} {Q : Value → Shared → Prop} (hl : hp.IsList l vs.toArray) (hI : IntsAre vs (natv ns)) (h0 : 0 < ns.length)
    (h : ∀ u, Q (.int ((ns.getLastD 0 : Nat) : Int) u) ⟨hp, gs, dr, tk, os⟩)
    (hs : subscripted slice false (.ref l) (.int (-((1 : Nat) : Int)) u) = operate [.ref l, .int (-((1 : Nat) : Int)) u] (getItem (.ref l) (.int (-((1 : Nat) : Int)) u))) :
    wpAny (model prg w) A (subscriptTail value slice (.ref l) (.int (-((1 : Nat) : Int)) u)) Q E ⟨hp, gs, dr, tk, os⟩ := by
  have hlen : vs.length = ns.length := by have := hI.length; rw [natv_length] at this; omega
  obtain ⟨t, ht⟩ := ints_get hI (k := ns.length - 1) (by omega)
  have e1 : (-((1 : Nat) : Int) + ((vs.toArray.size : Nat) : Int)).toNat = ns.length - 1 := by rw [List.size_toArray, hlen]; omega
  have e2 : ns.getD (ns.length - 1) 0 = ns.getLastD 0 := by
    rw [List.getLastD_eq_getLast?, List.getLast?_eq_getElem?, List.getD_eq_getElem?_getD]
  rw [e2] at ht
  exact tail_any hl.typeIs slot_list_getitem.lookup (wpAny_getItem_list_neg hl (by decide) (by rw [List.size_toArray, hlen]; omega) (by decide) (by rw [e1]; simpa using ht) (h t)) hs

theorem rsmall {n : Nat} (h : n < 2 ^ 40) : Builtin.Range.small 0 (n : Int) 1 = true :=
  PySem.small_one (by decide) (by decide) (by omega) (by omega)
theorem rsize (n : Nat) : Builtin.Range.rangeSize 0 (n : Int) 1 = (n : Int) := by
  rw [PyProof.Rows.rangeSize_nat]; simp
end
end Mine
namespace Mine
local macro_rules | `(tactic| walk_at "eval Constant int") => `(tactic| (refine const_n ?_; intro _ _))
local macro_rules | `(tactic| walk_at "binaryOp BitAnd int int") => `(tactic| (refine and_n ?_; intro _ _))
local macro_rules | `(tactic| walk_at "binaryOp BitOr int int") => `(tactic| (refine or_n ?_; intro _ _))
local macro_rules | `(tactic| walk_at "binaryOp BitXor int int") => `(tactic| (refine xor_n ?_; intro _ _))
local macro_rules | `(tactic| walk_at "inplaceOp BitXor int int") => `(tactic| (refine ixor_n ?_; intro _ _))
local macro_rules | `(tactic| walk_at "binaryOp RShift int int") => `(tactic| (refine rsh_n ?_; intro _ _))
local macro_rules | `(tactic| walk_at "binaryOp Add int int") => `(tactic| (refine add_n ?_; intro _ _))
local macro_rules | `(tactic| walk_at "inplaceOp Add int int") => `(tactic| (refine iadd_n ?_; intro _ _))
local macro_rules | `(tactic| walk_at "binaryOp FloorDiv int int") => `(tactic| (refine div_n (by decide) (by decide) ?_; intro _ _))
local macro_rules | `(tactic| walk_at "binaryOp Mod int int") => `(tactic| (refine mod_n (by decide) ?_; intro _ _))
local macro_rules | `(tactic| walk_at "truthy int") => `(tactic| refine truthy_n ?_)
local macro_rules | `(tactic| walk_at "look") => `(tactic| ((try dsimp only); first | assumption | exact if_pos rfl | (refine Eq.trans (if_neg (by decide)) ?_; walk_at "look") | (refine Eq.trans (Upto.out (by assumption) (by decide)) ?_; walk_at "look") | rfl))
local macro_rules | `(tactic| walk_at "mem") => `(tactic| (intro p9 hp9; first | exact hp9 | (repeat' (first | exact hp9 | refine List.mem_cons_of_mem _ ?_))))
local macro_rules | `(tactic| walk_at "upto") => `(tactic| first | assumption | exact Upto.refl | (refine Upto.set (by first | decide | decide +kernel | simp) ?_; walk_at "upto") | (refine' Upto.trans ?hs ?h1 ?_; (case h1 => assumption); (case hs => first | decide | decide +kernel); walk_at "upto"))
local macro_rules | `(tactic| walk_at "memx") => `(tactic| first | exact List.Mem.head _ | (refine List.Mem.tail _ ?_; walk_at "memx") | (refine List.mem_append_left _ ?_; walk_at "memx") | (refine List.mem_append_right _ ?_; walk_at "memx"))
local macro_rules | `(tactic| walk_at "TurnEnd next") => `(tactic| (refine' TurnEnd.next ?F ?N ?n ?_ ?U; (case F => k_asm); (case N => k_asm); (case n => walk_at "mem"); (case U => walk_at "upto")))
local macro_rules | `(tactic| walk_at "loadName") => `(tactic| (k_here; k_dflt (refine' ldn ?k1 ?k2 ?_; (case k1 => k_asm); (case k2 => walk_at "look"); k_whole)))
local macro_rules | `(tactic| walk_at "topr") => `(tactic| first | assumption | exact TopRead.keeps (by assumption) (Fr.keep (by assumption)))
local macro_rules | `(tactic| walk_at "eval Name") => `(tactic| (k_here; k_dflt (first
  | (refine' nm_localF ?F ?v ?_ ?a ?b ?c; (case b => rfl); (case a => rfl); (case c => decide); (case F => k_asm); (case v => walk_at "look"); k_whole)
  | (refine' nm_local ?F ?v ?_ ?a ?b ?c; (case b => rfl); (case a => rfl); (case c => decide); (case F => k_asm); (case v => walk_at "look"); k_whole)
  | (refine' nm_cell ?F ?v ?_ ?a ?b ?c; (case b => rfl); (case a => rfl); (case c => decide); (case v => rfl); (case F => k_asm); k_whole)
  | (refine' nm_K ?X ?T ?e ?_ ?g ?a ?b ?c; (case b => rfl); (case a => rfl); (case g => rfl); (case c => decide); (case X => k_in); (case T => walk_at "topr"); (case e => k_is); k_whole)
  | (refine' nm_B ?X ?T ?e ?v ?_ ?g ?h ?a ?b ?c ?n; (case b => rfl); (case a => rfl); (case g => rfl); (case h => rfl); (case c => decide); (case n => decide); (case X => k_in); (case T => walk_at "topr"); (case e => k_is); (case v => first | boot_fast | boot_by_name); k_whole))))
local macro_rules | `(tactic| walk_at "isl") => `(tactic| first | assumption | exact News.isList (by k_asm) (by walk_at "memx") | exact Heap.IsList.at (by assumption) (fun o e => Fr.keep (by k_asm) _ o e))
local macro_rules | `(tactic| walk_at "ints") => `(tactic| first | assumption | exact .nil | exact IntsAre.cons _ _ (by walk_at "ints"))
local macro_rules | `(tactic| walk_at "compareOp Eq int int") => `(tactic| refine eq_n ?_)
local macro_rules | `(tactic| walk_at "compareOp NotEq int int") => `(tactic| refine ne_n ?_)
local macro_rules | `(tactic| walk_at "compareOp Lt int int") => `(tactic| refine lt_n ?_)
local macro_rules | `(tactic| walk_at "compareOp Gt int int") => `(tactic| refine gt_n ?_)
local macro_rules | `(tactic| walk_at "compareOp LtE int int") => `(tactic| refine le_n ?_)
local macro_rules | `(tactic| walk_at "compareOp GtE int int") => `(tactic| refine ge_n ?_)
local macro_rules | `(tactic| walk_at "binaryOp Mult int int") => `(tactic| ((first | refine mul_n ?_ (IntMulOk.of_left (by decide +kernel)) | refine mul_n ?_ (IntMulOk.of_right (by decide +kernel))); intro _ _))
local macro_rules | `(tactic| walk_at "binaryOp Sub int int") => `(tactic| (refine sub_n (by omega) ?_; intro _ _))
local macro_rules | `(tactic| walk_at "storeName") => `(tactic| (k_dflt (refine' store_g ?a ?b ?c ?F ?N ?_; (case a => rfl); (case b => rfl); (case F => k_asm); (case c => rfl); (case N => k_asm); k_whole); intro h' tk' F' N'; (try k_sweep)))
local macro_rules | `(tactic| walk_at "eval Constant str") => `(tactic| (refine const_s ?_; intro _ _))
local macro_rules | `(tactic| walk_at "call builtin:len") => `(tactic| (k_dflt (refine' len_nl ?hl ?hI ?sz ?_; (case hl => walk_at "isl"); (case hI => walk_at "ints"); (case sz => (try simp only [List.length_append, List.length_map, List.length_cons, List.length_nil, List.length_range]); omega); k_whole); intro _ _))
local macro_rules | `(tactic| walk_at "inplaceOp Sub int int") => `(tactic| (refine isub_n (by omega) ?_; intro _ _))
local macro_rules | `(tactic| k_in) => `(tactic| first | with_reducible assumption | exact Frag.In.keeps (by with_reducible assumption) (Fr.keep (by with_reducible assumption)))
def gens5 : List Nat := [996825010, 642813549, 513874426, 1027748829, 705979059]
def pmIn (top c i : Nat) : Nat := c ^^^ (if (top / 2 ^ i) &&& 1 ≠ 0 then gens5.getD i 0 else 0)
def pmStep (c v : Nat) : Nat := (List.range 5).foldl (pmIn (c / 2 ^ 25)) (((c &&& 33554431) * 2 ^ 5) ^^^ v)
def pm (vs : List Nat) : Nat := vs.foldl pmStep 1
set_option maxRecDepth 100000 in
set_option maxHeartbeats 8000000 in
theorem polymod_spec (w : World) (mg mb : Str → Option Value) (A : Around) (s : Shared) (l : Addr) (vs : List Value) (ns : List Nat)
   (E : Value → Shared → Prop) (X : (hd.heap_39 w.params).In s.heap) (T : TopRead hd.view_39 loo mg mb s.heap) (hA : A.handled = none) (hd : A.depth + 1 < recursionLimit)
   (hl : s.heap.IsList l vs.toArray) (hI : IntsAre vs (natv ns)) :
   wpAny (model PySem.Challenge.rw_fw0006_01.row.prog w) A (call (.ref 21) [.ref l]) (fun v s' => (∃ t, v = .int (pm ns) t) ∧ Keeps s s') E s := by
  revert X
  k_fill
  intro X
  refine' enter (binds := [("values", .ref l)]) X T.nolimit ?a ?b ?c ?d ?e ?h ?i ?j ?k ?l
  (case a => omega); (case b => k_is); (case c => k_is); (case d => exact BindsTo.of_eq rfl); (case e => exact locs rfl); (case i => rfl); (case j => rfl); (case k => rfl); (case l => decide)
  intro L h₁ hL F N
  try dsimp only
  try k_fold
  (repeat' (first | ((with_reducible show Frag.In _ _ ∧ _); walk1) | ((fail_if_success (with_reducible show _ ∧ _)); (fail_if_success (with_reducible show wpAny _ _ (exec (Stmt.For _ _ _ _ _) _) _ _ _)); first | (k_unfold; (try dsimp only)) | walk1 | (dsimp only; walk1)) | fail "no step"))
  rename Fr _ _ _ _ => F1
  rename News _ _ _ _ => N1
  refine For_invV s.heap (by rfl) (by rfl) ?_ (by intro _; rfl)
  refine ld F1 (by rfl) ?_
  refine for_list (σ := Nat) ["chk", "top", "i"] (fun c m => ∃ t, m "chk" = some (.int (c : Int) t)) (fun c k => pmStep c k.toNat) 1 hA hl hI F1 N1 ⟨_, rfl⟩ ?_ ?_
  · rintro k t c m1 h5 tk5 own hk hoff ⟨tc, hc⟩ hU F2 N2
    obtain ⟨k', hk', rfl⟩ := List.mem_map.mp hk
    try dsimp only
    try k_fold
    (repeat' (first | ((with_reducible show Frag.In _ _ ∧ _); walk1) | ((fail_if_success (with_reducible show _ ∧ _)); (fail_if_success (with_reducible show wpAny _ _ (exec (Stmt.For _ _ _ _ _) _) _ _ _)); (fail_if_success (with_reducible show wpAny _ _ (binaryOp Operator.LShift _ _) _ _ _)); first | (k_unfold; (try dsimp only)) | walk1 | (dsimp only; walk1)) | fail "no step"))
    refine lsh_n (Nat.lt_of_le_of_lt Nat.and_le_right (by decide)) (by decide) ?_
    intro _ _
    (repeat' (first | ((with_reducible show Frag.In _ _ ∧ _); walk1) | ((fail_if_success (with_reducible show _ ∧ _)); (fail_if_success (with_reducible show wpAny _ _ (exec (Stmt.For _ _ _ _ _) _) _ _ _)); first | (k_unfold; (try dsimp only)) | walk1 | (dsimp only; walk1)) | fail "no step"))
    refine For_invV s.heap (by rfl) (by rfl) ?_ (by intro _; rfl)
    (repeat' (first | ((with_reducible show Frag.In _ _ ∧ _); walk1) | ((fail_if_success (with_reducible show _ ∧ _)); first | (k_unfold; (try dsimp only)) | walk1 | (dsimp only; walk1)) | fail "no step"))
    try dsimp only
    rename IsRange _ _ _ _ _ _ _ _ => hr
    rename Fr _ _ _ _ => F3
    rename News _ _ _ _ => N3
    refine for_range (σ := Nat) (n := 5) ["chk"] (fun c m => ∃ t, m "chk" = some (.int (c : Int) t)) (fun (c1 : Nat) (k : Int) => pmIn (c / 2 ^ 25) c1 k.toNat) _ hA hr (by decide) (by decide) F3 N3 ⟨_, by walk_at "look"⟩ ?_ ?_
    · rintro k t c1 m2 h6 tk6 own1 hk1 hoff1 ⟨tc1, hc1⟩ hU1 F4 N4
      rw [rangeKs_nat] at hk1
      obtain ⟨k1, hk1', rfl⟩ := List.mem_map.mp hk1
      have hk5 : k1 < 5 := List.mem_range.mp hk1'
      try dsimp only
      (repeat' (first | ((with_reducible show Frag.In _ _ ∧ _); walk1) | ((fail_if_success (with_reducible show _ ∧ _)); (fail_if_success (with_reducible show wpAny _ _ (subscriptTail _ _ _ _) _ _ _)); first | (k_unfold; (try dsimp only)) | walk1 | (dsimp only; walk1)) | fail "no step"))
      · rename (_ : Bool) = _ => hb
        refine item_n (ns := gens5) (News.isList (by k_asm) (by walk_at "memx")) (.cons _ _ (.cons _ _ (.cons _ _ (.cons _ _ (.cons _ _ .nil))))) (by simpa [gens5] using hk5) (by omega) ?_ (by with_unfolding_all rfl)
        intro _
        (repeat' (first | ((with_reducible show Frag.In _ _ ∧ _); walk1) | ((fail_if_success (with_reducible show _ ∧ _)); first | (k_unfold; (try dsimp only)) | walk1 | (dsimp only; walk1)) | fail "no step"))
        walk_at "TurnEnd next"
        refine' ⟨_, Eq.trans (b := some (Value.int _ _)) (by walk_at "look") ?_⟩; rotate_left
        unfold pmIn
        rw [if_pos (by simpa using hb)]; rfl
      · rename (_ : Bool) = _ => hb
        walk_at "TurnEnd next"
        refine' ⟨_, Eq.trans (b := some (Value.int _ _)) (by walk_at "look") ?_⟩; rotate_left
        unfold pmIn
        rw [if_neg (by simpa using hb)]
    · rintro m2 h6 tk6 ⟨tc1, hc1⟩ hU1 F4 N4
      try dsimp only
      (repeat' (first | ((with_reducible show Frag.In _ _ ∧ _); walk1) | ((fail_if_success (with_reducible show _ ∧ _)); first | (k_unfold; (try dsimp only)) | walk1 | (dsimp only; walk1)) | fail "no step"))
      refine' TurnEnd.next ?F ?N ?n ?_ ?U
      case F => k_asm
      case N => k_asm
      case n => walk_at "mem"
      case U => walk_at "upto"
      refine ⟨tc1, hc1.trans ?_⟩
      rw [rangeKs_nat, fold_natv]; rfl
  · rintro m1 h5 tk5 ⟨tc, hc⟩ hU F2 N2
    try dsimp only
    try k_fold
    (repeat' (first | ((with_reducible show Frag.In _ _ ∧ _); walk1) | ((fail_if_success (with_reducible show _ ∧ _)); first | (k_unfold; (try dsimp only)) | walk1 | (dsimp only; walk1)) | fail "no step"))
    exact ⟨⟨_, by (rw [fold_natv]; rfl)⟩, _, _, rfl, F2.keep⟩
end Mine
namespace Mine
local macro_rules | `(tactic| walk_at "eval Constant int") => `(tactic| (refine const_n ?_; intro _ _))
local macro_rules | `(tactic| walk_at "binaryOp BitAnd int int") => `(tactic| (refine and_n ?_; intro _ _))
local macro_rules | `(tactic| walk_at "binaryOp BitOr int int") => `(tactic| (refine or_n ?_; intro _ _))
local macro_rules | `(tactic| walk_at "binaryOp BitXor int int") => `(tactic| (refine xor_n ?_; intro _ _))
local macro_rules | `(tactic| walk_at "inplaceOp BitXor int int") => `(tactic| (refine ixor_n ?_; intro _ _))
local macro_rules | `(tactic| walk_at "binaryOp RShift int int") => `(tactic| (refine rsh_n ?_; intro _ _))
local macro_rules | `(tactic| walk_at "binaryOp Add int int") => `(tactic| (refine add_n ?_; intro _ _))
local macro_rules | `(tactic| walk_at "inplaceOp Add int int") => `(tactic| (refine iadd_n ?_; intro _ _))
local macro_rules | `(tactic| walk_at "binaryOp FloorDiv int int") => `(tactic| (refine div_n (by decide) (by decide) ?_; intro _ _))
local macro_rules | `(tactic| walk_at "binaryOp Mod int int") => `(tactic| (refine mod_n (by decide) ?_; intro _ _))
local macro_rules | `(tactic| walk_at "truthy int") => `(tactic| refine truthy_n ?_)
local macro_rules | `(tactic| walk_at "look") => `(tactic| ((try dsimp only); first | assumption | exact if_pos rfl | (refine Eq.trans (if_neg (by decide)) ?_; walk_at "look") | (refine Eq.trans (Upto.out (by assumption) (by decide)) ?_; walk_at "look") | rfl))
local macro_rules | `(tactic| walk_at "mem") => `(tactic| (intro p9 hp9; first | exact hp9 | (repeat' (first | exact hp9 | refine List.mem_cons_of_mem _ ?_))))
local macro_rules | `(tactic| walk_at "upto") => `(tactic| first | assumption | exact Upto.refl | (refine Upto.set (by first | decide | decide +kernel | simp) ?_; walk_at "upto") | (refine' Upto.trans ?hs ?h1 ?_; (case h1 => assumption); (case hs => first | decide | decide +kernel); walk_at "upto"))
local macro_rules | `(tactic| walk_at "memx") => `(tactic| first | exact List.Mem.head _ | (refine List.Mem.tail _ ?_; walk_at "memx") | (refine List.mem_append_left _ ?_; walk_at "memx") | (refine List.mem_append_right _ ?_; walk_at "memx"))
local macro_rules | `(tactic| walk_at "TurnEnd next") => `(tactic| (refine' TurnEnd.next ?F ?N ?n ?_ ?U; (case F => k_asm); (case N => k_asm); (case n => walk_at "mem"); (case U => walk_at "upto")))
local macro_rules | `(tactic| walk_at "loadName") => `(tactic| (k_here; k_dflt (refine' ldn ?k1 ?k2 ?_; (case k1 => k_asm); (case k2 => walk_at "look"); k_whole)))
local macro_rules | `(tactic| walk_at "topr") => `(tactic| first | assumption | exact TopRead.keeps (by assumption) (Fr.keep (by assumption)))
local macro_rules | `(tactic| walk_at "eval Name") => `(tactic| (k_here; k_dflt (first
  | (refine' nm_localF ?F ?v ?_ ?a ?b ?c; (case b => rfl); (case a => rfl); (case c => decide); (case F => k_asm); (case v => walk_at "look"); k_whole)
  | (refine' nm_local ?F ?v ?_ ?a ?b ?c; (case b => rfl); (case a => rfl); (case c => decide); (case F => k_asm); (case v => walk_at "look"); k_whole)
  | (refine' nm_cell ?F ?v ?_ ?a ?b ?c; (case b => rfl); (case a => rfl); (case c => decide); (case v => rfl); (case F => k_asm); k_whole)
  | (refine' nm_K ?X ?T ?e ?_ ?g ?a ?b ?c; (case b => rfl); (case a => rfl); (case g => rfl); (case c => decide); (case X => k_in); (case T => walk_at "topr"); (case e => k_is); k_whole)
  | (refine' nm_B ?X ?T ?e ?v ?_ ?g ?h ?a ?b ?c ?n; (case b => rfl); (case a => rfl); (case g => rfl); (case h => rfl); (case c => decide); (case n => decide); (case X => k_in); (case T => walk_at "topr"); (case e => k_is); (case v => first | boot_fast | boot_by_name); k_whole))))
local macro_rules | `(tactic| walk_at "isl") => `(tactic| first | assumption | exact News.isList (by k_asm) (by walk_at "memx") | exact Heap.IsList.at (by assumption) (fun o e => Fr.keep (by k_asm) _ o e))
local macro_rules | `(tactic| walk_at "ints") => `(tactic| first | assumption | exact .nil | exact IntsAre.cons _ _ (by walk_at "ints"))
local macro_rules | `(tactic| walk_at "compareOp Eq int int") => `(tactic| refine eq_n ?_)
local macro_rules | `(tactic| walk_at "compareOp NotEq int int") => `(tactic| refine ne_n ?_)
local macro_rules | `(tactic| walk_at "compareOp Lt int int") => `(tactic| refine lt_n ?_)
local macro_rules | `(tactic| walk_at "compareOp Gt int int") => `(tactic| refine gt_n ?_)
local macro_rules | `(tactic| walk_at "compareOp LtE int int") => `(tactic| refine le_n ?_)
local macro_rules | `(tactic| walk_at "compareOp GtE int int") => `(tactic| refine ge_n ?_)
local macro_rules | `(tactic| walk_at "binaryOp Mult int int") => `(tactic| ((first | refine mul_n ?_ (IntMulOk.of_left (by decide +kernel)) | refine mul_n ?_ (IntMulOk.of_right (by decide +kernel))); intro _ _))
local macro_rules | `(tactic| walk_at "binaryOp Sub int int") => `(tactic| (refine sub_n (by omega) ?_; intro _ _))
local macro_rules | `(tactic| walk_at "storeName") => `(tactic| (k_dflt (refine' store_g ?a ?b ?c ?F ?N ?_; (case a => rfl); (case b => rfl); (case F => k_asm); (case c => rfl); (case N => k_asm); k_whole); intro h' tk' F' N'; (try k_sweep)))
local macro_rules | `(tactic| walk_at "eval Constant str") => `(tactic| (refine const_s ?_; intro _ _))
local macro_rules | `(tactic| walk_at "call builtin:len") => `(tactic| (k_dflt (refine' len_nl ?hl ?hI ?sz ?_; (case hl => walk_at "isl"); (case hI => walk_at "ints"); (case sz => (try simp only [List.length_append, List.length_map, List.length_cons, List.length_nil, List.length_range]); omega); k_whole); intro _ _))
local macro_rules | `(tactic| walk_at "inplaceOp Sub int int") => `(tactic| (refine isub_n (by omega) ?_; intro _ _))
local macro_rules | `(tactic| k_in) => `(tactic| first | with_reducible assumption | exact Frag.In.keeps (by with_reducible assumption) (Fr.keep (by with_reducible assumption)))
def hrpx (y : List Nat) : List Nat := y.map (fun c => c / 2 ^ 5) ++ [0] ++ y.map (fun c => c &&& 31)
def ListRes (s s' : Shared) (v : Value) (ns : List Nat) : Prop := ∃ l vs, v = .ref l ∧ s'.heap.IsList l vs.toArray ∧ IntsAre vs (natv ns) ∧ s.heap.get? l = none
set_option maxRecDepth 100000 in
set_option maxHeartbeats 8000000 in
theorem hrp_expand_spec (w : World) (mg mb : Str → Option Value) (A : Around) (s : Shared) (y : Str) (t : Tok)
   (E : Value → Shared → Prop) (X : (hd.heap_39 w.params).In s.heap) (T : TopRead hd.view_39 loo mg mb s.heap) (hA : A.handled = none) (hd : A.depth + 1 < recursionLimit)
   (hy : y.cps.toList.length ≤ 1000) :
   wpAny (model PySem.Challenge.rw_fw0006_01.row.prog w) A (call (.ref 26) [.str y t]) (fun v s' => ListRes s s' v (hrpx y.cps.toList) ∧ Keeps s s') E s := by
  revert X
  k_fill
  intro X
  refine' enter (binds := [("hrp", .str y t)]) X T.nolimit ?a ?b ?c ?d ?e ?h ?i ?j ?k ?l
  (case a => omega); (case b => k_is); (case c => k_is); (case d => exact BindsTo.of_eq rfl); (case e => exact locs rfl); (case i => rfl); (case j => rfl); (case k => rfl); (case l => decide)
  intro L h₁ hL F N
  try dsimp only
  try k_fold
  (repeat' (first | ((with_reducible show Frag.In _ _ ∧ _); walk1) | ((fail_if_success (with_reducible show _ ∧ _)); (fail_if_success (with_reducible show wpAny _ _ (eval (Expr.ListComp _ _ _ _) _) _ _ _)); first | (k_unfold; (try dsimp only)) | walk1 | (dsimp only; walk1)) | fail "no step"))
  refine' comp_f (as := y.cps.toList) (V := SignV) (pz := fun _ => true) (Wt := NatV) (g := fun c => c / 2 ^ 5) (cl := []) signV_inj hA (by rfl) (by decide) rfl (by decide) rfl ?_ (by intro _; rfl)
  (repeat' (first | ((with_reducible show Frag.In _ _ ∧ _); walk1) | ((fail_if_success (with_reducible show _ ∧ _)); first | (k_unfold; (try dsimp only)) | walk1 | (dsimp only; walk1)) | fail "no step"))
  refine ⟨src_str, by (rw [show sizeLine = 2 ^ 24 from rfl]; omega), Elt.plain ?_, ?_⟩
  · intro C a v H gs dr tk os m₃ E' ha hv hn hm hk hC
    obtain ⟨tv, rfl⟩ := hv
    have X' := (X.keeps F.keep).keeps hk
    have T' := (T.keeps F.keep).keeps hk
    clear F N X T
    (repeat' (first | ((with_reducible show Frag.In _ _ ∧ _); walk1) | ((fail_if_success (with_reducible show _ ∧ _)); first | (k_unfold; (try dsimp only)) | walk1 | (dsimp only; walk1)) | fail "no step"))
    exact ⟨⟨_, rfl⟩, Keeps.rfl'⟩
  intro D1 H1 tk1 ys1 hD1 hl1 hv1 hk1
  rw [filter_true] at hv1
  obtain ⟨d1, n1, sl1, N1⟩ := news_list F N hD1 hl1 hk1
  have F1 := F.keeps hk1
  have I1 := ints_of_paired hv1
  clear hl1 hv1 F N
  dsimp only
  (repeat' (first | ((with_reducible show Frag.In _ _ ∧ _); walk1) | ((fail_if_success (with_reducible show _ ∧ _)); (fail_if_success (with_reducible show wpAny _ _ (binaryOp Operator.Add _ _) _ _ _)); first | (k_unfold; (try dsimp only)) | walk1 | (dsimp only; walk1)) | fail "no step"))
  refine add_nl (by k_asm) (by k_asm) (by walk_at "isl") (by walk_at "isl") I1 (ms := [0]) (by walk_at "ints") (by simp only [List.length_append, List.length_map, List.length_cons, List.length_nil, List.length_range, List.length_take, List.length_drop, List.length_replicate] <;> omega) ?_
  intro D2 H2 tk2 F2 N2 I2
  (repeat' (first | ((with_reducible show Frag.In _ _ ∧ _); walk1) | ((fail_if_success (with_reducible show _ ∧ _)); (fail_if_success (with_reducible show wpAny _ _ (eval (Expr.ListComp _ _ _ _) _) _ _ _)); first | (k_unfold; (try dsimp only)) | walk1 | (dsimp only; walk1)) | fail "no step"))
  refine' comp_f (as := y.cps.toList) (V := SignV) (pz := fun _ => true) (Wt := NatV) (g := fun c => c &&& 31) (cl := []) signV_inj hA (by rfl) (by decide) rfl (by decide) rfl ?_ (by intro _; rfl)
  (repeat' (first | ((with_reducible show Frag.In _ _ ∧ _); walk1) | ((fail_if_success (with_reducible show _ ∧ _)); first | (k_unfold; (try dsimp only)) | walk1 | (dsimp only; walk1)) | fail "no step"))
  refine ⟨src_str, by (rw [show sizeLine = 2 ^ 24 from rfl]; omega), Elt.plain ?_, ?_⟩
  · intro C a v H gs dr tk os m₃ E' ha hv hn hm hk hC
    obtain ⟨tv, rfl⟩ := hv
    have X' := (X.keeps F2.keep).keeps hk
    have T' := (T.keeps F2.keep).keeps hk
    clear F2 N2 X T
    (repeat' (first | ((with_reducible show Frag.In _ _ ∧ _); walk1) | ((fail_if_success (with_reducible show _ ∧ _)); first | (k_unfold; (try dsimp only)) | walk1 | (dsimp only; walk1)) | fail "no step"))
    exact ⟨⟨_, rfl⟩, Keeps.rfl'⟩
  intro D3 H3 tk3 ys3 hD3 hl3 hv3 hk3
  rw [filter_true] at hv3
  obtain ⟨d3, n3, sl3, N3⟩ := news_list F2 N2 hD3 hl3 hk3
  have F3 := F2.keeps hk3
  have I3 := ints_of_paired hv3
  clear hl3 hv3 F2 N2
  dsimp only
  (repeat' (first | ((with_reducible show Frag.In _ _ ∧ _); walk1) | ((fail_if_success (with_reducible show _ ∧ _)); (fail_if_success (with_reducible show wpAny _ _ (binaryOp Operator.Add _ _) _ _ _)); first | (k_unfold; (try dsimp only)) | walk1 | (dsimp only; walk1)) | fail "no step"))
  refine add_nl (by k_asm) (by k_asm) (by walk_at "isl") (by walk_at "isl") I2 I3 (by simp only [List.length_append, List.length_map, List.length_cons, List.length_nil, List.length_range, List.length_take, List.length_drop, List.length_replicate] <;> omega) ?_
  intro D4 H4 tk4 F4 N4 I4
  (repeat' (first | ((with_reducible show Frag.In _ _ ∧ _); walk1) | ((fail_if_success (with_reducible show _ ∧ _)); first | (k_unfold; (try dsimp only)) | walk1 | (dsimp only; walk1)) | fail "no step"))
  exact ⟨⟨D4, _, rfl, News.isList N4 (.head _), I4, (N4 _ (.head _)).2.2⟩, _, _, rfl, F4.keep⟩
end Mine
namespace Mine
local macro_rules | `(tactic| walk_at "eval Constant int") => `(tactic| (refine const_n ?_; intro _ _))
local macro_rules | `(tactic| walk_at "binaryOp BitAnd int int") => `(tactic| (refine and_n ?_; intro _ _))
local macro_rules | `(tactic| walk_at "binaryOp BitOr int int") => `(tactic| (refine or_n ?_; intro _ _))
local macro_rules | `(tactic| walk_at "binaryOp BitXor int int") => `(tactic| (refine xor_n ?_; intro _ _))
local macro_rules | `(tactic| walk_at "inplaceOp BitXor int int") => `(tactic| (refine ixor_n ?_; intro _ _))
local macro_rules | `(tactic| walk_at "binaryOp RShift int int") => `(tactic| (refine rsh_n ?_; intro _ _))
local macro_rules | `(tactic| walk_at "binaryOp Add int int") => `(tactic| (refine add_n ?_; intro _ _))
local macro_rules | `(tactic| walk_at "inplaceOp Add int int") => `(tactic| (refine iadd_n ?_; intro _ _))
local macro_rules | `(tactic| walk_at "binaryOp FloorDiv int int") => `(tactic| (refine div_n (by decide) (by decide) ?_; intro _ _))
local macro_rules | `(tactic| walk_at "binaryOp Mod int int") => `(tactic| (refine mod_n (by decide) ?_; intro _ _))
local macro_rules | `(tactic| walk_at "truthy int") => `(tactic| refine truthy_n ?_)
local macro_rules | `(tactic| walk_at "look") => `(tactic| ((try dsimp only); first | assumption | exact if_pos rfl | (refine Eq.trans (if_neg (by decide)) ?_; walk_at "look") | (refine Eq.trans (Upto.out (by assumption) (by decide)) ?_; walk_at "look") | rfl))
local macro_rules | `(tactic| walk_at "mem") => `(tactic| (intro p9 hp9; first | exact hp9 | (repeat' (first | exact hp9 | refine List.mem_cons_of_mem _ ?_))))
local macro_rules | `(tactic| walk_at "upto") => `(tactic| first | assumption | exact Upto.refl | (refine Upto.set (by first | decide | decide +kernel | simp) ?_; walk_at "upto") | (refine' Upto.trans ?hs ?h1 ?_; (case h1 => assumption); (case hs => first | decide | decide +kernel); walk_at "upto"))
local macro_rules | `(tactic| walk_at "memx") => `(tactic| first | exact List.Mem.head _ | (refine List.Mem.tail _ ?_; walk_at "memx") | (refine List.mem_append_left _ ?_; walk_at "memx") | (refine List.mem_append_right _ ?_; walk_at "memx"))
local macro_rules | `(tactic| walk_at "TurnEnd next") => `(tactic| (refine' TurnEnd.next ?F ?N ?n ?_ ?U; (case F => k_asm); (case N => k_asm); (case n => walk_at "mem"); (case U => walk_at "upto")))
local macro_rules | `(tactic| walk_at "loadName") => `(tactic| (k_here; k_dflt (refine' ldn ?k1 ?k2 ?_; (case k1 => k_asm); (case k2 => walk_at "look"); k_whole)))
local macro_rules | `(tactic| walk_at "topr") => `(tactic| first | assumption | exact TopRead.keeps (by assumption) (Fr.keep (by assumption)))
local macro_rules | `(tactic| walk_at "eval Name") => `(tactic| (k_here; k_dflt (first
  | (refine' nm_localF ?F ?v ?_ ?a ?b ?c; (case b => rfl); (case a => rfl); (case c => decide); (case F => k_asm); (case v => walk_at "look"); k_whole)
  | (refine' nm_local ?F ?v ?_ ?a ?b ?c; (case b => rfl); (case a => rfl); (case c => decide); (case F => k_asm); (case v => walk_at "look"); k_whole)
  | (refine' nm_cell ?F ?v ?_ ?a ?b ?c; (case b => rfl); (case a => rfl); (case c => decide); (case v => rfl); (case F => k_asm); k_whole)
  | (refine' nm_K ?X ?T ?e ?_ ?g ?a ?b ?c; (case b => rfl); (case a => rfl); (case g => rfl); (case c => decide); (case X => k_in); (case T => walk_at "topr"); (case e => k_is); k_whole)
  | (refine' nm_B ?X ?T ?e ?v ?_ ?g ?h ?a ?b ?c ?n; (case b => rfl); (case a => rfl); (case g => rfl); (case h => rfl); (case c => decide); (case n => decide); (case X => k_in); (case T => walk_at "topr"); (case e => k_is); (case v => first | boot_fast | boot_by_name); k_whole))))
local macro_rules | `(tactic| walk_at "isl") => `(tactic| first | assumption | exact News.isList (by k_asm) (by walk_at "memx") | exact Heap.IsList.at (by assumption) (fun o e => Fr.keep (by k_asm) _ o e))
local macro_rules | `(tactic| walk_at "ints") => `(tactic| first | assumption | exact .nil | exact IntsAre.cons _ _ (by walk_at "ints"))
local macro_rules | `(tactic| walk_at "compareOp Eq int int") => `(tactic| refine eq_n ?_)
local macro_rules | `(tactic| walk_at "compareOp NotEq int int") => `(tactic| refine ne_n ?_)
local macro_rules | `(tactic| walk_at "compareOp Lt int int") => `(tactic| refine lt_n ?_)
local macro_rules | `(tactic| walk_at "compareOp Gt int int") => `(tactic| refine gt_n ?_)
local macro_rules | `(tactic| walk_at "compareOp LtE int int") => `(tactic| refine le_n ?_)
local macro_rules | `(tactic| walk_at "compareOp GtE int int") => `(tactic| refine ge_n ?_)
local macro_rules | `(tactic| walk_at "binaryOp Mult int int") => `(tactic| ((first | refine mul_n ?_ (IntMulOk.of_left (by decide +kernel)) | refine mul_n ?_ (IntMulOk.of_right (by decide +kernel))); intro _ _))
local macro_rules | `(tactic| walk_at "binaryOp Sub int int") => `(tactic| (refine sub_n (by omega) ?_; intro _ _))
local macro_rules | `(tactic| walk_at "storeName") => `(tactic| (k_dflt (refine' store_g ?a ?b ?c ?F ?N ?_; (case a => rfl); (case b => rfl); (case F => k_asm); (case c => rfl); (case N => k_asm); k_whole); intro h' tk' F' N'; (try k_sweep)))
local macro_rules | `(tactic| walk_at "eval Constant str") => `(tactic| (refine const_s ?_; intro _ _))
local macro_rules | `(tactic| walk_at "call builtin:len") => `(tactic| (k_dflt (refine' len_nl ?hl ?hI ?sz ?_; (case hl => walk_at "isl"); (case hI => walk_at "ints"); (case sz => (try simp only [List.length_append, List.length_map, List.length_cons, List.length_nil, List.length_range]); omega); k_whole); intro _ _))
local macro_rules | `(tactic| walk_at "inplaceOp Sub int int") => `(tactic| (refine isub_n (by omega) ?_; intro _ _))
local macro_rules | `(tactic| k_in) => `(tactic| first | with_reducible assumption | exact Frag.In.keeps (by with_reducible assumption) (Fr.keep (by with_reducible assumption)))
set_option maxRecDepth 100000 in
set_option maxHeartbeats 8000000 in
theorem verify_spec (w : World) (mg mb : Str → Option Value) (A : Around) (s : Shared) (y : Str) (t : Tok) (l : Addr) (vs : List Value) (ns : List Nat)
   (E : Value → Shared → Prop) (X : (hd.heap_39 w.params).In s.heap) (T : TopRead hd.view_39 loo mg mb s.heap) (hA : A.handled = none) (hd : A.depth + 2 < recursionLimit)
   (hy : y.cps.toList.length ≤ 1000) (hl : s.heap.IsList l vs.toArray) (hI : IntsAre vs (natv ns)) (hns : ns.length ≤ 1000) :
   wpAny (model PySem.Challenge.rw_fw0006_01.row.prog w) A (call (.ref 33) [.str y t, .ref l]) (fun v s' => v = .bool (pm (hrpx y.cps.toList ++ ns) == 1) ∧ Keeps s s') E s := by
  revert X
  k_fill
  intro X
  refine' enter (binds := [("hrp", .str y t), ("data", .ref l)]) X T.nolimit ?a ?b ?c ?d ?e ?h ?i ?j ?k ?l
  (case a => omega); (case b => k_is); (case c => k_is); (case d => exact BindsTo.of_eq rfl); (case e => exact locs rfl); (case i => rfl); (case j => rfl); (case k => rfl); (case l => decide)
  intro L h₁ hL F N
  try dsimp only
  try k_fold
  (repeat' (first | ((with_reducible show Frag.In _ _ ∧ _); walk1) | ((fail_if_success (with_reducible show _ ∧ _)); (fail_if_success (with_reducible show wpAny _ _ (call (Value.ref _) _) _ _ _)); first | (k_unfold; (try dsimp only)) | walk1 | (dsimp only; walk1)) | fail "no step"))
  refine wpAny_mono (hrp_expand_spec w mg mb _ _ y t _ (by k_in) (by walk_at "topr") hA (by (repeat rw [deeper_depth]); omega) hy) ?_ (fun _ _ e => e)
  (rintro _ _ ⟨⟨l1, vs1, rfl, hl1, I1, hn1⟩, H1, tk1, rfl, hk1⟩; (rename Fr _ _ _ _ => F0); (rename News _ _ _ _ => N0); obtain ⟨d1, n1, sl1, N1⟩ := news_list F0 N0 hn1 hl1 hk1; (have F1 := F0.keeps hk1); clear hl1 hn1 hk1 F0 N0; (try dsimp only))
  (repeat' (first | ((with_reducible show Frag.In _ _ ∧ _); walk1) | ((fail_if_success (with_reducible show _ ∧ _)); (fail_if_success (with_reducible show wpAny _ _ (call (Value.ref _) _) _ _ _)); (fail_if_success (with_reducible show wpAny _ _ (binaryOp Operator.Add _ _) _ _ _)); first | (k_unfold; (try dsimp only)) | walk1 | (dsimp only; walk1)) | fail "no step"))
  refine copy_nl (by k_asm) (by k_asm) (by walk_at "isl") (by have := hI.length; rw [natv_length] at this; omega) ?_
  intro D2 H2 tk2 c2 F2 N2
  (repeat' (first | ((with_reducible show Frag.In _ _ ∧ _); walk1) | ((fail_if_success (with_reducible show _ ∧ _)); (fail_if_success (with_reducible show wpAny _ _ (binaryOp Operator.Add _ _) _ _ _)); first | (k_unfold; (try dsimp only)) | walk1 | (dsimp only; walk1)) | fail "no step"))
  refine add_nl (by k_asm) (by k_asm) (by walk_at "isl") (by walk_at "isl") I1 hI (by unfold hrpx; rw [List.length_append, List.length_append, List.length_map, List.length_map]; simp only [List.length_cons, List.length_nil]; omega) ?_
  intro D3 H3 tk3 F3 N3 I3
  (repeat' (first | ((with_reducible show Frag.In _ _ ∧ _); walk1) | ((fail_if_success (with_reducible show _ ∧ _)); (fail_if_success (with_reducible show wpAny _ _ (call (Value.ref _) _) _ _ _)); first | (k_unfold; (try dsimp only)) | walk1 | (dsimp only; walk1)) | fail "no step"))
  refine wpAny_mono (polymod_spec w mg mb _ _ D3 _ _ _ (by k_in) (by walk_at "topr") hA (by (repeat rw [deeper_depth]); omega) (by walk_at "isl") I3) ?_ (fun _ _ e => e)
  (rintro _ _ ⟨⟨t4, rfl⟩, H4, tk4, rfl, hk4⟩; (rename Fr _ _ _ _ => F0); (rename News _ _ _ _ => N0); (have N4 := N0.grown hk4); (have F4 := F0.keeps hk4); clear hk4 F0 N0; (try dsimp only))
  (repeat' (first | ((with_reducible show Frag.In _ _ ∧ _); walk1) | ((fail_if_success (with_reducible show _ ∧ _)); first | (k_unfold; (try dsimp only)) | walk1 | (dsimp only; walk1)) | fail "no step"))
  exact ⟨rfl, _, _, rfl, F4.keep⟩
end Mine
namespace Mine
local macro_rules | `(tactic| walk_at "eval Constant int") => `(tactic| (refine const_n ?_; intro _ _))
local macro_rules | `(tactic| walk_at "binaryOp BitAnd int int") => `(tactic| (refine and_n ?_; intro _ _))
local macro_rules | `(tactic| walk_at "binaryOp BitOr int int") => `(tactic| (refine or_n ?_; intro _ _))
local macro_rules | `(tactic| walk_at "binaryOp BitXor int int") => `(tactic| (refine xor_n ?_; intro _ _))
local macro_rules | `(tactic| walk_at "inplaceOp BitXor int int") => `(tactic| (refine ixor_n ?_; intro _ _))
local macro_rules | `(tactic| walk_at "binaryOp RShift int int") => `(tactic| (refine rsh_n ?_; intro _ _))
local macro_rules | `(tactic| walk_at "binaryOp Add int int") => `(tactic| (refine add_n ?_; intro _ _))
local macro_rules | `(tactic| walk_at "inplaceOp Add int int") => `(tactic| (refine iadd_n ?_; intro _ _))
local macro_rules | `(tactic| walk_at "binaryOp FloorDiv int int") => `(tactic| (refine div_n (by decide) (by decide) ?_; intro _ _))
local macro_rules | `(tactic| walk_at "binaryOp Mod int int") => `(tactic| (refine mod_n (by decide) ?_; intro _ _))
local macro_rules | `(tactic| walk_at "truthy int") => `(tactic| refine truthy_n ?_)
local macro_rules | `(tactic| walk_at "look") => `(tactic| ((try dsimp only); first | assumption | exact if_pos rfl | (refine Eq.trans (if_neg (by decide)) ?_; walk_at "look") | (refine Eq.trans (Upto.out (by assumption) (by decide)) ?_; walk_at "look") | rfl))
local macro_rules | `(tactic| walk_at "mem") => `(tactic| (intro p9 hp9; first | exact hp9 | (repeat' (first | exact hp9 | refine List.mem_cons_of_mem _ ?_))))
local macro_rules | `(tactic| walk_at "upto") => `(tactic| first | assumption | exact Upto.refl | (refine Upto.set (by first | decide | decide +kernel | simp) ?_; walk_at "upto") | (refine' Upto.trans ?hs ?h1 ?_; (case h1 => assumption); (case hs => first | decide | decide +kernel); walk_at "upto"))
local macro_rules | `(tactic| walk_at "memx") => `(tactic| first | exact List.Mem.head _ | (refine List.Mem.tail _ ?_; walk_at "memx") | (refine List.mem_append_left _ ?_; walk_at "memx") | (refine List.mem_append_right _ ?_; walk_at "memx"))
local macro_rules | `(tactic| walk_at "TurnEnd next") => `(tactic| (refine' TurnEnd.next ?F ?N ?n ?_ ?U; (case F => k_asm); (case N => k_asm); (case n => walk_at "mem"); (case U => walk_at "upto")))
local macro_rules | `(tactic| walk_at "loadName") => `(tactic| (k_here; k_dflt (refine' ldn ?k1 ?k2 ?_; (case k1 => k_asm); (case k2 => walk_at "look"); k_whole)))
local macro_rules | `(tactic| walk_at "topr") => `(tactic| first | assumption | exact TopRead.keeps (by assumption) (Fr.keep (by assumption)))
local macro_rules | `(tactic| walk_at "eval Name") => `(tactic| (k_here; k_dflt (first
  | (refine' nm_localF ?F ?v ?_ ?a ?b ?c; (case b => rfl); (case a => rfl); (case c => decide); (case F => k_asm); (case v => walk_at "look"); k_whole)
  | (refine' nm_local ?F ?v ?_ ?a ?b ?c; (case b => rfl); (case a => rfl); (case c => decide); (case F => k_asm); (case v => walk_at "look"); k_whole)
  | (refine' nm_cell ?F ?v ?_ ?a ?b ?c; (case b => rfl); (case a => rfl); (case c => decide); (case v => rfl); (case F => k_asm); k_whole)
  | (refine' nm_K ?X ?T ?e ?_ ?g ?a ?b ?c; (case b => rfl); (case a => rfl); (case g => rfl); (case c => decide); (case X => k_in); (case T => walk_at "topr"); (case e => k_is); k_whole)
  | (refine' nm_B ?X ?T ?e ?v ?_ ?g ?h ?a ?b ?c ?n; (case b => rfl); (case a => rfl); (case g => rfl); (case h => rfl); (case c => decide); (case n => decide); (case X => k_in); (case T => walk_at "topr"); (case e => k_is); (case v => first | boot_fast | boot_by_name); k_whole))))
local macro_rules | `(tactic| walk_at "isl") => `(tactic| first | assumption | exact News.isList (by k_asm) (by walk_at "memx") | exact Heap.IsList.at (by assumption) (fun o e => Fr.keep (by k_asm) _ o e))
local macro_rules | `(tactic| walk_at "ints") => `(tactic| first | assumption | exact .nil | exact IntsAre.cons _ _ (by walk_at "ints"))
local macro_rules | `(tactic| walk_at "compareOp Eq int int") => `(tactic| refine eq_n ?_)
local macro_rules | `(tactic| walk_at "compareOp NotEq int int") => `(tactic| refine ne_n ?_)
local macro_rules | `(tactic| walk_at "compareOp Lt int int") => `(tactic| refine lt_n ?_)
local macro_rules | `(tactic| walk_at "compareOp Gt int int") => `(tactic| refine gt_n ?_)
local macro_rules | `(tactic| walk_at "compareOp LtE int int") => `(tactic| refine le_n ?_)
local macro_rules | `(tactic| walk_at "compareOp GtE int int") => `(tactic| refine ge_n ?_)
local macro_rules | `(tactic| walk_at "binaryOp Mult int int") => `(tactic| ((first | refine mul_n ?_ (IntMulOk.of_left (by decide +kernel)) | refine mul_n ?_ (IntMulOk.of_right (by decide +kernel))); intro _ _))
local macro_rules | `(tactic| walk_at "binaryOp Sub int int") => `(tactic| (refine sub_n (by omega) ?_; intro _ _))
local macro_rules | `(tactic| walk_at "storeName") => `(tactic| (k_dflt (refine' store_g ?a ?b ?c ?F ?N ?_; (case a => rfl); (case b => rfl); (case F => k_asm); (case c => rfl); (case N => k_asm); k_whole); intro h' tk' F' N'; (try k_sweep)))
local macro_rules | `(tactic| walk_at "eval Constant str") => `(tactic| (refine const_s ?_; intro _ _))
local macro_rules | `(tactic| walk_at "call builtin:len") => `(tactic| (k_dflt (refine' len_nl ?hl ?hI ?sz ?_; (case hl => walk_at "isl"); (case hI => walk_at "ints"); (case sz => (try simp only [List.length_append, List.length_map, List.length_cons, List.length_nil, List.length_range]); omega); k_whole); intro _ _))
local macro_rules | `(tactic| walk_at "inplaceOp Sub int int") => `(tactic| (refine isub_n (by omega) ?_; intro _ _))
local macro_rules | `(tactic| k_in) => `(tactic| first | with_reducible assumption | exact Frag.In.keeps (by with_reducible assumption) (Fr.keep (by with_reducible assumption)))
def chkOf (y ns : List Nat) : List Nat := (List.range 6).map (fun i => ((pm (hrpx y ++ ns ++ [0, 0, 0, 0, 0, 0]) ^^^ 1) / 2 ^ (5 * (5 - i))) &&& 31)
theorem hrpx_length (y : List Nat) : (hrpx y).length = 2 * y.length + 1 := by
  unfold hrpx; rw [List.length_append, List.length_append, List.length_map, List.length_map]; simp only [List.length_cons, List.length_nil]; omega
set_option maxRecDepth 100000 in
set_option maxHeartbeats 8000000 in
theorem create_spec (w : World) (mg mb : Str → Option Value) (A : Around) (s : Shared) (y : Str) (t : Tok) (l : Addr) (vs : List Value) (ns : List Nat)
   (E : Value → Shared → Prop) (X : (hd.heap_39 w.params).In s.heap) (T : TopRead hd.view_39 loo mg mb s.heap) (hA : A.handled = none) (hd : A.depth + 2 < recursionLimit)
   (hy : y.cps.toList.length ≤ 1000) (hl : s.heap.IsList l vs.toArray) (hI : IntsAre vs (natv ns)) (hns : ns.length ≤ 1000) :
   wpAny (model PySem.Challenge.rw_fw0006_01.row.prog w) A (call (.ref 38) [.str y t, .ref l]) (fun v s' => ListRes s s' v (chkOf y.cps.toList ns) ∧ Keeps s s') E s := by
  revert X
  k_fill
  intro X
  refine' enterC (binds := [("hrp", .str y t), ("data", .ref l)]) s.heap ?a0 ?a1 X T.nolimit ?a ?b ?c ?d ?e ?f ?h ?i ?j ?k
  (case a0 => exact fun _ _ e => e); (case a1 => exact Nat.le_refl _); (case a => omega); (case b => k_is); (case c => k_is); (case d => exact BindsTo.of_eq rfl); (case e => exact rfl); (case f => decide +kernel); (case i => rfl); (case j => rfl); (case k => rfl)
  intro L h₁ tk0 cells hL F N Y hk0
  obtain ⟨oc, rfl, hoc⟩ := CellsAre.one Y
  clear Y
  try dsimp only
  try k_fold
  (repeat' (first | ((with_reducible show Frag.In _ _ ∧ _); walk1) | ((fail_if_success (with_reducible show _ ∧ _)); (fail_if_success (with_reducible show wpAny _ _ (call (Value.ref _) _) _ _ _)); first | (k_unfold; (try dsimp only)) | walk1 | (dsimp only; walk1)) | fail "no step"))
  refine wpAny_mono (hrp_expand_spec w mg mb _ _ y t _ (by k_in) (by walk_at "topr") hA (by (repeat rw [deeper_depth]); omega) hy) ?_ (fun _ _ e => e)
  (rintro _ _ ⟨⟨l1, vs1, rfl, hl1, I1, hn1⟩, H1, tk1, rfl, hk1⟩; (rename Fr _ _ _ _ => F0); (rename News _ _ _ _ => N0); obtain ⟨d1, n1, sl1, N1⟩ := news_list F0 N0 hn1 hl1 hk1; (have F1 := F0.keeps hk1); clear hl1 hn1 hk1 F0 N0; (try dsimp only))
  (repeat' (first | ((with_reducible show Frag.In _ _ ∧ _); walk1) | ((fail_if_success (with_reducible show _ ∧ _)); (fail_if_success (with_reducible show wpAny _ _ (call (Value.ref _) _) _ _ _)); (fail_if_success (with_reducible show wpAny _ _ (binaryOp Operator.Add _ _) _ _ _)); first | (k_unfold; (try dsimp only)) | walk1 | (dsimp only; walk1)) | fail "no step"))
  have hlen : vs.length = ns.length := by have := hI.length; rw [natv_length] at this; omega
  refine copy_nl (by k_asm) (by k_asm) (by walk_at "isl") (by omega) ?_
  intro D2 H2 tk2 c2 F2 N2
  (repeat' (first | ((with_reducible show Frag.In _ _ ∧ _); walk1) | ((fail_if_success (with_reducible show _ ∧ _)); (fail_if_success (with_reducible show wpAny _ _ (binaryOp Operator.Add _ _) _ _ _)); first | (k_unfold; (try dsimp only)) | walk1 | (dsimp only; walk1)) | fail "no step"))
  refine add_nl (by k_asm) (by k_asm) (by walk_at "isl") (by walk_at "isl") I1 hI (by rw [hrpx_length]; omega) ?_
  intro D3 H3 tk3 F3 N3 I3
  (repeat' (first | ((with_reducible show Frag.In _ _ ∧ _); walk1) | ((fail_if_success (with_reducible show _ ∧ _)); (fail_if_success (with_reducible show wpAny _ _ (binaryOp Operator.Add _ _) _ _ _)); first | (k_unfold; (try dsimp only)) | walk1 | (dsimp only; walk1)) | fail "no step"))
  refine add_nl (by k_asm) (by k_asm) (by walk_at "isl") (by walk_at "isl") I3 (ms := [0, 0, 0, 0, 0, 0]) (by walk_at "ints") (by rw [List.length_append, hrpx_length]; simp only [List.length_cons, List.length_nil]; omega) ?_
  intro D4 H4 tk4 F4 N4 I4
  (repeat' (first | ((with_reducible show Frag.In _ _ ∧ _); walk1) | ((fail_if_success (with_reducible show _ ∧ _)); (fail_if_success (with_reducible show wpAny _ _ (call (Value.ref _) _) _ _ _)); first | (k_unfold; (try dsimp only)) | walk1 | (dsimp only; walk1)) | fail "no step"))
  refine wpAny_mono (polymod_spec w mg mb _ _ D4 _ _ _ (by k_in) (by walk_at "topr") hA (by (repeat rw [deeper_depth]); omega) (by walk_at "isl") I4) ?_ (fun _ _ e => e)
  (rintro _ _ ⟨⟨t5, rfl⟩, H5, tk5, rfl, hk5⟩; (rename Fr _ _ _ _ => F0); (rename News _ _ _ _ => N0); (have N5 := N0.grown hk5); (have F5 := F0.keeps hk5); clear hk5 F0 N0; (try dsimp only))
  (repeat' (first | ((with_reducible show Frag.In _ _ ∧ _); walk1) | ((fail_if_success (with_reducible show _ ∧ _)); first | (k_unfold; (try dsimp only)) | walk1 | (dsimp only; walk1)) | fail "no step"))
  have NC : News s.heap L H5 [(L + 1, oc)] := News.sub N5 (by intro p hp; rw [List.mem_singleton.mp hp]; walk_at "memx")
  refine store_c (by rfl) (by rfl) (by rfl) F5 NC hoc (fun p hp => nomatch hp) ?_
  intro H6 o6 F6 N6 hd6
  clear F5 N5 NC
  (repeat' (first | ((with_reducible show Frag.In _ _ ∧ _); walk1) | ((fail_if_success (with_reducible show _ ∧ _)); (fail_if_success (with_reducible show wpAny _ _ (eval (Expr.ListComp _ _ _ _) _) _ _ _)); first | (k_unfold; (try dsimp only)) | walk1 | (dsimp only; walk1)) | fail "no step"))
  refine' comp_f (as := List.range 6) (V := NatV) (pz := fun _ => true) (Wt := NatV) (g := fun i => ((pm (hrpx y.cps.toList ++ ns ++ [0, 0, 0, 0, 0, 0]) ^^^ 1) / 2 ^ (5 * (5 - i))) &&& 31) natV_inj hA (by rfl) (by decide) rfl (by decide) rfl ?_ (by intro _; rfl)
  (repeat' (first | ((with_reducible show Frag.In _ _ ∧ _); walk1) | ((fail_if_success (with_reducible show _ ∧ _)); first | (k_unfold; (try dsimp only)) | walk1 | (dsimp only; walk1)) | fail "no step"))
  refine ⟨src_range (by assumption) (by decide) (by decide), by decide, Elt.plain ?_, ?_⟩
  · intro C a v H gs dr tk os m₃ E' ha hv hn hm hk hC
    obtain ⟨tv, rfl⟩ := hv
    have ha := List.mem_range.mp ha
    rename Fr _ _ _ _ => F7
    rename News _ _ _ _ => N7
    have X' := (X.keeps F7.keep).keeps hk
    have T' := (T.keeps F7.keep).keeps hk
    have HC := (cellAt N7 (by walk_at "memx") hd6).keeps hk
    clear F7 N7 X T
    (repeat' (first | ((with_reducible show Frag.In _ _ ∧ _); walk1) | ((fail_if_success (with_reducible show _ ∧ _)); first | (k_unfold; (try dsimp only)) | walk1 | (dsimp only; walk1)) | fail "no step"))
    exact ⟨⟨_, rfl⟩, Keeps.rfl'⟩
  (intro D8 H8 tk8 ys8 hD8 hl8 hv8 hk8; (try rw [filter_true] at hv8); (rename Fr _ _ _ _ => F0); (rename News _ _ _ _ => N0); obtain ⟨d8, n8, sl8, N8⟩ := news_list F0 N0 hD8 hl8 hk8; (have F8 := F0.keeps hk8); (have I8 := ints_of_paired hv8); clear hl8 hv8 hk8 hD8 F0 N0; (try dsimp only))
  (repeat' (first | ((with_reducible show Frag.In _ _ ∧ _); walk1) | ((fail_if_success (with_reducible show _ ∧ _)); first | (k_unfold; (try dsimp only)) | walk1 | (dsimp only; walk1)) | fail "no step"))
  exact ⟨⟨D8, _, rfl, News.isList N8 (.head _), I8, (N8 _ (.head _)).2.2⟩, _, _, rfl, F8.keep⟩
end Mine
namespace Mine
local macro_rules | `(tactic| walk_at "eval Constant int") => `(tactic| (refine const_n ?_; intro _ _))
local macro_rules | `(tactic| walk_at "binaryOp BitAnd int int") => `(tactic| (refine and_n ?_; intro _ _))
local macro_rules | `(tactic| walk_at "binaryOp BitOr int int") => `(tactic| (refine or_n ?_; intro _ _))
local macro_rules | `(tactic| walk_at "binaryOp BitXor int int") => `(tactic| (refine xor_n ?_; intro _ _))
local macro_rules | `(tactic| walk_at "inplaceOp BitXor int int") => `(tactic| (refine ixor_n ?_; intro _ _))
local macro_rules | `(tactic| walk_at "binaryOp RShift int int") => `(tactic| (refine rsh_n ?_; intro _ _))
local macro_rules | `(tactic| walk_at "binaryOp Add int int") => `(tactic| (refine add_n ?_; intro _ _))
local macro_rules | `(tactic| walk_at "inplaceOp Add int int") => `(tactic| (refine iadd_n ?_; intro _ _))
local macro_rules | `(tactic| walk_at "binaryOp FloorDiv int int") => `(tactic| (refine div_n (by decide) (by decide) ?_; intro _ _))
local macro_rules | `(tactic| walk_at "binaryOp Mod int int") => `(tactic| (refine mod_n (by decide) ?_; intro _ _))
local macro_rules | `(tactic| walk_at "truthy int") => `(tactic| refine truthy_n ?_)
local macro_rules | `(tactic| walk_at "look") => `(tactic| ((try dsimp only); first | assumption | exact if_pos rfl | (refine Eq.trans (if_neg (by decide)) ?_; walk_at "look") | (refine Eq.trans (Upto.out (by assumption) (by decide)) ?_; walk_at "look") | rfl))
local macro_rules | `(tactic| walk_at "mem") => `(tactic| (intro p9 hp9; first | exact hp9 | (repeat' (first | exact hp9 | refine List.mem_cons_of_mem _ ?_))))
local macro_rules | `(tactic| walk_at "upto") => `(tactic| first | assumption | exact Upto.refl | (refine Upto.set (by first | decide | decide +kernel | simp) ?_; walk_at "upto") | (refine' Upto.trans ?hs ?h1 ?_; (case h1 => assumption); (case hs => first | decide | decide +kernel); walk_at "upto"))
local macro_rules | `(tactic| walk_at "memx") => `(tactic| first | exact List.Mem.head _ | (refine List.Mem.tail _ ?_; walk_at "memx") | (refine List.mem_append_left _ ?_; walk_at "memx") | (refine List.mem_append_right _ ?_; walk_at "memx"))
local macro_rules | `(tactic| walk_at "TurnEnd next") => `(tactic| (refine' TurnEnd.next ?F ?N ?n ?_ ?U; (case F => k_asm); (case N => k_asm); (case n => walk_at "mem"); (case U => walk_at "upto")))
local macro_rules | `(tactic| walk_at "loadName") => `(tactic| (k_here; k_dflt (refine' ldn ?k1 ?k2 ?_; (case k1 => k_asm); (case k2 => walk_at "look"); k_whole)))
local macro_rules | `(tactic| walk_at "topr") => `(tactic| first | assumption | exact TopRead.keeps (by assumption) (Fr.keep (by assumption)))
local macro_rules | `(tactic| walk_at "eval Name") => `(tactic| (k_here; k_dflt (first
  | (refine' nm_localF ?F ?v ?_ ?a ?b ?c; (case b => rfl); (case a => rfl); (case c => decide); (case F => k_asm); (case v => walk_at "look"); k_whole)
  | (refine' nm_local ?F ?v ?_ ?a ?b ?c; (case b => rfl); (case a => rfl); (case c => decide); (case F => k_asm); (case v => walk_at "look"); k_whole)
  | (refine' nm_cell ?F ?v ?_ ?a ?b ?c; (case b => rfl); (case a => rfl); (case c => decide); (case v => rfl); (case F => k_asm); k_whole)
  | (refine' nm_K ?X ?T ?e ?_ ?g ?a ?b ?c; (case b => rfl); (case a => rfl); (case g => rfl); (case c => decide); (case X => k_in); (case T => walk_at "topr"); (case e => k_is); k_whole)
  | (refine' nm_B ?X ?T ?e ?v ?_ ?g ?h ?a ?b ?c ?n; (case b => rfl); (case a => rfl); (case g => rfl); (case h => rfl); (case c => decide); (case n => decide); (case X => k_in); (case T => walk_at "topr"); (case e => k_is); (case v => first | boot_fast | boot_by_name); k_whole))))
local macro_rules | `(tactic| walk_at "isl") => `(tactic| first | assumption | exact News.isList (by k_asm) (by walk_at "memx") | exact Heap.IsList.at (by assumption) (fun o e => Fr.keep (by k_asm) _ o e))
local macro_rules | `(tactic| walk_at "ints") => `(tactic| first | assumption | exact .nil | exact IntsAre.cons _ _ (by walk_at "ints"))
local macro_rules | `(tactic| walk_at "compareOp Eq int int") => `(tactic| refine eq_n ?_)
local macro_rules | `(tactic| walk_at "compareOp NotEq int int") => `(tactic| refine ne_n ?_)
local macro_rules | `(tactic| walk_at "compareOp Lt int int") => `(tactic| refine lt_n ?_)
local macro_rules | `(tactic| walk_at "compareOp Gt int int") => `(tactic| refine gt_n ?_)
local macro_rules | `(tactic| walk_at "compareOp LtE int int") => `(tactic| refine le_n ?_)
local macro_rules | `(tactic| walk_at "compareOp GtE int int") => `(tactic| refine ge_n ?_)
local macro_rules | `(tactic| walk_at "binaryOp Mult int int") => `(tactic| ((first | refine mul_n ?_ (IntMulOk.of_left (by decide +kernel)) | refine mul_n ?_ (IntMulOk.of_right (by decide +kernel))); intro _ _))
local macro_rules | `(tactic| walk_at "binaryOp Sub int int") => `(tactic| (refine sub_n (by omega) ?_; intro _ _))
local macro_rules | `(tactic| walk_at "storeName") => `(tactic| (k_dflt (refine' store_g ?a ?b ?c ?F ?N ?_; (case a => rfl); (case b => rfl); (case F => k_asm); (case c => rfl); (case N => k_asm); k_whole); intro h' tk' F' N'; (try k_sweep)))
local macro_rules | `(tactic| walk_at "eval Constant str") => `(tactic| (refine const_s ?_; intro _ _))
local macro_rules | `(tactic| walk_at "call builtin:len") => `(tactic| (k_dflt (refine' len_nl ?hl ?hI ?sz ?_; (case hl => walk_at "isl"); (case hI => walk_at "ints"); (case sz => (try simp only [List.length_append, List.length_map, List.length_cons, List.length_nil, List.length_range]); omega); k_whole); intro _ _))
local macro_rules | `(tactic| walk_at "inplaceOp Sub int int") => `(tactic| (refine isub_n (by omega) ?_; intro _ _))
local macro_rules | `(tactic| k_in) => `(tactic| first | with_reducible assumption | exact Frag.In.keeps (by with_reducible assumption) (Fr.keep (by with_reducible assumption)))
def cset : List Nat := [113,112,122,114,121,57,120,56,103,102,50,116,118,100,119,48,115,51,106,110,53,52,107,104,99,101,54,109,117,97,55,108]
def encOf (y ns : List Nat) : List Nat := y ++ [49] ++ (ns ++ chkOf y ns).map (fun d => cset.getD d 0)
theorem chkOf_lt {y ns : List Nat} {d : Nat} (h : d ∈ chkOf y ns) : d < 32 := by
  unfold chkOf at h
  obtain ⟨i, _, rfl⟩ := List.mem_map.mp h
  exact Nat.lt_of_le_of_lt Nat.and_le_right (by decide)
theorem chkOf_length (y ns : List Nat) : (chkOf y ns).length = 6 := by simp [chkOf]
set_option maxRecDepth 100000 in
set_option maxHeartbeats 8000000 in
theorem b32encode_spec (w : World) (mg mb : Str → Option Value) (A : Around) (s : Shared) (y : List Nat) (t : Tok) (l : Addr) (vs : List Value) (ns : List Nat)
   (E : Value → Shared → Prop) (X : (hd.heap_39 w.params).In s.heap) (T : TopRead hd.view_39 loo mg mb s.heap) (hA : A.handled = none) (hd : A.depth + 3 < recursionLimit)
   (hy : y.length ≤ 1000) (hl : s.heap.IsList l vs.toArray) (hI : IntsAre vs (natv ns)) (hns : ns.length ≤ 900) (h32 : ∀ d ∈ ns, d < 32) :
   wpAny (model PySem.Challenge.rw_fw0006_01.row.prog w) A (call (.ref 43) [.str (tx y) t, .ref l]) (fun v s' => (∃ t, v = .str (tx (encOf y ns)) t) ∧ Keeps s s') E s := by
  revert X
  k_fill
  intro X
  refine' enter (binds := [("hrp", .str (tx y) t), ("data", .ref l)]) X T.nolimit ?a ?b ?c ?d ?e ?h ?i ?j ?k ?l
  (case a => omega); (case b => k_is); (case c => k_is); (case d => exact BindsTo.of_eq rfl); (case e => exact locs rfl); (case i => rfl); (case j => rfl); (case k => rfl); (case l => decide)
  intro L h₁ hL F N
  try dsimp only
  try k_fold
  (repeat' (first | ((with_reducible show Frag.In _ _ ∧ _); walk1) | ((fail_if_success (with_reducible show _ ∧ _)); (fail_if_success (with_reducible show wpAny _ _ (binaryOp Operator.Add _ _) _ _ _)); first | (k_unfold; (try dsimp only)) | walk1 | (dsimp only; walk1)) | fail "no step"))
  have hlen : vs.length = ns.length := by have := hI.length; rw [natv_length] at this; omega
  refine copy_nl (by k_asm) (by k_asm) (by walk_at "isl") (by omega) ?_
  intro D2 H2 tk2 c2 F2 N2
  (repeat' (first | ((with_reducible show Frag.In _ _ ∧ _); walk1) | ((fail_if_success (with_reducible show _ ∧ _)); (fail_if_success (with_reducible show wpAny _ _ (call (Value.ref _) _) _ _ _)); first | (k_unfold; (try dsimp only)) | walk1 | (dsimp only; walk1)) | fail "no step"))
  refine wpAny_mono (create_spec w mg mb _ _ (tx y) t l vs ns _ (by k_in) (by walk_at "topr") hA (by (repeat rw [deeper_depth]); omega) hy (by walk_at "isl") hI (by omega)) ?_ (fun _ _ e => e)
  (rintro _ _ ⟨⟨l3, vs3, rfl, hl3, I3, hn3⟩, H3, tk3, rfl, hk3⟩; (rename Fr _ _ _ _ => F0); (rename News _ _ _ _ => N0); obtain ⟨d3, n3, sl3, N3⟩ := news_list F0 N0 hn3 hl3 hk3; (have F3 := F0.keeps hk3); clear hl3 hn3 hk3 F0 N0; (try dsimp only))
  (repeat' (first | ((with_reducible show Frag.In _ _ ∧ _); walk1) | ((fail_if_success (with_reducible show _ ∧ _)); (fail_if_success (with_reducible show wpAny _ _ (binaryOp Operator.Add _ _) _ _ _)); first | (k_unfold; (try dsimp only)) | walk1 | (dsimp only; walk1)) | fail "no step"))
  refine add_nl (by k_asm) (by k_asm) (by walk_at "isl") (by walk_at "isl") hI I3 (by rw [chkOf_length]; omega) ?_
  intro D4 H4 tk4 F4 N4 I4
  (repeat' (first | ((with_reducible show Frag.In _ _ ∧ _); walk1) | ((fail_if_success (with_reducible show _ ∧ _)); (fail_if_success (with_reducible show wpAny _ _ (binaryOp Operator.Add _ _) _ _ _)); first | (k_unfold; (try dsimp only)) | walk1 | (dsimp only; walk1)) | fail "no step"))
  refine add_s (a := y) (b := [49]) rfl (by decide +kernel) (by simp only [List.length_append, List.length_map, List.length_cons, List.length_nil, List.length_range, List.length_take, List.length_drop, List.length_replicate] <;> omega) ?_
  intro t5 tk5
  (repeat' (first | ((with_reducible show Frag.In _ _ ∧ _); walk1) | ((fail_if_success (with_reducible show _ ∧ _)); (fail_if_success (with_reducible show wpAny _ _ (eval (Expr.ListComp _ _ _ _) _) _ _ _)); first | (k_unfold; (try dsimp only)) | walk1 | (dsimp only; walk1)) | fail "no step"))
  refine' comp_f (as := ns ++ chkOf y ns) (V := NatV) (pz := fun _ => true) (Wt := SignV) (g := fun d => cset.getD d 0) (cl := []) natV_inj hA (by rfl) (by decide) rfl (by decide) rfl ?_ (by intro _; rfl)
  (repeat' (first | ((with_reducible show Frag.In _ _ ∧ _); walk1) | ((fail_if_success (with_reducible show _ ∧ _)); first | (k_unfold; (try dsimp only)) | walk1 | (dsimp only; walk1)) | fail "no step"))
  refine ⟨src_list (by walk_at "isl") (paired_of_ints I4), by (rw [List.length_append, chkOf_length, show sizeLine = 2 ^ 24 from rfl]; omega), Elt.plain ?_, ?_⟩
  · intro C a v H gs dr tk os m₃ E' ha hv hn hm hk hC
    obtain ⟨tv, rfl⟩ := hv
    have ha : a < 32 := (List.mem_append.mp ha).elim (h32 a) chkOf_lt
    rename Fr _ _ _ _ => F7
    rename News _ _ _ _ => N7
    have X' := (X.keeps F7.keep).keeps hk
    have T' := (T.keeps F7.keep).keeps hk
    clear F7 N7 X T
    (repeat' (first | ((with_reducible show Frag.In _ _ ∧ _); walk1) | ((fail_if_success (with_reducible show _ ∧ _)); (fail_if_success (with_reducible show wpAny _ _ (subscriptTail _ _ _ _) _ _ _)); first | (k_unfold; (try dsimp only)) | walk1 | (dsimp only; walk1)) | fail "no step"))
    refine item_s (l := cset) (by decide +kernel) (by show a < 32; exact ha) (by decide) ?_ (by with_unfolding_all rfl)
    intro _ _
    exact ⟨⟨_, rfl⟩, Keeps.rfl'⟩
  intro D6 H6 tk6 ys6 hD6 hl6 hv6 hk6
  rw [filter_true] at hv6
  rename Fr _ _ _ _ => F0
  rename News _ _ _ _ => N0
  obtain ⟨d6, n6, sl6, N6⟩ := news_list F0 N0 hD6 hl6 hk6
  have F6 := F0.keeps hk6
  clear hl6 hk6 hD6 F0 N0
  try dsimp only
  (repeat' (first | ((with_reducible show Frag.In _ _ ∧ _); walk1) | ((fail_if_success (with_reducible show _ ∧ _)); (fail_if_success (with_reducible show wpAny _ _ (call (Value.builtin "str.join") _) _ _ _)); first | (k_unfold; (try dsimp only)) | walk1 | (dsimp only; walk1)) | fail "no step"))
  refine join_n rfl (by walk_at "isl") hv6 (by rw [List.length_map, List.length_append, chkOf_length]; omega) ?_
  intro t7 tk7
  (repeat' (first | ((with_reducible show Frag.In _ _ ∧ _); walk1) | ((fail_if_success (with_reducible show _ ∧ _)); (fail_if_success (with_reducible show wpAny _ _ (binaryOp Operator.Add _ _) _ _ _)); first | (k_unfold; (try dsimp only)) | walk1 | (dsimp only; walk1)) | fail "no step"))
  refine add_s rfl rfl (by rw [List.length_map]; simp only [List.length_append, chkOf_length, List.length_cons, List.length_nil]; omega) ?_
  intro t8 tk8
  (repeat' (first | ((with_reducible show Frag.In _ _ ∧ _); walk1) | ((fail_if_success (with_reducible show _ ∧ _)); first | (k_unfold; (try dsimp only)) | walk1 | (dsimp only; walk1)) | fail "no step"))
  exact ⟨⟨t8, rfl⟩, _, _, rfl, F6.keep⟩
end Mine
namespace Mine
local macro_rules | `(tactic| walk_at "eval Constant int") => `(tactic| (refine const_n ?_; intro _ _))
local macro_rules | `(tactic| walk_at "binaryOp BitAnd int int") => `(tactic| (refine and_n ?_; intro _ _))
local macro_rules | `(tactic| walk_at "binaryOp BitOr int int") => `(tactic| (refine or_n ?_; intro _ _))
local macro_rules | `(tactic| walk_at "binaryOp BitXor int int") => `(tactic| (refine xor_n ?_; intro _ _))
local macro_rules | `(tactic| walk_at "inplaceOp BitXor int int") => `(tactic| (refine ixor_n ?_; intro _ _))
local macro_rules | `(tactic| walk_at "binaryOp RShift int int") => `(tactic| (refine rsh_n ?_; intro _ _))
local macro_rules | `(tactic| walk_at "binaryOp Add int int") => `(tactic| (refine add_n ?_; intro _ _))
local macro_rules | `(tactic| walk_at "inplaceOp Add int int") => `(tactic| (refine iadd_n ?_; intro _ _))
local macro_rules | `(tactic| walk_at "binaryOp FloorDiv int int") => `(tactic| (refine div_n (by decide) (by decide) ?_; intro _ _))
local macro_rules | `(tactic| walk_at "binaryOp Mod int int") => `(tactic| (refine mod_n (by decide) ?_; intro _ _))
local macro_rules | `(tactic| walk_at "truthy int") => `(tactic| refine truthy_n ?_)
local macro_rules | `(tactic| walk_at "look") => `(tactic| ((try dsimp only); first | assumption | exact if_pos rfl | (refine Eq.trans (if_neg (by decide)) ?_; walk_at "look") | (refine Eq.trans (Upto.out (by assumption) (by decide)) ?_; walk_at "look") | rfl))
local macro_rules | `(tactic| walk_at "mem") => `(tactic| (intro p9 hp9; first | exact hp9 | (repeat' (first | exact hp9 | refine List.mem_cons_of_mem _ ?_))))
local macro_rules | `(tactic| walk_at "upto") => `(tactic| first | assumption | exact Upto.refl | (refine Upto.set (by first | decide | decide +kernel | simp) ?_; walk_at "upto") | (refine' Upto.trans ?hs ?h1 ?_; (case h1 => assumption); (case hs => first | decide | decide +kernel); walk_at "upto"))
local macro_rules | `(tactic| walk_at "memx") => `(tactic| first | exact List.Mem.head _ | (refine List.Mem.tail _ ?_; walk_at "memx") | (refine List.mem_append_left _ ?_; walk_at "memx") | (refine List.mem_append_right _ ?_; walk_at "memx"))
local macro_rules | `(tactic| walk_at "TurnEnd next") => `(tactic| (refine' TurnEnd.next ?F ?N ?n ?_ ?U; (case F => k_asm); (case N => k_asm); (case n => walk_at "mem"); (case U => walk_at "upto")))
local macro_rules | `(tactic| walk_at "loadName") => `(tactic| (k_here; k_dflt (refine' ldn ?k1 ?k2 ?_; (case k1 => k_asm); (case k2 => walk_at "look"); k_whole)))
local macro_rules | `(tactic| walk_at "topr") => `(tactic| first | assumption | exact TopRead.keeps (by assumption) (Fr.keep (by assumption)))
local macro_rules | `(tactic| walk_at "eval Name") => `(tactic| (k_here; k_dflt (first
  | (refine' nm_localF ?F ?v ?_ ?a ?b ?c; (case b => rfl); (case a => rfl); (case c => decide); (case F => k_asm); (case v => walk_at "look"); k_whole)
  | (refine' nm_local ?F ?v ?_ ?a ?b ?c; (case b => rfl); (case a => rfl); (case c => decide); (case F => k_asm); (case v => walk_at "look"); k_whole)
  | (refine' nm_cell ?F ?v ?_ ?a ?b ?c; (case b => rfl); (case a => rfl); (case c => decide); (case v => rfl); (case F => k_asm); k_whole)
  | (refine' nm_K ?X ?T ?e ?_ ?g ?a ?b ?c; (case b => rfl); (case a => rfl); (case g => rfl); (case c => decide); (case X => k_in); (case T => walk_at "topr"); (case e => k_is); k_whole)
  | (refine' nm_B ?X ?T ?e ?v ?_ ?g ?h ?a ?b ?c ?n; (case b => rfl); (case a => rfl); (case g => rfl); (case h => rfl); (case c => decide); (case n => decide); (case X => k_in); (case T => walk_at "topr"); (case e => k_is); (case v => first | boot_fast | boot_by_name); k_whole))))
local macro_rules | `(tactic| walk_at "isl") => `(tactic| first | assumption | exact News.isList (by k_asm) (by walk_at "memx") | exact Heap.IsList.at (by assumption) (fun o e => Fr.keep (by k_asm) _ o e))
local macro_rules | `(tactic| walk_at "ints") => `(tactic| first | assumption | exact .nil | exact IntsAre.cons _ _ (by walk_at "ints"))
local macro_rules | `(tactic| walk_at "compareOp Eq int int") => `(tactic| refine eq_n ?_)
local macro_rules | `(tactic| walk_at "compareOp NotEq int int") => `(tactic| refine ne_n ?_)
local macro_rules | `(tactic| walk_at "compareOp Lt int int") => `(tactic| refine lt_n ?_)
local macro_rules | `(tactic| walk_at "compareOp Gt int int") => `(tactic| refine gt_n ?_)
local macro_rules | `(tactic| walk_at "compareOp LtE int int") => `(tactic| refine le_n ?_)
local macro_rules | `(tactic| walk_at "compareOp GtE int int") => `(tactic| refine ge_n ?_)
local macro_rules | `(tactic| walk_at "binaryOp Mult int int") => `(tactic| ((first | refine mul_n ?_ (IntMulOk.of_left (by decide +kernel)) | refine mul_n ?_ (IntMulOk.of_right (by decide +kernel))); intro _ _))
local macro_rules | `(tactic| walk_at "binaryOp Sub int int") => `(tactic| (refine sub_n (by omega) ?_; intro _ _))
local macro_rules | `(tactic| walk_at "storeName") => `(tactic| (k_dflt (refine' store_g ?a ?b ?c ?F ?N ?_; (case a => rfl); (case b => rfl); (case F => k_asm); (case c => rfl); (case N => k_asm); k_whole); intro h' tk' F' N'; (try k_sweep)))
local macro_rules | `(tactic| walk_at "eval Constant str") => `(tactic| (refine const_s ?_; intro _ _))
local macro_rules | `(tactic| walk_at "call builtin:len") => `(tactic| (k_dflt (refine' len_nl ?hl ?hI ?sz ?_; (case hl => walk_at "isl"); (case hI => walk_at "ints"); (case sz => (try simp only [List.length_append, List.length_map, List.length_cons, List.length_nil, List.length_range]); omega); k_whole); intro _ _))
local macro_rules | `(tactic| walk_at "inplaceOp Sub int int") => `(tactic| (refine isub_n (by omega) ?_; intro _ _))
local macro_rules | `(tactic| k_in) => `(tactic| first | with_reducible assumption | exact Frag.In.keeps (by with_reducible assumption) (Fr.keep (by with_reducible assumption)))
def lowc (c : Nat) : Nat := if 65 ≤ c ∧ c ≤ 90 then c + 32 else c
set_option maxRecDepth 100000 in
set_option maxHeartbeats 8000000 in
theorem low_spec (w : World) (mg mb : Str → Option Value) (A : Around) (s : Shared) (c : Nat) (t : Tok)
   (E : Value → Shared → Prop) (X : (hd.heap_39 w.params).In s.heap) (T : TopRead hd.view_39 loo mg mb s.heap) (hA : A.handled = none) (hd : A.depth + 1 < recursionLimit) :
   wpAny (model PySem.Challenge.rw_fw0006_01.row.prog w) A (call (.ref 78) [.int (c : Int) t]) (fun v s' => (∃ t, v = .int (lowc c : Int) t) ∧ Keeps s s') E s := by
  revert X
  k_fill
  intro X
  refine' enter (binds := [("code", .int (c : Int) t)]) X T.nolimit ?a ?b ?c ?d ?e ?h ?i ?j ?k ?l
  (case a => omega); (case b => k_is); (case c => k_is); (case d => exact BindsTo.of_eq rfl); (case e => exact locs rfl); (case i => rfl); (case j => rfl); (case k => rfl); (case l => decide)
  intro L h₁ hL F N
  try dsimp only
  try k_fold
  (repeat' (first | ((with_reducible show Frag.In _ _ ∧ _); walk1) | ((fail_if_success (with_reducible show _ ∧ _)); first | (k_unfold; (try dsimp only)) | walk1 | (dsimp only; walk1)) | fail "no step"))
  · exact ⟨⟨_, by (show Value.int _ _ = _; rw [lowc, if_pos ⟨by assumption, by assumption⟩])⟩, _, _, rfl, F.keep⟩
  · exact ⟨⟨_, by (show Value.int _ _ = _; rw [lowc, if_neg (fun q => absurd q.2 (by assumption))])⟩, _, _, rfl, F.keep⟩
  · exact ⟨⟨_, by (show Value.int _ _ = _; rw [lowc, if_neg (fun q => absurd q.1 (by assumption))])⟩, _, _, rfl, F.keep⟩

def twos : List Nat := [1, 2, 4, 8, 16, 32, 64, 128]
theorem twos_ok : ∀ j, j < 8 → 0 < twos.getD j 0 ∧ twos.getD j 0 < 2 ^ 30 := by decide
def wideOf (fives : List Nat) (place : Nat) : Nat := (List.range 3).foldl (fun wd st => wd * 32 + (if place + st < fives.length then fives.getD (place + st) 0 else 0)) 0
def windowOf (fives : List Nat) (start : Nat) : Nat := wideOf fives (start / 5) / twos.getD (7 - start % 5) 0 % 256
set_option maxRecDepth 100000 in
set_option maxHeartbeats 8000000 in
theorem window_spec (w : World) (mg mb : Str → Option Value) (A : Around) (s : Shared) (l : Addr) (vs : List Value) (ns : List Nat) (start : Nat) (t : Tok)
   (E : Value → Shared → Prop) (X : (hd.heap_39 w.params).In s.heap) (T : TopRead hd.view_39 loo mg mb s.heap) (hA : A.handled = none) (hd : A.depth + 1 < recursionLimit)
   (hl : s.heap.IsList l vs.toArray) (hI : IntsAre vs (natv ns)) (hns : ns.length ≤ 1000) :
   wpAny (model PySem.Challenge.rw_fw0006_01.row.prog w) A (call (.ref 85) [.ref l, .int (start : Int) t]) (fun v s' => (∃ t, v = .int (windowOf ns start : Int) t) ∧ Keeps s s') E s := by
  revert X
  k_fill
  intro X
  refine' enter (binds := [("fives", .ref l), ("start", .int (start : Int) t)]) X T.nolimit ?a ?b ?c ?d ?e ?h ?i ?j ?k ?l
  (case a => omega); (case b => k_is); (case c => k_is); (case d => exact BindsTo.of_eq rfl); (case e => exact locs rfl); (case i => rfl); (case j => rfl); (case k => rfl); (case l => decide)
  intro L h₁ hL F N
  try dsimp only
  try k_fold
  (repeat' (first | ((with_reducible show Frag.In _ _ ∧ _); walk1) | ((fail_if_success (with_reducible show _ ∧ _)); (fail_if_success (with_reducible show wpAny _ _ (exec (Stmt.For _ _ _ _ _) _) _ _ _)); first | (k_unfold; (try dsimp only)) | walk1 | (dsimp only; walk1)) | fail "no step"))
  rename Fr _ _ _ _ => F1
  rename News _ _ _ _ => N1
  refine For_invV s.heap (by rfl) (by rfl) ?_ (by intro _; rfl)
  (repeat' (first | ((with_reducible show Frag.In _ _ ∧ _); walk1) | ((fail_if_success (with_reducible show _ ∧ _)); first | (k_unfold; (try dsimp only)) | walk1 | (dsimp only; walk1)) | fail "no step"))
  try dsimp only
  rename IsRange _ _ _ _ _ _ _ _ => hr
  rename Fr _ _ _ _ => F3
  rename News _ _ _ _ => N3
  refine for_range (σ := Nat) (n := 3) ["wide"] (fun c m => ∃ t, m "wide" = some (.int (c : Int) t)) (fun (wd : Nat) (k : Int) => wd * 32 + (if start / 5 + k.toNat < ns.length then ns.getD (start / 5 + k.toNat) 0 else 0)) 0 hA hr (by decide) (by decide) F3 N3 ⟨_, by walk_at "look"⟩ ?_ ?_
  · rintro k t c1 m2 h6 tk6 own1 hk1 hoff1 ⟨tc1, hc1⟩ hU1 F4 N4
    rw [rangeKs_nat] at hk1
    obtain ⟨k1, hk1', rfl⟩ := List.mem_map.mp hk1
    have hk5 : k1 < 3 := List.mem_range.mp hk1'
    try dsimp only
    (repeat' (first | ((with_reducible show Frag.In _ _ ∧ _); walk1) | ((fail_if_success (with_reducible show _ ∧ _)); (fail_if_success (with_reducible show wpAny _ _ (subscriptTail _ _ _ _) _ _ _)); first | (k_unfold; (try dsimp only)) | walk1 | (dsimp only; walk1)) | fail "no step"))
    · refine item_n (by walk_at "isl") hI (by assumption) (by omega) ?_ (by with_unfolding_all rfl)
      intro _
      (repeat' (first | ((with_reducible show Frag.In _ _ ∧ _); walk1) | ((fail_if_success (with_reducible show _ ∧ _)); first | (k_unfold; (try dsimp only)) | walk1 | (dsimp only; walk1)) | fail "no step"))
      walk_at "TurnEnd next"
      refine' ⟨_, Eq.trans (b := some (Value.int _ _)) (by walk_at "look") ?_⟩; rotate_left
      rw [Int.toNat_natCast, if_pos (by assumption)]
    · walk_at "TurnEnd next"
      refine' ⟨_, Eq.trans (b := some (Value.int _ _)) (by walk_at "look") ?_⟩; rotate_left
      rw [Int.toNat_natCast, if_neg (by assumption)]
  · rintro m2 h6 tk6 ⟨tc1, hc1⟩ hU1 F4 N4
    try dsimp only
    (repeat' (first | ((with_reducible show Frag.In _ _ ∧ _); walk1) | ((fail_if_success (with_reducible show _ ∧ _)); (fail_if_success (with_reducible show wpAny _ _ (subscriptTail _ _ _ _) _ _ _)); first | (k_unfold; (try dsimp only)) | walk1 | (dsimp only; walk1)) | fail "no step"))
    refine item_t (ns := twos) (K_tup (X.keeps F4.keep) (by k_is)) (by walk_at "ints") (by show 7 - start % 5 < 8; omega) (by omega) ?_ (by with_unfolding_all rfl)
    intro _
    refine div_n (twos_ok _ (by omega)).1 (twos_ok _ (by omega)).2 ?_
    intro _ _
    (repeat' (first | ((with_reducible show Frag.In _ _ ∧ _); walk1) | ((fail_if_success (with_reducible show _ ∧ _)); first | (k_unfold; (try dsimp only)) | walk1 | (dsimp only; walk1)) | fail "no step"))
    refine' ⟨⟨_, ?_⟩, _, _, rfl, F4.keep⟩; rotate_left
    show Value.int _ _ = Value.int _ _
    rw [rangeKs_nat, fold_natv (fun wd st => wd * 32 + (if start / 5 + st < ns.length then ns.getD (start / 5 + st) 0 else 0))]; rfl
def octetsOf (fives : List Nat) : Option (List Nat) :=
  if 5 * fives.length % 8 ≥ 5 ∨ (5 * fives.length % 8 > 0 ∧ fives.getLastD 0 % twos.getD (5 * fives.length % 8) 0 > 0) then none
  else some ((List.range (5 * fives.length / 8)).map fun place => windowOf fives (8 * place))
def OptRes (s s' : Shared) (v : Value) : Option (List Nat) → Prop
  | none => v = .none
  | some ns => ListRes s s' v ns
set_option maxRecDepth 100000 in
set_option maxHeartbeats 8000000 in
theorem octets_spec (w : World) (mg mb : Str → Option Value) (A : Around) (s : Shared) (l : Addr) (vs : List Value) (ns : List Nat)
   (E : Value → Shared → Prop) (X : (hd.heap_39 w.params).In s.heap) (T : TopRead hd.view_39 loo mg mb s.heap) (hA : A.handled = none) (hd : A.depth + 2 < recursionLimit)
   (hl : s.heap.IsList l vs.toArray) (hI : IntsAre vs (natv ns)) (hns : ns.length ≤ 1000) :
   wpAny (model PySem.Challenge.rw_fw0006_01.row.prog w) A (call (.ref 90) [.ref l]) (fun v s' => OptRes s s' v (octetsOf ns) ∧ Keeps s s') E s := by
  revert X
  k_fill
  intro X
  refine' enterC (binds := [("fives", .ref l)]) s.heap ?a0 ?a1 X T.nolimit ?a ?b ?c ?d ?e ?f ?h ?i ?j ?k
  (case a0 => exact fun _ _ e => e); (case a1 => exact Nat.le_refl _); (case a => omega); (case b => k_is); (case c => k_is); (case d => exact BindsTo.of_eq rfl); (case e => exact rfl); (case f => decide +kernel); (case i => rfl); (case j => rfl); (case k => rfl)
  intro L h₁ tk0 cells hL F N Y hk0
  obtain ⟨oc, rfl, hoc⟩ := CellsAre.one Y
  clear Y
  try dsimp only
  try k_fold
  (repeat' (first | ((with_reducible show Frag.In _ _ ∧ _); walk1) | ((fail_if_success (with_reducible show _ ∧ _)); (fail_if_success (with_reducible show wpAny _ _ (subscriptTail _ _ _ _) _ _ _)); (fail_if_success (with_reducible show wpAny _ _ (eval (Expr.ListComp _ _ _ _) _) _ _ _)); first | (k_unfold; (try dsimp only)) | walk1 | (dsimp only; walk1)) | fail "no step"))
  · rename Fr _ _ _ _ => F1
    refine ⟨?_, _, _, rfl, F1.keep⟩
    show OptRes s _ Value.none (octetsOf ns)
    rw [show octetsOf ns = none from if_pos (.inl (by assumption))]
    rfl
  · have h0 : 0 < ns.length := by omega
    refine item_last (by walk_at "isl") hI h0 ?_ (by with_unfolding_all rfl)
    intro _
    (repeat' (first | ((with_reducible show Frag.In _ _ ∧ _); walk1) | ((fail_if_success (with_reducible show _ ∧ _)); (fail_if_success (with_reducible show wpAny _ _ (subscriptTail _ _ _ _) _ _ _)); (fail_if_success (with_reducible show wpAny _ _ (eval (Expr.ListComp _ _ _ _) _) _ _ _)); first | (k_unfold; (try dsimp only)) | walk1 | (dsimp only; walk1)) | fail "no step"))
    refine item_t (ns := twos) (K_tup (X.keeps (Fr.keep (by k_asm))) (by k_is)) (by walk_at "ints") (by show _ < 8; omega) (by omega) ?_ (by with_unfolding_all rfl)
    intro _
    (repeat' (first | ((with_reducible show Frag.In _ _ ∧ _); walk1) | ((fail_if_success (with_reducible show _ ∧ _)); (fail_if_success (with_reducible show wpAny _ _ (subscriptTail _ _ _ _) _ _ _)); (fail_if_success (with_reducible show wpAny _ _ (eval (Expr.ListComp _ _ _ _) _) _ _ _)); first | (k_unfold; (try dsimp only)) | walk1 | (dsimp only; walk1)) | fail "no step"))
    refine mod_n (twos_ok _ (by omega)).1 ?_
    intro _ _
    (repeat' (first | ((with_reducible show Frag.In _ _ ∧ _); walk1) | ((fail_if_success (with_reducible show _ ∧ _)); (fail_if_success (with_reducible show wpAny _ _ (eval (Expr.ListComp _ _ _ _) _) _ _ _)); first | (k_unfold; (try dsimp only)) | walk1 | (dsimp only; walk1)) | fail "no step"))
    · rename Fr _ _ _ _ => F1
      refine ⟨?_, _, _, rfl, F1.keep⟩
      show OptRes s _ Value.none (octetsOf ns)
      rw [show octetsOf ns = none from if_pos (.inr ⟨by assumption, by assumption⟩)]
      rfl

    refine' comp_f (as := List.range (5 * ns.length / 8)) (V := NatV) (pz := fun _ => true) (Wt := NatV) (g := fun place => windowOf ns (8 * place)) natV_inj hA (by rfl) (by decide) rfl (by decide) rfl ?_ (by intro _; rfl)
    (repeat' (first | ((with_reducible show Frag.In _ _ ∧ _); walk1) | ((fail_if_success (with_reducible show _ ∧ _)); first | (k_unfold; (try dsimp only)) | walk1 | (dsimp only; walk1)) | fail "no step"))
    refine ⟨src_range (by assumption) (rsmall (by omega)) (rsize _), by (rw [List.length_range, show sizeLine = 2 ^ 24 from rfl]; omega), Elt.plain ?_, ?_⟩
    · intro C a v H gs dr tk os m₃ E' ha hv hn hm hk hC
      obtain ⟨tv, rfl⟩ := hv
      rename Fr _ _ _ _ => F7
      rename News _ _ _ _ => N7
      have X' := (X.keeps F7.keep).keeps hk
      have T' := (T.keeps F7.keep).keeps hk
      have HC := (cellAt N7 (by walk_at "memx") hoc).keeps hk
      have hl' := (hl.at fun o e => F7.keep _ o e).at fun o e => hk _ o e
      clear F7 N7 X T
      (repeat' (first | ((with_reducible show Frag.In _ _ ∧ _); walk1) | ((fail_if_success (with_reducible show _ ∧ _)); (fail_if_success (with_reducible show wpAny _ _ (call (Value.ref _) _) _ _ _)); first | (k_unfold; (try dsimp only)) | walk1 | (dsimp only; walk1)) | fail "no step"))
      exact window_spec w mg mb _ _ l vs ns (8 * a) _ _ X' T' hA (by (repeat rw [deeper_depth]); omega) hl' hI hns
    (intro D8 H8 tk8 ys8 hD8 hl8 hv8 hk8; (try rw [filter_true] at hv8); (rename Fr _ _ _ _ => F0); (rename News _ _ _ _ => N0); obtain ⟨d8, n8, sl8, N8⟩ := news_list F0 N0 hD8 hl8 hk8; (have F8 := F0.keeps hk8); (have I8 := ints_of_paired hv8); clear hl8 hv8 hk8 hD8 F0 N0; (try dsimp only))
    (repeat' (first | ((with_reducible show Frag.In _ _ ∧ _); walk1) | ((fail_if_success (with_reducible show _ ∧ _)); first | (k_unfold; (try dsimp only)) | walk1 | (dsimp only; walk1)) | fail "no step"))
    refine ⟨?_, _, _, rfl, F8.keep⟩
    show OptRes s _ (Value.ref D8) (octetsOf ns)
    rw [show octetsOf ns = some _ from if_neg (by omega)]
    exact ⟨D8, _, rfl, News.isList N8 (.head _), I8, (N8 _ (.head _)).2.2⟩
  · (repeat' (first | ((with_reducible show Frag.In _ _ ∧ _); walk1) | ((fail_if_success (with_reducible show _ ∧ _)); (fail_if_success (with_reducible show wpAny _ _ (eval (Expr.ListComp _ _ _ _) _) _ _ _)); first | (k_unfold; (try dsimp only)) | walk1 | (dsimp only; walk1)) | fail "no step"))
    refine' comp_f (as := List.range (5 * ns.length / 8)) (V := NatV) (pz := fun _ => true) (Wt := NatV) (g := fun place => windowOf ns (8 * place)) natV_inj hA (by rfl) (by decide) rfl (by decide) rfl ?_ (by intro _; rfl)
    (repeat' (first | ((with_reducible show Frag.In _ _ ∧ _); walk1) | ((fail_if_success (with_reducible show _ ∧ _)); first | (k_unfold; (try dsimp only)) | walk1 | (dsimp only; walk1)) | fail "no step"))
    refine ⟨src_range (by assumption) (rsmall (by omega)) (rsize _), by (rw [List.length_range, show sizeLine = 2 ^ 24 from rfl]; omega), Elt.plain ?_, ?_⟩
    · intro C a v H gs dr tk os m₃ E' ha hv hn hm hk hC
      obtain ⟨tv, rfl⟩ := hv
      rename Fr _ _ _ _ => F7
      rename News _ _ _ _ => N7
      have X' := (X.keeps F7.keep).keeps hk
      have T' := (T.keeps F7.keep).keeps hk
      have HC := (cellAt N7 (by walk_at "memx") hoc).keeps hk
      have hl' := (hl.at fun o e => F7.keep _ o e).at fun o e => hk _ o e
      clear F7 N7 X T
      (repeat' (first | ((with_reducible show Frag.In _ _ ∧ _); walk1) | ((fail_if_success (with_reducible show _ ∧ _)); (fail_if_success (with_reducible show wpAny _ _ (call (Value.ref _) _) _ _ _)); first | (k_unfold; (try dsimp only)) | walk1 | (dsimp only; walk1)) | fail "no step"))
      exact window_spec w mg mb _ _ l vs ns (8 * a) _ _ X' T' hA (by (repeat rw [deeper_depth]); omega) hl' hI hns
    (intro D8 H8 tk8 ys8 hD8 hl8 hv8 hk8; (try rw [filter_true] at hv8); (rename Fr _ _ _ _ => F0); (rename News _ _ _ _ => N0); obtain ⟨d8, n8, sl8, N8⟩ := news_list F0 N0 hD8 hl8 hk8; (have F8 := F0.keeps hk8); (have I8 := ints_of_paired hv8); clear hl8 hv8 hk8 hD8 F0 N0; (try dsimp only))
    (repeat' (first | ((with_reducible show Frag.In _ _ ∧ _); walk1) | ((fail_if_success (with_reducible show _ ∧ _)); first | (k_unfold; (try dsimp only)) | walk1 | (dsimp only; walk1)) | fail "no step"))
    refine ⟨?_, _, _, rfl, F8.keep⟩
    show OptRes s _ (Value.ref D8) (octetsOf ns)
    rw [show octetsOf ns = some _ from if_neg (by omega)]
    exact ⟨D8, _, rfl, News.isList N8 (.head _), I8, (N8 _ (.head _)).2.2⟩
end Mine
namespace Mine
local macro_rules | `(tactic| walk_at "eval Constant int") => `(tactic| (refine const_n ?_; intro _ _))
local macro_rules | `(tactic| walk_at "binaryOp BitAnd int int") => `(tactic| (refine and_n ?_; intro _ _))
local macro_rules | `(tactic| walk_at "binaryOp BitOr int int") => `(tactic| (refine or_n ?_; intro _ _))
local macro_rules | `(tactic| walk_at "binaryOp BitXor int int") => `(tactic| (refine xor_n ?_; intro _ _))
local macro_rules | `(tactic| walk_at "inplaceOp BitXor int int") => `(tactic| (refine ixor_n ?_; intro _ _))
local macro_rules | `(tactic| walk_at "binaryOp RShift int int") => `(tactic| (refine rsh_n ?_; intro _ _))
local macro_rules | `(tactic| walk_at "binaryOp Add int int") => `(tactic| (refine add_n ?_; intro _ _))
local macro_rules | `(tactic| walk_at "inplaceOp Add int int") => `(tactic| (refine iadd_n ?_; intro _ _))
local macro_rules | `(tactic| walk_at "binaryOp FloorDiv int int") => `(tactic| (refine div_n (by decide) (by decide) ?_; intro _ _))
local macro_rules | `(tactic| walk_at "binaryOp Mod int int") => `(tactic| (refine mod_n (by decide) ?_; intro _ _))
local macro_rules | `(tactic| walk_at "truthy int") => `(tactic| refine truthy_n ?_)
local macro_rules | `(tactic| walk_at "look") => `(tactic| ((try dsimp only); first | assumption | exact if_pos rfl | (refine Eq.trans (if_neg (by decide)) ?_; walk_at "look") | (refine Eq.trans (Upto.out (by assumption) (by decide)) ?_; walk_at "look") | rfl))
local macro_rules | `(tactic| walk_at "mem") => `(tactic| (intro p9 hp9; first | exact hp9 | (repeat' (first | exact hp9 | refine List.mem_cons_of_mem _ ?_))))
local macro_rules | `(tactic| walk_at "upto") => `(tactic| first | assumption | exact Upto.refl | (refine Upto.set (by first | decide | decide +kernel | simp) ?_; walk_at "upto") | (refine' Upto.trans ?hs ?h1 ?_; (case h1 => assumption); (case hs => first | decide | decide +kernel); walk_at "upto"))
local macro_rules | `(tactic| walk_at "memx") => `(tactic| first | exact List.Mem.head _ | (refine List.Mem.tail _ ?_; walk_at "memx") | (refine List.mem_append_left _ ?_; walk_at "memx") | (refine List.mem_append_right _ ?_; walk_at "memx"))
local macro_rules | `(tactic| walk_at "TurnEnd next") => `(tactic| (refine' TurnEnd.next ?F ?N ?n ?_ ?U; (case F => k_asm); (case N => k_asm); (case n => walk_at "mem"); (case U => walk_at "upto")))
local macro_rules | `(tactic| walk_at "loadName") => `(tactic| (k_here; k_dflt (refine' ldn ?k1 ?k2 ?_; (case k1 => k_asm); (case k2 => walk_at "look"); k_whole)))
local macro_rules | `(tactic| walk_at "topr") => `(tactic| first | assumption | exact TopRead.keeps (by assumption) (Fr.keep (by assumption)))
local macro_rules | `(tactic| walk_at "eval Name") => `(tactic| (k_here; k_dflt (first
  | (refine' nm_localF ?F ?v ?_ ?a ?b ?c; (case b => rfl); (case a => rfl); (case c => decide); (case F => k_asm); (case v => walk_at "look"); k_whole)
  | (refine' nm_local ?F ?v ?_ ?a ?b ?c; (case b => rfl); (case a => rfl); (case c => decide); (case F => k_asm); (case v => walk_at "look"); k_whole)
  | (refine' nm_cell ?F ?v ?_ ?a ?b ?c; (case b => rfl); (case a => rfl); (case c => decide); (case v => rfl); (case F => k_asm); k_whole)
  | (refine' nm_K ?X ?T ?e ?_ ?g ?a ?b ?c; (case b => rfl); (case a => rfl); (case g => rfl); (case c => decide); (case X => k_in); (case T => walk_at "topr"); (case e => k_is); k_whole)
  | (refine' nm_B ?X ?T ?e ?v ?_ ?g ?h ?a ?b ?c ?n; (case b => rfl); (case a => rfl); (case g => rfl); (case h => rfl); (case c => decide); (case n => decide); (case X => k_in); (case T => walk_at "topr"); (case e => k_is); (case v => first | boot_fast | boot_by_name); k_whole))))
local macro_rules | `(tactic| walk_at "isl") => `(tactic| first | assumption | exact News.isList (by k_asm) (by walk_at "memx") | exact Heap.IsList.at (by assumption) (fun o e => Fr.keep (by k_asm) _ o e))
local macro_rules | `(tactic| walk_at "ints") => `(tactic| first | assumption | exact .nil | exact IntsAre.cons _ _ (by walk_at "ints"))
local macro_rules | `(tactic| walk_at "compareOp Eq int int") => `(tactic| refine eq_n ?_)
local macro_rules | `(tactic| walk_at "compareOp NotEq int int") => `(tactic| refine ne_n ?_)
local macro_rules | `(tactic| walk_at "compareOp Lt int int") => `(tactic| refine lt_n ?_)
local macro_rules | `(tactic| walk_at "compareOp Gt int int") => `(tactic| refine gt_n ?_)
local macro_rules | `(tactic| walk_at "compareOp LtE int int") => `(tactic| refine le_n ?_)
local macro_rules | `(tactic| walk_at "compareOp GtE int int") => `(tactic| refine ge_n ?_)
local macro_rules | `(tactic| walk_at "binaryOp Mult int int") => `(tactic| ((first | refine mul_n ?_ (IntMulOk.of_left (by decide +kernel)) | refine mul_n ?_ (IntMulOk.of_right (by decide +kernel))); intro _ _))
local macro_rules | `(tactic| walk_at "binaryOp Sub int int") => `(tactic| (refine sub_n (by omega) ?_; intro _ _))
local macro_rules | `(tactic| walk_at "storeName") => `(tactic| (k_dflt (refine' store_g ?a ?b ?c ?F ?N ?_; (case a => rfl); (case b => rfl); (case F => k_asm); (case c => rfl); (case N => k_asm); k_whole); intro h' tk' F' N'; (try k_sweep)))
local macro_rules | `(tactic| walk_at "eval Constant str") => `(tactic| (refine const_s ?_; intro _ _))
local macro_rules | `(tactic| walk_at "call builtin:len") => `(tactic| (k_dflt (refine' len_nl ?hl ?hI ?sz ?_; (case hl => walk_at "isl"); (case hI => walk_at "ints"); (case sz => (try simp only [List.length_append, List.length_map, List.length_cons, List.length_nil, List.length_range]); omega); k_whole); intro _ _))
local macro_rules | `(tactic| walk_at "inplaceOp Sub int int") => `(tactic| (refine isub_n (by omega) ?_; intro _ _))
local macro_rules | `(tactic| k_in) => `(tactic| first | with_reducible assumption | exact Frag.In.keeps (by with_reducible assumption) (Fr.keep (by with_reducible assumption)))
def programOf (version : Nat) (fives : List Nat) : Option (Nat × List Nat) :=
  match octetsOf fives with
  | none => none
  | some oct => if version > 16 ∨ oct.length < 2 ∨ oct.length > 40 then none else if version = 0 ∧ oct.length ≠ 20 ∧ oct.length ≠ 32 then none else some (version, oct)
theorem octetsOf_len {ns oct : List Nat} (h : octetsOf ns = some oct) : oct.length = 5 * ns.length / 8 := by
  unfold octetsOf at h
  split at h
  · cases h
  · cases h; simp
def PairRes (s s' : Shared) (v : Value) : Option (Nat × List Nat) → Prop
  | none => ∃ t, v = .ref t ∧ IsTup s'.heap t #[.none, .none] ∧ s.heap.get? t = none
  | some p => ∃ t tv l vs, v = .ref t ∧ IsTup s'.heap t #[.int (p.1 : Int) tv, .ref l] ∧ s'.heap.IsList l vs.toArray ∧ IntsAre vs (natv p.2) ∧ s.heap.get? t = none ∧ s.heap.get? l = none
set_option maxRecDepth 100000 in
set_option maxHeartbeats 8000000 in
theorem program_spec (w : World) (mg mb : Str → Option Value) (A : Around) (s : Shared) (ver : Nat) (t : Tok) (l : Addr) (vs : List Value) (ns : List Nat)
   (E : Value → Shared → Prop) (X : (hd.heap_39 w.params).In s.heap) (T : TopRead hd.view_39 loo mg mb s.heap) (hA : A.handled = none) (hd : A.depth + 3 < recursionLimit)
   (hl : s.heap.IsList l vs.toArray) (hI : IntsAre vs (natv ns)) (hns : ns.length ≤ 1000) :
   wpAny (model PySem.Challenge.rw_fw0006_01.row.prog w) A (call (.ref 97) [.int (ver : Int) t, .ref l]) (fun v s' => PairRes s s' v (programOf ver ns) ∧ Keeps s s') E s := by
  revert X
  k_fill
  intro X
  refine' enter (binds := [("version", .int (ver : Int) t), ("fives", .ref l)]) X T.nolimit ?a ?b ?c ?d ?e ?h ?i ?j ?k ?l
  (case a => omega); (case b => k_is); (case c => k_is); (case d => exact BindsTo.of_eq rfl); (case e => exact locs rfl); (case i => rfl); (case j => rfl); (case k => rfl); (case l => decide)
  intro L h₁ hL F N
  try dsimp only
  try k_fold
  (repeat' (first | ((with_reducible show Frag.In _ _ ∧ _); walk1) | ((fail_if_success (with_reducible show _ ∧ _)); (fail_if_success (with_reducible show wpAny _ _ (call (Value.ref _) _) _ _ _)); first | (k_unfold; (try dsimp only)) | walk1 | (dsimp only; walk1)) | fail "no step"))
  refine wpAny_mono (octets_spec w mg mb _ _ l vs ns _ (by k_in) (by walk_at "topr") hA (by (repeat rw [deeper_depth]); omega) (by walk_at "isl") hI hns) ?_ (fun _ _ e => e)
  rintro v s' ⟨hr, H1, tk1, rfl, hk1⟩
  rename Fr _ _ _ _ => F0
  rename News _ _ _ _ => N0
  cases hoc : octetsOf ns with
  | none =>
    rw [hoc] at hr
    obtain rfl : v = .none := hr
    have F1 := F0.keeps hk1
    have N1 := N0.grown hk1
    clear F0 N0
    try dsimp only
    (repeat' (first | ((with_reducible show Frag.In _ _ ∧ _); walk1) | ((fail_if_success (with_reducible show _ ∧ _)); first | (k_unfold; (try dsimp only)) | walk1 | (dsimp only; walk1)) | fail "no step"))
    rename Fr _ _ _ _ => F2
    rename News _ _ _ _ => N2
    refine ⟨?_, _, _, rfl, F2.keep⟩
    show PairRes s _ _ (programOf ver ns)
    rw [show programOf ver ns = none from by unfold programOf; rw [hoc]]
    exact ⟨_, rfl, News.isTup N2 (.head _), (N2 _ (.head _)).2.2⟩
  | some oct =>
    rw [hoc] at hr
    obtain ⟨l1, vs1, rfl, hl1, I1, hn1⟩ := hr
    obtain ⟨d1, n1, sl1, N1⟩ := news_list F0 N0 hn1 hl1 hk1
    have F1 := F0.keeps hk1
    have hol : oct.length ≤ 1000000 := by have := octetsOf_len hoc; omega
    clear hl1 hn1 hk1 F0 N0
    try dsimp only
    (repeat' (first | ((with_reducible show Frag.In _ _ ∧ _); walk1) | ((fail_if_success (with_reducible show _ ∧ _)); first | (k_unfold; (try dsimp only)) | walk1 | (dsimp only; walk1)) | fail "no step"))
    all_goals
      rename Fr _ _ _ _ => F2
      rename News _ _ _ _ => N2
      refine ⟨?_, _, _, rfl, F2.keep⟩
      show PairRes s _ _ (programOf ver ns)
      unfold programOf
      rw [hoc]
      dsimp only
      (repeat' split) <;> first
        | exact ⟨_, rfl, News.isTup N2 (.head _), (N2 _ (.head _)).2.2⟩
        | exact ⟨_, _, _, _, rfl, News.isTup N2 (.head _), News.isList N2 (by walk_at "memx"), by assumption, (N2 _ (.head _)).2.2, (N2 (l1, lobj d1 vs1 n1 sl1) (by walk_at "memx")).2.2⟩
        | (exfalso; clear F2 N2 hI I1 hl T X; (try simp only [beq_iff_eq, beq_eq_false_iff_ne, List.any_cons, List.any_nil, Bool.or_false, Bool.or_eq_true, Bool.or_eq_false_iff] at *); omega)
end Mine
namespace Mine
/- digits: a list read as one number -/
def num (fb : Nat) (vs : List Nat) : Nat := vs.foldl (fun a v => a * 2 ^ fb + v) 0
def cbPart (tb V T r : Nat) : List Nat := (List.range r).map fun j => V / 2 ^ (T - (j + 1) * tb) % 2 ^ tb
def cbFin (fb tb : Nat) (pad : Bool) (vs : List Nat) : Option (List Nat) :=
  let T := vs.length * fb
  let main := cbPart tb (num fb vs) T (T / tb)
  if pad = true then some (if T % tb = 0 then main else main ++ [num fb vs * 2 ^ (tb - T % tb) % 2 ^ tb])
  else if fb ≤ T % tb ∨ num fb vs * 2 ^ (tb - T % tb) % 2 ^ tb ≠ 0 then none else some main
abbrev okFb (fb : Nat) (k : Int) : Prop := 0 ≤ k ∧ k < ((2 ^ fb : Nat) : Int)
def cbOf (fb tb : Nat) (pad : Bool) (ks : List Int) : Option (List Nat) := if ∀ k ∈ ks, okFb fb k then cbFin fb tb pad (ks.map Int.toNat) else none
theorem num_snoc (fb : Nat) (vs : List Nat) (v : Nat) : num fb (vs ++ [v]) = num fb vs * 2 ^ fb + v := by
  unfold num; rw [List.foldl_append]; rfl
theorem mod_mod_pow {V a b : Nat} (h : b ≤ a) : V % 2 ^ a % 2 ^ b = V % 2 ^ b := Nat.mod_mod_of_dvd _ (Nat.pow_dvd_pow 2 h)
theorem acc_step {V fb tb v : Nat} (hv : v < 2 ^ fb) :
    (((V % 2 ^ (fb + tb - 1)) * 2 ^ fb ||| v) &&& (1 * 2 ^ (fb + tb - 1) - 1)) = (V * 2 ^ fb + v) % 2 ^ (fb + tb - 1) := by
  rw [Nat.one_mul, Nat.and_two_pow_sub_one_eq_mod, Nat.mul_comm _ (2 ^ fb), ← Nat.two_pow_add_eq_or_of_lt hv, Nat.mul_comm (2 ^ fb)]
  rw [Nat.add_mod, Nat.mod_mul_mod, ← Nat.add_mod]
theorem cbPart_shift {tb V T r fb v : Nat} (hv : v < 2 ^ fb) (h : r * tb ≤ T) : cbPart tb (V * 2 ^ fb + v) (T + fb) r = cbPart tb V T r := by
  unfold cbPart
  refine List.map_congr_left fun j hj => ?_
  have hj : j < r := List.mem_range.mp hj
  have h1 : (j + 1) * tb ≤ T := Nat.le_trans (Nat.mul_le_mul_right tb hj) h
  have e : T + fb - (j + 1) * tb = fb + (T - (j + 1) * tb) := by omega
  have e2 : (V * 2 ^ fb + v) / 2 ^ fb = V := by
    rw [Nat.mul_comm, Nat.mul_add_div (Nat.two_pow_pos _), Nat.div_eq_of_lt hv, Nat.add_zero]
  rw [e, Nat.pow_add, ← Nat.div_div_eq_div_mul, e2]
theorem cbPart_snoc {tb V T r : Nat} : cbPart tb V T (r + 1) = cbPart tb V T r ++ [V / 2 ^ (T - (r + 1) * tb) % 2 ^ tb] := by
  unfold cbPart; rw [List.range_succ, List.map_append]; rfl
theorem cbPart_length {tb V T r : Nat} : (cbPart tb V T r).length = r := by simp [cbPart]
theorem drain_val {V fb tb b : Nat} (h : b + tb ≤ fb + tb - 1) : ((V % 2 ^ (fb + tb - 1)) / 2 ^ b &&& (1 * 2 ^ tb - 1)) = V / 2 ^ b % 2 ^ tb := by
  rw [Nat.one_mul, Nat.and_two_pow_sub_one_eq_mod]
  have e : fb + tb - 1 = b + (fb + tb - 1 - b) := by omega
  rw [e, Nat.pow_add, Nat.mod_mul_right_div_self]
  exact mod_mod_pow (by omega)
theorem rest_val {V fb tb b : Nat} (h : b < tb) (h1 : 0 < fb) (h2 : b ≤ fb + tb - 1) : ((V % 2 ^ (fb + tb - 1)) * 2 ^ (tb - b) &&& (1 * 2 ^ tb - 1)) = V * 2 ^ (tb - b) % 2 ^ tb := by
  rw [Nat.one_mul, Nat.and_two_pow_sub_one_eq_mod]
  have e : 2 ^ tb = 2 ^ b * 2 ^ (tb - b) := by rw [← Nat.pow_add]; congr 1; omega
  rw [e, Nat.mul_mod_mul_right, Nat.mul_mod_mul_right, mod_mod_pow (by omega)]
theorem cbFin_eq {fb tb n r : Nat} {pad : Bool} {vs : List Nat} (h : n + r * tb = vs.length * fb) (hn : n < tb) : cbFin fb tb pad vs =
    (if pad = true then some (if n = 0 then cbPart tb (num fb vs) (vs.length * fb) r else cbPart tb (num fb vs) (vs.length * fb) r ++ [num fb vs * 2 ^ (tb - n) % 2 ^ tb])
     else if fb ≤ n ∨ num fb vs * 2 ^ (tb - n) % 2 ^ tb ≠ 0 then none else some (cbPart tb (num fb vs) (vs.length * fb) r)) := by
  have h1 : vs.length * fb % tb = n := by rw [← h, Nat.add_mul_mod_self_right]; exact Nat.mod_eq_of_lt hn
  have h2 : vs.length * fb / tb = r := by rw [← h, Nat.add_mul_div_right _ _ (Nat.zero_lt_of_lt hn), Nat.div_eq_of_lt hn, Nat.zero_add]
  unfold cbFin
  simp only [h1, h2]
theorem cbOf_good {fb tb : Nat} {pad : Bool} {ks : List Int} (h : ∀ k ∈ ks, okFb fb k) : cbOf fb tb pad ks = cbFin fb tb pad (ks.map Int.toNat) := if_pos h
end Mine
namespace Mine
theorem src_mono {α : Type} {w : World} {xv : Value} {g : Heap} {s₁ : Shared} {as : List α} {V V' : α → Value → Prop} (h : Src w xv g s₁ as V) (hv : ∀ a v, V a v → V' a v) : Src w xv g s₁ as V' := by
  intro A Q E hA k
  refine h A Q E hA fun I fp wr P St h₂ W hst a b c d e f g' => k I fp wr P St h₂ W hst a b c d e (fun i v hp => ?_) g'
  obtain ⟨a, ha, hv'⟩ := f i v hp
  exact ⟨a, ha, hv a v hv'⟩
abbrev IntV (k : Int) (v : Value) : Prop := ∃ t, v = .int k t
theorem paired_ints : ∀ {ns : List Int} {vs : List Value}, IntsAre vs ns → Paired IntV ns vs
  | [], _, h => by cases h; exact .nil
  | n :: ns, _, h => by
    obtain ⟨t, vs', rfl, h'⟩ := IntsAre.cons_inv h
    exact .cons ⟨t, rfl⟩ (paired_ints h')
section
variable {w : World} {A : Around} {E : Value → Shared → Prop} {hp : Heap} {gs : Array GenState} {dr : Drawn} {tk : Nat} {os : OsState} {h₀ : Heap} {L : Addr} {m : Str → Option Value} {news : List (Addr × Obj)} {env : Env}
theorem for_src {α : Type} {as : List α} {V : α → Value → Prop} {xv : Value} {m₀ : Str → Option Value} {x : Str} {body : List Stmt} {Q : Flow → Shared → Prop} (J : Nat → (Str → Option Value) → List (Addr × Obj) → Prop)
    (hA : A.handled = none) (hs : Src w xv h₀ ⟨hp, gs, dr, tk, os⟩ as V) (F : Fr h₀ env.locals hp m₀) (N : News h₀ env.locals hp news) (hj : J 0 m₀ news)
    (turn : ∀ i a v m₁ news₁ h tk own, as[i]? = some a → V a v → news₁.map (·.1) = news.map (·.1) → OwnOff own (news.map (·.1)) → J i m₁ news₁ → Fr h₀ env.locals h (fun y => if y = x then some v else m₁ y) → News h₀ env.locals h (news₁ ++ own) →
      wpAny (model prg w) A (execs body env) (InvPostN h₀ env.locals (J (i + 1)) own (news.map (·.1)) ⟨h, gs, dr, tk, os⟩ Q) E ⟨h, gs, dr, tk, os⟩)
    (done : ∀ m₁ news₁ h tk, J as.length m₁ news₁ → Fr h₀ env.locals h m₁ → News h₀ env.locals h news₁ → Q .next ⟨h, gs, dr, tk, os⟩) :
    wpAny (model prg w) A (pyIter xv) (fun it s₂ => LoopAtV prg w A h₀ env x body Q E it s₂) E ⟨hp, gs, dr, tk, os⟩ := by
  refine hs A _ _ hA fun I fp wr P St h₂ W hst hfp hwr hwr2 hfp2 hsz hP hk => ?_
  have hlt : ∀ q ∈ news, q.1 < hp.objs.size := fun q hq => Heap.lt_size (N q hq).1
  refine loop_invN J (W A hA) ?_ ?_ ?_ ?_ hst (F.keeps hk) (fun p hp => ⟨hk _ _ (N p hp).1, (N p hp).2⟩) hj ?_ ?_
  · intro hm
    rcases hfp2 _ hm with ⟨o, ho, _⟩ | h
    · exact absurd (Heap.lt_size ho) (Nat.not_lt.mpr F.above)
    · exact absurd F.ns.lt (Nat.not_lt.mpr h)
  · intro b hb
    cases e : h₀.get? b with
    | none => rfl
    | some o => have := F.keep b o e
                rw [show hp.get? b = none from hwr b hb] at this; cases this
  · intro p hp' hm
    have := hwr _ hm
    rw [show hp.get? p.1 = _ from (N p hp').1] at this; cases this
  · intro q hq hm
    rcases hfp2 _ hm with ⟨o, ho, _⟩ | h
    · rw [(N q hq).2.2] at ho; cases ho
    · exact absurd (hlt q hq) (Nat.not_lt.mpr h)
  · intro i v m₁ news₁ h tk own hi hp hn ho hJ F₁ N₁
    obtain ⟨a, ha, hv⟩ := hP i v hp
    exact turn i a v m₁ news₁ h tk own ha hv hn ho hJ F₁ N₁
  · intro m₁ news₁ h tk hJ F₁ N₁
    exact done m₁ news₁ h tk hJ F₁ N₁
theorem append_n {l : Addr} {vs : List Value} {c : Nat} {x : Value} {rest : List (Addr × Obj)} {Q : Value → Shared → Prop}
    (F : Fr h₀ L hp m) (N : News h₀ L hp ((l, lobj none vs c #[]) :: rest)) (hne : ∀ p ∈ rest, p.1 ≠ l) (hsz : vs.length ≤ 1000000)
    (h : ∀ h' tk, Fr h₀ L h' m → News h₀ L h' ((l, lobj none (vs ++ [x]) (c + 1) #[]) :: rest) → Q .none ⟨h', gs, dr, tk, os⟩) : wpAny (model prg w) A (call (.builtin "list.append") [.ref l, x]) Q E ⟨hp, gs, dr, tk, os⟩ := by
  refine append_K (its := vs.toArray) (n := c) F N (.head hne) (fun h' F' N' => h h' _ F' (by simpa [lobj, W.listOf] using N')) (by rw [List.size_toArray, show sizeLine = 2 ^ 24 from rfl]; omega)
end
end Mine
namespace Mine
local macro_rules | `(tactic| walk_at "eval Constant int") => `(tactic| (refine const_n ?_; intro _ _))
local macro_rules | `(tactic| walk_at "binaryOp BitAnd int int") => `(tactic| (refine and_n ?_; intro _ _))
local macro_rules | `(tactic| walk_at "binaryOp BitOr int int") => `(tactic| (refine or_n ?_; intro _ _))
local macro_rules | `(tactic| walk_at "binaryOp BitXor int int") => `(tactic| (refine xor_n ?_; intro _ _))
local macro_rules | `(tactic| walk_at "inplaceOp BitXor int int") => `(tactic| (refine ixor_n ?_; intro _ _))
local macro_rules | `(tactic| walk_at "binaryOp RShift int int") => `(tactic| (refine rsh_n ?_; intro _ _))
local macro_rules | `(tactic| walk_at "binaryOp Add int int") => `(tactic| (refine add_n ?_; intro _ _))
local macro_rules | `(tactic| walk_at "inplaceOp Add int int") => `(tactic| (refine iadd_n ?_; intro _ _))
local macro_rules | `(tactic| walk_at "binaryOp FloorDiv int int") => `(tactic| (refine div_n (by decide) (by decide) ?_; intro _ _))
local macro_rules | `(tactic| walk_at "binaryOp Mod int int") => `(tactic| (refine mod_n (by decide) ?_; intro _ _))
local macro_rules | `(tactic| walk_at "truthy int") => `(tactic| refine truthy_n ?_)
local macro_rules | `(tactic| walk_at "look") => `(tactic| ((try dsimp only); first | assumption | exact if_pos rfl | (refine Eq.trans (if_neg (by decide)) ?_; walk_at "look") | (refine Eq.trans (Upto.out (by assumption) (by decide)) ?_; walk_at "look") | rfl))
local macro_rules | `(tactic| walk_at "mem") => `(tactic| (intro p9 hp9; first | exact hp9 | (repeat' (first | exact hp9 | refine List.mem_cons_of_mem _ ?_))))
local macro_rules | `(tactic| walk_at "upto") => `(tactic| first | assumption | exact Upto.refl | (refine Upto.set (by first | decide | decide +kernel | simp) ?_; walk_at "upto") | (refine' Upto.trans ?hs ?h1 ?_; (case h1 => assumption); (case hs => first | decide | decide +kernel); walk_at "upto"))
local macro_rules | `(tactic| walk_at "memx") => `(tactic| first | exact List.Mem.head _ | (refine List.Mem.tail _ ?_; walk_at "memx") | (refine List.mem_append_left _ ?_; walk_at "memx") | (refine List.mem_append_right _ ?_; walk_at "memx"))
local macro_rules | `(tactic| walk_at "TurnEnd next") => `(tactic| (refine' TurnEnd.next ?F ?N ?n ?_ ?U; (case F => k_asm); (case N => k_asm); (case n => walk_at "mem"); (case U => walk_at "upto")))
local macro_rules | `(tactic| walk_at "loadName") => `(tactic| (k_here; k_dflt (refine' ldn ?k1 ?k2 ?_; (case k1 => k_asm); (case k2 => walk_at "look"); k_whole)))
local macro_rules | `(tactic| walk_at "topr") => `(tactic| first | assumption | exact TopRead.keeps (by assumption) (Fr.keep (by assumption)))
local macro_rules | `(tactic| walk_at "eval Name") => `(tactic| (k_here; k_dflt (first
  | (refine' nm_localF ?F ?v ?_ ?a ?b ?c; (case b => rfl); (case a => rfl); (case c => decide); (case F => k_asm); (case v => walk_at "look"); k_whole)
  | (refine' nm_local ?F ?v ?_ ?a ?b ?c; (case b => rfl); (case a => rfl); (case c => decide); (case F => k_asm); (case v => walk_at "look"); k_whole)
  | (refine' nm_cell ?F ?v ?_ ?a ?b ?c; (case b => rfl); (case a => rfl); (case c => decide); (case v => rfl); (case F => k_asm); k_whole)
  | (refine' nm_K ?X ?T ?e ?_ ?g ?a ?b ?c; (case b => rfl); (case a => rfl); (case g => rfl); (case c => decide); (case X => k_in); (case T => walk_at "topr"); (case e => k_is); k_whole)
  | (refine' nm_B ?X ?T ?e ?v ?_ ?g ?h ?a ?b ?c ?n; (case b => rfl); (case a => rfl); (case g => rfl); (case h => rfl); (case c => decide); (case n => decide); (case X => k_in); (case T => walk_at "topr"); (case e => k_is); (case v => first | boot_fast | boot_by_name); k_whole))))
local macro_rules | `(tactic| walk_at "isl") => `(tactic| first | assumption | exact News.isList (by k_asm) (by walk_at "memx") | exact Heap.IsList.at (by assumption) (fun o e => Fr.keep (by k_asm) _ o e))
local macro_rules | `(tactic| walk_at "ints") => `(tactic| first | assumption | exact .nil | exact IntsAre.cons _ _ (by walk_at "ints"))
local macro_rules | `(tactic| walk_at "compareOp Eq int int") => `(tactic| refine eq_n ?_)
local macro_rules | `(tactic| walk_at "compareOp NotEq int int") => `(tactic| refine ne_n ?_)
local macro_rules | `(tactic| walk_at "compareOp Lt int int") => `(tactic| refine lt_n ?_)
local macro_rules | `(tactic| walk_at "compareOp Gt int int") => `(tactic| refine gt_n ?_)
local macro_rules | `(tactic| walk_at "compareOp LtE int int") => `(tactic| refine le_n ?_)
local macro_rules | `(tactic| walk_at "compareOp GtE int int") => `(tactic| refine ge_n ?_)
local macro_rules | `(tactic| walk_at "binaryOp Mult int int") => `(tactic| ((first | refine mul_n ?_ (IntMulOk.of_left (by decide +kernel)) | refine mul_n ?_ (IntMulOk.of_right (by decide +kernel))); intro _ _))
local macro_rules | `(tactic| walk_at "binaryOp Sub int int") => `(tactic| (refine sub_n (by omega) ?_; intro _ _))
local macro_rules | `(tactic| walk_at "storeName") => `(tactic| (k_dflt (refine' store_g ?a ?b ?c ?F ?N ?_; (case a => rfl); (case b => rfl); (case F => k_asm); (case c => rfl); (case N => k_asm); k_whole); intro h' tk' F' N'; (try k_sweep)))
local macro_rules | `(tactic| walk_at "eval Constant str") => `(tactic| (refine const_s ?_; intro _ _))
local macro_rules | `(tactic| walk_at "call builtin:len") => `(tactic| (k_dflt (refine' len_nl ?hl ?hI ?sz ?_; (case hl => walk_at "isl"); (case hI => walk_at "ints"); (case sz => (try simp only [List.length_append, List.length_map, List.length_cons, List.length_nil, List.length_range]); omega); k_whole); intro _ _))
local macro_rules | `(tactic| walk_at "inplaceOp Sub int int") => `(tactic| (refine isub_n (by omega) ?_; intro _ _))
local macro_rules | `(tactic| k_in) => `(tactic| first | with_reducible assumption | exact Frag.In.keeps (by with_reducible assumption) (Fr.keep (by with_reducible assumption)))
def CbJ (fb tb : Nat) (pad : Bool) (tf tt : Tok) (l : Addr) (V T n : Nat) (own : List (Addr × Obj)) (m : Str → Option Value) (nx : List (Addr × Obj)) : Prop :=
  ∃ r vs c t1 t2 t3 t4, n + r * tb = T ∧ nx = (l, lobj none vs c #[]) :: own ∧ IntsAre vs (natv (cbPart tb V T r)) ∧ m "ret" = some (.ref l) ∧ m "acc" = some (.int ((V % 2 ^ (fb + tb - 1) : Nat) : Int) t1) ∧
    m "bits" = some (.int (n : Int) t2) ∧ m "maxv" = some (.int ((1 * 2 ^ tb - 1 : Nat) : Int) t3) ∧ m "max_acc" = some (.int ((1 * 2 ^ (fb + tb - 1) - 1 : Nat) : Int) t4) ∧ m "frombits" = some (.int (fb : Int) tf) ∧ m "tobits" = some (.int (tb : Int) tt) ∧ m "pad" = some (.bool pad)
theorem CbJ.of {fb tb : Nat} {pad : Bool} {tf tt : Tok} {l : Addr} {V T n a b r : Nat} {own : List (Addr × Obj)} {m : Str → Option Value} {vs : List Value} {us : List Nat} {c : Nat} {t1 t2 t3 t4 : Tok}
    (hn : n + r * tb = T) (ha : a = V % 2 ^ (fb + tb - 1)) (hb : b = n) (hu : us = cbPart tb V T r) (I : IntsAre vs (natv us)) (e1 : m "ret" = some (.ref l)) (e2 : m "acc" = some (.int (a : Int) t1)) (e3 : m "bits" = some (.int (b : Int) t2))
    (e4 : m "maxv" = some (.int ((1 * 2 ^ tb - 1 : Nat) : Int) t3)) (e5 : m "max_acc" = some (.int ((1 * 2 ^ (fb + tb - 1) - 1 : Nat) : Int) t4)) (e6 : m "frombits" = some (.int (fb : Int) tf)) (e7 : m "tobits" = some (.int (tb : Int) tt)) (e8 : m "pad" = some (.bool pad)) :
    CbJ fb tb pad tf tt l V T n own m ((l, lobj none vs c #[]) :: own) := by
  subst ha hb hu
  exact ⟨r, vs, c, t1, t2, t3, t4, hn, rfl, I, e1, e2, e3, e4, e5, e6, e7, e8⟩
theorem cbOf_bad {fb tb : Nat} {pad : Bool} {ks : List Int} {k : Int} (hk : k ∈ ks) (hbad : ¬ okFb fb k) : cbOf fb tb pad ks = none := if_neg fun h => hbad (h k hk)
theorem take_good {fb : Nat} {ks : List Int} {i : Nat} {k : Int} (h : ∀ k ∈ ks.take i, okFb fb k) (hi : ks[i]? = some k) (hk : okFb fb k) : ∀ k ∈ ks.take (i + 1), okFb fb k := by
  rw [List.take_add_one, hi]
  intro k' hk'
  rcases List.mem_append.mp hk' with h' | h'
  · exact h k' h'
  · simp at h'; subst h'; exact hk
def vals (ks : List Int) (i : Nat) : List Nat := (ks.take i).map Int.toNat
theorem vals_succ {ks : List Int} {i n : Nat} (h : ks[i]? = some (n : Int)) : vals ks (i + 1) = vals ks i ++ [n] := by
  unfold vals; rw [List.take_add_one, h]; simp
theorem acc_small {V fb tb : Nat} (hf : fb ≤ 8) (ht : tb ≤ 8) : V % 2 ^ (fb + tb - 1) < 2 ^ 64 :=
  Nat.lt_of_lt_of_le (Nat.mod_lt _ (Nat.two_pow_pos _)) (Nat.pow_le_pow_right (by decide) (by omega))
set_option maxRecDepth 100000 in
set_option maxHeartbeats 8000000 in
theorem convertbits_spec (w : World) (mg mb : Str → Option Value) (A : Around) (s : Shared) (fb tb : Nat) (pad : Bool) (ks : List Int) (xv : Value) (args : List Value) (tf tt : Tok)
   (E : Value → Shared → Prop) (X : (hd.heap_39 w.params).In s.heap) (T : TopRead hd.view_39 loo mg mb s.heap) (hA : A.handled = none) (hd : A.depth + 1 < recursionLimit)
   (hf : 0 < fb) (hf8 : fb ≤ 8) (ht : 0 < tb) (ht8 : tb ≤ 8) (hks : ks.length ≤ 1000)
   (hsrc : ∀ s₁ : Shared, (∀ b o, s.heap.get? b = some o → s₁.heap.get? b = some o) → Src w xv s.heap s₁ ks IntV)
   (hargs : (args = [xv, .int (fb : Int) tf, .int (tb : Int) tt] ∧ pad = true) ∨ args = [xv, .int (fb : Int) tf, .int (tb : Int) tt, .bool pad]) :
   wpAny (model PySem.Challenge.rw_fw0006_01.row.prog w) A (call (.ref 56) args) (fun v s' => (OptRes s s' v (cbOf fb tb pad ks) ∧ s'.heap.NoDictAt v) ∧ Keeps s s') E s := by
  revert X
  k_fill
  intro X
  refine' enter (binds := [("data", xv), ("frombits", .int (fb : Int) tf), ("tobits", .int (tb : Int) tt), ("pad", .bool pad)]) X T.nolimit ?a ?b ?c ?d ?e ?h ?i ?j ?k ?l
  (case a => omega); (case b => k_is); (case c => k_is); (case e => exact locs rfl); (case i => rfl); (case j => rfl); (case k => rfl); (case l => decide)
  (case d => (rcases hargs with ⟨rfl, rfl⟩ | rfl; exact binds_K (by k_in) rfl (by k_is) rfl rfl rfl; exact binds_K (by k_in) rfl (by k_is) rfl rfl rfl))
  intro L h₁ hL F N
  try dsimp only
  try k_fold
  (repeat' (first | ((with_reducible show Frag.In _ _ ∧ _); walk1) | ((fail_if_success (with_reducible show _ ∧ _)); (fail_if_success (with_reducible show wpAny _ _ (exec (Stmt.For _ _ _ _ _) _) _ _ _)); (fail_if_success (with_reducible show wpAny _ _ (binaryOp Operator.LShift _ _) _ _ _)); first | (k_unfold; (try dsimp only)) | walk1 | (dsimp only; walk1)) | fail "no step"))
  refine lsh_n (by decide) (by omega) ?_
  intro _ _
  have h2p : 0 < 1 * 2 ^ tb := by rw [Nat.one_mul]; exact Nat.two_pow_pos _
  have h2q : 0 < 1 * 2 ^ (fb + tb - 1) := by rw [Nat.one_mul]; exact Nat.two_pow_pos _
  (repeat' (first | ((with_reducible show Frag.In _ _ ∧ _); walk1) | ((fail_if_success (with_reducible show _ ∧ _)); (fail_if_success (with_reducible show wpAny _ _ (exec (Stmt.For _ _ _ _ _) _) _ _ _)); (fail_if_success (with_reducible show wpAny _ _ (binaryOp Operator.LShift _ _) _ _ _)); first | (k_unfold; (try dsimp only)) | walk1 | (dsimp only; walk1)) | fail "no step"))
  refine lsh_n (by decide) (by omega) ?_
  intro _ _
  (repeat' (first | ((with_reducible show Frag.In _ _ ∧ _); walk1) | ((fail_if_success (with_reducible show _ ∧ _)); (fail_if_success (with_reducible show wpAny _ _ (exec (Stmt.For _ _ _ _ _) _) _ _ _)); first | (k_unfold; (try dsimp only)) | walk1 | (dsimp only; walk1)) | fail "no step"))
  refine For_invV s.heap (by rfl) (by rfl) ?_ (by intro _; rfl)
  (repeat' (first | ((with_reducible show Frag.In _ _ ∧ _); walk1) | ((fail_if_success (with_reducible show _ ∧ _)); first | (k_unfold; (try dsimp only)) | walk1 | (dsimp only; walk1)) | fail "no step"))
  rename Fr _ _ _ _ => F1
  rename News _ _ _ _ => N1
  refine for_src (fun i m nx => (∀ k ∈ ks.take i, okFb fb k) ∧ ∃ l n, n < tb ∧ CbJ fb tb pad tf tt l (num fb (vals ks i)) (i * fb) n [] m nx) hA (hsrc ⟨_, _, _, _, _⟩ fun b o e => F1.keep b o e) F1 N1 ?_ ?_ ?_
  · exact ⟨fun k hk => by simp at hk, _, 0, ht, CbJ.of (r := 0) (a := 0) (b := 0) (vs := []) (us := []) (by omega) (by simp [vals, num]) rfl rfl .nil (by walk_at "look") (by walk_at "look") (by walk_at "look") (by walk_at "look") (by walk_at "look") (by walk_at "look") (by walk_at "look") (by walk_at "look")⟩
  · rintro i k v m1 nx1 h2 tk2 own hik ⟨tv, rfl⟩ hadr hoff ⟨hgood, l, n, hn, hJ⟩ F2 N2
    clear F1 N1
    obtain ⟨r, vs, c, t1, t2, t3, t4, hnr, rfl, hI, e1, e2, e3, e4, e5, e6, e7, e8⟩ := hJ
    have hkmem : k ∈ ks := List.mem_of_getElem? hik
    have hne : ∀ p ∈ own, p.1 ≠ l := hoff.ne (by rw [← hadr]; exact .head _)
    rcases Int.lt_or_le k 0 with hneg | hpos
    · try dsimp only
      try k_fold
      (repeat' (first | ((with_reducible show Frag.In _ _ ∧ _); walk1) | ((fail_if_success (with_reducible show _ ∧ _)); (fail_if_success (with_reducible show wpAny _ _ (compareOp _ _ _) _ _ _)); first | (k_unfold; (try dsimp only)) | walk1 | (dsimp only; walk1)) | fail "no step"))
      refine PyProof.Rows.lt_int ?_
      rw [show decide (k < ((OfNat.ofNat 0 : Nat) : Int)) = true from by simpa using hneg]
      (repeat' (first | ((with_reducible show Frag.In _ _ ∧ _); walk1) | ((fail_if_success (with_reducible show _ ∧ _)); first | (k_unfold; (try dsimp only)) | walk1 | (dsimp only; walk1)) | fail "no step"))
      refine ⟨⟨?_, trivial⟩, _, _, rfl, F2.keep⟩
      show OptRes s _ _ (cbOf fb tb pad ks)
      rw [cbOf_bad hkmem fun h => absurd h.1 (by omega)]
      rfl
    · obtain ⟨x, rfl⟩ := Int.eq_ofNat_of_zero_le hpos
      try dsimp only
      try k_fold
      (repeat' (first | ((with_reducible show Frag.In _ _ ∧ _); walk1) | ((fail_if_success (with_reducible show _ ∧ _)); (fail_if_success (with_reducible show wpAny _ _ (exec (Stmt.While _ _ _ _) _) _ _ _)); (fail_if_success (with_reducible show wpAny _ _ (binaryOp Operator.LShift _ _) _ _ _)); first | (k_unfold; (try dsimp only)) | walk1 | (dsimp only; walk1)) | fail "no step"))
      · rename (x / 2 ^ fb != 0) = true => hbig
        refine ⟨⟨?_, trivial⟩, _, _, rfl, F2.keep⟩
        show OptRes s _ _ (cbOf fb tb pad ks)
        rw [cbOf_bad hkmem fun h => ?_]
        · rfl
        · have h2 := h.2
          have h3 : x < 2 ^ fb := by omega
          rw [Nat.div_eq_of_lt h3] at hbig
          simp at hbig
      · rename (x / 2 ^ fb != 0) = false => hbig
        have hx : x < 2 ^ fb := by
          have h0 : x / 2 ^ fb = 0 := by simpa using hbig
          exact (Nat.div_eq_zero_iff_lt (Nat.two_pow_pos _)).mp h0
        have hok : okFb fb (x : Int) := ⟨by omega, by omega⟩
        refine lsh_n (acc_small hf8 ht8) (by omega) ?_
        intro _ _
        (repeat' (first | ((with_reducible show Frag.In _ _ ∧ _); walk1) | ((fail_if_success (with_reducible show _ ∧ _)); (fail_if_success (with_reducible show wpAny _ _ (exec (Stmt.While _ _ _ _) _) _ _ _)); (fail_if_success (with_reducible show wpAny _ _ (binaryOp Operator.LShift _ _) _ _ _)); first | (k_unfold; (try dsimp only)) | walk1 | (dsimp only; walk1)) | fail "no step"))
        rename Fr _ _ _ _ => F3
        rename News _ _ _ _ => N3
        have hsnoc : num fb (vals ks (i + 1)) = num fb (vals ks i) * 2 ^ fb + x := by rw [vals_succ hik, num_snoc]
        have hT : (i + 1) * fb = i * fb + fb := by rw [Nat.add_mul, Nat.one_mul]
        refine While_inv (h₀ := s.heap) (L := L) (fun n m nx => n ≤ fb + tb - 1 ∧ CbJ fb tb pad tf tt l (num fb (vals ks (i + 1))) ((i + 1) * fb) n own m nx) (n₀ := n + fb) F3 N3 ⟨by omega, CbJ.of (r := r) (by omega) ?ha rfl ?hu hI (by walk_at "look") (by walk_at "look") (by walk_at "look") (by walk_at "look") (by walk_at "look") (by walk_at "look") (by walk_at "look") (by walk_at "look")⟩ ?_
        case ha => rw [hsnoc]; exact acc_step hx
        case hu => rw [hsnoc, hT, cbPart_shift hx (by omega)]
        clear F3 N3 hI e1 e2 e3 e4 e5 e6 e7 e8
        rintro q m3 nx3 h3 tk3 F4 N4 ⟨hq, r, vs, c, t1, t2, t3, t4, hnr, rfl, hI, e1, e2, e3, e4, e5, e6, e7, e8⟩
        try dsimp only
        try k_fold
        (repeat' (first | ((with_reducible show Frag.In _ _ ∧ _); walk1) | ((fail_if_success (with_reducible show _ ∧ _)); (fail_if_success (with_reducible show wpAny _ _ (call (Value.builtin _) _) _ _ _)); first | (k_unfold; (try dsimp only)) | walk1 | (dsimp only; walk1)) | fail "no step"))
        · rename Fr _ _ _ _ => F5
          rename News _ _ _ _ => N5
          have hr1 : (r + 1) * tb = r * tb + tb := by rw [Nat.add_mul, Nat.one_mul]
          have hlen : vs.length ≤ 1000000 := by
            have h1 := hI.length
            rw [natv_length, cbPart_length] at h1
            have h2 : r ≤ r * tb := Nat.le_mul_of_pos_right _ ht
            have h3 : i < ks.length := (List.getElem?_eq_some_iff.mp hik).1
            have h4 : (i + 1) * fb ≤ 1000 * 8 := Nat.mul_le_mul (by omega) hf8
            omega
          refine append_n F5 N5 hne hlen ?_
          intro h5 tk5 F6 N6
          (repeat' (first | ((with_reducible show Frag.In _ _ ∧ _); walk1) | ((fail_if_success (with_reducible show _ ∧ _)); first | (k_unfold; (try dsimp only)) | walk1 | (dsimp only; walk1)) | fail "no step"))
          refine WhileStep.intro F6 N6 (n' := q - tb) (by omega) ⟨by omega, CbJ.of (r := r + 1) (us := cbPart tb (num fb (vals ks (i + 1))) ((i + 1) * fb) r ++ [(num fb (vals ks (i + 1)) % 2 ^ (fb + tb - 1)) / 2 ^ (q - tb) &&& 1 * 2 ^ tb - 1]) (by omega) rfl rfl ?hu (by rw [natv_append]; exact hI.append (IntsAre.cons _ _ .nil)) (by walk_at "look") (by walk_at "look") (by walk_at "look") (by walk_at "look") (by walk_at "look") (by walk_at "look") (by walk_at "look") (by walk_at "look")⟩
          rw [cbPart_snoc, drain_val (by omega), show (i + 1) * fb - (r + 1) * tb = q - tb by omega]
        · rename_i hlt
          rename Fr _ _ _ _ => F5
          rename News _ _ _ _ => N5
          refine InvEndN.intro F5 N5 (nx := [(l, lobj none vs c #[])]) ⟨take_good hgood hik hok, l, q, by omega, CbJ.of (r := r) hnr rfl rfl rfl hI e1 e2 e3 e4 e5 e6 e7 e8⟩ (by rw [← hadr]; rfl) (fun p hp => ?_) (fun p hp => List.mem_cons_of_mem _ hp)
          rw [List.mem_singleton.mp hp]; exact .head _
  · rintro m1 nx1 h2 tk2 ⟨hgood, l, n, hn, hJ⟩ F2 N2
    clear F1 N1
    obtain ⟨r, vs, c, t1, t2, t3, t4, hnr, rfl, hI, e1, e2, e3, e4, e5, e6, e7, e8⟩ := hJ
    rw [List.take_length] at hgood
    try dsimp only
    try k_fold
    have hfin : cbOf fb tb pad ks = _ := (cbOf_good hgood).trans (cbFin_eq (n := n) (r := r) (by rw [List.length_map]; exact hnr) hn)
    have hvals : vals ks ks.length = ks.map Int.toNat := by unfold vals; rw [List.take_length]
    rw [List.length_map, ← hvals] at hfin
    have hlen : vs.length ≤ 1000000 := by
      have h1 := hI.length
      rw [natv_length, cbPart_length] at h1
      have h2 : r ≤ r * tb := Nat.le_mul_of_pos_right _ ht
      have h4 : ks.length * fb ≤ 1000 * 8 := Nat.mul_le_mul hks hf8
      omega
    (repeat' (first | ((with_reducible show Frag.In _ _ ∧ _); walk1) | ((fail_if_success (with_reducible show _ ∧ _)); (fail_if_success (with_reducible show wpAny _ _ (binaryOp Operator.LShift _ _) _ _ _)); (fail_if_success (with_reducible show wpAny _ _ (call (Value.builtin _) _) _ _ _)); first | (k_unfold; (try dsimp only)) | walk1 | (dsimp only; walk1)) | fail "no step"))
    · rename (n != 0) = true => hn0
      refine lsh_n (acc_small hf8 ht8) (by omega) ?_
      intro _ _
      (repeat' (first | ((with_reducible show Frag.In _ _ ∧ _); walk1) | ((fail_if_success (with_reducible show _ ∧ _)); (fail_if_success (with_reducible show wpAny _ _ (call (Value.builtin _) _) _ _ _)); first | (k_unfold; (try dsimp only)) | walk1 | (dsimp only; walk1)) | fail "no step"))
      rename Fr _ _ _ _ => F5
      rename News _ _ _ _ => N5
      refine append_n F5 N5 (fun p hp => nomatch hp) hlen ?_
      intro h5 tk5 F6 N6
      (repeat' (first | ((with_reducible show Frag.In _ _ ∧ _); walk1) | ((fail_if_success (with_reducible show _ ∧ _)); first | (k_unfold; (try dsimp only)) | walk1 | (dsimp only; walk1)) | fail "no step"))
      refine ⟨⟨?_, ⟨_, (N6 _ (.head _)).1, rfl⟩⟩, _, _, rfl, F6.keep⟩
      show OptRes s _ _ (cbOf fb tb pad ks)
      rw [hfin, if_pos (by assumption), if_neg (by simpa using hn0)]
      refine ⟨_, _, rfl, News.isList N6 (.head _), ?_, (N6 _ (.head _)).2.2⟩
      rw [natv_append, ← rest_val hn hf (by omega)]
      exact hI.append (IntsAre.cons _ _ .nil)
    · rename (n != 0) = false => hn0
      rename Fr _ _ _ _ => F5
      rename News _ _ _ _ => N5
      refine ⟨⟨?_, ⟨_, (N5 _ (.head _)).1, rfl⟩⟩, _, _, rfl, F5.keep⟩
      show OptRes s _ _ (cbOf fb tb pad ks)
      rw [hfin, if_pos (by assumption), if_pos (by simpa using hn0)]
      exact ⟨_, _, rfl, News.isList N5 (.head _), hI, (N5 _ (.head _)).2.2⟩
    · rename Fr _ _ _ _ => F5
      rename News _ _ _ _ => N5
      refine ⟨⟨?_, trivial⟩, _, _, rfl, F5.keep⟩
      show OptRes s _ _ (cbOf fb tb pad ks)
      rw [hfin, if_neg (by simp [*]), if_pos (.inl (by assumption))]
      rfl
    · refine lsh_n (acc_small hf8 ht8) (by omega) ?_
      intro _ _
      (repeat' (first | ((with_reducible show Frag.In _ _ ∧ _); walk1) | ((fail_if_success (with_reducible show _ ∧ _)); first | (k_unfold; (try dsimp only)) | walk1 | (dsimp only; walk1)) | fail "no step"))
      · rename (_ != 0) = true => hz
        rename Fr _ _ _ _ => F5
        refine ⟨⟨?_, trivial⟩, _, _, rfl, F5.keep⟩
        show OptRes s _ _ (cbOf fb tb pad ks)
        rw [rest_val hn hf (by omega)] at hz
        rw [hfin, if_neg (by simp [*]), if_pos (.inr (by simpa using hz))]
        rfl
      · rename (_ != 0) = false => hz
        rename Fr _ _ _ _ => F5
        rename News _ _ _ _ => N5
        refine ⟨⟨?_, ⟨_, (N5 _ (.head _)).1, rfl⟩⟩, _, _, rfl, F5.keep⟩
        show OptRes s _ _ (cbOf fb tb pad ks)
        rw [rest_val hn hf (by omega)] at hz
        rw [hfin, if_neg (by simp [*]), if_neg (fun q => q.elim (fun q => by omega) (fun q => q (by simpa using hz)))]
        exact ⟨_, _, rfl, News.isList N5 (.head _), hI, (N5 _ (.head _)).2.2⟩
end Mine
namespace Mine
/- generator expressions: the code's places grow, the rest stays -/
abbrev tabO (ps : Array Value) : Obj := { cls := .none, data := .fields ps }
def Tab (h : Heap) (ps : Array Value) : Prop := h.IsCode 47 45 ps ∧ h.TableAt 47 45 ps
structure BigG (w : World) (mg mb : Str → Option Value) (g : Heap) : Prop where
  X : (hd.heap_39 w.params).In g
  T : TopRead hd.view_39 loo mg mb g
  hide : g.get? 45 = none
  bmod : ∃ bm ob, BMod g mainGlobals mg bm ob
  tab : ∀ h ps, (∀ b o, g.get? b = some o → h.get? b = some o) → h.get? 45 = some (tabO ps) → TriplesOk ps.toList → Tab h ps
structure Big (w : World) (mg mb : Str → Option Value) (s : Shared) : Prop where
  X : (hd.heap_39 w.params).In s.heap
  T : TopRead hd.view_39 loo mg mb s.heap
  bmod : ∃ bm ob, BMod s.heap mainGlobals mg bm ob
  tab : ∃ ps, Tab s.heap ps
  bare : AllBare s.gens
structure Ext (s s' : Shared) : Prop where
  keep : ∀ b o, b ≠ 45 → s.heap.get? b = some o → s'.heap.get? b = some o
  tab : ∀ ps, Tab s.heap ps → ∃ more, Tab s'.heap (ps ++ more)
  os : s'.os = s.os
  bare : AllBare s'.gens
theorem Tab.triples {h : Heap} {ps : Array Value} (t : Tab h ps) : TriplesOk ps.toList := by
  obtain ⟨⟨o, vs, file, tf, flags, tg, inF, text, tt, op, ho, hd, h11, h2, h7, h9, h10, hop, hpd, htr, hne⟩, _⟩ := t
  exact htr
theorem Tab.at {h h' : Heap} {ps : Array Value} (t : Tab h ps) (h47 : ∀ o, h.get? 47 = some o → h'.get? 47 = some o) (h45 : ∀ o, h.get? 45 = some o → h'.get? 45 = some o) : Tab h' ps := by
  refine ⟨t.1.at2 h47 h45, ?_⟩
  obtain ⟨⟨o, vs, a, r⟩, q⟩ := t.2
  exact ⟨⟨o, vs, h47 _ a, r⟩, h45 _ q⟩
theorem Tab.uniq {h : Heap} {ps ps' : Array Value} (t : Tab h ps) (t' : Tab h ps') : ps = ps' := by
  have := Option.some.inj (t.2.2.symm.trans t'.2.2)
  injection this with _ _ h3; injection h3
theorem Tab.regrow {h h' : Heap} {ps ps' : Array Value} (t : Tab h ps) (h47 : ∀ o, h.get? 47 = some o → h'.get? 47 = some o) (h45 : h'.get? 45 = some (tabO ps')) (htr : TriplesOk ps'.toList) : Tab h' ps' := by
  obtain ⟨⟨o, vs, file, tf, flags, tg, inF, text, tt, op, ho, hd, h11, h2, h7, h9, h10, hop, hpd, _, hne⟩, ⟨⟨o', vs', a, r⟩, q⟩⟩ := t
  exact ⟨⟨o, vs, file, tf, flags, tg, inF, text, tt, _, h47 _ ho, hd, h11, h2, h7, h9, h10, h45, rfl, htr, hne⟩, ⟨⟨o', vs', h47 _ a, r⟩, h45⟩⟩
theorem hide_ext (h : Heap) : Heap.ExtBut 45 h (h.hide 45) := fun b o hb e => (Heap.hide_ne h hb).trans e
theorem no45 (w : World) : (hd.heap_39 w.params).lookup 45 = none := by
  rfl
theorem Big.g {w : World} {mg mb : Str → Option Value} {s : Shared} (B : Big w mg mb s) : BigG w mg mb (s.heap.hide 45) := by
  obtain ⟨ps, t⟩ := B.tab
  refine ⟨fun b o e => ?_, ⟨B.T.g.extBut (hide_ext _) (by decide), B.T.b.extBut (hide_ext _) (by decide), B.T.nolimit.extBut (hide_ext _) (by decide), B.T.builtins, B.T.free⟩, Heap.hide_self _ _, ?_, ?_⟩
  · refine hide_ext _ b o (fun q => ?_) (B.X b o e)
    subst q
    rw [no45 w] at e; cases e
  · obtain ⟨bm, ob, M⟩ := B.bmod
    exact ⟨bm, ob, M.extBut t.2 (hide_ext _)⟩
  · intro h ps' hk h45 htr
    exact t.regrow (fun o e => hk _ _ (hide_ext _ 47 o (by decide) e)) h45 htr
section
variable {w : World} {A : Around} {E : Value → Shared → Prop} {s : Shared} {mg mb : Str → Option Value}
theorem code_any {M : Model} {env : Env} {ps : Array Value} {pos : Pos} {qualname : Str} {scope : Scope} {Q : Value → Shared → Prop} (hc : env.code = .ref 47) (T : Tab s.heap ps)
    (hQ : ∀ code h' tk more, Heap.ExtBut 45 s.heap h' → s.heap.objs.size ≤ h'.objs.size → Tab h' (ps ++ more) → Q code { s with heap := h', toks := tk }) : wpAny M A (genexprCode env pos qualname scope) Q E s := by
  cases hnf : codeAmong pos ps.toList with
  | none => exact wpAny_genexprCodeX hc T.1 T.2 hnf fun c' h' tk hx hge hlt hcode _ htab _ => hQ _ h' tk _ hx (Nat.le_trans hge (Nat.le_of_lt hlt)) ⟨hcode, htab⟩
  | some cv =>
    obtain ⟨o, vs, file, tf, flags, tg, inF, text, tt, op, ho, hd, h11, h2, h7, h9, h10, hop, hpd, htr, hne⟩ := id T.1
    unfold genexprCode codeAt
    rw [hc, if_neg (show ¬ ((Value.ref 47 == Value.none) = true) from Bool.false_ne_true)]
    refine wpAny_bind (wpAny_fieldsOf ho hd ?_)
    rw [h11]
    refine wpAny_bind (wpAny_fieldsOf hop hpd ?_)
    rw [hnf]
    exact wpAny_pure (hQ cv s.heap s.toks #[] (Heap.ExtBut.refl _ _) (Nat.le_refl _) (by simpa using T))
abbrev GenS (w : World) (A : Around) (K a : Addr) (y : List Nat) (q : Nat → Bool) (s : Shared) : Prop := Gen prg w A K a y.length (fun j v => ∃ c, y[j]? = some c ∧ v = .bool (q c)) s
theorem gen_str {env : Env} {elt iter : Expr} {x : Str} {px : Pos} {scope : Scope} {cl : List (Str × Addr)} {pos : Pos} {Q : Value → Shared → Prop} {h₀ : Heap} {L : Addr} {m : Str → Option Value}
    (_F : Fr h₀ L s.heap m) (G : BigG w mg mb h₀) (hcode : env.code = .ref 47) (hgl : env.globals = mainGlobals) (hh : A.handled = none) (hco : scope.isCoroutine = false) (hclos : closureFor scope env = pure cl) (hcell : ∀ y ∈ scope.names, y.2 ≠ .cell)
    (h0 : scope.names.lookup (".0" : Str) = some NameKind.local) (hx : scope.names.lookup x = some .local) (hkind : scope.kind = .function) (hroom : A.depth < recursionLimit)
    (h : wpAny (model prg w) A (eval iter env) (fun xv s₁ => True ∧ ∃ y t ps q, xv = .str (tx y) t ∧ Fr h₀ L s₁.heap m ∧ News h₀ L s₁.heap [(45, tabO ps)] ∧ TriplesOk ps.toList ∧ AllBare s₁.gens ∧
        (∀ code C A' E' c v (u : Shared) m₂, A'.handled = none → c ∈ y → SignV c v → u.heap.Ns C m₂ → m₂ x = some v → (∀ b o, h₀.get? b = some o → u.heap.get? b = some o) →
          wpAny (model prg w) A' (eval elt (genEnv scope cl C code builtinsNs env)) (fun r s₃ => r = .bool (q c) ∧ Keeps u s₃) E' u) ∧
        (∀ a H gs dr tk more K, Fr h₀ L H m → News h₀ L H [(45, tabO (ps ++ more))] → TriplesOk (ps ++ more).toList → AllBare gs → 45 ≤ K → L ≤ K → GenS w A K a y q ⟨H, gs, dr, tk, s₁.os⟩ → Q (.ref a) ⟨H, gs, dr, tk, s₁.os⟩)) E s)
    (hs : ∀ x, genFold iter env x = pure x) :
    wpAny (model prg w) A (eval (.GeneratorExp elt [⟨.Name x px, iter, [], 0⟩] scope pos) env) Q E s := by
  refine wpAny_GeneratorExp_walksQD hh hco hclos hcell h0 hx hkind hroom (wpAny_mono h (fun xv s₁ h₁ => ?_) fun _ _ e => e) hs
  obtain ⟨_, y, t, ps, q, rfl, F₁, N₁, htr, G₁, helt, hQ⟩ := h₁
  have T₁ : Tab s₁.heap ps := G.tab _ _ F₁.keep (N₁ _ (.head _)).1 htr
  have hlim : s₁.heap.NoLimit := G.T.nolimit.keeps F₁.keep
  have h45 : 45 < s₁.heap.objs.size := Heap.lt_size (N₁ _ (.head _)).1
  have hL : L < s₁.heap.objs.size := F₁.ns.lt
  refine wpAny_pyIter_str fun o St W hst => ⟨hlim.push _, code_any hcode (T₁.at (fun _ e => Heap.get?_push_of_some _ e) (fun _ e => Heap.get?_push_of_some _ e)) fun code h₃ tk₃ more hx₃ hsz T₃ => ?_⟩
  replace hx₃ : Heap.ExtBut 45 (s₁.heap.push o) h₃ := hx₃
  replace hsz : s₁.heap.objs.size + 1 ≤ h₃.objs.size := by rw [← Heap.size_push]; exact hsz
  have hk₃ : ∀ b o, b ≠ 45 → s₁.heap.get? b = some o → h₃.get? b = some o := fun b o hb e => hx₃ b o hb (Heap.get?_push_of_some _ e)
  have hkg : ∀ b o, h₀.get? b = some o → h₃.get? b = some o := fun b o e => hk₃ b o (fun q => by subst q; rw [G.hide] at e; cases e) (F₁.keep b o e)
  obtain ⟨bm, ob, M⟩ := G.bmod
  have M₃ := M.keeps hkg
  have hl₃ : h₃.NoLimit := G.T.nolimit.keeps hkg
  rw [hgl]
  refine wpAny_builtinsFor M₃.ns M₃.name M₃.ne M₃.obj M₃.cls M₃.dict M₃.data ?_
  have hW : ∀ A' : Around, A'.handled = none → Walks prg w A' s₁.heap.objs.size [s₁.heap.objs.size] [s₁.heap.objs.size] (tx y).cps.size (SignAt (tx y)) St := W
  refine ⟨s₁.heap.objs.size, [s₁.heap.objs.size], [s₁.heap.objs.size], (tx y).cps.size, SignAt (tx y), St, fun _ => true, fun i v => ∃ c, y[i]? = some c ∧ v = .bool (q c), rfl, hW, ?_, ?_, hl₃, ?_, ?_, ?_⟩
  · refine (W A hh).frame 0 _ _ hst fun b hb o' e => hx₃ b o' (fun q => ?_) e
    rw [List.mem_singleton.mp hb] at q; exact absurd h45 (q ▸ Nat.lt_irrefl _)
  · intro b hb
    rw [List.mem_singleton.mp hb]
    show _ < h₃.objs.size
    omega
  · intro hm
    obtain ⟨_, hn, _⟩ := hlim
    have := hn.lt
    rw [List.mem_singleton.mp hm] at this
    exact Nat.lt_irrefl _ this
  · intro href hhref
    refine ⟨fun A' E' i v s₂ m₂ hA _ _ hP hn hm hk => tests_nil ⟨rfl, ⟨_, _, rfl, fun _ _ e => e⟩⟩, fun A' E' i v s₂ m₂ hA _ _ hP _ hn hm hk => ?_⟩
    obtain ⟨c, u, hc, rfl⟩ := hP
    have hc' : y[i]? = some c := by simpa using hc
    refine wpAny_mono (helt code _ A' E' c _ s₂ m₂ hA (List.mem_of_getElem? hc') ⟨u, rfl⟩ hn hm fun b o e => ?_) (fun r s₃ z => ⟨⟨c, hc', z.1⟩, z.2⟩) fun _ _ e => e
    have hb := F₁.keep b o e
    have hlt := Heap.lt_size hb
    refine hk b (List.mem_range.mpr (Heap.lt_size (hkg b o e))) (fun hm => ?_) o (hhref b o (hkg b o e))
    rw [List.mem_singleton.mp hm] at hlt; exact Nat.lt_irrefl _ hlt
  · intro a h₅ tk₅ gs hgb hag hsz₅ hk₅ W5 hat
    have hag' : h₃.objs.size < a := hag
    have hpass : (passing (fun _ => true) (tx y).cps.size 0) = List.range y.length := by simp [passing, tx]
    have F₃ : Fr h₀ L h₃ m := ⟨F₁.ns.at' fun o e => hk₃ _ o (fun q => (N₁ _ (.head _)).2.1 q.symm) e, hkg, F₁.above⟩
    have W6 := W5.imp (P' := fun j v => ∃ c, y[j]? = some c ∧ v = .bool (q c)) (fun j v hv => by
      obtain ⟨i, hi, c, hc, hv⟩ := hv
      rw [hpass] at hi
      have this : i = j := by
        have this := List.getElem?_eq_some_iff.mp hi
        obtain ⟨h1, h2⟩ := this
        simpa using h2.symm
      subst this
      exact ⟨c, hc, hv⟩)
    have hl : (passing (fun _ => true) (tx y).cps.size 0).length = y.length := by rw [hpass]; simp
    rw [hl] at W6
    refine hQ a h₅ _ _ tk₅ more (s₁.heap.objs.size - 1) (F₃.keeps hk₅) ?_ T₃.triples (G₁.push hgb) (Nat.le_sub_one_of_lt h45) (Nat.le_sub_one_of_lt hL) ⟨_, _, _, _, W6, hat, (fun i s' st => st.1.typeIs), List.mem_cons_self, ?_, ?_⟩
    · intro p hp
      rw [List.mem_singleton.mp hp]
      exact ⟨hk₅ _ _ T₃.2.2, (N₁ _ (.head _)).2⟩
    · intro b hb
      show b < h₅.objs.size
      rw [hsz₅]
      rcases List.mem_cons.mp hb with rfl | hb
      · exact Nat.lt_succ_self _
      · rcases List.mem_cons.mp hb with rfl | hb
        · exact Nat.lt_succ_of_lt hag
        · exact Nat.lt_succ_of_lt (Nat.lt_trans (List.mem_range.mp hb) hag)
    · intro b hb
      rcases List.mem_cons.mp hb with rfl | hb
      · show _ < h₃.objs.size
        exact Nat.lt_of_le_of_lt (Nat.sub_le _ _) hsz
      · rw [List.mem_singleton.mp hb]; exact Nat.sub_lt (Nat.lt_of_le_of_lt (Nat.zero_le _) h45) Nat.one_pos
end
section
variable {w : World} {A : Around} {E : Value → Shared → Prop} {hp : Heap} {gs : Array GenState} {dr : Drawn} {tk : Nat} {os : OsState} {h₀ : Heap} {L K a : Addr} {m : Str → Option Value} {ps : Array Value} {y : List Nat} {q : Nat → Bool} {Q : Value → Shared → Prop}
theorem any_at (y : List Nat) (q : Nat → Bool) : (List.range y.length).any (fun j => (y[j]?.map q).getD false) = y.any q := by
  rw [Bool.eq_iff_iff, List.any_eq_true, List.any_eq_true]
  constructor
  · rintro ⟨j, hj, h⟩
    have hj' := List.mem_range.mp hj
    exact ⟨y[j], List.getElem_mem hj', by simpa [List.getElem?_eq_getElem hj'] using h⟩
  · rintro ⟨b, hb, h⟩
    obtain ⟨j, hj, rfl⟩ := List.getElem_of_mem hb
    exact ⟨j, List.mem_range.mpr hj, by simpa [List.getElem?_eq_getElem hj] using h⟩
theorem all_at (y : List Nat) (q : Nat → Bool) : (List.range y.length).all (fun j => (y[j]?.map q).getD true) = y.all q := by
  rw [Bool.eq_iff_iff, List.all_eq_true, List.all_eq_true]
  constructor
  · intro h b hb
    obtain ⟨j, hj, rfl⟩ := List.getElem_of_mem hb
    simpa [List.getElem?_eq_getElem hj] using h j (List.mem_range.mpr hj)
  · intro h j hj
    have hj' := List.mem_range.mp hj
    simp [List.getElem?_eq_getElem hj', h _ (List.getElem_mem hj')]
theorem any_str (F : Fr h₀ L hp m) (N : News h₀ L hp [(45, tabO ps)]) (G : AllBare gs) (X : GenS w A K a y q ⟨hp, gs, dr, tk, os⟩) (h45 : 45 ≤ K) (hLK : L ≤ K)
    (h : ∀ H gs dr tk, Fr h₀ L H m → News h₀ L H [(45, tabO ps)] → AllBare gs → Q (.bool (y.any q)) ⟨H, gs, dr, tk, os⟩) : wpAny (model prg w) A (call (.builtin "any") [.ref a]) Q E ⟨hp, gs, dr, tk, os⟩ := by
  refine any_rowsK F G X hLK (fun j => (y[j]?.map q).getD false) (fun j v s Q E hv hQ => ?_) fun s' F' G' hos hk => ?_
  · obtain ⟨c, hc, rfl⟩ := hv
    simp only [hc, Option.map_some, Option.getD_some] at hQ
    exact wpAny_truthy_bool hQ
  · rw [any_at]
    obtain ⟨H, gs', dr', tk', os'⟩ := s'
    cases hos
    refine h H gs' dr' tk' F' (fun p hp => ?_) G'
    rw [List.mem_singleton.mp hp]
    exact ⟨hk _ _ h45 (N _ (.head _)).1, (N _ (.head _)).2⟩
theorem all_str (F : Fr h₀ L hp m) (N : News h₀ L hp [(45, tabO ps)]) (G : AllBare gs) (X : GenS w A K a y q ⟨hp, gs, dr, tk, os⟩) (h45 : 45 ≤ K) (hLK : L ≤ K)
    (h : ∀ H gs dr tk, Fr h₀ L H m → News h₀ L H [(45, tabO ps)] → AllBare gs → Q (.bool (y.all q)) ⟨H, gs, dr, tk, os⟩) : wpAny (model prg w) A (call (.builtin "all") [.ref a]) Q E ⟨hp, gs, dr, tk, os⟩ := by
  refine all_rowsK F G X hLK (fun j => (y[j]?.map q).getD true) (fun j v s Q E hv hQ => ?_) fun s' F' G' hos hk => ?_
  · obtain ⟨c, hc, rfl⟩ := hv
    simp only [hc, Option.map_some, Option.getD_some] at hQ
    exact wpAny_truthy_bool hQ
  · rw [all_at]
    obtain ⟨H, gs', dr', tk', os'⟩ := s'
    cases hos
    refine h H gs' dr' tk' F' (fun p hp => ?_) G'
    rw [List.mem_singleton.mp hp]
    exact ⟨hk _ _ h45 (N _ (.head _)).1, (N _ (.head _)).2⟩
end
theorem Ext.of {s : Shared} {ps ps' : Array Value} {L : Addr} {H : Heap} {m : Str → Option Value} {news : List (Addr × Obj)} {gs : Array GenState} {dr : Drawn} {tk : Nat} {os : OsState} (T0 : Tab s.heap ps)
    (F : Fr (s.heap.hide 45) L H m) (N : News (s.heap.hide 45) L H news) (hm : (45, tabO ps') ∈ news) (hps : ∃ more, ps' = ps ++ more) (htr : TriplesOk ps'.toList) (hb : AllBare gs) (hos : os = s.os) : Ext s ⟨H, gs, dr, tk, os⟩ := by
  have hk : ∀ b o, b ≠ 45 → s.heap.get? b = some o → H.get? b = some o := fun b o hb e => F.keep b o ((Heap.hide_ne _ hb).trans e)
  refine ⟨hk, fun ps'' t => ?_, hos, hb⟩
  obtain rfl := T0.uniq t
  obtain ⟨more, rfl⟩ := hps
  exact ⟨more, T0.regrow (fun o e => hk _ _ (by decide) e) (N _ hm).1 htr⟩
theorem not_there {h : Heap} {b : Addr} (hb : b ≠ 45) (e : (h.hide 45).get? b = none) : h.get? b = none := (Heap.hide_ne h hb).symm.trans e
theorem news_listL {h₀ H₁ H : Heap} {L D : Addr} {m : Str → Option Value} {news : List (Addr × Obj)} {ys : List Value} (F : Fr h₀ L H₁ m) (N : News h₀ L H news) (hl : H.IsList D ys.toArray) (hD : H₁.get? D = none) (hL : H₁.get? L ≠ none) :
    ∃ d n sl, News h₀ L H ((D, lobj d ys n sl) :: news) := by
  obtain ⟨o, ho, hc, n, hd⟩ := hl
  obtain ⟨cc, dd, da, ss⟩ := o
  cases hc
  cases hd
  refine ⟨dd, n, ss, fun p hp => ?_⟩
  rcases List.mem_cons.mp hp with rfl | hp
  · refine ⟨ho, fun q => hL (q ▸ hD), ?_⟩
    cases e : h₀.get? D with
    | none => rfl
    | some o => have := F.keep _ _ e; rw [hD] at this; cases this
  · exact N p hp
theorem ns_there {h : Heap} {L : Addr} {m : Str → Option Value} (hn : h.Ns L m) : h.get? L ≠ none := by
  obtain ⟨o, es, ep, ho, _⟩ := hn
  rw [ho]; simp
theorem fresh45 {h H : Heap} {L a : Addr} {news : List (Addr × Obj)} {ps : Array Value} {o : Obj} (N : News (h.hide 45) L H news) (h45 : (45, tabO ps) ∈ news) (hm : (a, o) ∈ news) (hc : o.cls ≠ .none) : h.get? a = none := by
  refine not_there (fun q => ?_) (N _ hm).2.2
  have h1 := (N _ hm).1
  rw [q, (N _ h45).1] at h1
  have h2 : tabO ps = o := Option.some.inj h1
  rw [← h2] at hc
  exact hc rfl
theorem BigG.big {w : World} {mg mb : Str → Option Value} {g H : Heap} {L : Addr} {m : Str → Option Value} {news : List (Addr × Obj)} {ps : Array Value} {gs : Array GenState} {dr : Drawn} {tk : Nat} {os : OsState}
    (G : BigG w mg mb g) (F : Fr g L H m) (N : News g L H news) (hm : (45, tabO ps) ∈ news) (htr : TriplesOk ps.toList) (hb : AllBare gs) : Big w mg mb ⟨H, gs, dr, tk, os⟩ :=
  ⟨fun b o e => F.keep b o (G.X b o e), G.T.keeps F.keep, let ⟨bm, ob, M⟩ := G.bmod; ⟨bm, ob, M.keeps F.keep⟩, ⟨ps, G.tab _ _ F.keep (N _ hm).1 htr⟩, hb⟩
theorem Ext.next {w : World} {mg mb : Str → Option Value} {g H : Heap} {L : Addr} {m : Str → Option Value} {news rest : List (Addr × Obj)} {ps : Array Value} {gs : Array GenState} {dr : Drawn} {tk : Nat} {os : OsState} {s' : Shared}
    (G : BigG w mg mb g) (F : Fr g L H m) (N : News g L H news) (hm : (45, tabO ps) ∈ news) (htr : TriplesOk ps.toList) (hrest : ∀ p ∈ rest, p ∈ news ∧ ∀ fs, p.2.data ≠ .fields fs) (e : Ext ⟨H, gs, dr, tk, os⟩ s') :
    ∃ H' gs' dr' tk' more, s' = ⟨H', gs', dr', tk', os⟩ ∧ Fr g L H' m ∧ News g L H' ((45, tabO (ps ++ more)) :: rest) ∧ TriplesOk (ps ++ more).toList ∧ AllBare gs' ∧ (∀ b o, b ≠ 45 → H.get? b = some o → H'.get? b = some o) := by
  obtain ⟨H', gs', dr', tk', os'⟩ := s'
  obtain ⟨hk, htab, hos, hb⟩ := e
  obtain ⟨more, t⟩ := htab ps (G.tab _ _ F.keep (N _ hm).1 htr)
  cases hos
  refine ⟨H', gs', dr', tk', more, rfl, ⟨F.ns.at' fun o e => hk _ o (fun q => (N _ hm).2.1 q.symm) e, fun b o e => hk b o (fun q => by rw [q, G.hide] at e; cases e) (F.keep b o e), F.above⟩, fun p hp => ?_, t.triples, hb, hk⟩
  rcases List.mem_cons.mp hp with rfl | hp
  · exact ⟨t.2.2, (N _ hm).2⟩
  · obtain ⟨hpn, hd⟩ := hrest p hp
    refine ⟨hk _ _ (fun q => ?_) (N p hpn).1, (N p hpn).2⟩
    have h1 := (N p hpn).1
    rw [q, (N _ hm).1] at h1
    have h2 : tabO ps = p.2 := Option.some.inj h1
    exact hd ps (h2 ▸ rfl)
abbrev tobj (d : Option Addr) (its : Array Value) (n : Nat) (sl : Array (Option Value)) : Obj := { cls := .type "tuple", dict := d, data := .seq its n, slots := sl }
theorem news_tupL {h₀ H₁ H : Heap} {L D : Addr} {m : Str → Option Value} {news : List (Addr × Obj)} {its : Array Value} (F : Fr h₀ L H₁ m) (N : News h₀ L H news) (hl : IsTup H D its) (hD : H₁.get? D = none) :
    ∃ d n sl, News h₀ L H ((D, tobj d its n sl) :: news) := by
  obtain ⟨o, ho, hc, n, hd⟩ := hl
  obtain ⟨cc, dd, da, ss⟩ := o
  cases hc
  cases hd
  refine ⟨dd, n, ss, fun p hp => ?_⟩
  rcases List.mem_cons.mp hp with rfl | hp
  · refine ⟨ho, fun q => ns_there F.ns (q ▸ hD), ?_⟩
    cases e : h₀.get? D with
    | none => rfl
    | some o => have := F.keep _ _ e; rw [hD] at this; cases this
  · exact N p hp
end Mine
namespace Mine
/- texts: case, search, slices -/
section
variable {w : World} {A : Around} {E : Value → Shared → Prop} {hp : Heap} {gs : Array GenState} {dr : Drawn} {tk : Nat} {os : OsState} {h₀ : Heap} {L : Addr} {m : Str → Option Value} {news : List (Addr × Obj)} {env : Env} {y : List Nat} {t : Tok} {Q : Value → Shared → Prop}
theorem lower_t (hA : ∀ c ∈ y, c < 128) (hl : y.length ≤ 100000) (h : ∀ t tk, Q (.str (tx (y.map lo1)) t) ⟨hp, gs, dr, tk, os⟩) : wpAny (model prg w) A (call (.builtin "str.lower") [.str (tx y) t]) Q E ⟨hp, gs, dr, tk, os⟩ := by
  refine SCL.lower (by show y.length ≤ _; omega) fun _ => ?_
  rw [lower_ascii (x := tx y) (by simpa using hA)]
  have e : (⟨(tx y).cps.map lo1⟩ : Str) = tx (y.map lo1) := by simp [tx]
  rw [e]; exact h _ _
theorem upper_t (hA : ∀ c ∈ y, c < 128) (hl : y.length ≤ 100000) (h : ∀ t tk, Q (.str (tx (y.map up1)) t) ⟨hp, gs, dr, tk, os⟩) : wpAny (model prg w) A (call (.builtin "str.upper") [.str (tx y) t]) Q E ⟨hp, gs, dr, tk, os⟩ := by
  refine SCL.upper (by show y.length ≤ _; omega) fun _ => ?_
  rw [upper_ascii (x := tx y) (by simpa using hA)]
  have e : (⟨(tx y).cps.map up1⟩ : Str) = tx (y.map up1) := by simp [tx]
  rw [e]; exact h _ _
theorem rfind_sep {h r : List Nat} (hr : (49 : Nat) ∉ r) : Txt.rfind (tx (h ++ 49 :: r)) (tx [49]) = (h.length : Int) := by
  have key : ∀ i, StrLaws.At (tx (h ++ 49 :: r)) (tx [49]) (tx (h ++ 49 :: r)).length i ↔ (h ++ 49 :: r)[i]? = some 49 := by
    intro i
    have e1 : (tx (h ++ 49 :: r)).length = (h ++ 49 :: r).length := rfl
    have e2 : (tx [49]).length = 1 := rfl
    unfold StrLaws.At
    rw [e1, e2]
    have e3 : Builtin.Str.subAt (tx (h ++ 49 :: r)) (tx [49]) i = (((h ++ 49 :: r).drop i).take 1 == [49]) := by
      show ((tx (h ++ 49 :: r)).cps.extract i (i + 1) == (tx [49]).cps) = _
      rw [Bool.eq_iff_iff, beq_iff_eq, beq_iff_eq, ← Array.toList_inj, Array.toList_extract]
      show (List.extract (h ++ 49 :: r) i (i + 1) = [49]) ↔ _
      rw [List.extract_eq_take_drop, Nat.add_sub_cancel_left]
    rw [e3]
    constructor
    · rintro ⟨hi, he⟩
      rw [beq_iff_eq] at he
      have := congrArg (·[0]?) he
      simpa [List.getElem?_take, List.getElem?_drop] using this
    · intro he
      obtain ⟨hi, hv⟩ := List.getElem?_eq_some_iff.mp he
      refine ⟨hi, ?_⟩
      rw [beq_iff_eq, List.drop_eq_getElem_cons hi, List.take_succ_cons, List.take_zero, hv]
  have hat : StrLaws.At (tx (h ++ 49 :: r)) (tx [49]) (tx (h ++ 49 :: r)).length h.length := (key _).mpr (by simp)
  rcases rfind_whole (tx (h ++ 49 :: r)) (tx [49]) with ⟨_, hn⟩ | ⟨i, e, hi, hn⟩
  · exact absurd hat (hn _)
  · rw [e]
    have h1 := (key i).mp hi
    have h2 : ¬ i < h.length := fun q => hn _ q hat
    have h3 : ¬ h.length < i := fun q => by
      rw [List.getElem?_append_right (by omega)] at h1
      have : i - h.length = (i - h.length - 1) + 1 := by omega
      rw [this, List.getElem?_cons_succ] at h1
      exact hr (List.mem_of_getElem? h1)
    have : i = h.length := by omega
    rw [this]
theorem slice_from {value slice : PySem.Expr} {k : Nat} {ui : Tok} (hk : k ≤ y.length) (hl : y.length ≤ 100000) (F : Fr h₀ L hp m) (N : News h₀ L hp news)
    (h : ∀ h' t tk, Fr h₀ L h' m → News h₀ L h' news → Q (.str (tx (y.drop k)) t) ⟨h', gs, dr, tk, os⟩)
    (hs : subscripted slice false (.str (tx y) t) (.ref hp.objs.size) = operate [.ref hp.objs.size, .str (tx y) t] (getItem (.str (tx y) t) (.ref hp.objs.size)))
    (ht : ∀ r, letTemporaryGo value (.str (tx y) t) r = pure ()) :
    wpAny (model prg w) A (subscriptTail value slice (.str (tx y) t) (.ref hp.objs.size)) Q E ⟨hp.push { cls := .type "slice", data := .fields #[.int (k : Int) ui, .none, .none] }, gs, dr, tk, os⟩ := by
  refine slice_strN_sn (s := ⟨hp, gs, dr, tk, os⟩) F N (fun h' t' k' F' N' => ?_) hs ht (by show y.length ≤ 2 ^ 24; omega)
  have e := beq_iff_eq.mp (slice_closes_from (x := tx y) (i := (k : Int)) ⟨by omega, by show (k : Int) ≤ (y.length : Int); omega⟩)
  rw [e]
  have e2 : (⟨((tx y).cps.toList.drop (k : Int).toNat |>.take (((tx y).cps.toList.length : Int) - (k : Int)).toNat).toArray⟩ : Str) = tx (y.drop k) := by
    simp only [tx, Int.toNat_natCast]
    congr 2
    exact List.take_of_length_le (by rw [List.length_drop]; omega)
  rw [e2]; exact h _ _ _ F' N'
theorem slice_to {value slice : PySem.Expr} {k : Nat} {ui : Tok} (hk : k ≤ y.length) (hl : y.length ≤ 100000) (F : Fr h₀ L hp m) (N : News h₀ L hp news)
    (h : ∀ h' t tk, Fr h₀ L h' m → News h₀ L h' news → Q (.str (tx (y.take k)) t) ⟨h', gs, dr, tk, os⟩)
    (hs : subscripted slice false (.str (tx y) t) (.ref hp.objs.size) = operate [.ref hp.objs.size, .str (tx y) t] (getItem (.str (tx y) t) (.ref hp.objs.size)))
    (ht : ∀ r, letTemporaryGo value (.str (tx y) t) r = pure ()) :
    wpAny (model prg w) A (subscriptTail value slice (.str (tx y) t) (.ref hp.objs.size)) Q E ⟨hp.push { cls := .type "slice", data := .fields #[.none, .int (k : Int) ui, .none] }, gs, dr, tk, os⟩ := by
  refine slice_strN_ns (s := ⟨hp, gs, dr, tk, os⟩) F N (fun h' t' k' F' N' => ?_) hs ht (by show y.length ≤ 2 ^ 24; omega)
  have e := beq_iff_eq.mp (slice_closes_to (x := tx y) (j := (k : Int)) ⟨by omega, by show (k : Int) ≤ (y.length : Int); omega⟩)
  rw [e]
  have e2 : (⟨((tx y).cps.toList.drop (0 : Int).toNat |>.take ((k : Int) - 0).toNat).toArray⟩ : Str) = tx (y.take k) := by
    simp [tx]
  rw [e2]; exact h _ _ _ F' N'
theorem slice_toneg {value slice : PySem.Expr} {k : Nat} {ui : Tok} (h1 : 1 ≤ k) (hk : k ≤ y.length) (hl : y.length ≤ 100000) (F : Fr h₀ L hp m) (N : News h₀ L hp news)
    (h : ∀ h' t tk, Fr h₀ L h' m → News h₀ L h' news → Q (.str (tx (y.take (y.length - k))) t) ⟨h', gs, dr, tk, os⟩)
    (hs : subscripted slice false (.str (tx y) t) (.ref hp.objs.size) = operate [.ref hp.objs.size, .str (tx y) t] (getItem (.str (tx y) t) (.ref hp.objs.size)))
    (ht : ∀ r, letTemporaryGo value (.str (tx y) t) r = pure ()) :
    wpAny (model prg w) A (subscriptTail value slice (.str (tx y) t) (.ref hp.objs.size)) Q E ⟨hp.push { cls := .type "slice", data := .fields #[.none, .int (-(k : Int)) ui, .none] }, gs, dr, tk, os⟩ := by
  refine slice_strN_ns (s := ⟨hp, gs, dr, tk, os⟩) F N (fun h' t' k' F' N' => ?_) hs ht (by show y.length ≤ 2 ^ 24; omega)
  have el : (tx y).length = y.length := rfl
  have e := beq_iff_eq.mp (slice_closes_to_neg (x := tx y) (j := -(k : Int)) (k := -(k : Int) + (tx y).length) (by omega) (by rw [el]; omega) rfl)
  rw [e, el]
  have e2 : (⟨((tx y).cps.toList.drop (0 : Int).toNat |>.take ((-(k : Int) + (y.length : Int)) - 0).toNat).toArray⟩ : Str) = tx (y.take (y.length - k)) := by
    have : ((-(k : Int) + (y.length : Int)) - 0).toNat = y.length - k := by omega
    rw [this]; simp [tx]
  rw [e2]; exact h _ _ _ F' N'
theorem lslice_from {value slice : PySem.Expr} {l : Addr} {vs : List Value} {ns : List Int} {k : Nat} {ui : Tok} (hl : hp.IsList l vs.toArray) (hI : IntsAre vs ns) (hsz : ns.length ≤ 100000) (F : Fr h₀ L hp m) (N : News h₀ L hp news)
    (h : ∀ D ws h', Fr h₀ L h' m → News h₀ L h' ((D, lobj none ws 0 #[]) :: news) → IntsAre ws (ns.drop k) → Q (.ref D) ⟨h', gs, dr, tk, os⟩)
    (hs : subscripted slice false (.ref l) (.ref hp.objs.size) = operate [.ref hp.objs.size, .ref l] (getItem (.ref l) (.ref hp.objs.size))) (ht : ∀ r, letTemporaryGo value (.ref l) r = pure ()) :
    wpAny (model prg w) A (subscriptTail value slice (.ref l) (.ref hp.objs.size)) Q E ⟨hp.push { cls := .type "slice", data := .fields #[.int (k : Int) ui, .none, .none] }, gs, dr, tk, os⟩ := by
  have hm := slice_ints_fromW hI (x := (k : Int)) (by omega)
  rw [Int.toNat_natCast] at hm
  have hlen := hI.length
  exact kmk_slice_ints (s := ⟨hp, gs, dr, tk, os⟩) F N hl (.int _ _) .none hI hm rfl (fun D ws h' F' N' _ hw _ _ => h D ws h' F' N' hw) hs ht (by rw [List.size_toArray, show sizeLine = 2 ^ 24 from rfl]; omega)
theorem lslice_to {value slice : PySem.Expr} {l : Addr} {vs : List Value} {ns : List Int} {k : Nat} {ui : Tok} (hl : hp.IsList l vs.toArray) (hI : IntsAre vs ns) (hsz : ns.length ≤ 100000) (F : Fr h₀ L hp m) (N : News h₀ L hp news)
    (h : ∀ D ws h', Fr h₀ L h' m → News h₀ L h' ((D, lobj none ws 0 #[]) :: news) → IntsAre ws (ns.take k) → Q (.ref D) ⟨h', gs, dr, tk, os⟩)
    (hs : subscripted slice false (.ref l) (.ref hp.objs.size) = operate [.ref hp.objs.size, .ref l] (getItem (.ref l) (.ref hp.objs.size))) (ht : ∀ r, letTemporaryGo value (.ref l) r = pure ()) :
    wpAny (model prg w) A (subscriptTail value slice (.ref l) (.ref hp.objs.size)) Q E ⟨hp.push { cls := .type "slice", data := .fields #[.none, .int (k : Int) ui, .none] }, gs, dr, tk, os⟩ := by
  have hm := slice_ints_uptoW hI (y := (k : Int)) (by omega)
  rw [Int.toNat_natCast] at hm
  have hlen := hI.length
  exact kmk_slice_ints (s := ⟨hp, gs, dr, tk, os⟩) F N hl .none (.int _ _) hI hm rfl (fun D ws h' F' N' _ hw _ _ => h D ws h' F' N' hw) hs ht (by rw [List.size_toArray, show sizeLine = 2 ^ 24 from rfl]; omega)
theorem lslice_toneg {value slice : PySem.Expr} {l : Addr} {vs : List Value} {ns : List Int} {k : Nat} {ui : Tok} (h1 : 1 ≤ k) (hl : hp.IsList l vs.toArray) (hI : IntsAre vs ns) (hsz : ns.length ≤ 100000) (F : Fr h₀ L hp m) (N : News h₀ L hp news)
    (h : ∀ D ws h', Fr h₀ L h' m → News h₀ L h' ((D, lobj none ws 0 #[]) :: news) → IntsAre ws (ns.take (ns.length - k)) → Q (.ref D) ⟨h', gs, dr, tk, os⟩)
    (hs : subscripted slice false (.ref l) (.ref hp.objs.size) = operate [.ref hp.objs.size, .ref l] (getItem (.ref l) (.ref hp.objs.size))) (ht : ∀ r, letTemporaryGo value (.ref l) r = pure ()) :
    wpAny (model prg w) A (subscriptTail value slice (.ref l) (.ref hp.objs.size)) Q E ⟨hp.push { cls := .type "slice", data := .fields #[.none, .int (-(k : Int)) ui, .none] }, gs, dr, tk, os⟩ := by
  have hlen := hI.length
  have hm : IntsAre (slicePick vs.toArray none (some (-(k : Int))) none).toList (ns.take (ns.length - k)) := by
    rw [slicePick_butLast _ _ h1, List.size_toArray, hlen]
    simpa using hI.take (ns.length - k)
  exact kmk_slice_ints (s := ⟨hp, gs, dr, tk, os⟩) F N hl .none (.int _ _) hI hm rfl (fun D ws h' F' N' _ hw _ _ => h D ws h' F' N' hw) hs ht (by rw [List.size_toArray, show sizeLine = 2 ^ 24 from rfl]; omega)
theorem len_t (hl : y.length ≤ 100000) (h : ∀ u tk, Q (.int ((y.length : Nat) : Int) u) ⟨hp, gs, dr, tk, os⟩) : wpAny (model prg w) A (call (.builtin "len") [.str (tx y) t]) Q E ⟨hp, gs, dr, tk, os⟩ :=
  _root_.PySem.P.len_str (x := tx y) (by show ¬ ((y.length : Nat) : Int) ≥ 2 ^ 63; omega) (h _ _)
theorem rfind_t {x z : Str} {h r : List Nat} {t u : Tok} (hx : x = tx (h ++ 49 :: r)) (hz : z = tx [49]) (hr : (49 : Nat) ∉ r) (hQ : ∀ u tk, Q (.int ((h.length : Nat) : Int) u) ⟨hp, gs, dr, tk, os⟩) :
    wpAny (model prg w) A (call (.builtin "str.rfind") [.str x t, .str z u]) Q E ⟨hp, gs, dr, tk, os⟩ := by
  subst hx hz
  exact SC.rfind (by rw [rfind_sep hr]; exact hQ _ _)
theorem find_t {x z : Str} {n : Nat} {t u : Tok} (e : Txt.find x z = (n : Int)) (hQ : ∀ u tk, Q (.int (n : Int) u) ⟨hp, gs, dr, tk, os⟩) :
    wpAny (model prg w) A (call (.builtin "str.find") [.str x t, .str z u]) Q E ⟨hp, gs, dr, tk, os⟩ :=
  SC.find (by rw [e]; exact hQ _ _)
theorem in_c {z : Str} {c : Nat} {t u : Tok} {s : Shared} (hz : z = tx [113,112,122,114,121,57,120,56,103,102,50,116,118,100,119,48,115,51,106,110,53,52,107,104,99,101,54,109,117,97,55,108]) (hc : c ∈ [113,112,122,114,121,57,120,56,103,102,50,116,118,100,119,48,115,51,106,110,53,52,107,104,99,101,54,109,117,97,55,108]) (h : Q (.bool true) s) :
    wpAny (model prg w) A (compareOp .In (.str ⟨#[c]⟩ t) (.str z u)) Q E s := by
  subst hz
  refine _root_.PySem.P.in_str ?_
  rw [(by decide +kernel : ∀ c ∈ [113,112,122,114,121,57,120,56,103,102,50,116,118,100,119,48,115,51,106,110,53,52,107,104,99,101,54,109,117,97,55,108], (!(Builtin.Str.occurrences (tx [113,112,122,114,121,57,120,56,103,102,50,116,118,100,119,48,115,51,106,110,53,52,107,104,99,101,54,109,117,97,55,108]) ⟨#[c]⟩ 0 (tx [113,112,122,114,121,57,120,56,103,102,50,116,118,100,119,48,115,51,106,110,53,52,107,104,99,101,54,109,117,97,55,108]).length 1).isEmpty) = true) c hc]
  exact h
theorem eq_t {a b : List Nat} {t u : Tok} {s : Shared} (h : Q (.bool (a == b)) s) : wpAny (model prg w) A (compareOp .Eq (.str (tx a) t) (.str (tx b) u)) Q E s := _root_.PySem.P.eq_str h
theorem ne_t {a b : List Nat} {t u : Tok} {s : Shared} (h : Q (.bool (a != b)) s) : wpAny (model prg w) A (compareOp .NotEq (.str (tx a) t) (.str (tx b) u)) Q E s := _root_.PySem.P.ne_str h
end
end Mine
namespace Mine
local macro_rules | `(tactic| walk_at "eval Constant int") => `(tactic| (refine const_n ?_; intro _ _))
local macro_rules | `(tactic| walk_at "binaryOp BitAnd int int") => `(tactic| (refine and_n ?_; intro _ _))
local macro_rules | `(tactic| walk_at "binaryOp BitOr int int") => `(tactic| (refine or_n ?_; intro _ _))
local macro_rules | `(tactic| walk_at "binaryOp BitXor int int") => `(tactic| (refine xor_n ?_; intro _ _))
local macro_rules | `(tactic| walk_at "inplaceOp BitXor int int") => `(tactic| (refine ixor_n ?_; intro _ _))
local macro_rules | `(tactic| walk_at "binaryOp RShift int int") => `(tactic| (refine rsh_n ?_; intro _ _))
local macro_rules | `(tactic| walk_at "binaryOp Add int int") => `(tactic| (refine add_n ?_; intro _ _))
local macro_rules | `(tactic| walk_at "inplaceOp Add int int") => `(tactic| (refine iadd_n ?_; intro _ _))
local macro_rules | `(tactic| walk_at "binaryOp FloorDiv int int") => `(tactic| (refine div_n (by decide) (by decide) ?_; intro _ _))
local macro_rules | `(tactic| walk_at "binaryOp Mod int int") => `(tactic| (refine mod_n (by decide) ?_; intro _ _))
local macro_rules | `(tactic| walk_at "truthy int") => `(tactic| refine truthy_n ?_)
local macro_rules | `(tactic| walk_at "look") => `(tactic| ((try dsimp only); first | assumption | exact if_pos rfl | (refine Eq.trans (if_neg (by decide)) ?_; walk_at "look") | (refine Eq.trans (Upto.out (by assumption) (by decide)) ?_; walk_at "look") | rfl))
local macro_rules | `(tactic| walk_at "mem") => `(tactic| (intro p9 hp9; first | exact hp9 | (repeat' (first | exact hp9 | refine List.mem_cons_of_mem _ ?_))))
local macro_rules | `(tactic| walk_at "upto") => `(tactic| first | assumption | exact Upto.refl | (refine Upto.set (by first | decide | decide +kernel | simp) ?_; walk_at "upto") | (refine' Upto.trans ?hs ?h1 ?_; (case h1 => assumption); (case hs => first | decide | decide +kernel); walk_at "upto"))
local macro_rules | `(tactic| walk_at "memx") => `(tactic| first | exact List.Mem.head _ | (refine List.Mem.tail _ ?_; walk_at "memx") | (refine List.mem_append_left _ ?_; walk_at "memx") | (refine List.mem_append_right _ ?_; walk_at "memx"))
local macro_rules | `(tactic| walk_at "TurnEnd next") => `(tactic| (refine' TurnEnd.next ?F ?N ?n ?_ ?U; (case F => k_asm); (case N => k_asm); (case n => walk_at "mem"); (case U => walk_at "upto")))
local macro_rules | `(tactic| walk_at "loadName") => `(tactic| (k_here; k_dflt (refine' ldn ?k1 ?k2 ?_; (case k1 => k_asm); (case k2 => walk_at "look"); k_whole)))
local macro_rules | `(tactic| walk_at "topr") => `(tactic| first | assumption | exact TopRead.keeps (by assumption) (Fr.keep (by assumption)))
local macro_rules | `(tactic| walk_at "eval Name") => `(tactic| (k_here; k_dflt (first
  | (refine' nm_localF ?F ?v ?_ ?a ?b ?c; (case b => rfl); (case a => rfl); (case c => decide); (case F => k_asm); (case v => walk_at "look"); k_whole)
  | (refine' nm_local ?F ?v ?_ ?a ?b ?c; (case b => rfl); (case a => rfl); (case c => decide); (case F => k_asm); (case v => walk_at "look"); k_whole)
  | (refine' nm_cell ?F ?v ?_ ?a ?b ?c; (case b => rfl); (case a => rfl); (case c => decide); (case v => rfl); (case F => k_asm); k_whole)
  | (refine' nm_K ?X ?T ?e ?_ ?g ?a ?b ?c; (case b => rfl); (case a => rfl); (case g => rfl); (case c => decide); (case X => k_in); (case T => walk_at "topr"); (case e => k_is); k_whole)
  | (refine' nm_B ?X ?T ?e ?v ?_ ?g ?h ?a ?b ?c ?n; (case b => rfl); (case a => rfl); (case g => rfl); (case h => rfl); (case c => decide); (case n => decide); (case X => k_in); (case T => walk_at "topr"); (case e => k_is); (case v => first | boot_fast | boot_by_name); k_whole))))
local macro_rules | `(tactic| walk_at "isl") => `(tactic| first | assumption | exact News.isList (by k_asm) (by walk_at "memx") | exact Heap.IsList.at (by assumption) (fun o e => Fr.keep (by k_asm) _ o e))
local macro_rules | `(tactic| walk_at "ints") => `(tactic| first | assumption | exact .nil | exact IntsAre.cons _ _ (by walk_at "ints"))
local macro_rules | `(tactic| walk_at "compareOp Eq int int") => `(tactic| refine eq_n ?_)
local macro_rules | `(tactic| walk_at "compareOp NotEq int int") => `(tactic| refine ne_n ?_)
local macro_rules | `(tactic| walk_at "compareOp Lt int int") => `(tactic| refine lt_n ?_)
local macro_rules | `(tactic| walk_at "compareOp Gt int int") => `(tactic| refine gt_n ?_)
local macro_rules | `(tactic| walk_at "compareOp LtE int int") => `(tactic| refine le_n ?_)
local macro_rules | `(tactic| walk_at "compareOp GtE int int") => `(tactic| refine ge_n ?_)
local macro_rules | `(tactic| walk_at "binaryOp Mult int int") => `(tactic| ((first | refine mul_n ?_ (IntMulOk.of_left (by decide +kernel)) | refine mul_n ?_ (IntMulOk.of_right (by decide +kernel))); intro _ _))
local macro_rules | `(tactic| walk_at "binaryOp Sub int int") => `(tactic| (refine sub_n (by omega) ?_; intro _ _))
local macro_rules | `(tactic| walk_at "storeName") => `(tactic| (k_dflt (refine' store_g ?a ?b ?c ?F ?N ?_; (case a => rfl); (case b => rfl); (case F => k_asm); (case c => rfl); (case N => k_asm); k_whole); intro h' tk' F' N'; (try k_sweep)))
local macro_rules | `(tactic| walk_at "eval Constant str") => `(tactic| (refine const_s ?_; intro _ _))
local macro_rules | `(tactic| walk_at "call builtin:len") => `(tactic| (k_dflt (refine' len_nl ?hl ?hI ?sz ?_; (case hl => walk_at "isl"); (case hI => walk_at "ints"); (case sz => (try simp only [List.length_append, List.length_map, List.length_cons, List.length_nil, List.length_range]); omega); k_whole); intro _ _))
local macro_rules | `(tactic| walk_at "inplaceOp Sub int int") => `(tactic| (refine isub_n (by omega) ?_; intro _ _))
local macro_rules | `(tactic| k_in) => `(tactic| first | with_reducible assumption | exact Frag.In.keeps (by with_reducible assumption) (Fr.keep (by with_reducible assumption)))
local macro_rules | `(tactic| walk_at "call builtin:str.lower") => `(tactic| (refine lower_t (by assumption) (by first | assumption | omega) ?_; intro _ _))
local macro_rules | `(tactic| walk_at "call builtin:str.upper") => `(tactic| (refine upper_t (by assumption) (by first | assumption | omega) ?_; intro _ _))
local macro_rules | `(tactic| walk_at "call builtin:len") => `(tactic| ((with_reducible show wpAny _ _ (call (Value.builtin "len") [Value.str _ _]) _ _ _); refine len_t (by first | assumption | omega) ?_; intro _ _))
local macro_rules | `(tactic| walk_at "compareOp Eq str str") => `(tactic| refine eq_t ?_)
local macro_rules | `(tactic| walk_at "compareOp NotEq str str") => `(tactic| refine ne_t ?_)
local macro_rules | `(tactic| walk_at "ist") => `(tactic| first | assumption | exact News.isTup (by k_asm) (by walk_at "memx"))
local macro_rules | `(tactic| walk_at "assign Tuple") => `(tactic| (k_dflt (refine' unpackN_ ?F ?N ?T ?hh ?k1 ?k2 ?_; (case F => k_asm); (case N => k_asm); (case T => walk_at "ist"); (case hh => (rename Around.handled _ = none => h9; exact h9)); (case k1 => exact rfl); (case k2 => exact rfl); k_whole); intro h' F' N'; (try k_sweep)))
def Mixed (y : List Nat) : Prop := y.map lo1 ≠ y ∧ y.map up1 ≠ y
def DecForm (y h ds : List Nat) : Prop := y.map lo1 = h ++ 49 :: ds.map (fun d => cset.getD d 0) ∧ 1 ≤ h.length ∧ h.length ≤ 83 ∧ 6 ≤ ds.length ∧ ∀ d ∈ ds, d < 32
def DecGood (y : List Nat) (r : Option (List Nat × List Nat)) : Prop :=
  (Mixed y ∧ r = none) ∨ (¬ Mixed y ∧ ∃ h ds, DecForm y h ds ∧ r = if pm (hrpx h ++ ds) = 1 then some (h, ds.take (ds.length - 6)) else none)
theorem DecGood.len {y : List Nat} {p : List Nat × List Nat} (h : DecGood y (some p)) : p.2.length ≤ y.length := by
  rcases h with ⟨_, e⟩ | ⟨_, hh, ds, ⟨hlow, _⟩, e⟩
  · cases e
  · split at e
    · cases e
      have h1 : (y.map lo1).length = hh.length + 1 + ds.length := by rw [hlow]; simp; omega
      rw [List.length_map] at h1
      rw [List.length_take]; omega
    · cases e
theorem find_n {z : Str} {c : Nat} (hz : z = tx cset) (hc : c ∈ cset) : Txt.find z ⟨#[c]⟩ = ((Txt.find (tx cset) ⟨#[c]⟩).toNat : Int) := by
  subst hz
  exact (by decide +kernel : ∀ c ∈ cset, Txt.find (tx cset) ⟨#[c]⟩ = ((Txt.find (tx cset) ⟨#[c]⟩).toNat : Int)) c hc
def StrPair (s s' : Shared) (v : Value) : Option (List Nat × List Nat) → Prop
  | none => ∃ t, v = .ref t ∧ IsTup s'.heap t #[.none, .none] ∧ s.heap.get? t = none
  | some p => ∃ t u l vs, v = .ref t ∧ IsTup s'.heap t #[.str (tx p.1) u, .ref l] ∧ s'.heap.IsList l vs.toArray ∧ IntsAre vs (natv p.2) ∧ s.heap.get? t = none ∧ s.heap.get? l = none
set_option maxRecDepth 100000 in
set_option maxHeartbeats 8000000 in
theorem b32decode_spec (w : World) (mg mb : Str → Option Value) (A : Around) (s : Shared) (y : List Nat) (t : Tok) (r : Option (List Nat × List Nat))
   (E : Value → Shared → Prop) (B : Big w mg mb s) (hA : A.handled = none) (hd : A.depth + 3 < recursionLimit)
   (hy : ∀ c ∈ y, 33 ≤ c ∧ c ≤ 126) (hlen : y.length ≤ 1000) (hr : DecGood y r) :
   wpAny (model PySem.Challenge.rw_fw0006_01.row.prog w) A (call (.ref 48) [.str (tx y) t]) (fun v s' => StrPair s s' v r ∧ Ext s s') E s := by
  have X0 := B.X
  have G := B.g
  have X := G.X
  obtain ⟨ps, T0⟩ := B.tab
  have hbare := B.bare
  have TR := B.T
  have T := G.T
  have hk45 := T0.2.2
  have htr := T0.triples
  revert X0 X
  k_fill
  intro X0 X
  refine' enterG (binds := [("bech", .str (tx y) t)]) (s.heap.hide 45) (fun b o e => Heap.of_hide e) (Nat.le_of_eq (Heap.hide_size _ _)) X0 TR.nolimit ?a ?b ?c ?d ?e ?h ?i ?j ?k ?l
  (case a => omega); (case b => k_is); (case c => k_is); (case d => exact BindsTo.of_eq rfl); (case e => exact locs rfl); (case i => rfl); (case j => rfl); (case k => rfl); (case l => decide)
  intro L h₁ hL F N hk₁
  have N45 : News (s.heap.hide 45) L h₁ [(45, tabO ps)] := fun p hp => by
    rw [List.mem_singleton.mp hp]
    exact ⟨hk₁ _ _ hk45, Nat.ne_of_lt (hL ▸ Heap.lt_size hk45), Heap.hide_self _ _⟩
  clear N hk₁ X0 TR
  obtain ⟨hp0, gs0, dr0, tk0, os0⟩ := s
  try dsimp only
  try k_fold
  (repeat' (first | ((with_reducible show Frag.In _ _ ∧ _); walk1) | ((fail_if_success (with_reducible show _ ∧ _)); (fail_if_success (with_reducible show wpAny _ _ (eval (Expr.GeneratorExp _ _ _ _) _) _ _ _)); first | (k_unfold; (try dsimp only)) | walk1 | (dsimp only; walk1)) | fail "no step"))
  refine gen_str F G (by rfl) (by rfl) hA (by rfl) (by rfl) (by decide) (by rfl) (by rfl) (by rfl) (by (repeat rw [deeper_depth]); omega) ?_ (by intro _; rfl)
  (repeat' (first | ((with_reducible show Frag.In _ _ ∧ _); walk1) | ((fail_if_success (with_reducible show _ ∧ _)); first | (k_unfold; (try dsimp only)) | walk1 | (dsimp only; walk1)) | fail "no step"))
  refine ⟨trivial, y, t, ps, fun _ => false, rfl, F, N45, htr, hbare, ?_, ?_⟩
  · intro code C A' E' c v u m₂ hA' hc hv hn hm hk
    obtain ⟨H, gs, dr, tk, os⟩ := u
    obtain ⟨tv, rfl⟩ := hv
    have X' := X.keeps hk
    have T' := T.keeps hk
    clear F N45 X T G B
    (repeat' (first | ((with_reducible show Frag.In _ _ ∧ _); walk1) | ((fail_if_success (with_reducible show _ ∧ _)); first | (k_unfold; (try dsimp only)) | walk1 | (dsimp only; walk1)) | fail "no step"))
    all_goals
      refine ⟨congrArg Value.bool ?_, Keeps.rfl'⟩
      have := hy c hc
      simp only [decide_eq_false_iff_not]
      omega
  intro a H1 gs1 dr1 tk1 more1 K1 F1 N1 htr1 hb1 hK1 hKL1 X1
  clear F N45
  try dsimp only
  (repeat' (first | ((with_reducible show Frag.In _ _ ∧ _); walk1) | ((fail_if_success (with_reducible show _ ∧ _)); (fail_if_success (with_reducible show wpAny _ _ (call (Value.builtin _) _) _ _ _)); first | (k_unfold; (try dsimp only)) | walk1 | (dsimp only; walk1)) | fail "no step"))
  refine any_str F1 N1 hb1 X1 hK1 hKL1 ?_
  clear F1 N1 hb1 X1
  intro H2 gs2 dr2 tk2 F2 N2 hb2
  rw [show (y.any fun _ => false) = false by simp]
  have h128 : ∀ c ∈ y, c < 128 := fun c hc => by have := hy c hc; omega
  have h128l : ∀ c ∈ y.map lo1, c < 128 := fun c hc => by
    obtain ⟨d, hd, rfl⟩ := List.mem_map.mp hc
    have := h128 d hd
    unfold lo1; split <;> omega
  have hlenl : (y.map lo1).length ≤ 1000 := by rw [List.length_map]; exact hlen
  rcases hr with ⟨⟨hm1, hm2⟩, rfl⟩ | ⟨hmix, h, ds, ⟨hlow, hh1, hh83, hd6, hd32⟩, hres⟩
  · skip
    (repeat' (first | ((with_reducible show Frag.In _ _ ∧ _); walk1) | ((fail_if_success (with_reducible show _ ∧ _)); (fail_if_success (with_reducible show wpAny _ _ (call (Value.builtin "str.rfind") _) _ _ _)); first | (k_unfold; (try dsimp only)) | walk1 | (dsimp only; walk1)) | fail "no step"))
    · rename Fr _ _ _ _ => F3
      rename News _ _ _ _ => N3
      have hfr := not_there (fun q => by have h1 := (N3 _ (.head _)).1; rw [q, (N3 _ (.tail _ (.head _))).1] at h1; cases h1) (N3 _ (.head _)).2.2
      exact ⟨⟨_, rfl, News.isTup N3 (.head _), hfr⟩, Ext.of T0 F3 N3 (.tail _ (.head _)) ⟨_, rfl⟩ htr1 hb2 rfl⟩
    all_goals (exfalso; first | exact hm1 (by simpa using ‹(List.map lo1 y != y) = false›) | exact hm2 (by simpa using ‹(List.map up1 y != y) = false›))
  · skip
    have hbl : (y.map lo1).length = h.length + 1 + ds.length := by rw [hlow]; simp; omega
    have h49 : (49 : Nat) ∉ ds.map (fun d => cset.getD d 0) := by
      intro hm
      obtain ⟨d, hd, e⟩ := List.mem_map.mp hm
      exact absurd e ((by decide : ∀ d < 32, cset.getD d 0 ≠ 49) d (hd32 d hd))
    have hdrop : (y.map lo1).drop (h.length + 1) = ds.map (fun d => cset.getD d 0) := by
      rw [hlow, List.drop_append, List.drop_of_length_le (by omega), Nat.add_sub_cancel_left]; rfl
    have htake : (y.map lo1).take h.length = h := by rw [hlow, List.take_append, List.take_of_length_le (Nat.le_refl _), Nat.sub_self]; simp
    have hfind : ∀ c ∈ ds.map (fun d => cset.getD d 0), c ∈ cset := by
      intro c hc
      obtain ⟨d, hd, rfl⟩ := List.mem_map.mp hc
      have := hd32 d hd
      rw [List.getD_eq_getElem?_getD, List.getElem?_eq_getElem (show d < cset.length from this)]
      exact List.getElem_mem _
    have hds : (ds.map (fun d => cset.getD d 0)).map (fun c => (Txt.find (tx cset) ⟨#[c]⟩).toNat) = ds := by
      rw [List.map_map]
      refine (List.map_congr_left fun d hd => ?_).trans (List.map_id ds)
      exact (by decide +kernel : ∀ d < 32, (Txt.find (tx cset) ⟨#[cset.getD d 0]⟩).toNat = d) d (hd32 d hd)
    (repeat' (first | ((with_reducible show Frag.In _ _ ∧ _); walk1) | ((fail_if_success (with_reducible show _ ∧ _)); (fail_if_success (with_reducible show wpAny _ _ (call (Value.builtin "str.rfind") _) _ _ _)); first | (k_unfold; (try dsimp only)) | walk1 | (dsimp only; walk1)) | fail "no step"))
    · exfalso
      exact hmix ⟨by simpa using ‹(List.map lo1 y != y) = true›, by simpa using ‹(List.map up1 y != y) = true›⟩
    all_goals
      refine rfind_t (h := h) (by rw [hlow]) (by decide +kernel) h49 ?_
      intro _ _
      (repeat' (first | ((with_reducible show Frag.In _ _ ∧ _); walk1) | ((fail_if_success (with_reducible show _ ∧ _)); (fail_if_success (with_reducible show wpAny _ _ (eval (Expr.GeneratorExp _ _ _ _) _) _ _ _)); first | (k_unfold; (try dsimp only)) | walk1 | (dsimp only; walk1)) | fail "no step"))
    all_goals
      rename Fr _ _ _ _ => F3
      rename News _ _ _ _ => N3
      refine gen_str F3 G (by rfl) (by rfl) hA (by rfl) (by rfl) (by decide) (by rfl) (by rfl) (by rfl) (by (repeat rw [deeper_depth]); omega) ?_ (by intro _; rfl)
      (repeat' (first | ((with_reducible show Frag.In _ _ ∧ _); walk1) | ((fail_if_success (with_reducible show _ ∧ _)); (fail_if_success (with_reducible show wpAny _ _ (subscriptTail _ _ _ _) _ _ _)); first | (k_unfold; (try dsimp only)) | walk1 | (dsimp only; walk1)) | fail "no step"))
      refine slice_from (k := h.length + 1) (by omega) (by omega) F3 N3 ?_ (by with_unfolding_all rfl) (by intro _; with_unfolding_all rfl)
      clear F3 N3
      intro H4 t4 tk4 F4 N4
      try dsimp only
      refine ⟨trivial, ds.map (fun d => cset.getD d 0), t4, ps ++ more1, fun _ => true, by rw [hdrop], F4, N4, htr1, hb2, ?_, ?_⟩
    all_goals first
      | (intro code C A' E' c v u m₂ hA' hc hv hn hm hk
         obtain ⟨H, gs, dr, tk, os⟩ := u
         obtain ⟨tv, rfl⟩ := hv
         have X' := X.keeps hk
         have T' := T.keeps hk
         clear F4 N4 X T G B
         (repeat' (first | ((with_reducible show Frag.In _ _ ∧ _); walk1) | ((fail_if_success (with_reducible show _ ∧ _)); (fail_if_success (with_reducible show wpAny _ _ (compareOp _ _ _) _ _ _)); first | (k_unfold; (try dsimp only)) | walk1 | (dsimp only; walk1)) | fail "no step"))
         refine in_c (by decide +kernel) (hfind c hc) ?_
         exact ⟨rfl, Keeps.rfl'⟩)
      | skip
    all_goals
      clear F4 N4
      intro a5 H5 gs5 dr5 tk5 more2 K5 F5 N5 htr5 hb5 hK5 hKL5 X5
      try dsimp only
      (repeat' (first | ((with_reducible show Frag.In _ _ ∧ _); walk1) | ((fail_if_success (with_reducible show _ ∧ _)); (fail_if_success (with_reducible show wpAny _ _ (call (Value.builtin _) _) _ _ _)); first | (k_unfold; (try dsimp only)) | walk1 | (dsimp only; walk1)) | fail "no step"))
      refine all_str F5 N5 hb5 X5 hK5 hKL5 ?_
      clear F5 N5 hb5 X5
      intro H6 gs6 dr6 tk6 F6 N6 hb6
      rw [show ((ds.map (fun d => cset.getD d 0)).all fun _ => true) = true by simp]
      (repeat' (first | ((with_reducible show Frag.In _ _ ∧ _); walk1) | ((fail_if_success (with_reducible show _ ∧ _)); (fail_if_success (with_reducible show wpAny _ _ (subscriptTail _ _ _ _) _ _ _)); first | (k_unfold; (try dsimp only)) | walk1 | (dsimp only; walk1)) | fail "no step"))
    all_goals
      refine slice_to (k := h.length) (by omega) (by omega) F6 N6 ?_ (by with_unfolding_all rfl) (by intro _; with_unfolding_all rfl)
      clear F6 N6
      intro H7 t7 tk7 F7 N7
      rw [htake]
      try dsimp only
      (repeat' (first | ((with_reducible show Frag.In _ _ ∧ _); walk1) | ((fail_if_success (with_reducible show _ ∧ _)); (fail_if_success (with_reducible show wpAny _ _ (exec (Stmt.Assign _ (Expr.ListComp _ _ _ _) _) _) _ _ _)); first | (k_unfold; (try dsimp only)) | walk1 | (dsimp only; walk1)) | fail "no step"))
      rename Fr _ _ _ _ => F8
      rename News _ _ _ _ => N8
      refine' comp_fa (as := ds.map (fun d => cset.getD d 0)) (V := SignV) (pz := fun _ => true) (Wt := NatV) (g := fun c => (Txt.find (tx cset) ⟨#[c]⟩).toNat) (cl := []) signV_inj (by rfl) hA (by rfl) (by decide) rfl (by decide) rfl (by rfl) (by rfl) ?_ (by intro _; rfl)
      (repeat' (first | ((with_reducible show Frag.In _ _ ∧ _); walk1) | ((fail_if_success (with_reducible show _ ∧ _)); (fail_if_success (with_reducible show wpAny _ _ (subscriptTail _ _ _ _) _ _ _)); first | (k_unfold; (try dsimp only)) | walk1 | (dsimp only; walk1)) | fail "no step"))
    all_goals
      refine slice_from (k := h.length + 1) (by omega) (by omega) F8 N8 ?_ (by with_unfolding_all rfl) (by intro _; with_unfolding_all rfl)
      clear F8 N8
      intro H9 t9 tk9 F9 N9
      rw [hdrop]
      try dsimp only
      refine ⟨src_str (y := tx (ds.map (fun d => cset.getD d 0))), by (rw [List.length_map, show sizeLine = 2 ^ 24 from rfl]; omega), Elt.plain ?_, _, _, _, F9, N9, ?_⟩
    all_goals first
      | (intro C a v H gs dr tk os m₃ E' ha hv hn hm hk hC
         obtain ⟨tv, rfl⟩ := hv
         have X' := (X.keeps F9.keep).keeps hk
         have T' := (T.keeps F9.keep).keeps hk
         clear F9 N9 X T
         (repeat' (first | ((with_reducible show Frag.In _ _ ∧ _); walk1) | ((fail_if_success (with_reducible show _ ∧ _)); (fail_if_success (with_reducible show wpAny _ _ (call (Value.builtin _) _) _ _ _)); first | (k_unfold; (try dsimp only)) | walk1 | (dsimp only; walk1)) | fail "no step"))
         refine find_t (n := (Txt.find (tx cset) ⟨#[a]⟩).toNat) (find_n (by decide +kernel) (hfind a ha)) ?_
         intro _ _
         exact ⟨⟨_, rfl⟩, Keeps.rfl'⟩)
      | skip
    all_goals
      (intro D10 H10 tk10 ys10 hD10 hl10 hv10 hk10 F10 NN10; (try rw [filter_true] at hv10); obtain ⟨d10, n10, sl10, N10⟩ := news_listL (by assumption) NN10 hl10 hD10 (ns_there (Fr.ns (by assumption))); (have I10 := ints_of_paired hv10); (try dsimp only))
      rw [hds] at I10
      clear F9 N9 NN10 hl10 hv10
      (repeat' (first | ((with_reducible show Frag.In _ _ ∧ _); walk1) | ((fail_if_success (with_reducible show _ ∧ _)); (fail_if_success (with_reducible show wpAny _ _ (call (Value.ref _) _) _ _ _)); first | (k_unfold; (try dsimp only)) | walk1 | (dsimp only; walk1)) | fail "no step"))
      refine wpAny_mono (verify_spec w mg mb _ _ (tx h) _ D10 ys10 ds _ (by k_in) (by walk_at "topr") hA (by (repeat rw [deeper_depth]); omega) (by show h.length ≤ 1000; omega) (by walk_at "isl") I10 (by omega)) ?_ (fun _ _ e => e)
      rintro _ _ ⟨rfl, H11, tk11, rfl, hk11⟩
      rename Fr _ _ _ _ => F11
      rename News _ _ _ _ => N11
      replace F11 := F11.keeps hk11
      replace N11 := N11.grown hk11
      clear hk11 hk10 hD10
      try dsimp only
      by_cases hpm : pm (hrpx h ++ ds) = 1
      · rw [if_pos hpm] at hres
        subst hres
        rw [show (pm (hrpx (tx h).cps.toList ++ ds) == 1) = true from beq_iff_eq.mpr hpm]
        (repeat' (first | ((with_reducible show Frag.In _ _ ∧ _); walk1) | ((fail_if_success (with_reducible show _ ∧ _)); (fail_if_success (with_reducible show wpAny _ _ (subscriptTail _ _ _ _) _ _ _)); first | (k_unfold; (try dsimp only)) | walk1 | (dsimp only; walk1)) | fail "no step"))
        rename Fr _ _ _ _ => F12
        rename News _ _ _ _ => N12
        refine lslice_toneg (k := 6) (by decide) (by walk_at "isl") I10 (by rw [natv_length]; omega) F12 N12 ?_ (by with_unfolding_all rfl) (by intro _; with_unfolding_all rfl)
        clear F12 N12
        intro D13 ws13 H13 F13 N13 I13
        try dsimp only
        (repeat' (first | ((with_reducible show Frag.In _ _ ∧ _); walk1) | ((fail_if_success (with_reducible show _ ∧ _)); first | (k_unfold; (try dsimp only)) | walk1 | (dsimp only; walk1)) | fail "no step"))
        rename Fr _ _ _ _ => F14
        rename News _ _ _ _ => N14
        have I14 : IntsAre ws13 (natv (ds.take (ds.length - 6))) := by
          rw [natv_length] at I13
          simpa [natv, List.map_take] using I13
        exact ⟨⟨_, _, D13, ws13, rfl, News.isTup N14 (.head _), News.isList N14 (by walk_at "memx"), I14, fresh45 (ps := ps ++ more1 ++ more2) N14 (by walk_at "memx") (.head _) (by simp), fresh45 (a := D13) (ps := ps ++ more1 ++ more2) N14 (by walk_at "memx") (.tail _ (.head _)) (by simp)⟩,
          Ext.of (ps' := ps ++ more1 ++ more2) T0 F14 N14 (by walk_at "memx") ⟨more1 ++ more2, by rw [Array.append_assoc]⟩ htr5 hb6 rfl⟩
      · rw [if_neg hpm] at hres
        subst hres
        rw [show (pm (hrpx (tx h).cps.toList ++ ds) == 1) = false from beq_eq_false_iff_ne.mpr hpm]
        (repeat' (first | ((with_reducible show Frag.In _ _ ∧ _); walk1) | ((fail_if_success (with_reducible show _ ∧ _)); (fail_if_success (with_reducible show wpAny _ _ (subscriptTail _ _ _ _) _ _ _)); first | (k_unfold; (try dsimp only)) | walk1 | (dsimp only; walk1)) | fail "no step"))
        rename Fr _ _ _ _ => F14
        rename News _ _ _ _ => N14
        exact ⟨⟨_, rfl, News.isTup N14 (.head _), fresh45 (ps := ps ++ more1 ++ more2) N14 (by walk_at "memx") (.head _) (by simp)⟩,
          Ext.of (ps' := ps ++ more1 ++ more2) T0 F14 N14 (by walk_at "memx") ⟨more1 ++ more2, by rw [Array.append_assoc]⟩ htr5 hb6 rfl⟩
end Mine
namespace Mine
local macro_rules | `(tactic| walk_at "eval Constant int") => `(tactic| (refine const_n ?_; intro _ _))
local macro_rules | `(tactic| walk_at "binaryOp BitAnd int int") => `(tactic| (refine and_n ?_; intro _ _))
local macro_rules | `(tactic| walk_at "binaryOp BitOr int int") => `(tactic| (refine or_n ?_; intro _ _))
local macro_rules | `(tactic| walk_at "binaryOp BitXor int int") => `(tactic| (refine xor_n ?_; intro _ _))
local macro_rules | `(tactic| walk_at "inplaceOp BitXor int int") => `(tactic| (refine ixor_n ?_; intro _ _))
local macro_rules | `(tactic| walk_at "binaryOp RShift int int") => `(tactic| (refine rsh_n ?_; intro _ _))
local macro_rules | `(tactic| walk_at "binaryOp Add int int") => `(tactic| (refine add_n ?_; intro _ _))
local macro_rules | `(tactic| walk_at "inplaceOp Add int int") => `(tactic| (refine iadd_n ?_; intro _ _))
local macro_rules | `(tactic| walk_at "binaryOp FloorDiv int int") => `(tactic| (refine div_n (by decide) (by decide) ?_; intro _ _))
local macro_rules | `(tactic| walk_at "binaryOp Mod int int") => `(tactic| (refine mod_n (by decide) ?_; intro _ _))
local macro_rules | `(tactic| walk_at "truthy int") => `(tactic| refine truthy_n ?_)
local macro_rules | `(tactic| walk_at "look") => `(tactic| ((try dsimp only); first | assumption | exact if_pos rfl | (refine Eq.trans (if_neg (by decide)) ?_; walk_at "look") | (refine Eq.trans (Upto.out (by assumption) (by decide)) ?_; walk_at "look") | rfl))
local macro_rules | `(tactic| walk_at "mem") => `(tactic| (intro p9 hp9; first | exact hp9 | (repeat' (first | exact hp9 | refine List.mem_cons_of_mem _ ?_))))
local macro_rules | `(tactic| walk_at "upto") => `(tactic| first | assumption | exact Upto.refl | (refine Upto.set (by first | decide | decide +kernel | simp) ?_; walk_at "upto") | (refine' Upto.trans ?hs ?h1 ?_; (case h1 => assumption); (case hs => first | decide | decide +kernel); walk_at "upto"))
local macro_rules | `(tactic| walk_at "memx") => `(tactic| first | exact List.Mem.head _ | (refine List.Mem.tail _ ?_; walk_at "memx") | (refine List.mem_append_left _ ?_; walk_at "memx") | (refine List.mem_append_right _ ?_; walk_at "memx"))
local macro_rules | `(tactic| walk_at "TurnEnd next") => `(tactic| (refine' TurnEnd.next ?F ?N ?n ?_ ?U; (case F => k_asm); (case N => k_asm); (case n => walk_at "mem"); (case U => walk_at "upto")))
local macro_rules | `(tactic| walk_at "loadName") => `(tactic| (k_here; k_dflt (refine' ldn ?k1 ?k2 ?_; (case k1 => k_asm); (case k2 => walk_at "look"); k_whole)))
local macro_rules | `(tactic| walk_at "topr") => `(tactic| first | assumption | exact TopRead.keeps (by assumption) (Fr.keep (by assumption)))
local macro_rules | `(tactic| walk_at "eval Name") => `(tactic| (k_here; k_dflt (first
  | (refine' nm_localF ?F ?v ?_ ?a ?b ?c; (case b => rfl); (case a => rfl); (case c => decide); (case F => k_asm); (case v => walk_at "look"); k_whole)
  | (refine' nm_local ?F ?v ?_ ?a ?b ?c; (case b => rfl); (case a => rfl); (case c => decide); (case F => k_asm); (case v => walk_at "look"); k_whole)
  | (refine' nm_cell ?F ?v ?_ ?a ?b ?c; (case b => rfl); (case a => rfl); (case c => decide); (case v => rfl); (case F => k_asm); k_whole)
  | (refine' nm_K ?X ?T ?e ?_ ?g ?a ?b ?c; (case b => rfl); (case a => rfl); (case g => rfl); (case c => decide); (case X => k_in); (case T => walk_at "topr"); (case e => k_is); k_whole)
  | (refine' nm_B ?X ?T ?e ?v ?_ ?g ?h ?a ?b ?c ?n; (case b => rfl); (case a => rfl); (case g => rfl); (case h => rfl); (case c => decide); (case n => decide); (case X => k_in); (case T => walk_at "topr"); (case e => k_is); (case v => first | boot_fast | boot_by_name); k_whole))))
local macro_rules | `(tactic| walk_at "isl") => `(tactic| first | assumption | exact News.isList (by k_asm) (by walk_at "memx") | exact Heap.IsList.at (by assumption) (fun o e => Fr.keep (by k_asm) _ o e))
local macro_rules | `(tactic| walk_at "ints") => `(tactic| first | assumption | exact .nil | exact IntsAre.cons _ _ (by walk_at "ints"))
local macro_rules | `(tactic| walk_at "compareOp Eq int int") => `(tactic| refine eq_n ?_)
local macro_rules | `(tactic| walk_at "compareOp NotEq int int") => `(tactic| refine ne_n ?_)
local macro_rules | `(tactic| walk_at "compareOp Lt int int") => `(tactic| refine lt_n ?_)
local macro_rules | `(tactic| walk_at "compareOp Gt int int") => `(tactic| refine gt_n ?_)
local macro_rules | `(tactic| walk_at "compareOp LtE int int") => `(tactic| refine le_n ?_)
local macro_rules | `(tactic| walk_at "compareOp GtE int int") => `(tactic| refine ge_n ?_)
local macro_rules | `(tactic| walk_at "binaryOp Mult int int") => `(tactic| ((first | refine mul_n ?_ (IntMulOk.of_left (by decide +kernel)) | refine mul_n ?_ (IntMulOk.of_right (by decide +kernel))); intro _ _))
local macro_rules | `(tactic| walk_at "binaryOp Sub int int") => `(tactic| (refine sub_n (by omega) ?_; intro _ _))
local macro_rules | `(tactic| walk_at "storeName") => `(tactic| (k_dflt (refine' store_g ?a ?b ?c ?F ?N ?_; (case a => rfl); (case b => rfl); (case F => k_asm); (case c => rfl); (case N => k_asm); k_whole); intro h' tk' F' N'; (try k_sweep)))
local macro_rules | `(tactic| walk_at "eval Constant str") => `(tactic| (refine const_s ?_; intro _ _))
local macro_rules | `(tactic| walk_at "call builtin:len") => `(tactic| (k_dflt (refine' len_nl ?hl ?hI ?sz ?_; (case hl => walk_at "isl"); (case hI => walk_at "ints"); (case sz => (try simp only [List.length_append, List.length_map, List.length_cons, List.length_nil, List.length_range]); omega); k_whole); intro _ _))
local macro_rules | `(tactic| walk_at "inplaceOp Sub int int") => `(tactic| (refine isub_n (by omega) ?_; intro _ _))
local macro_rules | `(tactic| k_in) => `(tactic| first | with_reducible assumption | exact Frag.In.keeps (by with_reducible assumption) (Fr.keep (by with_reducible assumption)))
local macro_rules | `(tactic| walk_at "call builtin:str.lower") => `(tactic| (refine lower_t (by assumption) (by first | assumption | omega) ?_; intro _ _))
local macro_rules | `(tactic| walk_at "call builtin:str.upper") => `(tactic| (refine upper_t (by assumption) (by first | assumption | omega) ?_; intro _ _))
local macro_rules | `(tactic| walk_at "call builtin:len") => `(tactic| ((with_reducible show wpAny _ _ (call (Value.builtin "len") [Value.str _ _]) _ _ _); refine len_t (by first | assumption | omega) ?_; intro _ _))
local macro_rules | `(tactic| walk_at "compareOp Eq str str") => `(tactic| refine eq_t ?_)
local macro_rules | `(tactic| walk_at "compareOp NotEq str str") => `(tactic| refine ne_t ?_)
local macro_rules | `(tactic| walk_at "ist") => `(tactic| first | assumption | exact News.isTup (by k_asm) (by walk_at "memx"))
local macro_rules | `(tactic| walk_at "assign Tuple") => `(tactic| (k_dflt (refine' unpackN_ ?F ?N ?T ?hh ?k1 ?k2 ?_; (case F => k_asm); (case N => k_asm); (case T => walk_at "ist"); (case hh => (rename Around.handled _ = none => h9; exact h9)); (case k1 => exact rfl); (case k2 => exact rfl); k_whole); intro h' F' N'; (try k_sweep)))
def NDres (H : Heap) (v : Value) : Prop := ∀ t a l, v = .ref t → IsTup H t #[a, .ref l] → H.NoDictAt (.ref l)
theorem NDres.none {H : Heap} {t : Addr} (ht : IsTup H t #[.none, .none]) : NDres H (.ref t) := by
  rintro _ a l e ⟨o, ho, hc, n, hd⟩
  cases e
  obtain ⟨o', ho', hc', n', hd'⟩ := ht
  rw [ho] at ho'; cases ho'
  rw [hd] at hd'
  cases hd'
theorem NDres.some {H : Heap} {t l₀ : Addr} {x : Value} (ht : IsTup H t #[x, .ref l₀]) (hn : H.NoDictAt (.ref l₀)) : NDres H (.ref t) := by
  rintro _ a l e ⟨o, ho, hc, n, hd⟩
  cases e
  obtain ⟨o', ho', hc', n', hd'⟩ := ht
  rw [ho] at ho'; cases ho'
  rw [hd] at hd'
  cases hd'
  exact hn
def segOf (data : List Nat) : Option (Nat × List Nat) :=
  match cbOf 5 8 false (natv data.tail) with
  | none => none
  | some dec => if dec.length < 2 ∨ 40 < dec.length then none else if 16 < data.headD 0 then none else if data.headD 0 = 0 ∧ dec.length ≠ 20 ∧ dec.length ≠ 32 then none else some (data.headD 0, dec)
theorem cbOf58_len {ns dec : List Nat} (h : cbOf 5 8 false (natv ns) = some dec) : dec.length ≤ ns.length * 5 := by
  unfold cbOf at h
  split at h
  · unfold cbFin at h
    simp only [Bool.false_eq_true, if_false] at h
    split at h
    · cases h
    · cases h
      rw [cbPart_length, List.length_map, natv_length]
      exact Nat.div_le_self _ _
  · cases h
def decRes (y0 : List Nat) : Option (List Nat × List Nat) → Option (Nat × List Nat)
  | none => none
  | some p => if p.1 = y0 then segOf p.2 else none
set_option maxRecDepth 100000 in
set_option maxHeartbeats 8000000 in
theorem decode_spec (w : World) (mg mb : Str → Option Value) (A : Around) (s : Shared) (y0 y : List Nat) (t0 t : Tok) (r : Option (List Nat × List Nat))
   (E : Value → Shared → Prop) (B : Big w mg mb s) (hA : A.handled = none) (hd : A.depth + 4 < recursionLimit)
   (hy : ∀ c ∈ y, 33 ≤ c ∧ c ≤ 126) (hlen : y.length ≤ 1000) (hr : DecGood y r) (hne : ∀ p, r = some p → p.2 ≠ []) :
   wpAny (model PySem.Challenge.rw_fw0006_01.row.prog w) A (call (.ref 63) [.str (tx y0) t0, .str (tx y) t]) (fun v s' => PairRes s s' v (decRes y0 r) ∧ Ext s s' ∧ NDres s'.heap v) E s := by
  have X0 := B.X
  have G := B.g
  have X := G.X
  obtain ⟨ps, T0⟩ := B.tab
  have hbare := B.bare
  have TR := B.T
  have T := G.T
  have hk45 := T0.2.2
  have htr := T0.triples
  revert X0 X
  k_fill
  intro X0 X
  refine' enterG (binds := [("hrp", .str (tx y0) t0), ("addr", .str (tx y) t)]) (s.heap.hide 45) (fun b o e => Heap.of_hide e) (Nat.le_of_eq (Heap.hide_size _ _)) X0 TR.nolimit ?a ?b ?c ?d ?e ?h ?i ?j ?k ?l
  (case a => omega); (case b => k_is); (case c => k_is); (case d => exact BindsTo.of_eq rfl); (case e => exact locs rfl); (case i => rfl); (case j => rfl); (case k => rfl); (case l => decide)
  intro L h₁ hL F N hk₁
  have N45 : News (s.heap.hide 45) L h₁ [(45, tabO ps)] := fun p hp => by
    rw [List.mem_singleton.mp hp]
    exact ⟨hk₁ _ _ hk45, Nat.ne_of_lt (hL ▸ Heap.lt_size hk45), Heap.hide_self _ _⟩
  clear N hk₁ X0 TR
  obtain ⟨hp0, gs0, dr0, tk0, os0⟩ := s
  try dsimp only
  try k_fold
  (repeat' (first | ((with_reducible show Frag.In _ _ ∧ _); walk1) | ((fail_if_success (with_reducible show _ ∧ _)); (fail_if_success (with_reducible show wpAny _ _ (call (Value.ref _) _) _ _ _)); first | (k_unfold; (try dsimp only)) | walk1 | (dsimp only; walk1)) | fail "no step"))
  refine wpAny_mono (b32decode_spec w mg mb _ _ y t r _ (G.big F N45 (.head _) htr hbare) hA (by (repeat rw [deeper_depth]); omega) hy hlen hr) ?_ (fun _ _ e => e)
  rintro v s' ⟨hv, e⟩
  obtain ⟨H1, gs1, dr1, tk1, more1, rfl, F1, N1, htr1, hb1, hk1⟩ := Ext.next (rest := []) G F N45 (.head _) htr (fun p hp => nomatch hp) e
  cases r with
  | none =>
    obtain ⟨tt, rfl, htup, hfr⟩ := hv
    obtain ⟨d2, n2, sl2, N2⟩ := news_tupL F N1 htup hfr
    clear F N45 N1 e
    try dsimp only
    (repeat' (first | ((with_reducible show Frag.In _ _ ∧ _); walk1) | ((fail_if_success (with_reducible show _ ∧ _)); first | (k_unfold; (try dsimp only)) | walk1 | (dsimp only; walk1)) | fail "no step"))
    rename Fr _ _ _ _ => F3
    rename News _ _ _ _ => N3
    exact ⟨⟨_, rfl, News.isTup N3 (.head _), fresh45 (ps := ps ++ more1) N3 (by walk_at "memx") (.head _) (by simp)⟩, Ext.of (ps' := ps ++ more1) T0 F3 N3 (by walk_at "memx") ⟨_, rfl⟩ htr1 hb1 rfl, .none (News.isTup N3 (.head _))⟩
  | some p =>
    obtain ⟨hg, data⟩ := p
    obtain ⟨tt, u, l, vs, rfl, htup, hl, hI, hfr, hfrl⟩ := hv
    obtain ⟨d2, n2, sl2, N2⟩ := news_listL F N1 hl hfrl (ns_there F.ns)
    obtain ⟨d3, n3, sl3, N3⟩ := news_tupL F N2 htup hfr
    clear F N45 N1 N2 e htup hl hfr hfrl
    obtain ⟨d0, rest, rfl⟩ : ∃ d0 rest, data = d0 :: rest := by
      cases data with
      | nil => exact absurd rfl (hne _ rfl)
      | cons a b => exact ⟨a, b, rfl⟩
    replace hI : IntsAre vs (natv (d0 :: rest)) := hI
    have hdl : (d0 :: rest).length ≤ 1000 := by
      exact Nat.le_trans hr.len hlen
    try dsimp only
    (repeat' (first | ((with_reducible show Frag.In _ _ ∧ _); walk1) | ((fail_if_success (with_reducible show _ ∧ _)); (fail_if_success (with_reducible show wpAny _ _ (subscriptTail _ _ _ _) _ _ _)); first | (k_unfold; (try dsimp only)) | walk1 | (dsimp only; walk1)) | fail "no step"))
    · rename (_ != _) = true => hneq
      rename Fr _ _ _ _ => F4
      rename News _ _ _ _ => N4
      refine ⟨?_, Ext.of (ps' := ps ++ more1) T0 F4 N4 (by walk_at "memx") ⟨_, rfl⟩ htr1 hb1 rfl, .none (News.isTup N4 (.head _))⟩
      rw [show decRes y0 (some (hg, d0 :: rest)) = none from if_neg (by simpa using hneq)]
      exact ⟨_, rfl, News.isTup N4 (.head _), fresh45 (ps := ps ++ more1) N4 (by walk_at "memx") (.head _) (by simp)⟩
    rename (_ != _) = false => hneq
    have hres : decRes y0 (some (hg, d0 :: rest)) = segOf (d0 :: rest) := if_pos (by simpa using hneq)
    rw [hres]
    refine ⟨rfl, ?_⟩
    try dsimp only
    (repeat' (first | ((with_reducible show Frag.In _ _ ∧ _); walk1) | ((fail_if_success (with_reducible show _ ∧ _)); (fail_if_success (with_reducible show wpAny _ _ (subscriptTail _ _ _ _) _ _ _)); first | (k_unfold; (try dsimp only)) | walk1 | (dsimp only; walk1)) | fail "no step"))
    rename Fr _ _ _ _ => F4
    rename News _ _ _ _ => N4
    refine lslice_from (k := 1) (by walk_at "isl") hI (by rw [natv_length]; omega) F4 N4 ?_ (by with_unfolding_all rfl) (by intro _; with_unfolding_all rfl)
    clear F4 N4
    intro D5 ws5 H5 F5 N5 I5
    try dsimp only
    (repeat' (first | ((with_reducible show Frag.In _ _ ∧ _); walk1) | ((fail_if_success (with_reducible show _ ∧ _)); (fail_if_success (with_reducible show wpAny _ _ (call (Value.ref _) _) _ _ _)); first | (k_unfold; (try dsimp only)) | walk1 | (dsimp only; walk1)) | fail "no step"))
    refine wpAny_mono (convertbits_spec w mg mb _ _ 5 8 false (natv rest) (.ref D5) _ _ _ _ (by k_in) (by walk_at "topr") hA (by (repeat rw [deeper_depth]); omega) (by decide) (by decide) (by decide) (by decide) (by rw [natv_length]; simp at hdl; omega) (fun s₁ hk => src_listG (by walk_at "isl") hk (paired_ints I5)) (.inr rfl)) ?_ (fun _ _ e => e)
    rintro v s' ⟨⟨hr5, hnd5⟩, H6, tk6, rfl, hk6⟩
    rename Fr _ _ _ _ => F0
    rename News _ _ _ _ => N0
    cases hoc : cbOf 5 8 false (natv rest) with
    | none =>
      rw [hoc] at hr5
      obtain rfl : v = .none := hr5
      have F1 := F0.keeps hk6
      have N1 := N0.grown hk6
      clear F0 N0
      try dsimp only
      (repeat' (first | ((with_reducible show Frag.In _ _ ∧ _); walk1) | ((fail_if_success (with_reducible show _ ∧ _)); first | (k_unfold; (try dsimp only)) | walk1 | (dsimp only; walk1)) | fail "no step"))
      rename Fr _ _ _ _ => F2
      rename News _ _ _ _ => N2
      refine ⟨?_, Ext.of (ps' := ps ++ more1) T0 F2 N2 (by walk_at "memx") ⟨_, rfl⟩ htr1 hb1 rfl, .none (News.isTup N2 (.head _))⟩
      rw [show segOf (d0 :: rest) = none from by unfold segOf; rw [List.tail_cons, hoc]]
      exact ⟨_, rfl, News.isTup N2 (.head _), fresh45 (ps := ps ++ more1) N2 (by walk_at "memx") (.head _) (by simp)⟩
    | some dec =>
      rw [hoc] at hr5
      obtain ⟨l1, vs1, rfl, hl1, I1, hn1⟩ := hr5
      obtain ⟨d1, n1, sl1, N1⟩ := news_list F0 N0 hn1 hl1 hk6
      obtain rfl : d1 = none := hnd5.of (N1 _ (.head _)).1
      have F1 := F0.keeps hk6
      have hol : dec.length ≤ 1000000 := by have := cbOf58_len hoc; simp at hdl; omega
      clear hl1 hn1 hk6 F0 N0
      try dsimp only
      (repeat' (first | ((with_reducible show Frag.In _ _ ∧ _); walk1) | ((fail_if_success (with_reducible show _ ∧ _)); (fail_if_success (with_reducible show wpAny _ _ (subscriptTail _ _ _ _) _ _ _)); first | (k_unfold; (try dsimp only)) | walk1 | (dsimp only; walk1)) | fail "no step"))
      repeat' (refine item_n (k := 0) (by walk_at "isl") hI (by simp) (by decide) ?_ (by with_unfolding_all rfl); intro _; rw [show (d0 :: rest).getD 0 0 = d0 from rfl]; (try dsimp only); (repeat' (first | ((with_reducible show Frag.In _ _ ∧ _); walk1) | ((fail_if_success (with_reducible show _ ∧ _)); (fail_if_success (with_reducible show wpAny _ _ (subscriptTail _ _ _ _) _ _ _)); first | (k_unfold; (try dsimp only)) | walk1 | (dsimp only; walk1)) | fail "no step")))
      all_goals
        rename Fr _ _ _ _ => F2
        rename News _ _ _ _ => N2
        refine ⟨?_, Ext.of (ps' := ps ++ more1) T0 F2 N2 (by walk_at "memx") ⟨_, rfl⟩ htr1 hb1 rfl, by first | exact .none (News.isTup N2 (.head _)) | exact .some (News.isTup N2 (.head _)) ⟨_, (N2 (l1, lobj none vs1 n1 sl1) (by walk_at "memx")).1, rfl⟩⟩
        unfold segOf
        rw [List.tail_cons, hoc]
        dsimp only
        rw [show (d0 :: rest).headD 0 = d0 from rfl]
        (repeat' split) <;> first
          | exact ⟨_, rfl, News.isTup N2 (.head _), fresh45 (ps := ps ++ more1) N2 (by walk_at "memx") (.head _) (by simp)⟩
          | exact ⟨_, _, _, _, rfl, News.isTup N2 (.head _), News.isList N2 (by walk_at "memx"), I1, fresh45 (ps := ps ++ more1) N2 (by walk_at "memx") (.head _) (by simp), fresh45 (a := l1) (ps := ps ++ more1) N2 (by walk_at "memx") (o := lobj none vs1 n1 sl1) (by walk_at "memx") (by simp)⟩
          | (exfalso; clear F2 N2 hI I1 T X G B hr htr htr1; (try simp only [beq_iff_eq, beq_eq_false_iff_ne, bne_iff_ne, ne_eq, bne_eq_false_iff_eq] at *); omega)
end Mine
namespace Mine
/- pairs (None, None) or (int, list), compared -/
def PairAt (H : Heap) (v : Value) : Option (Nat × List Nat) → Prop
  | none => ∃ t, v = .ref t ∧ IsTup H t #[.none, .none]
  | some p => ∃ t tv l vs, v = .ref t ∧ IsTup H t #[.int (p.1 : Int) tv, .ref l] ∧ H.IsList l vs.toArray ∧ IntsAre vs (natv p.2)
theorem PairRes.at {s s' : Shared} {v : Value} {r : Option (Nat × List Nat)} (h : PairRes s s' v r) : PairAt s'.heap v r := by
  cases r with
  | none => obtain ⟨t, e, ht, _⟩ := h; exact ⟨t, e, ht⟩
  | some p => obtain ⟨t, tv, l, vs, e, ht, hl, hI, _, _⟩ := h; exact ⟨t, tv, l, vs, e, ht, hl, hI⟩
def listD (ns : List Nat) : PyData := .list ((natv ns).map PyData.int)
def pairD : Option (Nat × List Nat) → PyData
  | none => .tuple [.none, .none]
  | some p => .tuple [.int (p.1 : Int), listD p.2]
theorem pair_reads {H : Heap} {v : Value} {r : Option (Nat × List Nat)} (h : PairAt H v r) : ∃ as, Reads H v (pairD r) as := by
  cases r with
  | none =>
    obtain ⟨t, rfl, o, ho, hc, n, hd⟩ := h
    exact ⟨_, .tuple ho hc hd (.cons .none (.cons .none .nil))⟩
  | some p =>
    obtain ⟨t, tv, l, vs, rfl, ⟨o, ho, hc, n, hd⟩, hl, hI⟩ := h
    exact ⟨_, .tuple ho hc hd (.cons (.int _ _) (.cons (reads_newData hl (ke_carried hI)) .nil))⟩
theorem listD_shape (ns : List Nat) : (listD ns).canLay0 = true ∧ (listD ns).depth ≤ 1 := by
  unfold listD
  simp [PyData.canLay0, PyData.depth, ke_canLayAll0, ke_depthAll]
theorem pair_shaped (r : Option (Nat × List Nat)) : SeqAt.shaped (pairD r) = true := by
  cases r with
  | none => rfl
  | some p =>
    have := listD_shape p.2
    unfold SeqAt.shaped pairD
    simp only [PyData.canLay0, PyData.canLayAll0, PyData.depth, PyData.depthAll, this.1, Bool.and_true, Bool.true_and, decide_eq_true_eq]
    have h2 := this.2
    refine decide_eq_true ?_
    exact Nat.le_trans (Nat.succ_le_succ (Nat.max_le.mpr ⟨Nat.zero_le 1, Nat.max_le.mpr ⟨h2, Nat.zero_le 1⟩⟩)) (by decide)
theorem eqvAll_ints : ∀ a b : List Int, PyData.eqvAll (a.map PyData.int) (b.map PyData.int) = decide (a = b)
  | [], [] => by simp [PyData.eqvAll]
  | [], _ :: _ => by simp [PyData.eqvAll]
  | _ :: _, [] => by simp [PyData.eqvAll]
  | a :: r, b :: t => by
    simp only [List.map_cons, PyData.eqvAll, PyData.eqv, eqvAll_ints r t]
    rw [Bool.eq_iff_iff]; simp
theorem natv_inj {a b : List Nat} (h : natv a = natv b) : a = b := by
  unfold natv at h
  have := congrArg (List.map Int.toNat) h
  simpa [Function.comp_def] using this
theorem pair_eqv (r r' : Option (Nat × List Nat)) : PyData.eqv (pairD r) (pairD r') = decide (r = r') := by
  cases r with
  | none => cases r' with
    | none => simp [pairD, PyData.eqv, PyData.eqvAll]
    | some p => simp [pairD, listD, PyData.eqv, PyData.eqvAll]
  | some p => cases r' with
    | none => simp [pairD, listD, PyData.eqv, PyData.eqvAll]
    | some p' =>
      obtain ⟨a, b⟩ := p
      obtain ⟨a', b'⟩ := p'
      simp only [pairD, listD, PyData.eqv, PyData.eqvAll, eqvAll_ints, Bool.and_true]
      rw [Bool.eq_iff_iff]
      simp only [Bool.and_eq_true, beq_iff_eq, decide_eq_true_eq, Option.some.injEq, Prod.mk.injEq]
      constructor
      · rintro ⟨h1, h2⟩; exact ⟨by omega, natv_inj h2⟩
      · rintro ⟨rfl, rfl⟩; exact ⟨rfl, rfl⟩
section
variable {w : World} {A : Around} {E : Value → Shared → Prop} {H : Heap} {gs : Array GenState} {dr : Drawn} {tk : Nat} {os : OsState} {a b : Value} {r r' : Option (Nat × List Nat)} {Q : Value → Shared → Prop}
theorem eq_pair (ha : PairAt H a r) (hb : PairAt H b r') (hu : A.units + 64 < cLine) (h : Q (.bool (decide (r = r'))) ⟨H, gs, dr, tk, os⟩) : wpAny (model prg w) A (compareOp .Eq a b) Q E ⟨H, gs, dr, tk, os⟩ := by
  obtain ⟨as, ra⟩ := pair_reads ha
  obtain ⟨bs, rb⟩ := pair_reads hb
  exact eq_dataH ra rb (pair_shaped _) (pair_shaped _) hu (by rw [pair_eqv]; exact h)
theorem ne_pair (ha : PairAt H a r) (hb : PairAt H b r') (hu : A.units + 64 < cLine) (h : Q (.bool (!decide (r = r'))) ⟨H, gs, dr, tk, os⟩) : wpAny (model prg w) A (compareOp .NotEq a b) Q E ⟨H, gs, dr, tk, os⟩ := by
  obtain ⟨as, ra⟩ := pair_reads ha
  obtain ⟨bs, rb⟩ := pair_reads hb
  exact ne_dataH ra rb (pair_shaped _) (pair_shaped _) hu (by rw [pair_eqv]; exact h)
theorem deeper_units {A : Around} {env : Env} : (A.deeper env).units = A.units + 3 := rfl
end
end Mine
namespace Mine
local macro_rules | `(tactic| walk_at "eval Constant int") => `(tactic| (refine const_n ?_; intro _ _))
local macro_rules | `(tactic| walk_at "binaryOp BitAnd int int") => `(tactic| (refine and_n ?_; intro _ _))
local macro_rules | `(tactic| walk_at "binaryOp BitOr int int") => `(tactic| (refine or_n ?_; intro _ _))
local macro_rules | `(tactic| walk_at "binaryOp BitXor int int") => `(tactic| (refine xor_n ?_; intro _ _))
local macro_rules | `(tactic| walk_at "inplaceOp BitXor int int") => `(tactic| (refine ixor_n ?_; intro _ _))
local macro_rules | `(tactic| walk_at "binaryOp RShift int int") => `(tactic| (refine rsh_n ?_; intro _ _))
local macro_rules | `(tactic| walk_at "binaryOp Add int int") => `(tactic| (refine add_n ?_; intro _ _))
local macro_rules | `(tactic| walk_at "inplaceOp Add int int") => `(tactic| (refine iadd_n ?_; intro _ _))
local macro_rules | `(tactic| walk_at "binaryOp FloorDiv int int") => `(tactic| (refine div_n (by decide) (by decide) ?_; intro _ _))
local macro_rules | `(tactic| walk_at "binaryOp Mod int int") => `(tactic| (refine mod_n (by decide) ?_; intro _ _))
local macro_rules | `(tactic| walk_at "truthy int") => `(tactic| refine truthy_n ?_)
local macro_rules | `(tactic| walk_at "look") => `(tactic| ((try dsimp only); first | assumption | exact if_pos rfl | (refine Eq.trans (if_neg (by decide)) ?_; walk_at "look") | (refine Eq.trans (Upto.out (by assumption) (by decide)) ?_; walk_at "look") | rfl))
local macro_rules | `(tactic| walk_at "mem") => `(tactic| (intro p9 hp9; first | exact hp9 | (repeat' (first | exact hp9 | refine List.mem_cons_of_mem _ ?_))))
local macro_rules | `(tactic| walk_at "upto") => `(tactic| first | assumption | exact Upto.refl | (refine Upto.set (by first | decide | decide +kernel | simp) ?_; walk_at "upto") | (refine' Upto.trans ?hs ?h1 ?_; (case h1 => assumption); (case hs => first | decide | decide +kernel); walk_at "upto"))
local macro_rules | `(tactic| walk_at "memx") => `(tactic| first | exact List.Mem.head _ | (refine List.Mem.tail _ ?_; walk_at "memx") | (refine List.mem_append_left _ ?_; walk_at "memx") | (refine List.mem_append_right _ ?_; walk_at "memx"))
local macro_rules | `(tactic| walk_at "TurnEnd next") => `(tactic| (refine' TurnEnd.next ?F ?N ?n ?_ ?U; (case F => k_asm); (case N => k_asm); (case n => walk_at "mem"); (case U => walk_at "upto")))
local macro_rules | `(tactic| walk_at "loadName") => `(tactic| (k_here; k_dflt (refine' ldn ?k1 ?k2 ?_; (case k1 => k_asm); (case k2 => walk_at "look"); k_whole)))
local macro_rules | `(tactic| walk_at "topr") => `(tactic| first | assumption | exact TopRead.keeps (by assumption) (Fr.keep (by assumption)))
local macro_rules | `(tactic| walk_at "eval Name") => `(tactic| (k_here; k_dflt (first
  | (refine' nm_localF ?F ?v ?_ ?a ?b ?c; (case b => rfl); (case a => rfl); (case c => decide); (case F => k_asm); (case v => walk_at "look"); k_whole)
  | (refine' nm_local ?F ?v ?_ ?a ?b ?c; (case b => rfl); (case a => rfl); (case c => decide); (case F => k_asm); (case v => walk_at "look"); k_whole)
  | (refine' nm_cell ?F ?v ?_ ?a ?b ?c; (case b => rfl); (case a => rfl); (case c => decide); (case v => rfl); (case F => k_asm); k_whole)
  | (refine' nm_K ?X ?T ?e ?_ ?g ?a ?b ?c; (case b => rfl); (case a => rfl); (case g => rfl); (case c => decide); (case X => k_in); (case T => walk_at "topr"); (case e => k_is); k_whole)
  | (refine' nm_B ?X ?T ?e ?v ?_ ?g ?h ?a ?b ?c ?n; (case b => rfl); (case a => rfl); (case g => rfl); (case h => rfl); (case c => decide); (case n => decide); (case X => k_in); (case T => walk_at "topr"); (case e => k_is); (case v => first | boot_fast | boot_by_name); k_whole))))
local macro_rules | `(tactic| walk_at "isl") => `(tactic| first | assumption | exact News.isList (by k_asm) (by walk_at "memx") | exact Heap.IsList.at (by assumption) (fun o e => Fr.keep (by k_asm) _ o e))
local macro_rules | `(tactic| walk_at "ints") => `(tactic| first | assumption | exact .nil | exact IntsAre.cons _ _ (by walk_at "ints"))
local macro_rules | `(tactic| walk_at "compareOp Eq int int") => `(tactic| refine eq_n ?_)
local macro_rules | `(tactic| walk_at "compareOp NotEq int int") => `(tactic| refine ne_n ?_)
local macro_rules | `(tactic| walk_at "compareOp Lt int int") => `(tactic| refine lt_n ?_)
local macro_rules | `(tactic| walk_at "compareOp Gt int int") => `(tactic| refine gt_n ?_)
local macro_rules | `(tactic| walk_at "compareOp LtE int int") => `(tactic| refine le_n ?_)
local macro_rules | `(tactic| walk_at "compareOp GtE int int") => `(tactic| refine ge_n ?_)
local macro_rules | `(tactic| walk_at "binaryOp Mult int int") => `(tactic| ((first | refine mul_n ?_ (IntMulOk.of_left (by decide +kernel)) | refine mul_n ?_ (IntMulOk.of_right (by decide +kernel))); intro _ _))
local macro_rules | `(tactic| walk_at "binaryOp Sub int int") => `(tactic| (refine sub_n (by omega) ?_; intro _ _))
local macro_rules | `(tactic| walk_at "storeName") => `(tactic| (k_dflt (refine' store_g ?a ?b ?c ?F ?N ?_; (case a => rfl); (case b => rfl); (case F => k_asm); (case c => rfl); (case N => k_asm); k_whole); intro h' tk' F' N'; (try k_sweep)))
local macro_rules | `(tactic| walk_at "eval Constant str") => `(tactic| (refine const_s ?_; intro _ _))
local macro_rules | `(tactic| walk_at "call builtin:len") => `(tactic| (k_dflt (refine' len_nl ?hl ?hI ?sz ?_; (case hl => walk_at "isl"); (case hI => walk_at "ints"); (case sz => (try simp only [List.length_append, List.length_map, List.length_cons, List.length_nil, List.length_range]); omega); k_whole); intro _ _))
local macro_rules | `(tactic| walk_at "inplaceOp Sub int int") => `(tactic| (refine isub_n (by omega) ?_; intro _ _))
local macro_rules | `(tactic| k_in) => `(tactic| first | with_reducible assumption | exact Frag.In.keeps (by with_reducible assumption) (Fr.keep (by with_reducible assumption)))
local macro_rules | `(tactic| walk_at "call builtin:str.lower") => `(tactic| (refine lower_t (by assumption) (by first | assumption | omega) ?_; intro _ _))
local macro_rules | `(tactic| walk_at "call builtin:str.upper") => `(tactic| (refine upper_t (by assumption) (by first | assumption | omega) ?_; intro _ _))
local macro_rules | `(tactic| walk_at "call builtin:len") => `(tactic| ((with_reducible show wpAny _ _ (call (Value.builtin "len") [Value.str _ _]) _ _ _); refine len_t (by first | assumption | omega) ?_; intro _ _))
local macro_rules | `(tactic| walk_at "compareOp Eq str str") => `(tactic| refine eq_t ?_)
local macro_rules | `(tactic| walk_at "compareOp NotEq str str") => `(tactic| refine ne_t ?_)
local macro_rules | `(tactic| walk_at "ist") => `(tactic| first | assumption | exact News.isTup (by k_asm) (by walk_at "memx"))
local macro_rules | `(tactic| walk_at "assign Tuple") => `(tactic| (k_dflt (refine' unpackN_ ?F ?N ?T ?hh ?k1 ?k2 ?_; (case F => k_asm); (case N => k_asm); (case T => walk_at "ist"); (case hh => (rename Around.handled _ = none => h9; exact h9)); (case k1 => exact rfl); (case k2 => exact rfl); k_whole); intro h' F' N'; (try k_sweep)))
theorem cbPart_lt {tb V T r d : Nat} (h : d ∈ cbPart tb V T r) : d < 2 ^ tb := by
  obtain ⟨j, _, rfl⟩ := List.mem_map.mp h
  exact Nat.mod_lt _ (Nat.two_pow_pos _)
theorem cb85_ok {ks : List Int} {five : List Nat} (h : cbOf 8 5 true ks = some five) : (∀ d ∈ five, d < 32) ∧ five.length ≤ ks.length * 8 + 1 := by
  unfold cbOf at h
  split at h
  · unfold cbFin at h
    simp only [if_true] at h
    have hl : (cbPart 5 (num 8 (ks.map Int.toNat)) ((ks.map Int.toNat).length * 8) ((ks.map Int.toNat).length * 8 / 5)).length ≤ ks.length * 8 := by
      rw [cbPart_length, List.length_map]; exact Nat.div_le_self _ _
    split at h <;> cases h
    · exact ⟨fun d hd => cbPart_lt hd, by omega⟩
    · refine ⟨fun d hd => ?_, by rw [List.length_append]; simp only [List.length_cons, List.length_nil]; omega⟩
      rcases List.mem_append.mp hd with hd | hd
      · exact cbPart_lt hd
      · rw [List.mem_singleton.mp hd]; exact Nat.mod_lt _ (by decide)
  · cases h
theorem encOf_chars {y ns : List Nat} (hy : ∀ c ∈ y, 33 ≤ c ∧ c ≤ 126) (hn : ∀ d ∈ ns, d < 32) : ∀ c ∈ encOf y ns, 33 ≤ c ∧ c ≤ 126 := by
  intro c hc
  unfold encOf at hc
  rcases List.mem_append.mp hc with hc | hc
  · rcases List.mem_append.mp hc with hc | hc
    · exact hy c hc
    · rw [List.mem_singleton.mp hc]; decide
  · obtain ⟨d, hd, rfl⟩ := List.mem_map.mp hc
    have : d < 32 := (List.mem_append.mp hd).elim (hn d) chkOf_lt
    exact (by decide : ∀ d < 32, 33 ≤ cset.getD d 0 ∧ cset.getD d 0 ≤ 126) d this
theorem encOf_length (y ns : List Nat) : (encOf y ns).length = y.length + 1 + (ns.length + 6) := by
  unfold encOf; simp [chkOf_length]; omega
def EncRes (y0 : List Nat) (ver : Nat) (rr : List Nat → Option (List Nat × List Nat)) (v : Value) : Option (List Nat) → Prop
  | none => v = .none
  | some five => if decRes y0 (rr five) = none then v = .none else ∃ t, v = .str (tx (encOf y0 (ver :: five))) t
set_option maxRecDepth 100000 in
set_option maxHeartbeats 8000000 in
theorem encode_spec (w : World) (mg mb : Str → Option Value) (A : Around) (s : Shared) (y0 : List Nat) (t0 tv : Tok) (ver : Nat) (ks : List Int) (xv : Value) (rr : List Nat → Option (List Nat × List Nat))
   (E : Value → Shared → Prop) (B : Big w mg mb s) (hA : A.handled = none) (hd : A.depth + 5 < recursionLimit) (hu : A.units + 100 < cLine)
   (hy : ∀ c ∈ y0, 33 ≤ c ∧ c ≤ 126) (hlen : y0.length ≤ 80) (hver : ver < 32) (hks : ks.length ≤ 60)
   (hsrc : ∀ (g : Heap) (s₁ : Shared), (∀ b o, b ≠ 45 → s.heap.get? b = some o → g.get? b = some o) → (∀ b o, g.get? b = some o → s₁.heap.get? b = some o) → Src w xv g s₁ ks IntV)
   (hrr : ∀ five, cbOf 8 5 true ks = some five → DecGood (encOf y0 (ver :: five)) (rr five) ∧ ∀ p, rr five = some p → p.2 ≠ []) :
   wpAny (model PySem.Challenge.rw_fw0006_01.row.prog w) A (call (.ref 70) [.str (tx y0) t0, .int (ver : Int) tv, xv]) (fun v s' => EncRes y0 ver rr v (cbOf 8 5 true ks) ∧ Ext s s') E s := by
  have X0 := B.X
  have G := B.g
  have X := G.X
  obtain ⟨ps, T0⟩ := B.tab
  have hbare := B.bare
  have TR := B.T
  have T := G.T
  have hk45 := T0.2.2
  have htr := T0.triples
  have hhide : ∀ b o, b ≠ 45 → s.heap.get? b = some o → (s.heap.hide 45).get? b = some o := fun b o hb e => (Heap.hide_ne _ hb).trans e
  revert X0 X
  k_fill
  intro X0 X
  refine' enterG (binds := [("hrp", .str (tx y0) t0), ("witver", .int (ver : Int) tv), ("witprog", xv)]) (s.heap.hide 45) (fun b o e => Heap.of_hide e) (Nat.le_of_eq (Heap.hide_size _ _)) X0 TR.nolimit ?a ?b ?c ?d ?e ?h ?i ?j ?k ?l
  (case a => omega); (case b => k_is); (case c => k_is); (case d => exact BindsTo.of_eq rfl); (case e => exact locs rfl); (case i => rfl); (case j => rfl); (case k => rfl); (case l => decide)
  intro L h₁ hL F N hk₁
  have N45 : News (s.heap.hide 45) L h₁ [(45, tabO ps)] := fun p hp => by
    rw [List.mem_singleton.mp hp]
    exact ⟨hk₁ _ _ hk45, Nat.ne_of_lt (hL ▸ Heap.lt_size hk45), Heap.hide_self _ _⟩
  clear N hk₁ X0 TR
  obtain ⟨hp0, gs0, dr0, tk0, os0⟩ := s
  try dsimp only
  try k_fold
  (repeat' (first | ((with_reducible show Frag.In _ _ ∧ _); walk1) | ((fail_if_success (with_reducible show _ ∧ _)); (fail_if_success (with_reducible show wpAny _ _ (call (Value.ref _) _) _ _ _)); first | (k_unfold; (try dsimp only)) | walk1 | (dsimp only; walk1)) | fail "no step"))
  refine wpAny_mono (convertbits_spec w mg mb _ _ 8 5 true ks xv _ _ _ _ (by k_in) (by walk_at "topr") hA (by (repeat rw [deeper_depth]); omega) (by decide) (by decide) (by decide) (by decide) (by omega) (fun s₁ hk => hsrc _ s₁ (fun b o hb e => F.keep b o (hhide b o hb e)) hk) (.inl ⟨rfl, rfl⟩)) ?_ (fun _ _ e => e)
  rintro v s' ⟨⟨hr5, hnd5⟩, H6, tk6, rfl, hk6⟩
  cases hoc : cbOf 8 5 true ks with
  | none =>
    rw [hoc] at hr5
    obtain rfl : v = .none := hr5
    have F1 := F.keeps hk6
    have N1 := N45.grown hk6
    clear F N45 hk6
    try dsimp only
    (repeat' (first | ((with_reducible show Frag.In _ _ ∧ _); walk1) | ((fail_if_success (with_reducible show _ ∧ _)); first | (k_unfold; (try dsimp only)) | walk1 | (dsimp only; walk1)) | fail "no step"))
    rename Fr _ _ _ _ => F2
    rename News _ _ _ _ => N2
    exact ⟨rfl, Ext.of (ps' := ps) T0 F2 N2 (by walk_at "memx") ⟨#[], by simp⟩ htr hbare rfl⟩
  | some five =>
    rw [hoc] at hr5
    obtain ⟨l1, vs1, rfl, hl1, I1, hn1⟩ := hr5
    obtain ⟨d1, n1, sl1, N1⟩ := news_list F N45 hn1 hl1 hk6
    have F1 := F.keeps hk6
    obtain ⟨h32, hfl⟩ := cb85_ok hoc
    obtain ⟨hgood, hne⟩ := hrr five hoc
    clear hl1 hn1 hk6 F N45 hrr
    have h32' : ∀ d ∈ ver :: five, d < 32 := fun d hd => (List.mem_cons.mp hd).elim (fun e => e ▸ hver) (h32 d)
    try dsimp only
    (repeat' (first | ((with_reducible show Frag.In _ _ ∧ _); walk1) | ((fail_if_success (with_reducible show _ ∧ _)); (fail_if_success (with_reducible show wpAny _ _ (binaryOp Operator.Add _ _) _ _ _)); first | (k_unfold; (try dsimp only)) | walk1 | (dsimp only; walk1)) | fail "no step"))
    refine add_nl (ns := [ver]) (by k_asm) (by k_asm) (by walk_at "isl") (by walk_at "isl") (by walk_at "ints") I1 (by simp only [List.length_cons, List.length_nil]; omega) ?_
    intro D4 H4 tk4 F4 N4 I4
    (repeat' (first | ((with_reducible show Frag.In _ _ ∧ _); walk1) | ((fail_if_success (with_reducible show _ ∧ _)); (fail_if_success (with_reducible show wpAny _ _ (call (Value.ref _) _) _ _ _)); first | (k_unfold; (try dsimp only)) | walk1 | (dsimp only; walk1)) | fail "no step"))
    refine wpAny_mono (b32encode_spec w mg mb _ _ y0 _ D4 _ (ver :: five) _ (by k_in) (by walk_at "topr") hA (by (repeat rw [deeper_depth]); omega) (by omega) (by walk_at "isl") I4 (by simp only [List.length_cons]; omega) h32') ?_ (fun _ _ e => e)
    rintro _ _ ⟨⟨t5, rfl⟩, H5, tk5, rfl, hk5⟩
    rename Fr _ _ _ _ => F0
    rename News _ _ _ _ => N0
    have F5 := F0.keeps hk5
    have N5 := N0.grown hk5
    clear F0 N0 hk5
    try dsimp only
    (repeat' (first | ((with_reducible show Frag.In _ _ ∧ _); walk1) | ((fail_if_success (with_reducible show _ ∧ _)); (fail_if_success (with_reducible show wpAny _ _ (call (Value.ref _) _) _ _ _)); first | (k_unfold; (try dsimp only)) | walk1 | (dsimp only; walk1)) | fail "no step"))
    rename Fr _ _ _ _ => F7
    rename News _ _ _ _ => N7
    refine wpAny_mono (decode_spec w mg mb _ _ y0 (encOf y0 (ver :: five)) _ _ (rr five) _ (G.big F7 N7 (ps := ps) (by walk_at "memx") htr hbare) hA (by (repeat rw [deeper_depth]); omega) (encOf_chars hy h32') (by rw [encOf_length]; simp only [List.length_cons]; omega) hgood hne) ?_ (fun _ _ e => e)
    rintro v s' ⟨hv, e, _⟩
    obtain ⟨H8, gs8, dr8, tk8, more8, rfl, F8, N8, htr8, hb8, hk8⟩ := Ext.next (ps := ps) (rest := []) G F7 N7 (by walk_at "memx") htr (fun p hp => nomatch hp) e
    cases hq : decRes y0 (rr five) with
    | none =>
      rw [hq] at hv
      obtain ⟨tt, rfl, htup, hfr⟩ := hv
      obtain ⟨d9, n9, sl9, N9⟩ := news_tupL F7 N8 htup hfr
      clear F7 N7 N8 e hk8
      try dsimp only
      (repeat' (first | ((with_reducible show Frag.In _ _ ∧ _); walk1) | ((fail_if_success (with_reducible show _ ∧ _)); (fail_if_success (with_reducible show wpAny _ _ (compareOp _ _ _) _ _ _)); first | (k_unfold; (try dsimp only)) | walk1 | (dsimp only; walk1)) | fail "no step"))
      rename Fr _ _ _ _ => F10
      rename News _ _ _ _ => N10
      refine eq_pair (r := none) (r' := none) ⟨_, rfl, News.isTup N10 (by walk_at "memx")⟩ ⟨_, rfl, News.isTup N10 (.head _)⟩ (by rw [deeper_units]; omega) ?_
      rw [show decide ((none : Option (Nat × List Nat)) = none) = true from rfl]
      (repeat' (first | ((with_reducible show Frag.In _ _ ∧ _); walk1) | ((fail_if_success (with_reducible show _ ∧ _)); first | (k_unfold; (try dsimp only)) | walk1 | (dsimp only; walk1)) | fail "no step"))
      refine ⟨?_, Ext.of (ps' := ps ++ more8) T0 F10 N10 (by walk_at "memx") ⟨_, rfl⟩ htr8 hb8 rfl⟩
      show EncRes y0 ver rr _ (some five)
      unfold EncRes
      dsimp only
      rw [if_pos hq]
    | some p =>
      rw [hq] at hv
      obtain ⟨tt, u9, l9, vs9, rfl, htup, hl9, hI9, hfr, hfrl⟩ := hv
      obtain ⟨d9, n9, sl9, N9⟩ := news_listL F7 N8 hl9 hfrl (ns_there F7.ns)
      obtain ⟨d10, n10, sl10, N10⟩ := news_tupL F7 N9 htup hfr
      clear F7 N7 N8 N9 e hk8 htup hl9 hfr hfrl
      try dsimp only
      (repeat' (first | ((with_reducible show Frag.In _ _ ∧ _); walk1) | ((fail_if_success (with_reducible show _ ∧ _)); (fail_if_success (with_reducible show wpAny _ _ (compareOp _ _ _) _ _ _)); first | (k_unfold; (try dsimp only)) | walk1 | (dsimp only; walk1)) | fail "no step"))
      rename Fr _ _ _ _ => F10
      rename News _ _ _ _ => N10
      refine eq_pair (r := some p) (r' := none) ⟨_, _, _, _, rfl, News.isTup N10 (by walk_at "memx"), News.isList N10 (by walk_at "memx"), hI9⟩ ⟨_, rfl, News.isTup N10 (.head _)⟩ (by rw [deeper_units]; omega) ?_
      rw [show decide (some p = (none : Option (Nat × List Nat))) = false from rfl]
      (repeat' (first | ((with_reducible show Frag.In _ _ ∧ _); walk1) | ((fail_if_success (with_reducible show _ ∧ _)); first | (k_unfold; (try dsimp only)) | walk1 | (dsimp only; walk1)) | fail "no step"))
      refine ⟨?_, Ext.of (ps' := ps ++ more8) T0 F10 N10 (by walk_at "memx") ⟨_, rfl⟩ htr8 hb8 rfl⟩
      show EncRes y0 ver rr _ (some five)
      unfold EncRes
      dsimp only
      rw [if_neg (by rw [hq]; simp)]
      exact ⟨_, rfl⟩
end Mine
namespace Mine
theorem isList_hide {h : Heap} {ps : Array Value} (T0 : Tab h ps) {l : Addr} {xs : Array Value} (hl : h.IsList l xs) : (h.hide 45).IsList l xs := by
  obtain ⟨o, ho, hc, r⟩ := hl
  refine ⟨o, (Heap.hide_ne _ fun q => ?_).trans ho, hc, r⟩
  subst q
  have h2 : tabO ps = o := Option.some.inj (T0.2.2.symm.trans ho)
  rw [← h2] at hc; cases hc
theorem isTup_hide {h : Heap} {ps : Array Value} (T0 : Tab h ps) {l : Addr} {xs : Array Value} (hl : IsTup h l xs) : IsTup (h.hide 45) l xs := by
  obtain ⟨o, ho, hc, r⟩ := hl
  refine ⟨o, (Heap.hide_ne _ fun q => ?_).trans ho, hc, r⟩
  subst q
  have h2 : tabO ps = o := Option.some.inj (T0.2.2.symm.trans ho)
  rw [← h2] at hc; cases hc
theorem isTup_at {g H : Heap} {l : Addr} {xs : Array Value} (ht : IsTup g l xs) (hk : ∀ b o, g.get? b = some o → H.get? b = some o) : IsTup H l xs := by
  obtain ⟨o, ho, r⟩ := ht
  exact ⟨o, hk _ _ ho, r⟩
theorem isList_but {h g : Heap} {ps : Array Value} (T0 : Tab h ps) (hk : ∀ b o, b ≠ 45 → h.get? b = some o → g.get? b = some o) {l : Addr} {xs : Array Value} (hl : h.IsList l xs) : g.IsList l xs :=
  (isList_hide T0 hl).at fun o e => by
    by_cases q : l = 45
    · subst q; rw [Heap.hide_self] at e; cases e
    · exact hk _ _ q ((Heap.hide_ne _ q).symm.trans e)
theorem isTup_but {h g : Heap} {ps : Array Value} (T0 : Tab h ps) (hk : ∀ b o, b ≠ 45 → h.get? b = some o → g.get? b = some o) {l : Addr} {xs : Array Value} (hl : IsTup h l xs) : IsTup g l xs := by
  obtain ⟨o, ho, r⟩ := isTup_hide T0 hl
  refine ⟨o, ?_, r⟩
  by_cases q : l = 45
  · subst q; rw [Heap.hide_self] at ho; cases ho
  · exact hk _ _ q ((Heap.hide_ne _ q).symm.trans ho)
theorem src_tupG {α : Type} {w : World} {g : Heap} {s : Shared} {l : Addr} {vs : List Value} {as : List α} {V : α → Value → Prop} (hlg : IsTup g l vs.toArray) (hkg : ∀ b o, g.get? b = some o → s.heap.get? b = some o) (hv : Paired V as vs) : Src w (.ref l) g s as V := by
  have hl : IsTup s.heap l vs.toArray := isTup_at hlg hkg
  have hl' : s.heap.IsTuple l vs.toArray := hl
  intro A Q E hA h
  refine wpAny_pyIter_tuple hl' ?_
  have hlt : l < s.heap.objs.size := by obtain ⟨_, e, _⟩ := hl; exact Heap.lt_size e
  have hlen : vs.toArray.size = as.length := by simp [hv.length]
  refine h s.heap.objs.size [s.heap.objs.size, l] [s.heap.objs.size] (fun i v => vs.toArray[i]? = some v) (fun i h => h.IsTupleIter s.heap.objs.size l i ∧ h.IsTuple l vs.toArray) _
    (fun A' hA' => by rw [← hlen]; exact Walks.tuple hA' _ _ (Nat.ne_of_lt hlt) vs.toArray) ⟨⟨_, Heap.get?_push_size _ rfl, rfl, rfl⟩, (isTup_at hl fun b o e => Heap.get?_push_of_some _ e : IsTup _ l vs.toArray)⟩ ?_ ?_ ?_ ?_ ?_ ?_ ?_
  · intro b hb
    rw [Heap.size_push]
    rcases List.mem_cons.mp hb with rfl | hb
    · exact Nat.lt_succ_self _
    · rw [List.mem_singleton.mp hb]; exact Nat.lt_succ_of_lt hlt
  · intro b hb; rw [List.mem_singleton.mp hb]; exact fresh_none (Nat.le_refl _)
  · intro b hb; rw [List.mem_singleton.mp hb]; exact Nat.le_refl _
  · intro b hb
    rcases List.mem_cons.mp hb with rfl | hb
    · exact .inr (Nat.le_refl _)
    · rw [List.mem_singleton.mp hb]
      obtain ⟨o, ho, hc, _⟩ := hlg
      exact .inl ⟨o, ho, by rw [hc]; simp⟩
  · rw [Heap.size_push]; exact Nat.le_succ _
  · intro i v e; exact paired_get hv i v (by simpa using e)
  · intro b o e; exact Heap.get?_push_of_some _ e
theorem src_bytes {w : World} {g : Heap} {s : Shared} {b : Array UInt8} {t : Tok} : Src w (.bytes b t) g s (KBw.bInts b) IntV := by
  intro A Q E hA h
  refine KBw.pyIter_bytes ?_
  refine h s.heap.objs.size [s.heap.objs.size] [s.heap.objs.size] (fun i v => ∃ c u, b[i]? = some c ∧ v = .int (c.toNat : Int) u) (fun i h => KBw.IsBytesIter h s.heap.objs.size b t i) _ (fun A' hA' => by rw [KBw.ints_length]; exact KBw.walks hA' _ b t) ⟨_, Heap.get?_push_size _ rfl, rfl, rfl⟩ ?_ ?_ ?_ ?_ ?_ ?_ ?_
  · intro b hb; rw [List.mem_singleton.mp hb, Heap.size_push]; exact Nat.lt_succ_self _
  · intro b hb; rw [List.mem_singleton.mp hb]; exact fresh_none (Nat.le_refl _)
  · intro b hb; rw [List.mem_singleton.mp hb]; exact Nat.le_refl _
  · intro b hb; rw [List.mem_singleton.mp hb]; exact .inr (Nat.le_refl _)
  · rw [Heap.size_push]; exact Nat.le_succ _
  · rintro i v ⟨c, u, hc, rfl⟩; exact ⟨_, KBw.ints_get hc, u, rfl⟩
  · intro b o e; exact Heap.get?_push_of_some _ e
section
variable {w : World} {A : Around} {E : Value → Shared → Prop} {hp : Heap} {gs : Array GenState} {dr : Drawn} {tk : Nat} {os : OsState} {h₀ : Heap} {L : Addr} {m : Str → Option Value} {news : List (Addr × Obj)} {Q : Value → Shared → Prop}
theorem bytes_n {D : Addr} {vs : List Value} {ns : List Nat} (F : Fr h₀ L hp m) (N : News h₀ L hp news) (hh : A.handled = none) (hl : hp.IsList D vs.toArray) (hi : IntsAre vs (natv ns)) (hr : ∀ c ∈ ns, c < 256) (hn : ns.length ≤ 100000)
    (h : ∀ h' t tk b, Fr h₀ L h' m → News h₀ L h' news → KBw.bInts b = natv ns → Q (.bytes b t) ⟨h', gs, dr, tk, os⟩) : wpAny (model prg w) A (call (.type "bytes") [.ref D]) Q E ⟨hp, gs, dr, tk, os⟩ := by
  have hin : KBa.In (natv ns) := fun n hn => by
    obtain ⟨c, hc, rfl⟩ := List.mem_map.mp hn
    have := hr c hc
    omega
  exact KBa.make_K (s := ⟨hp, gs, dr, tk, os⟩) F N hh hl hi hin (by rw [natv_length]; omega) fun h' t' k F' N' _ => h h' t' k _ F' N' (KBa.ints_make hin)
theorem tuple_n {D : Addr} {vs : List Value} (F : Fr h₀ L hp m) (N : News h₀ L hp news) (hl : hp.IsList D vs.toArray) (hn : vs.length ≤ 16384)
    (h : ∀ D h', Fr h₀ L h' m → News h₀ L h' ((D, tobj none vs.toArray 0 #[]) :: news) → Q (.ref D) ⟨h', gs, dr, tk, os⟩) : wpAny (model prg w) A (call (.type "tuple") [.ref D]) Q E ⟨hp, gs, dr, tk, os⟩ :=
  kde_tupleOf (s := ⟨hp, gs, dr, tk, os⟩) F N hl (by rw [List.size_toArray]; exact hn) rfl fun D h' F' N' _ => h D h' F' (by simpa using N')
end
end Mine
namespace Mine
local macro_rules | `(tactic| walk_at "eval Constant int") => `(tactic| (refine const_n ?_; intro _ _))
local macro_rules | `(tactic| walk_at "binaryOp BitAnd int int") => `(tactic| (refine and_n ?_; intro _ _))
local macro_rules | `(tactic| walk_at "binaryOp BitOr int int") => `(tactic| (refine or_n ?_; intro _ _))
local macro_rules | `(tactic| walk_at "binaryOp BitXor int int") => `(tactic| (refine xor_n ?_; intro _ _))
local macro_rules | `(tactic| walk_at "inplaceOp BitXor int int") => `(tactic| (refine ixor_n ?_; intro _ _))
local macro_rules | `(tactic| walk_at "binaryOp RShift int int") => `(tactic| (refine rsh_n ?_; intro _ _))
local macro_rules | `(tactic| walk_at "binaryOp Add int int") => `(tactic| (refine add_n ?_; intro _ _))
local macro_rules | `(tactic| walk_at "inplaceOp Add int int") => `(tactic| (refine iadd_n ?_; intro _ _))
local macro_rules | `(tactic| walk_at "binaryOp FloorDiv int int") => `(tactic| (refine div_n (by decide) (by decide) ?_; intro _ _))
local macro_rules | `(tactic| walk_at "binaryOp Mod int int") => `(tactic| (refine mod_n (by decide) ?_; intro _ _))
local macro_rules | `(tactic| walk_at "truthy int") => `(tactic| refine truthy_n ?_)
local macro_rules | `(tactic| walk_at "look") => `(tactic| ((try dsimp only); first | assumption | exact if_pos rfl | (refine Eq.trans (if_neg (by decide)) ?_; walk_at "look") | (refine Eq.trans (Upto.out (by assumption) (by decide)) ?_; walk_at "look") | rfl))
local macro_rules | `(tactic| walk_at "mem") => `(tactic| (intro p9 hp9; first | exact hp9 | (repeat' (first | exact hp9 | refine List.mem_cons_of_mem _ ?_))))
local macro_rules | `(tactic| walk_at "upto") => `(tactic| first | assumption | exact Upto.refl | (refine Upto.set (by first | decide | decide +kernel | simp) ?_; walk_at "upto") | (refine' Upto.trans ?hs ?h1 ?_; (case h1 => assumption); (case hs => first | decide | decide +kernel); walk_at "upto"))
local macro_rules | `(tactic| walk_at "memx") => `(tactic| first | exact List.Mem.head _ | (refine List.Mem.tail _ ?_; walk_at "memx") | (refine List.mem_append_left _ ?_; walk_at "memx") | (refine List.mem_append_right _ ?_; walk_at "memx"))
local macro_rules | `(tactic| walk_at "TurnEnd next") => `(tactic| (refine' TurnEnd.next ?F ?N ?n ?_ ?U; (case F => k_asm); (case N => k_asm); (case n => walk_at "mem"); (case U => walk_at "upto")))
local macro_rules | `(tactic| walk_at "loadName") => `(tactic| (k_here; k_dflt (refine' ldn ?k1 ?k2 ?_; (case k1 => k_asm); (case k2 => walk_at "look"); k_whole)))
local macro_rules | `(tactic| walk_at "topr") => `(tactic| first | assumption | exact TopRead.keeps (by assumption) (Fr.keep (by assumption)))
local macro_rules | `(tactic| walk_at "eval Name") => `(tactic| (k_here; k_dflt (first
  | (refine' nm_localF ?F ?v ?_ ?a ?b ?c; (case b => rfl); (case a => rfl); (case c => decide); (case F => k_asm); (case v => walk_at "look"); k_whole)
  | (refine' nm_local ?F ?v ?_ ?a ?b ?c; (case b => rfl); (case a => rfl); (case c => decide); (case F => k_asm); (case v => walk_at "look"); k_whole)
  | (refine' nm_cell ?F ?v ?_ ?a ?b ?c; (case b => rfl); (case a => rfl); (case c => decide); (case v => rfl); (case F => k_asm); k_whole)
  | (refine' nm_K ?X ?T ?e ?_ ?g ?a ?b ?c; (case b => rfl); (case a => rfl); (case g => rfl); (case c => decide); (case X => k_in); (case T => walk_at "topr"); (case e => k_is); k_whole)
  | (refine' nm_B ?X ?T ?e ?v ?_ ?g ?h ?a ?b ?c ?n; (case b => rfl); (case a => rfl); (case g => rfl); (case h => rfl); (case c => decide); (case n => decide); (case X => k_in); (case T => walk_at "topr"); (case e => k_is); (case v => first | boot_fast | boot_by_name); k_whole))))
local macro_rules | `(tactic| walk_at "isl") => `(tactic| first | assumption | exact News.isList (by k_asm) (by walk_at "memx") | exact Heap.IsList.at (by assumption) (fun o e => Fr.keep (by k_asm) _ o e))
local macro_rules | `(tactic| walk_at "ints") => `(tactic| first | assumption | exact .nil | exact IntsAre.cons _ _ (by walk_at "ints"))
local macro_rules | `(tactic| walk_at "compareOp Eq int int") => `(tactic| refine eq_n ?_)
local macro_rules | `(tactic| walk_at "compareOp NotEq int int") => `(tactic| refine ne_n ?_)
local macro_rules | `(tactic| walk_at "compareOp Lt int int") => `(tactic| refine lt_n ?_)
local macro_rules | `(tactic| walk_at "compareOp Gt int int") => `(tactic| refine gt_n ?_)
local macro_rules | `(tactic| walk_at "compareOp LtE int int") => `(tactic| refine le_n ?_)
local macro_rules | `(tactic| walk_at "compareOp GtE int int") => `(tactic| refine ge_n ?_)
local macro_rules | `(tactic| walk_at "binaryOp Mult int int") => `(tactic| ((first | refine mul_n ?_ (IntMulOk.of_left (by decide +kernel)) | refine mul_n ?_ (IntMulOk.of_right (by decide +kernel))); intro _ _))
local macro_rules | `(tactic| walk_at "binaryOp Sub int int") => `(tactic| (refine sub_n (by omega) ?_; intro _ _))
local macro_rules | `(tactic| walk_at "storeName") => `(tactic| (k_dflt (refine' store_g ?a ?b ?c ?F ?N ?_; (case a => rfl); (case b => rfl); (case F => k_asm); (case c => rfl); (case N => k_asm); k_whole); intro h' tk' F' N'; (try k_sweep)))
local macro_rules | `(tactic| walk_at "eval Constant str") => `(tactic| (refine const_s ?_; intro _ _))
local macro_rules | `(tactic| walk_at "call builtin:len") => `(tactic| (k_dflt (refine' len_nl ?hl ?hI ?sz ?_; (case hl => walk_at "isl"); (case hI => walk_at "ints"); (case sz => (try simp only [List.length_append, List.length_map, List.length_cons, List.length_nil, List.length_range]); omega); k_whole); intro _ _))
local macro_rules | `(tactic| walk_at "inplaceOp Sub int int") => `(tactic| (refine isub_n (by omega) ?_; intro _ _))
local macro_rules | `(tactic| k_in) => `(tactic| first | with_reducible assumption | exact Frag.In.keeps (by with_reducible assumption) (Fr.keep (by with_reducible assumption)))
local macro_rules | `(tactic| walk_at "call builtin:str.lower") => `(tactic| (refine lower_t (by assumption) (by first | assumption | omega) ?_; intro _ _))
local macro_rules | `(tactic| walk_at "call builtin:str.upper") => `(tactic| (refine upper_t (by assumption) (by first | assumption | omega) ?_; intro _ _))
local macro_rules | `(tactic| walk_at "call builtin:len") => `(tactic| ((with_reducible show wpAny _ _ (call (Value.builtin "len") [Value.str _ _]) _ _ _); refine len_t (by first | assumption | omega) ?_; intro _ _))
local macro_rules | `(tactic| walk_at "compareOp Eq str str") => `(tactic| refine eq_t ?_)
local macro_rules | `(tactic| walk_at "compareOp NotEq str str") => `(tactic| refine ne_t ?_)
local macro_rules | `(tactic| walk_at "ist") => `(tactic| first | assumption | exact News.isTup (by k_asm) (by walk_at "memx"))
local macro_rules | `(tactic| walk_at "assign Tuple") => `(tactic| (k_dflt (refine' unpackN_ ?F ?N ?T ?hh ?k1 ?k2 ?_; (case F => k_asm); (case N => k_asm); (case T => walk_at "ist"); (case hh => (rename Around.handled _ = none => h9; exact h9)); (case k1 => exact rfl); (case k2 => exact rfl); k_whole); intro h' F' N'; (try k_sweep)))
local macro_rules | `(tactic| walk_at "ist") => `(tactic| first | assumption | exact News.isTup (by k_asm) (by walk_at "memx") | exact isTup_at (by assumption) (Fr.keep (by k_asm)))
local macro_rules | `(tactic| walk_at "call type:bytes") => `(tactic| (k_dflt (refine' bytes_n ?F ?N ?hh ?l ?i ?r ?z ?_; (case F => k_asm); (case N => k_asm); (case hh => (rename Around.handled _ = none => h9; exact h9)); (case l => walk_at "isl"); (case i => assumption); (case r => assumption); (case z => omega); k_whole); intro h' t' tk' b' F' N' hb'))
local macro_rules | `(tactic| walk_at "call type:tuple") => `(tactic| (k_dflt (refine' tuple_n ?F ?N ?l ?z ?_; (case F => k_asm); (case N => k_asm); (case l => walk_at "isl"); (case z => assumption); k_whole); intro D' h' F' N'))
set_option maxRecDepth 100000 in
set_option maxHeartbeats 8000000 in
theorem made_spec (w : World) (mg mb : Str → Option Value) (A : Around) (s : Shared) (y0 txt : List Nat) (t0 t1 tv tn : Tok) (ver turn : Nat) (octs fives : List Nat) (lo : Addr) (vo : List Value) (gv : Value) (r : Option (Nat × List Nat))
   (E : Value → Shared → Prop) (B : Big w mg mb s) (hA : A.handled = none) (hd : A.depth + 6 < recursionLimit) (hu : A.units + 200 < cLine)
   (hy : ∀ c ∈ y0, 33 ≤ c ∧ c ≤ 126) (hlen : y0.length ≤ 80) (hver : ver < 32) (hol : octs.length ≤ 60) (ho256 : ∀ c ∈ octs, c < 256)
   (hlo : s.heap.IsList lo vo.toArray) (hI : IntsAre vo (natv octs)) (hgv : PairAt s.heap gv r) (hturn : turn < 3)
   (hup : y0.map up1 ≠ y0 → octs.length ≤ 20 → ∀ five, cbOf 8 5 true (natv octs) = some five → ∃ rU, DecGood (encOf (y0.map up1) (ver :: five)) rU ∧ (∀ p, rU = some p → p.2 ≠ []) ∧ decRes (y0.map up1) rU = none)
   (hcb : cbOf 8 5 true (natv octs) = some fives) (hdec : DecGood (encOf y0 (ver :: fives)) (some (y0, ver :: fives))) (hseg : segOf (ver :: fives) = r) (htxt : txt = encOf y0 (ver :: fives)) :
   wpAny (model PySem.Challenge.rw_fw0006_01.row.prog w) A (call (.ref 104) [.str (tx y0) t0, .str (tx txt) t1, .int (ver : Int) tv, .ref lo, .int (turn : Int) tn, gv]) (fun v s' => v = .bool true ∧ Ext s s') E s := by
  have X0 := B.X
  have G := B.g
  have X := G.X
  obtain ⟨ps, T0⟩ := B.tab
  have hbare := B.bare
  have TR := B.T
  have T := G.T
  have hk45 := T0.2.2
  have htr := T0.triples
  have hhide : ∀ b o, b ≠ 45 → s.heap.get? b = some o → (s.heap.hide 45).get? b = some o := fun b o hb e => (Heap.hide_ne _ hb).trans e
  have hlg := isList_hide T0 hlo
  have hchU : ∀ c ∈ y0.map up1, 33 ≤ c ∧ c ≤ 126 := fun c hc => by
    obtain ⟨d, hd, rfl⟩ := List.mem_map.mp hc
    have := hy d hd
    unfold up1; split <;> omega
  have h128 : ∀ c ∈ y0, c < 128 := fun c hc => by have := hy c hc; omega
  revert X0 X
  k_fill
  intro X0 X
  refine' enterG (binds := [("front", .str (tx y0) t0), ("text", .str (tx txt) t1), ("version", .int (ver : Int) tv), ("octets", .ref lo), ("turn", .int (turn : Int) tn), ("good", gv)]) (s.heap.hide 45) (fun b o e => Heap.of_hide e) (Nat.le_of_eq (Heap.hide_size _ _)) X0 TR.nolimit ?a ?b ?c ?d ?e ?h ?i ?j ?k ?l
  (case a => omega); (case b => k_is); (case c => k_is); (case d => exact BindsTo.of_eq rfl); (case e => exact locs rfl); (case i => rfl); (case j => rfl); (case k => rfl); (case l => decide)
  intro L h₁ hL F N hk₁
  have N45 : News (s.heap.hide 45) L h₁ [(45, tabO ps)] := fun p hp => by
    rw [List.mem_singleton.mp hp]
    exact ⟨hk₁ _ _ hk45, Nat.ne_of_lt (hL ▸ Heap.lt_size hk45), Heap.hide_self _ _⟩
  clear N hk₁ X0 TR
  obtain ⟨hp0, gs0, dr0, tk0, os0⟩ := s
  replace hlg : (hp0.hide 45).IsList lo vo.toArray := hlg
  clear hlo
  try dsimp only
  try k_fold
  have hgv' : PairAt (hp0.hide 45) gv r := by
    cases r with
    | none => obtain ⟨tt, e, htup⟩ := hgv; exact ⟨tt, e, isTup_hide T0 htup⟩
    | some p => obtain ⟨tt, u9, l9, vs9, e, htup, hl9, hI9⟩ := hgv; exact ⟨tt, u9, l9, vs9, e, isTup_hide T0 htup, isList_hide T0 hl9, hI9⟩
  replace hgv := hgv'
  clear hgv'
  have hvl : vo.length ≤ 16384 := by have := hI.length; rw [natv_length] at this; omega
  (repeat' (first | ((with_reducible show Frag.In _ _ ∧ _); walk1) | ((fail_if_success (with_reducible show _ ∧ _)); (fail_if_success (with_reducible show wpAny _ _ (call (Value.ref _) _) _ _ _)); first | (k_unfold; (try dsimp only)) | walk1 | (dsimp only; walk1)) | fail "no step"))
  · rename Fr _ _ _ _ => F7
    rename News _ _ _ _ => N7
    rename (_ != _) = true => hne1
    obtain ⟨rU, hU1, hU2, hU3⟩ := hup (by simpa using hne1) (by assumption) fives hcb
    refine wpAny_mono (encode_spec w mg mb _ _ (y0.map up1) _ _ ver (natv octs) _ (fun _ => rU) _ (G.big F7 N7 (ps := ps) (by walk_at "memx") htr hbare) hA (by (repeat rw [deeper_depth]); omega) (by rw [deeper_units]; omega) hchU (by rw [List.length_map]; exact hlen) hver (by rw [natv_length]; exact hol) ?hs ?hr) ?_ (fun _ _ e => e)
    case hr =>
      intro five hfive
      obtain rfl : five = fives := Option.some.inj (hfive.symm.trans hcb)
      exact ⟨hU1, hU2⟩
    case hs =>
      intro g s₁ hk1 hk2
      have TH := G.tab _ _ F7.keep (N7 (45, tabO ps) (by walk_at "memx")).1 htr
      exact src_listG (isList_but TH hk1 (by walk_at "isl")) hk2 (paired_ints hI)
    rintro v s' ⟨hv, e⟩
    rw [hcb] at hv
    obtain ⟨H6, gs6, dr6, tk6, more6, rfl, F6, N6, htr6, hb6, hk6⟩ := Ext.next (ps := ps) (rest := []) G F7 N7 (by walk_at "memx") htr (fun p hp => nomatch hp) e
    clear F7 N7 e hk6
    replace hv : if decRes (y0.map up1) rU = none then v = .none else ∃ t, v = .str (tx (encOf (y0.map up1) (ver :: fives))) t := hv
    replace hv : v = .none := by rw [if_pos hU3] at hv; exact hv
    subst hv
    try dsimp only
    (repeat' (first | ((with_reducible show Frag.In _ _ ∧ _); walk1) | ((fail_if_success (with_reducible show _ ∧ _)); (fail_if_success (with_reducible show wpAny _ _ (call (Value.ref _) _) _ _ _)); first | (k_unfold; (try dsimp only)) | walk1 | (dsimp only; walk1)) | fail "no step"))
    all_goals
      rename Fr _ _ _ _ => F7
      rename News _ _ _ _ => N7
      refine wpAny_mono (encode_spec w mg mb _ _ y0 _ _ ver (natv octs) _ (fun five => some (y0, ver :: five)) _ (G.big F7 N7 (ps := (ps ++ more6)) (by walk_at "memx") htr6 hb6) hA (by (repeat rw [deeper_depth]); omega) (by rw [deeper_units]; omega) hy hlen hver (by rw [natv_length]; exact hol) ?hs ?hr) ?_ (fun _ _ e => e)
      case hr =>
        intro five hfive
        obtain rfl : five = fives := Option.some.inj (hfive.symm.trans hcb)
        exact ⟨hdec, fun p hp => by cases hp; simp⟩
      case hs =>
        intro g s₁ hk1 hk2
        have TH := G.tab _ _ F7.keep (N7 (45, tabO ((ps ++ more6))) (by walk_at "memx")).1 htr6
        first
          | exact src_listG (isList_but TH hk1 (by walk_at "isl")) hk2 (paired_ints hI)
          | exact src_tupG (isTup_but TH hk1 (by walk_at "ist")) hk2 (paired_ints hI)
          | (rename KBw.bInts _ = _ => hb9; rw [← hb9]; exact src_bytes)
      rintro v s' ⟨hv, e⟩
      rw [hcb] at hv
      obtain ⟨H8, gs8, dr8, tk8, more8, rfl, F8, N8, htr8, hb8, hk8⟩ := Ext.next (ps := (ps ++ more6)) (rest := []) G F7 N7 (by walk_at "memx") htr6 (fun p hp => nomatch hp) e
      clear F7 N7 e hk8
      have hq : decRes y0 (some (y0, ver :: fives)) = r := (if_pos rfl).trans hseg
      replace hv : if decRes y0 (some (y0, ver :: fives)) = none then v = .none else ∃ t, v = .str (tx (encOf y0 (ver :: fives))) t := hv
      rw [hq] at hv
      cases r with
      | none =>
        rw [if_pos rfl] at hv
        subst hv
        obtain ⟨tt, rfl, htup⟩ := hgv
        try dsimp only
        (repeat' (first | ((with_reducible show Frag.In _ _ ∧ _); walk1) | ((fail_if_success (with_reducible show _ ∧ _)); (fail_if_success (with_reducible show wpAny _ _ (subscriptTail _ _ _ _) _ _ _)); first | (k_unfold; (try dsimp only)) | walk1 | (dsimp only; walk1)) | fail "no step"))
        refine item_tupleT (l := [.none, .none]) (k := ((1 : Nat) : Int)) (by walk_at "ist") (by decide) (by decide) (seqIdx (by show 1 < 2; decide)) rfl ?_ (by with_unfolding_all rfl)
        (repeat' (first | ((with_reducible show Frag.In _ _ ∧ _); walk1) | ((fail_if_success (with_reducible show _ ∧ _)); first | (k_unfold; (try dsimp only)) | walk1 | (dsimp only; walk1)) | fail "no step"))
        rename Fr _ _ _ _ => F9
        rename News _ _ _ _ => N9
        exact ⟨rfl, Ext.of (ps' := (ps ++ more6) ++ more8) T0 F9 N9 (by walk_at "memx") ⟨more6 ++ more8, by rw [Array.append_assoc]⟩ htr8 hb8 rfl⟩
      | some p =>
        rw [if_neg (by simp)] at hv
        obtain ⟨t9, rfl⟩ := hv
        obtain ⟨tt, u9, l9, vs9, rfl, htup, hl9, hI9⟩ := hgv
        try dsimp only
        (repeat' (first | ((with_reducible show Frag.In _ _ ∧ _); walk1) | ((fail_if_success (with_reducible show _ ∧ _)); (fail_if_success (with_reducible show wpAny _ _ (subscriptTail _ _ _ _) _ _ _)); first | (k_unfold; (try dsimp only)) | walk1 | (dsimp only; walk1)) | fail "no step"))
        refine item_tupleT (l := [.int (p.1 : Int) u9, .ref l9]) (k := ((1 : Nat) : Int)) (by walk_at "ist") (by decide) (by decide) (seqIdx (by show 1 < 2; decide)) rfl ?_ (by with_unfolding_all rfl)
        (repeat' (first | ((with_reducible show Frag.In _ _ ∧ _); walk1) | ((fail_if_success (with_reducible show _ ∧ _)); first | (k_unfold; (try dsimp only)) | walk1 | (dsimp only; walk1)) | fail "no step"))
        rename Fr _ _ _ _ => F9
        rename News _ _ _ _ => N9
        exact ⟨congrArg Value.bool (by rw [htxt]; simp), Ext.of (ps' := (ps ++ more6) ++ more8) T0 F9 N9 (by walk_at "memx") ⟨more6 ++ more8, by rw [Array.append_assoc]⟩ htr8 hb8 rfl⟩
  all_goals
      rename Fr _ _ _ _ => F7
      rename News _ _ _ _ => N7
      refine wpAny_mono (encode_spec w mg mb _ _ y0 _ _ ver (natv octs) _ (fun five => some (y0, ver :: five)) _ (G.big F7 N7 (ps := ps) (by walk_at "memx") htr hbare) hA (by (repeat rw [deeper_depth]); omega) (by rw [deeper_units]; omega) hy hlen hver (by rw [natv_length]; exact hol) ?hs ?hr) ?_ (fun _ _ e => e)
      case hr =>
        intro five hfive
        obtain rfl : five = fives := Option.some.inj (hfive.symm.trans hcb)
        exact ⟨hdec, fun p hp => by cases hp; simp⟩
      case hs =>
        intro g s₁ hk1 hk2
        have TH := G.tab _ _ F7.keep (N7 (45, tabO (ps)) (by walk_at "memx")).1 htr
        first
          | exact src_listG (isList_but TH hk1 (by walk_at "isl")) hk2 (paired_ints hI)
          | exact src_tupG (isTup_but TH hk1 (by walk_at "ist")) hk2 (paired_ints hI)
          | (rename KBw.bInts _ = _ => hb9; rw [← hb9]; exact src_bytes)
      rintro v s' ⟨hv, e⟩
      rw [hcb] at hv
      obtain ⟨H8, gs8, dr8, tk8, more8, rfl, F8, N8, htr8, hb8, hk8⟩ := Ext.next (ps := ps) (rest := []) G F7 N7 (by walk_at "memx") htr (fun p hp => nomatch hp) e
      clear F7 N7 e hk8
      have hq : decRes y0 (some (y0, ver :: fives)) = r := (if_pos rfl).trans hseg
      replace hv : if decRes y0 (some (y0, ver :: fives)) = none then v = .none else ∃ t, v = .str (tx (encOf y0 (ver :: fives))) t := hv
      rw [hq] at hv
      cases r with
      | none =>
        rw [if_pos rfl] at hv
        subst hv
        obtain ⟨tt, rfl, htup⟩ := hgv
        try dsimp only
        (repeat' (first | ((with_reducible show Frag.In _ _ ∧ _); walk1) | ((fail_if_success (with_reducible show _ ∧ _)); (fail_if_success (with_reducible show wpAny _ _ (subscriptTail _ _ _ _) _ _ _)); first | (k_unfold; (try dsimp only)) | walk1 | (dsimp only; walk1)) | fail "no step"))
        refine item_tupleT (l := [.none, .none]) (k := ((1 : Nat) : Int)) (by walk_at "ist") (by decide) (by decide) (seqIdx (by show 1 < 2; decide)) rfl ?_ (by with_unfolding_all rfl)
        (repeat' (first | ((with_reducible show Frag.In _ _ ∧ _); walk1) | ((fail_if_success (with_reducible show _ ∧ _)); first | (k_unfold; (try dsimp only)) | walk1 | (dsimp only; walk1)) | fail "no step"))
        rename Fr _ _ _ _ => F9
        rename News _ _ _ _ => N9
        exact ⟨rfl, Ext.of (ps' := ps ++ more8) T0 F9 N9 (by walk_at "memx") ⟨_, rfl⟩ htr8 hb8 rfl⟩
      | some p =>
        rw [if_neg (by simp)] at hv
        obtain ⟨t9, rfl⟩ := hv
        obtain ⟨tt, u9, l9, vs9, rfl, htup, hl9, hI9⟩ := hgv
        try dsimp only
        (repeat' (first | ((with_reducible show Frag.In _ _ ∧ _); walk1) | ((fail_if_success (with_reducible show _ ∧ _)); (fail_if_success (with_reducible show wpAny _ _ (subscriptTail _ _ _ _) _ _ _)); first | (k_unfold; (try dsimp only)) | walk1 | (dsimp only; walk1)) | fail "no step"))
        refine item_tupleT (l := [.int (p.1 : Int) u9, .ref l9]) (k := ((1 : Nat) : Int)) (by walk_at "ist") (by decide) (by decide) (seqIdx (by show 1 < 2; decide)) rfl ?_ (by with_unfolding_all rfl)
        (repeat' (first | ((with_reducible show Frag.In _ _ ∧ _); walk1) | ((fail_if_success (with_reducible show _ ∧ _)); first | (k_unfold; (try dsimp only)) | walk1 | (dsimp only; walk1)) | fail "no step"))
        rename Fr _ _ _ _ => F9
        rename News _ _ _ _ => N9
        exact ⟨congrArg Value.bool (by rw [htxt]; simp), Ext.of (ps' := ps ++ more8) T0 F9 N9 (by walk_at "memx") ⟨_, rfl⟩ htr8 hb8 rfl⟩
end Mine
namespace Mine
section
variable {w : World} {A : Around} {E : Value → Shared → Prop} {hp : Heap} {gs : Array GenState} {dr : Drawn} {tk : Nat} {os : OsState} {h₀ : Heap} {L : Addr} {m : Str → Option Value} {news : List (Addr × Obj)} {M : Model}
theorem cut_int {e : Sem Value} {Q : Value → Shared → Prop} (n : Nat) (h1 : wpAny M A e (fun v s' => True ∧ ∃ t tk, v = .int (n : Int) t ∧ s' = ⟨hp, gs, dr, tk, os⟩) E ⟨hp, gs, dr, tk, os⟩) (h2 : ∀ t tk, Q (.int (n : Int) t) ⟨hp, gs, dr, tk, os⟩) : wpAny M A e Q E ⟨hp, gs, dr, tk, os⟩ :=
  wpAny_mono h1 (fun v s' h => by obtain ⟨_, t, tk, rfl, rfl⟩ := h; exact h2 t tk) fun _ _ e => e
theorem cut_bool {e : Sem Value} {Q : Value → Shared → Prop} (b : Bool) (h1 : wpAny M A e (fun v s' => True ∧ ∃ tk, v = .bool b ∧ s' = ⟨hp, gs, dr, tk, os⟩) E ⟨hp, gs, dr, tk, os⟩) (h2 : ∀ tk, Q (.bool b) ⟨hp, gs, dr, tk, os⟩) : wpAny M A e Q E ⟨hp, gs, dr, tk, os⟩ :=
  wpAny_mono h1 (fun v s' h => by obtain ⟨_, tk, rfl, rfl⟩ := h; exact h2 tk) fun _ _ e => e
theorem cut_val {e : Sem Value} {Q : Value → Shared → Prop} (P : Value → Prop) (F : Fr h₀ L hp m) (N : News h₀ L hp news)
    (h1 : wpAny M A e (fun v s' => True ∧ ∃ h' tk, s' = ⟨h', gs, dr, tk, os⟩ ∧ P v ∧ Fr h₀ L h' m ∧ News h₀ L h' news) E ⟨hp, gs, dr, tk, os⟩) (h2 : ∀ v h' tk, P v → Fr h₀ L h' m → News h₀ L h' news → Q v ⟨h', gs, dr, tk, os⟩) : wpAny M A e Q E ⟨hp, gs, dr, tk, os⟩ :=
  wpAny_mono h1 (fun v s' h => by obtain ⟨_, h', tk, rfl, a, b, c⟩ := h; exact h2 v h' tk a b c) fun _ _ e => e
theorem cut_var {st : Sem Flow} {Q : Flow → Shared → Prop} (x : Str) (P : Value → Prop) (F : Fr h₀ L hp m) (N : News h₀ L hp news)
    (h1 : wpAny M A st (fun f s' => True ∧ f = .next ∧ ∃ h' tk v, s' = ⟨h', gs, dr, tk, os⟩ ∧ Fr h₀ L h' (fun y => if y = x then some v else m y) ∧ News h₀ L h' news ∧ P v) E ⟨hp, gs, dr, tk, os⟩)
    (h2 : ∀ h' tk v, Fr h₀ L h' (fun y => if y = x then some v else m y) → News h₀ L h' news → P v → Q .next ⟨h', gs, dr, tk, os⟩) : wpAny M A st Q E ⟨hp, gs, dr, tk, os⟩ :=
  wpAny_mono h1 (fun v s' h => by obtain ⟨_, rfl, h', tk, v, rfl, a, b, c⟩ := h; exact h2 h' tk v a b c) fun _ _ e => e
theorem fr_same {x : Str} {v : Value} (hx : m x = some v) (F : Fr h₀ L hp m) : Fr h₀ L hp (fun y => if y = x then some v else m y) := by
  have e : (fun y => if y = x then some v else m y) = m := by
    funext y
    by_cases h : y = x
    · subst h; simp [hx]
    · simp [h]
  rw [e]; exact F
theorem cut_ledger {st : Sem Flow} {Q : Flow → Shared → Prop} (news' : List (Addr × Obj) → Prop) (F : Fr h₀ L hp m) (N : News h₀ L hp news)
    (h1 : wpAny M A st (fun f s' => True ∧ f = .next ∧ ∃ h' tk nx, s' = ⟨h', gs, dr, tk, os⟩ ∧ Fr h₀ L h' m ∧ News h₀ L h' nx ∧ news' nx) E ⟨hp, gs, dr, tk, os⟩)
    (h2 : ∀ h' tk nx, Fr h₀ L h' m → News h₀ L h' nx → news' nx → Q .next ⟨h', gs, dr, tk, os⟩) : wpAny M A st Q E ⟨hp, gs, dr, tk, os⟩ :=
  wpAny_mono h1 (fun v s' h => by obtain ⟨_, rfl, h', tk, nx, rfl, a, b, c⟩ := h; exact h2 h' tk nx a b c) fun _ _ e => e
theorem cut_big {st : Sem Flow} {Q : Flow → Shared → Prop} (ps : Array Value) (Y : List Str) (rest : List (Addr × Obj)) (F : Fr h₀ L hp m)
    (h1 : wpAny M A st (fun f s' => True ∧ f = .next ∧ ∃ h' gs' dr' tk' m' more, s' = ⟨h', gs', dr', tk', os⟩ ∧ Fr h₀ L h' m' ∧ Upto Y m' m ∧ News h₀ L h' ((45, tabO (ps ++ more)) :: rest) ∧ TriplesOk (ps ++ more).toList ∧ AllBare gs') E ⟨hp, gs, dr, tk, os⟩)
    (h2 : ∀ h' gs' dr' tk' m' more, Fr h₀ L h' m' → Upto Y m' m → News h₀ L h' ((45, tabO (ps ++ more)) :: rest) → TriplesOk (ps ++ more).toList → AllBare gs' → Q .next ⟨h', gs', dr', tk', os⟩) : wpAny M A st Q E ⟨hp, gs, dr, tk, os⟩ :=
  wpAny_mono h1 (fun v s' h => by obtain ⟨_, rfl, h', gs', dr', tk', m', more, rfl, a, b, c, d, e⟩ := h; exact h2 h' gs' dr' tk' m' more a b c d e) fun _ _ e => e
theorem mod_i {k : Int} {b : Nat} {t u : Tok} {Q : Value → Shared → Prop} (hb : 0 < b) (h : ∀ u tk, Q (.int (((k.fmod (b : Int)).toNat : Nat) : Int) u) ⟨hp, gs, dr, tk, os⟩) : wpAny (model prg w) A (binaryOp .Mod (.int k t) (.int (b : Int) u)) Q E ⟨hp, gs, dr, tk, os⟩ :=
  PyProof.Rows.mod_int (by omega) (by
    have e : k.fmod (b : Int) = (((k.fmod (b : Int)).toNat : Nat) : Int) := (Int.toNat_of_nonneg (Int.fmod_nonneg_of_pos _ (by omega))).symm
    rw [e]; exact h _ _)
theorem hne_of {c : Addr} {o : Obj} {v₀ : Option Value} (N : News h₀ L hp ((c, o) :: news)) (hd : o.data = .cell v₀) (h : ∀ p ∈ news, p.1 ≠ c ∨ ∀ v, p.2.data ≠ .cell v) : ∀ p ∈ news, p.1 ≠ c := fun p hp => by
  rcases h p hp with h | h
  · exact h
  · intro e
    have h1 := (N p (.tail _ hp)).1
    rw [e, (N (c, o) (.head _)).1] at h1
    have h2 : o = p.2 := Option.some.inj h1
    exact h v₀ (h2 ▸ hd)
theorem intV_inj (a a' : Int) (v : Value) (h : IntV a v) (h' : IntV a' v) : a = a' := by
  obtain ⟨t, rfl⟩ := h; obtain ⟨t', e⟩ := h'; injection e
end
end Mine
namespace Mine
/- the law's values -/
def rowOf (ns : List Int) : List Nat := (ns.take 40).map (fun k => (k.fmod 9973).toNat) ++ [6, 2, 47, 4]
def front0 (row : List Nat) : List Nat := (List.range (1 + row.getD 0 0 % 4)).map fun place => lowc (33 + (row.getD ((place + 1) % row.length) 0 + 11 * place) % 94)
def frontOf (row : List Nat) : List Nat := if row.getD 0 0 / 4 % 3 = 0 then front0 row ++ [49] else front0 row
def verOf (row : List Nat) : Nat := if row.getD 1 0 % 4 = 0 then 0 else if row.getD 1 0 % 4 = 3 then row.getD 1 0 / 4 % 32 else 1 + row.getD 1 0 / 4 % 16
def kindOf' (row : List Nat) : Nat := row.getD 2 0 % 10
def manyOf (row : List Nat) : Nat := if kindOf' row < 2 then 32 else if kindOf' row = 2 then 52 else if kindOf' row = 9 then 63 + row.getD 2 0 / 10 % 4 else row.getD 2 0 / 10 % 24
def fives0 (row : List Nat) : List Nat := (List.range (manyOf row)).map fun place => (row.getD ((place + 3) % row.length) 0 / 2 + 7 * place) % 32
def fivesOf (row : List Nat) : List Nat :=
  if kindOf' row ≠ 3 ∧ kindOf' row ≠ 4 ∧ kindOf' row ≠ 5 ∧ 0 < 5 * manyOf row % 8 ∧ 5 * manyOf row % 8 < 5 then
    (fives0 row).set (manyOf row - 1) ((fives0 row).getLastD 0 / twos.getD (5 * manyOf row % 8) 0 * twos.getD (5 * manyOf row % 8) 0)
  else fives0 row
theorem rowOf_len (ns : List Int) : 4 ≤ (rowOf ns).length ∧ (rowOf ns).length ≤ 44 := by
  unfold rowOf; rw [List.length_append, List.length_map, List.length_take]; simp only [List.length_cons, List.length_nil]; omega
theorem lowc_eq (c : Nat) : lowc c = lo1 c := rfl
theorem front_ok (row : List Nat) : (∀ c ∈ frontOf row, 33 ≤ c ∧ c ≤ 126) ∧ 1 ≤ (frontOf row).length ∧ (frontOf row).length ≤ 5 := by
  have h0 : ∀ c ∈ front0 row, 33 ≤ c ∧ c ≤ 126 := by
    intro c hc
    obtain ⟨p, _, rfl⟩ := List.mem_map.mp hc
    unfold lowc; split <;> omega
  have hl : (front0 row).length = 1 + row.getD 0 0 % 4 := by unfold front0; simp
  unfold frontOf
  split
  · refine ⟨fun c hc => ?_, by rw [List.length_append, hl]; simp, by rw [List.length_append, hl]; simp only [List.length_cons, List.length_nil]; omega⟩
    rcases List.mem_append.mp hc with hc | hc
    · exact h0 c hc
    · rw [List.mem_singleton.mp hc]; decide
  · exact ⟨h0, by omega, by omega⟩
theorem ver_lt (row : List Nat) : verOf row < 32 := by unfold verOf; (repeat' split) <;> omega
theorem many_le (row : List Nat) : manyOf row ≤ 66 := by unfold manyOf kindOf'; (repeat' split) <;> omega
theorem fives0_lt (row : List Nat) : ∀ d ∈ fives0 row, d < 32 := by
  intro d hd
  obtain ⟨p, _, rfl⟩ := List.mem_map.mp hd
  omega
theorem fives_len (row : List Nat) : (fivesOf row).length = manyOf row := by
  have h : (fives0 row).length = manyOf row := by unfold fives0; simp
  unfold fivesOf; split
  · rw [List.length_set, h]
  · exact h
theorem fives_lt (row : List Nat) : ∀ d ∈ fivesOf row, d < 32 := by
  intro d hd
  unfold fivesOf at hd
  split at hd
  · rcases List.mem_or_eq_of_mem_set hd with h | rfl
    · exact fives0_lt row d h
    · refine Nat.lt_of_le_of_lt (Nat.div_mul_le_self _ _) ?_
      rw [List.getLastD_eq_getLast?]
      cases h : (fives0 row).getLast? with
      | none => simp
      | some x => exact fives0_lt row x (List.mem_of_getLast? h)
  · exact fives0_lt row d hd
theorem enc_take (y ns : List Nat) : (encOf y ns).take ((encOf y ns).length - 6) = y ++ [49] ++ ns.map (fun d => cset.getD d 0) := by
  rw [encOf_length]
  unfold encOf
  rw [List.map_append, ← List.append_assoc, List.take_append_of_le_length (by simp; omega)]
  exact List.take_of_length_le (by simp; omega)
theorem prog_len {v : Nat} {f : List Nat} {p : Nat × List Nat} (h : some p = programOf v f) : 2 ≤ p.2.length := by
  unfold programOf at h
  split at h
  · cases h
  · split at h
    · cases h
    · split at h
      · cases h
      · cases h; dsimp only; omega
theorem programOf_len {v : Nat} {f : List Nat} {p : Nat × List Nat} (h : some p = programOf v f) : p.2.length ≤ 40 := by
  unfold programOf at h
  split at h
  · cases h
  · split at h
    · cases h
    · split at h
      · cases h
      · cases h; dsimp only; omega
structure LawFacts (front : List Nat) (ver : Nat) (fives : List Nat) : Prop where
  dec : DecGood (encOf front (ver :: fives)) (some (front, ver :: fives))
  seg : segOf (ver :: fives) = programOf ver fives
  mix : ∀ p, p < (encOf front (ver :: fives)).length → up1 ((encOf front (ver :: fives)).getD p 0) ≠ (encOf front (ver :: fives)).getD p 0 →
    1 < ((List.range (encOf front (ver :: fives)).length).filter fun i => up1 ((encOf front (ver :: fives)).getD i 0) != (encOf front (ver :: fives)).getD i 0).length →
    DecGood ((encOf front (ver :: fives)).take p ++ [up1 ((encOf front (ver :: fives)).getD p 0)] ++ (encOf front (ver :: fives)).drop (p + 1)) none
  upp : DecGood ((encOf front (ver :: fives)).map up1) (some (front, ver :: fives))
  oct : ∀ octs, octetsOf fives = some octs → cbOf 8 5 true (natv octs) = some fives ∧ ∀ c ∈ octs, c < 256
  hup : front.map up1 ≠ front → ∀ five, (∀ d ∈ five, d < 32) → ∃ rU, DecGood (encOf (front.map up1) (ver :: five)) rU ∧ (∀ p, rU = some p → p.2 ≠ []) ∧ decRes (front.map up1) rU = none
end Mine
namespace Mine
section
variable {w : World} {A : Around} {E : Value → Shared → Prop} {s : Shared}
theorem setItem_neg {l : Addr} {items : Array Value} {k : Int} {t : Tok} {v : Value} {Q : Unit → Shared → Prop} (hl : s.heap.IsList l items)
    (h0 : k < 0) (h1 : -(items.size : Int) ≤ k) (hfit : -(2 ^ 63) ≤ k)
    (hQ : ∀ h', h'.IsList l (items.setIfInBounds (k + items.size).toNat v) → Heap.SameBut l s.heap h' → Q () { s with heap := h' }) :
    wpAny (model prg w) A (setItem (.ref l) (.int k t) v) Q E s := by
  obtain ⟨o, ho, hc, ne, hd⟩ := id hl
  unfold setItem
  try with_reducible refine wpAny_holding ?_
  first | refine wpAny_bind (wpAny_pure ?_) | skip
  refine wpAny_bind (wpAny_sequenceKey hl.typeIs (by decide) ?_)
  refine wpAny_bind (wpAny_callSpecial?_slot (name := Str.ofString "__setitem__") hl.typeIs slot_list_setitem
    (wpAny_call_entry slot_list_setitem hl.typeIs entry_list_setitem ?_ (args_list_setitem _ _ _)))
  show wpAny _ _ (Builtin.List.listSubscript? (.int k t) >>= _) _ _ s
  refine wpAny_bind (wpAny_listSubscript_int (fitsIndex_neg h0 hfit) ?_)
  clear hfit
  have hidx := seqIndex_neg h0 h1
  have hlt : (k + items.size).toNat < items.size := by omega
  have hx : items[(k + items.size).toNat]? = some items[(k + items.size).toNat] := Array.getElem?_eq_getElem hlt
  obtain ⟨j, rfl⟩ : ∃ j : Nat, k = Int.negSucc j := by
    cases k with
    | ofNat n => exact absurd h0 (Int.not_lt.mpr (Int.natCast_nonneg n))
    | negSucc n => exact ⟨n, rfl⟩
  show wpAny _ _ ((Builtin.List.listItems (.ref l) >>= fun xs => pure ((seqIndex? (Int.negSucc j) xs.size).bind fun i => xs[i]?.map (i, ·))) >>= _) _ _ s
  refine wpAny_bind (wpAny_bind ?_)
  show wpAny _ _ (seqItems? (.ref l) >>= _) _ _ s
  refine wpAny_bind (wpAny_seqItems ho hd (wpAny_pure (wpAny_pure ?_)))
  rw [hidx]
  simp only [Option.bind_some, hx, Option.map_some]
  show wpAny _ _ (setSeqItemAt l _ v >>= _) _ _ s
  obtain ⟨n', hd'⟩ := Obj.data_mapSeq hd (·.setIfInBounds (Int.negSucc j + items.size).toNat v)
  have hfin : (s.heap.update l (Obj.mapSeq (·.setIfInBounds (Int.negSucc j + items.size).toNat v))).IsList l (items.setIfInBounds (Int.negSucc j + items.size).toNat v) :=
    ⟨_, Heap.get?_update_self _ ho (Obj.isFreed_of_seq hd'), (Obj.cls_mapSeq ..).trans hc, n', hd'⟩
  refine wpAny_bind (wpAny_setSeqItemAt ho hd ?_)
  first
    | exact wpAny_bind (wpAny_pure (wpAny_pure ⟨.none, rfl, wpAny_pure (hQ _ hfin (Heap.SameBut.update ..))⟩))
    | exact wpAny_pure ⟨.none, rfl, wpAny_pure (hQ _ hfin (Heap.SameBut.update ..))⟩
end
section
variable {w : World} {A : Around} {E : Value → Shared → Prop} {hp : Heap} {gs : Array GenState} {dr : Drawn} {tk : Nat} {os : OsState} {h₀ : Heap} {L : Addr} {m : Str → Option Value} {rest : List (Addr × Obj)}
theorem change_at {l : Addr} {o o' : Obj} {h' : Heap} (F : Fr h₀ L hp m) (N : News h₀ L hp ((l, o) :: rest)) (hne : ∀ p ∈ rest, p.1 ≠ l) (hs : Heap.SameBut l hp h') (ho : h'.get? l = some o') : Fr h₀ L h' m ∧ News h₀ L h' ((l, o') :: rest) :=
  ⟨F.change hs (N _ (.head _)).2.1 (N _ (.head _)).2.2, News.setAt (own := []) N (fun p hp => nomatch hp) hne hs ho⟩
theorem fresh_ne {D : Addr} {news : List (Addr × Obj)} (N : News h₀ L hp news) (hD : hp.get? D = none) : ∀ p ∈ news, p.1 ≠ D := fun p hp e => by
  have := (N p hp).1
  rw [e, hD] at this; cases this
theorem mulOk_small {a b : Nat} (hb : b ≤ 1000000) : IntMulOk (a : Int) (b : Int) := IntMulOk.of_right (intBits_le_64 (by omega) (by omega))
theorem listO {h : Heap} {l : Addr} {xs : List Value} (hl : h.IsList l xs.toArray) : ∃ d n sl, h.get? l = some (lobj d xs n sl) := by
  obtain ⟨o, ho, hc, n, hd⟩ := hl
  obtain ⟨cc, dd, da, ss⟩ := o
  cases hc
  cases hd
  exact ⟨dd, n, ss, ho⟩
theorem set_last {l : Addr} {d : Option Addr} {vs : List Value} {c : Nat} {sl : Array (Option Value)} {ns : List Nat} {x : Nat} {t u : Tok} {Q : Unit → Shared → Prop} (F : Fr h₀ L hp m) (N : News h₀ L hp ((l, lobj d vs c sl) :: rest)) (hne : ∀ p ∈ rest, p.1 ≠ l) (hI : IntsAre vs (natv ns)) (h0 : 0 < ns.length)
    (h : ∀ h' d' vs' c' sl', Fr h₀ L h' m → News h₀ L h' ((l, lobj d' vs' c' sl') :: rest) → IntsAre vs' (natv (ns.set (ns.length - 1) x)) → Q () ⟨h', gs, dr, tk, os⟩) :
    wpAny (model prg w) A (setItem (.ref l) (.int (-((1 : Nat) : Int)) t) (.int (x : Int) u)) Q E ⟨hp, gs, dr, tk, os⟩ := by
  have hlen : vs.length = ns.length := by have := hI.length; rw [natv_length] at this; omega
  have e1 : (-((1 : Nat) : Int) + ((vs.toArray.size : Nat) : Int)).toNat = ns.length - 1 := by rw [List.size_toArray, hlen]; omega
  refine setItem_neg (News.isList N (.head _)) (by decide) (by rw [List.size_toArray, hlen]; omega) (by decide) fun h' hl hs => ?_
  rw [e1] at hl
  have e2 : vs.toArray.setIfInBounds (ns.length - 1) (Value.int (x : Int) u) = (vs.set (ns.length - 1) (.int (x : Int) u)).toArray := by
    apply Array.toList_inj.mp; simp
  rw [e2] at hl
  obtain ⟨d', c', sl', ho⟩ := listO hl
  obtain ⟨F', N'⟩ := change_at F N hne hs ho
  refine h h' d' _ c' sl' F' N' ?_
  have := ints_set (x := (x : Int)) (u := u) hI (ns.length - 1)
  rw [show natv (ns.set (ns.length - 1) x) = (natv ns).set (ns.length - 1) (x : Int) by simp [natv, List.map_set]]
  exact this
theorem set_any {l : Addr} {d : Option Addr} {vs : List Value} {c : Nat} {sl : Array (Option Value)} {k : Nat} {t : Tok} {v : Value} {Q : Unit → Shared → Prop} (F : Fr h₀ L hp m) (N : News h₀ L hp ((l, lobj d vs c sl) :: rest)) (hne : ∀ p ∈ rest, p.1 ≠ l) (h0 : k < vs.length) (hk : k < 1000)
    (h : ∀ h' d' vs' c' sl', Fr h₀ L h' m → News h₀ L h' ((l, lobj d' vs' c' sl') :: rest) → vs'.length = vs.length → Q () ⟨h', gs, dr, tk, os⟩) :
    wpAny (model prg w) A (setItem (.ref l) (.int (k : Int) t) v) Q E ⟨hp, gs, dr, tk, os⟩ := by
  refine wpAny_setItem_list (News.isList N (.head _)) (by omega) (by omega) (by rw [List.size_toArray]; omega) fun h' hl hs => ?_
  have e2 : vs.toArray.setIfInBounds ((k : Int).toNat) v = (vs.set k v).toArray := by
    apply Array.toList_inj.mp; simp
  rw [e2] at hl
  obtain ⟨d', c', sl', ho⟩ := listO hl
  obtain ⟨F', N'⟩ := change_at F N hne hs ho
  exact h h' d' _ c' sl' F' N' (List.length_set ..)
theorem append_any {l : Addr} {d : Option Addr} {vs : List Value} {c : Nat} {sl : Array (Option Value)} {x : Value} {Q : Value → Shared → Prop} (F : Fr h₀ L hp m) (N : News h₀ L hp ((l, lobj d vs c sl) :: rest)) (hne : ∀ p ∈ rest, p.1 ≠ l) (hsz : vs.length ≤ 1000000)
    (h : ∀ h' d' vs' c' sl', Fr h₀ L h' m → News h₀ L h' ((l, lobj d' vs' c' sl') :: rest) → Q .none ⟨h', gs, dr, tk, os⟩) :
    wpAny (model prg w) A (call (.builtin "list.append") [.ref l, x]) Q E ⟨hp, gs, dr, tk, os⟩ := by
  refine wpAny_list_append (News.isList N (.head _)) (fun h' hl hs => ?_) (by rw [List.size_toArray, show sizeLine = 2 ^ 24 from rfl]; omega)
  have e2 : vs.toArray.push x = (vs ++ [x]).toArray := by simp
  rw [e2] at hl
  obtain ⟨d', c', sl', ho⟩ := listO hl
  obtain ⟨F', N'⟩ := change_at F N hne hs ho
  exact h h' d' _ c' sl' F' N'
end
end Mine
namespace Mine
def GotL (nd : Bool) (as : List Addr) (v : Value) (gl : List (Addr × Obj)) : Option (Nat × List Nat) → Prop
  | none => ∃ t d n sl, v = .ref t ∧ gl = [(t, tobj d #[.none, .none] n sl)]
  | some p => ∃ t tv l vs d n sl d2 n2 sl2, v = .ref t ∧ gl = [(t, tobj d #[.int (p.1 : Int) tv, .ref l] n sl), (l, lobj d2 vs n2 sl2)] ∧ (nd = true → d2 = none) ∧ IntsAre vs (natv p.2) ∧ (∀ a ∈ as, a ≠ l) ∧ t ≠ l
section
variable {h₀ H H' : Heap} {L : Addr} {m : Str → Option Value} {led led' gl news : List (Addr × Obj)} {v : Value} {r : Option (Nat × List Nat)} {nd : Bool} {as : List Addr}
theorem News.app (N : News h₀ L H led) (N' : News h₀ L H led') : News h₀ L H (led ++ led') := fun p hp => (List.mem_append.mp hp).elim (N p) (N' p)
theorem gotL_of {gs gs' : Array GenState} {dr dr' : Drawn} {tk tk' : Nat} {os os' : OsState} (hg : PairRes ⟨H, gs, dr, tk, os⟩ ⟨H', gs', dr', tk', os'⟩ v r) (F : Fr h₀ L H m) (N : News h₀ L H led) (N' : News h₀ L H' led') (hnd : nd = true → NDres H' v) :
    ∃ gl, GotL nd (led.map (·.1)) v gl r ∧ News h₀ L H' (led' ++ gl) := by
  cases r with
  | none =>
    obtain ⟨t, rfl, ht, hf⟩ := hg
    obtain ⟨d, n, sl, N2⟩ := news_tupL F N' ht hf
    exact ⟨[(t, tobj d _ n sl)], ⟨t, d, n, sl, rfl, rfl⟩, News.app N' fun p hp => N2 p (by rw [List.mem_singleton.mp hp]; exact .head _)⟩
  | some p =>
    obtain ⟨t, tv, l, vs, rfl, ht, hl, hI, hf, hfl⟩ := hg
    obtain ⟨d, n, sl, N2⟩ := news_tupL F N' ht hf
    obtain ⟨d2, n2, sl2, N3⟩ := news_listL F N' hl hfl (ns_there F.ns)
    refine ⟨[(t, tobj d _ n sl), (l, lobj d2 vs n2 sl2)], ⟨t, tv, l, vs, d, n, sl, d2, n2, sl2, rfl, rfl, fun h => (hnd h t _ l rfl ht).of (N3 _ (.head _)).1, hI, fun a ha => ?_, fun e => ?_⟩, News.app N' fun p hp => ?_⟩
    · obtain ⟨q, hq, rfl⟩ := List.mem_map.mp ha
      exact fresh_ne N hfl q hq
    · subst e
      have h1 := (N2 _ (.head _)).1
      rw [(N3 _ (.head _)).1] at h1
      have h2 := congrArg Obj.cls (Option.some.inj h1)
      simp at h2
    · rcases List.mem_cons.mp hp with rfl | hp
      · exact N2 _ (.head _)
      · rw [List.mem_singleton.mp hp]; exact N3 _ (.head _)
theorem GotL.at (h : GotL nd as v gl r) (N : News h₀ L H news) (hs : ∀ p ∈ gl, p ∈ news) : PairAt H v r := by
  cases r with
  | none =>
    obtain ⟨t, d, n, sl, rfl, rfl⟩ := h
    exact ⟨t, rfl, News.isTup N (hs _ (.head _))⟩
  | some p =>
    obtain ⟨t, tv, l, vs, d, n, sl, d2, n2, sl2, rfl, rfl, _, hI, _, _⟩ := h
    exact ⟨t, tv, l, vs, rfl, News.isTup N (hs _ (.head _)), News.isList N (hs _ (.tail _ (.head _))), hI⟩
theorem GotL.nofields (h : GotL nd as v gl r) : ∀ p ∈ gl, ∀ fs, p.2.data ≠ .fields fs := by
  cases r with
  | none =>
    obtain ⟨t, d, n, sl, rfl, rfl⟩ := h
    intro p hp fs e
    rw [List.mem_singleton.mp hp] at e; cases e
  | some p =>
    obtain ⟨t, tv, l, vs, d, n, sl, d2, n2, sl2, rfl, rfl, _, hI, _, _⟩ := h
    intro p hp fs e
    rcases List.mem_cons.mp hp with rfl | hp
    · cases e
    · rw [List.mem_singleton.mp hp] at e; cases e
end
section
variable {w : World} {A : Around} {E : Value → Shared → Prop} {s : Shared}
theorem setItem_ex {l : Addr} {o : Obj} {items : Array Value} {ne : Nat} {k : Int} {t : Tok} {v : Value} {Q : Unit → Shared → Prop} (ho : s.heap.get? l = some o) (hc : o.cls = .type "list") (hd : o.data = .seq items ne)
    (h0 : 0 ≤ k) (hfit : k < 2 ^ 63) (hn : k < items.size)
    (hQ : Q () { s with heap := s.heap.update l (Obj.mapSeq (·.setIfInBounds k.toNat v)) }) :
    wpAny (model prg w) A (setItem (.ref l) (.int k t) v) Q E s := by
  have hl : s.heap.IsList l items := ⟨o, ho, hc, ne, hd⟩
  unfold setItem
  try with_reducible refine wpAny_holding ?_
  first | refine wpAny_bind (wpAny_pure ?_) | skip
  refine wpAny_bind (wpAny_sequenceKey hl.typeIs (by decide) ?_)
  refine wpAny_bind (wpAny_callSpecial?_slot (name := Str.ofString "__setitem__") hl.typeIs slot_list_setitem
    (wpAny_call_entry slot_list_setitem hl.typeIs entry_list_setitem ?_ (args_list_setitem _ _ _)))
  show wpAny _ _ (Builtin.List.listSubscript? (.int k t) >>= _) _ _ s
  refine wpAny_bind (wpAny_listSubscript_int (fitsIndex_of h0 hfit) ?_)
  clear hfit
  obtain ⟨j, rfl⟩ := Int.eq_ofNat_of_zero_le h0
  have hj : j < items.size := by omega
  have hx' : items[j]? = some items[j] := Array.getElem?_eq_getElem hj
  show wpAny _ _ ((seqItemAt l j >>= fun r => pure (r.map (j, ·))) >>= _) _ _ s
  refine wpAny_bind (wpAny_bind (wpAny_seqItemAt ho hd (wpAny_pure ?_)))
  rw [hx']
  show wpAny _ _ (setSeqItemAt l j v >>= _) _ _ s
  refine wpAny_bind (wpAny_setSeqItemAt ho hd ?_)
  first
    | exact wpAny_bind (wpAny_pure (wpAny_pure ⟨.none, rfl, wpAny_pure hQ⟩))
    | exact wpAny_pure ⟨.none, rfl, wpAny_pure hQ⟩
end
section
variable {w : World} {A : Around} {E : Value → Shared → Prop} {hp : Heap} {gs : Array GenState} {dr : Drawn} {tk : Nat} {os : OsState} {h₀ : Heap} {L : Addr} {m : Str → Option Value} {rest : List (Addr × Obj)}
theorem mapSeq_lobj {d : Option Addr} {vs : List Value} {c : Nat} {sl : Array (Option Value)} (f : Array Value → Array Value) : ∃ c', Obj.mapSeq f (lobj d vs c sl) = lobj d (f vs.toArray).toList c' sl := by
  obtain ⟨n', hd'⟩ := Obj.data_mapSeq (o := lobj d vs c sl) rfl f
  refine ⟨n', ?_⟩
  have h1 : (Obj.mapSeq f (lobj d vs c sl)).cls = .type "list" := Obj.cls_mapSeq ..
  have h2 : (Obj.mapSeq f (lobj d vs c sl)).dict = d := by unfold Obj.mapSeq; rfl
  have h3 : (Obj.mapSeq f (lobj d vs c sl)).slots = sl := by unfold Obj.mapSeq; rfl
  generalize Obj.mapSeq f (lobj d vs c sl) = o at *
  obtain ⟨a, b, e, g⟩ := o
  simp only at h1 h2 h3 hd'
  subst h1 h2 h3 hd'
  simp [lobj]
theorem set_keep {l : Addr} {d : Option Addr} {vs : List Value} {c : Nat} {sl : Array (Option Value)} {k : Nat} {t : Tok} {v : Value} {Q : Unit → Shared → Prop} (F : Fr h₀ L hp m) (N : News h₀ L hp ((l, lobj d vs c sl) :: rest)) (hne : ∀ p ∈ rest, p.1 ≠ l) (h0 : k < vs.length) (hk : k < 1000)
    (h : ∀ h' vs' c', Fr h₀ L h' m → News h₀ L h' ((l, lobj d vs' c' sl) :: rest) → vs'.length = vs.length → Q () ⟨h', gs, dr, tk, os⟩) :
    wpAny (model prg w) A (setItem (.ref l) (.int (k : Int) t) v) Q E ⟨hp, gs, dr, tk, os⟩ := by
  have hget := (N _ (.head _)).1
  refine setItem_ex (s := ⟨hp, gs, dr, tk, os⟩) hget rfl rfl (by omega) (by omega) (by rw [List.size_toArray]; omega) ?_
  obtain ⟨n', hd'⟩ := Obj.data_mapSeq (o := lobj d vs c sl) rfl (·.setIfInBounds ((k : Int).toNat) v)
  have hup := Heap.get?_update_self (h := hp) (Obj.mapSeq (·.setIfInBounds ((k : Int).toNat) v)) hget (Obj.isFreed_of_seq hd')
  obtain ⟨c', e⟩ := mapSeq_lobj (d := d) (vs := vs) (c := c) (sl := sl) (·.setIfInBounds ((k : Int).toNat) v)
  rw [e] at hup
  obtain ⟨F', N'⟩ := change_at F N hne (Heap.SameBut.update ..) hup
  exact h _ _ c' F' N' (by simp)
end
end Mine
namespace Mine
/- the checksum: linear, so that its own digits bring it to one -/
def gx (top i : Nat) : Nat := if (top / 2 ^ i) &&& 1 ≠ 0 then gens5.getD i 0 else 0
def gtop (top : Nat) : Nat := gx top 0 ^^^ gx top 1 ^^^ gx top 2 ^^^ gx top 3 ^^^ gx top 4
theorem pmStep_eq (c v : Nat) : pmStep c v = (c % 2 ^ 25 * 2 ^ 5) ^^^ v ^^^ gtop (c / 2 ^ 25) := by
  have h : (33554431 : Nat) = 2 ^ 25 - 1 := by decide
  unfold pmStep
  rw [h, Nat.and_two_pow_sub_one_eq_mod, show List.range 5 = [0, 1, 2, 3, 4] from rfl]
  simp only [List.foldl_cons, List.foldl_nil, pmIn, gtop, gx, Nat.xor_assoc]
theorem gtop_zero : gtop 0 = 0 := by decide
theorem gtop_xor : ∀ a < 32, ∀ b < 32, gtop (a ^^^ b) = gtop a ^^^ gtop b := by decide +kernel
theorem gtop_lt : ∀ a < 32, gtop a < 2 ^ 30 := by decide +kernel
theorem xor_lt {a b n : Nat} (ha : a < 2 ^ n) (hb : b < 2 ^ n) : a ^^^ b < 2 ^ n := Nat.xor_lt_two_pow ha hb
theorem pmStep_lt {c v : Nat} (hc : c < 2 ^ 30) (hv : v < 2 ^ 30) : pmStep c v < 2 ^ 30 := by
  rw [pmStep_eq]
  refine xor_lt (xor_lt ?_ hv) (gtop_lt _ (by omega))
  have : c % 2 ^ 25 < 2 ^ 25 := Nat.mod_lt _ (by decide)
  omega
theorem shift_xor (a b : Nat) : (a ^^^ b) * 2 ^ 5 = a * 2 ^ 5 ^^^ b * 2 ^ 5 := by
  rw [← Nat.shiftLeft_eq, ← Nat.shiftLeft_eq, ← Nat.shiftLeft_eq, Nat.shiftLeft_xor_distrib]
theorem pmStep_lin {c d v : Nat} (hc : c < 2 ^ 30) (hd : d < 2 ^ 30) : pmStep (c ^^^ d) v = pmStep c 0 ^^^ pmStep d 0 ^^^ v := by
  rw [pmStep_eq, pmStep_eq, pmStep_eq, Nat.xor_mod_two_pow, shift_xor, Nat.xor_div_two_pow, gtop_xor _ (by omega) _ (by omega)]
  simp only [Nat.xor_zero]
  generalize c % 2 ^ 25 * 2 ^ 5 = a
  generalize d % 2 ^ 25 * 2 ^ 5 = b
  generalize gtop (c / 2 ^ 25) = e
  generalize gtop (d / 2 ^ 25) = f
  ac_rfl
theorem pmStep_small {d : Nat} (h : d < 2 ^ 25) : pmStep d 0 = d * 2 ^ 5 := by
  rw [pmStep_eq, Nat.mod_eq_of_lt h, Nat.div_eq_of_lt h, gtop_zero, Nat.xor_zero, Nat.xor_zero]
def zs (k : Nat) : List Nat := List.replicate k 0
theorem fold_zero_lt {c : Nat} (hc : c < 2 ^ 30) : ∀ k, (zs k).foldl pmStep c < 2 ^ 30
  | 0 => hc
  | k + 1 => by
    show (List.replicate (k + 1) 0).foldl pmStep c < 2 ^ 30
    rw [List.replicate_succ', List.foldl_append]
    exact pmStep_lt (fold_zero_lt hc k) (by decide)
/-- the state after k digits of P -/
theorem digits {c P : Nat} (hc : c < 2 ^ 30) (hP : P < 2 ^ 30) : ∀ k, k ≤ 6 →
    ((List.range k).map fun i => (P / 2 ^ (5 * (5 - i))) &&& 31).foldl pmStep c = (zs k).foldl pmStep c ^^^ P / 2 ^ (30 - 5 * k)
  | 0, _ => by
    show c = c ^^^ P / 2 ^ 30
    rw [Nat.div_eq_of_lt hP, Nat.xor_zero]
  | k + 1, hk => by
    have ih := digits hc hP k (by omega)
    have hz : (zs (k + 1)).foldl pmStep c = pmStep ((zs k).foldl pmStep c) 0 := by
      show (List.replicate (k + 1) 0).foldl pmStep c = _
      rw [List.replicate_succ', List.foldl_append]; rfl
    rw [List.range_succ, List.map_append, List.foldl_append, ih, hz]
    simp only [List.map_cons, List.map_nil, List.foldl_cons, List.foldl_nil]
    have hq : P / 2 ^ (30 - 5 * k) < 2 ^ 25 := by
      rw [Nat.div_lt_iff_lt_mul (Nat.two_pow_pos _), ← Nat.pow_add]
      exact Nat.lt_of_lt_of_le hP (Nat.pow_le_pow_right (by decide) (by omega))
    rw [pmStep_lin (fold_zero_lt hc k) (Nat.lt_of_lt_of_le hq (by decide)), pmStep_small hq, Nat.xor_assoc]
    congr 1
    have h31 : (31 : Nat) = 2 ^ 5 - 1 := by decide
    rw [h31, Nat.and_two_pow_sub_one_eq_mod]
    have e1 : 30 - 5 * k = 5 * (5 - k) + 5 := by omega
    have e2 : 30 - 5 * (k + 1) = 5 * (5 - k) := by omega
    rw [e1, e2, Nat.pow_add, ← Nat.div_div_eq_div_mul]
    generalize P / 2 ^ (5 * (5 - k)) = q
    have hlt : q % 2 ^ 5 < 2 ^ 5 := Nat.mod_lt _ (by decide)
    rw [Nat.mul_comm]
    have h1 := Nat.two_pow_add_eq_or_of_lt hlt (q / 2 ^ 5)
    have h2 := or_and_nat (2 ^ 5 * (q / 2 ^ 5)) (q % 2 ^ 5)
    have h3 := xor_and_nat (2 ^ 5 * (q / 2 ^ 5)) (q % 2 ^ 5)
    have h4 := Nat.div_add_mod q (2 ^ 5)
    omega
theorem pm_lt {vs : List Nat} (h : ∀ v ∈ vs, v < 2 ^ 30) : pm vs < 2 ^ 30 := by
  unfold pm
  have key : ∀ (vs : List Nat) (c : Nat), c < 2 ^ 30 → (∀ v ∈ vs, v < 2 ^ 30) → vs.foldl pmStep c < 2 ^ 30 := by
    intro vs
    induction vs with
    | nil => intro c hc _; exact hc
    | cons a r ih => intro c hc hv; exact ih _ (pmStep_lt hc (hv a (.head _))) fun v hv' => hv v (.tail _ hv')
  exact key vs 1 (by decide) h
theorem checksum {y ns : List Nat} (h : ∀ v ∈ hrpx y ++ ns, v < 2 ^ 30) : pm (hrpx y ++ ns ++ chkOf y ns) = 1 := by
  have hc : pm (hrpx y ++ ns) < 2 ^ 30 := pm_lt h
  have hz : pm (hrpx y ++ ns ++ [0, 0, 0, 0, 0, 0]) = (zs 6).foldl pmStep (pm (hrpx y ++ ns)) := by
    unfold pm; rw [List.foldl_append]; rfl
  have hZ := fold_zero_lt hc 6
  have hP : pm (hrpx y ++ ns ++ [0, 0, 0, 0, 0, 0]) ^^^ 1 < 2 ^ 30 := xor_lt (hz ▸ hZ) (by decide)
  have hd := digits hc hP 6 (Nat.le_refl _)
  have : pm (hrpx y ++ ns ++ chkOf y ns) = (chkOf y ns).foldl pmStep (pm (hrpx y ++ ns)) := by unfold pm; rw [List.foldl_append]
  rw [this]
  refine Eq.trans hd ?_
  rw [← hz, show 30 - 5 * 6 = 0 from rfl, Nat.pow_zero, Nat.div_one, ← Nat.xor_assoc, Nat.xor_self, Nat.zero_xor]
end Mine
namespace Mine
/- fives and octets: the same bits -/
def dg (ns : List Nat) (i : Nat) : Nat := ns.getD i 0
def NN (ns : List Nat) : Nat → Nat
  | 0 => 0
  | m + 1 => NN ns m * 32 + dg ns m
theorem dg_lt {ns : List Nat} (h : ∀ d ∈ ns, d < 32) (i : Nat) : dg ns i < 32 := by
  unfold dg
  rw [List.getD_eq_getElem?_getD]
  cases e : ns[i]? with
  | none => decide
  | some x => exact h x (List.mem_of_getElem? e)
theorem num_take (ns : List Nat) : ∀ m, m ≤ ns.length → num 5 (ns.take m) = NN ns m
  | 0, _ => rfl
  | m + 1, h => by
    have hm : m < ns.length := h
    have ih := num_take ns m (by omega)
    rw [List.take_add_one, List.getElem?_eq_getElem hm, Option.toList_some, num_snoc, ih]
    show _ = NN ns m * 32 + dg ns m
    unfold dg
    rw [List.getD_eq_getElem?_getD, List.getElem?_eq_getElem hm]; rfl
theorem num_NN (ns : List Nat) : num 5 ns = NN ns ns.length := by
  have := num_take ns ns.length (Nat.le_refl _)
  rwa [List.take_length] at this
theorem NN_step {ns : List Nat} (h : ∀ d ∈ ns, d < 32) (m : Nat) : NN ns (m + 1) / 32 = NN ns m := by
  have := dg_lt h m
  show (NN ns m * 32 + dg ns m) / 32 = _
  omega
theorem top_one {ns : List Nat} (h : ∀ d ∈ ns, d < 32) {m b : Nat} (hb : b ≤ 5 * m) : NN ns (m + 1) / 2 ^ (5 * (m + 1) - b) = NN ns m / 2 ^ (5 * m - b) := by
  have e : 5 * (m + 1) - b = 5 + (5 * m - b) := by omega
  rw [e, Nat.pow_add, ← Nat.div_div_eq_div_mul, show (2 : Nat) ^ 5 = 32 from rfl, NN_step h]
theorem top_more {ns : List Nat} (h : ∀ d ∈ ns, d < 32) {m b : Nat} (hb : b ≤ 5 * m) : ∀ k, NN ns (m + k) / 2 ^ (5 * (m + k) - b) = NN ns m / 2 ^ (5 * m - b)
  | 0 => rfl
  | k + 1 => by rw [← Nat.add_assoc, top_one h (by omega)]; exact top_more h hb k
theorem top_same {ns : List Nat} (h : ∀ d ∈ ns, d < 32) {m m' b : Nat} (hb : b ≤ 5 * m) (hb' : b ≤ 5 * m') : NN ns m / 2 ^ (5 * m - b) = NN ns m' / 2 ^ (5 * m' - b) := by
  rcases Nat.le_total m m' with q | q
  · obtain ⟨k, rfl⟩ := Nat.le.dest q; exact (top_more h hb k).symm
  · obtain ⟨k, rfl⟩ := Nat.le.dest q; exact top_more h hb' k
theorem twos_pow : ∀ j < 8, twos.getD j 0 = 2 ^ j := by decide
theorem get_or (ns : List Nat) (i : Nat) : (if i < ns.length then ns.getD i 0 else 0) = dg ns i := by
  unfold dg
  split
  · rfl
  · rw [List.getD_eq_getElem?_getD, List.getElem?_eq_none (by omega)]; rfl
theorem wide_eq (ns : List Nat) (p : Nat) : wideOf ns p = dg ns p * 1024 + dg ns (p + 1) * 32 + dg ns (p + 2) := by
  unfold wideOf
  rw [show List.range 3 = [0, 1, 2] from rfl]
  simp only [List.foldl_cons, List.foldl_nil, get_or, Nat.add_zero]
  omega
theorem NN_lt {ns : List Nat} (h : ∀ d ∈ ns, d < 32) : ∀ m, NN ns m < 2 ^ (5 * m)
  | 0 => by show 0 < 2 ^ 0; decide
  | m + 1 => by
    have ih := NN_lt h m
    have := dg_lt h m
    rw [show 5 * (m + 1) = 5 * m + 5 from by omega, Nat.pow_add]
    show NN ns m * 32 + dg ns m < _
    omega
theorem window_eq {ns : List Nat} (h : ∀ d ∈ ns, d < 32) {j : Nat} (hj : 8 * j + 8 ≤ 5 * ns.length) : windowOf ns (8 * j) = num 5 ns / 2 ^ (5 * ns.length - (j + 1) * 8) % 2 ^ 8 := by
  have hs : 8 * j % 5 < 5 := Nat.mod_lt _ (by decide)
  have hp : 8 * j = 5 * (8 * j / 5) + 8 * j % 5 := (Nat.div_add_mod _ _).symm
  unfold windowOf
  rw [wide_eq, twos_pow _ (by omega), num_NN, show (j + 1) * 8 = 8 * j + 8 from by omega, top_same h hj (m' := 8 * j / 5 + 3) (by omega)]
  have e : 5 * (8 * j / 5 + 3) - (8 * j + 8) = 7 - 8 * j % 5 := by omega
  rw [e]
  generalize 8 * j / 5 = p at *
  generalize 8 * j % 5 = s at *
  show _ = (((NN ns p * 32 + dg ns p) * 32 + dg ns (p + 1)) * 32 + dg ns (p + 2)) / 2 ^ (7 - s) % 2 ^ 8
  have e2 : ((NN ns p * 32 + dg ns p) * 32 + dg ns (p + 1)) * 32 + dg ns (p + 2) = (dg ns p * 1024 + dg ns (p + 1) * 32 + dg ns (p + 2)) + 2 ^ (7 - s) * (2 ^ 8 * (2 ^ s * NN ns p)) := by
    have : (2 : Nat) ^ (7 - s) * (2 ^ 8 * (2 ^ s * NN ns p)) = 2 ^ 15 * NN ns p := by
      rw [← Nat.mul_assoc, ← Nat.mul_assoc, ← Nat.pow_add, ← Nat.pow_add]
      congr 2; omega
    rw [this]; omega
  rw [e2, Nat.add_mul_div_left _ _ (Nat.two_pow_pos _), Nat.add_mul_mod_self_left]
theorem last_eq {ns : List Nat} (h : ∀ d ∈ ns, d < 32) (h0 : 0 < ns.length) : num 5 ns % 32 = ns.getLastD 0 := by
  rw [num_NN]
  obtain ⟨n, hn⟩ : ∃ n, ns.length = n + 1 := ⟨ns.length - 1, by omega⟩
  rw [hn]
  show (NN ns n * 32 + dg ns n) % 32 = _
  have h1 := dg_lt h n
  have h2 : ns.getLastD 0 = dg ns n := by
    unfold dg
    rw [List.getLastD_eq_getLast?, List.getLast?_eq_getElem?, List.getD_eq_getElem?_getD, hn, Nat.add_sub_cancel]
  rw [h2]; omega
theorem rest_iff {V rest : Nat} (hr : rest < 5) : V * 2 ^ (8 - rest) % 2 ^ 8 ≠ 0 ↔ (0 < rest ∧ 0 < V % 32 % 2 ^ rest) := by
  have e : (2 : Nat) ^ 8 = 2 ^ rest * 2 ^ (8 - rest) := by rw [← Nat.pow_add]; congr 1; omega
  rw [e, Nat.mul_mod_mul_right]
  have hp : 0 < 2 ^ (8 - rest) := Nat.two_pow_pos _
  have h32 : V % 32 % 2 ^ rest = V % 2 ^ rest := mod_mod_pow (a := 5) (by omega)
  rw [h32]
  constructor
  · intro h
    have h1 : V % 2 ^ rest ≠ 0 := fun q => h (by rw [q, Nat.zero_mul])
    refine ⟨?_, by omega⟩
    rcases Nat.eq_zero_or_pos rest with q | q
    · subst q; simp [Nat.mod_one] at h1
    · exact q
  · rintro ⟨_, h⟩ q
    rcases Nat.mul_eq_zero.mp q with q | q <;> omega
theorem natv_ok {fb : Nat} {ns : List Nat} (h : ∀ d ∈ ns, d < 2 ^ fb) : ∀ k ∈ natv ns, okFb fb k := by
  intro k hk
  obtain ⟨d, hd, rfl⟩ := List.mem_map.mp hk
  have := h d hd
  exact ⟨by omega, by omega⟩
theorem natv_toNat (ns : List Nat) : (natv ns).map Int.toNat = ns := by simp [natv, Function.comp_def]
theorem cb_octets {ns : List Nat} (h : ∀ d ∈ ns, d < 32) : cbOf 5 8 false (natv ns) = octetsOf ns := by
  rw [cbOf_good (natv_ok h), natv_toNat]
  unfold cbFin octetsOf
  simp only [Bool.false_eq_true, if_false]
  have hT : ns.length * 5 = 5 * ns.length := Nat.mul_comm _ _
  rw [hT]
  by_cases h5 : 5 ≤ 5 * ns.length % 8
  · rw [if_pos (.inl h5), if_pos (.inl h5)]
  · have h5' : 5 * ns.length % 8 < 5 := by omega
    have hiff : (5 * ns.length % 8 > 0 ∧ ns.getLastD 0 % twos.getD (5 * ns.length % 8) 0 > 0) ↔ num 5 ns * 2 ^ (8 - 5 * ns.length % 8) % 2 ^ 8 ≠ 0 := by
      rw [rest_iff h5', twos_pow _ (by omega)]
      constructor
      · rintro ⟨a, b⟩; rw [last_eq h (by omega)]; exact ⟨a, b⟩
      · rintro ⟨a, b⟩; rw [last_eq h (by omega)] at b; exact ⟨a, b⟩
    by_cases hr : num 5 ns * 2 ^ (8 - 5 * ns.length % 8) % 2 ^ 8 ≠ 0
    · rw [if_pos (.inr hr), if_pos (.inr (hiff.mpr hr))]
    · rw [if_neg (by rintro (q | q); exact h5 q; exact hr q), if_neg (by rintro (q | q); exact h5 q; exact hr (hiff.mp q))]
      congr 1
      unfold cbPart
      refine List.map_congr_left fun j hj => ?_
      have hj := List.mem_range.mp hj
      exact (window_eq h (by omega)).symm
/- back -/
theorem part_self {ns : List Nat} (h : ∀ d ∈ ns, d < 32) : cbPart 5 (num 5 ns) (5 * ns.length) ns.length = ns := by
  apply List.ext_getElem
  · rw [cbPart_length]
  · intro i h1 h2
    have hi : i < ns.length := h2
    have e : (cbPart 5 (num 5 ns) (5 * ns.length) ns.length)[i] = num 5 ns / 2 ^ (5 * ns.length - (i + 1) * 5) % 2 ^ 5 := by
      simp [cbPart]
    rw [e, num_NN, show (i + 1) * 5 = 5 * (i + 1) from by omega, top_same h (m' := i + 1) (by omega) (by omega), Nat.sub_self, Nat.pow_zero, Nat.div_one]
    show (NN ns i * 32 + dg ns i) % 32 = _
    have h3 := dg_lt h i
    have h4 : dg ns i = ns[i] := by unfold dg; rw [List.getD_eq_getElem?_getD, List.getElem?_eq_getElem hi]; rfl
    omega
theorem num_part {V T : Nat} (hV : V < 2 ^ T) : ∀ r, r * 8 ≤ T → num 8 (cbPart 8 V T r) = V / 2 ^ (T - r * 8)
  | 0, _ => by
    show 0 = V / 2 ^ (T - 0 * 8)
    rw [Nat.zero_mul, Nat.sub_zero, Nat.div_eq_of_lt hV]
  | r + 1, h => by
    rw [cbPart_snoc, num_snoc, num_part hV r (by omega)]
    have e : T - r * 8 = (T - (r + 1) * 8) + 8 := by omega
    rw [e, Nat.pow_add, ← Nat.div_div_eq_div_mul]
    exact Nat.div_add_mod' _ _
theorem cb_back {ns octs : List Nat} (h : ∀ d ∈ ns, d < 32) (ho : octetsOf ns = some octs) : cbOf 8 5 true (natv octs) = some ns ∧ ∀ c ∈ octs, c < 256 := by
  rw [← cb_octets h, cbOf_good (natv_ok h), natv_toNat] at ho
  unfold cbFin at ho
  simp only [Bool.false_eq_true, if_false] at ho
  have hT : ns.length * 5 = 5 * ns.length := Nat.mul_comm _ _
  rw [hT] at ho
  split at ho
  · cases ho
  · rename_i hc
    cases ho
    have hr5 : 5 * ns.length % 8 < 5 := by
      rcases Nat.lt_or_ge (5 * ns.length % 8) 5 with q | q
      · exact q
      · exact absurd (.inl q) hc
    have hz : num 5 ns * 2 ^ (8 - 5 * ns.length % 8) % 2 ^ 8 = 0 := Classical.byContradiction fun q => hc (.inr q)
    have h256 : ∀ c ∈ cbPart 8 (num 5 ns) (5 * ns.length) (5 * ns.length / 8), c < 256 := fun c hc => by
      obtain ⟨j, _, rfl⟩ := List.mem_map.mp hc
      exact Nat.mod_lt _ (by decide)
    refine ⟨?_, h256⟩
    have hV : num 5 ns < 2 ^ (5 * ns.length) := by rw [num_NN]; exact NN_lt h _
    have hself := part_self h
    rw [cbOf_good (natv_ok h256), natv_toNat]
    unfold cbFin
    simp only [if_true, cbPart_length]
    rw [num_part hV _ (by omega)]
    have hdm : 5 * ns.length = 8 * (5 * ns.length / 8) + 5 * ns.length % 8 := (Nat.div_add_mod _ _).symm
    have e0 : 5 * ns.length - 5 * ns.length / 8 * 8 = 5 * ns.length % 8 := by omega
    rw [e0]
    have hmod : num 5 ns % 2 ^ (5 * ns.length % 8) = 0 := by
      have := (not_congr (rest_iff (V := num 5 ns) hr5)).mp (fun q => q hz)
      rcases Nat.eq_zero_or_pos (5 * ns.length % 8) with q | q
      · rw [q, Nat.pow_zero, Nat.mod_one]
      · have h2 : ¬ 0 < num 5 ns % 32 % 2 ^ (5 * ns.length % 8) := fun z => this ⟨q, z⟩
        rw [show num 5 ns % 32 % 2 ^ (5 * ns.length % 8) = num 5 ns % 2 ^ (5 * ns.length % 8) from mod_mod_pow (a := 5) (by omega)] at h2
        omega
    congr 1
    generalize hrest : 5 * ns.length % 8 = rest at *
    generalize hr : 5 * ns.length / 8 = r at *
    rcases Nat.eq_zero_or_pos rest with q | q
    · subst q
      have e1 : r * 8 = 5 * ns.length := by omega
      rw [e1, if_pos (by omega), Nat.pow_zero, Nat.div_one, show 5 * ns.length / 5 = ns.length by omega]
      exact hself
    · obtain ⟨k, hk⟩ : ∃ k, ns.length = k + 1 := ⟨ns.length - 1, by omega⟩
      have e1 : r * 8 % 5 = 5 - rest := by omega
      have e2 : r * 8 / 5 = k := by omega
      rw [e1, e2, if_neg (by omega), show 5 - (5 - rest) = rest by omega]
      have e3 : num 5 ns / 2 ^ rest * 2 ^ rest = num 5 ns := Nat.div_mul_cancel (Nat.dvd_of_mod_eq_zero hmod)
      rw [e3]
      rw [hk, cbPart_snoc] at hself
      refine Eq.trans ?_ hself
      congr 1
      · unfold cbPart
        refine List.map_congr_left fun j hj => ?_
        have hj := List.mem_range.mp hj
        rw [Nat.div_div_eq_div_mul, ← Nat.pow_add]
        congr 3
        omega
      · rw [show 5 * (k + 1) - (k + 1) * 5 = 0 by omega, Nat.pow_zero, Nat.div_one]
end Mine
namespace Mine
/- what the law needs of its values -/
theorem lo_up (c : Nat) : lo1 (up1 c) = lo1 c := by
  unfold lo1 up1; (repeat' split) <;> omega
theorem up_up (c : Nat) : up1 (up1 c) = up1 c := by
  unfold up1; (repeat' split) <;> omega
theorem cset_low : ∀ d < 32, lo1 (cset.getD d 0) = cset.getD d 0 := by decide
theorem front_low (row : List Nat) : ∀ c ∈ frontOf row, lo1 c = c := by
  have h0 : ∀ c ∈ front0 row, lo1 c = c := by
    intro c hc
    obtain ⟨p, _, rfl⟩ := List.mem_map.mp hc
    unfold lowc lo1
    (repeat' split) <;> omega
  unfold frontOf
  split
  · intro c hc
    rcases List.mem_append.mp hc with hc | hc
    · exact h0 c hc
    · rw [List.mem_singleton.mp hc]; decide
  · exact h0
theorem map_fix {f : Nat → Nat} {l : List Nat} (h : ∀ c ∈ l, f c = c) : l.map f = l := (List.map_congr_left h).trans (List.map_id l)
theorem data_low {ds : List Nat} (h : ∀ d ∈ ds, d < 32) : (ds.map fun d => cset.getD d 0).map lo1 = ds.map fun d => cset.getD d 0 :=
  map_fix fun c hc => by
    obtain ⟨d, hd, rfl⟩ := List.mem_map.mp hc
    exact cset_low d (h d hd)
theorem all32 {y ns : List Nat} (hn : ∀ d ∈ ns, d < 32) : ∀ d ∈ ns ++ chkOf y ns, d < 32 := fun d hd => (List.mem_append.mp hd).elim (hn d) chkOf_lt
theorem enc_form {y ns : List Nat} (h1 : 1 ≤ y.length) (h83 : y.length ≤ 83) (hn : ∀ d ∈ ns, d < 32) : DecForm (encOf y ns) (y.map lo1) (ns ++ chkOf y ns) := by
  refine ⟨?_, by rw [List.length_map]; exact h1, by rw [List.length_map]; exact h83, by rw [List.length_append, chkOf_length]; omega, all32 hn⟩
  unfold encOf
  rw [List.map_append, List.map_append, data_low (all32 hn), List.append_assoc]
  rfl
theorem hrpx_small {y : List Nat} (hy : ∀ c ∈ y, c < 128) : ∀ v ∈ hrpx y, v < 2 ^ 30 := by
  intro v hv
  unfold hrpx at hv
  rcases List.mem_append.mp hv with hv | hv
  · rcases List.mem_append.mp hv with hv | hv
    · obtain ⟨c, hc, rfl⟩ := List.mem_map.mp hv
      have := hy c hc
      omega
    · rw [List.mem_singleton.mp hv]; decide
  · obtain ⟨c, hc, rfl⟩ := List.mem_map.mp hv
    exact Nat.lt_of_le_of_lt Nat.and_le_right (by decide)
theorem take_chk (y ns : List Nat) : (ns ++ chkOf y ns).take ((ns ++ chkOf y ns).length - 6) = ns := by
  rw [List.length_append, chkOf_length, Nat.add_sub_cancel, List.take_append_of_le_length (Nat.le_refl _), List.take_length]
section
variable {row : List Nat} {ver : Nat} {five : List Nat}
theorem pm_one {y ns : List Nat} (hy : ∀ c ∈ y, c < 128) (hn : ∀ d ∈ ns, d < 32) : pm (hrpx y ++ (ns ++ chkOf y ns)) = 1 := by
  rw [← List.append_assoc]
  refine checksum fun v hv => ?_
  rcases List.mem_append.mp hv with hv | hv
  · exact hrpx_small hy v hv
  · have := hn v hv; omega
theorem fact_of {text y ns : List Nat} (hmix : ¬ Mixed text) (hlow : y.map lo1 = y) (htext : text.map lo1 = (encOf y ns).map lo1) (hy : ∀ c ∈ y, c < 128) (h1 : 1 ≤ y.length) (h83 : y.length ≤ 83) (hn : ∀ d ∈ ns, d < 32) :
    DecGood text (some (y, ns)) := by
  have hf := enc_form h1 h83 hn
  rw [hlow] at hf
  refine .inr ⟨hmix, y, ns ++ chkOf y ns, ⟨htext.trans hf.1, hf.2⟩, ?_⟩
  rw [if_pos (pm_one hy hn), take_chk]
theorem enc_low {y ns : List Nat} (hlow : y.map lo1 = y) (h1 : 1 ≤ y.length) (h83 : y.length ≤ 83) (hn : ∀ d ∈ ns, d < 32) : (encOf y ns).map lo1 = encOf y ns := by
  rw [(enc_form h1 h83 hn).1, hlow]
  unfold encOf
  rw [List.append_assoc]; rfl
theorem seg_eq {fives : List Nat} (h : ∀ d ∈ fives, d < 32) (ver : Nat) : segOf (ver :: fives) = programOf ver fives := by
  unfold segOf programOf
  rw [List.tail_cons, cb_octets h]
  cases octetsOf fives with
  | none => rfl
  | some o =>
    dsimp only
    rw [show (ver :: fives).headD 0 = ver from rfl]
    (repeat' split) <;> first | rfl | (exfalso; omega)
theorem get_cut {l : List Nat} {p q x : Nat} (hp : p < l.length) (hq : q < l.length) : (l.take p ++ [x] ++ l.drop (p + 1)).getD q 0 = if q = p then x else l.getD q 0 := by
  simp only [List.getD_eq_getElem?_getD]
  rw [List.getElem?_append, List.getElem?_append]
  simp only [List.length_append, List.length_take, List.length_cons, List.length_nil, Nat.min_eq_left (Nat.le_of_lt hp)]
  rcases Nat.lt_trichotomy q p with h | h | h
  · rw [if_pos (by omega), if_pos h, if_neg (by omega), List.getElem?_take, if_pos h]
  · subst h; rw [if_pos (by omega), if_neg (by omega), if_pos rfl]; simp
  · rw [if_neg (by omega), if_neg (by omega), List.getElem?_drop, show p + 1 + (q - (p + 1)) = q by omega]
theorem map_at {f : Nat → Nat} {l : List Nat} (h : l.map f = l) {q : Nat} (hq : q < l.length) : f (l.getD q 0) = l.getD q 0 := by
  have := congrArg (fun l => l[q]?) h
  simp only [List.getElem?_map, List.getElem?_eq_getElem hq, Option.map_some, Option.some.injEq] at this
  rw [List.getD_eq_getElem?_getD, List.getElem?_eq_getElem hq]
  exact this
theorem mix_of {text : List Nat} {p : Nat} (hp : p < text.length) (hpz : up1 (text.getD p 0) ≠ text.getD p 0)
    (hl : 1 < ((List.range text.length).filter fun i => up1 (text.getD i 0) != text.getD i 0).length) : DecGood (text.take p ++ [up1 (text.getD p 0)] ++ text.drop (p + 1)) none := by
  have hlen : (text.take p ++ [up1 (text.getD p 0)] ++ text.drop (p + 1)).length = text.length := by
    simp only [List.length_append, List.length_take, List.length_drop, List.length_cons, List.length_nil]; omega
  refine .inl ⟨⟨fun h => ?_, fun h => ?_⟩, rfl⟩
  · have h1 := map_at h (q := p) (by omega)
    rw [get_cut hp hp, if_pos rfl] at h1
    generalize text.getD p 0 = c at *
    unfold lo1 up1 at *
    (repeat' split at h1) <;> (repeat' split at hpz) <;> omega
  · obtain ⟨q, hq, hne⟩ : ∃ q ∈ (List.range text.length).filter (fun i => up1 (text.getD i 0) != text.getD i 0), q ≠ p := by
      have hnd : ((List.range text.length).filter fun i => up1 (text.getD i 0) != text.getD i 0).Nodup := List.Nodup.sublist List.filter_sublist List.nodup_range
      generalize ((List.range text.length).filter fun i => up1 (text.getD i 0) != text.getD i 0) = ls at *
      match ls, hl, hnd with
      | a :: b :: r, _, hnd =>
        by_cases ha : a = p
        · refine ⟨b, by simp, fun hb => ?_⟩
          have := List.nodup_cons.mp hnd
          exact this.1 (by rw [ha, ← hb]; simp)
        · exact ⟨a, by simp, ha⟩
    obtain ⟨hr, hz⟩ := List.mem_filter.mp hq
    have hr := List.mem_range.mp hr
    have h1 := map_at h (q := q) (by omega)
    rw [get_cut hp hr, if_neg hne] at h1
    exact (bne_iff_ne.mp hz) h1
theorem upper_dec {y ns : List Nat} (hlow : y.map lo1 = y) (hne : y.map up1 ≠ y) (h1 : 1 ≤ y.length) (h83 : y.length ≤ 83) (hn : ∀ d ∈ ns, d < 32) (h0 : ns ≠ []) :
    ∃ rU, DecGood (encOf (y.map up1) ns) rU ∧ (∀ p, rU = some p → p.2 ≠ []) ∧ decRes (y.map up1) rU = none := by
  by_cases hm : Mixed (encOf (y.map up1) ns)
  · exact ⟨none, .inl ⟨hm, rfl⟩, (fun p hp => by cases hp), rfl⟩
  · have hf := enc_form (y := y.map up1) (by rw [List.length_map]; exact h1) (by rw [List.length_map]; exact h83) hn
    have e : (y.map up1).map lo1 = y := by
      rw [List.map_map]
      refine Eq.trans (List.map_congr_left fun c _ => lo_up c) hlow
    rw [e] at hf
    refine ⟨_, .inr ⟨hm, y, _, hf, rfl⟩, ?_, ?_⟩
    · intro p hp
      split at hp
      · cases hp; rw [take_chk]; exact h0
      · cases hp
    · split
      · exact if_neg fun q => hne q.symm
      · rfl
end
theorem law_facts (row : List Nat) : LawFacts (frontOf row) (verOf row) (fivesOf row) := by
  obtain ⟨hfc, hl1, hl5⟩ := front_ok row
  have hlow : (frontOf row).map lo1 = frontOf row := map_fix (front_low row)
  have h32 := fives_lt row
  have h32' : ∀ d ∈ verOf row :: fivesOf row, d < 32 := fun d hd => (List.mem_cons.mp hd).elim (fun e => e ▸ ver_lt row) (h32 d)
  have h128 : ∀ c ∈ frontOf row, c < 128 := fun c hc => by have := hfc c hc; omega
  have hel := enc_low (ns := verOf row :: fivesOf row) hlow hl1 (by omega) h32'
  refine ⟨fact_of (fun m => m.1 hel) hlow rfl h128 hl1 (by omega) h32', seg_eq h32 _, fun p hp hpz hl => mix_of hp hpz hl, ?_, fun octs ho => cb_back h32 ho, fun hne five h5 => ?_⟩
  · refine fact_of (fun m => m.2 ?_) hlow ?_ h128 hl1 (by omega) h32'
    · rw [List.map_map]; exact List.map_congr_left fun c _ => up_up c
    · rw [List.map_map]; exact List.map_congr_left fun c _ => lo_up c
  · exact upper_dec hlow hne hl1 (by omega) (fun d hd => (List.mem_cons.mp hd).elim (fun e => e ▸ ver_lt row) (h5 d)) (by simp)
end Mine
namespace Mine
local macro_rules | `(tactic| walk_at "eval Constant int") => `(tactic| (refine const_n ?_; intro _ _))
local macro_rules | `(tactic| walk_at "binaryOp BitAnd int int") => `(tactic| (refine and_n ?_; intro _ _))
local macro_rules | `(tactic| walk_at "binaryOp BitOr int int") => `(tactic| (refine or_n ?_; intro _ _))
local macro_rules | `(tactic| walk_at "binaryOp BitXor int int") => `(tactic| (refine xor_n ?_; intro _ _))
local macro_rules | `(tactic| walk_at "inplaceOp BitXor int int") => `(tactic| (refine ixor_n ?_; intro _ _))
local macro_rules | `(tactic| walk_at "binaryOp RShift int int") => `(tactic| (refine rsh_n ?_; intro _ _))
local macro_rules | `(tactic| walk_at "binaryOp Add int int") => `(tactic| (refine add_n ?_; intro _ _))
local macro_rules | `(tactic| walk_at "inplaceOp Add int int") => `(tactic| (refine iadd_n ?_; intro _ _))
local macro_rules | `(tactic| walk_at "binaryOp FloorDiv int int") => `(tactic| (refine div_n (by decide) (by decide) ?_; intro _ _))
local macro_rules | `(tactic| walk_at "binaryOp Mod int int") => `(tactic| (refine mod_n (by decide) ?_; intro _ _))
local macro_rules | `(tactic| walk_at "truthy int") => `(tactic| refine truthy_n ?_)
local macro_rules | `(tactic| walk_at "look") => `(tactic| ((try dsimp only); first | assumption | exact if_pos rfl | (refine Eq.trans (if_neg (by decide)) ?_; walk_at "look") | (refine Eq.trans (Upto.out (by assumption) (by decide)) ?_; walk_at "look") | rfl))
local macro_rules | `(tactic| walk_at "mem") => `(tactic| (intro p9 hp9; first | exact hp9 | (repeat' (first | exact hp9 | refine List.mem_cons_of_mem _ ?_))))
local macro_rules | `(tactic| walk_at "upto") => `(tactic| first | assumption | exact Upto.refl | (refine Upto.set (by first | decide | decide +kernel | simp) ?_; walk_at "upto") | (refine' Upto.trans ?hs ?h1 ?_; (case h1 => assumption); (case hs => first | decide | decide +kernel); walk_at "upto"))
local macro_rules | `(tactic| walk_at "memx") => `(tactic| first | exact List.Mem.head _ | (refine List.Mem.tail _ ?_; walk_at "memx") | (refine List.mem_append_left _ ?_; walk_at "memx") | (refine List.mem_append_right _ ?_; walk_at "memx"))
local macro_rules | `(tactic| walk_at "TurnEnd next") => `(tactic| (refine' TurnEnd.next ?F ?N ?n ?_ ?U; (case F => k_asm); (case N => k_asm); (case n => walk_at "mem"); (case U => walk_at "upto")))
local macro_rules | `(tactic| walk_at "loadName") => `(tactic| (k_here; k_dflt (refine' ldn ?k1 ?k2 ?_; (case k1 => k_asm); (case k2 => walk_at "look"); k_whole)))
local macro_rules | `(tactic| walk_at "topr") => `(tactic| first | assumption | exact TopRead.keeps (by assumption) (Fr.keep (by assumption)))
local macro_rules | `(tactic| walk_at "eval Name") => `(tactic| (k_here; k_dflt (first
  | (refine' nm_localF ?F ?v ?_ ?a ?b ?c; (case b => rfl); (case a => rfl); (case c => decide); (case F => k_asm); (case v => walk_at "look"); k_whole)
  | (refine' nm_local ?F ?v ?_ ?a ?b ?c; (case b => rfl); (case a => rfl); (case c => decide); (case F => k_asm); (case v => walk_at "look"); k_whole)
  | (refine' nm_cell ?F ?v ?_ ?a ?b ?c; (case b => rfl); (case a => rfl); (case c => decide); (case v => rfl); (case F => k_asm); k_whole)
  | (refine' nm_K ?X ?T ?e ?_ ?g ?a ?b ?c; (case b => rfl); (case a => rfl); (case g => rfl); (case c => decide); (case X => k_in); (case T => walk_at "topr"); (case e => k_is); k_whole)
  | (refine' nm_B ?X ?T ?e ?v ?_ ?g ?h ?a ?b ?c ?n; (case b => rfl); (case a => rfl); (case g => rfl); (case h => rfl); (case c => decide); (case n => decide); (case X => k_in); (case T => walk_at "topr"); (case e => k_is); (case v => first | boot_fast | boot_by_name); k_whole))))
local macro_rules | `(tactic| walk_at "isl") => `(tactic| first | assumption | exact News.isList (by k_asm) (by walk_at "memx") | exact Heap.IsList.at (by assumption) (fun o e => Fr.keep (by k_asm) _ o e))
local macro_rules | `(tactic| walk_at "ints") => `(tactic| first | assumption | exact .nil | exact IntsAre.cons _ _ (by walk_at "ints"))
local macro_rules | `(tactic| walk_at "compareOp Eq int int") => `(tactic| refine eq_n ?_)
local macro_rules | `(tactic| walk_at "compareOp NotEq int int") => `(tactic| refine ne_n ?_)
local macro_rules | `(tactic| walk_at "compareOp Lt int int") => `(tactic| refine lt_n ?_)
local macro_rules | `(tactic| walk_at "compareOp Gt int int") => `(tactic| refine gt_n ?_)
local macro_rules | `(tactic| walk_at "compareOp LtE int int") => `(tactic| refine le_n ?_)
local macro_rules | `(tactic| walk_at "compareOp GtE int int") => `(tactic| refine ge_n ?_)
local macro_rules | `(tactic| walk_at "binaryOp Mult int int") => `(tactic| ((first | refine mul_n ?_ (IntMulOk.of_left (by decide +kernel)) | refine mul_n ?_ (IntMulOk.of_right (by decide +kernel))); intro _ _))
local macro_rules | `(tactic| walk_at "binaryOp Sub int int") => `(tactic| (refine sub_n (by omega) ?_; intro _ _))
local macro_rules | `(tactic| walk_at "storeName") => `(tactic| (k_dflt (refine' store_g ?a ?b ?c ?F ?N ?_; (case a => rfl); (case b => rfl); (case F => k_asm); (case c => rfl); (case N => k_asm); k_whole); intro h' tk' F' N'; (try k_sweep)))
local macro_rules | `(tactic| walk_at "eval Constant str") => `(tactic| (refine const_s ?_; intro _ _))
local macro_rules | `(tactic| walk_at "call builtin:len") => `(tactic| (k_dflt (refine' len_nl ?hl ?hI ?sz ?_; (case hl => walk_at "isl"); (case hI => walk_at "ints"); (case sz => (try simp only [List.length_append, List.length_map, List.length_cons, List.length_nil, List.length_range]); omega); k_whole); intro _ _))
local macro_rules | `(tactic| walk_at "inplaceOp Sub int int") => `(tactic| (refine isub_n (by omega) ?_; intro _ _))
local macro_rules | `(tactic| k_in) => `(tactic| first | with_reducible assumption | exact Frag.In.keeps (by with_reducible assumption) (Fr.keep (by with_reducible assumption)))
local macro_rules | `(tactic| walk_at "call builtin:str.lower") => `(tactic| (refine lower_t (by assumption) (by first | assumption | omega) ?_; intro _ _))
local macro_rules | `(tactic| walk_at "call builtin:str.upper") => `(tactic| (refine upper_t (by assumption) (by first | assumption | omega) ?_; intro _ _))
local macro_rules | `(tactic| walk_at "call builtin:len") => `(tactic| ((with_reducible show wpAny _ _ (call (Value.builtin "len") [Value.str _ _]) _ _ _); refine len_t (by first | assumption | omega) ?_; intro _ _))
local macro_rules | `(tactic| walk_at "compareOp Eq str str") => `(tactic| refine eq_t ?_)
local macro_rules | `(tactic| walk_at "compareOp NotEq str str") => `(tactic| refine ne_t ?_)
local macro_rules | `(tactic| walk_at "ist") => `(tactic| first | assumption | exact News.isTup (by k_asm) (by walk_at "memx"))
local macro_rules | `(tactic| walk_at "assign Tuple") => `(tactic| (k_dflt (refine' unpackN_ ?F ?N ?T ?hh ?k1 ?k2 ?_; (case F => k_asm); (case N => k_asm); (case T => walk_at "ist"); (case hh => (rename Around.handled _ = none => h9; exact h9)); (case k1 => exact rfl); (case k2 => exact rfl); k_whole); intro h' F' N'; (try k_sweep)))
local macro_rules | `(tactic| walk_at "ist") => `(tactic| first | assumption | exact News.isTup (by k_asm) (by walk_at "memx") | exact isTup_at (by assumption) (Fr.keep (by k_asm)))
local macro_rules | `(tactic| walk_at "binaryOp Mod int int") => `(tactic| (first | refine mod_n (by first | decide | omega) ?_ | refine mod_i (by decide) ?_); intro _ _)
local macro_rules | `(tactic| walk_at "eval Name") => `(tactic| (k_here; k_dflt (refine' nm_cell ?F ?v ?_ ?a ?b ?c; (case b => rfl); (case a => rfl); (case c => decide); (case v => rfl); (case F => first | k_asm | exact cellAt (by k_asm) (by walk_at "memx") (by assumption)); k_whole)))
local macro_rules | `(tactic| walk_at "subscriptTail") => `(tactic| (refine item_n (by walk_at "isl") (by assumption) (by first | assumption | omega) (by omega) ?_ (by with_unfolding_all rfl); intro _))
local macro_rules | `(tactic| walk_at "subscriptTail") => `(tactic| ((with_reducible show wpAny _ _ (subscriptTail _ _ (Value.str _ _) (Value.int _ _)) _ _ _); refine item_s rfl (by first | assumption | omega) (by omega) ?_ (by with_unfolding_all rfl); intro _ _))
local macro_rules | `(tactic| walk_at "memx") => `(tactic| first | assumption | exact List.Mem.head _ | (refine List.Mem.tail _ ?_; walk_at "memx") | (refine List.mem_append_left _ ?_; walk_at "memx") | (refine List.mem_append_right _ ?_; walk_at "memx"))
set_option maxRecDepth 100000 in
set_option maxHeartbeats 16000000 in
theorem law_spec (w : World) (mg mb : Str → Option Value) (A : Around) (s : Shared) (l : Addr) (vs : List Value) (ns : List Int)
   (E : Value → Shared → Prop) (B : Big w mg mb s) (hA : A.handled = none) (hd : A.depth + 8 < recursionLimit) (hu : A.units + 400 < cLine)
   (hl : s.heap.IsList l vs.toArray) (hI : IntsAre vs ns) (hns : ns.length ≤ 1000) (LF : LawFacts (frontOf (rowOf ns)) (verOf (rowOf ns)) (fivesOf (rowOf ns))) :
   wpAny (model PySem.Challenge.rw_fw0006_01.row.prog w) A (call (.ref 109) [.ref l]) (fun v s' => v = .bool true ∧ Ext s s') E s := by
  have X0 := B.X
  have G := B.g
  have X := G.X
  obtain ⟨ps, T0⟩ := B.tab
  have hbare := B.bare
  have TR := B.T
  have T := G.T
  have hk45 := T0.2.2
  have htr := T0.triples
  have hlg := isList_hide T0 hl
  clear hl
  revert X0 X
  k_fill
  intro X0 X
  refine' enterC (binds := [("script", .ref l)]) (s.heap.hide 45) ?a0 ?a1 X0 TR.nolimit ?a ?b ?c ?d ?e ?f ?h ?i ?j ?k
  (case a0 => exact fun _ _ e => Heap.of_hide e); (case a1 => exact Nat.le_of_eq (Heap.hide_size _ _)); (case a => omega); (case b => k_is); (case c => k_is); (case d => exact BindsTo.of_eq rfl); (case e => exact rfl); (case f => decide +kernel); (case i => rfl); (case j => rfl); (case k => rfl)
  intro L h₁ tk0 cells hL F N Y hk₁
  obtain ⟨oc1, oc2, rfl, hoc1, hoc2⟩ := CellsAre.two Y
  clear Y
  have N45 : News (s.heap.hide 45) L h₁ ((45, tabO ps) :: [(L + 1 + 1, oc1), (L + 1, oc2)]) := fun p hp => by
    rcases List.mem_cons.mp hp with rfl | hp
    · exact ⟨hk₁ _ _ hk45, Nat.ne_of_lt (hL ▸ Heap.lt_size hk45), Heap.hide_self _ _⟩
    · exact N p hp
  clear N hk₁ X0 TR
  obtain ⟨hp0, gs0, dr0, tk00, os0⟩ := s
  replace hlg : (hp0.hide 45).IsList l vs.toArray := hlg
  try dsimp only
  try k_fold
  (repeat' (first | ((with_reducible show Frag.In _ _ ∧ _); walk1) | ((fail_if_success (with_reducible show _ ∧ _)); (fail_if_success (with_reducible show wpAny _ _ (eval (Expr.ListComp _ _ _ _) _) _ _ _)); first | (k_unfold; (try dsimp only)) | walk1 | (dsimp only; walk1)) | fail "no step"))
  refine' comp_f (as := ns.take 40) (V := IntV) (pz := fun _ => true) (Wt := NatV) (g := fun k => (k.fmod 9973).toNat) (cl := []) intV_inj hA (by rfl) (by decide) rfl (by decide) rfl ?_ (by intro _; rfl)
  (repeat' (first | ((with_reducible show Frag.In _ _ ∧ _); walk1) | ((fail_if_success (with_reducible show _ ∧ _)); (fail_if_success (with_reducible show wpAny _ _ (subscriptTail _ _ _ _) _ _ _)); first | (k_unfold; (try dsimp only)) | walk1 | (dsimp only; walk1)) | fail "no step"))
  rename Fr _ _ _ _ => F1
  rename News _ _ _ _ => N1
  refine lslice_to (k := 40) (by walk_at "isl") hI (by omega) F1 N1 ?_ (by with_unfolding_all rfl) (by intro _; with_unfolding_all rfl)
  clear F1 N1
  intro D2 ws2 H2 F2 N2 I2
  try dsimp only
  refine ⟨src_list (by walk_at "isl") (paired_ints I2), by (rw [List.length_take, show sizeLine = 2 ^ 24 from rfl]; omega), Elt.plain ?_, ?_⟩
  --<
  · intro C a v H gs dr tk os m₃ E' ha hv hn hm hk hC
    obtain ⟨tv, rfl⟩ := hv
    have X' := (X.keeps F2.keep).keeps hk
    have T' := (T.keeps F2.keep).keeps hk
    clear F2 N2 X T
    (repeat' (first | ((with_reducible show Frag.In _ _ ∧ _); walk1) | ((fail_if_success (with_reducible show _ ∧ _)); first | (k_unfold; (try dsimp only)) | walk1 | (dsimp only; walk1)) | fail "no step"))
    exact ⟨⟨_, rfl⟩, Keeps.rfl'⟩
  -->
  (intro D3 H3 tk3 ys3 hD3 hl3 hv3 hk3; (try rw [filter_true] at hv3); (rename Fr _ _ _ _ => F0); (rename News _ _ _ _ => N0); obtain ⟨d3, n3, sl3, N3⟩ := news_list F0 N0 hD3 hl3 hk3; (have F3 := F0.keeps hk3); (have I3 := ints_of_paired hv3); clear hl3 hv3 hk3 hD3 F0 N0; (try dsimp only))
  (repeat' (first | ((with_reducible show Frag.In _ _ ∧ _); walk1) | ((fail_if_success (with_reducible show _ ∧ _)); (fail_if_success (with_reducible show wpAny _ _ (binaryOp Operator.Add _ _) _ _ _)); first | (k_unfold; (try dsimp only)) | walk1 | (dsimp only; walk1)) | fail "no step"))
  refine add_nl (by k_asm) (by k_asm) (by walk_at "isl") (by walk_at "isl") I3 (ms := [6, 2, 47, 4]) (by walk_at "ints") (by rw [List.length_map, List.length_take]; simp only [List.length_cons, List.length_nil]; omega) ?_
  intro D4 H4 tk4 F4 N4 I4
  (repeat' (first | ((with_reducible show Frag.In _ _ ∧ _); walk1) | ((fail_if_success (with_reducible show _ ∧ _)); first | (k_unfold; (try dsimp only)) | walk1 | (dsimp only; walk1)) | fail "no step"))
  obtain ⟨vr, NC, I4⟩ : ∃ vr, News (hp0.hide 45) L H4 ((L + 1, oc2) :: (D4, lobj none vr 0 #[]) :: (45, tabO ps) :: [(L + 1 + 1, oc1)]) ∧ IntsAre vr (natv (rowOf ns)) :=
    ⟨_, News.sub N4 (by intro p hp; simp only [List.mem_cons, List.not_mem_nil, or_false] at hp; rcases hp with rfl | rfl | rfl | rfl <;> walk_at "memx"), I4⟩
  clear N4 I3
  have hrl := rowOf_len ns
  obtain ⟨row, hrow⟩ : ∃ row, row = rowOf ns := ⟨_, rfl⟩
  rw [← hrow] at I4 hrl LF
  refine store_c (by rfl) (by rfl) (by rfl) F4 NC hoc2 (hne_of NC hoc2 (by
    intro p hp; simp only [List.mem_cons, List.not_mem_nil, or_false] at hp
    rcases hp with rfl | rfl | rfl
    · exact .inr fun v h => by cases h
    · exact .inr fun v h => by cases h
    · exact .inl (by show L + 1 + 1 ≠ L + 1; omega))) ?_
  intro H6 o6 F6 N6 hd6
  clear F4 NC
  (repeat' (first | ((with_reducible show Frag.In _ _ ∧ _); walk1) | ((fail_if_success (with_reducible show _ ∧ _)); (fail_if_success (with_reducible show wpAny _ _ (eval (Expr.ListComp _ _ _ _) _) _ _ _)); first | (k_unfold; (try dsimp only)) | walk1 | (dsimp only; walk1)) | fail "no step"))
  refine' comp_f (as := List.range (1 + row.getD 0 0 % 4)) (V := NatV) (pz := fun _ => true) (Wt := SignV) (g := fun place => lowc (33 + (row.getD ((place + 1) % row.length) 0 + 11 * place) % 94)) natV_inj hA (by rfl) (by decide) rfl (by decide) rfl ?_ (by intro _; rfl)
  (repeat' (first | ((with_reducible show Frag.In _ _ ∧ _); walk1) | ((fail_if_success (with_reducible show _ ∧ _)); first | (k_unfold; (try dsimp only)) | walk1 | (dsimp only; walk1)) | fail "no step"))
  refine ⟨src_range (by assumption) (rsmall (by omega)) (rsize _), by (rw [List.length_range, show sizeLine = 2 ^ 24 from rfl]; omega), Elt.plain ?_, ?_⟩
  --<
  · intro C a v H gs dr tk os m₃ E' ha hv hn hm hk hC
    obtain ⟨tv, rfl⟩ := hv
    have ha := List.mem_range.mp ha
    rename Fr _ _ _ _ => F7
    rename News _ _ _ _ => N7
    have X' := (X.keeps F7.keep).keeps hk
    have T' := (T.keeps F7.keep).keeps hk
    have HC := (cellAt N7 (by walk_at "memx") hd6).keeps hk
    have hl' := (News.isList N7 (.tail _ (.head _))).at fun o e => hk _ o e
    have hm1 : (a + 1) % row.length < row.length := Nat.mod_lt _ (by omega)
    clear F7 N7 X T
    (repeat' (first | ((with_reducible show Frag.In _ _ ∧ _); walk1) | ((fail_if_success (with_reducible show _ ∧ _)); (fail_if_success (with_reducible show wpAny _ _ (call (Value.ref _) _) _ _ _)); first | (k_unfold; (try dsimp only)) | walk1 | (dsimp only; walk1)) | fail "no step"))
    refine wpAny_mono (low_spec w mg mb _ _ _ _ _ X' T' hA (by (repeat rw [deeper_depth]); omega)) ?_ (fun _ _ e => e)
    rintro _ _ ⟨⟨t1, rfl⟩, H1, tk1, rfl, hk1⟩
    (repeat' (first | ((with_reducible show Frag.In _ _ ∧ _); walk1) | ((fail_if_success (with_reducible show _ ∧ _)); first | (k_unfold; (try dsimp only)) | walk1 | (dsimp only; walk1)) | fail "no step"))
    have hb : lowc (33 + (row.getD ((a + 1) % row.length) 0 + 11 * a) % 94) ≤ 1000 := by unfold lowc; split <;> omega
    refine chr_of_range (by omega) (by omega) ?_
    rw [Int.toNat_natCast]
    exact ⟨⟨_, rfl⟩, _, _, rfl, hk1⟩
  -->
  intro D7 H7 tk7 ys7 hD7 hl7 hv7 hk7
  rw [filter_true] at hv7
  rename Fr _ _ _ _ => F0
  rename News _ _ _ _ => N0
  obtain ⟨d7, n7, sl7, N7⟩ := news_list F0 N0 hD7 hl7 hk7
  have F7 := F0.keeps hk7
  clear hl7 hk7 hD7 F0 N0
  try dsimp only
  (repeat' (first | ((with_reducible show Frag.In _ _ ∧ _); walk1) | ((fail_if_success (with_reducible show _ ∧ _)); (fail_if_success (with_reducible show wpAny _ _ (call (Value.builtin "str.join") _) _ _ _)); first | (k_unfold; (try dsimp only)) | walk1 | (dsimp only; walk1)) | fail "no step"))
  refine join_n rfl (by walk_at "isl") hv7 (by rw [List.length_map, List.length_range]; omega) ?_
  intro t8 tk8
  (repeat' (first | ((with_reducible show Frag.In _ _ ∧ _); walk1) | ((fail_if_success (with_reducible show _ ∧ _)); (fail_if_success (with_reducible show wpAny _ _ (exec (Stmt.If _ _ _ _) _) _ _ _)); first | (k_unfold; (try dsimp only)) | walk1 | (dsimp only; walk1)) | fail "no step"))
  rename Fr _ _ _ _ => F8
  rename News _ _ _ _ => N8
  refine cut_var "front" (fun v => ∃ t, v = .str (tx (frontOf row)) t) F8 N8 ?_ ?_
  --<
  · (repeat' (first | ((with_reducible show Frag.In _ _ ∧ _); walk1) | ((fail_if_success (with_reducible show _ ∧ _)); (fail_if_success (with_reducible show wpAny _ _ (binaryOp Operator.Add _ _) _ _ _)); first | (k_unfold; (try dsimp only)) | walk1 | (dsimp only; walk1)) | fail "no step"))
    · refine add_s (a := front0 row) (b := [49]) rfl (by decide +kernel) (by rw [front0, List.length_map, List.length_range]; simp only [List.length_cons, List.length_nil]; omega) ?_
      intro _ _
      (repeat' (first | ((with_reducible show Frag.In _ _ ∧ _); walk1) | ((fail_if_success (with_reducible show _ ∧ _)); first | (k_unfold; (try dsimp only)) | walk1 | (dsimp only; walk1)) | fail "no step"))
      rename Fr _ _ _ _ => F9
      rename News _ _ _ _ => N9
      exact ⟨trivial, rfl, _, _, _, rfl, F9, N9, _, by rw [frontOf, if_pos (beq_iff_eq.mp (by assumption))]⟩
    · exact ⟨trivial, rfl, _, _, _, rfl, fr_same (by rfl) F8, N8, _, by rw [frontOf, if_neg (beq_eq_false_iff_ne.mp (by assumption))]; rfl⟩
  -->
  clear F8 N8
  intro h9 tk9 v9 F9 N9
  rintro ⟨tf, rfl⟩
  try dsimp only
  (repeat' (first | ((with_reducible show Frag.In _ _ ∧ _); walk1) | ((fail_if_success (with_reducible show _ ∧ _)); (fail_if_success (with_reducible show wpAny _ _ (eval (Expr.IfExp _ _ _ _) _) _ _ _)); first | (k_unfold; (try dsimp only)) | walk1 | (dsimp only; walk1)) | fail "no step"))
  refine cut_int (verOf row) ?_ ?_
  --<
  · (repeat' (first | ((with_reducible show Frag.In _ _ ∧ _); walk1) | ((fail_if_success (with_reducible show _ ∧ _)); first | (k_unfold; (try dsimp only)) | walk1 | (dsimp only; walk1)) | fail "no step"))
    all_goals
      refine ⟨trivial, _, _, congrArg (fun n : Nat => Value.int (n : Int) _) ?_, rfl⟩
      rename Fr _ _ _ _ => F9
      rename News _ _ _ _ => N9
      clear F9 N9 X T G B hI I4
      simp only [beq_iff_eq, beq_eq_false_iff_ne, ne_eq] at *
      unfold verOf
      (repeat' split) <;> first | rfl | (exfalso; omega)
  -->
  intro t10 tk10
  (repeat' (first | ((with_reducible show Frag.In _ _ ∧ _); walk1) | ((fail_if_success (with_reducible show _ ∧ _)); (fail_if_success (with_reducible show wpAny _ _ (eval (Expr.IfExp _ _ _ _) _) _ _ _)); first | (k_unfold; (try dsimp only)) | walk1 | (dsimp only; walk1)) | fail "no step"))
  refine cut_int (manyOf row) ?_ ?_
  --<
  · (repeat' (first | ((with_reducible show Frag.In _ _ ∧ _); walk1) | ((fail_if_success (with_reducible show _ ∧ _)); first | (k_unfold; (try dsimp only)) | walk1 | (dsimp only; walk1)) | fail "no step"))
    all_goals
      refine ⟨trivial, _, _, congrArg (fun n : Nat => Value.int (n : Int) _) ?_, rfl⟩
      rename Fr _ _ _ _ => F9
      rename News _ _ _ _ => N9
      clear F9 N9 X T G B hI I4
      simp only [beq_iff_eq, beq_eq_false_iff_ne, ne_eq] at *
      unfold manyOf kindOf'
      (repeat' split) <;> first | rfl | (exfalso; omega)
  -->
  intro t11 tk11
  (repeat' (first | ((with_reducible show Frag.In _ _ ∧ _); walk1) | ((fail_if_success (with_reducible show _ ∧ _)); (fail_if_success (with_reducible show wpAny _ _ (exec (Stmt.Assign _ (Expr.ListComp _ _ _ _) _) _) _ _ _)); first | (k_unfold; (try dsimp only)) | walk1 | (dsimp only; walk1)) | fail "no step"))
  rename Fr _ _ _ _ => F12
  rename News _ _ _ _ => N12
  refine' comp_fa (as := List.range (manyOf row)) (V := NatV) (pz := fun _ => true) (Wt := NatV) (g := fun place => (row.getD ((place + 3) % row.length) 0 / 2 + 7 * place) % 32) natV_inj (by rfl) hA (by rfl) (by decide) rfl (by decide) rfl (by rfl) (by rfl) ?_ (by intro _; rfl)
  have hmany : manyOf row ≤ 66 := by unfold manyOf kindOf'; (repeat' split) <;> omega
  (repeat' (first | ((with_reducible show Frag.In _ _ ∧ _); walk1) | ((fail_if_success (with_reducible show _ ∧ _)); first | (k_unfold; (try dsimp only)) | walk1 | (dsimp only; walk1)) | fail "no step"))
  rename Fr _ _ _ _ => F13
  rename News _ _ _ _ => N13
  refine ⟨src_range (by assumption) (rsmall (by omega)) (rsize _), by (rw [List.length_range, show sizeLine = 2 ^ 24 from rfl]; omega), Elt.plain ?_, _, _, _, F13, N13, ?_⟩
  --<
  · intro C a v H gs dr tk os m₃ E' ha hv hn hm hk hC
    obtain ⟨tv, rfl⟩ := hv
    have ha := List.mem_range.mp ha
    have X' := (X.keeps F13.keep).keeps hk
    have T' := (T.keeps F13.keep).keeps hk
    have HC := (cellAt N13 (by walk_at "memx") hd6).keeps hk
    have hl' := (News.isList N13 (a := D4) (by walk_at "memx")).at fun o e => hk _ o e
    have hm1 : (a + 3) % row.length < row.length := Nat.mod_lt _ (by omega)
    clear F13 N13 X T
    (repeat' (first | ((with_reducible show Frag.In _ _ ∧ _); walk1) | ((fail_if_success (with_reducible show _ ∧ _)); first | (k_unfold; (try dsimp only)) | walk1 | (dsimp only; walk1)) | fail "no step"))
    exact ⟨⟨_, rfl⟩, _, _, rfl, fun _ _ e => e⟩
  -->
  (intro D14 H14 tk14 ys14 hD14 hl14 hv14 hk14 F14 NN14; (try rw [filter_true] at hv14); obtain ⟨d14, n14, sl14, N14⟩ := news_listL (by assumption) NN14 hl14 hD14 (ns_there (Fr.ns (by assumption))); (have I14 := ints_of_paired hv14); (try dsimp only))
  have hne14 : ∀ p ∈ [(L + 1, o6), (D4, lobj none vr 0 #[]), (45, tabO ps), (L + 1 + 1, oc1)], p.1 ≠ D14 := fun p hp => fresh_ne N13 hD14 p (by
    simp only [List.mem_cons, List.not_mem_nil, or_false] at hp; rcases hp with rfl | rfl | rfl | rfl <;> walk_at "memx")
  clear F13 NN14 hl14 hv14
  (repeat' (first | ((with_reducible show Frag.In _ _ ∧ _); walk1) | ((fail_if_success (with_reducible show _ ∧ _)); (fail_if_success (with_reducible show wpAny _ _ (exec (Stmt.If _ _ _ _) _) _ _ _)); first | (k_unfold; (try dsimp only)) | walk1 | (dsimp only; walk1)) | fail "no step"))
  rename Fr _ _ _ _ => F15
  rename News _ _ _ _ => N15
  have hf0 : (fives0 row).length = manyOf row := by unfold fives0; simp
  replace I14 : IntsAre ys14 (natv (fives0 row)) := I14
  refine cut_ledger (fun nx => ∃ d5 vs5 c5 sl5, nx = [(D14, lobj d5 vs5 c5 sl5), (L + 1, o6), (D4, lobj none vr 0 #[]), (45, tabO ps), (L + 1 + 1, oc1)] ∧ IntsAre vs5 (natv (fivesOf row))) F15 N15 ?_ ?_
  --<
  · have hsame : ∀ (hc : ¬ (kindOf' row ≠ 3 ∧ kindOf' row ≠ 4 ∧ kindOf' row ≠ 5 ∧ 0 < 5 * manyOf row % 8 ∧ 5 * manyOf row % 8 < 5)), fivesOf row = fives0 row := fun hc => if_neg hc
    have hlast : ∀ k : Nat, twos.getD k 0 ≤ 128 := fun k => by
      by_cases h : k < 8
      · exact (by decide : ∀ k < 8, twos.getD k 0 ≤ 128) k h
      · rw [List.getD_eq_getElem?_getD, List.getElem?_eq_none (by show 8 ≤ k; omega)]; decide
    (repeat' (first | ((with_reducible show Frag.In _ _ ∧ _); walk1) | ((fail_if_success (with_reducible show _ ∧ _)); (fail_if_success (with_reducible show wpAny _ _ (subscriptTail _ _ _ _) _ _ _)); first | (k_unfold; (try dsimp only)) | walk1 | (dsimp only; walk1)) | fail "no step"))
    rotate_left 1
    · have hm0 : 0 < manyOf row := by omega
      refine item_last (by walk_at "isl") I14 (by rw [hf0]; exact hm0) ?_ (by with_unfolding_all rfl)
      intro _
      (repeat' (first | ((with_reducible show Frag.In _ _ ∧ _); walk1) | ((fail_if_success (with_reducible show _ ∧ _)); (fail_if_success (with_reducible show wpAny _ _ (subscriptTail _ _ _ _) _ _ _)); first | (k_unfold; (try dsimp only)) | walk1 | (dsimp only; walk1)) | fail "no step"))
      refine item_t (ns := twos) (K_tup (X.keeps (by k_asm : Fr _ _ _ _).keep) (by k_is)) (by walk_at "ints") (by show 5 * manyOf row % 8 < 8; omega) (by omega) ?_ (by with_unfolding_all rfl)
      intro _
      refine div_n (twos_ok _ (by omega)).1 (twos_ok _ (by omega)).2 ?_
      intro _ _
      (repeat' (first | ((with_reducible show Frag.In _ _ ∧ _); walk1) | ((fail_if_success (with_reducible show _ ∧ _)); (fail_if_success (with_reducible show wpAny _ _ (subscriptTail _ _ _ _) _ _ _)); first | (k_unfold; (try dsimp only)) | walk1 | (dsimp only; walk1)) | fail "no step"))
      refine item_t (ns := twos) (K_tup (X.keeps (by k_asm : Fr _ _ _ _).keep) (by k_is)) (by walk_at "ints") (by show 5 * manyOf row % 8 < 8; omega) (by omega) ?_ (by with_unfolding_all rfl)
      intro _
      refine mul_n ?_ (mulOk_small (Nat.le_trans (hlast _) (by decide)))
      intro _ _
      (repeat' (first | ((with_reducible show Frag.In _ _ ∧ _); walk1) | ((fail_if_success (with_reducible show _ ∧ _)); first | (k_unfold; (try dsimp only)) | walk1 | (dsimp only; walk1)) | fail "no step"))
      rename Fr _ _ _ _ => F15
      rename News _ _ _ _ => N15
      have NS := News.sub (news := (D14, lobj d14 ys14 n14 sl14) :: [(L + 1, o6), (D4, lobj none vr 0 #[]), (45, tabO ps), (L + 1 + 1, oc1)]) N15 (by intro p hp; simp only [List.mem_cons, List.not_mem_nil, or_false] at hp; rcases hp with rfl | rfl | rfl | rfl | rfl <;> walk_at "memx")
      refine set_last F15 NS hne14 I14 (by rw [hf0]; exact hm0) ?_
      intro h17 d17 vs17 c17 sl17 F17 N17 I17
      (repeat' (first | ((with_reducible show Frag.In _ _ ∧ _); walk1) | ((fail_if_success (with_reducible show _ ∧ _)); first | (k_unfold; (try dsimp only)) | walk1 | (dsimp only; walk1)) | fail "no step"))
      refine ⟨trivial, rfl, _, _, _, rfl, F17, N17, _, _, _, _, rfl, ?_⟩
      rw [show fivesOf row = _ from if_pos (by clear F15 N15 NS F17 N17 X T G B hI I4 I14; unfold kindOf'; simp only [List.any_cons, List.any_nil, Bool.or_false, Bool.or_eq_true, Bool.or_eq_false_iff, beq_iff_eq, beq_eq_false_iff_ne, ne_eq] at *; omega)]
      rw [hf0] at I17
      exact I17
    all_goals
      rename Fr _ _ _ _ => F15
      rename News _ _ _ _ => N15
      have NS := News.sub (news := (D14, lobj d14 ys14 n14 sl14) :: [(L + 1, o6), (D4, lobj none vr 0 #[]), (45, tabO ps), (L + 1 + 1, oc1)]) N15 (by intro p hp; simp only [List.mem_cons, List.not_mem_nil, or_false] at hp; rcases hp with rfl | rfl | rfl | rfl | rfl <;> walk_at "memx")
      refine ⟨trivial, rfl, _, _, _, rfl, F15, NS, _, _, _, _, rfl, ?_⟩
      rw [hsame (by clear F15 N15 NS X T G B hI I4 I14; unfold kindOf'; simp only [List.any_cons, List.any_nil, Bool.or_false, Bool.or_eq_true, Bool.or_eq_false_iff, beq_iff_eq, beq_eq_false_iff_ne, ne_eq] at *; omega)]
      exact I14
  -->
  clear F15 N15
  rintro h16 tk16 nx16 F16 N16 ⟨d16, vs16, c16, sl16, rfl, I16⟩
  try dsimp only
  obtain ⟨hfc, hfl1, hfl5⟩ := front_ok row
  have hv32 := ver_lt row
  have h32 := fives_lt row
  have h5l := fives_len row
  have h32' : ∀ d ∈ verOf row :: fivesOf row, d < 32 := fun d hd => (List.mem_cons.mp hd).elim (fun e => e ▸ hv32) (h32 d)
  (repeat' (first | ((with_reducible show Frag.In _ _ ∧ _); walk1) | ((fail_if_success (with_reducible show _ ∧ _)); (fail_if_success (with_reducible show wpAny _ _ (binaryOp Operator.Add _ _) _ _ _)); first | (k_unfold; (try dsimp only)) | walk1 | (dsimp only; walk1)) | fail "no step"))
  refine add_nl (ns := [verOf row]) (by k_asm) (by k_asm) (by walk_at "isl") (by walk_at "isl") (by walk_at "ints") I16 (by simp only [List.length_cons, List.length_nil]; omega) ?_
  intro D18 H18 tk18 F18 N18 I18
  (repeat' (first | ((with_reducible show Frag.In _ _ ∧ _); walk1) | ((fail_if_success (with_reducible show _ ∧ _)); (fail_if_success (with_reducible show wpAny _ _ (call (Value.ref _) _) _ _ _)); first | (k_unfold; (try dsimp only)) | walk1 | (dsimp only; walk1)) | fail "no step"))
  refine wpAny_mono (b32encode_spec w mg mb _ _ (frontOf row) _ D18 _ (verOf row :: fivesOf row) _ (by k_in) (by walk_at "topr") hA (by (repeat rw [deeper_depth]); omega) (by omega) (by walk_at "isl") I18 (by simp only [List.length_cons]; omega) h32') ?_ (fun _ _ e => e)
  rintro _ _ ⟨⟨t19, rfl⟩, H19, tk19, rfl, hk19⟩
  rename Fr _ _ _ _ => F0
  rename News _ _ _ _ => N0
  have F19 := F0.keeps hk19
  have N19 := N0.grown hk19
  clear F0 N0 hk19 I18
  try dsimp only
  (repeat' (first | ((with_reducible show Frag.In _ _ ∧ _); walk1) | ((fail_if_success (with_reducible show _ ∧ _)); first | (k_unfold; (try dsimp only)) | walk1 | (dsimp only; walk1)) | fail "no step"))
  obtain ⟨text, htext⟩ : ∃ text, text = encOf (frontOf row) (verOf row :: fivesOf row) := ⟨_, rfl⟩
  have htl : text.length = (frontOf row).length + 1 + (manyOf row + 1 + 6) := by rw [htext, encOf_length, List.length_cons, h5l]
  have htc : ∀ c ∈ text, 33 ≤ c ∧ c ≤ 126 := htext ▸ encOf_chars hfc h32'
  rw [← htext]
  have NS := News.sub (news := (L + 1 + 1, oc1) :: [(L + 1, o6), (D14, lobj d16 vs16 c16 sl16), (D4, lobj none vr 0 #[]), (45, tabO ps)]) N19 (by intro p hp; simp only [List.mem_cons, List.not_mem_nil, or_false] at hp; rcases hp with rfl | rfl | rfl | rfl | rfl <;> walk_at "memx")
  refine store_c (by rfl) (by rfl) (by rfl) F19 NS hoc1 (hne_of NS hoc1 (by
    intro p hp; simp only [List.mem_cons, List.not_mem_nil, or_false] at hp
    rcases hp with rfl | rfl | rfl | rfl
    · exact .inl (by show L + 1 ≠ L + 1 + 1; omega)
    · exact .inr fun v h => by cases h
    · exact .inr fun v h => by cases h
    · exact .inr fun v h => by cases h)) ?_
  intro H20 o20 F20 N20 hd20
  clear F19 NS N19
  (repeat' (first | ((with_reducible show Frag.In _ _ ∧ _); walk1) | ((fail_if_success (with_reducible show _ ∧ _)); (fail_if_success (with_reducible show wpAny _ _ (subscriptTail _ _ _ _) _ _ _)); first | (k_unfold; (try dsimp only)) | walk1 | (dsimp only; walk1)) | fail "no step"))
  rename Fr _ _ _ _ => F21
  rename News _ _ _ _ => N21
  refine slice_toneg (k := 6) (by decide) (by omega) (by omega) F21 N21 ?_ (by with_unfolding_all rfl) (by intro _; with_unfolding_all rfl)
  clear F21 N21
  intro H22 t22 tk22 F22 N22
  try dsimp only
  (repeat' (first | ((with_reducible show Frag.In _ _ ∧ _); walk1) | ((fail_if_success (with_reducible show _ ∧ _)); (fail_if_success (with_reducible show wpAny _ _ (binaryOp Operator.Add _ _) _ _ _)); first | (k_unfold; (try dsimp only)) | walk1 | (dsimp only; walk1)) | fail "no step"))
  refine add_s (a := frontOf row) (b := [49]) rfl (by decide +kernel) (by simp only [List.length_cons, List.length_nil]; omega) ?_
  intro t23 tk23
  (repeat' (first | ((with_reducible show Frag.In _ _ ∧ _); walk1) | ((fail_if_success (with_reducible show _ ∧ _)); (fail_if_success (with_reducible show wpAny _ _ (eval (Expr.ListComp _ _ _ _) _) _ _ _)); first | (k_unfold; (try dsimp only)) | walk1 | (dsimp only; walk1)) | fail "no step"))
  refine' comp_f (as := verOf row :: fivesOf row) (V := NatV) (pz := fun _ => true) (Wt := SignV) (g := fun d => cset.getD d 0) natV_inj hA (by rfl) (by decide) rfl (by decide) rfl ?_ (by intro _; rfl)
  (repeat' (first | ((with_reducible show Frag.In _ _ ∧ _); walk1) | ((fail_if_success (with_reducible show _ ∧ _)); (fail_if_success (with_reducible show wpAny _ _ (binaryOp Operator.Add _ _) _ _ _)); first | (k_unfold; (try dsimp only)) | walk1 | (dsimp only; walk1)) | fail "no step"))
  refine add_nl (ns := [verOf row]) (by k_asm) (by k_asm) (by walk_at "isl") (by walk_at "isl") (by walk_at "ints") I16 (by simp only [List.length_cons, List.length_nil]; omega) ?_
  intro D24 H24 tk24 F24 N24 I24
  refine ⟨src_list (by walk_at "isl") (paired_of_ints I24), by (rw [List.length_cons, show sizeLine = 2 ^ 24 from rfl]; omega), Elt.plain ?_, ?_⟩
  --<
  · intro C a v H gs dr tk os m₃ E' ha hv hn hm hk hC
    obtain ⟨tv, rfl⟩ := hv
    have ha : a < 32 := h32' a ha
    have X' := (X.keeps F24.keep).keeps hk
    have T' := (T.keeps F24.keep).keeps hk
    clear F24 N24 X T
    (repeat' (first | ((with_reducible show Frag.In _ _ ∧ _); walk1) | ((fail_if_success (with_reducible show _ ∧ _)); (fail_if_success (with_reducible show wpAny _ _ (subscriptTail _ _ _ _) _ _ _)); first | (k_unfold; (try dsimp only)) | walk1 | (dsimp only; walk1)) | fail "no step"))
    refine item_s (l := cset) (by decide +kernel) (by show a < 32; exact ha) (by decide) ?_ (by with_unfolding_all rfl)
    intro _ _
    exact ⟨⟨_, rfl⟩, Keeps.rfl'⟩
  -->
  intro D25 H25 tk25 ys25 hD25 hl25 hv25 hk25
  rw [filter_true] at hv25
  obtain ⟨d25, n25, sl25, N25⟩ := news_list F24 N24 hD25 hl25 hk25
  have F25 := F24.keeps hk25
  clear hl25 hk25 hD25 F24 N24
  try dsimp only
  (repeat' (first | ((with_reducible show Frag.In _ _ ∧ _); walk1) | ((fail_if_success (with_reducible show _ ∧ _)); (fail_if_success (with_reducible show wpAny _ _ (call (Value.builtin "str.join") _) _ _ _)); first | (k_unfold; (try dsimp only)) | walk1 | (dsimp only; walk1)) | fail "no step"))
  refine join_n rfl (by walk_at "isl") hv25 (by rw [List.length_map, List.length_cons]; omega) ?_
  intro t26 tk26
  (repeat' (first | ((with_reducible show Frag.In _ _ ∧ _); walk1) | ((fail_if_success (with_reducible show _ ∧ _)); (fail_if_success (with_reducible show wpAny _ _ (binaryOp Operator.Add _ _) _ _ _)); first | (k_unfold; (try dsimp only)) | walk1 | (dsimp only; walk1)) | fail "no step"))
  refine add_s rfl rfl (by simp only [List.length_append, List.length_map, List.length_cons, List.length_nil]; omega) ?_
  intro t27 tk27
  (repeat' (first | ((with_reducible show Frag.In _ _ ∧ _); walk1) | ((fail_if_success (with_reducible show _ ∧ _)); (fail_if_success (with_reducible show wpAny _ _ (compareOp _ _ _) _ _ _)); first | (k_unfold; (try dsimp only)) | walk1 | (dsimp only; walk1)) | fail "no step"))
  refine ne_t ?_
  rw [show (text.take (text.length - 6) != frontOf row ++ [49] ++ (verOf row :: fivesOf row).map (fun d => cset.getD d 0)) = false from by rw [htext, enc_take]; simp]
  (repeat' (first | ((with_reducible show Frag.In _ _ ∧ _); walk1) | ((fail_if_success (with_reducible show _ ∧ _)); (fail_if_success (with_reducible show wpAny _ _ (call (Value.ref _) _) _ _ _)); first | (k_unfold; (try dsimp only)) | walk1 | (dsimp only; walk1)) | fail "no step"))
  refine wpAny_mono (program_spec w mg mb _ _ (verOf row) _ D14 vs16 (fivesOf row) _ (by k_in) (by walk_at "topr") hA (by (repeat rw [deeper_depth]); omega) (by walk_at "isl") I16 (by omega)) ?_ (fun _ _ e => e)
  rintro vg sg ⟨hg, H28, tk28, rfl, hk28⟩
  rename Fr _ _ _ _ => F0
  rename News _ _ _ _ => N0
  obtain ⟨r, hr⟩ : ∃ r, r = programOf (verOf row) (fivesOf row) := ⟨_, rfl⟩
  rw [← hr] at hg
  have N0' := News.sub (news := (L + 1 + 1, o20) :: (L + 1, o6) :: (D14, lobj d16 vs16 c16 sl16) :: (D4, lobj none vr 0 #[]) :: [(45, tabO ps)]) N0 (by intro p hp; simp only [List.mem_cons, List.not_mem_nil, or_false] at hp; rcases hp with rfl | rfl | rfl | rfl | rfl <;> walk_at "memx")
  obtain ⟨gl, hGL, N29⟩ := gotL_of (nd := false) hg F0 N0' (N0'.grown hk28) (fun h => nomatch h)
  have F29 := F0.keeps hk28
  clear F0 N0 N0' hk28
  try dsimp only
  (repeat' (first | ((with_reducible show Frag.In _ _ ∧ _); walk1) | ((fail_if_success (with_reducible show _ ∧ _)); (fail_if_success (with_reducible show wpAny _ _ (call (Value.ref _) _) _ _ _)); first | (k_unfold; (try dsimp only)) | walk1 | (dsimp only; walk1)) | fail "no step"))
  rename Fr _ _ _ _ => F30
  rename News _ _ _ _ => N0
  have N30 := News.sub (news := (L + 1 + 1, o20) :: (L + 1, o6) :: (D14, lobj d16 vs16 c16 sl16) :: (D4, lobj none vr 0 #[]) :: (45, tabO ps) :: gl) N0 (by intro p hp; simp only [List.mem_cons] at hp; rcases hp with rfl | rfl | rfl | rfl | rfl | hp <;> walk_at "memx")
  clear N0
  refine wpAny_mono (decode_spec w mg mb _ _ (frontOf row) text _ _ (some (frontOf row, verOf row :: fivesOf row)) _ (G.big F30 N30 (ps := ps) (by walk_at "memx") htr hbare) hA (by (repeat rw [deeper_depth]); omega) htc (by omega) (htext ▸ LF.dec) (fun p hp => by cases hp; simp)) ?_ (fun _ _ e => e)
  have hdr : decRes (frontOf row) (some (frontOf row, verOf row :: fivesOf row)) = r := (if_pos rfl).trans (LF.seg.trans hr.symm)
  rintro vgot s' ⟨hgot, e, hnd⟩
  rw [hdr] at hgot
  have hcells : ∀ p ∈ (L + 1 + 1, o20) :: (L + 1, o6) :: (D14, lobj d16 vs16 c16 sl16) :: (D4, lobj none vr 0 #[]) :: gl, ∀ fs, p.2.data ≠ .fields fs := by
    intro p hp fs
    simp only [List.mem_cons] at hp
    rcases hp with rfl | rfl | rfl | rfl | hp
    · rw [hd20]; simp
    · rw [hd6]; simp
    · simp
    · simp
    · exact hGL.nofields p hp fs
  obtain ⟨H31, gs31, dr31, tk31, more31, rfl, F31, N31, htr31, hb31, hk31⟩ := Ext.next (ps := ps) (rest := (L + 1 + 1, o20) :: (L + 1, o6) :: (D14, lobj d16 vs16 c16 sl16) :: (D4, lobj none vr 0 #[]) :: gl) G F30 N30 (by walk_at "memx") htr (fun p hp => ⟨by simp only [List.mem_cons] at hp ⊢; rcases hp with rfl | rfl | rfl | rfl | hp <;> simp [*], hcells p hp⟩) e
  obtain ⟨gl2, hGL2, N32⟩ := gotL_of (nd := true) hgot F30 N30 N31 (fun _ => hnd)
  clear F30 N30 N31 e hk31 hgot hnd
  try dsimp only
  (repeat' (first | ((with_reducible show Frag.In _ _ ∧ _); walk1) | ((fail_if_success (with_reducible show _ ∧ _)); (fail_if_success (with_reducible show wpAny _ _ (exec (Stmt.If _ _ _ _) _) _ _ _)); first | (k_unfold; (try dsimp only)) | walk1 | (dsimp only; walk1)) | fail "no step"))
  rename Fr _ _ _ _ => F33
  rename News _ _ _ _ => N33
  refine cut_ledger (fun nx => nx = ((45, tabO (ps ++ more31)) :: (L + 1 + 1, o20) :: (L + 1, o6) :: (D14, lobj d16 vs16 c16 sl16) :: (D4, lobj none vr 0 #[]) :: gl) ++ gl2) F33 N33 ?_ ?_
  --<
  · (repeat' (first | ((with_reducible show Frag.In _ _ ∧ _); walk1) | ((fail_if_success (with_reducible show _ ∧ _)); (fail_if_success (with_reducible show wpAny _ _ (compareOp _ _ _) _ _ _)); first | (k_unfold; (try dsimp only)) | walk1 | (dsimp only; walk1)) | fail "no step"))
    refine ne_pair (hGL2.at N33 (fun p hp => by walk_at "memx")) (hGL.at N33 (fun p hp => by walk_at "memx")) (by rw [deeper_units]; omega) ?_
    rw [show (!decide (r = r)) = false by simp]
    (repeat' (first | ((with_reducible show Frag.In _ _ ∧ _); walk1) | ((fail_if_success (with_reducible show _ ∧ _)); (fail_if_success (with_reducible show wpAny _ _ (subscriptTail _ _ _ _) _ _ _)); first | (k_unfold; (try dsimp only)) | walk1 | (dsimp only; walk1)) | fail "no step"))
    cases r with
    | none =>
      obtain ⟨t2, d2, n2, sl2, rfl, rfl⟩ := hGL2
      refine item_tupleT (l := [.none, .none]) (k := ((0 : Nat) : Int)) (by walk_at "ist") (by decide) (by decide) (seqIdx (by show 0 < 2; decide)) rfl ?_ (by with_unfolding_all rfl)
      (repeat' (first | ((with_reducible show Frag.In _ _ ∧ _); walk1) | ((fail_if_success (with_reducible show _ ∧ _)); first | (k_unfold; (try dsimp only)) | walk1 | (dsimp only; walk1)) | fail "no step"))
      rename Fr _ _ _ _ => Fa
      rename News _ _ _ _ => Na
      exact ⟨trivial, rfl, _, _, _, rfl, Fa, News.sub Na (fun p hp => by walk_at "memx"), rfl⟩
    | some p =>
      obtain ⟨t2, tv2, l2, vs2, d2, n2, sl2, dd2, nn2, ss2, rfl, rfl, _⟩ := hGL2
      refine item_tupleT (l := [.int (p.1 : Int) tv2, .ref l2]) (k := ((0 : Nat) : Int)) (by walk_at "ist") (by decide) (by decide) (seqIdx (by show 0 < 2; decide)) rfl ?_ (by with_unfolding_all rfl)
      (repeat' (first | ((with_reducible show Frag.In _ _ ∧ _); walk1) | ((fail_if_success (with_reducible show _ ∧ _)); first | (k_unfold; (try dsimp only)) | walk1 | (dsimp only; walk1)) | fail "no step"))
      rename Fr _ _ _ _ => Fa
      rename News _ _ _ _ => Na
      exact ⟨trivial, rfl, _, _, _, rfl, Fa, News.sub Na (fun p hp => by walk_at "memx"), rfl⟩
  -->
  clear F33 N33
  rintro H34 tk34 nx34 F34 N34 rfl
  try dsimp only
  (repeat' (first | ((with_reducible show Frag.In _ _ ∧ _); walk1) | ((fail_if_success (with_reducible show _ ∧ _)); (fail_if_success (with_reducible show wpAny _ _ (exec (Stmt.If _ _ _ _) _) _ _ _)); first | (k_unfold; (try dsimp only)) | walk1 | (dsimp only; walk1)) | fail "no step"))
  rename Fr _ _ _ _ => F35
  rename News _ _ _ _ => N35
  refine cut_ledger (fun nx => nx = (45, tabO (ps ++ more31)) :: (L + 1 + 1, o20) :: (L + 1, o6) :: (D14, lobj d16 vs16 c16 sl16) :: (D4, lobj none vr 0 #[]) :: gl) F35 N35 ?_ ?_
  --<
  · cases r with
    | none =>
      obtain ⟨t1, d1, n1, sl1, rfl, rfl⟩ := hGL
      (repeat' (first | ((with_reducible show Frag.In _ _ ∧ _); walk1) | ((fail_if_success (with_reducible show _ ∧ _)); (fail_if_success (with_reducible show wpAny _ _ (subscriptTail _ _ _ _) _ _ _)); first | (k_unfold; (try dsimp only)) | walk1 | (dsimp only; walk1)) | fail "no step"))
      refine item_tupleT (l := [.none, .none]) (k := ((1 : Nat) : Int)) (by walk_at "ist") (by decide) (by decide) (seqIdx (by show 1 < 2; decide)) rfl ?_ (by with_unfolding_all rfl)
      (repeat' (first | ((with_reducible show Frag.In _ _ ∧ _); walk1) | ((fail_if_success (with_reducible show _ ∧ _)); first | (k_unfold; (try dsimp only)) | walk1 | (dsimp only; walk1)) | fail "no step"))
      rename Fr _ _ _ _ => Fa
      rename News _ _ _ _ => Na
      exact ⟨trivial, rfl, _, _, _, rfl, Fa, News.sub Na (fun p hp => by walk_at "memx"), rfl⟩
    | some p =>
      have hpl := prog_len hr
      obtain ⟨t1, tv1, l1, vs1, d1, n1, sl1, dd1, nn1, ss1, rfl, rfl, _, hI1, _, _⟩ := hGL
      obtain ⟨t2, tv2, l2, vs2, d2, n2, sl2, dd2, nn2, ss2, rfl, rfl, hdd2, hI2, hne2, ht2⟩ := hGL2
      obtain rfl := hdd2 rfl
      have hv2 : vs2.length = p.2.length := by have := hI2.length; rw [natv_length] at this; exact this
      (repeat' (first | ((with_reducible show Frag.In _ _ ∧ _); walk1) | ((fail_if_success (with_reducible show _ ∧ _)); (fail_if_success (with_reducible show wpAny _ _ (subscriptTail _ _ _ _) _ _ _)); first | (k_unfold; (try dsimp only)) | walk1 | (dsimp only; walk1)) | fail "no step"))
      refine item_tupleT (l := [.int (p.1 : Int) tv1, .ref l1]) (k := ((1 : Nat) : Int)) (by walk_at "ist") (by decide) (by decide) (seqIdx (by show 1 < 2; decide)) rfl ?_ (by with_unfolding_all rfl)
      (repeat' (first | ((with_reducible show Frag.In _ _ ∧ _); walk1) | ((fail_if_success (with_reducible show _ ∧ _)); (fail_if_success (with_reducible show wpAny _ _ (subscriptTail _ _ _ _) _ _ _)); first | (k_unfold; (try dsimp only)) | walk1 | (dsimp only; walk1)) | fail "no step"))
      refine item_tupleT (l := [.int (p.1 : Int) tv2, .ref l2]) (k := ((1 : Nat) : Int)) (by walk_at "ist") (by decide) (by decide) (seqIdx (by show 1 < 2; decide)) rfl ?_ (by with_unfolding_all rfl)
      (repeat' (first | ((with_reducible show Frag.In _ _ ∧ _); walk1) | ((fail_if_success (with_reducible show _ ∧ _)); (fail_if_success (with_reducible show wpAny _ _ (setItem _ _ _) _ _ _)); first | (k_unfold; (try dsimp only)) | walk1 | (dsimp only; walk1)) | fail "no step"))
      rename Fr _ _ _ _ => Fa
      rename News _ _ _ _ => Na
      have hneR : ∀ q ∈ (t2, tobj d2 #[.int (p.1 : Int) tv2, .ref l2] n2 sl2) :: (45, tabO (ps ++ more31)) :: (L + 1 + 1, o20) :: (L + 1, o6) :: (D14, lobj d16 vs16 c16 sl16) :: (D4, lobj none vr 0 #[]) :: [(t1, tobj d1 #[.int (p.1 : Int) tv1, .ref l1] n1 sl1), (l1, lobj dd1 vs1 nn1 ss1)], q.1 ≠ l2 := by
        intro q hq
        simp only [List.mem_cons, List.not_mem_nil, or_false] at hq
        rcases hq with rfl | rfl | rfl | rfl | rfl | rfl | rfl | rfl
        · exact ht2
        all_goals exact hne2 _ (by simp)
      have NS := News.sub (news := (l2, lobj none vs2 nn2 ss2) :: (t2, tobj d2 #[.int (p.1 : Int) tv2, .ref l2] n2 sl2) :: (45, tabO (ps ++ more31)) :: (L + 1 + 1, o20) :: (L + 1, o6) :: (D14, lobj d16 vs16 c16 sl16) :: (D4, lobj none vr 0 #[]) :: [(t1, tobj d1 #[.int (p.1 : Int) tv1, .ref l1] n1 sl1), (l1, lobj dd1 vs1 nn1 ss1)]) Na (by
        intro q hq
        simp only [List.mem_cons, List.not_mem_nil, or_false] at hq
        rcases hq with rfl | rfl | rfl | rfl | rfl | rfl | rfl | rfl | rfl <;> walk_at "memx")
      refine set_keep Fa NS hneR (by omega) (by decide) ?_
      intro h36 vs36 c36 F36 N36 hl36
      clear Fa Na NS
      (repeat' (first | ((with_reducible show Frag.In _ _ ∧ _); walk1) | ((fail_if_success (with_reducible show _ ∧ _)); (fail_if_success (with_reducible show wpAny _ _ (subscriptTail _ _ _ _) _ _ _)); first | (k_unfold; (try dsimp only)) | walk1 | (dsimp only; walk1)) | fail "no step"))
      refine item_tupleT (l := [.int (p.1 : Int) tv2, .ref l2]) (k := ((1 : Nat) : Int)) (by walk_at "ist") (by decide) (by decide) (seqIdx (by show 1 < 2; decide)) rfl ?_ (by with_unfolding_all rfl)
      (repeat' (first | ((with_reducible show Frag.In _ _ ∧ _); walk1) | ((fail_if_success (with_reducible show _ ∧ _)); (fail_if_success (with_reducible show wpAny _ _ (getMethod (Value.ref _) _ _) _ _ _)); first | (k_unfold; (try dsimp only)) | walk1 | (dsimp only; walk1)) | fail "no step"))
      rename News _ _ _ _ => Nb
      refine getMethod_list_of PySem.F.slot_list_append PySem.F.type_list_append (News.isList Nb (.head _)) ⟨_, (Nb _ (.head _)).1, rfl⟩ ?_
      (repeat' (first | ((with_reducible show Frag.In _ _ ∧ _); walk1) | ((fail_if_success (with_reducible show _ ∧ _)); (fail_if_success (with_reducible show wpAny _ _ (call (Value.builtin _) _) _ _ _)); first | (k_unfold; (try dsimp only)) | walk1 | (dsimp only; walk1)) | fail "no step"))
      rename Fr _ _ _ _ => Fc
      rename News _ _ _ _ => Nc
      refine append_any Fc Nc hneR (by rw [hl36, hv2]; have := programOf_len hr; omega) ?_
      intro h37 d37 vs37 c37 sl37 F37 N37
      (repeat' (first | ((with_reducible show Frag.In _ _ ∧ _); walk1) | ((fail_if_success (with_reducible show _ ∧ _)); first | (k_unfold; (try dsimp only)) | walk1 | (dsimp only; walk1)) | fail "no step"))
      exact ⟨trivial, rfl, _, _, _, rfl, F37, News.sub N37 (fun p hp => by exact List.mem_cons_of_mem _ (List.mem_cons_of_mem _ hp)), rfl⟩
  -->
  clear F35 N35 hGL2
  rintro H38 tk38 nx38 F38 N38 rfl
  try dsimp only
  (repeat' (first | ((with_reducible show Frag.In _ _ ∧ _); walk1) | ((fail_if_success (with_reducible show _ ∧ _)); (fail_if_success (with_reducible show wpAny _ _ (exec (Stmt.Assign _ (Expr.ListComp _ _ _ _) _) _) _ _ _)); first | (k_unfold; (try dsimp only)) | walk1 | (dsimp only; walk1)) | fail "no step"))
  rename Fr _ _ _ _ => F39
  rename News _ _ _ _ => N39
  have htl2 : text.length ≤ 200 := by omega
  refine' comp_fa (as := List.range text.length) (V := NatV) (pz := fun i => up1 (text.getD i 0) != text.getD i 0) (Wt := NatV) (g := fun p => p) natV_inj (by rfl) hA (by rfl) (by decide) rfl (by decide) rfl (by rfl) (by rfl) ?_ (by intro _; rfl)
  (repeat' (first | ((with_reducible show Frag.In _ _ ∧ _); walk1) | ((fail_if_success (with_reducible show _ ∧ _)); first | (k_unfold; (try dsimp only)) | walk1 | (dsimp only; walk1)) | fail "no step"))
  rename Fr _ _ _ _ => F39
  rename News _ _ _ _ => N39
  refine ⟨src_range (by assumption) (rsmall (by omega)) (rsize _), by (rw [List.length_range, show sizeLine = 2 ^ 24 from rfl]; omega), ⟨?_, ?_⟩, _, _, _, F39, N39, ?_⟩
  --<
  · intro C a v H gs dr tk os m₃ E' ha hv hn hm hk hC
    obtain ⟨tv, rfl⟩ := hv
    have ha := List.mem_range.mp ha
    have X' := (X.keeps F39.keep).keeps hk
    have T' := (T.keeps F39.keep).keeps hk
    have HC := (cellAt N39 (by walk_at "memx") hd20).keeps hk
    clear F39 N39 X T
    (repeat' (first | ((with_reducible show Frag.In _ _ ∧ _); walk1) | ((fail_if_success (with_reducible show _ ∧ _)); (fail_if_success (with_reducible show wpAny _ _ (call (Value.builtin "str.upper") _) _ _ _)); first | (k_unfold; (try dsimp only)) | walk1 | (dsimp only; walk1)) | fail "no step"))
    refine upper_t (y := [text.getD a 0]) (by intro c hc; rw [List.mem_singleton.mp hc, List.getD_eq_getElem?_getD, List.getElem?_eq_getElem ha]; have := htc _ (List.getElem_mem ha); simp only [Option.getD_some]; omega) (by show 1 ≤ 100000; decide) ?_
    intro _ _
    (repeat' (first | ((with_reducible show Frag.In _ _ ∧ _); walk1) | ((fail_if_success (with_reducible show _ ∧ _)); (fail_if_success (with_reducible show wpAny _ _ (compareOp _ _ _) _ _ _)); first | (k_unfold; (try dsimp only)) | walk1 | (dsimp only; walk1)) | fail "no step"))
    refine ne_t (a := [text.getD a 0].map up1) (b := [text.getD a 0]) ?_
    rw [show ([text.getD a 0].map up1 != [text.getD a 0]) = (up1 (text.getD a 0) != text.getD a 0) from by rw [Bool.eq_iff_iff]; simp]
    (repeat' (first | ((with_reducible show Frag.In _ _ ∧ _); walk1) | ((fail_if_success (with_reducible show _ ∧ _)); first | (k_unfold; (try dsimp only)) | walk1 | (dsimp only; walk1)) | fail "no step"))
    all_goals exact ⟨by first | rfl | simp [*], _, _, rfl, fun _ _ e => e⟩
  -->
  --<
  · intro C a v H gs dr tk os m₃ E' ha hv hpz hn hm hk hC
    obtain ⟨tv, rfl⟩ := hv
    clear F39 N39 X T
    (repeat' (first | ((with_reducible show Frag.In _ _ ∧ _); walk1) | ((fail_if_success (with_reducible show _ ∧ _)); first | (k_unfold; (try dsimp only)) | walk1 | (dsimp only; walk1)) | fail "no step"))
    exact ⟨⟨_, rfl⟩, _, _, rfl, fun _ _ e => e⟩
  -->
  intro D40 H40 tk40 ys40 hD40 hl40 hv40 hk40 F40 NN40
  rw [List.map_id'] at hv40
  obtain ⟨d40, n40, sl40, N40⟩ := news_listL F39 NN40 hl40 hD40 (ns_there F39.ns)
  have I40 := ints_of_paired hv40
  clear F39 NN40 hl40 hv40 hD40 hk40 N39
  obtain ⟨lets, hlets⟩ : ∃ lets, lets = (List.range text.length).filter (fun i => up1 (text.getD i 0) != text.getD i 0) := ⟨_, rfl⟩
  rw [← hlets] at I40
  have hletl : lets.length ≤ 200 := by rw [hlets]; exact Nat.le_trans (List.length_filter_le _ _) (by rw [List.length_range]; exact htl2)
  have h128 : ∀ c ∈ text, c < 128 := fun c hc => by have := htc c hc; omega
  try dsimp only
  (repeat' (first | ((with_reducible show Frag.In _ _ ∧ _); walk1) | ((fail_if_success (with_reducible show _ ∧ _)); (fail_if_success (with_reducible show wpAny _ _ (exec (Stmt.If _ _ _ _) _) _ _ _)); first | (k_unfold; (try dsimp only)) | walk1 | (dsimp only; walk1)) | fail "no step"))
  rename Fr _ _ _ _ => F41
  rename News _ _ _ _ => N41
  have hcellsD : ∀ (news : List (Addr × Obj)), (∀ p ∈ (L + 1 + 1, o20) :: (L + 1, o6) :: (D14, lobj d16 vs16 c16 sl16) :: (D4, lobj none vr 0 #[]) :: gl, p ∈ news) → ∀ p ∈ (L + 1 + 1, o20) :: (L + 1, o6) :: (D14, lobj d16 vs16 c16 sl16) :: (D4, lobj none vr 0 #[]) :: gl, p ∈ news ∧ ∀ fs, p.2.data ≠ .fields fs := fun news h p hp => ⟨h p hp, hcells p hp⟩
  refine cut_big (ps ++ more31) ["place"] ((L + 1 + 1, o20) :: (L + 1, o6) :: (D14, lobj d16 vs16 c16 sl16) :: (D4, lobj none vr 0 #[]) :: gl) F41 ?_ ?_
  · rcases Nat.lt_or_ge 1 lets.length with h1 | h1
    · have hmod : row.getD 3 0 % lets.length < lets.length := Nat.mod_lt _ (by omega)
      have hpm : lets.getD (row.getD 3 0 % lets.length) 0 ∈ lets := by rw [List.getD_eq_getElem?_getD, List.getElem?_eq_getElem hmod]; exact List.getElem_mem hmod
      have hpm' := hpm
      rw [hlets] at hpm'
      obtain ⟨hpl, hpz⟩ := List.mem_filter.mp hpm'
      have hplt := List.mem_range.mp hpl
      rw [← hlets] at hplt hpz
      clear hpm hpm' hpl
      (repeat' (first | ((with_reducible show Frag.In _ _ ∧ _); walk1) | ((fail_if_success (with_reducible show _ ∧ _)); (fail_if_success (with_reducible show wpAny _ _ (subscriptTail _ (Expr.Slice _ _ _ _) _ _) _ _ _)); first | (k_unfold; (try dsimp only)) | walk1 | (dsimp only; walk1)) | fail "no step"))
      rename Fr _ _ _ _ => F42
      rename News _ _ _ _ => N42
      generalize hpe : lets.getD (row.getD 3 0 % lets.length) 0 = pl at *
      refine slice_to (k := pl) (by omega) (by omega) F42 N42 ?_ (by with_unfolding_all rfl) (by intro _; with_unfolding_all rfl)
      clear F42 N42
      intro H43 t43 tk43 F43 N43
      try dsimp only
      (repeat' (first | ((with_reducible show Frag.In _ _ ∧ _); walk1) | ((fail_if_success (with_reducible show _ ∧ _)); (fail_if_success (with_reducible show wpAny _ _ (call (Value.builtin "str.upper") _) _ _ _)); first | (k_unfold; (try dsimp only)) | walk1 | (dsimp only; walk1)) | fail "no step"))
      have hup : text.getD pl 0 < 128 := by rw [List.getD_eq_getElem?_getD, List.getElem?_eq_getElem hplt]; exact h128 _ (List.getElem_mem hplt)
      refine upper_t (y := [text.getD pl 0]) (by intro c hc; rw [List.mem_singleton.mp hc]; exact hup) (by show 1 ≤ 100000; decide) ?_
      intro t44 tk44
      (repeat' (first | ((with_reducible show Frag.In _ _ ∧ _); walk1) | ((fail_if_success (with_reducible show _ ∧ _)); (fail_if_success (with_reducible show wpAny _ _ (binaryOp Operator.Add _ _) _ _ _)); first | (k_unfold; (try dsimp only)) | walk1 | (dsimp only; walk1)) | fail "no step"))
      refine add_s (a := text.take pl) (b := [up1 (text.getD pl 0)]) rfl rfl (by rw [List.length_take]; simp only [List.length_cons, List.length_nil]; omega) ?_
      intro t45 tk45
      (repeat' (first | ((with_reducible show Frag.In _ _ ∧ _); walk1) | ((fail_if_success (with_reducible show _ ∧ _)); (fail_if_success (with_reducible show wpAny _ _ (subscriptTail _ (Expr.Slice _ _ _ _) _ _) _ _ _)); first | (k_unfold; (try dsimp only)) | walk1 | (dsimp only; walk1)) | fail "no step"))
      rename Fr _ _ _ _ => F46
      rename News _ _ _ _ => N46
      refine slice_from (k := pl + 1) (by omega) (by omega) F46 N46 ?_ (by with_unfolding_all rfl) (by intro _; with_unfolding_all rfl)
      clear F46 N46
      intro H47 t47 tk47 F47 N47
      try dsimp only
      (repeat' (first | ((with_reducible show Frag.In _ _ ∧ _); walk1) | ((fail_if_success (with_reducible show _ ∧ _)); (fail_if_success (with_reducible show wpAny _ _ (binaryOp Operator.Add _ _) _ _ _)); first | (k_unfold; (try dsimp only)) | walk1 | (dsimp only; walk1)) | fail "no step"))
      refine add_s (a := text.take pl ++ [up1 (text.getD pl 0)]) (b := text.drop (pl + 1)) rfl rfl (by rw [List.length_append, List.length_take, List.length_drop]; simp only [List.length_cons, List.length_nil]; omega) ?_
      intro t48 tk48
      (repeat' (first | ((with_reducible show Frag.In _ _ ∧ _); walk1) | ((fail_if_success (with_reducible show _ ∧ _)); (fail_if_success (with_reducible show wpAny _ _ (call (Value.ref _) _) _ _ _)); first | (k_unfold; (try dsimp only)) | walk1 | (dsimp only; walk1)) | fail "no step"))
      rename Fr _ _ _ _ => F49
      rename News _ _ _ _ => N49
      have hup33 : 33 ≤ up1 (text.getD pl 0) ∧ up1 (text.getD pl 0) ≤ 126 := by
        have : 33 ≤ text.getD pl 0 ∧ text.getD pl 0 ≤ 126 := by rw [List.getD_eq_getElem?_getD, List.getElem?_eq_getElem hplt]; exact htc _ (List.getElem_mem hplt)
        unfold up1; split <;> omega
      have hch : ∀ c ∈ text.take pl ++ [up1 (text.getD pl 0)] ++ text.drop (pl + 1), 33 ≤ c ∧ c ≤ 126 := by
        intro c hc
        rcases List.mem_append.mp hc with hc | hc
        · rcases List.mem_append.mp hc with hc | hc
          · exact htc c (List.mem_of_mem_take hc)
          · rw [List.mem_singleton.mp hc]; exact hup33
        · exact htc c (List.mem_of_mem_drop hc)
      have hl2 : (text.take pl ++ [up1 (text.getD pl 0)] ++ text.drop (pl + 1)).length ≤ 1000 := by
        rw [List.length_append, List.length_append, List.length_take, List.length_drop]; simp only [List.length_cons, List.length_nil]; omega
      have hmixd : DecGood (text.take pl ++ [up1 (text.getD pl 0)] ++ text.drop (pl + 1)) none := by
        have h9 := LF.mix pl
        rw [← htext] at h9
        exact h9 hplt (bne_iff_ne.mp hpz) (by rw [← hlets]; exact h1)
      refine wpAny_mono (decode_spec w mg mb _ _ (frontOf row) _ _ _ none _ (G.big F49 N49 (ps := ps ++ more31) (by walk_at "memx") htr31 hb31) hA (by (repeat rw [deeper_depth]); omega) hch hl2 hmixd (fun p hp => by cases hp)) ?_ (fun _ _ e => e)
      rintro v s' ⟨hv, e, _⟩
      obtain ⟨H51, gs51, dr51, tk51, more51, rfl, F51, N51, htr51, hb51, hk51⟩ := Ext.next (ps := ps ++ more31) (rest := (L + 1 + 1, o20) :: (L + 1, o6) :: (D14, lobj d16 vs16 c16 sl16) :: (D4, lobj none vr 0 #[]) :: gl) G F49 N49 (by walk_at "memx") htr31 (hcellsD _ fun p hp => by simp only [List.mem_cons] at hp; rcases hp with rfl | rfl | rfl | rfl | hp <;> walk_at "memx") e
      obtain ⟨gl3, hGL3, N52⟩ := gotL_of (nd := false) hv F49 N49 N51 (fun h => nomatch h)
      clear F49 N49 N51 e hk51 hv
      try dsimp only
      (repeat' (first | ((with_reducible show Frag.In _ _ ∧ _); walk1) | ((fail_if_success (with_reducible show _ ∧ _)); (fail_if_success (with_reducible show wpAny _ _ (compareOp CmpOp.NotEq (Value.ref _) _) _ _ _)); first | (k_unfold; (try dsimp only)) | walk1 | (dsimp only; walk1)) | fail "no step"))
      rename Fr _ _ _ _ => F53
      rename News _ _ _ _ => N53
      refine ne_pair (r := none) (r' := none) (hGL3.at N53 (fun p hp => by walk_at "memx")) ⟨_, rfl, News.isTup N53 (.head _)⟩ (by rw [deeper_units]; omega) ?_
      rw [show (!decide ((none : Option (Nat × List Nat)) = none)) = false from rfl]
      (repeat' (first | ((with_reducible show Frag.In _ _ ∧ _); walk1) | ((fail_if_success (with_reducible show _ ∧ _)); first | (k_unfold; (try dsimp only)) | walk1 | (dsimp only; walk1)) | fail "no step"))
      rename Fr _ _ _ _ => F54
      rename News _ _ _ _ => N54
      exact ⟨trivial, rfl, _, _, _, _, _, more51, rfl, F54, by walk_at "upto", News.sub N54 (fun p hp => by walk_at "memx"), htr51, hb51⟩
    · (repeat' (first | ((with_reducible show Frag.In _ _ ∧ _); walk1) | ((fail_if_success (with_reducible show _ ∧ _)); (fail_if_success (with_reducible show wpAny _ _ (subscriptTail _ (Expr.Slice _ _ _ _) _ _) _ _ _)); first | (k_unfold; (try dsimp only)) | walk1 | (dsimp only; walk1)) | fail "no step"))
      rename Fr _ _ _ _ => F54
      rename News _ _ _ _ => N54
      exact ⟨trivial, rfl, _, _, _, _, _, #[], rfl, F54, .refl, by rw [Array.append_empty]; exact News.sub N54 (fun p hp => by simp only [List.mem_cons] at hp; rcases hp with rfl | rfl | rfl | rfl | rfl | hp <;> walk_at "memx"), by rw [Array.append_empty]; exact htr31, hb31⟩
  clear F41 N41
  intro H50 gs50 dr50 tk50 m50 more50 F50 hU50 N50 htr50 hb50
  try dsimp only
  (repeat' (first | ((with_reducible show Frag.In _ _ ∧ _); walk1) | ((fail_if_success (with_reducible show _ ∧ _)); (fail_if_success (with_reducible show wpAny _ _ (exec (Stmt.If _ _ _ _) _) _ _ _)); first | (k_unfold; (try dsimp only)) | walk1 | (dsimp only; walk1)) | fail "no step"))
  rename Fr _ _ _ _ => F55
  rename News _ _ _ _ => N55
  refine cut_big (ps ++ more31 ++ more50) ["other"] ((L + 1 + 1, o20) :: (L + 1, o6) :: (D14, lobj d16 vs16 c16 sl16) :: (D4, lobj none vr 0 #[]) :: gl) F55 ?_ ?_
  · (repeat' (first | ((with_reducible show Frag.In _ _ ∧ _); walk1) | ((fail_if_success (with_reducible show _ ∧ _)); (fail_if_success (with_reducible show wpAny _ _ (call (Value.builtin "str.upper") _) _ _ _)); first | (k_unfold; (try dsimp only)) | walk1 | (dsimp only; walk1)) | fail "no step"))
    · refine upper_t (y := text) h128 (by omega) ?_
      intro t56 tk56
      (repeat' (first | ((with_reducible show Frag.In _ _ ∧ _); walk1) | ((fail_if_success (with_reducible show _ ∧ _)); (fail_if_success (with_reducible show wpAny _ _ (call (Value.ref _) _) _ _ _)); first | (k_unfold; (try dsimp only)) | walk1 | (dsimp only; walk1)) | fail "no step"))
      rename Fr _ _ _ _ => F57
      rename News _ _ _ _ => N57
      have hchU : ∀ c ∈ text.map up1, 33 ≤ c ∧ c ≤ 126 := fun c hc => by
        obtain ⟨d, hd, rfl⟩ := List.mem_map.mp hc
        have := htc d hd
        unfold up1; split <;> omega
      refine wpAny_mono (decode_spec w mg mb _ _ (frontOf row) (text.map up1) _ _ (some (frontOf row, verOf row :: fivesOf row)) _ (G.big F57 N57 (ps := ps ++ more31 ++ more50) (by walk_at "memx") htr50 hb50) hA (by (repeat rw [deeper_depth]); omega) hchU (by rw [List.length_map]; omega) (htext ▸ LF.upp) (fun p hp => by cases hp; simp)) ?_ (fun _ _ e => e)
      rintro v s' ⟨hv, e, _⟩
      rw [hdr] at hv
      obtain ⟨H58, gs58, dr58, tk58, more58, rfl, F58, N58, htr58, hb58, hk58⟩ := Ext.next (ps := ps ++ more31 ++ more50) (rest := (L + 1 + 1, o20) :: (L + 1, o6) :: (D14, lobj d16 vs16 c16 sl16) :: (D4, lobj none vr 0 #[]) :: gl) G F57 N57 (by walk_at "memx") htr50 (hcellsD _ fun p hp => by simp only [List.mem_cons] at hp; rcases hp with rfl | rfl | rfl | rfl | hp <;> walk_at "memx") e
      obtain ⟨gl3, hGL3, N59⟩ := gotL_of (nd := false) hv F57 N57 N58 (fun h => nomatch h)
      clear F57 N57 N58 e hk58 hv
      try dsimp only
      (repeat' (first | ((with_reducible show Frag.In _ _ ∧ _); walk1) | ((fail_if_success (with_reducible show _ ∧ _)); (fail_if_success (with_reducible show wpAny _ _ (compareOp _ _ _) _ _ _)); first | (k_unfold; (try dsimp only)) | walk1 | (dsimp only; walk1)) | fail "no step"))
      rename Fr _ _ _ _ => F60
      rename News _ _ _ _ => N60
      refine ne_pair (hGL3.at N60 (fun p hp => by walk_at "memx")) (hGL.at N60 (fun p hp => by walk_at "memx")) (by rw [deeper_units]; omega) ?_
      rw [show (!decide (r = r)) = false by simp]
      (repeat' (first | ((with_reducible show Frag.In _ _ ∧ _); walk1) | ((fail_if_success (with_reducible show _ ∧ _)); (fail_if_success (with_reducible show wpAny _ _ (eval (Expr.IfExp _ _ _ _) _) _ _ _)); first | (k_unfold; (try dsimp only)) | walk1 | (dsimp only; walk1)) | fail "no step"))
      have hf128 : ∀ c ∈ frontOf row, c < 128 := fun c hc => by have := hfc c hc; omega
      rename Fr _ _ _ _ => F61
      rename News _ _ _ _ => N61
      refine cut_val (fun v => ∃ oth t, v = .str (tx oth) t ∧ oth ≠ frontOf row) F61 N61 ?_ ?_
      · (repeat' (first | ((with_reducible show Frag.In _ _ ∧ _); walk1) | ((fail_if_success (with_reducible show _ ∧ _)); (fail_if_success (with_reducible show wpAny _ _ (call (Value.builtin "str.upper") _) _ _ _)); (fail_if_success (with_reducible show wpAny _ _ (binaryOp Operator.Add _ _) _ _ _)); first | (k_unfold; (try dsimp only)) | walk1 | (dsimp only; walk1)) | fail "no step"))
        repeat' (first
          | (refine upper_t (y := frontOf row) hf128 (by omega) ?_; intro _ _; (repeat' (first | ((with_reducible show Frag.In _ _ ∧ _); walk1) | ((fail_if_success (with_reducible show _ ∧ _)); (fail_if_success (with_reducible show wpAny _ _ (call (Value.builtin "str.upper") _) _ _ _)); (fail_if_success (with_reducible show wpAny _ _ (binaryOp Operator.Add _ _) _ _ _)); first | (k_unfold; (try dsimp only)) | walk1 | (dsimp only; walk1)) | fail "no step")))
          | (refine add_s (a := [120]) (b := frontOf row) (by decide +kernel) rfl (by simp only [List.length_cons, List.length_nil]; omega) ?_; intro _ _; (repeat' (first | ((with_reducible show Frag.In _ _ ∧ _); walk1) | ((fail_if_success (with_reducible show _ ∧ _)); (fail_if_success (with_reducible show wpAny _ _ (call (Value.builtin "str.upper") _) _ _ _)); (fail_if_success (with_reducible show wpAny _ _ (binaryOp Operator.Add _ _) _ _ _)); first | (k_unfold; (try dsimp only)) | walk1 | (dsimp only; walk1)) | fail "no step"))))
        all_goals
          rename Fr _ _ _ _ => Fa
          rename News _ _ _ _ => Na
          first
            | exact ⟨trivial, _, _, rfl, ⟨_, _, rfl, bne_iff_ne.mp (by assumption)⟩, Fa, Na⟩
            | exact ⟨trivial, _, _, rfl, ⟨_, _, rfl, fun h => by have := congrArg List.length h; simp at this⟩, Fa, Na⟩
      clear F61 N61
      rintro v62 h62 tk62 ⟨oth, t62, rfl, hoth⟩ F62 N62
      try dsimp only
      (repeat' (first | ((with_reducible show Frag.In _ _ ∧ _); walk1) | ((fail_if_success (with_reducible show _ ∧ _)); (fail_if_success (with_reducible show wpAny _ _ (call (Value.ref _) _) _ _ _)); first | (k_unfold; (try dsimp only)) | walk1 | (dsimp only; walk1)) | fail "no step"))
      rename Fr _ _ _ _ => F63
      rename News _ _ _ _ => N63
      refine wpAny_mono (decode_spec w mg mb _ _ oth text _ _ (some (frontOf row, verOf row :: fivesOf row)) _ (G.big F63 N63 (ps := ps ++ more31 ++ more50 ++ more58) (by walk_at "memx") htr58 hb58) hA (by (repeat rw [deeper_depth]); omega) htc (by omega) (htext ▸ LF.dec) (fun p hp => by cases hp; simp)) ?_ (fun _ _ e => e)
      rintro v s' ⟨hv, e, _⟩
      rw [show decRes oth (some (frontOf row, verOf row :: fivesOf row)) = none from if_neg fun q => hoth q.symm] at hv
      obtain ⟨H64, gs64, dr64, tk64, more64, rfl, F64, N64, htr64, hb64, hk64⟩ := Ext.next (ps := ps ++ more31 ++ more50 ++ more58) (rest := (L + 1 + 1, o20) :: (L + 1, o6) :: (D14, lobj d16 vs16 c16 sl16) :: (D4, lobj none vr 0 #[]) :: gl) G F63 N63 (by walk_at "memx") htr58 (hcellsD _ fun p hp => by simp only [List.mem_cons] at hp; rcases hp with rfl | rfl | rfl | rfl | hp <;> walk_at "memx") e
      obtain ⟨gl4, hGL4, N65⟩ := gotL_of (nd := false) hv F63 N63 N64 (fun h => nomatch h)
      clear F63 N63 N64 e hk64 hv
      try dsimp only
      (repeat' (first | ((with_reducible show Frag.In _ _ ∧ _); walk1) | ((fail_if_success (with_reducible show _ ∧ _)); (fail_if_success (with_reducible show wpAny _ _ (compareOp CmpOp.NotEq (Value.ref _) _) _ _ _)); first | (k_unfold; (try dsimp only)) | walk1 | (dsimp only; walk1)) | fail "no step"))
      rename Fr _ _ _ _ => F66
      rename News _ _ _ _ => N66
      refine ne_pair (r := none) (r' := none) (hGL4.at N66 (fun p hp => by walk_at "memx")) ⟨_, rfl, News.isTup N66 (.head _)⟩ (by rw [deeper_units]; omega) ?_
      rw [show (!decide ((none : Option (Nat × List Nat)) = none)) = false from rfl]
      (repeat' (first | ((with_reducible show Frag.In _ _ ∧ _); walk1) | ((fail_if_success (with_reducible show _ ∧ _)); first | (k_unfold; (try dsimp only)) | walk1 | (dsimp only; walk1)) | fail "no step"))
      rename Fr _ _ _ _ => F67
      rename News _ _ _ _ => N67
      exact ⟨trivial, rfl, _, _, _, _, _, more58 ++ more64, rfl, F67, by walk_at "upto", by rw [← Array.append_assoc]; exact News.sub N67 (fun p hp => by walk_at "memx"), by rw [← Array.append_assoc]; exact htr64, hb64⟩
    · rename Fr _ _ _ _ => F67
      rename News _ _ _ _ => N67
      exact ⟨trivial, rfl, _, _, _, _, _, #[], rfl, F67, .refl, by rw [Array.append_empty]; exact News.sub N67 (fun p hp => by simp only [List.mem_cons] at hp; rcases hp with rfl | rfl | rfl | rfl | rfl | hp <;> walk_at "memx"), by rw [Array.append_empty]; exact htr50, hb50⟩
  clear F55 N55
  intro H70 gs70 dr70 tk70 m70 more70 F70 hU70 N70 htr70 hb70
  try dsimp only
  (repeat' (first | ((with_reducible show Frag.In _ _ ∧ _); walk1) | ((fail_if_success (with_reducible show _ ∧ _)); (fail_if_success (with_reducible show wpAny _ _ (call (Value.ref _) _) _ _ _)); first | (k_unfold; (try dsimp only)) | walk1 | (dsimp only; walk1)) | fail "no step"))
  refine wpAny_mono (octets_spec w mg mb _ _ D14 vs16 (fivesOf row) _ (by k_in) (by walk_at "topr") hA (by (repeat rw [deeper_depth]); omega) (by walk_at "isl") I16 (by omega)) ?_ (fun _ _ e => e)
  rintro vo so ⟨ho, H71, tk71, rfl, hk71⟩
  rename Fr _ _ _ _ => F0
  rename News _ _ _ _ => N0
  have hpsT : ∃ more, ps ++ more31 ++ more50 ++ more70 = ps ++ more := ⟨more31 ++ more50 ++ more70, by simp only [Array.append_assoc]⟩
  cases hoc : octetsOf (fivesOf row) with
  | none =>
    rw [hoc] at ho
    obtain rfl : vo = .none := ho
    have F72 := F0.keeps hk71
    have N72 := N0.grown hk71
    clear F0 N0 hk71
    try dsimp only
    (repeat' (first | ((with_reducible show Frag.In _ _ ∧ _); walk1) | ((fail_if_success (with_reducible show _ ∧ _)); (fail_if_success (with_reducible show wpAny _ _ (eval (Expr.IfExp _ _ _ _) _) _ _ _)); first | (k_unfold; (try dsimp only)) | walk1 | (dsimp only; walk1)) | fail "no step"))
    rename Fr _ _ _ _ => F73
    rename News _ _ _ _ => N73
    refine cut_val (fun v => ∃ k t, v = .int k t ∧ ¬ okFb 8 k) F73 N73 ?_ ?_
    · (repeat' (first | ((with_reducible show Frag.In _ _ ∧ _); walk1) | ((fail_if_success (with_reducible show _ ∧ _)); first | (k_unfold; (try dsimp only)) | walk1 | (dsimp only; walk1)) | fail "no step"))
      all_goals
        rename Fr _ _ _ _ => Fa
        rename News _ _ _ _ => Na
        first
          | exact ⟨trivial, _, _, rfl, ⟨_, _, rfl, fun h => absurd h.2 (by have : (2 : Nat) ^ 8 = 256 := rfl; omega)⟩, Fa, Na⟩
          | exact ⟨trivial, _, _, rfl, ⟨_, _, rfl, fun h => absurd h.1 (by omega)⟩, Fa, Na⟩
    clear F73 N73
    rintro v74 h74 tk74 ⟨k74, t74, rfl, hk74⟩ F74 N74
    try dsimp only
    (repeat' (first | ((with_reducible show Frag.In _ _ ∧ _); walk1) | ((fail_if_success (with_reducible show _ ∧ _)); (fail_if_success (with_reducible show wpAny _ _ (call (Value.ref _) _) _ _ _)); first | (k_unfold; (try dsimp only)) | walk1 | (dsimp only; walk1)) | fail "no step"))
    rename Fr _ _ _ _ => F75
    rename News _ _ _ _ => N75
    have hcbn : cbOf 8 5 true [((verOf row : Nat) : Int), k74] = none := cbOf_bad (.tail _ (.head _)) hk74
    refine wpAny_mono (encode_spec w mg mb _ _ (frontOf row) _ _ (verOf row) [((verOf row : Nat) : Int), k74] _ (fun _ => none) _ (G.big F75 N75 (ps := ps ++ more31 ++ more50 ++ more70) (by walk_at "memx") htr70 hb70) hA (by (repeat rw [deeper_depth]); omega) (by rw [deeper_units]; omega) hfc (by omega) hv32 (by simp) ?hs ?hr) ?_ (fun _ _ e => e)
    case hr => intro five h; rw [hcbn] at h; cases h
    case hs =>
      intro g s₁ hk1 hk2
      have TH := G.tab _ _ F75.keep (N75 (45, tabO (ps ++ more31 ++ more50 ++ more70)) (by walk_at "memx")).1 htr70
      exact src_listG (isList_but TH hk1 (by walk_at "isl")) hk2 (paired_ints (.cons _ _ (.cons _ _ .nil)))
    rintro v s' ⟨hv, e⟩
    rw [hcbn] at hv
    obtain rfl : v = .none := hv
    obtain ⟨H76, gs76, dr76, tk76, more76, rfl, F76, N76, htr76, hb76, hk76⟩ := Ext.next (ps := ps ++ more31 ++ more50 ++ more70) (rest := []) G F75 N75 (by walk_at "memx") htr70 (fun p hp => nomatch hp) e
    clear F75 N75 e hk76
    try dsimp only
    (repeat' (first | ((with_reducible show Frag.In _ _ ∧ _); walk1) | ((fail_if_success (with_reducible show _ ∧ _)); first | (k_unfold; (try dsimp only)) | walk1 | (dsimp only; walk1)) | fail "no step"))
    rename Fr _ _ _ _ => F77
    rename News _ _ _ _ => N77
    exact ⟨rfl, Ext.of T0 F77 N77 (ps' := ps ++ more31 ++ more50 ++ more70 ++ more76) (by walk_at "memx") ⟨more31 ++ more50 ++ more70 ++ more76, by simp only [Array.append_assoc]⟩ htr76 hb76 rfl⟩
  | some octs =>
    rw [hoc] at ho
    obtain ⟨lO, vO, rfl, hlO, IO, hnO⟩ := ho
    obtain ⟨dO, nO, slO, N72⟩ := news_list F0 N0 hnO hlO hk71
    have F72 := F0.keeps hk71
    obtain ⟨hcb, h256⟩ := LF.oct octs hoc
    have hol := octetsOf_len hoc
    clear F0 N0 hk71 hnO hlO
    try dsimp only
    (repeat' (first | ((with_reducible show Frag.In _ _ ∧ _); walk1) | ((fail_if_success (with_reducible show _ ∧ _)); (fail_if_success (with_reducible show wpAny _ _ (call (Value.ref _) _) _ _ _)); first | (k_unfold; (try dsimp only)) | walk1 | (dsimp only; walk1)) | fail "no step"))
    rename Fr _ _ _ _ => F75
    rename News _ _ _ _ => N75
    refine wpAny_mono (made_spec w mg mb _ _ (frontOf row) text _ _ _ _ (verOf row) (row.getD 3 0 % 3) octs (fivesOf row) lO vO vg r _ (G.big F75 N75 (ps := ps ++ more31 ++ more50 ++ more70) (by walk_at "memx") htr70 hb70) hA (by (repeat rw [deeper_depth]); omega) (by rw [deeper_units]; omega) hfc (by omega) hv32 (by omega) h256 (by walk_at "isl") IO (hGL.at N75 (fun p hp => by walk_at "memx")) (Nat.mod_lt _ (by decide))
      (fun hne _ five hf => LF.hup hne five (cb85_ok hf).1) hcb LF.dec (LF.seg.trans hr.symm) htext) ?_ (fun _ _ e => e)
    rintro v s' ⟨rfl, e⟩
    obtain ⟨H76, gs76, dr76, tk76, more76, rfl, F76, N76, htr76, hb76, hk76⟩ := Ext.next (ps := ps ++ more31 ++ more50 ++ more70) (rest := []) G F75 N75 (by walk_at "memx") htr70 (fun p hp => nomatch hp) e
    clear F75 N75 e hk76
    try dsimp only
    (repeat' (first | ((with_reducible show Frag.In _ _ ∧ _); walk1) | ((fail_if_success (with_reducible show _ ∧ _)); first | (k_unfold; (try dsimp only)) | walk1 | (dsimp only; walk1)) | fail "no step"))
    rename Fr _ _ _ _ => F77
    rename News _ _ _ _ => N77
    exact ⟨rfl, Ext.of T0 F77 N77 (ps' := ps ++ more31 ++ more50 ++ more70 ++ more76) (by walk_at "memx") ⟨more31 ++ more50 ++ more70 ++ more76, by simp only [Array.append_assoc]⟩ htr76 hb76 rfl⟩
end Mine
namespace Mine
theorem Ext.oldK {w : World} {mg mb : Str → Option Value} {s s' : Shared} (B : Big w mg mb s) (e : Ext s s') : OldK s.heap s'.heap := by
  obtain ⟨ps, T0⟩ := B.tab
  obtain ⟨more, T1⟩ := e.tab ps T0
  refine ⟨fun b o h => ?_, fun b o h => ?_⟩
  · by_cases hb : b = 45
    · subst hb
      obtain rfl : tabO ps = o := Option.some.inj (T0.2.2.symm.trans h)
      exact .inr (.inl ⟨T0.2.isCodeTable, rfl, ps, more, rfl, T1.2.2⟩)
    · exact .inl (e.keep b o hb h)
  · by_cases hb : b = 45
    · subst hb; exact ⟨_, T1.2.2⟩
    · exact ⟨o, e.keep b o hb h⟩
theorem k_law (w : World) : nsIn (hd.heap_39 w.params) mainGlobals (Str.ofString "law") = some (some (.ref 109)) := by rfl
theorem k_dec (w : World) : nsIn (hd.heap_39 w.params) mainGlobals (Str.ofString "bech32_decode") = some (some (.ref 48)) := by rfl
def codeOf48 (o : Obj) : Value := match o.data with | .func fd => fd.code | _ => .none
def placesOf (o : Obj) : Value := match o.data with | .fields vs => vs.getD 11 .none | _ => .none
theorem k_48 (w : World) : ((hd.heap_39 w.params).lookup 48).map codeOf48 = some (.ref 47) := by rfl
theorem k_47 (w : World) : ((hd.heap_39 w.params).lookup 47).map placesOf = some (.ref 45) := by rfl
theorem rec_dec : ∃ d ∈ recsOf hd.view_39, d.name = Str.ofString "bech32_decode" := by
  have h : ((recsOf hd.view_39).find? fun d => d.name == Str.ofString "bech32_decode").isSome = true := by rfl
  obtain ⟨d, hd⟩ := Option.isSome_iff_exists.mp h
  exact ⟨d, List.mem_of_find?_eq_some hd, by simpa using List.find?_some hd⟩
theorem big_of {w : World} {mean : ExcName → Option Value} {mg mb : Str → Option Value} {s : Shared} (KX : (hd.heap_39 w.params).In s.heap) (T : Top hd.view_39 loo mean mg mb s.heap) (hg : s.gens = #[]) : Big w mg mb s := by
  have TR := topRead_of T
  refine ⟨KX, TR, ?_, ?_, fun y hy => by rw [hg] at hy; simp at hy⟩
  · obtain ⟨bm, ob, a, b, c, d, e, f⟩ := T.bmain
    exact ⟨bm, ob, T.g, a, b, c, d, e, f⟩
  · obtain ⟨d, hdm, hn⟩ := rec_dec
    obtain ⟨a, o, fd, c, P, h1, h2, h3, h4, hI, hT⟩ := T.tab d hdm
    rw [hn, mg_of KX T.g (k_dec w)] at h1
    cases h1
    have e48 : ∃ o', (_root_.hd.heap_39 w.params).lookup 48 = some o' ∧ codeOf48 o' = .ref 47 := by
      have := k_48 w
      cases h : (_root_.hd.heap_39 w.params).lookup 48 with
      | none => rw [h] at this; cases this
      | some o' => rw [h] at this; exact ⟨o', rfl, Option.some.inj this⟩
    have e47 : ∃ o', (_root_.hd.heap_39 w.params).lookup 47 = some o' ∧ placesOf o' = .ref 45 := by
      have := k_47 w
      cases h : (_root_.hd.heap_39 w.params).lookup 47 with
      | none => rw [h] at this; cases this
      | some o' => rw [h] at this; exact ⟨o', rfl, Option.some.inj this⟩
    obtain ⟨o48, l48, c48⟩ := e48
    obtain ⟨o47, l47, c47⟩ := e47
    obtain rfl : o = o48 := Option.some.inj (h2.symm.trans (KX 48 o48 l48))
    have hc : c = 47 := by
      unfold codeOf48 at c48
      rw [h3] at c48
      have := h4.symm.trans c48
      cases this; rfl
    subst hc
    have hP : P = 45 := by
      obtain ⟨⟨oc, vs, hoc, _, hdat, h11⟩, _⟩ := hT
      obtain rfl : oc = o47 := Option.some.inj (hoc.symm.trans (KX 47 o47 l47))
      unfold placesOf at c47
      rw [hdat] at c47
      have h11' : vs.getD 11 .none = .ref P := by simp [Array.getD_eq_getD_getElem?, h11]
      have c47' : vs.getD 11 .none = .ref 45 := c47
      rw [h11'] at c47'
      cases c47'; rfl
    subst hP
    exact ⟨#[], hI, hT⟩
end Mine
open Mine
set_option maxRecDepth 100000 in
set_option maxHeartbeats 8000000 in
theorem PySem.Challenge.cw_fw0006_01_holds : PySem.Challenge.rw_fw0006_01.Holds := by
  refine _root_.hd (?_)
  intro w s₀ s₁ mg mb G Y fa o pm cd doc dV kV ho hd hcd hD hmg hg args vals as hpre hlay hrd hwl hlo
  have KX := kIn_of Y
  refine Ground.open G ?_
  intro T B D TE TW
  clear ho hd hcd hD Y
  wrow_args hpre hlay hrd hwl hlo
  have h109 := mg_of KX T.g (k_law w)
  have hfa : fa = 109 := by
    have e := (show mg (Str.ofString "law") = some (.ref fa) from hmg).symm.trans h109
    cases e; rfl
  subst hfa
  have BG : Big w mg mb s₁ := big_of KX T hg
  rename IntsAre _ _ => hI
  rename Heap.IsList _ _ _ => hL
  rename ¬ _ < _ => hlen
  refine wpAny_mono (law_spec w mg mb callerA s₁ _ _ _ _ BG rfl (by decide) (by decide) hL hI (by omega) (law_facts _)) ?_ (fun _ _ e => e)
  rintro v s' ⟨rfl, e⟩
  exact ⟨.inl ⟨.bool true, .bool true, [], rfl, fun _ => rfl, .bool true, by first | with_unfolding_all rfl | decide, fun _ => ⟨.nil, fun a ha => nomatch ha⟩⟩, e.oldK BG, e.os, e.bare⟩
