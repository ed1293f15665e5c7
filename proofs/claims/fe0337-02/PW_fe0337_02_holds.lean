import PyProof.Rows.All
import Wide.All
import OpenK.AllK
import Wide.FinOn
import PySem.Challenge.RW_fe0337_02
open PySem PySem.W PyProof.Rows PySem.Spec PySem.Calls
set_option Elab.async false
set_option maxRecDepth 100000
set_option maxHeartbeats 8000000
set_option linter.unusedVariables false
namespace Mine
open_top hd for PySem.Challenge.rw_fe0337_02
end Mine
namespace Mine
theorem pk_entry : entryFor table "_struct.pack" = some Builtin.«_struct.pack» := entryFor_of_fast (by kernel_rfl)
theorem pk_args (a b : Value) : argsOk "_struct.pack" ⟨[a, b], []⟩ := by unfold argsOk; kernel_rfl
theorem pk_kind : builtinKind "_struct.pack" = none := by decide +kernel
theorem pk_plain : plainId "_struct.pack" = true := by decide +kernel

theorem pack_B {prog : Program} {w : World} {A : Around} {E : Value → Shared → Prop} {s : Shared} {i : Int} {t u : Tok} {Q : Value → Shared → Prop}
    (h0 : 0 ≤ i) (h1 : i < 256) (h : Q (.bytes #[UInt8.ofNat i.toNat] s.toks) { s with toks := s.toks + 1 }) :
    wpAny (model prog w) A (call (.builtin "_struct.pack") [.str (PySem.Str.ofString "B") t, .int i u]) Q E s := by
  refine call_function_entry pk_kind pk_plain pk_entry (pk_args _ _) ?_
  have hm : Builtin.Struct.moduleFormat (.str (PySem.Str.ofString "B") t) = pure ⟨false, true, [⟨'B', 1, 0, 1⟩], 1, 1⟩ := by kernel_rfl
  show wpAny _ _ (Builtin.Struct.moduleFormat (.str (PySem.Str.ofString "B") t) >>= fun f => Builtin.Struct.packed "_struct.pack" "pack" f [.int i u]) _ _ _
  rw [hm]
  refine wpAny_bind (wpAny_pure ?_)
  have ex : (decide (i < 0) || decide (i > 255)) = false := by
    rw [decide_eq_false (show ¬ (i < 0) by omega), decide_eq_false (show ¬ (i > 255) by omega)]; rfl
  unfold Builtin.Struct.packed
  refine wpAny_ite_false (by rfl) ?_
  unfold Builtin.Struct.packEach
  simp only [List.forIn_cons, List.forIn_nil]
  simp [-bind_pure_comp, -pure_bind]
  refine wpAny_ite_false (by rfl) ?_
  refine wpAny_bind (wpAny_of_eq (a := #[UInt8.ofNat i.toNat]) ?_ ?_)
  · show (if (decide (i < (0:Int)) || decide (i > ((2:Int)^(8*1) - 1))) = true then _ else pure (Builtin.Struct.intBytes false 1 i)) = _
    rw [if_neg (by rw [show ((2:Int)^(8*1) - 1) = 255 from rfl, ex]; exact Bool.false_ne_true)]
    obtain ⟨n, rfl⟩ := Int.eq_ofNat_of_zero_le h0
    have hn : n < 256 := by omega
    have e1 : (((n : Int) % 2 ^ (8 * 1)).toNat) = n := by
      rw [show ((2:Int) ^ (8*1)) = 256 from rfl]; omega
    have e2 : Builtin.Struct.intBytes false 1 ((n : Nat) : Int) = #[UInt8.ofNat n] := by
      show Builtin.Memoryview.toLittleEndian 1 (((n : Int) % 2 ^ (8 * 1)).toNat) = _
      rw [e1]
      show #[(n / 1 % 256).toUInt8] = _
      rw [Nat.div_one, Nat.mod_eq_of_lt hn]
    show (pure (Builtin.Struct.intBytes false 1 ((n : Nat) : Int)) : Sem (Array UInt8)) = pure #[UInt8.ofNat n]
    rw [e2]
  · refine wpAny_bind (wpAny_pure ?_)
    refine wpAny_bind (wpAny_pure ?_)
    refine wpAny_bind (wpAny_pure ?_)
    refine wpAny_bind (wpAny_pure ?_)
    refine wpAny_bind (wpAny_pure ?_)
    refine wpAny_bind (wpAny_pure ?_)
    refine wpAny_bind (wpAny_mkBytes ?_ (by show (1 : Nat) ≤ sizeLine; rw [sizeLine_eq]; omega))
    refine wpAny_pure ⟨_, rfl, ?_⟩
    exact h
end Mine
namespace Mine
abbrev Led := List (Addr × Obj)
@[irreducible] def pk (c : Bool) (i j : Int) : Int := bif c then i else j
def bit (n : Int) (k : Nat) : Bool := decide (n / 2 ^ k % 2 = 1)
section
variable {M : Model} {A : Around} {E : Value → Shared → Prop} {s : Shared} {env : Env}
theorem ifexp_ints {test : PySem.Expr} {i j : Int} {k1 k2 p1 p2 pos} {Q : Value → Shared → Prop}
    (h : wpAny M A (isTrue test env (eval test env)) (fun c s₂ => Q (.int (pk c i j) s₂.toks) { s₂ with toks := s₂.toks + 1 }) E s) :
    wpAny M A (eval (.IfExp test (.Constant (.int i) k1 p1) (.Constant (.int j) k2 p2) pos) env) Q E s := by
  refine IfExp_ (wpAny_mono h (fun c s₂ h₂ => ?_) fun _ _ x => x)
  unfold pk at h₂
  cases c
  · exact wpAny_Constant_int h₂
  · exact wpAny_Constant_int h₂
theorem ifexp_bools {test : PySem.Expr} {k1 k2 p1 p2 pos} {Q : Value → Shared → Prop}
    (h : wpAny M A (isTrue test env (eval test env)) (fun c s₂ => Q (.bool c) s₂) E s) :
    wpAny M A (eval (.IfExp test (.Constant (.bool true) k1 p1) (.Constant (.bool false) k2 p2) pos) env) Q E s := by
  refine IfExp_ (wpAny_mono h (fun c s₂ h₂ => ?_) fun _ _ x => x)
  cases c
  · exact Constant_bool h₂
  · exact Constant_bool h₂
end
theorem bit_and (n : Int) (k : Nat) (q : Int) (hq : q = 2 ^ k) : decide (Builtin.bitAnd n q > 0) = bit n k := by
  subst hq
  rw [kbt_bit]
  unfold bit
  have hp := kbt_pos k
  have h2 : n / 2 ^ k % 2 = 0 ∨ n / 2 ^ k % 2 = 1 := by omega
  rcases h2 with h | h <;> rw [h]
  · simp
  · simp [hp]
section
variable {h₀ h' : Heap} {L : Addr} {m : PySem.Str → Option Value} {news news' : Led} {s : Shared} {Q : Value → Shared → Prop} {t : Tok} {tk' : Nat}
theorem end_int {x y : Int} (hret : ∀ (t : Tok) (h' : Heap) (tk' : Nat), Fr h₀ L h' m → News h₀ L h' news → Q (.int x t) { s with heap := h', toks := tk' }) (e : y = x) (F : Fr h₀ L h' m) (N : News h₀ L h' news') (hs : ∀ p ∈ news, p ∈ news') :
    Q (.int y t) { s with heap := h', toks := tk' } := by
  subst e
  exact hret t h' tk' F fun p hp => N p (hs p hp)
theorem end_bytes {x y : Array UInt8} (hret : ∀ (t : Tok) (h' : Heap) (tk' : Nat), Fr h₀ L h' m → News h₀ L h' news → Q (.bytes x t) { s with heap := h', toks := tk' }) (e : y = x) (F : Fr h₀ L h' m) (N : News h₀ L h' news') (hs : ∀ p ∈ news, p ∈ news') :
    Q (.bytes y t) { s with heap := h', toks := tk' } := by
  subst e
  exact hret t h' tk' F fun p hp => N p (hs p hp)
theorem end_bool {x y : Bool} (hret : ∀ (h' : Heap) (tk' : Nat), Fr h₀ L h' m → News h₀ L h' news → Q (.bool x) { s with heap := h', toks := tk' }) (e : y = x) (F : Fr h₀ L h' m) (N : News h₀ L h' news') (hs : ∀ p ∈ news, p ∈ news') :
    Q (.bool y) { s with heap := h', toks := tk' } := by
  subst e
  exact hret h' tk' F fun p hp => N p (hs p hp)
theorem news_cons {q : Addr × Obj} (hq : q ∈ news) (N : News h₀ L h' news) : News h₀ L h' (q :: news) := fun p hp => (List.mem_cons.mp hp).elim (fun e => e ▸ N q hq) fun h => N p h
theorem news_apart {x d : Addr} {ox od : Obj} (N : News h₀ L h' news) (hx : (x, ox) ∈ news) (hd : (d, od) ∈ news) (hne : ox.cls ≠ od.cls) : x ≠ d := fun e => by
  have a := (N _ hx).1
  have b := (N _ hd).1
  dsimp only at a b
  rw [e, b] at a
  exact hne (congrArg Obj.cls (Option.some.inj a).symm)
theorem upd_back {x d : Addr} {ox o o' : Obj} {rest : Led} (U : Upd d o o' news news') (N : News h₀ L h' ((x, ox) :: (d, o') :: rest)) (hr : ∀ p ∈ news, p.1 ≠ d → p ∈ rest) : News h₀ L h' news' := by
  obtain ⟨pre, post, e1, e2, h1, h2⟩ := U.split
  subst e1 e2
  intro p hp
  rcases List.mem_append.mp hp with h | h
  · exact N p (.tail _ (.tail _ (hr p (List.mem_append.mpr (.inl h)) (h1 p h))))
  · rcases List.mem_cons.mp h with e | h
    · subst e; exact N _ (.tail _ (.head _))
    · exact N p (.tail _ (.tail _ (hr p (List.mem_append.mpr (.inr (.tail _ h))) (h2 p h))))
theorem end_none {x d : Addr} {ox o o' : Obj} {rest : Led} (hret : ∀ (h' : Heap) (tk' : Nat), Fr h₀ L h' m → News h₀ L h' news' → Q .none { s with heap := h', toks := tk' }) (U : Upd d o o' news news') (F : Fr h₀ L h' m) (N : News h₀ L h' ((x, ox) :: (d, o') :: rest))
    (hr : ∀ p ∈ news, p.1 ≠ d → p ∈ rest) : Q .none { s with heap := h', toks := tk' } := hret h' tk' F (upd_back U N hr)
end
theorem size_one_ne (u : UInt8) (h : ((#[u].size : Nat) : Int) ≠ 1) : False := h rfl
def offD (d : Addr) (l : Led) : Led := l.filter fun q => decide (q.1 ≠ d)
theorem offD_ne {d : Addr} {l : Led} : ∀ p ∈ offD d l, p.1 ≠ d := fun p hp => by
  have := (List.mem_filter.mp hp).2
  simpa using this
theorem offD_in {d : Addr} {l : Led} : ∀ p ∈ l, p.1 ≠ d → p ∈ offD d l := fun p hp h => List.mem_filter.mpr ⟨hp, by simpa using h⟩
theorem offD_sub {d : Addr} {l : Led} : ∀ p ∈ offD d l, p ∈ l := fun p hp => (List.mem_filter.mp hp).1
theorem offD_news {h₀ h' : Heap} {L d : Addr} {l : Led} (N : News h₀ L h' l) : News h₀ L h' (offD d l) := fun p hp => N p (offD_sub p hp)
theorem bw_mask (b : Bool) (n : Int) (k : Nat) (hb : b = bit n k) : pk b (2 ^ k) 0 = n / 2 ^ k % 2 * 2 ^ k := by
  subst hb
  unfold pk bit
  have h2 : n / 2 ^ k % 2 = 0 ∨ n / 2 ^ k % 2 = 1 := by omega
  rcases h2 with h | h <;> rw [h] <;> simp
abbrev stEs (b0 b1 b2 b3 b4 b5 b6 b7 : Bool) (g0 g1 g2 g3 g4 g5 g6 g7 : Int) (t0 t1 t2 t3 t4 t5 t6 t7 : Tok) : List DictEntry :=
  [⟨g0, .str (PySem.Str.ofString "test_failed") t0, .bool b0⟩,
   ⟨g1, .str (PySem.Str.ofString "test_failed_this_operation_cycle") t1, .bool b1⟩,
   ⟨g2, .str (PySem.Str.ofString "pending") t2, .bool b2⟩,
   ⟨g3, .str (PySem.Str.ofString "confirmed") t3, .bool b3⟩,
   ⟨g4, .str (PySem.Str.ofString "test_not_completed_since_last_clear") t4, .bool b4⟩,
   ⟨g5, .str (PySem.Str.ofString "test_failed_since_last_clear") t5, .bool b5⟩,
   ⟨g6, .str (PySem.Str.ofString "test_not_completed_this_operation_cycle") t6, .bool b6⟩,
   ⟨g7, .str (PySem.Str.ofString "warning_indicator_requested") t7, .bool b7⟩]
def stVal (b0 b1 b2 b3 b4 b5 b6 b7 : Bool) : Int := pk b0 1 0 + pk b1 2 0 + pk b2 4 0 + pk b3 8 0 + pk b4 16 0 + pk b5 32 0 + pk b6 64 0 + pk b7 128 0
theorem stVal_or (b0 b1 b2 b3 b4 b5 b6 b7 : Bool) : (Builtin.bitOr (Builtin.bitOr (Builtin.bitOr (Builtin.bitOr (Builtin.bitOr (Builtin.bitOr (Builtin.bitOr (Builtin.bitOr 0 (pk b0 1 0)) (pk b1 2 0)) (pk b2 4 0)) (pk b3 8 0)) (pk b4 16 0)) (pk b5 32 0)) (pk b6 64 0)) (pk b7 128 0)) = stVal b0 b1 b2 b3 b4 b5 b6 b7 := by
  unfold stVal pk
  revert b0 b1 b2 b3 b4 b5 b6 b7
  decide +kernel
theorem stVal_lo (b0 b1 b2 b3 b4 b5 b6 b7 : Bool) : 0 ≤ stVal b0 b1 b2 b3 b4 b5 b6 b7 ∧ stVal b0 b1 b2 b3 b4 b5 b6 b7 ≤ 255 := by
  unfold stVal pk
  revert b0 b1 b2 b3 b4 b5 b6 b7
  decide +kernel
abbrev seEs (b0 b1 b2 : Bool) (g0 g1 g2 : Int) (t0 t1 t2 : Tok) : List DictEntry :=
  [⟨g0, .str (PySem.Str.ofString "maintenance_only") t0, .bool b0⟩,
   ⟨g1, .str (PySem.Str.ofString "check_at_next_exit") t1, .bool b1⟩,
   ⟨g2, .str (PySem.Str.ofString "check_immediately") t2, .bool b2⟩]
def seVal (b0 b1 b2 : Bool) : Int := pk b0 32 0 + pk b1 64 0 + pk b2 128 0
theorem seVal_or (b0 b1 b2 : Bool) : (Builtin.bitOr (Builtin.bitOr (Builtin.bitOr 0 (pk b0 32 0)) (pk b1 64 0)) (pk b2 128 0)) = seVal b0 b1 b2 := by
  unfold seVal pk
  revert b0 b1 b2
  decide +kernel
theorem seVal_lo (b0 b1 b2 : Bool) : 0 ≤ seVal b0 b1 b2 ∧ seVal b0 b1 b2 ≤ 224 := by
  unfold seVal pk
  revert b0 b1 b2
  decide +kernel
abbrev clEs (b0 b1 b2 b3 b4 : Bool) (g0 g1 g2 g3 g4 : Int) (t0 t1 t2 t3 t4 : Tok) : List DictEntry :=
  [⟨g0, .str (PySem.Str.ofString "class0") t0, .bool b0⟩,
   ⟨g1, .str (PySem.Str.ofString "class1") t1, .bool b1⟩,
   ⟨g2, .str (PySem.Str.ofString "class2") t2, .bool b2⟩,
   ⟨g3, .str (PySem.Str.ofString "class3") t3, .bool b3⟩,
   ⟨g4, .str (PySem.Str.ofString "class4") t4, .bool b4⟩]
def clVal (b0 b1 b2 b3 b4 : Bool) : Int := pk b0 1 0 + pk b1 2 0 + pk b2 4 0 + pk b3 8 0 + pk b4 16 0
theorem clVal_or (b0 b1 b2 b3 b4 : Bool) : (Builtin.bitOr (Builtin.bitOr (Builtin.bitOr (Builtin.bitOr (Builtin.bitOr 0 (pk b0 1 0)) (pk b1 2 0)) (pk b2 4 0)) (pk b3 8 0)) (pk b4 16 0)) = clVal b0 b1 b2 b3 b4 := by
  unfold clVal pk
  revert b0 b1 b2 b3 b4
  decide +kernel
theorem clVal_lo (b0 b1 b2 b3 b4 : Bool) : 0 ≤ clVal b0 b1 b2 b3 b4 ∧ clVal b0 b1 b2 b3 b4 ≤ 31 := by
  unfold clVal pk
  revert b0 b1 b2 b3 b4
  decide +kernel
local macro_rules | `(tactic| walk_at "eval IfExp") => `(tactic| (first | with_reducible refine ifexp_ints ?_ | with_reducible refine ifexp_bools ?_))
theorem st_get {b0 b1 b2 b3 b4 b5 b6 b7 : Bool} {g0 g1 g2 g3 g4 g5 g6 g7 : Int} {t0 t1 t2 t3 t4 t5 t6 t7 : Tok} {x dx : Addr} {w : World} {p : Program} {loose : List PySem.Str} {mean : ExcName → Option Value} {mg mb : PySem.Str → Option Value} {dp un : Nat} {gd : Option (List PySem.Code)} {cn : PySem.Str} {cs : Scope} {a : Addr} {ccd : Value} {cl : List (PySem.Str × Addr)} {outer : List Env} {A₀ : Around} {base h₀ : Heap} {L : Addr} {m : PySem.Str → Option Value} {s : Shared} {Q E : Value → Shared → Prop} {news : Led}
    (B : Below A₀ base outer h₀) (F : Fr h₀ L s.heap m) (X : (Mine.hd.heap_39 w.params).In h₀) (N : News h₀ L s.heap news) (T : Top p loose mean mg mb h₀) (hk : cs.kind = .function) (hd : dp + 2 < recursionLimit) (hu : un + 20 < cLine) (hx : (x, instObj 133 dx) ∈ news) (hdx : (dx, dictOf (stEs b0 b1 b2 b3 b4 b5 b6 b7 g0 g1 g2 g3 g4 g5 g6 g7 t0 t1 t2 t3 t4 t5 t6 t7) 8) ∈ news)
    (hret : ∀ (t : Tok) (h' : Heap) (tk' : Nat), Fr h₀ L h' m → News h₀ L h' news → Q (.int (stVal b0 b1 b2 b3 b4 b5 b6 b7) t) { s with heap := h', toks := tk' }) :
    wpAny (model PySem.Challenge.rw_fe0337_02.row.prog w) (ktrTop dp un gd cn cs L a ccd cl outer) (call (.ref 106) [.ref x]) Q E s := by
  clear st_get
  have N1 := news_cons (.tail _ hx) (news_cons hdx N)
  clear N hx hdx
  w_on
  w_strict (
    revert X
    k_fill
    intro X
    refine wpAny_call ?_
    (k_dflt cell_enter)
    k_steps
    (refine' end_int (Q := Q) (s := s) hret ?e1 ?e2 ?e3 ?e4)
    (case e2 => k_asm)
    (case e3 => k_asm)
    (case e1 => exact stVal_or b0 b1 b2 b3 b4 b5 b6 b7)
    (case e4 => exact fun p hp => .tail _ (.tail _ hp)))
theorem se_get {b0 b1 b2 : Bool} {g0 g1 g2 : Int} {t0 t1 t2 : Tok} {x dx : Addr} {w : World} {p : Program} {loose : List PySem.Str} {mean : ExcName → Option Value} {mg mb : PySem.Str → Option Value} {dp un : Nat} {gd : Option (List PySem.Code)} {cn : PySem.Str} {cs : Scope} {a : Addr} {ccd : Value} {cl : List (PySem.Str × Addr)} {outer : List Env} {A₀ : Around} {base h₀ : Heap} {L : Addr} {m : PySem.Str → Option Value} {s : Shared} {Q E : Value → Shared → Prop} {news : Led}
    (B : Below A₀ base outer h₀) (F : Fr h₀ L s.heap m) (X : (Mine.hd.heap_39 w.params).In h₀) (N : News h₀ L s.heap news) (T : Top p loose mean mg mb h₀) (hk : cs.kind = .function) (hd : dp + 2 < recursionLimit) (hu : un + 20 < cLine) (hx : (x, instObj 194 dx) ∈ news) (hdx : (dx, dictOf (seEs b0 b1 b2 g0 g1 g2 t0 t1 t2) 3) ∈ news)
    (hret : ∀ (t : Tok) (h' : Heap) (tk' : Nat), Fr h₀ L h' m → News h₀ L h' news → Q (.int (seVal b0 b1 b2) t) { s with heap := h', toks := tk' }) :
    wpAny (model PySem.Challenge.rw_fe0337_02.row.prog w) (ktrTop dp un gd cn cs L a ccd cl outer) (call (.ref 159) [.ref x]) Q E s := by
  clear se_get
  have N1 := news_cons (.tail _ hx) (news_cons hdx N)
  clear N hx hdx
  w_on
  w_strict (
    revert X
    k_fill
    intro X
    refine wpAny_call ?_
    (k_dflt cell_enter)
    k_steps
    (refine' end_int (Q := Q) (s := s) hret ?e1 ?e2 ?e3 ?e4)
    (case e2 => k_asm)
    (case e3 => k_asm)
    (case e1 => exact seVal_or b0 b1 b2)
    (case e4 => exact fun p hp => .tail _ (.tail _ hp)))
theorem cl_get {b0 b1 b2 b3 b4 : Bool} {g0 g1 g2 g3 g4 : Int} {t0 t1 t2 t3 t4 : Tok} {x dx : Addr} {w : World} {p : Program} {loose : List PySem.Str} {mean : ExcName → Option Value} {mg mb : PySem.Str → Option Value} {dp un : Nat} {gd : Option (List PySem.Code)} {cn : PySem.Str} {cs : Scope} {a : Addr} {ccd : Value} {cl : List (PySem.Str × Addr)} {outer : List Env} {A₀ : Around} {base h₀ : Heap} {L : Addr} {m : PySem.Str → Option Value} {s : Shared} {Q E : Value → Shared → Prop} {news : Led}
    (B : Below A₀ base outer h₀) (F : Fr h₀ L s.heap m) (X : (Mine.hd.heap_39 w.params).In h₀) (N : News h₀ L s.heap news) (T : Top p loose mean mg mb h₀) (hk : cs.kind = .function) (hd : dp + 2 < recursionLimit) (hu : un + 20 < cLine) (hx : (x, instObj 283 dx) ∈ news) (hdx : (dx, dictOf (clEs b0 b1 b2 b3 b4 g0 g1 g2 g3 g4 t0 t1 t2 t3 t4) 5) ∈ news)
    (hret : ∀ (t : Tok) (h' : Heap) (tk' : Nat), Fr h₀ L h' m → News h₀ L h' news → Q (.int (clVal b0 b1 b2 b3 b4) t) { s with heap := h', toks := tk' }) :
    wpAny (model PySem.Challenge.rw_fe0337_02.row.prog w) (ktrTop dp un gd cn cs L a ccd cl outer) (call (.ref 248) [.ref x]) Q E s := by
  clear cl_get
  have N1 := news_cons (.tail _ hx) (news_cons hdx N)
  clear N hx hdx
  w_on
  w_strict (
    revert X
    k_fill
    intro X
    refine wpAny_call ?_
    (k_dflt cell_enter)
    k_steps
    (refine' end_int (Q := Q) (s := s) hret ?e1 ?e2 ?e3 ?e4)
    (case e2 => k_asm)
    (case e3 => k_asm)
    (case e1 => exact clVal_or b0 b1 b2 b3 b4)
    (case e4 => exact fun p hp => .tail _ (.tail _ hp)))
end Mine
namespace Mine
local macro_rules | `(tactic| walk_at "call ref") => `(tactic| (k_here; k_dflt (refine' st_get ?k1 ?k2 ?k3 ?k4 ?k5 ?k6 ?k7 ?k8 ?k9 ?k10 ?_; (case k1 => k_asm); (case k2 => k_asm); (case k3 => k_asm); (case k4 => k_asm); (case k5 => k_asm); (case k6 => first | exact rfl | assumption); (case k7 => ktr_room); (case k8 => ktr_units); (case k9 => k_mem); (case k10 => k_mem); intro t9 h9 tk9 F9 N9; (try dsimp only); (try k_fold))))
local macro_rules | `(tactic| walk_at "call ref") => `(tactic| (k_here; k_dflt (refine' se_get ?k1 ?k2 ?k3 ?k4 ?k5 ?k6 ?k7 ?k8 ?k9 ?k10 ?_; (case k1 => k_asm); (case k2 => k_asm); (case k3 => k_asm); (case k4 => k_asm); (case k5 => k_asm); (case k6 => first | exact rfl | assumption); (case k7 => ktr_room); (case k8 => ktr_units); (case k9 => k_mem); (case k10 => k_mem); intro t9 h9 tk9 F9 N9; (try dsimp only); (try k_fold))))
local macro_rules | `(tactic| walk_at "call ref") => `(tactic| (k_here; k_dflt (refine' cl_get ?k1 ?k2 ?k3 ?k4 ?k5 ?k6 ?k7 ?k8 ?k9 ?k10 ?_; (case k1 => k_asm); (case k2 => k_asm); (case k3 => k_asm); (case k4 => k_asm); (case k5 => k_asm); (case k6 => first | exact rfl | assumption); (case k7 => ktr_room); (case k8 => ktr_units); (case k9 => k_mem); (case k10 => k_mem); intro t9 h9 tk9 F9 N9; (try dsimp only); (try k_fold))))
local macro_rules | `(tactic| walk_at "call builtin:_struct.pack") => `(tactic| (k_dflt (refine' pack_B ?k1 ?k2 ?_; (case k1 => assumption); (case k2 => assumption)); (try dsimp only); (try k_fold)))
theorem st_getb {b0 b1 b2 b3 b4 b5 b6 b7 : Bool} {g0 g1 g2 g3 g4 g5 g6 g7 : Int} {t0 t1 t2 t3 t4 t5 t6 t7 : Tok} {x dx : Addr} {w : World} {p : Program} {loose : List PySem.Str} {mean : ExcName → Option Value} {mg mb : PySem.Str → Option Value} {dp un : Nat} {gd : Option (List PySem.Code)} {cn : PySem.Str} {cs : Scope} {a : Addr} {ccd : Value} {cl : List (PySem.Str × Addr)} {outer : List Env} {A₀ : Around} {base h₀ : Heap} {L : Addr} {m : PySem.Str → Option Value} {s : Shared} {Q E : Value → Shared → Prop} {news : Led}
    (B : Below A₀ base outer h₀) (F : Fr h₀ L s.heap m) (X : (Mine.hd.heap_39 w.params).In h₀) (N : News h₀ L s.heap news) (T : Top p loose mean mg mb h₀) (hk : cs.kind = .function) (hd : dp + 3 < recursionLimit) (hu : un + 30 < cLine) (hx : (x, instObj 133 dx) ∈ news) (hdx : (dx, dictOf (stEs b0 b1 b2 b3 b4 b5 b6 b7 g0 g1 g2 g3 g4 g5 g6 g7 t0 t1 t2 t3 t4 t5 t6 t7) 8) ∈ news)
    (hret : ∀ (t : Tok) (h' : Heap) (tk' : Nat), Fr h₀ L h' m → News h₀ L h' news → Q (.bytes #[UInt8.ofNat (stVal b0 b1 b2 b3 b4 b5 b6 b7).toNat] t) { s with heap := h', toks := tk' }) :
    wpAny (model PySem.Challenge.rw_fe0337_02.row.prog w) (ktrTop dp un gd cn cs L a ccd cl outer) (call (.ref 113) [.ref x]) Q E s := by
  clear st_getb
  have N1 := news_cons (.tail _ hx) (news_cons hdx N)
  clear N hx hdx
  have hlo := stVal_lo b0 b1 b2 b3 b4 b5 b6 b7
  have hl0 := hlo.1
  have hl1 : stVal b0 b1 b2 b3 b4 b5 b6 b7 < 256 := by omega
  clear hlo
  w_on
  w_strict (
    revert X
    k_fill
    intro X
    refine wpAny_call ?_
    (k_dflt cell_enter)
    k_steps
    (refine' end_bytes (Q := Q) (s := s) hret rfl ?e2 ?e3 ?e4)
    (case e2 => k_asm)
    (case e3 => k_asm)
    (case e4 => exact fun p hp => .tail _ (.tail _ hp)))
theorem se_getb {b0 b1 b2 : Bool} {g0 g1 g2 : Int} {t0 t1 t2 : Tok} {x dx : Addr} {w : World} {p : Program} {loose : List PySem.Str} {mean : ExcName → Option Value} {mg mb : PySem.Str → Option Value} {dp un : Nat} {gd : Option (List PySem.Code)} {cn : PySem.Str} {cs : Scope} {a : Addr} {ccd : Value} {cl : List (PySem.Str × Addr)} {outer : List Env} {A₀ : Around} {base h₀ : Heap} {L : Addr} {m : PySem.Str → Option Value} {s : Shared} {Q E : Value → Shared → Prop} {news : Led}
    (B : Below A₀ base outer h₀) (F : Fr h₀ L s.heap m) (X : (Mine.hd.heap_39 w.params).In h₀) (N : News h₀ L s.heap news) (T : Top p loose mean mg mb h₀) (hk : cs.kind = .function) (hd : dp + 3 < recursionLimit) (hu : un + 30 < cLine) (hx : (x, instObj 194 dx) ∈ news) (hdx : (dx, dictOf (seEs b0 b1 b2 g0 g1 g2 t0 t1 t2) 3) ∈ news)
    (hret : ∀ (t : Tok) (h' : Heap) (tk' : Nat), Fr h₀ L h' m → News h₀ L h' news → Q (.bytes #[UInt8.ofNat (seVal b0 b1 b2).toNat] t) { s with heap := h', toks := tk' }) :
    wpAny (model PySem.Challenge.rw_fe0337_02.row.prog w) (ktrTop dp un gd cn cs L a ccd cl outer) (call (.ref 166) [.ref x]) Q E s := by
  clear se_getb
  have N1 := news_cons (.tail _ hx) (news_cons hdx N)
  clear N hx hdx
  have hlo := seVal_lo b0 b1 b2
  have hl0 := hlo.1
  have hl1 : seVal b0 b1 b2 < 256 := by omega
  clear hlo
  w_on
  w_strict (
    revert X
    k_fill
    intro X
    refine wpAny_call ?_
    (k_dflt cell_enter)
    k_steps
    (refine' end_bytes (Q := Q) (s := s) hret rfl ?e2 ?e3 ?e4)
    (case e2 => k_asm)
    (case e3 => k_asm)
    (case e4 => exact fun p hp => .tail _ (.tail _ hp)))
theorem cl_getb {b0 b1 b2 b3 b4 : Bool} {g0 g1 g2 g3 g4 : Int} {t0 t1 t2 t3 t4 : Tok} {x dx : Addr} {w : World} {p : Program} {loose : List PySem.Str} {mean : ExcName → Option Value} {mg mb : PySem.Str → Option Value} {dp un : Nat} {gd : Option (List PySem.Code)} {cn : PySem.Str} {cs : Scope} {a : Addr} {ccd : Value} {cl : List (PySem.Str × Addr)} {outer : List Env} {A₀ : Around} {base h₀ : Heap} {L : Addr} {m : PySem.Str → Option Value} {s : Shared} {Q E : Value → Shared → Prop} {news : Led}
    (B : Below A₀ base outer h₀) (F : Fr h₀ L s.heap m) (X : (Mine.hd.heap_39 w.params).In h₀) (N : News h₀ L s.heap news) (T : Top p loose mean mg mb h₀) (hk : cs.kind = .function) (hd : dp + 3 < recursionLimit) (hu : un + 30 < cLine) (hx : (x, instObj 283 dx) ∈ news) (hdx : (dx, dictOf (clEs b0 b1 b2 b3 b4 g0 g1 g2 g3 g4 t0 t1 t2 t3 t4) 5) ∈ news)
    (hret : ∀ (t : Tok) (h' : Heap) (tk' : Nat), Fr h₀ L h' m → News h₀ L h' news → Q (.bytes #[UInt8.ofNat (clVal b0 b1 b2 b3 b4).toNat] t) { s with heap := h', toks := tk' }) :
    wpAny (model PySem.Challenge.rw_fe0337_02.row.prog w) (ktrTop dp un gd cn cs L a ccd cl outer) (call (.ref 255) [.ref x]) Q E s := by
  clear cl_getb
  have N1 := news_cons (.tail _ hx) (news_cons hdx N)
  clear N hx hdx
  have hlo := clVal_lo b0 b1 b2 b3 b4
  have hl0 := hlo.1
  have hl1 : clVal b0 b1 b2 b3 b4 < 256 := by omega
  clear hlo
  w_on
  w_strict (
    revert X
    k_fill
    intro X
    refine wpAny_call ?_
    (k_dflt cell_enter)
    k_steps
    (refine' end_bytes (Q := Q) (s := s) hret rfl ?e2 ?e3 ?e4)
    (case e2 => k_asm)
    (case e3 => k_asm)
    (case e4 => exact fun p hp => .tail _ (.tail _ hp)))
end Mine
namespace Mine
local macro_rules | `(tactic| walk_at "eval IfExp") => `(tactic| (first | with_reducible refine ifexp_ints ?_ | with_reducible refine ifexp_bools ?_))
local macro_rules | `(tactic| k_all) => `(tactic| with_reducible assumption)
theorem st_seti {b0 b1 b2 b3 b4 b5 b6 b7 : Bool} {g0 g1 g2 g3 g4 g5 g6 g7 : Int} {t0 t1 t2 t3 t4 t5 t6 t7 : Tok} {x dx : Addr} {v : Int} {tv : Tok} {news' : Led} {w : World} {p : Program} {loose : List PySem.Str} {mean : ExcName → Option Value} {mg mb : PySem.Str → Option Value} {dp un : Nat} {gd : Option (List PySem.Code)} {cn : PySem.Str} {cs : Scope} {a : Addr} {ccd : Value} {cl : List (PySem.Str × Addr)} {outer : List Env} {A₀ : Around} {base h₀ : Heap} {L : Addr} {m : PySem.Str → Option Value} {s : Shared} {Q E : Value → Shared → Prop} {news : Led}
    (B : Below A₀ base outer h₀) (F : Fr h₀ L s.heap m) (X : (Mine.hd.heap_39 w.params).In h₀) (N : News h₀ L s.heap news) (T : Top p loose mean mg mb h₀) (hk : cs.kind = .function) (hd : dp + 2 < recursionLimit) (hu : un + 20 < cLine) (hx : (x, instObj 133 dx) ∈ news) (hdx : (dx, dictOf (stEs b0 b1 b2 b3 b4 b5 b6 b7 g0 g1 g2 g3 g4 g5 g6 g7 t0 t1 t2 t3 t4 t5 t6 t7) 8) ∈ news)
    (U : Upd dx (dictOf (stEs b0 b1 b2 b3 b4 b5 b6 b7 g0 g1 g2 g3 g4 g5 g6 g7 t0 t1 t2 t3 t4 t5 t6 t7) 8) (dictOf (stEs (bit v 0) (bit v 1) (bit v 2) (bit v 3) (bit v 4) (bit v 5) (bit v 6) (bit v 7) g0 g1 g2 g3 g4 g5 g6 g7 t0 t1 t2 t3 t4 t5 t6 t7) 8) news news')
    (hret : ∀ (h' : Heap) (tk' : Nat), Fr h₀ L h' m → News h₀ L h' news' → Q .none { s with heap := h', toks := tk' }) :
    wpAny (model PySem.Challenge.rw_fe0337_02.row.prog w) (ktrTop dp un gd cn cs L a ccd cl outer) (call (.ref 120) [.ref x, .int v tv]) Q E s := by
  clear st_seti
  have hne : x ≠ dx := news_apart N hx hdx (by intro e; cases e)
  have N1 : News h₀ L s.heap ((x, instObj 133 dx) :: (dx, dictOf (stEs b0 b1 b2 b3 b4 b5 b6 b7 g0 g1 g2 g3 g4 g5 g6 g7 t0 t1 t2 t3 t4 t5 t6 t7) 8) :: offD dx news) := fun p hp => by
    rcases List.mem_cons.mp hp with e | hp
    · subst e; exact N _ hx
    · rcases List.mem_cons.mp hp with e | hp
      · subst e; exact N _ hdx
      · exact offD_news N _ hp
  have hoff : ∀ p ∈ offD dx news, p.1 ≠ dx := offD_ne
  have hin : ∀ p ∈ news, p.1 ≠ dx → p ∈ offD dx news := offD_in
  simp only [← bit_and (v) _ _ rfl] at U
  generalize offD dx news = rest at N1 hoff hin
  clear N hx hdx
  w_on
  w_strict (
    revert X
    k_fill
    intro X
    refine wpAny_call ?_
    (k_dflt cell_enter)
    k_steps
    all_goals (first
      | ((refine' end_none (Q := Q) (s := s) hret U ?e1 ?e2 hin); (case e1 => k_asm); (case e2 => k_asm))
      | (exfalso; trivial)))
theorem st_setb {b0 b1 b2 b3 b4 b5 b6 b7 : Bool} {g0 g1 g2 g3 g4 g5 g6 g7 : Int} {t0 t1 t2 t3 t4 t5 t6 t7 : Tok} {x dx : Addr} {u : UInt8} {tv : Tok} {news' : Led} {w : World} {p : Program} {loose : List PySem.Str} {mean : ExcName → Option Value} {mg mb : PySem.Str → Option Value} {dp un : Nat} {gd : Option (List PySem.Code)} {cn : PySem.Str} {cs : Scope} {a : Addr} {ccd : Value} {cl : List (PySem.Str × Addr)} {outer : List Env} {A₀ : Around} {base h₀ : Heap} {L : Addr} {m : PySem.Str → Option Value} {s : Shared} {Q E : Value → Shared → Prop} {news : Led}
    (B : Below A₀ base outer h₀) (F : Fr h₀ L s.heap m) (X : (Mine.hd.heap_39 w.params).In h₀) (N : News h₀ L s.heap news) (T : Top p loose mean mg mb h₀) (hk : cs.kind = .function) (hd : dp + 2 < recursionLimit) (hu : un + 20 < cLine) (hx : (x, instObj 133 dx) ∈ news) (hdx : (dx, dictOf (stEs b0 b1 b2 b3 b4 b5 b6 b7 g0 g1 g2 g3 g4 g5 g6 g7 t0 t1 t2 t3 t4 t5 t6 t7) 8) ∈ news)
    (U : Upd dx (dictOf (stEs b0 b1 b2 b3 b4 b5 b6 b7 g0 g1 g2 g3 g4 g5 g6 g7 t0 t1 t2 t3 t4 t5 t6 t7) 8) (dictOf (stEs (bit ((u.toNat : Nat) : Int) 0) (bit ((u.toNat : Nat) : Int) 1) (bit ((u.toNat : Nat) : Int) 2) (bit ((u.toNat : Nat) : Int) 3) (bit ((u.toNat : Nat) : Int) 4) (bit ((u.toNat : Nat) : Int) 5) (bit ((u.toNat : Nat) : Int) 6) (bit ((u.toNat : Nat) : Int) 7) g0 g1 g2 g3 g4 g5 g6 g7 t0 t1 t2 t3 t4 t5 t6 t7) 8) news news')
    (hret : ∀ (h' : Heap) (tk' : Nat), Fr h₀ L h' m → News h₀ L h' news' → Q .none { s with heap := h', toks := tk' }) :
    wpAny (model PySem.Challenge.rw_fe0337_02.row.prog w) (ktrTop dp un gd cn cs L a ccd cl outer) (call (.ref 120) [.ref x, .bytes #[u] tv]) Q E s := by
  clear st_setb
  have hne : x ≠ dx := news_apart N hx hdx (by intro e; cases e)
  have N1 : News h₀ L s.heap ((x, instObj 133 dx) :: (dx, dictOf (stEs b0 b1 b2 b3 b4 b5 b6 b7 g0 g1 g2 g3 g4 g5 g6 g7 t0 t1 t2 t3 t4 t5 t6 t7) 8) :: offD dx news) := fun p hp => by
    rcases List.mem_cons.mp hp with e | hp
    · subst e; exact N _ hx
    · rcases List.mem_cons.mp hp with e | hp
      · subst e; exact N _ hdx
      · exact offD_news N _ hp
  have hoff : ∀ p ∈ offD dx news, p.1 ≠ dx := offD_ne
  have hin : ∀ p ∈ news, p.1 ≠ dx → p ∈ offD dx news := offD_in
  simp only [← bit_and (((u.toNat : Nat) : Int)) _ _ rfl] at U
  generalize offD dx news = rest at N1 hoff hin
  clear N hx hdx
  w_on
  w_strict (
    revert X
    k_fill
    intro X
    refine wpAny_call ?_
    (k_dflt cell_enter)
    k_steps
    all_goals (first
      | ((refine' end_none (Q := Q) (s := s) hret U ?e1 ?e2 hin); (case e1 => k_asm); (case e2 => k_asm))
      | (exfalso; exact size_one_ne u (by assumption))))
theorem se_seti {b0 b1 b2 : Bool} {g0 g1 g2 : Int} {t0 t1 t2 : Tok} {x dx : Addr} {v : Int} {tv : Tok} {news' : Led} {w : World} {p : Program} {loose : List PySem.Str} {mean : ExcName → Option Value} {mg mb : PySem.Str → Option Value} {dp un : Nat} {gd : Option (List PySem.Code)} {cn : PySem.Str} {cs : Scope} {a : Addr} {ccd : Value} {cl : List (PySem.Str × Addr)} {outer : List Env} {A₀ : Around} {base h₀ : Heap} {L : Addr} {m : PySem.Str → Option Value} {s : Shared} {Q E : Value → Shared → Prop} {news : Led}
    (B : Below A₀ base outer h₀) (F : Fr h₀ L s.heap m) (X : (Mine.hd.heap_39 w.params).In h₀) (N : News h₀ L s.heap news) (T : Top p loose mean mg mb h₀) (hk : cs.kind = .function) (hd : dp + 2 < recursionLimit) (hu : un + 20 < cLine) (hx : (x, instObj 194 dx) ∈ news) (hdx : (dx, dictOf (seEs b0 b1 b2 g0 g1 g2 t0 t1 t2) 3) ∈ news)
    (U : Upd dx (dictOf (seEs b0 b1 b2 g0 g1 g2 t0 t1 t2) 3) (dictOf (seEs (bit v 5) (bit v 6) (bit v 7) g0 g1 g2 t0 t1 t2) 3) news news')
    (hret : ∀ (h' : Heap) (tk' : Nat), Fr h₀ L h' m → News h₀ L h' news' → Q .none { s with heap := h', toks := tk' }) :
    wpAny (model PySem.Challenge.rw_fe0337_02.row.prog w) (ktrTop dp un gd cn cs L a ccd cl outer) (call (.ref 173) [.ref x, .int v tv]) Q E s := by
  clear se_seti
  have hne : x ≠ dx := news_apart N hx hdx (by intro e; cases e)
  have N1 : News h₀ L s.heap ((x, instObj 194 dx) :: (dx, dictOf (seEs b0 b1 b2 g0 g1 g2 t0 t1 t2) 3) :: offD dx news) := fun p hp => by
    rcases List.mem_cons.mp hp with e | hp
    · subst e; exact N _ hx
    · rcases List.mem_cons.mp hp with e | hp
      · subst e; exact N _ hdx
      · exact offD_news N _ hp
  have hoff : ∀ p ∈ offD dx news, p.1 ≠ dx := offD_ne
  have hin : ∀ p ∈ news, p.1 ≠ dx → p ∈ offD dx news := offD_in
  simp only [← bit_and (v) _ _ rfl] at U
  generalize offD dx news = rest at N1 hoff hin
  clear N hx hdx
  w_on
  w_strict (
    revert X
    k_fill
    intro X
    refine wpAny_call ?_
    (k_dflt cell_enter)
    k_steps
    all_goals (first
      | ((refine' end_none (Q := Q) (s := s) hret U ?e1 ?e2 hin); (case e1 => k_asm); (case e2 => k_asm))
      | (exfalso; trivial)))
theorem se_setb {b0 b1 b2 : Bool} {g0 g1 g2 : Int} {t0 t1 t2 : Tok} {x dx : Addr} {u : UInt8} {tv : Tok} {news' : Led} {w : World} {p : Program} {loose : List PySem.Str} {mean : ExcName → Option Value} {mg mb : PySem.Str → Option Value} {dp un : Nat} {gd : Option (List PySem.Code)} {cn : PySem.Str} {cs : Scope} {a : Addr} {ccd : Value} {cl : List (PySem.Str × Addr)} {outer : List Env} {A₀ : Around} {base h₀ : Heap} {L : Addr} {m : PySem.Str → Option Value} {s : Shared} {Q E : Value → Shared → Prop} {news : Led}
    (B : Below A₀ base outer h₀) (F : Fr h₀ L s.heap m) (X : (Mine.hd.heap_39 w.params).In h₀) (N : News h₀ L s.heap news) (T : Top p loose mean mg mb h₀) (hk : cs.kind = .function) (hd : dp + 2 < recursionLimit) (hu : un + 20 < cLine) (hx : (x, instObj 194 dx) ∈ news) (hdx : (dx, dictOf (seEs b0 b1 b2 g0 g1 g2 t0 t1 t2) 3) ∈ news)
    (U : Upd dx (dictOf (seEs b0 b1 b2 g0 g1 g2 t0 t1 t2) 3) (dictOf (seEs (bit ((u.toNat : Nat) : Int) 5) (bit ((u.toNat : Nat) : Int) 6) (bit ((u.toNat : Nat) : Int) 7) g0 g1 g2 t0 t1 t2) 3) news news')
    (hret : ∀ (h' : Heap) (tk' : Nat), Fr h₀ L h' m → News h₀ L h' news' → Q .none { s with heap := h', toks := tk' }) :
    wpAny (model PySem.Challenge.rw_fe0337_02.row.prog w) (ktrTop dp un gd cn cs L a ccd cl outer) (call (.ref 173) [.ref x, .bytes #[u] tv]) Q E s := by
  clear se_setb
  have hne : x ≠ dx := news_apart N hx hdx (by intro e; cases e)
  have N1 : News h₀ L s.heap ((x, instObj 194 dx) :: (dx, dictOf (seEs b0 b1 b2 g0 g1 g2 t0 t1 t2) 3) :: offD dx news) := fun p hp => by
    rcases List.mem_cons.mp hp with e | hp
    · subst e; exact N _ hx
    · rcases List.mem_cons.mp hp with e | hp
      · subst e; exact N _ hdx
      · exact offD_news N _ hp
  have hoff : ∀ p ∈ offD dx news, p.1 ≠ dx := offD_ne
  have hin : ∀ p ∈ news, p.1 ≠ dx → p ∈ offD dx news := offD_in
  simp only [← bit_and (((u.toNat : Nat) : Int)) _ _ rfl] at U
  generalize offD dx news = rest at N1 hoff hin
  clear N hx hdx
  w_on
  w_strict (
    revert X
    k_fill
    intro X
    refine wpAny_call ?_
    (k_dflt cell_enter)
    k_steps
    all_goals (first
      | ((refine' end_none (Q := Q) (s := s) hret U ?e1 ?e2 hin); (case e1 => k_asm); (case e2 => k_asm))
      | (exfalso; exact size_one_ne u (by assumption))))
theorem cl_seti {b0 b1 b2 b3 b4 : Bool} {g0 g1 g2 g3 g4 : Int} {t0 t1 t2 t3 t4 : Tok} {x dx : Addr} {v : Int} {tv : Tok} {news' : Led} {w : World} {p : Program} {loose : List PySem.Str} {mean : ExcName → Option Value} {mg mb : PySem.Str → Option Value} {dp un : Nat} {gd : Option (List PySem.Code)} {cn : PySem.Str} {cs : Scope} {a : Addr} {ccd : Value} {cl : List (PySem.Str × Addr)} {outer : List Env} {A₀ : Around} {base h₀ : Heap} {L : Addr} {m : PySem.Str → Option Value} {s : Shared} {Q E : Value → Shared → Prop} {news : Led}
    (B : Below A₀ base outer h₀) (F : Fr h₀ L s.heap m) (X : (Mine.hd.heap_39 w.params).In h₀) (N : News h₀ L s.heap news) (T : Top p loose mean mg mb h₀) (hk : cs.kind = .function) (hd : dp + 2 < recursionLimit) (hu : un + 20 < cLine) (hx : (x, instObj 283 dx) ∈ news) (hdx : (dx, dictOf (clEs b0 b1 b2 b3 b4 g0 g1 g2 g3 g4 t0 t1 t2 t3 t4) 5) ∈ news)
    (U : Upd dx (dictOf (clEs b0 b1 b2 b3 b4 g0 g1 g2 g3 g4 t0 t1 t2 t3 t4) 5) (dictOf (clEs (bit v 0) (bit v 1) (bit v 2) (bit v 3) (bit v 4) g0 g1 g2 g3 g4 t0 t1 t2 t3 t4) 5) news news')
    (hret : ∀ (h' : Heap) (tk' : Nat), Fr h₀ L h' m → News h₀ L h' news' → Q .none { s with heap := h', toks := tk' }) :
    wpAny (model PySem.Challenge.rw_fe0337_02.row.prog w) (ktrTop dp un gd cn cs L a ccd cl outer) (call (.ref 262) [.ref x, .int v tv]) Q E s := by
  clear cl_seti
  have hne : x ≠ dx := news_apart N hx hdx (by intro e; cases e)
  have N1 : News h₀ L s.heap ((x, instObj 283 dx) :: (dx, dictOf (clEs b0 b1 b2 b3 b4 g0 g1 g2 g3 g4 t0 t1 t2 t3 t4) 5) :: offD dx news) := fun p hp => by
    rcases List.mem_cons.mp hp with e | hp
    · subst e; exact N _ hx
    · rcases List.mem_cons.mp hp with e | hp
      · subst e; exact N _ hdx
      · exact offD_news N _ hp
  have hoff : ∀ p ∈ offD dx news, p.1 ≠ dx := offD_ne
  have hin : ∀ p ∈ news, p.1 ≠ dx → p ∈ offD dx news := offD_in
  simp only [← bit_and (v) _ _ rfl] at U
  generalize offD dx news = rest at N1 hoff hin
  clear N hx hdx
  w_on
  w_strict (
    revert X
    k_fill
    intro X
    refine wpAny_call ?_
    (k_dflt cell_enter)
    k_steps
    all_goals (first
      | ((refine' end_none (Q := Q) (s := s) hret U ?e1 ?e2 hin); (case e1 => k_asm); (case e2 => k_asm))
      | (exfalso; trivial)))
theorem cl_setb {b0 b1 b2 b3 b4 : Bool} {g0 g1 g2 g3 g4 : Int} {t0 t1 t2 t3 t4 : Tok} {x dx : Addr} {u : UInt8} {tv : Tok} {news' : Led} {w : World} {p : Program} {loose : List PySem.Str} {mean : ExcName → Option Value} {mg mb : PySem.Str → Option Value} {dp un : Nat} {gd : Option (List PySem.Code)} {cn : PySem.Str} {cs : Scope} {a : Addr} {ccd : Value} {cl : List (PySem.Str × Addr)} {outer : List Env} {A₀ : Around} {base h₀ : Heap} {L : Addr} {m : PySem.Str → Option Value} {s : Shared} {Q E : Value → Shared → Prop} {news : Led}
    (B : Below A₀ base outer h₀) (F : Fr h₀ L s.heap m) (X : (Mine.hd.heap_39 w.params).In h₀) (N : News h₀ L s.heap news) (T : Top p loose mean mg mb h₀) (hk : cs.kind = .function) (hd : dp + 2 < recursionLimit) (hu : un + 20 < cLine) (hx : (x, instObj 283 dx) ∈ news) (hdx : (dx, dictOf (clEs b0 b1 b2 b3 b4 g0 g1 g2 g3 g4 t0 t1 t2 t3 t4) 5) ∈ news)
    (U : Upd dx (dictOf (clEs b0 b1 b2 b3 b4 g0 g1 g2 g3 g4 t0 t1 t2 t3 t4) 5) (dictOf (clEs (bit ((u.toNat : Nat) : Int) 0) (bit ((u.toNat : Nat) : Int) 1) (bit ((u.toNat : Nat) : Int) 2) (bit ((u.toNat : Nat) : Int) 3) (bit ((u.toNat : Nat) : Int) 4) g0 g1 g2 g3 g4 t0 t1 t2 t3 t4) 5) news news')
    (hret : ∀ (h' : Heap) (tk' : Nat), Fr h₀ L h' m → News h₀ L h' news' → Q .none { s with heap := h', toks := tk' }) :
    wpAny (model PySem.Challenge.rw_fe0337_02.row.prog w) (ktrTop dp un gd cn cs L a ccd cl outer) (call (.ref 262) [.ref x, .bytes #[u] tv]) Q E s := by
  clear cl_setb
  have hne : x ≠ dx := news_apart N hx hdx (by intro e; cases e)
  have N1 : News h₀ L s.heap ((x, instObj 283 dx) :: (dx, dictOf (clEs b0 b1 b2 b3 b4 g0 g1 g2 g3 g4 t0 t1 t2 t3 t4) 5) :: offD dx news) := fun p hp => by
    rcases List.mem_cons.mp hp with e | hp
    · subst e; exact N _ hx
    · rcases List.mem_cons.mp hp with e | hp
      · subst e; exact N _ hdx
      · exact offD_news N _ hp
  have hoff : ∀ p ∈ offD dx news, p.1 ≠ dx := offD_ne
  have hin : ∀ p ∈ news, p.1 ≠ dx → p ∈ offD dx news := offD_in
  simp only [← bit_and (((u.toNat : Nat) : Int)) _ _ rfl] at U
  generalize offD dx news = rest at N1 hoff hin
  clear N hx hdx
  w_on
  w_strict (
    revert X
    k_fill
    intro X
    refine wpAny_call ?_
    (k_dflt cell_enter)
    k_steps
    all_goals (first
      | ((refine' end_none (Q := Q) (s := s) hret U ?e1 ?e2 hin); (case e1 => k_asm); (case e2 => k_asm))
      | (exfalso; exact size_one_ne u (by assumption))))
end Mine
namespace Mine
open PySem.Builtin PySem.Builtin.Str
@[irreducible] def hexc (x : Nat) : Nat := if x < 10 then 48 + x else 55 + x
@[irreducible] def dgc (d : Nat) : Nat := 48 + d
@[irreducible] def sg4 (k : Nat) : Nat := if k = 0 then 80 else if k = 1 then 67 else if k = 2 then 66 else 85
def isoText (c d m l : Nat) : PySem.Str := ⟨#[c, dgc d, hexc (m / 256), hexc (m / 16 % 16), hexc (m % 16), 45, hexc (l / 16), hexc (l % 16)]⟩
def fX (w : Nat) : Percent := { zero := true, width := some w, type := 88 }
def laidX (w n : Nat) : List Nat := match percentField (fX w) true (percentInt (fX w) false ((Nat.toDigits 16 n).map Char.toNat)) with
  | none => percentInt (fX w) false ((Nat.toDigits 16 n).map Char.toNat)
  | some laid => laid
theorem laid3 : ∀ a < 16, ∀ b < 16, ∀ c < 16, laidX 3 (a * 256 + b * 16 + c) = [hexc a, hexc b, hexc c] := by decide +kernel
theorem laid2 : ∀ a < 16, ∀ b < 16, laidX 2 (a * 16 + b) = [hexc a, hexc b] := by decide +kernel
section
variable {M : Model} {A : Around} {E : Value → Shared → Prop} {s : Shared} {l : List Nat} {p : List Value} {r : List Nat}
  {f : Nat → List Value × Writer × List Nat → Sem (ForInStep (List Value × Writer × List Nat))} {Q : List Value × Writer × List Nat → Shared → Prop} {Q' : ForInStep (List Value × Writer × List Nat) → Shared → Prop}
  {w : Writer} {T : PySem.Str} {N k n : Nat} {want : List Nat} {o : Option Value}
theorem after_X (g : KPc.Good w T N) (e : laidX k n = want)
    (h : ∀ w', KPc.Good w' (T ++ ⟨want.toArray⟩) (N + want.length) → Q' (ForInStep.yield (p, w', r)) s) :
    wpAny M A (match percentField (fX k) true (percentInt (fX k) false ((Nat.toDigits 16 n).map Char.toNat)) with
      | none => pure (ForInStep.yield (p, w.add ⟨(percentInt (fX k) false ((Nat.toDigits 16 n).map Char.toNat)).toArray⟩ none, r))
      | some laid => pure (ForInStep.yield (p, w.add ⟨laid.toArray⟩ none, r))) Q' E s := by
  unfold laidX at e
  revert e
  generalize percentField (fX k) true (percentInt (fX k) false ((Nat.toDigits 16 n).map Char.toNat)) = pf
  intro e
  cases pf with
  | none => subst e; exact wpAny_pure (h _ (KPc.good_add g (KPc.obj_none rfl)))
  | some laid => subst e; exact wpAny_pure (h _ (KPc.good_add g (KPc.obj_none rfl)))
end
theorem iso_join (c d x y z u v : Nat) : (⟨#[c]⟩ : PySem.Str) ++ ⟨#[dgc d]⟩ ++ ⟨[hexc x, hexc y, hexc z].toArray⟩ ++ PySem.Str.ofString "-" ++ ⟨[hexc u, hexc v].toArray⟩ = ⟨#[c, dgc d, hexc x, hexc y, hexc z, 45, hexc u, hexc v]⟩ := by
  have e : PySem.Str.ofString "-" = ⟨#[45]⟩ := by decide +kernel
  rw [e]
  refine congrArg PySem.Str.mk ?_
  rfl
theorem digit4 : ∀ d < 4, PySem.Str.ofString (toString ((d : Nat) : Int)) = ⟨#[dgc d]⟩ := by decide +kernel
theorem fmt_iso {b : Addr} {t t1 t2 t3 t4 : Tok} {c d m l : Nat} (hd : d < 4) (hm : m < 4096) (hl : l < 256) :
    Meets («str.__mod__» ⟨[.str ⟨#[37,99,37,105,37,48,51,88,45,37,48,50,88]⟩ t, .ref b], []⟩)
     (fun _ R s => IsTup s.heap b #[.str ⟨#[c]⟩ t1, .int (d : Int) t2, .int (m : Int) t3, .int (l : Int) t4] ∧ ∀ t' k, R (.ok (.ret (.str (isoText c d m l) t'))) { s with toks := k }) := by
  apply KPt.meets_tup
  intro _ _ _ _ _ _ kptH kptQ
  obtain ⟨kptO, kptG, kptC, kptN, kptD⟩ := kptH
  rw [KPt.entry_is_r]
  unfold Builtin.Str.percentFormat
  refine wpAny_bind (wpAny_isInstance (T := "tuple") ⟨kptO, kptG, kptC⟩ KPt.sub_tt ?_)
  refine wpAny_bind (KPt.asStr_ref kptG kptD ?_)
  refine wpAny_bind (KPt.fills_ref ⟨kptO, kptG, kptC⟩ ?_)
  intro _
  kpc_if
  refine wpAny_bind (wpAny_seqItems kptG kptD ?_)
  refine wpAny_bind (wpAny_pure ?_)
  refine wpAny_bind ?_
  rw [KPc.range_list]
  refine KPc.start ?_
  intro _ _
  refine KPc.turn ?_; kpc_check; (repeat kpc_if)
  refine wpAny_bind ?_; refine wpAny_holding ?_; (repeat kpc_if)
  refine wpAny_bind (wpAny_of_eq (a := c) rfl ?_)
  refine wpAny_pure ?_
  refine wpAny_pure ?_
  refine KPc.after_str0 (y := ⟨#[c]⟩) (K := 1) (by kpc_g) (Nat.le_refl _) (by kpc_obj) ?_
  intro _ _
  refine KPc.turn ?_; kpc_check; (repeat kpc_if)
  refine wpAny_bind ?_; refine wpAny_holding ?_; (repeat kpc_if)
  kpt_conv
  refine wpAny_pure ?_
  refine wpAny_pure ?_
  refine KPc.after_int (by kpc_g) rfl (by kpc_kind) rfl (by omega) (by omega) rfl (by kpc_none) ?_
  intro _ _
  refine KPc.turn ?_; kpc_check; (repeat kpc_if)
  refine wpAny_bind ?_; refine wpAny_holding ?_; (repeat kpc_if)
  refine wpAny_bind (wpAny_of_eq (a := (m : Int)) rfl ?_); (repeat kpc_if)
  refine wpAny_pure ?_
  have key3 : laidX 3 m = [hexc (m / 256), hexc (m / 16 % 16), hexc (m % 16)] := by
    have := laid3 (m / 256) (by omega) (m / 16 % 16) (by omega) (m % 16) (by omega)
    rwa [show m / 256 * 256 + m / 16 % 16 * 16 + m % 16 = m by omega] at this
  have key2 : laidX 2 l = [hexc (l / 16), hexc (l % 16)] := by
    have := laid2 (l / 16) (by omega) (l % 16) (by omega)
    rwa [show l / 16 * 16 + l % 16 = l by omega] at this
  refine after_X (n := m) (k := 3) (by kpc_g) key3 ?_
  intro _ _
  refine KPc.turn ?_; refine wpAny_ite (KPc.ite_no (KPc.short_good (by kpc_g) (by show 0 + 1 + 10 + 3 ≤ 16777216; omega)) ?_); (repeat kpc_if)
  refine wpAny_pure ?_
  refine KPc.after_add (by kpc_g) (by kpc_text) (by kpc_obj) ?_
  intro _ _
  refine KPc.turn ?_; refine wpAny_ite (KPc.ite_no (KPc.short_good (by kpc_g) (by show 0 + 1 + 10 + 3 + 1 ≤ 16777216; omega)) ?_); (repeat kpc_if)
  refine wpAny_bind ?_; refine wpAny_holding ?_; (repeat kpc_if)
  refine wpAny_bind (wpAny_of_eq (a := (l : Int)) rfl ?_); (repeat kpc_if)
  refine wpAny_pure ?_
  refine after_X (n := l) (k := 2) (by kpc_g) key2 ?_
  intro _ _
  refine KPc.turn ?_; refine wpAny_ite (KPc.ite_no (KPc.short_good (by kpc_g) (by show 0 + 1 + 10 + 3 + 1 + 2 ≤ 16777216; omega)) ?_); (repeat kpc_if)
  refine wpAny_pure ?_; kpc_if
  refine KPc.finish_ok (by kpc_g) (by show 0 + 1 + 10 + 3 + 1 + 2 ≤ 16777216; omega) ?_ (by assumption)
  rw [digit4 d hd]
  exact iso_join c d (m / 256) (m / 16 % 16) (m % 16) (l / 16) (l % 16)
end Mine
namespace Mine
theorem item4 {prog : Program} {w : World} {A : Around} {E : Value → Shared → Prop} {s : Shared} {value slice : PySem.Expr} {l : Addr} {k : Int} {u t0 t1 t2 t3 : Tok} {Q : Value → Shared → Prop}
    (hl : s.heap.IsList l #[.str (PySem.Str.ofString "P") t0, .str (PySem.Str.ofString "C") t1, .str (PySem.Str.ofString "B") t2, .str (PySem.Str.ofString "U") t3]) (h0 : 0 ≤ k) (h1 : k < 4) (h : ∀ t, Q (.str ⟨#[sg4 k.toNat]⟩ t) s)
    (hs : subscripted slice false (.ref l) (.int k u) = operate [.ref l, .int k u] (getItem (.ref l) (.int k u)) := by with_unfolding_all rfl) :
    wpAny (model prog w) A (subscriptTail value slice (.ref l) (.int k u)) Q E s := by
  have hk : k = 0 ∨ k = 1 ∨ k = 2 ∨ k = 3 := by omega
  have e0 : PySem.Str.ofString "P" = ⟨#[80]⟩ := by decide +kernel
  have e1 : PySem.Str.ofString "C" = ⟨#[67]⟩ := by decide +kernel
  have e2 : PySem.Str.ofString "B" = ⟨#[66]⟩ := by decide +kernel
  have e3 : PySem.Str.ofString "U" = ⟨#[85]⟩ := by decide +kernel
  rw [e0, e1, e2, e3] at hl
  rcases hk with rfl | rfl | rfl | rfl
  · exact tail_any hl.typeIs slot_list_getitem.lookup (wpAny_getItem_list hl (by decide) (by decide) rfl (by have q := h t0; rw [show sg4 (Int.toNat 0) = 80 from by decide +kernel] at q; exact q)) hs
  · exact tail_any hl.typeIs slot_list_getitem.lookup (wpAny_getItem_list hl (by decide) (by decide) rfl (by have q := h t1; rw [show sg4 (Int.toNat 1) = 67 from by decide +kernel] at q; exact q)) hs
  · exact tail_any hl.typeIs slot_list_getitem.lookup (wpAny_getItem_list hl (by decide) (by decide) rfl (by have q := h t2; rw [show sg4 (Int.toNat 2) = 66 from by decide +kernel] at q; exact q)) hs
  · exact tail_any hl.typeIs slot_list_getitem.lookup (wpAny_getItem_list hl (by decide) (by decide) rfl (by have q := h t3; rw [show sg4 (Int.toNat 3) = 85 from by decide +kernel] at q; exact q)) hs
theorem fd_eq (v : Int) (k : Nat) (h : 0 ≤ v) : v.fdiv (2 ^ k) = v / 2 ^ k := Int.fdiv_eq_ediv_of_nonneg v (Int.le_of_lt (kbt_pos k))
theorem fd22 {v : Int} (h0 : 0 ≤ v) (h1 : v < 16777216) : 0 ≤ v.fdiv (2 ^ Int.toNat 22) ∧ v.fdiv (2 ^ Int.toNat 22) < 4 := by
  rw [fd_eq v _ h0]
  have e : (2 : Int) ^ Int.toNat 22 = 4194304 := by decide +kernel
  rw [e]
  omega
theorem mod_iso {prog : Program} {w : World} {A : Around} {E : Value → Shared → Prop} {s : Shared} {h₀ : Heap} {L b : Addr} {news : Led} {c n : Nat} {e1 e2 e3 : Int} {t t1 t2 t3 t4 : Tok} {Q : Value → Shared → Prop}
    (N : News h₀ L s.heap news) (hb : (b, ({ cls := .type "tuple", data := .seq #[.str ⟨#[c]⟩ t1, .int e1 t2, .int e2 t3, .int e3 t4] n } : Obj)) ∈ news)
    (b1 : 0 ≤ e1 ∧ e1 ≤ 3) (b2 : 0 ≤ e2 ∧ e2 ≤ 4095) (b3 : 0 ≤ e3 ∧ e3 ≤ 255)
    (h : ∀ t' k, Q (.str (isoText c e1.toNat e2.toNat e3.toNat) t') { s with toks := k }) : wpAny (model prog w) A (binaryOp .Mod (.str (PySem.Str.ofString "%c%i%03X-%02X") t) (.ref b)) Q E s := by
  obtain ⟨d, rfl⟩ := Int.eq_ofNat_of_zero_le b1.1
  obtain ⟨m, rfl⟩ := Int.eq_ofNat_of_zero_le b2.1
  obtain ⟨l, rfl⟩ := Int.eq_ofNat_of_zero_le b3.1
  exact KPt.mod_tuple N hb (by decide +kernel) (fmt_iso (by omega) (by omega) (by omega)) h
local macro_rules | `(tactic| walk_at "subscriptTail") => `(tactic| (k_here; (with_reducible show wpAny _ _ (subscriptTail _ _ (Value.ref _) (Value.int _ _)) _ _ _); k_dflt (refine' item4 ?k1 ?k2 ?k3 ?_ ?k5; (case k1 => exact News.isList (by k_asm) (by k_mem)); (case k2 => exact (fd22 (by assumption) (by assumption)).1); (case k3 => exact (fd22 (by assumption) (by assumption)).2); (case k5 => with_unfolding_all rfl); k_whole); intro t9; (try dsimp only)))
local macro_rules | `(tactic| walk_at "binaryOp Mod str ref") => `(tactic| (k_here; k_dflt (refine' mod_iso ?k1 ?k2 ?k3 ?k4 ?k5 ?_; (case k1 => k_asm); (case k2 => k_mem); (case k3 => exact bitAnd_range _ (by decide)); (case k4 => exact bitAnd_range _ (by decide)); (case k5 => exact bitAnd_range _ (by decide))); intro t9 tk9; (try dsimp only); (try k_fold)))
abbrev dtcEs (v : Int) (tv : Tok) (sa na ea va ca : Addr) (g0 g1 g2 g3 g4 g5 g6 g7 : Int) (t0 t1 t2 t3 t4 t5 t6 t7 : Tok) : List DictEntry :=
  [⟨g0, .str (PySem.Str.ofString "id") t0, .int v tv⟩, ⟨g1, .str (PySem.Str.ofString "status") t1, .ref sa⟩,
   ⟨g2, .str (PySem.Str.ofString "snapshots") t2, .ref na⟩, ⟨g3, .str (PySem.Str.ofString "extended_data") t3, .ref ea⟩,
   ⟨g4, .str (PySem.Str.ofString "severity") t4, .ref va⟩, ⟨g5, .str (PySem.Str.ofString "dtc_class") t5, .ref ca⟩,
   ⟨g6, .str (PySem.Str.ofString "functional_unit") t6, .none⟩, ⟨g7, .str (PySem.Str.ofString "fault_counter") t7, .none⟩]
def isoOf (n : Nat) : PySem.Str := isoText (sg4 (n / 4194304)) (n / 1048576 % 4) (n / 256 % 4096) (n % 256)
theorem isoOf_eq {v : Int} (h0 : 0 ≤ v) (h1 : v < 16777216) :
    isoText (sg4 (v.fdiv (2 ^ Int.toNat 22)).toNat) (Builtin.bitAnd (v.fdiv (2 ^ Int.toNat 20)) 3).toNat (Builtin.bitAnd (v.fdiv (2 ^ Int.toNat 8)) 4095).toNat (Builtin.bitAnd v 255).toNat = isoOf v.toNat := by
  obtain ⟨n, rfl⟩ := Int.eq_ofNat_of_zero_le h0
  have hn : n < 16777216 := by omega
  rw [fd_eq _ _ h0, fd_eq _ _ h0, fd_eq _ _ h0]
  have a : ∀ k : Nat, ((n : Int) / 2 ^ k) = ((n / 2 ^ k : Nat) : Int) := fun k => by rw [Int.natCast_ediv, Int.natCast_pow]; rfl
  have b : ∀ (x k : Nat) (q : Int), q = 2 ^ k - 1 → Builtin.bitAnd (x : Int) q = ((x % 2 ^ k : Nat) : Int) := fun x k q hq => by rw [hq, kbt_mask, Int.natCast_emod, Int.natCast_pow]; rfl
  rw [a, a, a, b _ 2 3 (by decide), b _ 12 4095 (by decide), b _ 8 255 (by decide)]
  rfl
theorem end_str {h₀ h' : Heap} {L : Addr} {m : PySem.Str → Option Value} {news news' : Led} {s : Shared} {Q : Value → Shared → Prop} {t : Tok} {tk' : Nat} {x y : PySem.Str} (hret : ∀ (t : Tok) (h' : Heap) (tk' : Nat), Fr h₀ L h' m → News h₀ L h' news → Q (.str x t) { s with heap := h', toks := tk' }) (e : y = x) (F : Fr h₀ L h' m) (N : News h₀ L h' news') (hs : ∀ p ∈ news, p ∈ news') :
    Q (.str y t) { s with heap := h', toks := tk' } := by
  subst e
  exact hret t h' tk' F fun p hp => N p (hs p hp)
theorem dtc_iso {v : Int} {tv : Tok} {sa na ea va ca : Addr} {g0 g1 g2 g3 g4 g5 g6 g7 : Int} {t0 t1 t2 t3 t4 t5 t6 t7 : Tok} {x dx : Addr} {w : World} {p : Program} {loose : List PySem.Str} {mean : ExcName → Option Value} {mg mb : PySem.Str → Option Value} {dp un : Nat} {gd : Option (List PySem.Code)} {cn : PySem.Str} {cs : Scope} {a : Addr} {ccd : Value} {cl : List (PySem.Str × Addr)} {outer : List Env} {A₀ : Around} {base h₀ : Heap} {L : Addr} {m : PySem.Str → Option Value} {s : Shared} {Q E : Value → Shared → Prop} {news : Led}
    (B : Below A₀ base outer h₀) (F : Fr h₀ L s.heap m) (X : (Mine.hd.heap_39 w.params).In h₀) (N : News h₀ L s.heap news) (T : Top p loose mean mg mb h₀) (hk : cs.kind = .function) (hd : dp + 2 < recursionLimit) (hu : un + 20 < cLine) (hx : (x, instObj 304 dx) ∈ news) (hdx : (dx, dictOf (dtcEs v tv sa na ea va ca g0 g1 g2 g3 g4 g5 g6 g7 t0 t1 t2 t3 t4 t5 t6 t7) 8) ∈ news)
    (hv0 : 0 ≤ v) (hv1 : v < 16777216)
    (hret : ∀ (t : Tok) (h' : Heap) (tk' : Nat), Fr h₀ L h' m → News h₀ L h' news → Q (.str (isoOf v.toNat) t) { s with heap := h', toks := tk' }) :
    wpAny (model PySem.Challenge.rw_fe0337_02.row.prog w) (ktrTop dp un gd cn cs L a ccd cl outer) (call (.ref 301) [.ref x]) Q E s := by
  clear dtc_iso
  have N1 := news_cons (.tail _ hx) (news_cons hdx N)
  clear N hx hdx
  w_on
  w_strict (
    revert X
    k_fill
    intro X
    refine wpAny_call ?_
    (k_dflt cell_enter)
    k_steps
    rw [isoOf_eq hv0 hv1]
    (refine' end_str (Q := Q) (s := s) hret rfl ?e2 ?e3 ?e4)
    (case e2 => k_asm)
    (case e3 => k_asm)
    (case e4 => (intro p hp; repeat (first | exact hp | refine List.Mem.tail _ ?_))))
end Mine
namespace Mine
open PySem.Builtin PySem.Builtin.Str
theorem occ_sg : ∀ k < 4, occurrences (PySem.Str.ofString "PCBU") ⟨#[sg4 k]⟩ 0 (PySem.Str.ofString "PCBU").length 1 = [k] := by decide +kernel
theorem occ_dg : ∀ k < 4, occurrences (PySem.Str.ofString "0123") ⟨#[dgc k]⟩ 0 (PySem.Str.ofString "0123").length 1 = [k] := by decide +kernel
theorem occ_hx : ∀ k < 16, occurrences (PySem.Str.ofString "0123456789ABCDEF") ⟨#[hexc k]⟩ 0 (PySem.Str.ofString "0123456789ABCDEF").length 1 = [k] := by decide +kernel
section
variable {prog : Program} {w : World} {A : Around} {E : Value → Shared → Prop} {s : Shared} {x y : PySem.Str} {t u : Tok} {Q : Value → Shared → Prop} {k c : Nat}
theorem notin_one (e : occurrences x y 0 x.length 1 = [k]) (h : Q (.bool false) s) : wpAny (model prog w) A (compareOp .NotIn (.str y u) (.str x t)) Q E s :=
  P.notIn_str (by rw [e]; exact h)
theorem index_one (e : occurrences x y 0 x.length 1 = [k]) (h : ∀ t' k', Q (.int (k : Int) t') { s with toks := k' }) : wpAny (model prog w) A (call (.builtin "str.index") [.str x t, .str y u]) Q E s :=
  call_gives F.slot_str_index (typeIs_str s x t) F.entry_str_index (F.args_str_index_2 _ _) (gives_str_index x y t u k [] e) (h _ _)
theorem notin_sg (hk : k < 4) (h : Q (.bool false) s) : wpAny (model prog w) A (compareOp .NotIn (.str ⟨#[sg4 k]⟩ u) (.str (PySem.Str.ofString "PCBU") t)) Q E s := notin_one (occ_sg k hk) h
theorem index_sg (hk : k < 4) (h : ∀ t' k', Q (.int (k : Int) t') { s with toks := k' }) : wpAny (model prog w) A (call (.builtin "str.index") [.str (PySem.Str.ofString "PCBU") t, .str ⟨#[sg4 k]⟩ u]) Q E s := index_one (occ_sg k hk) h
theorem notin_dg (hk : k < 4) (h : Q (.bool false) s) : wpAny (model prog w) A (compareOp .NotIn (.str ⟨#[dgc k]⟩ u) (.str (PySem.Str.ofString "0123") t)) Q E s := notin_one (occ_dg k hk) h
theorem index_dg (hk : k < 4) (h : ∀ t' k', Q (.int (k : Int) t') { s with toks := k' }) : wpAny (model prog w) A (call (.builtin "str.index") [.str (PySem.Str.ofString "0123") t, .str ⟨#[dgc k]⟩ u]) Q E s := index_one (occ_dg k hk) h
theorem notin_hx (hk : k < 16) (h : Q (.bool false) s) : wpAny (model prog w) A (compareOp .NotIn (.str ⟨#[hexc k]⟩ u) (.str (PySem.Str.ofString "0123456789ABCDEF") t)) Q E s := notin_one (occ_hx k hk) h
theorem index_hx (hk : k < 16) (h : ∀ t' k', Q (.int (k : Int) t') { s with toks := k' }) : wpAny (model prog w) A (call (.builtin "str.index") [.str (PySem.Str.ofString "0123456789ABCDEF") t, .str ⟨#[hexc k]⟩ u]) Q E s := index_one (occ_hx k hk) h
theorem item_lit {value slice : PySem.Expr} {i : Int} {v : Tok} (hr : fitsSsize i = true) (h1 : -(x.length : Int) ≤ i) (h2 : i < x.length) (e : Txt.item x i = ⟨#[c]⟩)
    (h : ∀ t' k', Q (.str ⟨#[c]⟩ t') { s with toks := k' })
    (hs : subscripted slice false (.str x t) (.int i v) = operate [.str x t, .int i v] (getItem (.str x t) (.int i v)) := by with_unfolding_all rfl)
    (ht : ∀ r, letTemporaryGo value (.str x t) r = pure () := by intro _; with_unfolding_all rfl) :
    wpAny (model prog w) A (subscriptTail value slice (.str x t) (.int i v)) Q E s :=
  item_str hr h1 h2 (fun _ => by rw [e]; exact h _ _) hs ht
theorem item8_0 {c0 c1 c2 c3 c4 c5 c6 c7 : Nat} {value slice : PySem.Expr} {v : Tok} (h : ∀ t' k', Q (.str ⟨#[c0]⟩ t') { s with toks := k' })
    (hs : subscripted slice false (.str ⟨#[c0, c1, c2, c3, c4, c5, c6, c7]⟩ t) (.int 0 v) = operate [.str ⟨#[c0, c1, c2, c3, c4, c5, c6, c7]⟩ t, .int 0 v] (getItem (.str ⟨#[c0, c1, c2, c3, c4, c5, c6, c7]⟩ t) (.int 0 v)) := by with_unfolding_all rfl)
    (ht : ∀ r, letTemporaryGo value (.str ⟨#[c0, c1, c2, c3, c4, c5, c6, c7]⟩ t) r = pure () := by intro _; with_unfolding_all rfl) :
    wpAny (model prog w) A (subscriptTail value slice (.str ⟨#[c0, c1, c2, c3, c4, c5, c6, c7]⟩ t) (.int 0 v)) Q E s :=
  item_lit (by decide +kernel) (by show -(8 : Int) ≤ _; decide) (by show _ < (8 : Int); decide) rfl h hs ht
theorem item8_1 {c0 c1 c2 c3 c4 c5 c6 c7 : Nat} {value slice : PySem.Expr} {v : Tok} (h : ∀ t' k', Q (.str ⟨#[c1]⟩ t') { s with toks := k' })
    (hs : subscripted slice false (.str ⟨#[c0, c1, c2, c3, c4, c5, c6, c7]⟩ t) (.int 1 v) = operate [.str ⟨#[c0, c1, c2, c3, c4, c5, c6, c7]⟩ t, .int 1 v] (getItem (.str ⟨#[c0, c1, c2, c3, c4, c5, c6, c7]⟩ t) (.int 1 v)) := by with_unfolding_all rfl)
    (ht : ∀ r, letTemporaryGo value (.str ⟨#[c0, c1, c2, c3, c4, c5, c6, c7]⟩ t) r = pure () := by intro _; with_unfolding_all rfl) :
    wpAny (model prog w) A (subscriptTail value slice (.str ⟨#[c0, c1, c2, c3, c4, c5, c6, c7]⟩ t) (.int 1 v)) Q E s :=
  item_lit (by decide +kernel) (by show -(8 : Int) ≤ _; decide) (by show _ < (8 : Int); decide) rfl h hs ht
theorem item8_5 {c0 c1 c2 c3 c4 c5 c6 c7 : Nat} {value slice : PySem.Expr} {v : Tok} (h : ∀ t' k', Q (.str ⟨#[c5]⟩ t') { s with toks := k' })
    (hs : subscripted slice false (.str ⟨#[c0, c1, c2, c3, c4, c5, c6, c7]⟩ t) (.int 5 v) = operate [.str ⟨#[c0, c1, c2, c3, c4, c5, c6, c7]⟩ t, .int 5 v] (getItem (.str ⟨#[c0, c1, c2, c3, c4, c5, c6, c7]⟩ t) (.int 5 v)) := by with_unfolding_all rfl)
    (ht : ∀ r, letTemporaryGo value (.str ⟨#[c0, c1, c2, c3, c4, c5, c6, c7]⟩ t) r = pure () := by intro _; with_unfolding_all rfl) :
    wpAny (model prog w) A (subscriptTail value slice (.str ⟨#[c0, c1, c2, c3, c4, c5, c6, c7]⟩ t) (.int 5 v)) Q E s :=
  item_lit (by decide +kernel) (by show -(8 : Int) ≤ _; decide) (by show _ < (8 : Int); decide) rfl h hs ht
theorem len_lit {n : Int} (e : ((x.length : Nat) : Int) = n) (hn : n < 1000) (h : ∀ t' k', Q (.int n t') { s with toks := k' }) : wpAny (model prog w) A (call (.builtin "len") [.str x t]) Q E s :=
  P.len_str (by omega) (by rw [e]; exact h _ _)
theorem ne_same (e : x = y) (h : Q (.bool false) s) : wpAny (model prog w) A (compareOp .NotEq (.str x t) (.str y u)) Q E s :=
  P.ne_str (by subst e; rw [show (x.cps.toList != x.cps.toList) = false by simp]; exact h)
theorem add_lit {z : PySem.Str} (hx : (x.length == 0) = false) (hy : (y.length == 0) = false) (e : x ++ y = z) (hz : z.length ≤ 1000) (h : ∀ t' k', Q (.str z t') { s with toks := k' }) : wpAny (model prog w) A (binaryOp .Add (.str x t) (.str y u)) Q E s := by
  refine P.add_str ?_
  rw [hx, hy, e]
  simp only [Bool.false_eq_true, if_false]
  exact ⟨by rw [sizeLine_eq]; omega, h _ _⟩
end
end Mine
namespace Mine
theorem dash_is : PySem.Str.ofString "-" = ⟨#[45]⟩ := by decide +kernel
theorem all_ne_of_lt {l : Addr} {news : Led} (h : ∀ p ∈ news, p.1 < l) : ∀ p ∈ news, p.1 ≠ l := fun p hp => Nat.ne_of_lt (h p hp)
theorem all_ne_of_lt' {l : Addr} {news : Led} (h : AllLt l news) : ∀ p ∈ news, p.1 ≠ l := fun p hp => Nat.ne_of_lt (ktn_ltOf h p hp)
local macro_rules | `(tactic| k_all) => `(tactic| first | (with_reducible assumption) | exact all_ne_of_lt (by assumption) | exact all_ne_of_lt' (by assumption))
local macro_rules | `(tactic| walk_at "call builtin:len") => `(tactic| (k_here; (with_reducible show wpAny _ _ (call (Value.builtin "len") [Value.str _ _]) _ _ _); k_dflt (refine' len_lit (n := 8) ?k1 ?k2 ?_; (case k1 => exact rfl); (case k2 => decide)); intro t9 tk9; (try dsimp only); (try k_fold)))
local macro_rules | `(tactic| walk_at "subscriptTail Name Constant str int") => `(tactic| (k_here; (first | (with_reducible refine' item8_0 ?_ ?k5 ?k6) | (with_reducible refine' item8_1 ?_ ?k5 ?k6) | (with_reducible refine' item8_5 ?_ ?k5 ?k6)); (case k5 => with_unfolding_all rfl); (case k6 => intro _; with_unfolding_all rfl); intro t9 tk9; (try dsimp only); (try k_fold)))
local macro_rules | `(tactic| walk_at "compareOp NotIn str str") => `(tactic| (k_here; k_dflt (first | (with_reducible refine' notin_sg ?k1 ?_; (case k1 => assumption)) | (with_reducible refine' notin_dg ?k1 ?_; (case k1 => assumption)) | (with_reducible refine' notin_hx ?k1 ?_; (case k1 => assumption)))))
local macro_rules | `(tactic| walk_at "call builtin:str.index") => `(tactic| (k_here; k_dflt (((try dsimp only [List.cons_append, List.nil_append]); first | (with_reducible refine' index_sg ?k1 ?_; (case k1 => assumption)) | (with_reducible refine' index_dg ?k1 ?_; (case k1 => assumption)) | (with_reducible refine' index_hx ?k1 ?_; (case k1 => assumption)))); intro t9 tk9; (try dsimp only); (try k_fold)))
local macro_rules | `(tactic| walk_at "compareOp NotEq str str") => `(tactic| (k_here; k_dflt (refine' ne_same ?k1 ?_; (case k1 => exact dash_is.symm))))
local macro_rules | `(tactic| walk_at "binaryOp Add str str") => `(tactic| (k_here; k_dflt (refine' add_lit (z := ⟨#[hexc _, hexc _, hexc _, hexc _, hexc _]⟩) ?k1 ?k2 ?k3 ?k4 ?_; (case k3 => with_unfolding_all rfl); (case k1 => with_unfolding_all rfl); (case k2 => with_unfolding_all rfl); (case k4 => exact (by show 5 ≤ 1000; decide))); intro t9 tk9; (try dsimp only); (try k_fold)))
local macro_rules | `(tactic| walk_at "pyIter str") => `(tactic| (k_here; (rename Fr _ _ _ _ => lF'); (rename News _ _ _ _ => lN'); (with_unfolding_all refine' iter_strUnr (l := [⟨#[hexc _]⟩, ⟨#[hexc _]⟩, ⟨#[hexc _]⟩, ⟨#[hexc _]⟩, ⟨#[hexc _]⟩]) ?k1 lF' lN' ?k2 ?_); (case k1 => exact rfl); (case k2 => with_unfolding_all rfl); clear lF' lN'; intro i' l1; (try k_lt l1)))
local macro_rules | `(tactic| walk_at "exec For Name BinOp") => `(tactic| (k_here; (rename Fr _ _ _ _ => lF'); (with_unfolding_all refine' For_invVF lF' ?k1 ?k2 ?_; (case k1 => exact rfl); (case k2 => exact rfl); k_whole)))
local macro_rules | `(tactic| walk_at "call builtin:list.append") => `(tactic| (k_here; k_dflt (refine' append_K ?k1 ?k2 ?k3 ?_ ?z; (case k1 => k_asm); (case k2 => k_asm); (case k3 => k_upd); (case z => first | size_fits | exact Nat.le_of_ble_eq_true rfl); k_whole); intro h' F' N'; (try dsimp only)))
local macro_rules | `(tactic| walk_at "ite") => `(tactic| first | with_reducible refine ite_ff ?_ | with_reducible refine ite_tt ?_)
theorem unr_two {h₀ : Heap} {L I : Addr} {it : Obj} {rest : (PySem.Str → Option Value) → Led → Prop} {s₁ : Shared} {h' : Heap} {tk : Nat} {m' : PySem.Str → Option Value} {q : Addr × Obj} {news : Led} (F : Fr h₀ L h' m') (N : News h₀ L h' ((I, it) :: q :: news))
    (l1 : q.1 < I ∧ AllLt I news) (r : rest m' (q :: news)) : UnrEnd h₀ L s₁ I it rest { s₁ with heap := h', toks := tk } :=
  ⟨h', tk, m', q :: news, rfl, F, N, fun p hp => (List.mem_cons.mp hp).elim (fun e => e ▸ Nat.ne_of_lt l1.1) fun h => Nat.ne_of_lt (ktn_ltOf l1.2 p h), r⟩
local macro_rules | `(tactic| walk_at "UnrEnd") => `(tactic| (k_here; k_dflt (refine' unr_two ?k1 ?k2 ?k3 ?_; (case k1 => k_asm); (case k2 => k_asm); (case k3 => assumption))))
theorem news_head {h₀ h : Heap} {L : Addr} {q : Addr × Obj} {news rest : Led} (N : News h₀ L h (q :: rest)) (hs : ∀ p ∈ news, p ∈ rest) : News h₀ L h (q :: news) := fun p hp => (List.mem_cons.mp hp).elim (fun e => e ▸ N q (.head _)) fun h => N p (.tail _ (hs p h))
theorem law_read {a' d' x' y' z' u' v' : Nat} (ha : a' < 4) (hd' : d' < 4) (hx' : x' < 16) (hy' : y' < 16) (hz' : z' < 16) (hu' : u' < 16) (hv' : v' < 16) {tt : Tok} {w : World} {p : Program} {loose : List PySem.Str} {mean : ExcName → Option Value} {mg mb : PySem.Str → Option Value} {dp un : Nat} {gd : Option (List PySem.Code)} {cn : PySem.Str} {cs : Scope} {a : Addr} {ccd : Value} {cl : List (PySem.Str × Addr)} {outer : List Env} {A₀ : Around} {base h₀ : Heap} {L : Addr} {m : PySem.Str → Option Value} {s : Shared} {Q E : Value → Shared → Prop} {news : Led}
    (B : Below A₀ base outer h₀) (F : Fr h₀ L s.heap m) (X : (Mine.hd.heap_39 w.params).In h₀) (N : News h₀ L s.heap news) (T : Top p loose mean mg mb h₀) (hk : cs.kind = .function) (hd : dp + 2 < recursionLimit) (hu : un + 20 < cLine)
    (hret : ∀ (l : Addr) (u1 u2 u3 : Tok) (h' : Heap) (tk' : Nat), Fr h₀ L h' m → News h₀ L h' ((l, listOf #[.int (((a' : Int) * 4 + (d' : Int)) * 16 + (x' : Int)) u1, .int ((y' : Int) * 16 + (z' : Int)) u2, .int ((u' : Int) * 16 + (v' : Int)) u3] 0) :: news) → (∀ p ∈ news, p.1 < l) → Q (.ref l) { s with heap := h', toks := tk' }) :
    wpAny (model PySem.Challenge.rw_fe0337_02.row.prog w) (ktrTop dp un gd cn cs L a ccd cl outer) (call (.ref 315) [.str ⟨#[sg4 a', dgc d', hexc x', hexc y', hexc z', 45, hexc u', hexc v']⟩ tt]) Q E s := by
  clear law_read
  w_on
  w_strict (
    revert X
    k_fill
    intro X
    refine wpAny_call ?_
    (k_dflt cell_enter)
    k_steps
    (refine' hret _ _ _ _ _ _ ?e1 ?e2 ?e3)
    (case e1 => k_asm)
    (case e2 => refine' news_head ?f1 ?f2; (case f1 => k_asm); (case f2 => (intro p hp; repeat (first | exact hp | refine List.Mem.tail _ ?_))))
    (case e3 => exact fun p hp => ktn_ltOf (And.right (by assumption)) p hp))
end Mine
namespace Mine
local macro_rules | `(tactic| k_room) => `(tactic| ktr_room)
local macro_rules | `(tactic| k_all) => `(tactic| first | (with_reducible assumption) | exact fun p hp => Nat.ne_of_lt (by (have := ktn_ltOf (by assumption) p hp); omega))
theorem dtc_new {v : Int} {u : Tok} {w : World} {p : Program} {loose : List PySem.Str} {mean : ExcName → Option Value} {mg mb : PySem.Str → Option Value} {dp un : Nat} {gd : Option (List PySem.Code)} {cn : PySem.Str} {cs : Scope} {a : Addr} {ccd : Value} {cl : List (PySem.Str × Addr)} {outer : List Env} {A₀ : Around} {base h₀ : Heap} {L : Addr} {m : PySem.Str → Option Value} {s : Shared} {Q E : Value → Shared → Prop} {news : Led}
    (B : Below A₀ base outer h₀) (F : Fr h₀ L s.heap m) (X : (Mine.hd.heap_39 w.params).In h₀) (N : News h₀ L s.heap news) (T : Top p loose mean mg mb h₀) (hk : cs.kind = .function) (hd : dp + 6 < recursionLimit) (hu : un + 40 < cLine)
    (hret : ∀ (ca cda va vda ea na sa sda x dx : Addr) (gc0 gc1 gc2 gc3 gc4 gv0 gv1 gv2 gs0 gs1 gs2 gs3 gs4 gs5 gs6 gs7 gd0 gd1 gd2 gd3 gd4 gd5 gd6 gd7 : Int) (tc0 tc1 tc2 tc3 tc4 tv0 tv1 tv2 ts0 ts1 ts2 ts3 ts4 ts5 ts6 ts7 td0 td1 td2 td3 td4 td5 td6 td7 : Tok) (h' : Heap) (tk' : Nat), Fr h₀ L h' m →
      News h₀ L h' ((ca, instObj 283 cda) :: (cda, dictOf (clEs false false false false false gc0 gc1 gc2 gc3 gc4 tc0 tc1 tc2 tc3 tc4) 5) :: (va, instObj 194 vda) :: (vda, dictOf (seEs false false false gv0 gv1 gv2 tv0 tv1 tv2) 3) :: (ea, listOf #[] 0) :: (na, listOf #[] 0) :: (sa, instObj 133 sda) :: (sda, dictOf (stEs false false false false false false false false gs0 gs1 gs2 gs3 gs4 gs5 gs6 gs7 ts0 ts1 ts2 ts3 ts4 ts5 ts6 ts7) 8) :: (x, instObj 304 dx) :: (dx, dictOf (dtcEs v u sa na ea va ca gd0 gd1 gd2 gd3 gd4 gd5 gd6 gd7 td0 td1 td2 td3 td4 td5 td6 td7) 8) :: news) →
      (∀ p ∈ news, p.1 < dx) → (@LT.lt Nat _ dx x ∧ @LT.lt Nat _ x sda ∧ @LT.lt Nat _ sda sa ∧ @LT.lt Nat _ sa na ∧ @LT.lt Nat _ na ea ∧ @LT.lt Nat _ ea vda ∧ @LT.lt Nat _ vda va ∧ @LT.lt Nat _ va cda ∧ @LT.lt Nat _ cda ca) → Q (.ref x) { s with heap := h', toks := tk' }) :
    wpAny (model PySem.Challenge.rw_fe0337_02.row.prog w) (ktrTop dp un gd cn cs L a ccd cl outer) (call (.ref 304) [.int v u]) Q E s := by
  clear dtc_new
  w_on
  w_strict (
    revert X
    k_fill
    intro X
    k_dflt (refine' call_cls ?k1 ?k2 ?k3 ?k4 ?k5 ?k6 ?_; (case k1 => k_asm); (case k2 => k_asm); (case k3 => k_asm); (case k4 => k_is); (case k5 => k_is); (case k6 => k_is); k_whole; intro x' d' h' F' N' l1 l2; (have lt0 := l1); (try k_lt l1); (try k_lt2 l2); (try k_sweep); cell_enter)
    k_steps
    (refine' hret _ _ _ _ _ _ _ _ _ _ _ _ _ _ _ _ _ _ _ _ _ _ _ _ _ _ _ _ _ _ _ _ _ _ _ _ _ _ _ _ _ _ _ _ _ _ _ _ _ _ _ _ _ _ _ _ _ _ _ _ ?e1 ?e2 ?e3 ?e4)
    (case e1 => k_asm)
    (case e2 => k_asm)
    (case e3 => assumption)
    (case e4 => omega))
end Mine
namespace Mine
theorem bits_st (n : Int) : stVal (bit n 0) (bit n 1) (bit n 2) (bit n 3) (bit n 4) (bit n 5) (bit n 6) (bit n 7) = n % 256 := by
  unfold stVal
  have e0 : pk (bit n 0) 1 0 = n / 1 % 2 * 1 := bw_mask _ n 0 rfl
  have e1 : pk (bit n 1) 2 0 = n / 2 % 2 * 2 := bw_mask _ n 1 rfl
  have e2 : pk (bit n 2) 4 0 = n / 4 % 2 * 4 := bw_mask _ n 2 rfl
  have e3 : pk (bit n 3) 8 0 = n / 8 % 2 * 8 := bw_mask _ n 3 rfl
  have e4 : pk (bit n 4) 16 0 = n / 16 % 2 * 16 := bw_mask _ n 4 rfl
  have e5 : pk (bit n 5) 32 0 = n / 32 % 2 * 32 := bw_mask _ n 5 rfl
  have e6 : pk (bit n 6) 64 0 = n / 64 % 2 * 64 := bw_mask _ n 6 rfl
  have e7 : pk (bit n 7) 128 0 = n / 128 % 2 * 128 := bw_mask _ n 7 rfl
  rw [e0, e1, e2, e3, e4, e5, e6, e7]
  omega
def stIn (l : Led) (x : Addr) (n : Int) : Prop := ∃ (dx : Addr) (g0 g1 g2 g3 g4 g5 g6 g7 : Int) (t0 t1 t2 t3 t4 t5 t6 t7 : Tok), (x, instObj 133 dx) ∈ l ∧ (dx, dictOf (stEs (bit n 0) (bit n 1) (bit n 2) (bit n 3) (bit n 4) (bit n 5) (bit n 6) (bit n 7) g0 g1 g2 g3 g4 g5 g6 g7 t0 t1 t2 t3 t4 t5 t6 t7) 8) ∈ l
theorem stIn_sub {l l' : Led} {x : Addr} {n : Int} (h : stIn l x n) (hs : ∀ p ∈ l, p ∈ l') : stIn l' x n := by
  obtain ⟨dx, g0, g1, g2, g3, g4, g5, g6, g7, t0, t1, t2, t3, t4, t5, t6, t7, a, b⟩ := h
  exact ⟨dx, g0, g1, g2, g3, g4, g5, g6, g7, t0, t1, t2, t3, t4, t5, t6, t7, hs _ a, hs _ b⟩
theorem st_getN {x : Addr} {n : Int} {w : World} {p : Program} {loose : List PySem.Str} {mean : ExcName → Option Value} {mg mb : PySem.Str → Option Value} {dp un : Nat} {gd : Option (List PySem.Code)} {cn : PySem.Str} {cs : Scope} {a : Addr} {ccd : Value} {cl : List (PySem.Str × Addr)} {outer : List Env} {A₀ : Around} {base h₀ : Heap} {L : Addr} {m : PySem.Str → Option Value} {s : Shared} {Q E : Value → Shared → Prop} {news : Led}
    (B : Below A₀ base outer h₀) (F : Fr h₀ L s.heap m) (X : (Mine.hd.heap_39 w.params).In h₀) (N : News h₀ L s.heap news) (T : Top p loose mean mg mb h₀) (hk : cs.kind = .function) (hd : dp + 2 < recursionLimit) (hu : un + 20 < cLine) (hx : stIn news x n)
    (hret : ∀ (t : Tok) (h' : Heap) (tk' : Nat), Fr h₀ L h' m → News h₀ L h' news → Q (.int (n % 256) t) { s with heap := h', toks := tk' }) :
    wpAny (model PySem.Challenge.rw_fe0337_02.row.prog w) (ktrTop dp un gd cn cs L a ccd cl outer) (call (.ref 106) [.ref x]) Q E s := by
  obtain ⟨dx, g0, g1, g2, g3, g4, g5, g6, g7, t0, t1, t2, t3, t4, t5, t6, t7, a, b⟩ := hx
  refine st_get B F X N T hk hd hu a b ?_
  rw [bits_st]
  exact hret
theorem st_getbN {x : Addr} {n : Int} {w : World} {p : Program} {loose : List PySem.Str} {mean : ExcName → Option Value} {mg mb : PySem.Str → Option Value} {dp un : Nat} {gd : Option (List PySem.Code)} {cn : PySem.Str} {cs : Scope} {a : Addr} {ccd : Value} {cl : List (PySem.Str × Addr)} {outer : List Env} {A₀ : Around} {base h₀ : Heap} {L : Addr} {m : PySem.Str → Option Value} {s : Shared} {Q E : Value → Shared → Prop} {news : Led}
    (B : Below A₀ base outer h₀) (F : Fr h₀ L s.heap m) (X : (Mine.hd.heap_39 w.params).In h₀) (N : News h₀ L s.heap news) (T : Top p loose mean mg mb h₀) (hk : cs.kind = .function) (hd : dp + 3 < recursionLimit) (hu : un + 30 < cLine) (hx : stIn news x n)
    (hret : ∀ (t : Tok) (h' : Heap) (tk' : Nat), Fr h₀ L h' m → News h₀ L h' news → Q (.bytes #[UInt8.ofNat (n % 256).toNat] t) { s with heap := h', toks := tk' }) :
    wpAny (model PySem.Challenge.rw_fe0337_02.row.prog w) (ktrTop dp un gd cn cs L a ccd cl outer) (call (.ref 113) [.ref x]) Q E s := by
  obtain ⟨dx, g0, g1, g2, g3, g4, g5, g6, g7, t0, t1, t2, t3, t4, t5, t6, t7, a, b⟩ := hx
  refine st_getb B F X N T hk hd hu a b ?_
  rw [bits_st]
  exact hret
theorem bits_se (n : Int) : seVal (bit n 5) (bit n 6) (bit n 7) = n / 32 % 8 * 32 := by
  unfold seVal
  have e5 : pk (bit n 5) 32 0 = n / 32 % 2 * 32 := bw_mask _ n 5 rfl
  have e6 : pk (bit n 6) 64 0 = n / 64 % 2 * 64 := bw_mask _ n 6 rfl
  have e7 : pk (bit n 7) 128 0 = n / 128 % 2 * 128 := bw_mask _ n 7 rfl
  rw [e5, e6, e7]
  omega
def seIn (l : Led) (x : Addr) (n : Int) : Prop := ∃ (dx : Addr) (g0 g1 g2 : Int) (t0 t1 t2 : Tok), (x, instObj 194 dx) ∈ l ∧ (dx, dictOf (seEs (bit n 5) (bit n 6) (bit n 7) g0 g1 g2 t0 t1 t2) 3) ∈ l
theorem seIn_sub {l l' : Led} {x : Addr} {n : Int} (h : seIn l x n) (hs : ∀ p ∈ l, p ∈ l') : seIn l' x n := by
  obtain ⟨dx, g0, g1, g2, t0, t1, t2, a, b⟩ := h
  exact ⟨dx, g0, g1, g2, t0, t1, t2, hs _ a, hs _ b⟩
theorem se_getN {x : Addr} {n : Int} {w : World} {p : Program} {loose : List PySem.Str} {mean : ExcName → Option Value} {mg mb : PySem.Str → Option Value} {dp un : Nat} {gd : Option (List PySem.Code)} {cn : PySem.Str} {cs : Scope} {a : Addr} {ccd : Value} {cl : List (PySem.Str × Addr)} {outer : List Env} {A₀ : Around} {base h₀ : Heap} {L : Addr} {m : PySem.Str → Option Value} {s : Shared} {Q E : Value → Shared → Prop} {news : Led}
    (B : Below A₀ base outer h₀) (F : Fr h₀ L s.heap m) (X : (Mine.hd.heap_39 w.params).In h₀) (N : News h₀ L s.heap news) (T : Top p loose mean mg mb h₀) (hk : cs.kind = .function) (hd : dp + 2 < recursionLimit) (hu : un + 20 < cLine) (hx : seIn news x n)
    (hret : ∀ (t : Tok) (h' : Heap) (tk' : Nat), Fr h₀ L h' m → News h₀ L h' news → Q (.int (n / 32 % 8 * 32) t) { s with heap := h', toks := tk' }) :
    wpAny (model PySem.Challenge.rw_fe0337_02.row.prog w) (ktrTop dp un gd cn cs L a ccd cl outer) (call (.ref 159) [.ref x]) Q E s := by
  obtain ⟨dx, g0, g1, g2, t0, t1, t2, a, b⟩ := hx
  refine se_get B F X N T hk hd hu a b ?_
  rw [bits_se]
  exact hret
theorem se_getbN {x : Addr} {n : Int} {w : World} {p : Program} {loose : List PySem.Str} {mean : ExcName → Option Value} {mg mb : PySem.Str → Option Value} {dp un : Nat} {gd : Option (List PySem.Code)} {cn : PySem.Str} {cs : Scope} {a : Addr} {ccd : Value} {cl : List (PySem.Str × Addr)} {outer : List Env} {A₀ : Around} {base h₀ : Heap} {L : Addr} {m : PySem.Str → Option Value} {s : Shared} {Q E : Value → Shared → Prop} {news : Led}
    (B : Below A₀ base outer h₀) (F : Fr h₀ L s.heap m) (X : (Mine.hd.heap_39 w.params).In h₀) (N : News h₀ L s.heap news) (T : Top p loose mean mg mb h₀) (hk : cs.kind = .function) (hd : dp + 3 < recursionLimit) (hu : un + 30 < cLine) (hx : seIn news x n)
    (hret : ∀ (t : Tok) (h' : Heap) (tk' : Nat), Fr h₀ L h' m → News h₀ L h' news → Q (.bytes #[UInt8.ofNat (n / 32 % 8 * 32).toNat] t) { s with heap := h', toks := tk' }) :
    wpAny (model PySem.Challenge.rw_fe0337_02.row.prog w) (ktrTop dp un gd cn cs L a ccd cl outer) (call (.ref 166) [.ref x]) Q E s := by
  obtain ⟨dx, g0, g1, g2, t0, t1, t2, a, b⟩ := hx
  refine se_getb B F X N T hk hd hu a b ?_
  rw [bits_se]
  exact hret
theorem bits_cl (n : Int) : clVal (bit n 0) (bit n 1) (bit n 2) (bit n 3) (bit n 4) = n % 32 := by
  unfold clVal
  have e0 : pk (bit n 0) 1 0 = n / 1 % 2 * 1 := bw_mask _ n 0 rfl
  have e1 : pk (bit n 1) 2 0 = n / 2 % 2 * 2 := bw_mask _ n 1 rfl
  have e2 : pk (bit n 2) 4 0 = n / 4 % 2 * 4 := bw_mask _ n 2 rfl
  have e3 : pk (bit n 3) 8 0 = n / 8 % 2 * 8 := bw_mask _ n 3 rfl
  have e4 : pk (bit n 4) 16 0 = n / 16 % 2 * 16 := bw_mask _ n 4 rfl
  rw [e0, e1, e2, e3, e4]
  omega
def clIn (l : Led) (x : Addr) (n : Int) : Prop := ∃ (dx : Addr) (g0 g1 g2 g3 g4 : Int) (t0 t1 t2 t3 t4 : Tok), (x, instObj 283 dx) ∈ l ∧ (dx, dictOf (clEs (bit n 0) (bit n 1) (bit n 2) (bit n 3) (bit n 4) g0 g1 g2 g3 g4 t0 t1 t2 t3 t4) 5) ∈ l
theorem clIn_sub {l l' : Led} {x : Addr} {n : Int} (h : clIn l x n) (hs : ∀ p ∈ l, p ∈ l') : clIn l' x n := by
  obtain ⟨dx, g0, g1, g2, g3, g4, t0, t1, t2, t3, t4, a, b⟩ := h
  exact ⟨dx, g0, g1, g2, g3, g4, t0, t1, t2, t3, t4, hs _ a, hs _ b⟩
theorem cl_getN {x : Addr} {n : Int} {w : World} {p : Program} {loose : List PySem.Str} {mean : ExcName → Option Value} {mg mb : PySem.Str → Option Value} {dp un : Nat} {gd : Option (List PySem.Code)} {cn : PySem.Str} {cs : Scope} {a : Addr} {ccd : Value} {cl : List (PySem.Str × Addr)} {outer : List Env} {A₀ : Around} {base h₀ : Heap} {L : Addr} {m : PySem.Str → Option Value} {s : Shared} {Q E : Value → Shared → Prop} {news : Led}
    (B : Below A₀ base outer h₀) (F : Fr h₀ L s.heap m) (X : (Mine.hd.heap_39 w.params).In h₀) (N : News h₀ L s.heap news) (T : Top p loose mean mg mb h₀) (hk : cs.kind = .function) (hd : dp + 2 < recursionLimit) (hu : un + 20 < cLine) (hx : clIn news x n)
    (hret : ∀ (t : Tok) (h' : Heap) (tk' : Nat), Fr h₀ L h' m → News h₀ L h' news → Q (.int (n % 32) t) { s with heap := h', toks := tk' }) :
    wpAny (model PySem.Challenge.rw_fe0337_02.row.prog w) (ktrTop dp un gd cn cs L a ccd cl outer) (call (.ref 248) [.ref x]) Q E s := by
  obtain ⟨dx, g0, g1, g2, g3, g4, t0, t1, t2, t3, t4, a, b⟩ := hx
  refine cl_get B F X N T hk hd hu a b ?_
  rw [bits_cl]
  exact hret
theorem cl_getbN {x : Addr} {n : Int} {w : World} {p : Program} {loose : List PySem.Str} {mean : ExcName → Option Value} {mg mb : PySem.Str → Option Value} {dp un : Nat} {gd : Option (List PySem.Code)} {cn : PySem.Str} {cs : Scope} {a : Addr} {ccd : Value} {cl : List (PySem.Str × Addr)} {outer : List Env} {A₀ : Around} {base h₀ : Heap} {L : Addr} {m : PySem.Str → Option Value} {s : Shared} {Q E : Value → Shared → Prop} {news : Led}
    (B : Below A₀ base outer h₀) (F : Fr h₀ L s.heap m) (X : (Mine.hd.heap_39 w.params).In h₀) (N : News h₀ L s.heap news) (T : Top p loose mean mg mb h₀) (hk : cs.kind = .function) (hd : dp + 3 < recursionLimit) (hu : un + 30 < cLine) (hx : clIn news x n)
    (hret : ∀ (t : Tok) (h' : Heap) (tk' : Nat), Fr h₀ L h' m → News h₀ L h' news → Q (.bytes #[UInt8.ofNat (n % 32).toNat] t) { s with heap := h', toks := tk' }) :
    wpAny (model PySem.Challenge.rw_fe0337_02.row.prog w) (ktrTop dp un gd cn cs L a ccd cl outer) (call (.ref 255) [.ref x]) Q E s := by
  obtain ⟨dx, g0, g1, g2, g3, g4, t0, t1, t2, t3, t4, a, b⟩ := hx
  refine cl_getb B F X N T hk hd hu a b ?_
  rw [bits_cl]
  exact hret
def codeIn (l : Led) (x : Addr) (v s e c : Int) : Prop := ∃ (dx sa na ea va ca : Addr) (tv : Tok) (g0 g1 g2 g3 g4 g5 g6 g7 : Int) (t0 t1 t2 t3 t4 t5 t6 t7 : Tok), (x, instObj 304 dx) ∈ l ∧ (dx, dictOf (dtcEs v tv sa na ea va ca g0 g1 g2 g3 g4 g5 g6 g7 t0 t1 t2 t3 t4 t5 t6 t7) 8) ∈ l ∧ stIn l sa s ∧ seIn l va e ∧ clIn l ca c
theorem codeIn_sub {l l' : Led} {x : Addr} {v s e c : Int} (h : codeIn l x v s e c) (hs : ∀ p ∈ l, p ∈ l') : codeIn l' x v s e c := by
  obtain ⟨dx, sa, na, ea, va, ca, tv, g0, g1, g2, g3, g4, g5, g6, g7, t0, t1, t2, t3, t4, t5, t6, t7, a, b, c1, c2, c3⟩ := h
  exact ⟨dx, sa, na, ea, va, ca, tv, g0, g1, g2, g3, g4, g5, g6, g7, t0, t1, t2, t3, t4, t5, t6, t7, hs _ a, hs _ b, stIn_sub c1 hs, seIn_sub c2 hs, clIn_sub c3 hs⟩
end Mine
namespace Mine
section
variable {prog : Program} {w : World} {A : Around} {E : Value → Shared → Prop} {s : Shared} {env : Env} {h₀ : Heap} {x : PySem.Str} {body : List Stmt} {Q : Flow → Shared → Prop}
theorem unrEnd_mono {L I : Addr} {it : Obj} {R R' : (PySem.Str → Option Value) → List (Addr × Obj) → Prop} {s₁ s₂ : Shared} (hR : ∀ m n, R m n → R' m n) (h : UnrEnd h₀ L s₁ I it R s₂) : UnrEnd h₀ L s₁ I it R' s₂ := by
  obtain ⟨h', tk, m', news', e, F, N, o, r⟩ := h
  exact ⟨h', tk, m', news', e, F, N, o, hR _ _ r⟩
theorem unrPost_mono {L I : Addr} {it : Obj} {R R' : (PySem.Str → Option Value) → List (Addr × Obj) → Prop} {s₁ s₂ : Shared} {f : Flow} (hR : ∀ m n, R m n → R' m n) (h : UnrPost h₀ L s₁ I it R Q f s₂) : UnrPost h₀ L s₁ I it R' Q f s₂ := by
  cases f with
  | ret v => exact h
  | brk => exact h
  | next => exact unrEnd_mono hR h
  | cont => exact unrEnd_mono hR h
theorem krs_inv {r : Addr} {a₀ b₀ c : Int} {t₀ u₀ v₀ : Tok} {n : Nat} {m₀ : PySem.Str → Option Value} {news : List (Addr × Obj)} (Inv : Nat → (PySem.Str → Option Value) → List (Addr × Obj) → Prop)
    (hh : A.handled = none) (hr : IsRange s.heap r a₀ b₀ c t₀ u₀ v₀) (hsmall : Builtin.Range.small a₀ b₀ c = true) (hn : Builtin.Range.rangeSize a₀ b₀ c = (n : Int)) (F : Fr h₀ env.locals s.heap m₀) (N : News h₀ env.locals s.heap news)
    (h0 : Inv 0 m₀ news)
    (turn : ∀ (I : Addr) (it : Obj) i m nx t h tk, i < n → Inv i m nx → Fr h₀ env.locals h (fun y => if y = x then some (.int (a₀ + (i : Int) * c) t) else m y) → News h₀ env.locals h ((I, it) :: nx) → (∀ p ∈ nx, p.1 ≠ I) →
      wpAny (model prog w) A (execs body env) (UnrPost h₀ env.locals { s with heap := h, toks := tk } I it (Inv (i + 1)) Q) E { s with heap := h, toks := tk })
    (done : ∀ m nx h tk, Inv n m nx → Fr h₀ env.locals h m → News h₀ env.locals h nx → Q .next { s with heap := h, toks := tk }) :
    wpAny (model prog w) A (pyIter (.ref r)) (fun it s₂ => LoopAtV prog w A h₀ env x body Q E it s₂) E s := by
  refine krs_iter hh hr hsmall hn F N fun I hI => ?_
  have key : ∀ k i m nx, i + k = n → (∀ p ∈ nx, p.1 ≠ I) → Inv i m nx → KrsRest prog w A E h₀ env x body Q s I a₀ c n k i m nx := by
    intro k
    induction k with
    | zero =>
      intro i m nx hi _ hv
      have : i = n := by omega
      subst this
      exact fun h tk F' N' => done m nx h tk hv F' N'
    | succ k ih =>
      intro i m nx hi ho hv t h tk F' N'
      refine wpAny_mono (turn I _ i m nx t h tk (by omega) hv F' N' ho) (fun f s₂ p => ?_) fun _ _ e => e
      have up : UnrEnd h₀ env.locals { s with heap := h, toks := tk } I (krsIt (a₀ + ((i + 1 : Nat) : Int) * c) ((n : Int) - ((i + 1 : Nat) : Int)) c) (Inv (i + 1)) s₂ →
          UnrEnd h₀ env.locals { s with heap := h, toks := tk } I (krsIt (a₀ + ((i + 1 : Nat) : Int) * c) ((n : Int) - ((i + 1 : Nat) : Int)) c) (KrsRest prog w A E h₀ env x body Q s I a₀ c n k (i + 1)) s₂ := by
        rintro ⟨h', tk', m', news', e, F2, N2, o, r⟩
        exact ⟨h', tk', m', news', e, F2, N2, o, ih (i + 1) m' news' (by omega) o r⟩
      cases f with
      | ret v => exact p
      | brk => exact p
      | next => exact up p
      | cont => exact up p
  exact key n 0 m₀ news (by omega) (fun p hp => Nat.ne_of_lt (hI p hp)) h0
theorem list_inv {ax : Addr} {lo : Obj} {vs : List Value} {n : Nat} {m₀ : PySem.Str → Option Value} {news : List (Addr × Obj)} (Inv : Nat → (PySem.Str → Option Value) → List (Addr × Obj) → Prop)
    (hh : A.handled = none) (F : Fr h₀ env.locals s.heap m₀) (N : News h₀ env.locals s.heap news) (hm : (ax, lo) ∈ news) (hc : lo.cls = .type "list") (hd : lo.data = .seq vs.toArray n)
    (h0 : Inv 0 m₀ news) (hin : ∀ i m nx, Inv i m nx → (ax, lo) ∈ nx)
    (turn : ∀ (I : Addr) (it : Obj) i v m nx h tk, vs[i]? = some v → Inv i m nx → Fr h₀ env.locals h (fun y => if y = x then some v else m y) → News h₀ env.locals h ((I, it) :: nx) → (∀ p ∈ nx, p.1 ≠ I) →
      wpAny (model prog w) A (execs body env) (UnrPost h₀ env.locals { s with heap := h, toks := tk } I it (Inv (i + 1)) Q) E { s with heap := h, toks := tk })
    (done : ∀ m nx h tk, Inv vs.length m nx → Fr h₀ env.locals h m → News h₀ env.locals h nx → Q .next { s with heap := h, toks := tk }) :
    wpAny (model prog w) A (pyIter (.ref ax)) (fun it s₂ => LoopAtV prog w A h₀ env x body Q E it s₂) E s := by
  refine iter_listUnr hh F N hm hc hd fun I hI => ?_
  have key : ∀ (r pre : List Value) m nx, pre ++ r = vs → (∀ p ∈ nx, p.1 ≠ I) → Inv pre.length m nx → ListRest prog w A E h₀ env x body Q s I (ax, lo) r m nx := by
    intro r
    induction r with
    | nil =>
      intro pre m nx hi _ hv
      rw [List.append_nil] at hi
      subst hi
      exact fun h tk F' N' => done m nx h tk hv F' N'
    | cons v r ih =>
      intro pre m nx hi ho hv it h tk _ F' N'
      have hvi : vs[pre.length]? = some v := by rw [← hi]; simp
      refine wpAny_mono (turn I it pre.length v m nx h tk hvi hv F' N' ho) (fun f s₂ p => ?_) fun _ _ e => e
      have up : UnrEnd h₀ env.locals { s with heap := h, toks := tk } I it (Inv (pre.length + 1)) s₂ →
          UnrEnd h₀ env.locals { s with heap := h, toks := tk } I it (fun m' n' => (ax, lo) ∈ n' ∧ ListRest prog w A E h₀ env x body Q s I (ax, lo) r m' n') s₂ := by
        rintro ⟨h', tk', m', news', e, F2, N2, o, q⟩
        exact ⟨h', tk', m', news', e, F2, N2, o, hin _ _ _ q, ih (pre ++ [v]) m' news' (by rw [List.append_assoc]; exact hi) o (by rw [List.length_append]; exact q)⟩
      cases f with
      | ret v => exact p
      | brk => exact p
      | next => exact up p
      | cont => exact up p
  exact key vs [] m₀ news rfl (fun p hp => Nat.ne_of_lt (hI p hp)) h0
end
end Mine
namespace Mine
def at5 (ns : List Int) (i k : Nat) : Int := ns.getD (5 * i + k) 0
def idAt (ns : List Int) (i : Nat) : Int := at5 ns i 1 * 65536 + at5 ns i 2 * 256 + at5 ns i 3
def BytesL (ns : List Int) : Prop := ∀ x ∈ ns, 0 ≤ x ∧ x < 256
theorem byte_at {ns : List Int} (h : BytesL ns) (k : Nat) : 0 ≤ ns.getD k 0 ∧ ns.getD k 0 < 256 := by
  rw [List.getD_eq_getElem?_getD]
  cases e : ns[k]? with
  | none => simp
  | some v => exact h v (List.mem_of_getElem? e)
theorem bytesL_map (xs : List Int) : BytesL (List.map (fun k' => k'.fmod 256) xs) := by
  intro x hx
  obtain ⟨y, _, rfl⟩ := List.mem_map.mp hx
  exact ⟨Int.fmod_nonneg_of_pos _ (by decide), Int.fmod_lt_of_pos _ (by decide)⟩
def codesIn (ns : List Int) (its : Array Value) (tl : Led) (i : Nat) : Prop := ∀ j < i, ∃ x, its[j]? = some (.ref x) ∧ codeIn tl x (idAt ns j) (at5 ns j 4) (at5 ns j 0) (at5 ns j 0)
def Inv1 (m₀ : PySem.Str → Option Value) (lc D : Addr) (ys : List Value) (ns : List Int) (i : Nat) (m : PySem.Str → Option Value) (nx : Led) : Prop :=
  (∀ y, y ≠ PySem.Str.ofString "code" → y ≠ PySem.Str.ofString "k" → m y = m₀ y) ∧ ∃ its tl, nx = (lc, W.listOf its i) :: (D, LCg.lst ys) :: tl ∧ (∀ p ∈ tl, p.1 ≠ lc) ∧ its.size = i ∧ codesIn ns its tl i
section
variable {prog : Program} {w : World} {A : Around} {E : Value → Shared → Prop} {s : Shared} {env : Env} {h₀ : Heap} {body : List Stmt} {Q : Flow → Shared → Prop}
theorem turn1_end {I lc D q ca cda va vda ea na sa sda x dx : Addr} {it oq : Obj} {its : Array Value} {ys : List Value} {tl : Led} {i : Nat} {ns : List Int} {m₀ m' : PySem.Str → Option Value} {L : Addr} {h' : Heap} {tk : Nat} {v a b c : Int} {tv : Tok}
    {gc0 gc1 gc2 gc3 gc4 gv0 gv1 gv2 gs0 gs1 gs2 gs3 gs4 gs5 gs6 gs7 gd0 gd1 gd2 gd3 gd4 gd5 gd6 gd7 : Int} {tc0 tc1 tc2 tc3 tc4 tv0 tv1 tv2 ts0 ts1 ts2 ts3 ts4 ts5 ts6 ts7 td0 td1 td2 td3 td4 td5 td6 td7 : Tok} {o1 o2 : Obj}
    (F : Fr h₀ L h' m')
    (N : News h₀ L h' ((q, oq) :: (ca, instObj 283 cda) :: (cda, dictOf (clEs (bit c 0) (bit c 1) (bit c 2) (bit c 3) (bit c 4) gc0 gc1 gc2 gc3 gc4 tc0 tc1 tc2 tc3 tc4) 5) :: (va, instObj 194 vda) :: (vda, dictOf (seEs (bit a 5) (bit a 6) (bit a 7) gv0 gv1 gv2 tv0 tv1 tv2) 3) :: (ea, W.listOf #[] 0) :: (na, W.listOf #[] 0) :: (sa, instObj 133 sda) ::
      (sda, dictOf (stEs (bit b 0) (bit b 1) (bit b 2) (bit b 3) (bit b 4) (bit b 5) (bit b 6) (bit b 7) gs0 gs1 gs2 gs3 gs4 gs5 gs6 gs7 ts0 ts1 ts2 ts3 ts4 ts5 ts6 ts7) 8) :: (x, instObj 304 dx) :: (dx, dictOf (dtcEs v tv sa na ea va ca gd0 gd1 gd2 gd3 gd4 gd5 gd6 gd7 td0 td1 td2 td3 td4 td5 td6 td7) 8) ::
      (I, it) :: (lc, W.listOf (its.push (.ref x)) (i + 1)) :: (D, LCg.lst ys) :: tl))
    (hz : its.size = i) (hm : ∀ y, y ≠ PySem.Str.ofString "code" → y ≠ PySem.Str.ofString "k" → m' y = m₀ y) (h0 : ∀ p ∈ (I, it) :: (lc, o1) :: (D, o2) :: tl, p.1 < dx)
    (hch : @LT.lt Nat _ dx x ∧ @LT.lt Nat _ x sda ∧ @LT.lt Nat _ sda sa ∧ @LT.lt Nat _ sa na ∧ @LT.lt Nat _ na ea ∧ @LT.lt Nat _ ea vda ∧ @LT.lt Nat _ vda va ∧ @LT.lt Nat _ va cda ∧ @LT.lt Nat _ cda ca) (hq : @LT.lt Nat _ ca q)
    (hlI : @Ne Nat I lc) (hDI : @Ne Nat I D) (hD : @Ne Nat D lc) (hl : ∀ p ∈ tl, p.1 ≠ lc) (hI : ∀ p ∈ tl, p.1 ≠ I) (hc : codesIn ns its tl i) (ev : v = idAt ns i) (ea' : a = at5 ns i 0) (eb : b = at5 ns i 4) (ec : c = at5 ns i 0) :
    UnrEnd h₀ L s I it (Inv1 m₀ lc D ys ns (i + 1)) { s with heap := h', toks := tk } := by
  subst ev ea' eb ec
  have hI0 : @LT.lt Nat _ I dx := h0 _ (.head _)
  have hl0 : @LT.lt Nat _ lc dx := h0 _ (.tail _ (.head _))
  have hsub : ∀ p ∈ (I, it) :: (lc, W.listOf (its.push (.ref x)) (i + 1)) :: (D, LCg.lst ys) :: (q, oq) :: (ca, instObj 283 cda) :: (cda, dictOf (clEs (bit (at5 ns i 0) 0) (bit (at5 ns i 0) 1) (bit (at5 ns i 0) 2) (bit (at5 ns i 0) 3) (bit (at5 ns i 0) 4) gc0 gc1 gc2 gc3 gc4 tc0 tc1 tc2 tc3 tc4) 5) :: (va, instObj 194 vda) :: (vda, dictOf (seEs (bit (at5 ns i 0) 5) (bit (at5 ns i 0) 6) (bit (at5 ns i 0) 7) gv0 gv1 gv2 tv0 tv1 tv2) 3) :: (ea, W.listOf #[] 0) :: (na, W.listOf #[] 0) :: (sa, instObj 133 sda) ::
      (sda, dictOf (stEs (bit (at5 ns i 4) 0) (bit (at5 ns i 4) 1) (bit (at5 ns i 4) 2) (bit (at5 ns i 4) 3) (bit (at5 ns i 4) 4) (bit (at5 ns i 4) 5) (bit (at5 ns i 4) 6) (bit (at5 ns i 4) 7) gs0 gs1 gs2 gs3 gs4 gs5 gs6 gs7 ts0 ts1 ts2 ts3 ts4 ts5 ts6 ts7) 8) :: (x, instObj 304 dx) :: (dx, dictOf (dtcEs (idAt ns i) tv sa na ea va ca gd0 gd1 gd2 gd3 gd4 gd5 gd6 gd7 td0 td1 td2 td3 td4 td5 td6 td7) 8) :: tl,
      h'.get? p.1 = some p.2 ∧ p.1 ≠ L ∧ h₀.get? p.1 = none := by
    intro p hp
    refine N p ?_
    simp only [List.mem_cons] at hp ⊢
    grind
  refine ⟨h', tk, m', _, rfl, F, hsub, ?_, hm, its.push (.ref x), _, rfl, ?_, by simp [hz], ?_⟩
  · intro p hp
    simp only [List.mem_cons] at hp
    rcases hp with e | e | e | e | e | e | e | e | e | e | e | e | e | hp
    all_goals first | (subst e; dsimp only; exact neN (by omega)) | exact hI p hp
  · intro p hp
    simp only [List.mem_cons] at hp
    rcases hp with e | e | e | e | e | e | e | e | e | e | e | hp
    all_goals first | (subst e; dsimp only; exact neN (by omega)) | exact hl p hp
  · intro j hj
    by_cases hji : j < i
    · obtain ⟨y, e, k⟩ := hc j hji
      refine ⟨y, by rw [Array.getElem?_push_lt (by omega)]; rw [← e, Array.getElem?_eq_getElem (by omega)], codeIn_sub k ?_⟩
      intro p hp
      exact .tail _ (.tail _ (.tail _ (.tail _ (.tail _ (.tail _ (.tail _ (.tail _ (.tail _ (.tail _ (.tail _ hp))))))))))
    · have : j = i := by omega
      subst this
      refine ⟨x, by rw [← hz]; simp, dx, sa, na, ea, va, ca, tv, gd0, gd1, gd2, gd3, gd4, gd5, gd6, gd7, td0, td1, td2, td3, td4, td5, td6, td7, ?_, ?_, ⟨sda, gs0, gs1, gs2, gs3, gs4, gs5, gs6, gs7, ts0, ts1, ts2, ts3, ts4, ts5, ts6, ts7, ?_, ?_⟩, ⟨vda, gv0, gv1, gv2, tv0, tv1, tv2, ?_, ?_⟩, ⟨cda, gc0, gc1, gc2, gc3, gc4, tc0, tc1, tc2, tc3, tc4, ?_, ?_⟩⟩
      all_goals repeat (first | exact List.Mem.head _ | refine List.Mem.tail _ ?_)
theorem loop1 {r lc D : Addr} {b₀ : Int} {t₀ u₀ v₀ : Tok} {n : Nat} {m₀ : PySem.Str → Option Value} {rest : Led} {ys : List Value} {ns : List Int}
    (hh : A.handled = none) (hr : IsRange s.heap r 0 b₀ 5 t₀ u₀ v₀) (hI : IntsAre ys ns) (hB : BytesL ns) (hb : b₀ = (ns.length : Int)) (h5 : ns.length = 5 * n) (hn5 : n ≤ 5) (F : Fr h₀ env.locals s.heap m₀) (N : News h₀ env.locals s.heap ((lc, W.listOf #[] 0) :: (D, LCg.lst ys) :: rest))
    (hD : @Ne Nat D lc) (hlr : ∀ p ∈ rest, p.1 ≠ lc)
    (turn : ∀ (ns : List Int), BytesL ns → IntsAre ys ns → ∀ (I : Addr) (it : Obj) (i : Nat) (its : Array Value) (tl : Led) (u1 u2 : Option Value) t h tk, ns.length = 5 * n → (i : Int) < n → 0 ≤ (i : Int) → its.size = i → (∀ p ∈ tl, p.1 ≠ lc) → (∀ p ∈ tl, p.1 ≠ I) → @Ne Nat I lc → @Ne Nat I D → @Ne Nat D lc → codesIn ns its tl i →
      Fr h₀ env.locals h (fun y => if y = PySem.Str.ofString "k" then some (.int (0 + (i : Int) * 5) t) else if y = PySem.Str.ofString "code" then u1 else m₀ y) → News h₀ env.locals h ((I, it) :: (lc, W.listOf its i) :: (D, LCg.lst ys) :: tl) →
      wpAny (model prog w) A (execs body env) (UnrPost h₀ env.locals { s with heap := h, toks := tk } I it (Inv1 m₀ lc D ys ns (i + 1)) Q) E { s with heap := h, toks := tk })
    (done : ∀ (ns : List Int), BytesL ns → IntsAre ys ns → ns.length = 5 * n → ∀ (its : Array Value) (tl : Led) (u1 u2 : Option Value) h tk, its.size = n → (∀ p ∈ tl, p.1 ≠ lc) → codesIn ns its tl n → Fr h₀ env.locals h (fun y => if y = PySem.Str.ofString "code" then u1 else if y = PySem.Str.ofString "k" then u2 else m₀ y) →
      News h₀ env.locals h ((lc, W.listOf its n) :: (D, LCg.lst ys) :: tl) → Q .next { s with heap := h, toks := tk }) :
    wpAny (model prog w) A (pyIter (.ref r)) (fun it s₂ => LoopAtV prog w A h₀ env (PySem.Str.ofString "k") body Q E it s₂) E s := by
  subst hb
  refine krs_inv (n := n) (Inv1 m₀ lc D ys ns) hh hr ?_ ?_ F N ⟨fun y _ _ => rfl, #[], rest, rfl, hlr, rfl, fun j hj => absurd hj (Nat.not_lt_zero _)⟩ ?_ ?_
  · have : n = 0 ∨ n = 1 ∨ n = 2 ∨ n = 3 ∨ n = 4 ∨ n = 5 := by omega
    rw [h5]
    rcases this with e | e | e | e | e | e <;> subst e <;> decide
  · have : n = 0 ∨ n = 1 ∨ n = 2 ∨ n = 3 ∨ n = 4 ∨ n = 5 := by omega
    rw [h5]
    rcases this with e | e | e | e | e | e <;> subst e <;> decide
  · rintro I it i m nx t h tk hi ⟨hm, its, tl, rfl, hl, hz, hc⟩ F' N' ho
    refine turn ns hB hI I it i its tl (m (PySem.Str.ofString "code")) (m (PySem.Str.ofString "k")) t h tk h5 (by omega) (by omega) hz hl (fun p hp => ho p (.tail _ (.tail _ hp))) (fun e => ho _ (.head _) e.symm) (fun e => ho _ (.tail _ (.head _)) e.symm) hD hc ?_ N'
    refine (congrArg (Fr h₀ env.locals h) (funext fun y => ?_)).mp F'
    by_cases h1 : y = PySem.Str.ofString "k"
    · rw [if_pos h1, if_pos h1]
    · rw [if_neg h1, if_neg h1]
      by_cases h2 : y = PySem.Str.ofString "code"
      · rw [if_pos h2, h2]
      · rw [if_neg h2, hm y h2 h1]
  · rintro m nx h tk ⟨hm, its, tl, rfl, hl, hz, hc⟩ F' N'
    refine done ns hB hI h5 its tl (m (PySem.Str.ofString "code")) (m (PySem.Str.ofString "k")) h tk hz hl hc ?_ N'
    refine (congrArg (Fr h₀ env.locals h) (funext fun y => ?_)).mp F'
    by_cases h2 : y = PySem.Str.ofString "code"
    · rw [if_pos h2, h2]
    · rw [if_neg h2]
      by_cases h1 : y = PySem.Str.ofString "k"
      · rw [if_pos h1, h1]
      · rw [if_neg h1, hm y h2 h1]
end
def Fresh1 (d : Addr) (l : Led) : Prop := ∀ p ∈ l, p.1 < d
theorem off_of {d e : Addr} {l : Led} (h : Fresh1 d l) (hd : @LE.le Nat _ d e) : ∀ p ∈ l, p.1 ≠ e := fun p hp => Nat.ne_of_lt (Nat.lt_of_lt_of_le (h p hp) hd)
theorem fresh_tl {d : Addr} {p q r : Addr × Obj} {l : Led} (h : ∀ x ∈ p :: q :: r :: l, x.1 < d) : Fresh1 d l := fun x hx => h x (.tail _ (.tail _ (.tail _ hx)))
theorem bytes_one {prog : Program} {w : World} {A : Around} {E : Value → Shared → Prop} {s : Shared} {h₀ : Heap} {L l : Addr} {m : PySem.Str → Option Value} {news : Led} {v : Int} {t : Tok} {Q : Value → Shared → Prop} (F : Fr h₀ L s.heap m) (N : News h₀ L s.heap news) (hh : A.handled = none) (hm : (l, W.listOf #[.int v t] 0) ∈ news) (hb : 0 ≤ v ∧ v < 256)
    (h : ∀ h' t' k, Fr h₀ L h' m → News h₀ L h' news → Q (.bytes #[UInt8.ofNat v.toNat] t') { s with heap := h', toks := k }) : wpAny (model prog w) A (call (.type "bytes") [.ref l]) Q E s :=
  call_bytes_ints (vs := [.int v t]) (ns := [v]) (N.isList hm) (.cons v t .nil) (fun n hn => by rw [List.mem_singleton.mp hn]; exact hb) (by rw [sizeLine_eq]; show (1 : Nat) ≤ 16777216; decide) hh fun h' t' k hk => h h' t' k (F.keptAll hk) (N.grown hk)
theorem byte_back {v : Int} (h : 0 ≤ v ∧ v < 256) : (((UInt8.ofNat v.toNat).toNat : Nat) : Int) = v := by
  rw [UInt8.toNat_ofNat']
  omega
theorem id_eq (ns : List Int) (i : Nat) : ns.getD (0 + (i : Int) * 5 + 1).toNat 0 * 65536 + ns.getD (0 + (i : Int) * 5 + 2).toNat 0 * 256 + ns.getD (0 + (i : Int) * 5 + 3).toNat 0 = idAt ns i := by
  unfold idAt at5
  rw [show (0 + (i : Int) * 5 + 1).toNat = 5 * i + 1 by omega, show (0 + (i : Int) * 5 + 2).toNat = 5 * i + 2 by omega, show (0 + (i : Int) * 5 + 3).toNat = 5 * i + 3 by omega]
theorem at_eq0 (ns : List Int) (i : Nat) : ns.getD (0 + (i : Int) * 5).toNat 0 = at5 ns i 0 := by
  unfold at5
  rw [show (0 + (i : Int) * 5).toNat = 5 * i + 0 by omega]
theorem at_eq4 (ns : List Int) (i : Nat) : ns.getD (0 + (i : Int) * 5 + 4).toNat 0 = at5 ns i 4 := by
  unfold at5
  rw [show (0 + (i : Int) * 5 + 4).toNat = 5 * i + 4 by omega]
theorem at_eq0b {ns : List Int} (h : BytesL ns) (i : Nat) : (((UInt8.ofNat (ns.getD (0 + (i : Int) * 5).toNat 0).toNat).toNat : Nat) : Int) = at5 ns i 0 := by
  rw [byte_back (byte_at h _), at_eq0]
theorem sl_abs {n : Nat} (h : (n : Int).fdiv 5 * 5 < 0) : False := by
  rw [Int.fdiv_eq_ediv_of_nonneg _ (by decide)] at h
  omega
theorem cut_len (xs : List Int) : (List.map (fun k' => k'.fmod 256) (List.take ((↑(List.take 25 (xs ++ [200, 17, 9, 3, 66, 37, 240, 5, 255, 128])).length : Int).fdiv 5 * 5).toNat (List.take 25 (xs ++ [200, 17, 9, 3, 66, 37, 240, 5, 255, 128])))).length
    = 5 * (min 25 (xs.length + 10) / 5) := by
  rw [List.length_map, List.length_take, Int.fdiv_eq_ediv_of_nonneg _ (by decide), List.length_take, List.length_append]
  simp only [List.length_cons, List.length_nil]
  omega
theorem cut_le (xs : List Int) : min 25 (xs.length + 10) / 5 ≤ 5 := by omega
theorem ints_push {bs : List Value} {ns : List Int} {v : Int} {t : Tok} (h : IntsAre bs ns) : IntsAre (bs.toArray.push (.int v t)).toList (ns ++ [v]) := by
  rw [Array.toList_push]
  exact h.append (.cons v t .nil)
section
variable {prog : Program} {w : World} {A : Around} {E : Value → Shared → Prop} {s : Shared} {h₀ : Heap} {L : Addr} {m : PySem.Str → Option Value} {news : Led}
theorem add_made {l b : Addr} {its its2 : Array Value} {n k : Nat} {ns ms : List Int} {Q : Value → Shared → Prop} (F : Fr h₀ L s.heap m) (N : News h₀ L s.heap news) (hl : (l, W.listOf its n) ∈ news) (hb : (b, W.listOf its2 k) ∈ news)
    (hi : IntsAre its.toList ns) (hj : IntsAre its2.toList ms) (hsz : ns.length + ms.length ≤ 1000)
    (h : ∀ D ws h', Fr h₀ L h' m → News h₀ L h' ((D, W.listOf ws.toArray 0) :: news) → IntsAre ws (ns ++ ms) → (∀ p ∈ news, p.1 < D) → Q (.ref D) { s with heap := h' }) :
    wpAny (model prog w) A (binaryOp .Add (.ref l) (.ref b)) Q E s :=
  add_arrays_ints F N (N.isList hl) (N.isList hb) hi hj (fun h' F' N' hI => h _ _ h' F' N' hI fun p hp => Heap.lt_size (N p hp).1) (by rw [sizeLine_eq]; omega)
end
def Inv2 (m₀ : PySem.Str → Option Value) (base : Led) (ns : List Int) (i : Nat) (m : PySem.Str → Option Value) (nx : Led) : Prop :=
  (∀ y, y ≠ PySem.Str.ofString "code" → y ≠ PySem.Str.ofString "back" → y ≠ PySem.Str.ofString "upper" → y ≠ PySem.Str.ofString "lower" → m y = m₀ y) ∧ ∃ bk bs, m (PySem.Str.ofString "back") = some (.ref bk) ∧ nx = (bk, W.listOf bs.toArray 0) :: base ∧ (∀ p ∈ base, p.1 ≠ bk) ∧ IntsAre bs (ns.take (5 * i))
theorem fm_abs {x : Int} (h : (x * 32).fmod 32 ≠ 0) : False := h (by rw [Int.fmod_eq_emod_of_nonneg _ (by decide)]; omega)
theorem take5 {ns : List Int} {i n : Nat} (hn : ns.length = 5 * n) (hi : i < n) : ns.take (5 * (i + 1)) = ns.take (5 * i) ++ [at5 ns i 0, at5 ns i 1, at5 ns i 2, at5 ns i 3, at5 ns i 4] := by
  have e : ∀ k, k < 5 → ns.take (5 * i + k + 1) = ns.take (5 * i + k) ++ [at5 ns i k] := by
    intro k hk
    have hlt : 5 * i + k < ns.length := by omega
    rw [List.take_add_one, List.getElem?_eq_getElem hlt]
    unfold at5
    rw [List.getD_eq_getElem?_getD, List.getElem?_eq_getElem hlt]
    rfl
  rw [show 5 * (i + 1) = 5 * i + 4 + 1 by omega, e 4 (by omega), show 5 * i + 4 = 5 * i + 3 + 1 by omega, e 3 (by omega), show 5 * i + 3 = 5 * i + 2 + 1 by omega, e 2 (by omega), show 5 * i + 2 = 5 * i + 1 + 1 by omega, e 1 (by omega), e 0 (by omega)]
  simp
theorem turn2_end {h₀ : Heap} {s : Shared} {I lc D bk : Addr} {it : Obj} {its : Array Value} {ys ws : List Value} {tl rest : Led} {i n : Nat} {ns : List Int} {m₀ m' : PySem.Str → Option Value} {L : Addr} {h' : Heap} {tk : Nat}
    (F : Fr h₀ L h' m') (N : News h₀ L h' ((bk, W.listOf ws.toArray 0) :: rest)) (hfr : ∀ p ∈ rest, p.1 < bk) (hI : (I, it) ∈ rest) (hsub : ∀ p ∈ (lc, W.listOf its n) :: (D, LCg.lst ys) :: tl, p ∈ rest)
    (hm : ∀ y, y ≠ PySem.Str.ofString "code" → y ≠ PySem.Str.ofString "back" → y ≠ PySem.Str.ofString "upper" → y ≠ PySem.Str.ofString "lower" → m' y = m₀ y) (hb : m' (PySem.Str.ofString "back") = some (.ref bk))
    (hT : ∀ p ∈ tl, p.1 ≠ I) (hlI : @Ne Nat lc I) (hDI : @Ne Nat D I) (hB : BytesL ns) (hn : ns.length = 5 * n) (hi : i < n)
    (hws : IntsAre ws (ns.take (5 * i) ++ [at5 ns i 0 / 32 % 8 * 32 + at5 ns i 0 % 32] ++ [idAt ns i / 65536, idAt ns i / 256 % 256, idAt ns i % 256] ++ [(((UInt8.ofNat (at5 ns i 4 % 256).toNat).toNat : Nat) : Int)])) :
    UnrEnd h₀ L s I it (Inv2 m₀ ((lc, W.listOf its n) :: (D, LCg.lst ys) :: tl) ns (i + 1)) { s with heap := h', toks := tk } := by
  refine ⟨h', tk, m', _, rfl, F, ?_, ?_, hm, bk, ws, hb, rfl, ?_, ?_⟩
  · intro p hp
    rcases List.mem_cons.mp hp with e | hp
    · subst e; exact N _ (.tail _ hI)
    · rcases List.mem_cons.mp hp with e | hp
      · subst e; exact N _ (.head _)
      · exact N _ (.tail _ (hsub p hp))
  · intro p hp
    rcases List.mem_cons.mp hp with e | hp
    · subst e
      exact (Nat.ne_of_lt (hfr _ hI)).symm
    · rcases List.mem_cons.mp hp with e | hp
      · subst e; exact hlI
      · rcases List.mem_cons.mp hp with e | hp
        · subst e; exact hDI
        · exact hT p hp
  · exact fun p hp => Nat.ne_of_lt (hfr p (hsub p hp))
  · have a0 := byte_at hB (5 * i + 0)
    have a1 := byte_at hB (5 * i + 1)
    have a2 := byte_at hB (5 * i + 2)
    have a3 := byte_at hB (5 * i + 3)
    have a4 := byte_at hB (5 * i + 4)
    change 0 ≤ at5 ns i 0 ∧ at5 ns i 0 < 256 at a0
    change 0 ≤ at5 ns i 1 ∧ at5 ns i 1 < 256 at a1
    change 0 ≤ at5 ns i 2 ∧ at5 ns i 2 < 256 at a2
    change 0 ≤ at5 ns i 3 ∧ at5 ns i 3 < 256 at a3
    change 0 ≤ at5 ns i 4 ∧ at5 ns i 4 < 256 at a4
    have e0 : at5 ns i 0 / 32 % 8 * 32 + at5 ns i 0 % 32 = at5 ns i 0 := by omega
    have e1 : idAt ns i / 65536 = at5 ns i 1 := by unfold idAt; omega
    have e2 : idAt ns i / 256 % 256 = at5 ns i 2 := by unfold idAt; omega
    have e3 : idAt ns i % 256 = at5 ns i 3 := by unfold idAt; omega
    have e4 : at5 ns i 4 % 256 = at5 ns i 4 := by omega
    rw [e0, e1, e2, e3, e4, byte_back a4] at hws
    rw [take5 hn hi]
    simpa using hws
section
variable {prog : Program} {w : World} {A : Around} {E : Value → Shared → Prop} {s : Shared} {env : Env} {h₀ : Heap} {body : List Stmt} {Q : Flow → Shared → Prop}
theorem loop2 {lc D bk : Addr} {n : Nat} {its : Array Value} {m₀ : PySem.Str → Option Value} {tl : Led} {ys : List Value} {ns : List Int}
    (hh : A.handled = none) (hI : IntsAre ys ns) (hB : BytesL ns) (h5 : ns.length = 5 * n) (hn5 : n ≤ 5) (hz : its.size = n) (hc : codesIn ns its tl n) (F : Fr h₀ env.locals s.heap m₀) (N : News h₀ env.locals s.heap ((bk, W.listOf #[] 0) :: (lc, W.listOf its n) :: (D, LCg.lst ys) :: tl))
    (hm : m₀ (PySem.Str.ofString "back") = some (.ref bk)) (hl : @LT.lt Nat _ lc bk) (hD : @LT.lt Nat _ D bk) (ht : AllLt bk tl)
    (turn : ∀ (I : Addr) (it : Obj) (i : Nat) (bk : Addr) (bs : List Value) (u1 u2 : Option Value) (x dx sa na ea va ca : Addr) (tv : Tok) (g0 g1 g2 g3 g4 g5 g6 g7 : Int) (t0 t1 t2 t3 t4 t5 t6 t7 : Tok) h tk, i < n → (i : Int) ≤ 4 → 0 ≤ idAt ns i → idAt ns i < 16777216 → 0 ≤ at5 ns i 0 → at5 ns i 0 < 256 → 0 ≤ at5 ns i 4 → at5 ns i 4 < 256 →
      IntsAre bs (ns.take (5 * i)) → bs.length ≤ 20 → (∀ p ∈ tl, p.1 ≠ bk) → (∀ p ∈ tl, p.1 ≠ I) → @Ne Nat I bk → @Ne Nat lc bk → @Ne Nat D bk → @Ne Nat x bk → @Ne Nat dx bk → @Ne Nat lc I → @Ne Nat D I → stIn tl sa (at5 ns i 4) → seIn tl va (at5 ns i 0) → clIn tl ca (at5 ns i 0) →
      Fr h₀ env.locals h (fun y => if y = PySem.Str.ofString "code" then some (.ref x) else if y = PySem.Str.ofString "back" then some (.ref bk) else if y = PySem.Str.ofString "upper" then u1 else if y = PySem.Str.ofString "lower" then u2 else m₀ y) →
      News h₀ env.locals h ((I, it) :: (bk, W.listOf bs.toArray 0) :: (x, instObj 304 dx) :: (dx, dictOf (dtcEs (idAt ns i) tv sa na ea va ca g0 g1 g2 g3 g4 g5 g6 g7 t0 t1 t2 t3 t4 t5 t6 t7) 8) :: (lc, W.listOf its n) :: (D, LCg.lst ys) :: tl) →
      wpAny (model prog w) A (execs body env) (UnrPost h₀ env.locals { s with heap := h, toks := tk } I it (Inv2 m₀ ((lc, W.listOf its n) :: (D, LCg.lst ys) :: tl) ns (i + 1)) Q) E { s with heap := h, toks := tk })
    (done : ∀ (bk : Addr) (bs : List Value) (u0 u1 u2 : Option Value) h tk, IntsAre bs ns → bs.length = 5 * n → Fr h₀ env.locals h (fun y => if y = PySem.Str.ofString "code" then u0 else if y = PySem.Str.ofString "back" then some (.ref bk) else if y = PySem.Str.ofString "upper" then u1 else if y = PySem.Str.ofString "lower" then u2 else m₀ y) →
      News h₀ env.locals h [(bk, W.listOf bs.toArray 0), (D, LCg.lst ys)] → Q .next { s with heap := h, toks := tk }) :
    wpAny (model prog w) A (pyIter (.ref lc)) (fun it s₂ => LoopAtV prog w A h₀ env (PySem.Str.ofString "code") body Q E it s₂) E s := by
  have hmm : ∀ {m m' : PySem.Str → Option Value} {bk : Addr}, (∀ y, y ≠ PySem.Str.ofString "code" → y ≠ PySem.Str.ofString "back" → y ≠ PySem.Str.ofString "upper" → y ≠ PySem.Str.ofString "lower" → m y = m₀ y) → m (PySem.Str.ofString "back") = some (.ref bk) →
      ∀ (v : Option Value), (fun y => if y = PySem.Str.ofString "code" then v else m y) = fun y => if y = PySem.Str.ofString "code" then v else if y = PySem.Str.ofString "back" then some (.ref bk) else if y = PySem.Str.ofString "upper" then m (PySem.Str.ofString "upper") else if y = PySem.Str.ofString "lower" then m (PySem.Str.ofString "lower") else m₀ y := by
    intro m m' bk h1 h2 v
    funext y
    by_cases a : y = PySem.Str.ofString "code"
    · rw [if_pos a, if_pos a]
    · rw [if_neg a, if_neg a]
      by_cases b : y = PySem.Str.ofString "back"
      · rw [if_pos b, b, h2]
      · rw [if_neg b]
        by_cases c : y = PySem.Str.ofString "upper"
        · rw [if_pos c, c]
        · rw [if_neg c]
          by_cases d : y = PySem.Str.ofString "lower"
          · rw [if_pos d, d]
          · rw [if_neg d, h1 y a b c d]
  refine list_inv (lo := W.listOf its n) (vs := its.toList) (n := n) (Inv2 m₀ ((lc, W.listOf its n) :: (D, LCg.lst ys) :: tl) ns) hh F N (.tail _ (.head _)) rfl rfl ⟨fun y _ _ _ _ => rfl, bk, [], hm, rfl, ?_, ?_⟩ ?_ ?_ ?_
  · intro p hp
    rcases List.mem_cons.mp hp with e | hp
    · subst e; exact Nat.ne_of_lt hl
    · rcases List.mem_cons.mp hp with e | hp
      · subst e; exact Nat.ne_of_lt hD
      · exact Nat.ne_of_lt (ktn_ltOf ht p hp)
  · rw [Nat.mul_zero, List.take_zero]; exact .nil
  · rintro i m nx ⟨_, bk, bs, _, rfl, _, _⟩
    exact .tail _ (.head _)
  · rintro I it i v m nx h tk hv ⟨hm1, bk, bs, hm2, rfl, hoff, hbs⟩ F' N' ho
    have hi : i < its.toList.length := by
      rcases Nat.lt_or_ge i its.toList.length with h | h
      · exact h
      · rw [List.getElem?_eq_none h] at hv; cases hv
    have hi' : i < n := by rw [← hz]; simpa using hi
    obtain ⟨x, hx, dx, sa, na, ea, va, ca, tv, g0, g1, g2, g3, g4, g5, g6, g7, t0, t1, t2, t3, t4, t5, t6, t7, hx1, hx2, c1, c2, c3⟩ := hc i hi'
    have hvx : v = .ref x := by
      rw [Array.getElem?_toList, hx] at hv
      exact (Option.some.inj hv).symm
    subst hvx
    have a0 := byte_at hB (5 * i + 0)
    have a1 := byte_at hB (5 * i + 1)
    have a2 := byte_at hB (5 * i + 2)
    have a3 := byte_at hB (5 * i + 3)
    have a4 := byte_at hB (5 * i + 4)
    have hT : ∀ p ∈ tl, p.1 ≠ I := fun p hp => ho p (.tail _ (.tail _ (.tail _ hp)))
    have hO : ∀ p ∈ tl, p.1 ≠ bk := fun p hp => hoff p (.tail _ (.tail _ hp))
    refine turn I it i bk bs (m (PySem.Str.ofString "upper")) (m (PySem.Str.ofString "lower")) x dx sa na ea va ca tv g0 g1 g2 g3 g4 g5 g6 g7 t0 t1 t2 t3 t4 t5 t6 t7 h tk hi' (by omega) (by unfold idAt at5; omega) (by unfold idAt at5; omega) a0.1 a0.2 a4.1 a4.2 hbs ?_ hO hT (fun e => ho _ (.head _) e.symm) (hoff _ (.head _)) (hoff _ (.tail _ (.head _))) (hO _ hx1) (hO _ hx2) (ho _ (.tail _ (.head _))) (ho _ (.tail _ (.tail _ (.head _)))) c1 c2 c3 ?_ ?_
    · rw [hbs.length, List.length_take]; omega
    · exact (congrArg (Fr h₀ env.locals h) (hmm (m' := m₀) hm1 hm2 _)).mp F'
    · intro p hp
      simp only [List.mem_cons] at hp
      rcases hp with e | e | e | e | hp
      · subst e; exact N' _ (.head _)
      · subst e; exact N' _ (.tail _ (.head _))
      · subst e; exact N' _ (.tail _ (.tail _ (.tail _ (.tail _ hx1))))
      · subst e; exact N' _ (.tail _ (.tail _ (.tail _ (.tail _ hx2))))
      · exact N' _ (.tail _ (.tail _ (List.mem_cons.mpr (hp.imp_right List.mem_cons.mpr))))
  · rintro m nx h tk ⟨hm1, bk, bs, hm2, rfl, hoff, hbs⟩ F' N'
    have e : ns.take (5 * its.toList.length) = ns := by
      rw [Array.length_toList, hz, ← h5, List.take_length]
    rw [e] at hbs
    refine done bk bs (m (PySem.Str.ofString "code")) (m (PySem.Str.ofString "upper")) (m (PySem.Str.ofString "lower")) h tk hbs (by rw [hbs.length, h5]) ?_ ?_
    · refine (congrArg (Fr h₀ env.locals h) ((funext fun y => ?_).trans (hmm (m := m) (m' := m₀) hm1 hm2 (m (PySem.Str.ofString "code"))))).mp F'
      by_cases a : y = PySem.Str.ofString "code"
      · rw [if_pos a, a]
      · rw [if_neg a]
    · intro p hp
      simp only [List.mem_cons, List.not_mem_nil, or_false] at hp
      rcases hp with e | e
      · subst e; exact N' _ (.head _)
      · subst e; exact N' _ (.tail _ (.tail _ (.head _)))
end
end Mine
namespace Mine
theorem iso_parts {n : Nat} (h : n < 16777216) : isoOf n = ⟨#[sg4 (n / 4194304), dgc (n / 1048576 % 4), hexc (n / 65536 % 16), hexc (n / 4096 % 16), hexc (n / 256 % 16), 45, hexc (n / 16 % 16), hexc (n % 16)]⟩ := by
  unfold isoOf isoText
  rw [show n / 256 % 4096 / 256 = n / 65536 % 16 by omega, show n / 256 % 4096 / 16 % 16 = n / 4096 % 16 by omega, show n / 256 % 4096 % 16 = n / 256 % 16 by omega, show n % 256 / 16 = n / 16 % 16 by omega, show n % 256 % 16 = n % 16 by omega]
theorem law_readN {v : Int} {tt : Tok} {w : World} {p : Program} {loose : List PySem.Str} {mean : ExcName → Option Value} {mg mb : PySem.Str → Option Value} {dp un : Nat} {gd : Option (List PySem.Code)} {cn : PySem.Str} {cs : Scope} {a : Addr} {ccd : Value} {cl : List (PySem.Str × Addr)} {outer : List Env} {A₀ : Around} {base h₀ : Heap} {L : Addr} {m : PySem.Str → Option Value} {s : Shared} {Q E : Value → Shared → Prop} {news : Led}
    (B : Below A₀ base outer h₀) (F : Fr h₀ L s.heap m) (X : (Mine.hd.heap_39 w.params).In h₀) (N : News h₀ L s.heap news) (T : Top p loose mean mg mb h₀) (hk : cs.kind = .function) (hd : dp + 2 < recursionLimit) (hu : un + 20 < cLine)
    (h0 : 0 ≤ v) (h1 : v < 16777216)
    (hret : ∀ (l : Addr) (u1 u2 u3 : Tok) (h' : Heap) (tk' : Nat), Fr h₀ L h' m → News h₀ L h' ((l, W.listOf #[.int (v / 65536) u1, .int (v / 256 % 256) u2, .int (v % 256) u3] 0) :: news) → (∀ p ∈ news, p.1 < l) → Q (.ref l) { s with heap := h', toks := tk' }) :
    wpAny (model PySem.Challenge.rw_fe0337_02.row.prog w) (ktrTop dp un gd cn cs L a ccd cl outer) (call (.ref 315) [.str (isoOf v.toNat) tt]) Q E s := by
  obtain ⟨n, rfl⟩ := Int.eq_ofNat_of_zero_le h0
  have hn : n < 16777216 := by omega
  rw [show ((n : Int)).toNat = n by omega, iso_parts hn]
  refine law_read (by omega) (by omega) (by omega) (by omega) (by omega) (by omega) (by omega) B F X N T hk hd hu ?_
  intro l u1 u2 u3 h' tk' F' N' hl
  refine hret l u1 u2 u3 h' tk' F' ?_ hl
  rw [show (((n / 4194304 : Nat) : Int) * 4 + ((n / 1048576 % 4 : Nat) : Int)) * 16 + ((n / 65536 % 16 : Nat) : Int) = (n : Int) / 65536 by omega,
    show ((n / 4096 % 16 : Nat) : Int) * 16 + ((n / 256 % 16 : Nat) : Int) = (n : Int) / 256 % 256 by omega,
    show ((n / 16 % 16 : Nat) : Int) * 16 + ((n % 16 : Nat) : Int) = (n : Int) % 256 by omega] at N'
  exact N'
end Mine
namespace Mine
section
variable {prog : Program} {w : World} {A : Around} {E : Value → Shared → Prop} {s : Shared} {h₀ : Heap} {L : Addr} {m : PySem.Str → Option Value} {env : Env}
def ByteSrc (A : Around) (h₀ : Heap) (L : Addr) (m : PySem.Str → Option Value) (Q : Value → Shared → Prop) (xv : Value) (s₁ : Shared) : Prop :=
  ∃ (c : UInt8) (t : Tok) (news : List (Addr × Obj)), xv = .bytes #[c] t ∧ A.handled = none ∧ Fr h₀ L s₁.heap m ∧ News h₀ L s₁.heap news ∧
    ∀ D u h tk, Fr h₀ L h m → News h₀ L h ((D, LCg.lst [.int ((c.toNat : Nat) : Int) u]) :: news) → LCg.Off1 D news → Q (.ref D) { s₁ with heap := h, toks := tk }
theorem byteSrc {Q : Value → Shared → Prop} {c : UInt8} {t : Tok} {news : List (Addr × Obj)} {s₁ : Shared} (hh : A.handled = none) (F : Fr h₀ L s₁.heap m) (N : News h₀ L s₁.heap news)
    (h : ∀ D u h tk, Fr h₀ L h m → News h₀ L h ((D, LCg.lst [.int ((c.toNat : Nat) : Int) u]) :: news) → LCg.Off1 D news → Q (.ref D) { s₁ with heap := h, toks := tk }) : ByteSrc A h₀ L m Q (.bytes #[c] t) s₁ :=
  ⟨c, t, news, rfl, hh, F, N, h⟩
theorem ListComp_byte {iter : PySem.Expr} {x : PySem.Str} {px px2 : Pos} {scope : Scope} {cl : List (PySem.Str × Addr)} {pos : Pos} {Q : Value → Shared → Prop} (F₀ : Fr h₀ L s.heap m)
    (hclos : closureFor scope env = pure cl) (hcell : ∀ y ∈ scope.names, y.2 ≠ .cell) (hkind : scope.kind = .function)
    (hnames : ∀ y ∈ scope.names, y.2 = .local → scope.names.lookup y.1 = some .local) (hx : scope.names.lookup x = some .local)
    (hk : ∀ C, (compEnvC scope cl C env).scope.kind = .function) (hl : ∀ C, (compEnvC scope cl C env).kindOf x = some .local) (hd : (x == ("__debug__" : PySem.Str)) = false)
    (h : wpAny (model prog w) A (eval iter env) (ByteSrc A h₀ L m Q) E s)
    (hs : ∀ x, foldedSetIterable iter env x = pure x := by intro _; rfl) :
    wpAny (model prog w) A (eval (.ListComp (.Name x px2) [⟨.Name x px, iter, [], 0⟩] scope pos) env) Q E s := by
  rw [eval_ListComp]
  refine wpAny_comprehension_free (use := none) rfl hs hclos hkind hnames (wpAny_mono h (fun xv s₁ h₁ => ?_) fun _ _ e => e)
  rcases h₁ with ⟨c, t, news, rfl, hh, F, N, R⟩
  refine KBw.pyIter_bytes ?_
  have R0 : LCg.CompRest prog w A h₀ L m env (.Name x px2) x scope cl { s₁ with heap := s₁.heap.push { cls := .type "bytes_iterator", data := .fields #[.bytes #[c] t, .int 0 0] } } (fun _ => True)
      (fun i v => ∃ c' u, (#[c] : Array UInt8)[i]? = some c' ∧ v = .int (c'.toNat : Int) u) (fun ys news' => (∃ u, ys = [.int ((c.toNat : Nat) : Int) u]) ∧ news' = news) 1 0 [] news := by
    refine LCg.CompRest.succ fun v I oI C oC D m₂ h tk E' hP hC hx F N off ne => ?_
    obtain ⟨c', u, e, rfl⟩ := hP
    have : c' = c := by simpa using e.symm
    subst this
    refine LCgL.ld_own N (.tail _ (.head _)) hC hx ?_ (hk C) (hl C) hd
    refine LCg.CompEnd.intro F N news (fun p hp => hp) off trivial ?_
    exact LCg.CompRest.zero ⟨⟨u, rfl⟩, rfl⟩
  refine LCg.block_U (KBw.walks hh s₁.heap.objs.size #[c] t) (by rw [sizeLine_eq]; show (1 : Nat) ≤ 16777216; decide) (fun i h st => by obtain ⟨o, e, _⟩ := st; exact ⟨o, e⟩) (fun i h h' o nw st e e' _ _ _ => ?_) hcell hkind hx ⟨_, Heap.get?_push_size _ rfl, rfl, rfl⟩ (fun b hb => ?_)
      (F.keeps fun _ _ e => Heap.get?_push_of_some _ e) (N.grown fun _ _ e => Heap.get?_push_of_some _ e) (Nat.ne_of_lt F.ns.lt) (next_is_new F) (fun p hp => Nat.ne_of_lt (Heap.lt_size (N p hp).1)) trivial R0 ?_
  · obtain ⟨o', q, r⟩ := st
    rw [e] at q
    cases q
    exact ⟨o, e', r⟩
  · rw [List.mem_singleton.mp hb]
    show s₁.heap.objs.size < (s₁.heap.push _).objs.size
    rw [Heap.size_push]; exact Nat.lt_succ_self _
  · rintro D C h tk m' ys news' F' N' o1 hn hC₀ hD₀ hCL hDL hCD offC ⟨⟨u, rfl⟩, rfl⟩
    refine ⟨m', hn, fun h'' hs'' => R D u h'' tk (F'.change hs'' hCL hC₀) (fun p hp => ?_) o1⟩
    refine ⟨hs''.extBut _ _ ?_ (N' p hp).1, (N' p hp).2⟩
    rcases List.mem_cons.mp hp with rfl | hp
    · exact Ne.symm hCD
    · exact offC p hp
end
theorem off1_all {D : Addr} : ∀ {l : List (Addr × Obj)}, LCg.Off1 D l → ∀ p ∈ l, p.1 ≠ D
  | [], _ => fun _ h => nomatch h
  | _ :: _, x => fun p hp => by
    rcases List.mem_cons.mp hp with rfl | hp
    · exact x.1
    · exact off1_all x.2 p hp
end Mine
open Mine
local macro_rules | `(tactic| walk_at "pyIter ref") => `(tactic| (k_here; k_dflt (refine' loop1 ?k1 ?k2 ?k3 ?kB ?k4 ?k5 ?k6 ?k7 ?k8 ?k9 ?k10 ?_ ?_; (case k1 => exact rfl); (case k2 => assumption); (case k3 => assumption); (case kB => exact bytesL_map _); (case k4 => exact rfl); (case k5 => exact cut_len _); (case k6 => exact cut_le _); (case k7 => assumption); (case k8 => assumption); (case k9 => k_ne); (case k10 => k_all)); intro ns hB hI I it i its tl u1 u2 t h tk h5 hin hi0 hz hl hlI hnI hnD hD hc F N; (try k_fold)))
local macro_rules | `(tactic| k_all) => `(tactic| first | (with_reducible assumption) | (rename Fresh1 _ _ => hfr9; exact off_of hfr9 (Nat.le_of_lt (by omega))) | (rename Fresh1 _ _ => hfr9; exact off_of hfr9 (Nat.le_refl _)))
local macro_rules | `(tactic| walk_at "call type:bytes") => `(tactic| (k_here; k_dflt (refine' bytes_one ?k1 ?k2 ?k3 ?k4 ?k5 ?_; (case k1 => k_asm); (case k2 => k_asm); (case k3 => exact rfl); (case k4 => k_mem); (case k5 => exact byte_at (by assumption) _)); intro h9 t9 tk9 F9 N9; (try dsimp only); (try k_fold)))
local macro_rules | `(tactic| walk_at "call ref") => `(tactic| (k_here; k_dflt (refine' dtc_new ?k1 ?k2 ?k3 ?k4 ?k5 ?k6 ?k7 ?k8 ?_; (case k1 => k_asm); (case k2 => k_asm); (case k3 => k_asm); (case k4 => k_asm); (case k5 => k_asm); (case k6 => first | exact rfl | assumption); (case k7 => ktr_room); (case k8 => ktr_units)); intro ca cda va vda ea na sa sda x dx gc0 gc1 gc2 gc3 gc4 gv0 gv1 gv2 gs0 gs1 gs2 gs3 gs4 gs5 gs6 gs7 gd0 gd1 gd2 gd3 gd4 gd5 gd6 gd7 tc0 tc1 tc2 tc3 tc4 tv0 tv1 tv2 ts0 ts1 ts2 ts3 ts4 ts5 ts6 ts7 td0 td1 td2 td3 td4 td5 td6 td7 h9 tk9 F9 N9 l1 hch; (have hlt9 := l1); (have hfr9 := fresh_tl l1); (try k_lt l1); (try dsimp only); (try k_fold)))
local macro_rules | `(tactic| walk_at "call ref") => `(tactic| (k_here; k_dflt (refine' se_seti ?k1 ?k2 ?k3 ?k4 ?k5 ?k6 ?k7 ?k8 ?k9 ?k10 ?k11 ?_; (case k1 => k_asm); (case k2 => k_asm); (case k3 => k_asm); (case k4 => k_asm); (case k5 => k_asm); (case k6 => first | exact rfl | assumption); (case k7 => ktr_room); (case k8 => ktr_units); (case k9 => k_mem); (case k10 => k_mem); (case k11 => k_upd)); intro h9 tk9 F9 N9; (try dsimp only); (try k_fold)))
local macro_rules | `(tactic| walk_at "call ref") => `(tactic| (k_here; k_dflt (refine' cl_setb ?k1 ?k2 ?k3 ?k4 ?k5 ?k6 ?k7 ?k8 ?k9 ?k10 ?k11 ?_; (case k1 => k_asm); (case k2 => k_asm); (case k3 => k_asm); (case k4 => k_asm); (case k5 => k_asm); (case k6 => first | exact rfl | assumption); (case k7 => ktr_room); (case k8 => ktr_units); (case k9 => k_mem); (case k10 => k_mem); (case k11 => k_upd)); intro h9 tk9 F9 N9; (try dsimp only); (try k_fold)))
local macro_rules | `(tactic| walk_at "call ref") => `(tactic| (k_here; k_dflt (refine' st_seti ?k1 ?k2 ?k3 ?k4 ?k5 ?k6 ?k7 ?k8 ?k9 ?k10 ?k11 ?_; (case k1 => k_asm); (case k2 => k_asm); (case k3 => k_asm); (case k4 => k_asm); (case k5 => k_asm); (case k6 => first | exact rfl | assumption); (case k7 => ktr_room); (case k8 => ktr_units); (case k9 => k_mem); (case k10 => k_mem); (case k11 => k_upd)); intro h9 tk9 F9 N9; (try dsimp only); (try k_fold)))
local macro_rules | `(tactic| walk_at "UnrEnd") => `(tactic| (k_here; k_dflt (refine' turn1_end ?k1 ?k2 ?k3 ?k4 ?k5 ?k6 ?k7 ?k8 ?k9 ?k10 ?k11 ?k12 ?k13 ?e1 ?e2 ?e3 ?e4; (case k1 => k_asm); (case k2 => k_asm); (case k3 => assumption); (case k4 => (intro y h1 h2; (try dsimp only); rw [if_neg h1, if_neg h2, if_neg h1])); (case k5 => assumption); (case k6 => assumption); (case k7 => exact And.left (by assumption)); (case k8 => assumption); (case k9 => assumption); (case k10 => assumption); (case k11 => assumption); (case k12 => assumption); (case k13 => assumption); (case e1 => exact id_eq _ _); (case e2 => exact at_eq0 _ _); (case e3 => exact at_eq4 _ _); (case e4 => exact at_eq0b (by assumption) _))))
local macro_rules | `(tactic| k_in) => `(tactic| first | with_reducible assumption | exact Frag.In.keeps (by with_reducible assumption) (Fr.keep (by with_reducible assumption)))
local macro_rules | `(tactic| k_mem) => `(tactic| with_reducible assumption)
local macro_rules | `(tactic| walk_at "binaryOp Add ref ref") => `(tactic| (k_here; k_dflt (refine' add_made ?k1 ?k2 ?k3 ?k4 ?k5 ?k6 ?k7 ?_; (case k1 => k_asm); (case k2 => k_asm); (case k3 => k_mem); (case k4 => k_mem); (case k5 => first | exact ints_push (by assumption) | assumption); (case k6 => first | exact .cons _ _ (.cons _ _ (.cons _ _ .nil)) | exact .cons _ _ .nil | assumption); (case k7 => ((try simp only [List.length_append, List.length_cons, List.length_nil, List.length_take]); omega))); intro D9 ws9 h9 F9 N9 iA9 l1; (have hlt9 := l1); (try k_lt l1); (try dsimp only); (try k_fold)))
local macro_rules | `(tactic| walk_at "exec For Name Name cons nil") => `(tactic| (k_here; (rename Fr _ _ _ _ => lF'); (with_unfolding_all refine' For_invVF lF' ?k1 ?k2 ?_; (case k1 => exact rfl); (case k2 => exact rfl); k_whole)))
local macro_rules | `(tactic| walk_at "pyIter ref") => `(tactic| (k_here; k_dflt (refine' loop2 ?k1 ?k2 ?k3 ?k4 ?k5 ?k6 ?k7 ?k8 ?k9 ?k10 ?k11 ?k12 ?k13 ?_ ?_; (case k1 => exact rfl); (case k2 => assumption); (case k3 => assumption); (case k4 => assumption); (case k5 => exact cut_le _); (case k6 => assumption); (case k7 => assumption); (case k8 => k_asm); (case k9 => k_asm); (case k10 => exact rfl); (case k11 => (refine ltN ?_; omega)); (case k12 => (refine ltN ?_; omega)); (case k13 => exact And.right (And.right (by assumption)))); intro I it i bk bs u1 u2 x dx sa na ea va ca tv g0 g1 g2 g3 g4 g5 g6 g7 t0 t1 t2 t3 t4 t5 t6 t7 h tk hin hi4 hv0 hv1 ha0 ha1 hb0 hb1 hbs hbl hO hT nI nL nD nX nY nLI nDI c1 c2 c3 F N; obtain ⟨sda, c1g0, c1g1, c1g2, c1g3, c1g4, c1g5, c1g6, c1g7, c1t0, c1t1, c1t2, c1t3, c1t4, c1t5, c1t6, c1t7, c1h1, c1h2⟩ := id c1; obtain ⟨vda, c2g0, c2g1, c2g2, c2t0, c2t1, c2t2, c2h1, c2h2⟩ := id c2; obtain ⟨cda, c3g0, c3g1, c3g2, c3g3, c3g4, c3t0, c3t1, c3t2, c3t3, c3t4, c3h1, c3h2⟩ := id c3; (replace c1h1 : List.Mem _ _ := c1h1); (replace c1h2 : List.Mem _ _ := c1h2); (replace c2h1 : List.Mem _ _ := c2h1); (replace c2h2 : List.Mem _ _ := c2h2); (replace c3h1 : List.Mem _ _ := c3h1); (replace c3h2 : List.Mem _ _ := c3h2); (try k_fold)))
local macro_rules | `(tactic| walk_at "call ref") => `(tactic| (k_here; k_dflt (refine' se_getN ?k1 ?k2 ?k3 ?k4 ?k5 ?k6 ?k7 ?k8 ?k9 ?_; (case k1 => k_asm); (case k2 => k_asm); (case k3 => k_asm); (case k4 => k_asm); (case k5 => k_asm); (case k6 => first | exact rfl | assumption); (case k7 => ktr_room); (case k8 => ktr_units); (case k9 => exact seIn_sub (by assumption) (by intro p hp; repeat (first | exact hp | refine List.Mem.tail _ ?_)))); intro t9 h9 tk9 F9 N9; (try dsimp only); (try k_fold)))
local macro_rules | `(tactic| walk_at "call ref") => `(tactic| (k_here; k_dflt (refine' cl_getN ?k1 ?k2 ?k3 ?k4 ?k5 ?k6 ?k7 ?k8 ?k9 ?_; (case k1 => k_asm); (case k2 => k_asm); (case k3 => k_asm); (case k4 => k_asm); (case k5 => k_asm); (case k6 => first | exact rfl | assumption); (case k7 => ktr_room); (case k8 => ktr_units); (case k9 => exact clIn_sub (by assumption) (by intro p hp; repeat (first | exact hp | refine List.Mem.tail _ ?_)))); intro t9 h9 tk9 F9 N9; (try dsimp only); (try k_fold)))
local macro_rules | `(tactic| walk_at "call ref") => `(tactic| (k_here; k_dflt (refine' st_getbN ?k1 ?k2 ?k3 ?k4 ?k5 ?k6 ?k7 ?k8 ?k9 ?_; (case k1 => k_asm); (case k2 => k_asm); (case k3 => k_asm); (case k4 => k_asm); (case k5 => k_asm); (case k6 => first | exact rfl | assumption); (case k7 => ktr_room); (case k8 => ktr_units); (case k9 => exact stIn_sub (by assumption) (by intro p hp; repeat (first | exact hp | refine List.Mem.tail _ ?_)))); intro t9 h9 tk9 F9 N9; (try dsimp only); (try k_fold)))
local macro_rules | `(tactic| walk_at "call ref") => `(tactic| (k_here; k_dflt (refine' dtc_iso ?k1 ?k2 ?k3 ?k4 ?k5 ?k6 ?k7 ?k8 ?k9 ?k10 ?k11 ?k12 ?_; (case k1 => k_asm); (case k2 => k_asm); (case k3 => k_asm); (case k4 => k_asm); (case k5 => k_asm); (case k6 => first | exact rfl | assumption); (case k7 => ktr_room); (case k8 => ktr_units); (case k9 => k_mem); (case k10 => k_mem); (case k11 => assumption); (case k12 => assumption)); intro t9 h9 tk9 F9 N9; (try dsimp only); (try k_fold)))
local macro_rules | `(tactic| walk_at "call ref") => `(tactic| (k_here; k_dflt (refine' law_readN ?k1 ?k2 ?k3 ?k4 ?k5 ?k6 ?k7 ?k8 ?k9 ?k10 ?_; (case k1 => k_asm); (case k2 => k_asm); (case k3 => k_asm); (case k4 => k_asm); (case k5 => k_asm); (case k6 => first | exact rfl | assumption); (case k7 => ktr_room); (case k8 => ktr_units); (case k9 => assumption); (case k10 => assumption)); intro l9 u91 u92 u93 h9 tk9 F9 N9 l1; (try k_lt l1); (try dsimp only); (try k_fold)))
local macro_rules | `(tactic| walk_at "eval ListComp") => `(tactic| (k_here; k_dflt (refine ListComp_byte (F₀ := by k_asm) (by rfl) (by decide) (by rfl) (by decide) (by rfl) (by intro _; rfl) (by intro _; rfl) (by decide) ?_)))
local macro_rules | `(tactic| walk_at "ByteSrc") => `(tactic| (k_here; k_dflt (refine' byteSrc ?k1 ?k2 ?k3 ?_; (case k1 => exact rfl); (case k2 => k_asm); (case k3 => k_asm)); intro D9 u9 h9 tk9 F9 N9 o9; (try simp only [LCg.Off1, and_true] at o9); (try dsimp only)))
local macro_rules | `(tactic| walk_at "UnrEnd") => `(tactic| (k_here; k_dflt (refine' turn2_end ?k1 ?k2 ?k3 ?k4 ?k5 ?k6 ?k7 ?k8 ?k9 ?k10 ?k11 ?k12 ?k13 ?k14; (case k1 => k_asm); (case k2 => k_asm); (case k3 => assumption); (case k4 => k_mem); (case k5 => (intro p hp; repeat (first | exact hp | refine List.Mem.tail _ ?_))); (case k6 => (intro y h1 h2 h3 h4; (try dsimp only); rw [if_neg h2, if_neg h4, if_neg h3, if_neg h1, if_neg h2, if_neg h3, if_neg h4])); (case k7 => exact rfl); (case k8 => assumption); (case k9 => assumption); (case k10 => assumption); (case k11 => assumption); (case k12 => assumption); (case k13 => assumption); (case k14 => assumption))))
local macro_rules | `(tactic| walk_at "UnrEnd") => `(tactic| (exfalso; exact fm_abs (by assumption)))
theorem PySem.Challenge.cw_fe0337_02_holds : PySem.Challenge.rw_fe0337_02.Holds := by
  refine Mine.hd ?_
  clear PySem.Challenge.cw_fe0337_02_holds
  w_on
  w_strict (k_go0; (all_goals try k_fold); k_steps; (all_goals first | (exfalso; exact sl_abs (by assumption)) | skip))
