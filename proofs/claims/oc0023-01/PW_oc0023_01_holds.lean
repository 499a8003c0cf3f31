import PyProof.Rows.All
import Wide.All
import OpenK.AllK
import Wide.FinOn
import PySem.Challenge.RW_oc0023_01
set_option Elab.async false
set_option linter.unusedVariables false
local macro_rules | `(tactic| walk_at $s:str) => `(tactic| k_extra $(Lean.Syntax.mkStrLit ("own:" ++ s.getString)))
section
open PySem PySem.W PyProof.Rows
set_option Elab.async false
namespace Mine
set_option maxRecDepth 100000
set_option maxHeartbeats 8000000
open_top hd for PySem.Challenge.rw_oc0023_01
end Mine
end

section
open PySem PySem.W PyProof.Rows PySem.Calls PySem.Spec
set_option Elab.async false
set_option maxRecDepth 100000
namespace Mine
section
variable {prog : Program} {w : World} {A₀ A : Around} {s : Shared} {base h₀ : Heap} {outer : List Env} {L : Addr} {m : Str → Option Value} {env : Env} {K : Frag}
  {name qual : Str} {params : Arguments} {body : List Stmt} {scope : Scope} {dV kV doc pm cdv ct oc : Value} {an od : Option Addr} {osl : Array (Option Value)} {f : Addr} {args : Args} {binds : List (Str × Value)}
  {p : Program} {loose : List Str} {mean : ExcName → Option Value} {mg mb : Str → Option Value}

/-- a call of a def that changes nothing that stands: the whole heap is its ground -/
theorem callOwn {Q E : Value → Shared → Prop} (B : Below A₀ base outer h₀) (F : Fr h₀ L s.heap m) (X₀ : K.In h₀) (T : Top p loose mean mg mb h₀) (hA : A.frames = some (env :: outer)) (hf : env.frame = some L) (hke : env.scope.kind = .function)
    (ho : K.lookup f = some ⟨oc, od, .func (fnOf name qual params body scope dV kV doc pm an cdv ct), osl⟩) (hcd : codeIn K cdv qual = true) (hroom : A.depth < recursionLimit)
    (hbind : BindsTo s (fnOf name qual params body scope dV kV doc pm an cdv ct) args binds) (hloc : ∀ y ∈ binds, scope.names.lookup y.1 = some .local)
    (h : ∀ g L' h₁, g = s.heap → Fr g L' h₁ (fun y => binds.reverse.lookup y) → News g L' h₁ [] → Below A base (env :: outer) g → K.In g → Top p loose mean mg mb g →
      wpAny (model prog w) (A.deeper (envOf qual scope L' f cdv)) (execs body (envOf qual scope L' f cdv))
        (fun fl s' => Q (match fl with | .ret v => v | _ => .none) s')
        (fun e s' => wpAny (model prog w) (A.deeper (envOf qual scope L' f cdv)) (leaving (envOf qual scope L' f cdv) e) (fun _ s'' => E e s'') (fun e' s'' => E e' s'') s')
        { s with heap := h₁, toks := s.toks + binds.length })
    (hcell : ∀ x ∈ scope.names, x.2 ≠ .cell) (hco : scope.isCoroutine = false) (hgen : scope.isGenerator = false) (hk : scope.kind = .function) :
    codeAny (model prog w) A (.call (.ref f) args) (fun r s' => match r with | .ok (.ret v) => Q v s' | .ok _ => False | .error e => E e s') s := by
  have XS := X₀.keeps F.keep
  refine codeAny_call_def (fd := fnOf name qual params body scope dV kV doc pm an cdv ct) (body := body) (binds := binds) hroom (XS _ _ ho) rfl (T.nolimit.keeps F.keep) (codeRec_of XS hcd) rfl hbind hcell hloc (fun h₁ hns hk₁ => ?_) hco hgen hk
  have B₁ := pushX B F hf hke
  exact h s.heap s.heap.objs.size h₁ rfl ⟨hns, hk₁, Nat.le_refl _⟩ News.nil ⟨hA, B₁.stays, B₁.frames⟩ XS (T.keeps F.keep)

/-- the same for a def whose locals are captured -/
theorem callOwnC {Q E : Value → Shared → Prop} (B : Below A₀ base outer h₀) (F : Fr h₀ L s.heap m) (X₀ : K.In h₀) (T : Top p loose mean mg mb h₀) (hA : A.frames = some (env :: outer)) (hf : env.frame = some L) (hke : env.scope.kind = .function)
    (ho : K.lookup f = some ⟨oc, od, .func (fnOf name qual params body scope dV kV doc pm an cdv ct), osl⟩) (hcd : codeIn K cdv qual = true) (hroom : A.depth < recursionLimit)
    (hbind : BindsTo s (fnOf name qual params body scope dV kV doc pm an cdv ct) args binds) (hkind : (binds.all fun y => scope.names.lookup y.1 == some .local || scope.names.lookup y.1 == some .cell) = true)
    (hnd : ((cellsFrom 0 scope.names []).map (·.1)).Nodup)
    (h : ∀ g L' h₁ tk cells, g = s.heap → Fr g L' h₁ (bindL (envOfC qual scope L' f cdv).kindOf binds fun _ => none) → News g L' h₁ cells →
      CellsAre (bindC (envOfC qual scope L' f cdv).kindOf binds fun _ => none) (cellsFrom (L' + 1) scope.names []) cells → Below A base (env :: outer) g → K.In g → Top p loose mean mg mb g →
      wpAny (model prog w) (A.deeper (envOfC qual scope L' f cdv)) (execs body (envOfC qual scope L' f cdv))
        (fun fl s' => Q (match fl with | .ret v => v | _ => .none) s')
        (fun e s' => wpAny (model prog w) (A.deeper (envOfC qual scope L' f cdv)) (leaving (envOfC qual scope L' f cdv) e) (fun _ s'' => E e s'') (fun e' s'' => E e' s'') s')
        { s with heap := h₁, toks := tk })
    (hco : scope.isCoroutine = false) (hgen : scope.isGenerator = false) (hk : scope.kind = .function) :
    codeAny (model prog w) A (.call (.ref f) args) (fun r s' => match r with | .ok (.ret v) => Q v s' | .ok _ => False | .error e => E e s') s := by
  have XS := X₀.keeps F.keep
  have B₁ := pushX B F hf hke
  refine codeAny_call_function hroom (XS _ _ ho) rfl hco hgen rfl (codeRec_of XS hcd) (hbind _ _ _ _ ?_)
  refine wpAny_newFunctionEnv_cells hk (kindsX hkind _) fun env' he s' x => ?_
  subst he
  refine ⟨(T.nolimit.keeps F.keep).keeps x.toInCall.keep, codeAny_func ?_⟩
  obtain ⟨h₁, tk, rfl, _⟩ := x.done
  have hk₁ := x.toInCall.keep
  obtain ⟨cells, NC, Y⟩ := Cl.news (h₀ := s.heap) (Nat.le_refl _) fun n c hm => ⟨x.cell n c (lookup_of_mem_nodup (cellsFrom_names scope.names 0 (s.heap.objs.size + 1) [] [] rfl ▸ hnd) hm), x.above n c hm⟩
  exact h s.heap s.heap.objs.size h₁ tk cells rfl ⟨x.toInCall.ns, hk₁, Nat.le_refl _⟩ NC Y ⟨hA, B₁.stays, B₁.frames⟩ XS (T.keeps F.keep)
end
end Mine
end

section
open PySem PySem.W PyProof.Rows PySem.Calls PySem.Spec
set_option Elab.async false
set_option maxRecDepth 100000
set_option maxHeartbeats 8000000
namespace Mine

theorem mem_bd {ns : List Int} {n : Int} (h : ∀ n ∈ ns, 0 ≤ n ∧ n < 23) (hm : n ∈ ns) : 0 ≤ n ∧ n < 23 := h n hm
theorem sz_ring {r n : Int} {k : Nat} (h0 : 0 ≤ r) (h1 : r < 16777216) (hn : n ≤ 23) : (Builtin.Int.intBits (r.fdiv (2 ^ k)) : Int) + n ≤ 2 ^ 27 := by
  have h := intBits_fdiv_le (y := 2 ^ k) (intBits_le_iff.mpr (show r.natAbs < 2 ^ 24 by omega))
  omega
theorem sz_and {x n : Int} (hn : n ≤ 23) : (Builtin.Int.intBits (Builtin.bitAnd x 8388607) : Int) + n ≤ 2 ^ 27 := by
  have hr := bitAnd_range x (y := 8388607) (by decide)
  have h := (intBits_le_iff (m := 24) (x := Builtin.bitAnd x 8388607)).mpr (by omega)
  omega
theorem ret_int {g h' : Heap} {L : Addr} {m : Str → Option Value} {gens : Array GenState} {drawn : Drawn} {os : OsState} {Q : Value → Shared → Prop} {x y : Int} {t : Tok} {tk : Nat}
    (hret : ∀ (t : Tok) (h' : Heap) (tk' : Nat), (∀ b o, g.get? b = some o → h'.get? b = some o) → Q (.int x t) { heap := h', gens := gens, drawn := drawn, toks := tk', os := os }) (F : Fr g L h' m) (e : y = x) :
    Q (.int y t) { heap := h', gens := gens, drawn := drawn, toks := tk, os := os } := by subst e; exact hret _ _ _ F.keep
noncomputable def ringF (ring : Int) (ns : List Int) : Int := ns.foldl (fun a n => Builtin.bitXor a (Builtin.bitOr (ring.fdiv (2 ^ n.toNat)) (ring * 2 ^ (23 - n).toNat))) 0
noncomputable def stepF (r : Int) (ns : List Int) : Int := Builtin.bitOr (Builtin.bitAnd (ringF (r.fdiv (2 ^ Int.toNat 1)) ns) 8388607 * 2 ^ Int.toNat 1) (Builtin.bitAnd r 1)

theorem c_step {w : World} {mean : ExcName → Option Value} {mg mb : Str → Option Value} {cn : Str} {cs : Scope} {a : Addr} {ccd : Value} {cl : List (Str × Addr)} {base h₀ : Heap} {L : Addr} {m : Str → Option Value} {s : Shared} {Q E : Value → Shared → Prop}
    {r : Int} {tr : Tok} {l : Addr} {vs : List Value} {ns : List Int}
    (B : Below callerA base [] h₀) (F : Fr h₀ L s.heap m) (X : (hd.heap_39 w.params).In h₀) (T : Top hd.view_39 (looseW hd.view_39 [Str.ofString "b2a_base64", Str.ofString "b64encode"]) mean mg mb h₀) (hk : cs.kind = .function)
    (hl : s.heap.IsList l vs.toArray) (hi : IntsAre vs ns) (hlen : ns.length ≤ 23) (hns : ∀ n ∈ ns, 0 ≤ n ∧ n < 23) (hr0 : 0 ≤ r) (hr1 : r < 16777216)
    (hret : ∀ (t : Tok) (h' : Heap) (tk' : Nat), (∀ b o, s.heap.get? b = some o → h'.get? b = some o) → Q (.int (stepF r ns) t) { s with heap := h', toks := tk' }) :
    wpAny (model Challenge.rw_oc0023_01.row.prog w) (callerA.deeper (envX cn cs L a ccd cl)) (call (.ref 110) [.int r tr, .ref l]) Q E s := by
  w_top off
  k_with_none
  k_with "own:binaryOp LShift int int" => (k_here; (apply lshift_int; (case hn => first | omega | (have hB := mem_bd (by assumption) (by assumption); omega)); (case hsz => first | exact sz_and (by omega) | (have hB := mem_bd (by assumption) (by assumption); exact sz_ring (by assumption) (by assumption) (by omega)))))
  k_with "own:binaryOp RShift int int" => (k_here; (apply rshift_int; (case hn => first | omega | (have hB := mem_bd (by assumption) (by assumption); omega))))
  revert X; k_fill; intro X
  obtain ⟨hp, gens, drawn, toks, os⟩ := s
  dsimp only at *
  refine wpAny_call ?_
  k_dflt (refine' callOwn ?k1 ?k2 ?k3 ?k5 ?kA ?kF ?kK ?k6 ?k7 ?k8 ?k9 ?kB ?_ ?c5 ?c2 ?c3 ?c4; (case kA => exact rfl); (case kF => exact rfl); (case kK => assumption); (case k1 => k_asm); (case k2 => k_asm); (case k3 => k_asm); (case k5 => k_asm); (case k6 => k_is); (case k7 => k_is); (case k8 => ktr_room); (case k9 => exact BindsTo.of_eq rfl); (case c5 => decide); (case kB => exact locs rfl); (case c2 => exact rfl); (case c3 => exact rfl); (case c4 => exact rfl); k_whole; intro g' L' h' Hg' F' N' B' X' T'; subst Hg'; (try dsimp only); (try k_fold))
  clear B F X T
  k_steps
  refine' ret_int (Q := Q) hret ?f ?e
  (case f => k_asm)
  (case e => rfl)
end Mine
end

section
open PySem PySem.W PyProof.Rows PySem.Calls PySem.Spec
set_option Elab.async false
set_option maxRecDepth 100000
set_option maxHeartbeats 8000000
set_option linter.unusedVariables false
namespace Mine
noncomputable def numF (ns : List Int) : Int := (ns.map fun p => 2 ^ (23 - p).toNat).sum
theorem c_number {w : World} {mean : ExcName → Option Value} {mg mb : Str → Option Value} {cn : Str} {cs : Scope} {a : Addr} {ccd : Value} {cl : List (Str × Addr)} {base h₀ : Heap} {L : Addr} {m : Str → Option Value} {s : Shared} {Q E : Value → Shared → Prop}
    {l : Addr} {vs : List Value} {ns : List Int}
    (B : Below callerA base [] h₀) (F : Fr h₀ L s.heap m) (X : (hd.heap_39 w.params).In h₀) (T : Top hd.view_39 (looseW hd.view_39 [Str.ofString "b2a_base64", Str.ofString "b64encode"]) mean mg mb h₀) (hk : cs.kind = .function)
    (hl : s.heap.IsList l vs.toArray) (hi : IntsAre vs ns) (hlen : ns.length ≤ 23) (hns : ∀ n ∈ ns, 0 ≤ n ∧ n < 23)
    (hret : ∀ (t : Tok) (h' : Heap) (tk' : Nat), (∀ b o, s.heap.get? b = some o → h'.get? b = some o) → Q (.int (numF ns) t) { s with heap := h', toks := tk' }) :
    wpAny (model Challenge.rw_oc0023_01.row.prog w) (callerA.deeper (envX cn cs L a ccd cl)) (call (.ref 98) [.ref l]) Q E s := by
  w_top off
  k_with_none
  k_with "own:binaryOp Pow int int" => (k_here; (apply pow_int_small; (case hn => (have hB := mem_bd (by assumption) (by assumption); omega)); (case hn2 => (have hB := mem_bd (by assumption) (by assumption); omega)); (case ha => decide)))
  k_with "own:call builtin:sum" => (k_here; (apply LSm.sum_ints; (case F => k_asm); (case N => k_asm); (case hh => rfl); (case hl => assumption); (case hi => exact CarriedAll.intsOf (by assumption)); k_whole; intro _ _ _ _ _))
  revert X; k_fill; intro X
  obtain ⟨hp, gens, drawn, toks, os⟩ := s
  dsimp only at *
  refine wpAny_call ?_
  k_dflt (refine' callOwn ?k1 ?k2 ?k3 ?k5 ?kA ?kF ?kK ?k6 ?k7 ?k8 ?k9 ?kB ?_ ?c5 ?c2 ?c3 ?c4; (case kA => exact rfl); (case kF => exact rfl); (case kK => assumption); (case k1 => k_asm); (case k2 => k_asm); (case k3 => k_asm); (case k5 => k_asm); (case k6 => k_is); (case k7 => k_is); (case k8 => ktr_room); (case k9 => exact BindsTo.of_eq rfl); (case c5 => decide); (case kB => exact locs rfl); (case c2 => exact rfl); (case c3 => exact rfl); (case c4 => exact rfl); k_whole; intro g' L' h' Hg' F' N' B' X' T'; subst Hg'; (try dsimp only); (try k_fold))
  clear B F X T
  k_steps
  refine' ret_int (Q := Q) hret ?f ?e
  (case f => k_asm)
  (case e => (rw [List.filter_eq_self.mpr (fun _ _ => rfl)]; rfl))
end Mine
end

section
open PySem PySem.W PyProof.Rows
namespace Mine
theorem bitAnd_nat (a b : Nat) : Builtin.bitAnd (a : Int) (b : Int) = ((a &&& b : Nat) : Int) := by
  have h1 : decide ((0 : Int) ≤ (a : Int)) = true := decide_eq_true (by omega)
  have h2 : decide ((0 : Int) ≤ (b : Int)) = true := decide_eq_true (by omega)
  unfold Builtin.bitAnd
  rw [h1, h2]
  simp
theorem bitNot_nat_neg (a : Nat) : ¬ (0 : Int) ≤ Builtin.bitNot (a : Int) := by unfold Builtin.bitNot; omega
theorem bitNot_bitNot (x : Int) : Builtin.bitNot (Builtin.bitNot x) = x := by unfold Builtin.bitNot; omega
theorem bitOr_nat (a b : Nat) : Builtin.bitOr (a : Int) (b : Int) = ((a ||| b : Nat) : Int) := by
  have h1 : decide ((0 : Int) ≤ Builtin.bitNot (a : Int)) = false := decide_eq_false (bitNot_nat_neg a)
  have h2 : decide ((0 : Int) ≤ Builtin.bitNot (b : Int)) = false := decide_eq_false (bitNot_nat_neg b)
  unfold Builtin.bitOr Builtin.bitAnd
  rw [h1, h2]
  simp only [bitNot_bitNot, Int.toNat_natCast]
theorem or_add_and : ∀ (a b : Nat), (a ||| b) = (a &&& b) + (a ^^^ b) := by
  intro a
  induction a using Nat.strongRecOn with
  | _ a ih =>
    intro b
    by_cases h0 : a = 0
    · subst h0; simp
    · have h := ih (a / 2) (by omega) (b / 2)
      have e1 : (a ||| b) / 2 = a / 2 ||| b / 2 := Nat.or_div_two
      have e2 : (a &&& b) / 2 = a / 2 &&& b / 2 := Nat.and_div_two
      have e3 : (a ^^^ b) / 2 = a / 2 ^^^ b / 2 := Nat.xor_div_two
      have m1 : (a ||| b) % 2 = (a % 2 ||| b % 2) := by
        have := Nat.or_mod_two_pow (a := a) (b := b) (n := 1); simpa using this
      have m2 : (a &&& b) % 2 = (a % 2 &&& b % 2) := by
        have := Nat.and_mod_two_pow (a := a) (b := b) (n := 1); simpa using this
      have m3 : (a ^^^ b) % 2 = (a % 2 ^^^ b % 2) := by
        have := Nat.xor_mod_two_pow (a := a) (b := b) (n := 1); simpa using this
      have hm : (a % 2 ||| b % 2) = (a % 2 &&& b % 2) + (a % 2 ^^^ b % 2) := by
        rcases Nat.mod_two_eq_zero_or_one a with ha | ha <;> rcases Nat.mod_two_eq_zero_or_one b with hb | hb <;> rw [ha, hb] <;> decide
      omega
theorem bitXor_nat (a b : Nat) : Builtin.bitXor (a : Int) (b : Int) = ((a ^^^ b : Nat) : Int) := by
  unfold Builtin.bitXor
  rw [bitOr_nat, bitAnd_nat, or_add_and]
  omega
theorem bitOr_shift8 {a y : Int} (ha : 0 ≤ a) (hy0 : 0 ≤ y) (hy : y < 256) : Builtin.bitOr (a * 256) y = a * 256 + y := by
  obtain ⟨a', rfl⟩ := Int.eq_ofNat_of_zero_le ha
  obtain ⟨y', rfl⟩ := Int.eq_ofNat_of_zero_le hy0
  have h := Nat.two_pow_add_eq_or_of_lt (i := 8) (b := y') (by omega) a'
  have e : ((a' : Int) * 256) = ((2 ^ 8 * a' : Nat) : Int) := by omega
  rw [e, bitOr_nat, ← h]
  omega
end Mine
end

section
open PySem PySem.W PyProof.Rows PySem.Calls PySem.Spec
set_option Elab.async false
set_option maxRecDepth 100000
set_option maxHeartbeats 8000000
set_option linter.unusedVariables false
namespace Mine
theorem bInts3 {a b c : UInt8} {x y z : Int} (h1 : ((a.toNat : Nat) : Int) = x) (h2 : ((b.toNat : Nat) : Int) = y) (h3 : ((c.toNat : Nat) : Int) = z) : KBw.bInts #[a, b, c] = [x, y, z] := by
  subst h1 h2 h3; rfl
noncomputable def b64L : List UInt8 := [65, 66, 67, 68, 69, 70, 71, 72, 73, 74, 75, 76, 77, 78, 79, 80, 81, 82, 83, 84, 85, 86, 87, 88, 89, 90, 97, 98, 99, 100, 101, 102, 103, 104, 105, 106, 107, 108, 109, 110, 111, 112, 113, 114, 115, 116, 117, 118, 119, 120, 121, 122, 48, 49, 50, 51, 52, 53, 54, 55, 56, 57, 43, 47]
@[irreducible] noncomputable def signF (i : Int) : Int := ((b64L.getD i.toNat 0).toNat : Nat)
theorem signF_def (i : Int) : signF i = ((b64L.getD i.toNat 0).toNat : Nat) := by unfold signF; rfl
theorem signF_in (i : Int) : 0 ≤ signF i ∧ signF i < 256 := by
  rw [signF_def]
  have := (b64L.getD i.toNat 0).toNat_lt
  omega
section
variable {prog : Program} {w : World} {A : Around} {E : Value → Shared → Prop} {s : Shared} {value slice : Expr} {t ui u : Tok} {a y z v i n : Int} {Q : Value → Shared → Prop}
theorem item_b64 (h0 : 0 ≤ i) (h1 : i < 64)
    (h : ∀ v tk, v = signF i → 0 ≤ v → v < 256 → Q (.int v tk) { s with toks := s.toks + 1 })
    (hs : subscripted slice false (.bytes b64L.toArray t) (.int i ui) = operate [.bytes b64L.toArray t, .int i ui] (getItem (.bytes b64L.toArray t) (.int i ui)))
    (ht : ∀ r, letTemporaryGo value (.bytes b64L.toArray t) r = pure ()) :
    wpAny (model prog w) A (subscriptTail value slice (.bytes b64L.toArray t) (.int i ui)) Q E s := by
  have hl : b64L.length = 64 := by decide
  refine KBy.item_N (by rw [hl]; decide) h0 (by rw [hl]; omega) ?_ hs ht
  have h2 := signF_in i
  have h3 := h (signF i) s.toks rfl h2.1 h2.2
  rw [signF_def] at h3
  exact h3
theorem lsh8 (h0 : 0 ≤ a) (h1 : a < 65536) (h : ∀ v tk, v = a * 256 → 0 ≤ v → Q (.int v tk) { s with toks := s.toks + 1 }) : wpAny (model prog w) A (binaryOp .LShift (.int a t) (.int 8 u)) Q E s := by
  refine lshift_int_small (by decide) (by decide) (by omega) ?_
  rw [show (2 : Int) ^ Int.toNat 8 = 256 from by decide]
  exact h _ _ rfl (by omega)
theorem or8 (hv : v = a * 256) (h0 : 0 ≤ v) (hy0 : 0 ≤ y) (hy : y < 256) (h : ∀ z tk, z = v + y → Q (.int z tk) { s with toks := s.toks + 1 }) : wpAny (model prog w) A (binaryOp .BitOr (.int v t) (.int y u)) Q E s := by
  refine or_int ?_
  rw [hv, bitOr_shift8 (by omega) hy0 hy]
  exact h _ _ (by rw [hv])
theorem and16 (h : ∀ v tk, v = z % 65536 → 0 ≤ v → v < 65536 → Q (.int v tk) { s with toks := s.toks + 1 }) : wpAny (model prog w) A (binaryOp .BitAnd (.int z t) (.int 65535 u)) Q E s := by
  refine and_int ?_
  rw [bitAnd_m16]
  exact h _ _ rfl (by omega) (by omega)
theorem and6 (h : ∀ v tk, v = z % 64 → 0 ≤ v → v < 64 → Q (.int v tk) { s with toks := s.toks + 1 }) : wpAny (model prog w) A (binaryOp .BitAnd (.int z t) (.int 63 u)) Q E s := by
  refine and_int ?_
  rw [bitAnd_m6]
  exact h _ _ rfl (by omega) (by omega)
theorem rshC {c : Int} (hc0 : 0 ≤ c) (hn : 0 ≤ n) (hc : (2 : Int) ^ n.toNat = c) (h : ∀ v tk, v = a / c → Q (.int v tk) { s with toks := s.toks + 1 }) : wpAny (model prog w) A (binaryOp .RShift (.int a t) (.int n u)) Q E s := by
  refine rshift_int hn ?_
  rw [hc, Int.fdiv_eq_ediv_of_nonneg _ hc0]
  exact h _ _ rfl
theorem sign_eq {v j i : Int} (h : v = signF j) (e : j = i) : v = signF i := e ▸ h
end
theorem in4 {a b c d : Int} (h1 : 0 ≤ a) (k1 : a < 256) (h2 : 0 ≤ b) (k2 : b < 256) (h3 : 0 ≤ c) (k3 : c < 256) (h4 : 0 ≤ d) (k4 : d < 256) : ∀ n ∈ [a, b, c, d], 0 ≤ n ∧ n < 256 := by
  intro n hn
  simp only [List.mem_cons, List.not_mem_nil, or_false] at hn
  omega
theorem bytes4 {prog : Program} {w : World} {A : Around} {E : Value → Shared → Prop} {s : Shared} {h₀ : Heap} {L : Addr} {m : Str → Option Value} {news : List (Addr × Obj)} {l : Addr} {k : Nat} {a b c d : Int} {t1 t2 t3 t4 : Tok} {Q : Value → Shared → Prop}
    (F : Fr h₀ L s.heap m) (N : News h₀ L s.heap news) (hl : (l, W.listOf ((((#[].push (Value.int a t1)).push (Value.int b t2)).push (Value.int c t3)).push (Value.int d t4)) k) ∈ news)
    (h1 : 0 ≤ a) (k1 : a < 256) (h2 : 0 ≤ b) (k2 : b < 256) (h3 : 0 ≤ c) (k3 : c < 256) (h4 : 0 ≤ d) (k4 : d < 256) (hh : A.handled = none)
    (h : ∀ h' t k, Fr h₀ L h' m → News h₀ L h' news → AllB [a, b, c, d] → Q (.bytes ([a, b, c, d].map fun n => n.toNat.toUInt8).toArray t) { s with heap := h', toks := k }) : wpAny (model prog w) A (call (.type "bytes") [.ref l]) Q E s := by
  refine bytes_K (vs := [.int a t1, .int b t2, .int c t3, .int d t4]) F N ⟨_, (N _ hl).1, rfl, _, rfl⟩ (.cons _ _ (.cons _ _ (.cons _ _ (.cons _ _ .nil)))) (in4 h1 k1 h2 k2 h3 k3 h4 k4) (by rw [sizeLine_eq]; exact (by decide : 4 ≤ 16777216)) hh h
theorem oct_in {a : UInt8} {x : Int} (h : ((a.toNat : Nat) : Int) = x) : 0 ≤ x ∧ x < 256 := by
  have := a.toNat_lt
  omega
theorem b64_1 {x q v z u a : Int} (h1 : x = q % 64) (h2 : q = v / 4) (h3 : v = z % 65536) (h4 : z = u + a) (h5 : u = 0 * 256) (k0 : 0 ≤ a) (k1 : a < 256) : x = a / 4 := by omega
theorem b64_2 {x q v z u a v' z' u' b : Int} (h1 : x = q % 64) (h2 : q = v' / 16) (h3 : v' = z' % 65536) (h4 : z' = u' + b) (h5 : u' = v * 256) (h6 : v = z % 65536) (h7 : z = u + a) (h8 : u = 0 * 256) (k0 : 0 ≤ a) (k1 : a < 256) (l0 : 0 ≤ b) (l1 : b < 256) : x = a % 4 * 16 + b / 16 := by omega
theorem b64_3 {x q v z u b v' z' u' c w : Int} (h1 : x = q % 64) (h2 : q = v' / 64) (h3 : v' = z' % 65536) (h4 : z' = u' + c) (h5 : u' = v * 256) (h6 : v = z % 65536) (h7 : z = u + b) (h8 : u = w * 256) (l0 : 0 ≤ b) (l1 : b < 256) (m0 : 0 ≤ c) (m1 : c < 256) : x = b % 16 * 4 + c / 64 := by omega
theorem b64_4 {x q v' z' u' c v : Int} (h1 : x = q % 64) (h2 : q = v' / 1) (h3 : v' = z' % 65536) (h4 : z' = u' + c) (h5 : u' = v * 256) : x = c % 64 := by omega
theorem c_b64 {w : World} {mean : ExcName → Option Value} {mg mb : Str → Option Value} {e1 : Env} {cn : Str} {cs : Scope} {a : Addr} {ccd : Value} {cl : List (Str × Addr)} {base h₀ : Heap} {L : Addr} {m : Str → Option Value} {s : Shared} {Q E : Value → Shared → Prop}
    {a1 a2 a3 : UInt8} {x1 x2 x3 : Int} {tr : Tok} 
    (B : Below (callerA.deeper e1) base [e1] h₀) (F : Fr h₀ L s.heap m) (X : (hd.heap_39 w.params).In h₀) (T : Top hd.view_39 (looseW hd.view_39 [Str.ofString "b2a_base64", Str.ofString "b64encode"]) mean mg mb h₀) (hk : cs.kind = .function)
    (hx1 : ((a1.toNat : Nat) : Int) = x1) (hx2 : ((a2.toNat : Nat) : Int) = x2) (hx3 : ((a3.toNat : Nat) : Int) = x3)
    (hret : ∀ (v1 v2 v3 v4 : Int) (t : Tok) (h' : Heap) (tk' : Nat), (∀ b o, s.heap.get? b = some o → h'.get? b = some o) → v1 = signF (x1 / 4) → v2 = signF (x1 % 4 * 16 + x2 / 16) → v3 = signF (x2 % 16 * 4 + x3 / 64) → v4 = signF (x3 % 64) →
      AllB [v1, v2, v3, v4] → Q (.bytes ([v1, v2, v3, v4].map fun n => n.toNat.toUInt8).toArray t) { s with heap := h', toks := tk' }) :
    wpAny (model Challenge.rw_oc0023_01.row.prog w) ((callerA.deeper e1).deeper (envX cn cs L a ccd cl)) (call (.ref 86) [.bytes #[a1, a2, a3] tr]) Q E s := by
  w_top off
  k_with_none
  k_with "own:call type:type" => (k_here; (with_reducible show wpAny _ _ (call _ [Value.bytes _ _]) _ _ _); refine call_type_of (Tx := "bytes") rfl (by decide +kernel) ?_)
  k_with "own:pyIter bytes" => (k_here; (with_reducible show wpAny _ _ (pyIter (Value.bytes _ _)) (fun it s₂ => LoopAtV _ _ _ _ _ _ _ _ _ it s₂) _ _); (rename Fr _ _ _ _ => lF'); (rename News _ _ _ _ => lN'); (with_unfolding_all refine iter_bytesUnr (by rfl) lF' lN' (bInts3 (by assumption) (by assumption) (by assumption)) ?_); clear lF' lN'; intro _ l1; (try k_lt l1))
  k_with "own:subscriptTail" => (k_here; (with_reducible show wpAny _ _ (subscriptTail _ _ (Value.bytes _ _) (Value.int _ _)) _ _ _); k_dflt (apply item_b64; (case h0 => assumption); (case h1 => assumption); (case hs => with_unfolding_all rfl); (case ht => intro _; with_unfolding_all rfl); k_whole); intro _ _ _ _ _)
  k_with "own:binaryOp LShift int int" => (k_here; (apply lsh8; (case h0 => first | decide | assumption); (case h1 => first | decide | assumption)); intro _ _ _ _)
  k_with "own:binaryOp BitOr int int" => (k_here; (apply or8; (case hv => assumption); (case h0 => assumption); (case hy0 => omega); (case hy => omega)); intro _ _ _)
  k_with "own:binaryOp BitAnd int int" => (k_here; (first | refine and16 ?_ | refine and6 ?_); intro _ _ _ _ _)
  k_with "own:binaryOp RShift int int" => (k_here; (first | refine rshC (c := 4) (by decide) (by decide) (by decide) ?_ | refine rshC (c := 16) (by decide) (by decide) (by decide) ?_ | refine rshC (c := 64) (by decide) (by decide) (by decide) ?_ | refine rshC (c := 1) (by decide) (by decide) (by decide) ?_); intro _ _ _)
  k_with "own:call type:bytes" => (k_here; (with_reducible show wpAny _ _ (call (Value.type "bytes") [Value.ref _]) _ _ _); k_dflt (apply bytes4; (case F => k_asm); (case N => k_asm); (case hl => k_mem); (case h1 => assumption); (case k1 => assumption); (case h2 => assumption); (case k2 => assumption); (case h3 => assumption); (case k3 => assumption); (case h4 => assumption); (case k4 => assumption); (case hh => with_unfolding_all rfl); k_whole); intro _ _ _ _ _ _)
  revert X; k_fill; intro X
  obtain ⟨hp, gens, drawn, toks, os⟩ := s
  dsimp only at *
  refine wpAny_call ?_
  k_dflt (refine' callOwn ?k1 ?k2 ?k3 ?k5 ?kA ?kF ?kK ?k6 ?k7 ?k8 ?k9 ?kB ?_ ?c5 ?c2 ?c3 ?c4; (case kA => exact rfl); (case kF => exact rfl); (case kK => assumption); (case k1 => k_asm); (case k2 => k_asm); (case k3 => k_asm); (case k5 => k_asm); (case k6 => k_is); (case k7 => k_is); (case k8 => ktr_room); (case k9 => first | exact BindsTo.of_eq rfl | exact binds_K (by k_in) rfl (by k_is) rfl rfl rfl); (case c5 => decide); (case kB => exact locs rfl); (case c2 => exact rfl); (case c3 => exact rfl); (case c4 => exact rfl); k_whole; intro g' L' h' Hg' F' N' B' X' T'; subst Hg'; (try dsimp only); (try k_fold))
  clear B F X T
  have hr1 := oct_in hx1
  have hr2 := oct_in hx2
  have hr3 := oct_in hx3
  k_steps
  dsimp only
  refine' hret _ _ _ _ _ _ _ (Fr.keep ?F) ?e1 ?e2 ?e3 ?e4 ?e5
  (case F => k_asm)
  (case e5 => assumption)
  (case e1 => (refine sign_eq (by assumption) ?_); exact b64_1 (by assumption) (by assumption) (by assumption) (by assumption) (by assumption) hr1.1 hr1.2)
  (case e2 => (refine sign_eq (by assumption) ?_); exact b64_2 (by assumption) (by assumption) (by assumption) (by assumption) (by assumption) (by assumption) (by assumption) (by assumption) hr1.1 hr1.2 hr2.1 hr2.2)
  (case e3 => (refine sign_eq (by assumption) ?_); exact b64_3 (by assumption) (by assumption) (by assumption) (by assumption) (by assumption) (by assumption) (by assumption) (by assumption) hr2.1 hr2.2 hr3.1 hr3.2)
  (case e4 => (refine sign_eq (by assumption) ?_); exact b64_4 (by assumption) (by assumption) (by assumption) (by assumption) (by assumption) )
end Mine
end

section
open PySem PySem.W PyProof.Rows PySem.Calls PySem.Spec
set_option Elab.async false
set_option maxRecDepth 100000
namespace Mine
/-- the walk halts here -/
def Stop (P : Prop) : Prop := P
theorem Stop.intro {P : Prop} (h : P) : Stop P := h
theorem wpStop {α : Type} {M : Model} {A : Around} {E : Value → Shared → Prop} {s : Shared} {t : Sem α} {Q : α → Shared → Prop} (h : Stop (wpAny M A t Q E s)) : wpAny M A t Q E s := h
theorem Keeps.rfl' (s : Shared) : Keeps s s := ⟨s.heap, s.toks, rfl, fun _ _ e => e⟩
theorem Paired.ints {f : Int → Int} : ∀ {vs : List Value} {ks : List Int} {ys : List Value}, IntsAre vs ks → Paired (fun v y => ∀ k u, v = .int k u → ∃ t, y = .int (f k) t) vs ys → IntsAre ys (ks.map f)
  | _, _, _, .nil, h => by cases h; exact .nil
  | _, _, _, .cons n t r, h => by
    cases h with
    | cons hy hr =>
      obtain ⟨t', rfl⟩ := hy n t rfl
      exact .cons _ _ (Paired.ints r hr)
theorem intsAre_places : ∀ {vs : List Value} {ks : List Int}, vs.length = ks.length → (∀ (j : Nat) (v : Value), vs[j]? = some v → ∃ k u, ks[j]? = some k ∧ v = Value.int k u) → IntsAre vs ks
  | [], [], _, _ => .nil
  | [], _ :: _, h, _ => by cases h
  | _ :: _, [], h, _ => by cases h
  | v :: vs, k :: ks, hl, h => by
    obtain ⟨k', u, e, rfl⟩ := h 0 v rfl
    cases e
    exact .cons _ _ (intsAre_places (Nat.succ.inj hl) fun j v' e' => h (j + 1) v' (by simpa using e'))
section
variable {prog : Program} {w : World} {A : Around} {E : Value → Shared → Prop} {env : Env} {s : Shared} {h₀ : Heap} {L : Addr} {m : Str → Option Value}
theorem Assign_comp_bytes {elt iter : Expr} {x y : Str} {px py : Pos} {scope : Scope} {cl : List (Str × Addr)} {pos spos : Pos} {Q : Flow → Shared → Prop} {f : Int → Int} (_F₀ : Fr h₀ L s.heap m)
    (hsw : swapsWith (.ListComp elt [⟨.Name x px, iter, [], 0⟩] scope pos) (some (.Name y py)) spos.line env = pure true) (hL : env.locals = L)
    (hh : A.handled = none) (hclos : closureFor scope env = pure cl) (hcell : ∀ z ∈ scope.names, z.2 ≠ .cell) (hkind : scope.kind = .function)
    (hnames : ∀ z ∈ scope.names, z.2 = .local → scope.names.lookup z.1 = some .local) (hx : scope.names.lookup x = some .local)
    (hy : env.kindOf y = some .local) (hp : (env.scope.kind == .class || (env.scope.kind == .module && env.locals != env.globals)) = false)
    (h : wpAny (model prog w) A (eval iter env) (fun xv s₁ => Stop (∃ (news : List (Addr × Obj)) (b : Array UInt8) (t : Tok) (ks : List Int), xv = .bytes b t ∧ KBw.bInts b = ks ∧ ks.length ≤ sizeLine ∧ Fr h₀ L s₁.heap m ∧ News h₀ L s₁.heap news ∧
      (∀ C k u s₂ m₂ E', s₁.heap.objs.size ≤ C → k ∈ ks → 0 ≤ k → k < 256 → s₂.heap.Ns C m₂ → m₂ x = some (.int k u) → (∀ b o, s₁.heap.get? b = some o → s₂.heap.get? b = some o) →
        wpAny (model prog w) A (eval elt (compEnvC scope cl C env)) (fun y s₃ => Stop ((∃ t, y = .int (f k) t) ∧ Keeps s₂ s₃)) E' s₂) ∧
      (∀ D (ys : List Value) n h' tk, Fr h₀ L h' (fun z => if z = y then some (.ref D) else m z) → News h₀ L h' ((D, W.listOf ys.toArray n) :: news) → (∀ p ∈ news, p.1 ≠ D) → IntsAre ys (ks.map f) → Q .next { s₁ with heap := h', toks := tk }))) E s)
    (hs : ∀ x, foldedSetIterable iter env x = pure x) :
    wpAny (model prog w) A (exec (.Assign [.Name y py] (.ListComp elt [⟨.Name x px, iter, [], 0⟩] scope pos) spos) env) Q E s := by
  subst hL
  refine wpAny_Assign_ListComp_free (fun _ => true) (fun v y => ∀ k u, v = .int k u → ∃ t, y = .int (f k) t) hsw hclos hcell hkind hnames hx hy hp (wpAny_mono h (fun xv s₁ h₁ => ?_) fun _ _ e => e) hs
  obtain ⟨news, b, t, ks, rfl, hb, hsz, F, N, helt, hQ⟩ := h₁
  have up : ∀ (s₃ : Shared), (∀ b' o, b' ∉ [s₁.heap.objs.size] → (s₁.heap.push { cls := .type "bytes_iterator", data := .fields #[.bytes b t, .int 0 0] }).get? b' = some o → s₃.heap.get? b' = some o) → ∀ b o, s₁.heap.get? b = some o → s₃.heap.get? b = some o :=
    fun s₃ hk b o e => hk b o (fun hm => by rcases List.mem_cons.mp hm with rfl | hm; exact Nat.lt_irrefl _ (Heap.lt_size e); cases hm) (Heap.get?_push_of_some _ e)
  have hlen : b.size = ks.length := by rw [← hb, KBw.ints_length]
  refine KBw.pyIter_bytes ⟨s₁.heap.objs.size, [s₁.heap.objs.size], [s₁.heap.objs.size], b.size, _, _, m, rfl, KBw.walks hh _ b t, (by rw [hlen]; exact hsz), ⟨_, Heap.get?_push_size _ rfl, rfl, rfl⟩, ?_, ?_, F.ns.push _, ⟨?_, ?_⟩, ?_⟩
  · intro b' hb'
    show b' < (s₁.heap.push _).objs.size
    rw [Heap.size_push, List.mem_singleton.mp hb']
    exact Nat.lt_succ_self _
  · intro hm
    exact Nat.lt_irrefl _ ((List.mem_singleton.mp hm) ▸ F.ns.lt)
  · intro C i v s₃ m₃ E' hC hP hn hm hk _
    exact wpAny_pure ⟨rfl, Keeps.rfl' _⟩
  · intro C i v s₃ m₃ E' hC hP hp' hn hm hk _
    obtain ⟨c, u, hc, rfl⟩ := hP
    have hmem : ((c.toNat : Nat) : Int) ∈ ks := by
      rw [← hb]
      exact List.mem_of_getElem? (KBw.ints_get hc)
    refine wpAny_mono (helt C _ u s₃ m₃ E' (Nat.le_of_succ_le (by simpa [Heap.size_push] using hC)) hmem (KBw.ints_in (hb ▸ hmem)).1 (KBw.ints_in (hb ▸ hmem)).2 hn hm (up s₃ hk)) (fun y s₄ h₄ => ⟨?_, h₄.2⟩) fun _ _ e => e
    intro k u' e
    cases e
    exact h₄.1
  · intro D h' tk ys vs' hnew hlD hplD hlen' hP hF hn' hk
    have keep : ∀ b o, b ≠ env.locals → s₁.heap.get? b = some o → h'.get? b = some o := fun b o hb e =>
      hk b o hb (fun hm => by rcases List.mem_cons.mp hm with rfl | hm; exact Nat.lt_irrefl _ (Heap.lt_size e); cases hm) (Heap.get?_push_of_some _ e)
    have hD : s₁.heap.get? D = none := by
      cases e : s₁.heap.get? D with
      | none => rfl
      | some o => rw [Heap.get?_push_of_some _ e] at hnew; cases hnew
    have hi : IntsAre vs' ks := by
      refine intsAre_places (by rw [hlen', hlen]) fun j v e => ?_
      obtain ⟨c, u, hc, rfl⟩ := hP j v e
      exact ⟨_, u, by rw [← hb]; exact KBw.ints_get hc, rfl⟩
    obtain ⟨n, hobj⟩ := hplD
    refine hQ D ys.toList n h' tk ⟨hn', fun b o e => keep b o (Nat.ne_of_lt (Nat.lt_of_lt_of_le (Heap.lt_size e) F.above)) (F.keep b o e), F.above⟩ ?_ ?_ ?_
    · intro p hp
      rcases List.mem_cons.mp hp with rfl | hp
      · refine ⟨by rw [Array.toArray_toList]; exact hobj, ?_, ?_⟩
        · rintro rfl
          obtain ⟨oL, _, _, hL, _⟩ := F.ns
          rw [hL] at hD; cases hD
        · cases e : h₀.get? D with
          | none => rfl
          | some o' => rw [F.keep _ _ e] at hD; cases hD
      · exact ⟨keep _ _ (N p hp).2.1 (N p hp).1, (N p hp).2⟩
    · intro p hp e
      rw [← e, (N p hp).1] at hD; cases hD
    · rw [List.filter_eq_self.mpr (fun _ _ => rfl)] at hF
      exact Paired.ints hi hF
end
end Mine
end

section
open PySem PySem.W PyProof.Rows PySem.Calls PySem.Spec
set_option Elab.async false
set_option maxRecDepth 100000
set_option maxHeartbeats 8000000
set_option linter.unusedVariables false
namespace Mine
theorem toArr3 {a b c : Int} : ([a, b, c].map fun n => n.toNat.toUInt8).toArray = #[a.toNat.toUInt8, b.toNat.toUInt8, c.toNat.toUInt8] := rfl
noncomputable def alphaS : Str := Str.ofString "ABCDEFGHIJKLMNOPQRSTUVWXYZabcdefghijklmnopqrstuvwxyz0123456789+/"
@[irreducible] noncomputable def indexF (k : Int) : Int := Txt.find alphaS ⟨#[k.toNat]⟩
theorem indexF_def (k : Int) : indexF k = Txt.find alphaS ⟨#[k.toNat]⟩ := by unfold indexF; rfl
theorem find_all : ∀ i : Fin 64, Txt.find alphaS ⟨#[(((b64L.getD i.val 0).toNat : Nat) : Int).toNat]⟩ = (i.val : Int) := by decide +kernel
theorem index_sign {i : Int} (h0 : 0 ≤ i) (h1 : i < 64) : indexF (signF i) = i := by
  have h := find_all ⟨i.toNat, by omega⟩
  rw [indexF_def, signF_def]
  rw [h]
  show ((i.toNat : Nat) : Int) = i
  omega
theorem bInts4 {a b c d : Int} (h1 : ((a.toNat.toUInt8.toNat : Nat) : Int) = a) (h2 : ((b.toNat.toUInt8.toNat : Nat) : Int) = b) (h3 : ((c.toNat.toUInt8.toNat : Nat) : Int) = c) (h4 : ((d.toNat.toUInt8.toNat : Nat) : Int) = d) :
    KBw.bInts (([a, b, c, d].map fun n => n.toNat.toUInt8).toArray) = [a, b, c, d] := by
  show [((a.toNat.toUInt8.toNat : Nat) : Int), ((b.toNat.toUInt8.toNat : Nat) : Int), ((c.toNat.toUInt8.toNat : Nat) : Int), ((d.toNat.toUInt8.toNat : Nat) : Int)] = _
  rw [h1, h2, h3, h4]
theorem index_ok {prog : Program} {w : World} {A : Around} {E : Value → Shared → Prop} {s : Shared} {t u : Tok} {Q : Value → Shared → Prop} {ks : List Int} {k : Int} (hA : A.handled = none) (hf : ∀ k ∈ ks, 0 ≤ indexF k) (hk : k ∈ ks) (h : Q (.int (indexF k) s.toks) { s with toks := s.toks + 1 }) :
    wpAny (model prog w) A (call (.builtin "str.index") [.str alphaS t, .str ⟨#[k.toNat]⟩ u]) Q E s := by
  have h0 := hf k hk
  rw [indexF_def] at h h0
  exact index_or hA (fun e => by omega) (fun _ _ => h)
theorem ints4 {ys : List Value} {a b c d : Int} (h : IntsAre ys [a, b, c, d]) : ∃ t1 t2 t3 t4, ys = [.int a t1, .int b t2, .int c t3, .int d t4] := by
  cases h with | cons _ t1 h => cases h with | cons _ t2 h => cases h with | cons _ t3 h => cases h with | cons _ t4 h => cases h; exact ⟨t1, t2, t3, t4, rfl⟩
theorem idx_of {v i : Int} (e : v = signF i) (h0 : 0 ≤ i) (h1 : i < 64) : indexF v = i := by rw [e]; exact index_sign h0 h1
theorem all4 {p : Int → Prop} {a b c d : Int} (h1 : p a) (h2 : p b) (h3 : p c) (h4 : p d) : ∀ k ∈ [a, b, c, d], p k := by
  intro k hk
  simp only [List.mem_cons, List.not_mem_nil, or_false] at hk
  rcases hk with rfl | rfl | rfl | rfl <;> assumption
noncomputable def dealJ (j1 j2 j3 j4 : Int) : Int :=
  List.foldl (fun a' n' => 2 * a' + (n'.fdiv 1).fmod 2)
        (List.foldl (fun a' n' => 2 * a' + (n'.fdiv 2).fmod 2)
          (List.foldl (fun a' n' => 2 * a' + (n'.fdiv 4).fmod 2)
            (List.foldl (fun a' n' => 2 * a' + (n'.fdiv 8).fmod 2)
              (List.foldl (fun a' n' => 2 * a' + (n'.fdiv 16).fmod 2)
                (List.foldl (fun a' n' => 2 * a' + (n'.fdiv 32).fmod 2) 0 [j1, j2, j3, j4]) [j1, j2, j3, j4]) [j1, j2, j3, j4]) [j1, j2, j3, j4]) [j1, j2, j3, j4]) [j1, j2, j3, j4]
noncomputable def dealF (r : Int) : Int := dealJ (r / 262144) (r / 4096 % 64) (r / 64 % 64) (r % 64)
theorem fd_1 {r : Int} (h0 : 0 ≤ r) (h1 : r < 16777216) : 0 ≤ r.fdiv 65536 ∧ r.fdiv 65536 < 256 := by rw [Int.fdiv_eq_ediv_of_nonneg _ (by decide)]; omega
theorem fd_2 (r : Int) : 0 ≤ (r.fdiv 256).fmod 256 ∧ (r.fdiv 256).fmod 256 < 256 := by rw [Int.fmod_eq_emod_of_nonneg _ (by decide)]; omega
theorem fd_3 (r : Int) : 0 ≤ r.fmod 256 ∧ r.fmod 256 < 256 := by rw [Int.fmod_eq_emod_of_nonneg _ (by decide)]; omega
theorem wh_1 {x : Int} (h : 0 ≤ x ∧ x < 256) : 0 ≤ x / 4 ∧ x / 4 < 64 := by omega
theorem wh_2 {x y : Int} (k : 0 ≤ y ∧ y < 256) : 0 ≤ x % 4 * 16 + y / 16 ∧ x % 4 * 16 + y / 16 < 64 := by omega
theorem wh_3 {x y : Int} (k : 0 ≤ y ∧ y < 256) : 0 ≤ x % 16 * 4 + y / 64 ∧ x % 16 * 4 + y / 64 < 64 := by omega
theorem wh_4 (x : Int) : 0 ≤ x % 64 ∧ x % 64 < 64 := by omega
theorem wf_1 (r : Int) : r.fdiv 65536 / 4 = r / 262144 := by rw [Int.fdiv_eq_ediv_of_nonneg _ (by decide)]; omega
theorem wf_2 (r : Int) : r.fdiv 65536 % 4 * 16 + (r.fdiv 256).fmod 256 / 16 = r / 4096 % 64 := by rw [Int.fmod_eq_emod_of_nonneg _ (by decide), Int.fdiv_eq_ediv_of_nonneg _ (by decide), Int.fdiv_eq_ediv_of_nonneg _ (by decide)]; omega
theorem wf_3 (r : Int) : (r.fdiv 256).fmod 256 % 16 * 4 + r.fmod 256 / 64 = r / 64 % 64 := by rw [Int.fmod_eq_emod_of_nonneg _ (by decide), Int.fmod_eq_emod_of_nonneg _ (by decide), Int.fdiv_eq_ediv_of_nonneg _ (by decide)]; omega
theorem wf_4 (r : Int) : r.fmod 256 % 64 = r % 64 := by rw [Int.fmod_eq_emod_of_nonneg _ (by decide)]; omega
theorem c_dealt {w : World} {mean : ExcName → Option Value} {mg mb : Str → Option Value} {cn : Str} {cs : Scope} {a : Addr} {ccd : Value} {cl : List (Str × Addr)} {base h₀ : Heap} {L : Addr} {m : Str → Option Value} {s : Shared} {Q E : Value → Shared → Prop}
    {r : Int} {tr : Tok} 
    (B : Below callerA base [] h₀) (F : Fr h₀ L s.heap m) (X : (hd.heap_39 w.params).In h₀) (T : Top hd.view_39 (looseW hd.view_39 [Str.ofString "b2a_base64", Str.ofString "b64encode"]) mean mg mb h₀) (hk : cs.kind = .function)
    (hr0 : 0 ≤ r) (hr1 : r < 16777216)
    (hret : ∀ (t : Tok) (h' : Heap) (tk' : Nat), (∀ b o, s.heap.get? b = some o → h'.get? b = some o) → Q (.int (dealF r) t) { s with heap := h', toks := tk' }) :
    wpAny (model Challenge.rw_oc0023_01.row.prog w) (callerA.deeper (envX cn cs L a ccd cl)) (call (.ref 103) [.int r tr]) Q E s := by
  w_top off
  k_with_none
  k_with "own:call ref" => (k_here; (with_reducible show wpAny _ _ (call (Value.ref 86) [Value.bytes _ _]) _ _ _); k_dflt (apply c_b64; (case B => k_asm); (case F => k_asm); (case X => k_asm); (case T => k_asm); (case hk => rfl); (case hx1 => assumption); (case hx2 => assumption); (case hx3 => assumption); k_whole); intro v1 v2 v3 v4 _ _ _ kp' e1 e2 e3 e4 hB'; (rename News _ _ _ _ => N0'); (rename Fr _ _ _ _ => F0'); (have F' := Fr.keeps F0' kp'); (have N' := News.grown N0' kp'); clear F0' N0'; (have hb1' := AllB.head hB'); (replace hB' := AllB.tail hB'); (have hb2' := AllB.head hB'); (replace hB' := AllB.tail hB'); (have hb3' := AllB.head hB'); (replace hB' := AllB.tail hB'); (have hb4' := AllB.head hB'); clear hB'; (try dsimp only))
  k_with "own:exec Assign cons ListComp" => (k_here; k_dflt (apply Assign_comp_bytes (f := indexF); (case _F₀ => k_asm); (case hsw => with_unfolding_all rfl); (case hL => rfl); (case hh => rfl); (case hclos => with_unfolding_all rfl); (case hcell => decide); (case hkind => rfl); (case hnames => decide); (case hx => rfl); (case hy => rfl); (case hp => rfl); (case hs => (intro _; rfl))))
  k_with "own:call builtin:str.index" => (k_here; (with_unfolding_all refine index_ok (by rfl) (by assumption) (by assumption) ?_))
  revert X; k_fill; intro X
  obtain ⟨hp, gens, drawn, toks, os⟩ := s
  dsimp only at *
  refine wpAny_call ?_
  k_dflt (refine' callOwnC ?k1 ?k2 ?k3 ?k5 ?kA ?kF ?kK ?k6 ?k7 ?k8 ?k9 ?kB ?kD ?_ ?c2 ?c3 ?c4; (case kA => exact rfl); (case kF => exact rfl); (case kK => assumption); (case k1 => k_asm); (case k2 => k_asm); (case k3 => k_asm); (case k5 => k_asm); (case k6 => k_is); (case k7 => k_is); (case k8 => ktr_room); (case k9 => exact BindsTo.of_eq rfl); (case kB => exact rfl); (case kD => decide +kernel); (case c2 => exact rfl); (case c3 => exact rfl); (case c4 => exact rfl); k_whole; intro g' L' h' tk' cells' Hg' F' N' Y' B' X' T'; subst Hg'; k_cells Y'; (try dsimp only); (try k_fold))
  clear B F X T
  have hb1 := fd_1 hr0 hr1
  have hb2 := fd_2 r
  have hb3 := fd_3 r
  k_steps
  have i1 := idx_of e1 (wh_1 hb1).1 (wh_1 hb1).2
  have i2 := idx_of e2 (wh_2 hb2).1 (wh_2 hb2).2
  have i3 := idx_of e3 (wh_3 hb3).1 (wh_3 hb3).2
  have i4 := idx_of e4 (wh_4 _).1 (wh_4 _).2
  have hf : ∀ k ∈ [v1, v2, v3, v4], 0 ≤ indexF k := all4 (i1 ▸ (wh_1 hb1).1) (i2 ▸ (wh_2 hb2).1) (i3 ▸ (wh_3 hb3).1) (i4 ▸ (wh_4 _).1)
  refine Stop.intro ⟨_, _, _, _, rfl, bInts4 hb1' hb2' hb3' hb4', (by rw [sizeLine_eq]; exact (by decide : 4 ≤ 16777216)), by k_asm, by k_asm, ?elt, ?rest⟩
  (case elt =>
    intro C k u s₂ m₂ E' hC hk h0 h1 hn hm kp
    k_steps
    exact Stop.intro ⟨⟨_, rfl⟩, ⟨_, _, rfl, fun _ _ e => e⟩⟩)
  intro D ys n h' tk F' N' hD hi'
  clear hf
  obtain ⟨t1, t2, t3, t4, rfl⟩ := ints4 hi'
  clear hi'
  generalize indexF v1 = j1 at *
  generalize indexF v2 = j2 at *
  generalize indexF v3 = j3 at *
  generalize indexF v4 = j4 at *
  have p1 : 0 ≤ j1 ∧ j1 < 64 := i1 ▸ wh_1 hb1
  have p2 : 0 ≤ j2 ∧ j2 < 64 := i2 ▸ wh_2 hb2
  have p3 : 0 ≤ j3 ∧ j3 < 64 := i3 ▸ wh_3 hb3
  have p4 : 0 ≤ j4 ∧ j4 < 64 := i4 ▸ wh_4 _
  dsimp only
  k_steps
  dsimp only
  refine' ret_int (Q := Q) hret ?f ?e
  (case f => k_asm)
  (case e =>
    rw [i1.trans (wf_1 r), i2.trans (wf_2 r), i3.trans (wf_3 r), i4.trans (wf_4 r)]
    rfl)
end Mine
end

section
namespace Mine
/-- what two rising rows keep for themselves -/
noncomputable def diffF : List Int → List Int → List Int × List Int
  | [], as => ([], as)
  | e :: es, [] => (e :: es, [])
  | e :: es, a :: as =>
    if e < a then (e :: (diffF es (a :: as)).1, (diffF es (a :: as)).2)
    else if a < e then ((diffF (e :: es) as).1, a :: (diffF (e :: es) as).2)
    else diffF es as
termination_by es as => es.length + as.length
theorem diffF_nil_left (as : List Int) : diffF [] as = ([], as) := by rw [diffF]
theorem diffF_nil_right (es : List Int) : diffF es [] = (es, []) := by cases es <;> rw [diffF]
theorem diffF_lt {e a : Int} (es as : List Int) (h : e < a) : diffF (e :: es) (a :: as) = (e :: (diffF es (a :: as)).1, (diffF es (a :: as)).2) := by
  rw [diffF]; rw [if_pos h]
theorem diffF_gt {e a : Int} (es as : List Int) (h : a < e) : diffF (e :: es) (a :: as) = ((diffF (e :: es) as).1, a :: (diffF (e :: es) as).2) := by
  rw [diffF]; rw [if_neg (by omega), if_pos h]
theorem diffF_eq {e : Int} (es as : List Int) : diffF (e :: es) (e :: as) = diffF es as := by
  rw [diffF]; rw [if_neg (by omega), if_neg (by omega)]
/-- the turn's word -/
def Due (es as : List Int) (i j : Int) (ms us : List Int) : Prop := (ms ++ (diffF (es.drop i.toNat) (as.drop j.toNat)).1, us ++ (diffF (es.drop i.toNat) (as.drop j.toNat)).2) = diffF es as
/-- the word at the end -/
def Fin' (es as : List Int) (i j : Int) (ms us : List Int) : Prop := (ms ++ es.drop i.toNat, us ++ as.drop j.toNat) = diffF es as
theorem drop_at {es : List Int} {i : Int} {e : Int} (h : es[i.toNat]? = some e) (h0 : 0 ≤ i) : es.drop i.toNat = e :: es.drop (i + 1).toNat := by
  obtain ⟨hlt, rfl⟩ := List.getElem?_eq_some_iff.mp h
  rw [List.drop_eq_getElem_cons hlt, show (i + 1).toNat = i.toNat + 1 by omega]
theorem drop_out {es : List Int} {i : Int} (h : (es.length : Int) ≤ i) : es.drop i.toNat = [] := List.drop_of_length_le (by omega)
section
variable {es as ms us : List Int} {i j e a : Int}
theorem Due.left (d : Due es as i j ms us) (h : (es.length : Int) ≤ i) : Fin' es as i j ms us := by
  unfold Due at d; unfold Fin'
  rw [drop_out h] at d ⊢
  rw [diffF_nil_left] at d; exact d
theorem Due.right (d : Due es as i j ms us) (h : (as.length : Int) ≤ j) : Fin' es as i j ms us := by
  unfold Due at d; unfold Fin'
  rw [drop_out h] at d ⊢
  rw [diffF_nil_right] at d; exact d
theorem Due.lt (d : Due es as i j ms us) (h0 : 0 ≤ i) (h1 : 0 ≤ j) (hi : es[i.toNat]? = some e) (hj : as[j.toNat]? = some a) (h : e < a) : Due es as (i + 1) j (ms ++ [e]) us := by
  unfold Due at d ⊢
  rw [drop_at hi h0, drop_at hj h1, diffF_lt _ _ h] at d
  rw [drop_at hj h1]
  simpa using d
theorem Due.gt (d : Due es as i j ms us) (h0 : 0 ≤ i) (h1 : 0 ≤ j) (hi : es[i.toNat]? = some e) (hj : as[j.toNat]? = some a) (h : a < e) : Due es as i (j + 1) ms (us ++ [a]) := by
  unfold Due at d ⊢
  rw [drop_at hi h0, drop_at hj h1, diffF_gt _ _ h] at d
  rw [drop_at hi h0]
  simpa using d
theorem Due.eq (d : Due es as i j ms us) (h0 : 0 ≤ i) (h1 : 0 ≤ j) (hi : es[i.toNat]? = some e) (hj : as[j.toNat]? = some e) : Due es as (i + 1) (j + 1) ms us := by
  unfold Due at d ⊢
  rw [drop_at hi h0, drop_at hj h1, diffF_eq] at d
  exact d
theorem Due.start : Due es as 0 0 [] [] := by unfold Due; simp
end
/-- a strictly rising row -/
def Rises (es : List Int) : Prop := es.Pairwise (· < ·)
theorem Rises.next {es : List Int} (h : Rises es) {i e e' : Int} (h0 : 0 ≤ i) (hi : es[i.toNat]? = some e) (hi' : es[(i + 1).toNat]? = some e') : e < e' := by
  obtain ⟨hlt, rfl⟩ := List.getElem?_eq_some_iff.mp hi
  obtain ⟨hlt', rfl⟩ := List.getElem?_eq_some_iff.mp hi'
  exact List.pairwise_iff_getElem.mp h _ _ hlt hlt' (by omega)
theorem at_or {es : List Int} {i : Int} (h0 : 0 ≤ i) : (∃ e, es[i.toNat]? = some e) ∨ (es.length : Int) ≤ i := by
  by_cases h : i.toNat < es.length
  · exact .inl ⟨_, List.getElem?_eq_getElem h⟩
  · exact .inr (by omega)
end Mine
end

section
open PySem PySem.W PyProof.Rows PySem.Calls PySem.Spec
set_option Elab.async false
set_option maxRecDepth 100000
namespace Mine
/-- an IndexError at e, not yet traced; its context is c -/
def XNew (h : Heap) (e : Addr) (c : Value) : Prop := ∃ oe vs, h.get? e = some oe ∧ oe.cls = .type "IndexError" ∧ oe.data = .fields vs ∧ vs[1]? = some .none ∧ vs[2]? = some c
/-- an IndexError at e, traced at tb, with the flight fl -/
def XTr (h : Heap) (e tb : Addr) (c fl : Value) : Prop := ∃ oe vs otb ts, h.get? e = some oe ∧ oe.cls = .type "IndexError" ∧ oe.data = .fields vs ∧ vs[1]? = some (.ref tb) ∧ vs[2]? = some c ∧
  h.get? tb = some otb ∧ otb.data = .fields ts ∧ ts[3]? = some fl ∧ tb ≠ e
/-- all stands but what lies in xs; of the frames fs the slots may turn -/
def Still (fs xs : List Addr) (h h' : Heap) : Prop := (∀ b o, b ∉ fs → b ∉ xs → h.get? b = some o → h'.get? b = some o) ∧ ∀ b o, b ∈ fs → b ∉ xs → h.get? b = some o → ∃ sl, h'.get? b = some { o with slots := sl }

theorem XNew.of_newExc {h h' : Heap} {e : Addr} (x : Heap.NewExc h h' e "IndexError") : XNew h' e .none := by
  obtain ⟨ob, t, a, b, c⟩ := x.there
  exact ⟨ob, _, a, b, c, rfl, rfl⟩

section
variable {M : Model} {A : Around} {E : Value → Shared → Prop} {s : Shared} {env : Env} {outer : List Env} {base : Heap} {L e tb : Addr} {c fl : Value}

theorem flight {x : Option Addr} {Q : Unit → Shared → Prop} (hx : XTr s.heap e tb c fl)
    (h : ∀ h', (∀ b o, b ≠ tb → s.heap.get? b = some o → h'.get? b = some o) → XTr h' e tb c (x.elim .none fun f => rawInt f) → Q () { s with heap := h' }) : wpAny M A (setFlight (.ref e) x) Q E s := by
  obtain ⟨oe, vs, otb, ts, he, hc, hd, h1, h2, ht, htd, h3, hne⟩ := hx
  have hsz : 3 < ts.size := (Array.getElem?_eq_some_iff.mp h3).1
  unfold setFlight
  refine wpAny_bind (wpAny_field he hd h1 ?_)
  rw [if_pos (show (Value.ref tb != Value.none) = true from by simp)]
  refine wpAny_setField ht htd hsz (h _ (fun b o hb e => (Heap.get?_update_ne _ _ _ _ hb).trans e) ?_)
  exact ⟨oe, vs, _, _, (Heap.get?_update_ne _ _ _ _ hne.symm).trans he, hc, hd, h1, h2, Heap.get?_update_self _ ht (Obj.isFreed_of_fields (Obj.data_mapFields htd _)), Obj.data_mapFields htd _, by simp [Array.getElem?_setIfInBounds, hsz], hne⟩

theorem came_back (hf : env.frame = some L) (hx : XTr s.heap e tb c fl)
    (h : ∀ h', (∀ b o, b ≠ tb → s.heap.get? b = some o → h'.get? b = some o) → XTr h' e tb c (rawInt L) → E (.ref e) { s with heap := h' }) : cameBackBy M A env E (.ref e) s := by
  have hx' := hx
  obtain ⟨oe, vs, otb, ts, he, hc, hd, h1, h2, ht, htd, h3, hne⟩ := hx'
  unfold cameBackBy
  refine wpAny_bind (wpAny_field he hd h1 ?_)
  rw [if_neg (show ¬ ((Value.ref tb == Value.none) = true) from by simp)]
  rw [hf]
  exact flight hx h

theorem pass_on {α : Type} {what : String} {Q : α → Shared → Prop} (hf : env.frame = some L) (hx : XTr s.heap e tb c fl)
    (h : ∀ h', (∀ b o, b ≠ tb → s.heap.get? b = some o → h'.get? b = some o) → XTr h' e tb c (rawInt L) → E (.ref e) { s with heap := h' }) : wpAny M A (PySem.passOn what (.ref e) env : Sem α) Q E s := by
  have hx' := hx
  obtain ⟨oe, vs, otb, ts, he, hc, hd, h1, h2, ht, htd, h3, hne⟩ := hx'
  unfold PySem.passOn
  refine wpAny_bind (wpAny_field he hd h1 ?_)
  rw [if_neg (show ¬ ((Value.ref tb == Value.none) = true) from by simp)]
  rw [hf]
  exact wpAny_bind (flight hx fun h' hk hx' => wpAny_throw (h h' hk hx'))

theorem note_same {Q : Unit → Shared → Prop} (hf : env.frame = some L) (hx : XTr s.heap e tb c (rawInt L)) (h : Q () s) : wpAny M A (noteFrame (.ref e) env) Q E s := by
  obtain ⟨oe, vs, otb, ts, he, hc, hd, h1, h2, ht, htd, h3, hne⟩ := hx
  exact wpAny_noteFrame_inFlight hf he hd h1 ht htd h3 h

theorem note_new {Q : Unit → Shared → Prop} (hfr : A.frames = some (env :: outer)) (hl : s.heap.FunFrames base (env :: outer)) (hf : env.frame = some L) (hx : XNew s.heap e c)
    (h : ∀ h' tb, Still ((env :: outer).filterMap (·.frame)) [e] s.heap h' → s.heap.get? tb = none → XTr h' e tb c (rawInt L) → Q () { s with heap := h' }) : wpAny M A (noteFrame (.ref e) env) Q E s := by
  obtain ⟨oe, vs, he, hc, hd, h1, h2⟩ := hx
  have hsz : 1 < vs.size := (Array.getElem?_eq_some_iff.mp h1).1
  have hene : e ∉ (env :: outer).filterMap (·.frame) := fun hm => by
    obtain ⟨_, o, ho, hnf⟩ := hl.mem hm
    rw [he] at ho; injection ho with ho; subst ho; exact hnf vs hd
  unfold noteFrame
  simp only [hf]
  refine wpAny_bind (wpAny_field he hd h1 ?_)
  rw [if_neg (by decide)]
  refine wpAny_bind (wpAny_frameOf_fun hfr hl hf fun h₁ hs₁ => ?_)
  refine wpAny_bind (wpAny_entryPlaceOf fun pl hpl => ?_)
  unfold EntryCells.newEntry newFields
  refine wpAny_bind (wpAny_newObj_type ?_ (hpl.sizeOk5 _ _ _ _ _))
  have he₁ : h₁.get? e = some oe := (hs₁.2.1 e hene).trans he
  have he₂ := Heap.get?_push_of_some (h := h₁) { cls := .type "traceback", dict := none, data := .fields ([Value.none, .ref L, .none, rawInt L, .none] ++ (if pl.isEmpty then List.replicate 6 Value.none else pl)).toArray } he₁
  refine wpAny_setField he₂ hd hsz ?_
  have hTe : h₁.objs.size ≠ e := Nat.ne_of_gt (Heap.lt_size he₁)
  have hd₃ := Obj.data_mapFields hd (·.setIfInBounds 1 (Value.ref h₁.objs.size))
  have he₃ := Heap.get?_update_self (Obj.mapFields (·.setIfInBounds 1 (Value.ref h₁.objs.size))) he₂ (Obj.isFreed_of_fields hd₃)
  have hT₃ := (Heap.get?_update_other (h₁.push { cls := .type "traceback", dict := none, data := .fields ([Value.none, .ref L, .none, rawInt L, .none] ++ (if pl.isEmpty then List.replicate 6 Value.none else pl)).toArray })
    (Obj.mapFields (·.setIfInBounds 1 (Value.ref h₁.objs.size))) (Ne.symm hTe)).trans (Heap.get?_push_size h₁ rfl)
  have keep : ∀ b o, b ≠ e → h₁.get? b = some o → ((h₁.push { cls := .type "traceback", dict := none, data := .fields ([Value.none, .ref L, .none, rawInt L, .none] ++ (if pl.isEmpty then List.replicate 6 Value.none else pl)).toArray }).update e (Obj.mapFields (·.setIfInBounds 1 (Value.ref h₁.objs.size)))).get? b = some o := fun b o hbe hb => by
    rw [Heap.get?_update_other _ _ (Ne.symm hbe)]
    exact Heap.get?_push_of_some _ hb
  refine h _ h₁.objs.size ⟨fun b o hb hbe e' => ?_, fun b o hb hbe e' => ?_⟩ ?_ ?_
  · exact keep b o (fun q => hbe (by simp [q])) ((hs₁.2.1 b hb).trans e')
  · obtain ⟨sl, q⟩ := hs₁.2.2 b o e'
    exact ⟨sl, keep b _ (fun q => hbe (by simp [q])) q⟩
  · cases q : s.heap.get? h₁.objs.size with
    | none => rfl
    | some o => exact absurd (Heap.lt_size q) (by rw [hs₁.1]; exact Nat.lt_irrefl _)
  · exact ⟨_, _, _, _, he₃, (Obj.cls_mapFields _ _).trans hc, hd₃, by simp [hsz], by rw [Array.getElem?_setIfInBounds_ne (by decide)]; exact h2, hT₃, rfl, by first | (simp; done) | (rcases hpl with rfl | ⟨_, _, _, _, _, _, _, rfl⟩ <;> simp), hTe⟩
end

section
variable {prog : Program} {w : World} {A : Around} {E : Value → Shared → Prop} {s : Shared} {env : Env}
theorem while_once {test : Expr} {body : List Stmt} {pos : Pos} {Q : Flow → Shared → Prop} {E₁ : Value → Shared → Prop}
    (h : wpAny (model prog w) A (PySem.isTrue test env (eval test env)) (fun b s₂ => Stop (b = false ∧ Q .next s₂)) E₁ s)
    (hE : ∀ e s', E₁ e s' → notedBy (model prog w) A env (cameBackBy (model prog w) A env E) e s') : wpAny (model prog w) A (exec (.While test body [] pos) env) Q E s := by
  refine wpAny_While (codeAny_whileLoop (fun _ s' => s' = s) ?_ 0 rfl)
  rintro n s' rfl
  refine wpAny_mono h (fun b s₂ h₂ => ?_) hE
  obtain ⟨rfl, hq⟩ := h₂
  rw [if_neg (by decide)]
  exact wpAny_execs_nil hq

theorem plain_unchain : plainId "proto.unchain" = true := by decide +kernel
theorem entry_unchain : entryFor table "proto.unchain" = some Builtin.«proto.unchain» := by first | exact entryFor_of_fast (by kernel_rfl) | exact entryFor_of_tree (by kernel_rfl)
/-- a raise while e₀ is handled -/
theorem raise_again {α : Type} {msg : String} {e₀ : Addr} {Q : α → Shared → Prop} (hh : A.handled = some (.ref e₀)) (hx : ∃ oe vs, s.heap.get? e₀ = some oe ∧ oe.data = .fields vs ∧ vs[2]? = some .none)
    (h : ∀ h' tk e, (∀ b o, s.heap.get? b = some o → h'.get? b = some o) → s.heap.get? e = none → XNew h' e (.ref e₀) → E (.ref e) { s with heap := h', toks := tk }) :
    wpAny (model prog w) A (raiseErrorWords "IndexError" msg : Sem α) Q E s := by
  obtain ⟨oe, vs, he, hd, h2⟩ := hx
  unfold raiseErrorWords
  refine wpAny_bind (wpAny_mkText (wpAny_bind ?_))
  unfold newExc newTuple
  refine wpAny_bind (wpAny_newObj_type ?_)
  refine wpAny_bind (m := firstArgMember _ _) (wpAny_of_eq (a := Value.none) (by simp only [firstArgMember, plainExc_IndexError.first]; rfl) ?_)
  rw [plainExc_IndexError.own]
  refine wpAny_newObj_type ?_
  dsimp only
  generalize hH1 : s.heap.push { cls := .type "tuple", dict := none, data := .seq [Value.str (Str.ofString msg) s.toks].toArray } = H1
  have k1 : ∀ b o, s.heap.get? b = some o → H1.get? b = some o := fun b o q => hH1 ▸ Heap.get?_push_of_some _ q
  have hsz1 : H1.objs.size = s.heap.objs.size + 1 := by rw [← hH1, Heap.size_push]
  have hne : e₀ ≠ H1.objs.size := Nat.ne_of_lt (Heap.lt_size (k1 _ _ he))
  unfold raiseNew
  refine wpAny_bind (wpAny_handled ?_)
  rw [hh]
  dsimp only
  rw [if_pos (show (Value.ref e₀ != Value.ref H1.objs.size) = true from by simp [hne])]
  generalize hH2 : H1.push { cls := .type "IndexError", dict := none, data := .fields (#[Value.ref s.heap.objs.size, Value.none, Value.none, Value.none, Value.bool false, Value.none] ++ #[]) } = H2
  have k2 : ∀ b o, s.heap.get? b = some o → H2.get? b = some o := fun b o q => hH2 ▸ Heap.get?_push_of_some _ (k1 b o q)
  have hE2 : H2.get? H1.objs.size = some { cls := .type "IndexError", dict := none, data := .fields (#[Value.ref s.heap.objs.size, Value.none, Value.none, Value.none, Value.bool false, Value.none] ++ #[]) } := hH2 ▸ Heap.get?_push_size _ rfl
  refine wpAny_bind (wpAny_holding (wpAny_runValue (codeAny_builtin entry_unchain ?_)))
  rw [Around.under_plainId plain_unchain]
  unfold Builtin.«proto.unchain»
  refine wpAny_bind (wpAny_field (k2 _ _ he) hd h2 ?_)
  rw [if_pos (show (Value.none == Value.none) = true from by decide)]
  refine wpAny_pure ?_
  dsimp only
  refine wpAny_bind ?_
  refine wpAny_mono (Q := fun _ s' => s' = { heap := H2.update H1.objs.size (Obj.mapFields (·.setIfInBounds 2 (Value.ref e₀))), gens := s.gens, drawn := s.drawn, toks := s.toks + 1, os := s.os }) (E := E) ?_ ?_ (fun _ _ x => x)
  · show wpAny _ _ (setField (Value.ref H1.objs.size) 2 (Value.ref e₀)) _ _ _
    exact wpAny_setField hE2 rfl (by simp) rfl
  · rintro _ _ rfl
    refine wpAny_throw (h _ _ _ (fun b o q => ?_) ?_ ?_)
    · have hb : b ≠ H1.objs.size := Nat.ne_of_lt (Heap.lt_size (k1 b o q))
      exact (Heap.get?_update_ne _ _ _ _ hb).trans (k2 b o q)
    · cases q : s.heap.get? H1.objs.size with
      | none => rfl
      | some o => exact absurd (Heap.lt_size (k1 _ _ q)) (Nat.lt_irrefl _)
    · exact ⟨_, _, Heap.get?_update_self _ hE2 (Obj.isFreed_of_fields (Obj.data_mapFields rfl _)), Obj.cls_mapFields _ _, Obj.data_mapFields rfl _, by simp, by simp⟩
end
end Mine
end

section
open PySem PySem.W PyProof.Rows PySem.Calls PySem.Spec
set_option Elab.async false
set_option maxRecDepth 100000
namespace Mine
theorem IntsAre.at {vs : List Value} {ns : List Int} (h : IntsAre vs ns) : ∀ {i : Nat} {v : Int}, ns[i]? = some v → ∃ t, vs[i]? = some (Value.int v t) := by
  induction h with
  | nil => intro i v e; simp at e
  | cons n t r ih =>
    intro i v e
    cases i with
    | zero => simp only [List.getElem?_cons_zero, Option.some.injEq] at e; subst e; exact ⟨t, rfl⟩
    | succ i => exact ih (by simpa using e)
section
variable {prog : Program} {w : World} {A : Around} {E : Value → Shared → Prop} {s : Shared} {value slice : PySem.Expr} {l e₀ : Addr} {vs : List Value} {ns : List Int} {k v : Int} {u : Tok} {Q : Value → Shared → Prop}
theorem sub_in (hl : s.heap.IsList l vs.toArray) (hi : IntsAre vs ns) (h0 : 0 ≤ k) (hhi : k < 2 ^ 63) (hx : ns[k.toNat]? = some v) (h : ∀ t, Q (.int v t) s)
    (hs : subscripted slice false (.ref l) (.int k u) = operate [.ref l, .int k u] (getItem (.ref l) (.int k u))) :
    wpAny (model prog w) A (subscriptTail value slice (.ref l) (.int k u)) Q E s := by
  obtain ⟨t, ht⟩ := IntsAre.at hi hx
  exact tail_any hl.typeIs slot_list_getitem.lookup (wpAny_getItem_list hl h0 hhi (by simpa using ht) (h t)) hs
theorem sub_out0 (hA : A.handled = none) (hl : s.heap.IsList l vs.toArray) (hi : IntsAre vs ns) (h0 : (ns.length : Int) ≤ k) (hhi : k < 2 ^ 63)
    (h : ∀ h' tk e, (∀ b o, s.heap.get? b = some o → h'.get? b = some o) → s.heap.get? e = none → XNew h' e .none → E (.ref e) { s with heap := h', toks := tk })
    (hs : subscripted slice false (.ref l) (.int k u) = operate [.ref l, .int k u] (getItem (.ref l) (.int k u))) :
    wpAny (model prog w) A (subscriptTail value slice (.ref l) (.int k u)) Q E s := by
  have hlen := hi.length
  refine tail_any hl.typeIs slot_list_getitem.lookup (wpAny_getItem_list_out hA hl (.inr (by rw [List.size_toArray]; omega)) (by omega) hhi fun h' tk e x => h h' tk e x.keeps x.new (XNew.of_newExc x)) hs

theorem getItem_again {items : Array Value} (hA : A.handled = some (.ref e₀)) (hx : ∃ oe vs, s.heap.get? e₀ = some oe ∧ oe.data = .fields vs ∧ vs[2]? = some .none) (hl : s.heap.IsList l items)
    (h0 : (items.size : Int) ≤ k) (hhi : k < 2 ^ 63)
    (h : ∀ h' tk e, (∀ b o, s.heap.get? b = some o → h'.get? b = some o) → s.heap.get? e = none → XNew h' e (.ref e₀) → E (.ref e) { s with heap := h', toks := tk }) :
    wpAny (model prog w) A (getItem (.ref l) (.int k u)) Q E s := by
  obtain ⟨o, ho, hc, ne, hd⟩ := id hl
  unfold getItem
  try with_reducible refine wpAny_holding ?_
  first | refine wpAny_bind (wpAny_pure ?_) | skip
  refine wpAny_bind (wpAny_sequenceKey hl.typeIs (by decide) ?_)
  refine wpAny_bind (wpAny_callSpecial?_slot (name := Str.ofString "__getitem__") hl.typeIs slot_list_getitem
    (wpAny_call_entry slot_list_getitem hl.typeIs entry_list_getitem ?_ (args_list_getitem _ _)))
  have hlo : -(2 ^ 63) ≤ k := by omega
  show wpAny _ _ (Builtin.List.listSubscript? (.int k u) >>= _) _ _ s
  refine wpAny_bind (wpAny_listSubscript_int (fitsIndex_both hlo hhi) ?_)
  clear hlo hhi
  cases k with
  | negSucc j => exact absurd h0 (by have := Int.negSucc_lt_zero j; omega)
  | ofNat j =>
  have hx' : items[j]? = none := Array.getElem?_eq_none (by have : (items.size : Int) ≤ (j : Int) := h0; omega)
  show wpAny _ _ ((seqItemAt l j >>= fun r => pure (r.map (j, ·))) >>= _) _ _ s
  refine wpAny_bind (wpAny_bind (wpAny_seqItemAt ho hd (wpAny_pure ?_)))
  rw [hx']
  have hA' : A.in1.handled = some (.ref e₀) := hA
  first
    | exact wpAny_bind (wpAny_rule (raise_again hA' hx h))
    | exact wpAny_bind (wpAny_rule (wpAny_bind (raise_again hA' hx h)))
    | exact wpAny_bind (wpAny_bind (wpAny_rule (raise_again hA' hx h)))
    | exact wpAny_rule (raise_again hA' hx h)
theorem sub_out1 (hA : A.handled = some (.ref e₀)) (hx : ∃ oe vs, s.heap.get? e₀ = some oe ∧ oe.data = .fields vs ∧ vs[2]? = some .none) (hl : s.heap.IsList l vs.toArray) (hi : IntsAre vs ns) (h0 : (ns.length : Int) ≤ k) (hhi : k < 2 ^ 63)
    (h : ∀ h' tk e, (∀ b o, s.heap.get? b = some o → h'.get? b = some o) → s.heap.get? e = none → XNew h' e (.ref e₀) → E (.ref e) { s with heap := h', toks := tk })
    (hs : subscripted slice false (.ref l) (.int k u) = operate [.ref l, .int k u] (getItem (.ref l) (.int k u))) :
    wpAny (model prog w) A (subscriptTail value slice (.ref l) (.int k u)) Q E s := by
  have hlen := hi.length
  exact tail_any hl.typeIs slot_list_getitem.lookup (getItem_again hA hx hl (by rw [List.size_toArray]; omega) hhi h) hs
end
end Mine
end

section
open PySem PySem.W PyProof.Rows PySem.Calls PySem.Spec
set_option Elab.async false
set_option maxRecDepth 100000
namespace Mine
section
variable {prog : Program} {w : World} {A : Around} {s : Shared} {base : Heap} {K : Frag}
  {name qual : Str} {params : Arguments} {body : List Stmt} {scope : Scope} {dV kV doc pm cdv ct oc : Value} {an od : Option Addr} {osl : Array (Option Value)} {f : Addr} {args : Args} {binds : List (Str × Value)}
  {p : Program} {loose : List Str} {mean : ExcName → Option Value} {mg mb : Str → Option Value}
theorem stays_hid {fs : List (Addr × Obj)} (hb : base.StaysIn s.heap) (hfs : ∀ p ∈ fs, s.heap.get? p.1 = some p.2 ∧ base.get? p.1 = none) : base.StaysIn (hideAll s.heap (fs.map (·.1))) := fun b o e =>
  hideAll_get _ (hb b o e) fun q => by
    obtain ⟨p, hp, rfl⟩ := List.mem_map.mp q
    rw [(hfs p hp).2] at e; cases e
/-- a call whose outer frames may turn their slots: they are hidden from its ground and stand in its ledger -/
theorem callHid {Q E : Value → Shared → Prop} {fs : List (Addr × Obj)} (hb : base.StaysIn s.heap) (X₀ : K.In base) (T : Top p loose mean mg mb base) (hfs : ∀ p ∈ fs, s.heap.get? p.1 = some p.2 ∧ base.get? p.1 = none)
    (ho : K.lookup f = some ⟨oc, od, .func (fnOf name qual params body scope dV kV doc pm an cdv ct), osl⟩) (hcd : codeIn K cdv qual = true) (hroom : A.depth < recursionLimit)
    (hbind : BindsTo s (fnOf name qual params body scope dV kV doc pm an cdv ct) args binds) (hloc : ∀ y ∈ binds, scope.names.lookup y.1 = some .local)
    (h : ∀ g L' h₁, g = hideAll s.heap (fs.map (·.1)) → base.StaysIn g → (∀ q ∈ fs, q.1 < L') → Fr g L' h₁ (fun y => binds.reverse.lookup y) → News g L' h₁ fs → K.In g → Top p loose mean mg mb g →
      wpAny (model prog w) (A.deeper (envOf qual scope L' f cdv)) (execs body (envOf qual scope L' f cdv))
        (fun fl s' => Q (match fl with | .ret v => v | _ => .none) s')
        (fun e s' => wpAny (model prog w) (A.deeper (envOf qual scope L' f cdv)) (leaving (envOf qual scope L' f cdv) e) (fun _ s'' => E e s'') (fun e' s'' => E e' s'') s')
        { s with heap := h₁, toks := s.toks + binds.length })
    (hcell : ∀ x ∈ scope.names, x.2 ≠ .cell) (hco : scope.isCoroutine = false) (hgen : scope.isGenerator = false) (hk : scope.kind = .function) :
    codeAny (model prog w) A (.call (.ref f) args) (fun r s' => match r with | .ok (.ret v) => Q v s' | .ok _ => False | .error e => E e s') s := by
  have XS := X₀.keeps hb
  refine codeAny_call_def (fd := fnOf name qual params body scope dV kV doc pm an cdv ct) (body := body) (binds := binds) hroom (XS _ _ ho) rfl (T.nolimit.keeps hb) (codeRec_of XS hcd) rfl hbind hcell hloc (fun h₁ hns hk₁ => ?_) hco hgen hk
  have st := stays_hid hb hfs
  exact h _ s.heap.objs.size h₁ rfl st (fun q hq => Heap.lt_size (hfs q hq).1) ⟨hns, fun b o e => hk₁ b o (of_hideAll _ e), Nat.le_of_eq (hideAll_size _ _)⟩
    (fun q hq => ⟨hk₁ _ _ (hfs q hq).1, Nat.ne_of_lt (Heap.lt_size (hfs q hq).1), hideAll_none _ (List.mem_map_of_mem hq)⟩) (X₀.keeps st) (T.keeps st)
/-- the same for a def whose locals are captured -/
theorem callHidC {Q E : Value → Shared → Prop} {fs : List (Addr × Obj)} (hb : base.StaysIn s.heap) (X₀ : K.In base) (T : Top p loose mean mg mb base) (hfs : ∀ p ∈ fs, s.heap.get? p.1 = some p.2 ∧ base.get? p.1 = none)
    (ho : K.lookup f = some ⟨oc, od, .func (fnOf name qual params body scope dV kV doc pm an cdv ct), osl⟩) (hcd : codeIn K cdv qual = true) (hroom : A.depth < recursionLimit)
    (hbind : BindsTo s (fnOf name qual params body scope dV kV doc pm an cdv ct) args binds) (hkind : (binds.all fun y => scope.names.lookup y.1 == some .local || scope.names.lookup y.1 == some .cell) = true)
    (hnd : ((cellsFrom 0 scope.names []).map (·.1)).Nodup)
    (h : ∀ g L' h₁ tk cells, g = hideAll s.heap (fs.map (·.1)) → base.StaysIn g → (∀ q ∈ fs, q.1 < L') → Fr g L' h₁ (bindL (envOfC qual scope L' f cdv).kindOf binds fun _ => none) → News g L' h₁ (cells ++ fs) →
      CellsAre (bindC (envOfC qual scope L' f cdv).kindOf binds fun _ => none) (cellsFrom (L' + 1) scope.names []) cells → K.In g → Top p loose mean mg mb g →
      wpAny (model prog w) (A.deeper (envOfC qual scope L' f cdv)) (execs body (envOfC qual scope L' f cdv))
        (fun fl s' => Q (match fl with | .ret v => v | _ => .none) s')
        (fun e s' => wpAny (model prog w) (A.deeper (envOfC qual scope L' f cdv)) (leaving (envOfC qual scope L' f cdv) e) (fun _ s'' => E e s'') (fun e' s'' => E e' s'') s')
        { s with heap := h₁, toks := tk })
    (hco : scope.isCoroutine = false) (hgen : scope.isGenerator = false) (hk : scope.kind = .function) :
    codeAny (model prog w) A (.call (.ref f) args) (fun r s' => match r with | .ok (.ret v) => Q v s' | .ok _ => False | .error e => E e s') s := by
  have XS := X₀.keeps hb
  refine codeAny_call_function hroom (XS _ _ ho) rfl hco hgen rfl (codeRec_of XS hcd) (hbind _ _ _ _ ?_)
  refine wpAny_newFunctionEnv_cells hk (kindsX hkind _) fun env' he s' x => ?_
  subst he
  refine ⟨(T.nolimit.keeps hb).keeps x.toInCall.keep, codeAny_func ?_⟩
  obtain ⟨h₁, tk, rfl, _⟩ := x.done
  have hk₁ := x.toInCall.keep
  obtain ⟨cells, NC, Y⟩ := Cl.news (h₀ := s.heap) (Nat.le_refl _) fun n c hm => ⟨x.cell n c (lookup_of_mem_nodup (cellsFrom_names scope.names 0 (s.heap.objs.size + 1) [] [] rfl ▸ hnd) hm), x.above n c hm⟩
  have st := stays_hid hb hfs
  refine h _ s.heap.objs.size h₁ tk cells rfl st (fun q hq => Heap.lt_size (hfs q hq).1) ⟨x.toInCall.ns, fun b o e => hk₁ b o (of_hideAll _ e), Nat.le_of_eq (hideAll_size _ _)⟩ (fun q hq => ?_) Y (X₀.keeps st) (T.keeps st)
  rcases List.mem_append.mp hq with hq | hq
  · refine ⟨(NC q hq).1, (NC q hq).2.1, ?_⟩
    cases z : (hideAll s.heap (fs.map (·.1))).get? q.1 with
    | none => rfl
    | some o => have := of_hideAll _ z; rw [(NC q hq).2.2] at this; cases this
  · exact ⟨hk₁ _ _ (hfs q hq).1, Nat.ne_of_lt (Heap.lt_size (hfs q hq).1), hideAll_none _ (List.mem_map_of_mem hq)⟩
end
section
variable {prog : Program} {w : World} {A : Around} {E : Value → Shared → Prop} {s : Shared} {env : Env}
theorem try_er {body orelse : List Stmt} {h₀ : ExceptHandler} {hs : List ExceptHandler} {pos : Pos} {Q : Flow → Shared → Prop} {ER : Value → Shared → Prop}
    (h : wpAny (model prog w) A (execs body env) (fun f s₁ => match f with | .next => wpAny (model prog w) A (execs orelse env) Q E s₁ | f => Q f s₁) ER s)
    (hER : ∀ e s₁, ER e s₁ → wpAny (model prog w) A (noteFrame e env) (fun _ s₂ => wpAny (model prog w) A (setFlight e none) (fun _ s₃ => wpAny (model prog w) A (handleBy e env (h₀ :: hs)) Q E s₃) E s₂) E s₁) :
    wpAny (model prog w) A (exec (.Try body (h₀ :: hs) orelse [] pos) env) Q E s := wpAny_Try_except (wpAny_mono h (fun _ _ x => x) hER)
theorem try_fin {body : List Stmt} {f₀ : Stmt} {fs : List Stmt} {pos : Pos} {Q : Flow → Shared → Prop} {ER : Value → Shared → Prop}
    (h : wpAny (model prog w) A (execs body env) (fun f s₁ => Stop (f = .next ∧ wpAny (model prog w) A (execs (f₀ :: fs) env) (fun g s' => match g with | .next => Q .next s' | g => Q g s') (notedBy (model prog w) A env (cameBackBy (model prog w) A env E)) s₁)) ER s)
    (hER : ∀ e s₁, ER e s₁ → wpAny (model prog w) A (noteFrame e env) (fun _ s₂ => FinallyRaised prog w A E env (f₀ :: fs) Q e s₂) (FinallyRaised prog w A E env (f₀ :: fs) Q) s₁) :
    wpAny (model prog w) A (exec (.Try body [] [] (f₀ :: fs) pos) env) Q E s := by
  refine wpAny_Try_finally (wpAny_mono h (fun f s₁ x => ?_) hER)
  obtain ⟨rfl, x⟩ := x
  exact wpAny_execs_nil x
end
end Mine
end

section
open PySem PySem.W PyProof.Rows PySem.Calls PySem.Spec
set_option Elab.async false
set_option maxRecDepth 100000
namespace Mine
/-- the frame's map between two turns -/
noncomputable def fm (le la lm lu : Addr) (i j : Int) (ti tj : Tok) (rest : Str → Option Value) : Str → Option Value := fun y =>
  if y = Str.ofString "i" then some (.int i ti) else if y = Str.ofString "j" then some (.int j tj) else
  if y = Str.ofString "missing" then some (.ref lm) else if y = Str.ofString "unexpected" then some (.ref lu) else
  if y = Str.ofString "expected" then some (.ref le) else if y = Str.ofString "actual" then some (.ref la) else rest y
theorem fm_of {le la lm lu : Addr} {i j : Int} {ti tj : Tok} {m : Str → Option Value} (h1 : m (Str.ofString "i") = some (.int i ti)) (h2 : m (Str.ofString "j") = some (.int j tj)) (h3 : m (Str.ofString "missing") = some (.ref lm))
    (h4 : m (Str.ofString "unexpected") = some (.ref lu)) (h5 : m (Str.ofString "expected") = some (.ref le)) (h6 : m (Str.ofString "actual") = some (.ref la)) : m = fm le la lm lu i j ti tj m := by
  funext y
  unfold fm
  split
  · subst_vars; exact h1
  · split
    · subst_vars; exact h2
    · split
      · subst_vars; exact h3
      · split
        · subst_vars; exact h4
        · split
          · subst_vars; exact h5
          · split
            · subst_vars; exact h6
            · rfl
section
variable (Pr : (Str → Option Value) → Prop) (g : Heap) (L le la lm lu L1 L0 : Addr) (o1 o0 : Obj)
def DSt (i j : Int) (ms us : List Int) (h : Heap) : Prop :=
  ∃ (ti tj : Tok) (rest : Str → Option Value) (vms vus : List Value) (n1 n2 : Nat) (sl1 sl0 : Array (Option Value)), Fr g L h (fm le la lm lu i j ti tj rest) ∧
    News g L h [(lu, W.listOf vus.toArray n2), (lm, W.listOf vms.toArray n1), (L1, { o1 with slots := sl1 }), (L0, { o0 with slots := sl0 })] ∧ IntsAre vms ms ∧ IntsAre vus us ∧ Pr rest
def Off (x : Addr) : Prop := g.get? x = none ∧ x ≠ L ∧ x ≠ lm ∧ x ≠ lu ∧ x ≠ L1 ∧ x ≠ L0
/-- raised: traced or not -/
def RSt (i j : Int) (ms us : List Int) (c : Value) (e : Addr) (h : Heap) : Prop := DSt Pr g L le la lm lu L1 L0 o1 o0 i j ms us h ∧ Off g L lm lu L1 L0 e ∧ (XNew h e c ∨ ∃ tb, Off g L lm lu L1 L0 tb ∧ XTr h e tb c (rawInt L))
/-- raised and traced -/
def TSt (i j : Int) (ms us : List Int) (c : Value) (e : Addr) (fl : Value) (h : Heap) : Prop := DSt Pr g L le la lm lu L1 L0 o1 o0 i j ms us h ∧ Off g L lm lu L1 L0 e ∧ ∃ tb, Off g L lm lu L1 L0 tb ∧ XTr h e tb c fl
def ER (s : Shared) (Wd : Int → Int → List Int → List Int → Value → Prop) : Value → Shared → Prop := fun v s₁ =>
  ∃ e h tk i j ms us c, v = .ref e ∧ s₁ = { s with heap := h, toks := tk } ∧ RSt Pr g L le la lm lu L1 L0 o1 o0 i j ms us c e h ∧ Wd i j ms us c
end
section
variable {Pr : (Str → Option Value) → Prop} {g : Heap} {L le la lm lu L1 L0 : Addr} {o1 o0 : Obj} {i j : Int} {ms us : List Int} {h h' : Heap} {c fl : Value} {e x : Addr}
theorem fm_with {le la lm lu : Addr} {i j : Int} {ti tj : Tok} {rest : Str → Option Value} {v : Value} (h : rest (Str.ofString "a") = some v) :
    fm le la lm lu i j ti tj rest = fun y => if y = Str.ofString "a" then some v else fm le la lm lu i j ti tj rest y := by
  funext y
  by_cases hy : y = Str.ofString "a"
  · subst hy
    rw [if_pos rfl]
    exact h
  · rw [if_neg hy]
theorem dst_of {m : Str → Option Value} {ti tj : Tok} {vms vus : List Value} {n1 n2 : Nat} {sl1 sl0 : Array (Option Value)} (F : Fr g L h m)
    (N : News g L h [(lu, W.listOf vus.toArray n2), (lm, W.listOf vms.toArray n1), (L1, { o1 with slots := sl1 }), (L0, { o0 with slots := sl0 })]) (a : IntsAre vms ms) (b : IntsAre vus us) (pr : Pr m)
    (h1 : m (Str.ofString "i") = some (.int i ti)) (h2 : m (Str.ofString "j") = some (.int j tj)) (h3 : m (Str.ofString "missing") = some (.ref lm))
    (h4 : m (Str.ofString "unexpected") = some (.ref lu)) (h5 : m (Str.ofString "expected") = some (.ref le)) (h6 : m (Str.ofString "actual") = some (.ref la)) : DSt Pr g L le la lm lu L1 L0 o1 o0 i j ms us h := by
  have e := fm_of h1 h2 h3 h4 h5 h6
  refine ⟨ti, tj, m, vms, vus, n1, n2, sl1, sl0, ?_, N, a, b, pr⟩
  rw [← e]; exact F
theorem DSt.off (D : DSt Pr g L le la lm lu L1 L0 o1 o0 i j ms us h) (hx : h.get? x = none) : Off g L lm lu L1 L0 x := by
  obtain ⟨ti, tj, rest, vms, vus, n1, n2, sl1, sl0, F, N, _, _, _⟩ := D
  have ne : ∀ {b : Addr} {o : Obj}, h.get? b = some o → x ≠ b := fun hb q => by rw [q, hb] at hx; cases hx
  refine ⟨?_, ?_, ne (N _ (.tail _ (.head _))).1, ne (N _ (.head _)).1, ne (N _ (.tail _ (.tail _ (.head _)))).1, ne (N _ (.tail _ (.tail _ (.tail _ (.head _))))).1⟩
  · cases q : g.get? x with
    | none => rfl
    | some o => rw [F.keep _ _ q] at hx; cases hx
  · obtain ⟨o, _, _, ho, _⟩ := F.ns
    exact ne ho
theorem Fr.slots {m : Str → Option Value} (F : Fr g L h m) (hx : ∀ b o, g.get? b = some o → h.get? b = some o → h'.get? b = some o) (hL : ∀ o, h.get? L = some o → ∃ sl, h'.get? L = some { o with slots := sl }) : Fr g L h' m := by
  obtain ⟨o, es, ep, ho, hd, hk, hf⟩ := F.ns
  obtain ⟨sl, ho'⟩ := hL o ho
  exact ⟨⟨_, es, ep, ho', hd, hk, hf⟩, fun b o q => hx b o q (F.keep b o q), F.above⟩
theorem DSt.keep (D : DSt Pr g L le la lm lu L1 L0 o1 o0 i j ms us h) (hk : ∀ b o, h.get? b = some o → h'.get? b = some o) : DSt Pr g L le la lm lu L1 L0 o1 o0 i j ms us h' := by
  obtain ⟨ti, tj, rest, vms, vus, n1, n2, sl1, sl0, F, N, a, b⟩ := D
  exact ⟨ti, tj, rest, vms, vus, n1, n2, sl1, sl0, F.keeps hk, N.grown hk, a, b⟩
theorem DSt.but (D : DSt Pr g L le la lm lu L1 L0 o1 o0 i j ms us h) (O : Off g L lm lu L1 L0 x) (hk : ∀ b o, b ≠ x → h.get? b = some o → h'.get? b = some o) : DSt Pr g L le la lm lu L1 L0 o1 o0 i j ms us h' := by
  obtain ⟨ti, tj, rest, vms, vus, n1, n2, sl1, sl0, F, N, a, b⟩ := D
  obtain ⟨og, oL, om, ou, p1, p0⟩ := O
  refine ⟨ti, tj, rest, vms, vus, n1, n2, sl1, sl0, Fr.slots F (fun b o q e => hk b o (fun z => by rw [z, og] at q; cases q) e) (fun o e => ⟨o.slots, hk _ _ (Ne.symm oL) e⟩), fun p hp => ⟨hk _ _ ?_ (N p hp).1, (N p hp).2⟩, a, b⟩
  simp only [List.mem_cons, List.not_mem_nil, or_false] at hp
  rcases hp with rfl | rfl | rfl | rfl
  · exact Ne.symm ou
  · exact Ne.symm om
  · exact Ne.symm p1
  · exact Ne.symm p0
theorem DSt.apart (D : DSt Pr g L le la lm lu L1 L0 o1 o0 i j ms us h) : L1 ≠ L ∧ L0 ≠ L ∧ lm ≠ L ∧ lu ≠ L := by
  obtain ⟨ti, tj, rest, vms, vus, n1, n2, sl1, sl0, F, N, a, b⟩ := D
  exact ⟨(N _ (.tail _ (.tail _ (.head _)))).2.1, (N _ (.tail _ (.tail _ (.tail _ (.head _))))).2.1, (N _ (.tail _ (.head _))).2.1, (N _ (.head _)).2.1⟩
theorem DSt.still (D : DSt Pr g L le la lm lu L1 L0 o1 o0 i j ms us h) (O : Off g L lm lu L1 L0 x) (hm1 : lm ≠ L1) (hm0 : lm ≠ L0) (hu1 : lu ≠ L1) (hu0 : lu ≠ L0) (hk : Still [L, L1, L0] [x] h h') : DSt Pr g L le la lm lu L1 L0 o1 o0 i j ms us h' := by
  have ap := D.apart
  obtain ⟨ti, tj, rest, vms, vus, n1, n2, sl1, sl0, F, N, a, b⟩ := D
  obtain ⟨og, oL, om, ou, p1, p0⟩ := O
  have off : ∀ {b : Addr} {o : Obj}, g.get? b = some o → b ∉ [L, L1, L0] := fun {b o} q hm => by
    simp only [List.mem_cons, List.not_mem_nil, or_false] at hm
    rcases hm with rfl | rfl | rfl
    · exact absurd (Nat.lt_of_lt_of_le (Heap.lt_size q) F.above) (Nat.lt_irrefl _)
    · rw [(N _ (.tail _ (.tail _ (.head _)))).2.2] at q; cases q
    · rw [(N _ (.tail _ (.tail _ (.tail _ (.head _))))).2.2] at q; cases q
  have n1' := N _ (.tail _ (.tail _ (.head _)))
  have n0' := N _ (.tail _ (.tail _ (.tail _ (.head _))))
  obtain ⟨s1, q1⟩ := hk.2 L1 _ (by simp) (by simp [Ne.symm p1]) n1'.1
  obtain ⟨s0, q0⟩ := hk.2 L0 _ (by simp) (by simp [Ne.symm p0]) n0'.1
  refine ⟨ti, tj, rest, vms, vus, n1, n2, s1, s0, Fr.slots F (fun b o q e => hk.1 b o (off q) (fun z => by rw [List.mem_singleton.mp z, og] at q; cases q) e) (fun o e => hk.2 L o (by simp) (by simp [Ne.symm oL]) e), fun p hp => ?_, a, b⟩
  simp only [List.mem_cons, List.not_mem_nil, or_false] at hp
  rcases hp with rfl | rfl | rfl | rfl
  · exact ⟨hk.1 _ _ (by simp [ap.2.2.2, hu1, hu0]) (by simp [Ne.symm ou]) (N _ (.head _)).1, (N _ (.head _)).2⟩
  · exact ⟨hk.1 _ _ (by simp [ap.2.2.1, hm1, hm0]) (by simp [Ne.symm om]) (N _ (.tail _ (.head _))).1, (N _ (.tail _ (.head _))).2⟩
  · exact ⟨q1, n1'.2⟩
  · exact ⟨q0, n0'.2⟩
end
section
variable {M : Model} {A : Around} {E : Value → Shared → Prop} {s : Shared} {env e1 e0 : Env} {Pr : (Str → Option Value) → Prop} {g : Heap} {L le la lm lu L1 L0 : Addr} {o1 o0 : Obj} {i j : Int} {ms us : List Int} {c fl : Value} {e : Addr}
/-- what the frames are -/
structure Frs (A : Around) (env e1 e0 : Env) (L L1 L0 lm lu : Addr) (o1 o0 : Obj) : Prop where
  fr : A.frames = some [env, e1, e0]
  fe : env.frame = some L
  f1 : e1.frame = some L1
  f0 : e0.frame = some L0
  ke : env.scope.kind ≠ .module
  k1 : e1.scope.kind ≠ .module
  k0 : e0.scope.kind ≠ .module
  d1 : ∀ vs, o1.data ≠ .fields vs
  d0 : ∀ vs, o0.data ≠ .fields vs
  m1 : lm ≠ L1
  m0 : lm ≠ L0
  u1 : lu ≠ L1
  u0 : lu ≠ L0
theorem DSt.funs (P : Frs A env e1 e0 L L1 L0 lm lu o1 o0) {h : Heap} (D : DSt Pr g L le la lm lu L1 L0 o1 o0 i j ms us h) : h.FunFrames g [env, e1, e0] := by
  obtain ⟨ti, tj, rest, vms, vus, n1, n2, sl1, sl0, F, N, a, b⟩ := D
  have n1' := N _ (.tail _ (.tail _ (.head _)))
  have n0' := N _ (.tail _ (.tail _ (.tail _ (.head _))))
  obtain ⟨o, es, ep, ho, hd, _⟩ := F.ns
  refine ⟨P.ke, ⟨L, o, P.fe, ?_, ho, fun vs q => by rw [hd] at q; cases q⟩, P.k1, ⟨L1, _, P.f1, n1'.2.2, n1'.1, P.d1⟩, P.k0, ⟨L0, _, P.f0, n0'.2.2, n0'.1, P.d0⟩, trivial⟩
  cases q : g.get? L with
  | none => rfl
  | some o => exact absurd (Nat.lt_of_lt_of_le (Heap.lt_size q) F.above) (Nat.lt_irrefl _)
theorem r_note {Q : Unit → Shared → Prop} (P : Frs A env e1 e0 L L1 L0 lm lu o1 o0) (R : RSt Pr g L le la lm lu L1 L0 o1 o0 i j ms us c e s.heap)
    (h : ∀ h', TSt Pr g L le la lm lu L1 L0 o1 o0 i j ms us c e (rawInt L) h' → Q () { s with heap := h' }) : wpAny M A (noteFrame (.ref e) env) Q E s := by
  obtain ⟨D, O, hx⟩ := R
  rcases hx with hx | ⟨tb, O', hx⟩
  · refine note_new P.fr (D.funs P) P.fe hx fun h' tb hs ht hx' => h h' ⟨?_, O, tb, D.off ht, hx'⟩
    refine D.still O P.m1 P.m0 P.u1 P.u0 ?_
    have z : [env, e1, e0].filterMap (·.frame) = [L, L1, L0] := by simp [List.filterMap_cons, P.fe, P.f1, P.f0]
    rw [z] at hs
    exact hs
  · exact note_same P.fe hx (h s.heap ⟨D, O, tb, O', hx⟩)
theorem t_flight {x : Option Addr} {Q : Unit → Shared → Prop} (R : TSt Pr g L le la lm lu L1 L0 o1 o0 i j ms us c e fl s.heap)
    (h : ∀ h', TSt Pr g L le la lm lu L1 L0 o1 o0 i j ms us c e (x.elim .none fun f => rawInt f) h' → Q () { s with heap := h' }) : wpAny M A (setFlight (.ref e) x) Q E s := by
  obtain ⟨D, O, tb, O', hx⟩ := R
  exact flight hx fun h' hk hx' => h h' ⟨D.but O' hk, O, tb, O', hx'⟩
theorem t_came (hf : env.frame = some L) (R : TSt Pr g L le la lm lu L1 L0 o1 o0 i j ms us c e fl s.heap)
    (h : ∀ h', TSt Pr g L le la lm lu L1 L0 o1 o0 i j ms us c e (rawInt L) h' → E (.ref e) { s with heap := h' }) : cameBackBy M A env E (.ref e) s := by
  obtain ⟨D, O, tb, O', hx⟩ := R
  exact came_back hf hx fun h' hk hx' => h h' ⟨D.but O' hk, O, tb, O', hx'⟩
theorem t_pass {α : Type} {what : String} {Q : α → Shared → Prop} (hf : env.frame = some L) (R : TSt Pr g L le la lm lu L1 L0 o1 o0 i j ms us c e fl s.heap)
    (h : ∀ h', TSt Pr g L le la lm lu L1 L0 o1 o0 i j ms us c e (rawInt L) h' → E (.ref e) { s with heap := h' }) : wpAny M A (PySem.passOn what (.ref e) env : Sem α) Q E s := by
  obtain ⟨D, O, tb, O', hx⟩ := R
  exact pass_on hf hx fun h' hk hx' => h h' ⟨D.but O' hk, O, tb, O', hx'⟩
theorem TSt.r {h : Heap} (R : TSt Pr g L le la lm lu L1 L0 o1 o0 i j ms us c e (rawInt L) h) : RSt Pr g L le la lm lu L1 L0 o1 o0 i j ms us c e h := ⟨R.1, R.2.1, .inr R.2.2⟩
theorem ER.mk' {s₀ : Shared} {Wd : Int → Int → List Int → List Int → Value → Prop} {h h' : Heap} {tk : Nat} (D : DSt Pr g L le la lm lu L1 L0 o1 o0 i j ms us h) (kp : ∀ b o, h.get? b = some o → h'.get? b = some o) (fr : h.get? e = none) (xn : XNew h' e c) (hW : Wd i j ms us c) :
    ER Pr g L le la lm lu L1 L0 o1 o0 s₀ Wd (.ref e) { s₀ with heap := h', toks := tk } := ⟨e, h', tk, i, j, ms, us, c, rfl, rfl, ⟨D.keep kp, D.off fr, .inl xn⟩, hW⟩
theorem ER.t {s₀ : Shared} {Wd : Int → Int → List Int → List Int → Value → Prop} {h : Heap} {tk : Nat} (R : TSt Pr g L le la lm lu L1 L0 o1 o0 i j ms us c e (rawInt L) h) (hW : Wd i j ms us c) :
    ER Pr g L le la lm lu L1 L0 o1 o0 s₀ Wd (.ref e) { s₀ with heap := h, toks := tk } := ⟨e, h, tk, i, j, ms, us, c, rfl, rfl, R.r, hW⟩
theorem TSt.opened {h : Heap} (R : TSt Pr g L le la lm lu L1 L0 o1 o0 i j ms us c e fl h) : ∃ (ti tj : Tok) (rest : Str → Option Value) (vms vus : List Value) (n1 n2 : Nat) (sl1 sl0 : Array (Option Value)) (oe otb : Obj) (vs ts : Array Value) (tb : Addr),
    Fr g L h (fm le la lm lu i j ti tj rest) ∧ News g L h [(e, oe), (tb, otb), (lu, W.listOf vus.toArray n2), (lm, W.listOf vms.toArray n1), (L1, { o1 with slots := sl1 }), (L0, { o0 with slots := sl0 })] ∧ IntsAre vms ms ∧ IntsAre vus us ∧
    oe.cls = .type "IndexError" ∧ oe.data = .fields vs ∧ vs[1]? = some (.ref tb) ∧ vs[2]? = some c ∧ otb.data = .fields ts ∧ ts[3]? = some fl ∧ tb ≠ e ∧ Off g L lm lu L1 L0 e ∧ Off g L lm lu L1 L0 tb ∧ Pr rest := by
  obtain ⟨⟨ti, tj, rest, vms, vus, n1, n2, sl1, sl0, F, N, a, b, pr⟩, O, tb, O', oe, vs, otb, ts, he, hc, hd, h1, h2, ht, htd, h3, hne⟩ := R
  refine ⟨ti, tj, rest, vms, vus, n1, n2, sl1, sl0, oe, otb, vs, ts, tb, F, ?_, a, b, hc, hd, h1, h2, htd, h3, hne, O, O', pr⟩
  intro p hp
  rcases List.mem_cons.mp hp with rfl | hp
  · exact ⟨he, O.2.1, O.1⟩
  · rcases List.mem_cons.mp hp with rfl | hp
    · exact ⟨ht, O'.2.1, O'.1⟩
    · exact N p hp
theorem TSt.shut {h : Heap} {m : Str → Option Value} {ti tj : Tok} {vms vus : List Value} {n1 n2 : Nat} {sl1 sl0 : Array (Option Value)} {oe otb : Obj} {vs ts : Array Value} {tb : Addr} (F : Fr g L h m)
    (N : News g L h [(e, oe), (tb, otb), (lu, W.listOf vus.toArray n2), (lm, W.listOf vms.toArray n1), (L1, { o1 with slots := sl1 }), (L0, { o0 with slots := sl0 })]) (a : IntsAre vms ms) (b : IntsAre vus us)
    (hc : oe.cls = .type "IndexError") (hd : oe.data = .fields vs) (h1 : vs[1]? = some (.ref tb)) (h2 : vs[2]? = some c) (htd : otb.data = .fields ts) (h3 : ts[3]? = some fl) (hne : tb ≠ e) (O : Off g L lm lu L1 L0 e) (O' : Off g L lm lu L1 L0 tb) (pr : Pr m)
    (x1 : m (Str.ofString "i") = some (.int i ti)) (x2 : m (Str.ofString "j") = some (.int j tj)) (x3 : m (Str.ofString "missing") = some (.ref lm))
    (x4 : m (Str.ofString "unexpected") = some (.ref lu)) (x5 : m (Str.ofString "expected") = some (.ref le)) (x6 : m (Str.ofString "actual") = some (.ref la)) : TSt Pr g L le la lm lu L1 L0 o1 o0 i j ms us c e fl h :=
  ⟨dst_of F (fun p hp => N p (.tail _ (.tail _ hp))) a b pr x1 x2 x3 x4 x5 x6, O, tb, O', oe, vs, otb, ts, (N _ (.head _)).1, hc, hd, h1, h2, (N _ (.tail _ (.head _))).1, htd, h3, hne⟩
/-- a raised state passes a loop of its own -/
theorem r_own {s₀ : Shared} {Wd : Int → Int → List Int → List Int → Value → Prop} {A' : Around} (P : Frs A' env e1 e0 L L1 L0 lm lu o1 o0) {v : Value} (h : ER Pr g L le la lm lu L1 L0 o1 o0 s₀ Wd v s)
    (hE : ∀ v s', ER Pr g L le la lm lu L1 L0 o1 o0 s₀ Wd v s' → E v s') : notedBy M A' env (cameBackBy M A env E) v s := by
  obtain ⟨e, h', tk, i, j, ms, us, c, rfl, rfl, R, hW⟩ := h
  refine r_note P R fun h₁ T₁ => t_came P.fe T₁ fun h₂ T₂ => hE _ _ ⟨e, h₂, tk, i, j, ms, us, c, rfl, rfl, T₂.r, hW⟩
end
end Mine
end

section
open PySem PySem.W PyProof.Rows PySem.Calls PySem.Spec
set_option Elab.async false
set_option maxRecDepth 100000
namespace Mine
theorem sub_ie_base : isSubtype (.type "IndexError") (.type "BaseException") = pure true := by rw [isSubtype_type]; kernel_rfl
theorem sub_ie_ie : isSubtype (.type "IndexError") (.type "IndexError") = pure true := by rw [isSubtype_type]; kernel_rfl
theorem sub_ie_tuple : isSubtype (.type ((Manifest.find? "IndexError").elim "type" fun x => x.metatype)) (.type "tuple") = pure false := by
  first
    | (rw [isSubtype_type]; kernel_rfl)
    | kernel_rfl
section
variable {prog : Program} {w : World} {A : Around} {E : Value → Shared → Prop} {s : Shared} {env e1 e0 : Env} {Pr : (Str → Option Value) → Prop} {g : Heap} {L le la lm lu L1 L0 : Addr} {o1 o0 : Obj} {i j : Int} {ms us : List Int} {c fl : Value} {e : Addr}
theorem handle_ie {t : Expr} {b₀ : Stmt} {suite : List Stmt} {pos : Pos} {rest : List ExceptHandler} {Q : Flow → Shared → Prop} (R : TSt Pr g L le la lm lu L1 L0 o1 o0 i j ms us c e fl s.heap)
    (hname : ∀ (Q' : Value → Shared → Prop) (Ex : Value → Shared → Prop), Q' (.type "IndexError") s → wpAny (model prog w) (A.mark (some (.ref e))) (eval t env) Q' Ex s)
    (k : ∀ h', DSt Pr g L le la lm lu L1 L0 o1 o0 i j ms us h' → wpAny (model prog w) (A.mark (some (.ref e))) (execs (b₀ :: suite) env) Q (fun _ _ => False) { s with heap := h' }) :
    wpAny (model prog w) A (handleBy (.ref e) env (.ExceptHandler (some t) none (b₀ :: suite) pos :: rest)) Q E s := by
  refine wpAny_handleBy_builtin (X := "IndexError") (T := "IndexError") (b := true) sub_ie_base sub_ie_tuple sub_ie_ie (hname _ _ ⟨rfl, ?_, ?_⟩)
  · obtain ⟨_, _, tb, _, oe, vs, _, _, he, hc, _⟩ := R
    exact ⟨_, he, hc⟩
  · rw [if_pos rfl]
    exact t_flight R fun h' T' => wpAny_noRaise (k h' T'.1)
end
end Mine
end

section
open PySem PySem.W PyProof.Rows PySem.Calls PySem.Spec
set_option Elab.async false
set_option maxRecDepth 100000
namespace Mine
theorem not_long {b : Bool} {n : Nat} (h : n ≤ 1000) : ¬ (b && Builtin.List.listTooLong n) = true := by
  have : Builtin.List.listTooLong n = false := by
    unfold Builtin.List.listTooLong
    rw [sizeLine_eq]
    simp
    omega
  rw [this]; simp
theorem len_le {xs ys : List Value} {ms zs : List Int} {k : Nat} (h1 : IntsAre xs ms) (h2 : IntsAre ys zs) (h : ms.length + zs.length ≤ k) : xs.length + ys.length ≤ k := by rw [h1.length, h2.length]; exact h
theorem IntsAre.app {xs ys : List Value} {ms zs : List Int} (h1 : IntsAre xs ms) (h2 : IntsAre ys zs) : IntsAre (xs ++ ys) (ms ++ zs) := by
  induction h1 with
  | nil => exact h2
  | cons n t r ih => exact .cons n t ih
section
variable {prog : Program} {w : World} {A : Around} {E : Value → Shared → Prop} {s : Shared} {h₀ : Heap} {L D b : Addr} {m : Str → Option Value} {news : List (Addr × Obj)} {n n2 : Nat} {xs ys : List Value}
theorem ext_any {Q : Value → Shared → Prop} {news' : Nat → List (Addr × Obj)} (F : Fr h₀ L s.heap m) (N : News h₀ L s.heap news) (hb : (b, W.listOf ys.toArray n2) ∈ news)
    (U : ∀ n', Upd D (W.listOf xs.toArray n) (W.listOf (xs ++ ys).toArray n') news (news' n')) (hz : xs.length + ys.length ≤ 1000)
    (h : ∀ h' n', Fr h₀ L h' m → News h₀ L h' (news' n') → Q .none { s with heap := h' }) : wpAny (model prog w) A (call (.builtin "list.extend") [.ref D, .ref b]) Q E s := by
  by_cases hy : ys = []
  · subst hy
    refine kxn_extend (its := xs.toArray) (n := n) (n2 := n2) F N hb (by simp) (by simpa using U n) (not_long (by simp; omega)) (by rw [sizeLine_eq]; simp; omega) (by rw [sizeLine_eq]; simp; omega) fun h' F' N' => h h' n F' N'
  · refine kl_extend (its := xs.toArray) (its2 := ys.toArray) (n := n) (n2 := n2) F N hb (by simp) (by simpa using hy) (U (n + 1)) (not_long (by simp; omega)) (by rw [sizeLine_eq]; simp; omega) (by rw [sizeLine_eq]; simp; omega) fun h' F' N' => h h' (n + 1) F' N'
theorem app_one {Q : Value → Shared → Prop} {news' : List (Addr × Obj)} {v : Value} (F : Fr h₀ L s.heap m) (N : News h₀ L s.heap news)
    (U : Upd D (W.listOf xs.toArray n) (W.listOf (xs ++ [v]).toArray (n + 1)) news news') (hz : xs.length ≤ 1000)
    (h : ∀ h', Fr h₀ L h' m → News h₀ L h' news' → Q .none { s with heap := h' }) : wpAny (model prog w) A (call (.builtin "list.append") [.ref D, v]) Q E s := by
  rw [← List.push_toArray] at U
  exact append_K F N U h (by rw [sizeLine_eq]; simp; omega)
end
end Mine
end

section
open PySem PySem.W PyProof.Rows PySem.Calls PySem.Spec
set_option Elab.async false
set_option maxRecDepth 100000
set_option maxHeartbeats 8000000
set_option linter.unusedVariables false
namespace Mine
theorem c_diff {w : World} {mean : ExcName → Option Value} {mg mb : Str → Option Value} {e0 : Env} {cn : Str} {cs : Scope} {a : Addr} {ccd : Value} {cl : List (Str × Addr)} {base : Heap} {L1 L0 : Addr} {o1 o0 : Obj} {s : Shared} {Q E : Value → Shared → Prop}
    {le la : Addr} {vs us : List Value} {es as : List Int}
    (hb : base.StaysIn s.heap) (X : (hd.heap_39 w.params).In base) (T : Top hd.view_39 (looseW hd.view_39 [Str.ofString "b2a_base64", Str.ofString "b64encode"]) mean mg mb base) (hk : cs.kind = .function)
    (hf0 : e0.frame = some L0) (hk0 : e0.scope.kind = .function) (hL0 : s.heap.get? L0 = some o0 ∧ base.get? L0 = none) (hL1 : s.heap.get? L1 = some o1 ∧ base.get? L1 = none) (hd0 : ∃ x y, o0.data = .dict x y) (hd1 : ∃ x y, o1.data = .dict x y)
    (hle : s.heap.IsList le vs.toArray) (hvs : IntsAre vs es) (hla : s.heap.IsList la us.toArray) (hus : IntsAre us as) (hes : es.length ≤ 23) (has : as.length ≤ 23) (re : Rises es) (ra : Rises as)
    (hret : ∀ (r lm lu : Addr) (n1 n2 n3 : Nat) (ms zs : List Value) (h' : Heap) (tk' : Nat) (sl1 sl0 : Array (Option Value)), (∀ b o, b ≠ L1 → b ≠ L0 → s.heap.get? b = some o → h'.get? b = some o) →
      h'.get? L1 = some { o1 with slots := sl1 } → h'.get? L0 = some { o0 with slots := sl0 } → s.heap.get? r = none → s.heap.get? lm = none → s.heap.get? lu = none → lm < lu → lu < r →
      h'.get? r = some { cls := .type "tuple", data := .seq #[.ref lm, .ref lu] n3 } → h'.get? lm = some (W.listOf ms.toArray n1) → h'.get? lu = some (W.listOf zs.toArray n2) →
      IntsAre ms (diffF es as).1 → IntsAre zs (diffF es as).2 → Q (.ref r) { s with heap := h', toks := tk' }) :
    wpAny (model Challenge.rw_oc0023_01.row.prog w) ((callerA.deeper e0).deeper (envX cn cs L1 a ccd cl)) (call (.ref 93) [.ref le, .ref la]) Q E s := by
  w_top off
  k_with_none
  k_with "own:exec While Constant cons nil" => (k_here; refine wpStop ?_)
  k_with "own:exec While Compare cons nil" => (k_here; refine wpStop ?_)
  k_with "own:exec Try cons cons nil nil" => (k_here; refine wpStop ?_)
  k_with "own:exec Try cons nil nil cons" => (k_here; refine wpStop ?_)
  k_with "own:call builtin:list.extend" => (k_here; (with_reducible show wpAny _ _ (call (Value.builtin _) [Value.ref _, Value.ref _]) _ _ _); k_dflt (apply ext_any; (case F => k_asm); (case N => k_asm); (case hb => k_mem); (case U => (intro n'; k_upd)); (case hz => (refine len_le (by assumption) (by assumption) ?_; omega)); k_whole); intro _ _ _ N'; (try dsimp only at N'))
  k_with "own:call builtin:list.append" => (k_here; (with_reducible show wpAny _ _ (call (Value.builtin _) [Value.ref _, _]) _ _ _); k_dflt (apply app_one; (case F => k_asm); (case N => k_asm); (case U => k_upd); (case hz => (refine Nat.le_of_eq_of_le (IntsAre.length (by assumption)) ?_; omega)); k_whole); intro _ _ _)
  k_with "own:subscriptTail Name Name ref int" => (k_here; k_dflt (first  | (apply sub_in; (case hl => is_list); (case hi => assumption); (case h0 => omega); (case hhi => omega); (case hx => assumption); (case hs => with_unfolding_all rfl); k_whole; intro _)  | (apply sub_out0; (case hA => rfl); (case hl => is_list); (case hi => assumption); (case h0 => omega); (case hhi => omega); (case hs => with_unfolding_all rfl); k_whole; intro _ _ _ _ _ _)  | (apply sub_out1; (case hA => rfl); (case hx => exact ⟨_, _, News.get (by k_asm) (.head _), by assumption, by assumption⟩); (case hl => is_list); (case hi => assumption); (case h0 => omega); (case hhi => omega); (case hs => with_unfolding_all rfl); k_whole; intro _ _ _ _ _ _)))
  revert X; k_fill; intro X
  obtain ⟨hp, gens, drawn, toks, os⟩ := s
  dsimp only at *
  refine wpAny_call ?_
  k_dflt (refine' callHid (fs := [(L1, o1), (L0, o0)]) ?k1 ?k2 ?k3 ?k5 ?k6 ?k7 ?k8 ?k9 ?kB ?_ ?c5 ?c2 ?c3 ?c4; (case k1 => exact hb); (case k2 => exact X); (case k3 => exact T); (case k5 => (intro p hp; simp only [List.mem_cons, List.not_mem_nil, or_false] at hp; rcases hp with rfl | rfl; exact hL1; exact hL0)); (case k6 => k_is); (case k7 => k_is); (case k8 => ktr_room); (case k9 => exact BindsTo.of_eq rfl); (case c5 => decide); (case kB => exact locs rfl); (case c2 => exact rfl); (case c3 => exact rfl); (case c4 => exact rfl); k_whole)
  intro g' L' h' Hg' st' lt' F' N' X' T'
  have keepg : ∀ b o, b ≠ L1 → b ≠ L0 → hp.get? b = some o → g'.get? b = some o := by
    intro b o h1 h0 e
    rw [Hg']
    exact hideAll_get _ e (by simp [h1, h0])
  have ne_fr : ∀ {l : Addr} {arr : Array Value}, hp.IsList l arr → l ≠ L1 ∧ l ≠ L0 := by
    intro l arr hl
    obtain ⟨o, ho, _, n, hdat⟩ := hl
    refine ⟨?_, ?_⟩
    · rintro rfl
      obtain ⟨x, y, z⟩ := hd1
      rw [hL1.1] at ho; cases ho; rw [z] at hdat; cases hdat
    · rintro rfl
      obtain ⟨x, y, z⟩ := hd0
      rw [hL0.1] at ho; cases ho; rw [z] at hdat; cases hdat
  have hle' : g'.IsList le vs.toArray := by
    obtain ⟨n1, n2⟩ := ne_fr hle
    obtain ⟨o, ho, r⟩ := hle
    exact ⟨o, keepg _ _ n1 n2 ho, r⟩
  have hla' : g'.IsList la us.toArray := by
    obtain ⟨n1, n2⟩ := ne_fr hla
    obtain ⟨o, ho, r⟩ := hla
    exact ⟨o, keepg _ _ n1 n2 ho, r⟩
  clear ne_fr
  have ofg : ∀ b, g'.get? b = none → b ≠ L1 → b ≠ L0 → hp.get? b = none := by
    intro b e h1 h0
    cases q : hp.get? b with
    | none => rfl
    | some o => rw [keepg b o h1 h0 q] at e; cases e
  have hlt1 : L1 < L' := lt' _ (.head _)
  have hlt0 : L0 < L' := lt' _ (.tail _ (.head _))
  clear Hg' hle hla hL0 hL1 hb X T
  dsimp only
  (try k_fold)
  k_steps
  rename_i h1 h2 lm h3 l1a h4 tk1 lu h5 l1b h6 F₂ N₂
  refine Stop.intro (wpAny_noRaise ?_)
  have nd1 : ∀ vs, o1.data ≠ .fields vs := by
    intro vs q
    obtain ⟨x, y, z⟩ := hd1
    rw [z] at q; cases q
  have nd0 : ∀ vs, o0.data ≠ .fields vs := by
    intro vs q
    obtain ⟨x, y, z⟩ := hd0
    rw [z] at q; cases q
  have P : ∀ (sc : Scope) (hd : Option Value), sc.kind = .function → Frs ((((callerA.deeper e0).deeper (envX cn cs L1 a ccd cl)).deeper (envOf (Str.ofString "sorted_list_difference") sc L' 93 (Value.ref 92))).mark hd) (envOf (Str.ofString "sorted_list_difference") sc L' 93 (Value.ref 92)) (envX cn cs L1 a ccd cl) e0 L' L1 L0 lm lu o1 o0 := by
    intro sc hd hsc
    exact ⟨rfl, rfl, rfl, hf0, (by show sc.kind ≠ .module; rw [hsc]; decide), (by show cs.kind ≠ .module; rw [hk]; decide), (by rw [hk0]; decide), nd1, nd0, (by refine neN ?_; omega), (by refine neN ?_; omega), (by refine neN ?_; omega), (by refine neN ?_; omega)⟩
  have P0 : ∀ (sc : Scope), sc.kind = .function → Frs (((callerA.deeper e0).deeper (envX cn cs L1 a ccd cl)).deeper (envOf (Str.ofString "sorted_list_difference") sc L' 93 (Value.ref 92))) (envOf (Str.ofString "sorted_list_difference") sc L' 93 (Value.ref 92)) (envX cn cs L1 a ccd cl) e0 L' L1 L0 lm lu o1 o0 := by
    intro sc hsc
    exact ⟨rfl, rfl, rfl, hf0, (by show sc.kind ≠ .module; rw [hsc]; decide), (by show cs.kind ≠ .module; rw [hk]; decide), (by rw [hk0]; decide), nd1, nd0, (by refine neN ?_; omega), (by refine neN ?_; omega), (by refine neN ?_; omega), (by refine neN ?_; omega)⟩
  refine' While_inv2 (n₀ := es.length + as.length) (fun n m₁ news₁ => ∃ (i j : Int) (ti tj : Tok) (rest : Str → Option Value) (ms zs : List Int) (vms vzs : List Value) (n1 n2 : Nat) (sl1 sl0 : Array (Option Value)), m₁ = fm le la lm lu i j ti tj rest ∧
    news₁ = [(lu, W.listOf vzs.toArray n2), (lm, W.listOf vms.toArray n1), (L1, { o1 with slots := sl1 }), (L0, { o0 with slots := sl0 })] ∧ IntsAre vms ms ∧ IntsAre vzs zs ∧ 0 ≤ i ∧ i ≤ es.length ∧ 0 ≤ j ∧ j ≤ as.length ∧
    Due es as i j ms zs ∧ (ms.length : Int) ≤ i ∧ (zs.length : Int) ≤ j ∧ (n : Int) = (es.length - i) + (as.length - j)) F₂ N₂ ?start ?turn PassesOwn.never
  case start =>
    refine ⟨0, 0, _, _, _, [], [], [], [], 0, 0, o1.slots, o0.slots, fm_of rfl rfl rfl rfl rfl rfl, rfl, .nil, .nil, by omega, by omega, by omega, by omega, Due.start, by decide, by decide, ?_⟩
    show ((es.length + as.length : Nat) : Int) = (es.length - 0) + (as.length - 0)
    omega
  case turn =>
    clear F₂ N₂
    rintro n m₁ news₁ h₁ tk₁ F₁ N₁ ⟨i, j, ti, tj, rest, ms, zs, vms, vzs, n1, n2, sl1, sl0, rfl, rfl, hvm, hvz, hi0, hi1, hj0, hj1, hD, hml, hzl, hn⟩
    k_steps
    refine Stop.intro (try_er (ER := ER (fun _ => True) g' L' le la lm lu L1 L0 o1 o0 ⟨hp, gens, drawn, toks, os⟩ (fun i j ms zs c => Fin' es as i j ms zs ∧ 0 ≤ i ∧ i ≤ es.length ∧ 0 ≤ j ∧ j ≤ as.length ∧ (ms.length : Int) ≤ i ∧ (zs.length : Int) ≤ j)) ?body ?handler)
    case handler =>
      clear F₁ N₁ hvm hvz hi0 hi1 hj0 hj1 hD hml hzl hn
      clear ti tj rest ms zs vms vzs n1 n2 sl1 sl0 i j
      rintro v s₁ ⟨e, h₂, tk₂, i, j, ms, zs, c, rfl, rfl, R, hF, hi0, hi1, hj0, hj1, hml, hzl⟩
      refine r_note (P0 _ rfl) R fun h₃ T₃ => t_flight T₃ fun h₄ T₄ => handle_ie T₄ ?hn ?hk
      case hn =>
        intro Q' Ex hq
        obtain ⟨⟨ti, tj, rest, vms, vus, n1, n2, sl1, sl0, F₅, N₅, a5, b5, _⟩, _⟩ := T₄
        dsimp only
        k_steps
        exact hq
      case hk =>
        rintro h₅ ⟨ti, tj, rest, vms, vus, n1, n2, sl1, sl0, F₅, N₅, a5, b5, _⟩
        clear T₄ R
        k_steps
        dsimp only [WhileStep2]
        k_steps
        rename_i tkA DA wsA ha' hIA hCA hLA l1A hA nA tkB DB wsB hb' hIB hCB hLB l1B hB nB r h6' F6 N6 l1c
        have q1 := N6 _ (.head _)
        have qu := N6 _ (.tail _ (.tail _ (.tail _ (.head _))))
        have qm := N6 _ (.tail _ (.tail _ (.tail _ (.tail _ (.head _)))))
        have qL1 := N6 _ (.tail _ (.tail _ (.tail _ (.tail _ (.tail _ (.head _))))))
        have qL0 := N6 _ (.tail _ (.tail _ (.tail _ (.tail _ (.tail _ (.tail _ (.head _)))))))
        have hF1 := congrArg Prod.fst hF
        have hF2 := congrArg Prod.snd hF
        refine hret r lm lu _ _ 0 _ _ h6' _ sl1 sl0 (fun b o h1 h0 e => F6.keep _ _ (keepg b o h1 h0 e)) qL1.1 qL0.1 (ofg r q1.2.2 (by refine neN ?_; omega) (by refine neN ?_; omega)) (ofg lm qm.2.2 (by refine neN ?_; omega) (by refine neN ?_; omega)) (ofg lu qu.2.2 (by refine neN ?_; omega) (by refine neN ?_; omega)) (by refine ltN ?_; omega) (by refine ltN ?_; omega) q1.1 qm.1 qu.1 ?_ ?_
        · rw [← hF1]; exact IntsAre.app a5 hIA
        · rw [← hF2]; exact IntsAre.app b5 hIB
    case body =>
      rcases at_or (es := es) hi0 with ⟨e, he⟩ | hout
      · rcases at_or (es := as) hj0 with ⟨x, hx⟩ | hout
        · have hilt : i < es.length := by obtain ⟨z, _⟩ := List.getElem?_eq_some_iff.mp he; omega
          have hjlt : j < as.length := by obtain ⟨z, _⟩ := List.getElem?_eq_some_iff.mp hx; omega
          rcases Int.lt_trichotomy e x with hlt | rfl | hgt
          · k_steps
            (rename News _ _ _ _ => N₇)
            rw [List.push_toArray] at N₇
            refine Stop.intro (while_once ?turX (fun e s' h => r_own (P0 _ rfl) h (fun v s' x => x)))
            case turX =>
              rcases at_or (es := es) (i := i + 1) (by omega) with ⟨e', he'⟩ | hout
              · have hne := re.next hi0 he he'
                k_steps
                refine Stop.intro ⟨decide_eq_false (by omega), ?_⟩
                dsimp only
                k_steps
                exact ⟨_, _, _, _, n - 1, rfl, (by k_asm), N₇, (by omega), i + 1, j, _, _, _, ms ++ [e], zs, _, _, _, _, _, _, fm_of rfl rfl rfl rfl rfl rfl, rfl, IntsAre.app hvm (.cons _ _ .nil), hvz, (by omega), (by omega), (by omega), (by omega), hD.lt hi0 hj0 he hx hlt, (by simp; omega), (by omega), (by omega)⟩
              · k_steps
                refine ER.mk' (dst_of (by k_asm) (by k_asm) (IntsAre.app hvm (.cons _ _ .nil)) hvz trivial rfl rfl rfl rfl rfl rfl) (by assumption) (by assumption) (by assumption) ⟨(hD.lt hi0 hj0 he hx hlt).left hout, by omega, by omega, by omega, by omega, by simp; omega, by omega⟩
          · k_steps
            refine Stop.intro (try_fin (ER := ER (fun rest => ∃ t, rest (Str.ofString "a") = some (.int e t)) g' L' le la lm lu L1 L0 o1 o0 ⟨hp, gens, drawn, toks, os⟩ (fun i' j' ms' zs' c => i' = i + 1 ∧ j' = j ∧ ms' = ms ∧ zs' = zs ∧ c = .none ∧ (es.length : Int) ≤ i + 1)) ?bodX ?hanX)
            case bodX =>
              k_steps
              refine Stop.intro (while_once ?turX (fun e s' h => r_own (P0 _ rfl) h (fun v s' x => x)))
              case turX =>
                rcases at_or (es := es) (i := i + 1) (by omega) with ⟨e', he'⟩ | hout
                · have hne := re.next hi0 he he'
                  k_steps
                  refine Stop.intro ⟨decide_eq_false (by omega), ?_⟩
                  dsimp only
                  k_steps
                  refine Stop.intro ⟨rfl, ?_⟩
                  k_steps
                  refine Stop.intro (while_once ?turX (fun e s' h => r_own (P0 _ rfl) h (fun v s' x => r_own (P0 _ rfl) x (fun _ _ y => y))))
                  case turX =>
                    rcases at_or (es := as) (i := j + 1) (by omega) with ⟨x', hx'⟩ | hout
                    · have hne := ra.next hj0 hx hx'
                      k_steps
                      refine Stop.intro ⟨decide_eq_false (by omega), ?_⟩
                      dsimp only
                      k_steps
                      exact ⟨_, _, _, _, n - 2, rfl, (by k_asm), (by k_asm), (by omega), i + 1, j + 1, _, _, _, ms, zs, _, _, _, _, _, _, fm_of rfl rfl rfl rfl rfl rfl, rfl, hvm, hvz, (by omega), (by omega), (by omega), (by omega), hD.eq hi0 hj0 he hx, (by omega), (by omega), (by omega)⟩
                    · k_steps
                      exact ER.mk' (dst_of (by k_asm) (by k_asm) hvm hvz trivial rfl rfl rfl rfl rfl rfl) (by assumption) (by assumption) (by assumption) ⟨(hD.eq hi0 hj0 he hx).right hout, by omega, by omega, by omega, by omega, by omega, by omega⟩
                · k_steps
                  exact ER.mk' (dst_of (by k_asm) (by k_asm) hvm hvz ⟨_, rfl⟩ rfl rfl rfl rfl rfl rfl) (by assumption) (by assumption) (by assumption) ⟨rfl, rfl, rfl, rfl, rfl, hout⟩
            case hanX =>
              clear hvm hvz
              rintro v s₁ ⟨e₂, h₂, tk₂, i', j', ms', zs', c, rfl, rfl, R, rfl, rfl, rfl, rfl, rfl, hout⟩
              refine r_note (P0 _ rfl) R fun h₃ T₃ => ⟨(by intro q; cases q), r_note (P0 _ rfl) T₃.r fun h₄ T₄ => t_flight T₄ fun h₅ T₅ => ?_⟩
              obtain ⟨ti5, tj5, rest5, vms5, vus5, n15, n25, sl15, sl05, oe, otb, ev, ts, tb, F₅, N₅, hvm, hvz, hc5, hd5, h15, h25, htd5, h35, hne5, O5, O5', ⟨ta5, hra⟩⟩ := T₅.opened
              rw [fm_with hra] at F₅
              clear T₅ T₄ T₃ R
              have on : e₂ ≠ lm ∧ e₂ ≠ lu ∧ e₂ ≠ L1 ∧ e₂ ≠ L0 ∧ tb ≠ lm ∧ tb ≠ lu ∧ tb ≠ L1 ∧ tb ≠ L0 := ⟨O5.2.2.1, O5.2.2.2.1, O5.2.2.2.2.1, O5.2.2.2.2.2, O5'.2.2.1, O5'.2.2.2.1, O5'.2.2.2.2.1, O5'.2.2.2.2.2⟩
              dsimp only
              k_steps
              refine Stop.intro (while_once ?turX (fun e s' h => r_own (P _ (some _) rfl) h (fun v s' x => r_own (P _ (some _) rfl) x (fun _ _ y => y))))
              case turX =>
                rcases at_or (es := as) (i := j' + 1) (by omega) with ⟨x', hx'⟩ | hout'
                · have hne := ra.next hj0 hx hx'
                  k_steps
                  refine Stop.intro ⟨decide_eq_false (by omega), ?_⟩
                  dsimp only
                  k_steps
                  dsimp only
                  exact t_pass (P0 _ rfl).fe (TSt.shut (Pr := fun _ => True) (by k_asm) (by k_asm) hvm hvz hc5 hd5 h15 h25 htd5 h35 hne5 O5 O5' trivial rfl rfl rfl rfl rfl rfl) fun h' T' => ER.t T' ⟨(hD.eq hi0 hj0 he hx).left hout, by omega, by omega, by omega, by omega, by omega, by omega⟩
                · k_steps
                  (rename News _ _ _ _ => N₈)
                  exact ER.mk' (dst_of (by k_asm) (fun p hp => N₈ p (.tail _ (.tail _ hp))) hvm hvz trivial rfl rfl rfl rfl rfl rfl) (by assumption) (by assumption) (by assumption) ⟨(hD.eq hi0 hj0 he hx).right hout', by omega, by omega, by omega, by omega, by omega, by omega⟩
          · k_steps
            (rename News _ _ _ _ => N₇)
            rw [List.push_toArray] at N₇
            refine Stop.intro (while_once ?turX (fun e s' h => r_own (P0 _ rfl) h (fun v s' x => x)))
            case turX =>
              rcases at_or (es := as) (i := j + 1) (by omega) with ⟨x', hx'⟩ | hout
              · have hne := ra.next hj0 hx hx'
                k_steps
                refine Stop.intro ⟨decide_eq_false (by omega), ?_⟩
                dsimp only
                k_steps
                exact ⟨_, _, _, _, n - 1, rfl, (by k_asm), N₇, (by omega), i, j + 1, _, _, _, ms, zs ++ [x], _, _, _, _, _, _, fm_of rfl rfl rfl rfl rfl rfl, rfl, hvm, IntsAre.app hvz (.cons _ _ .nil), (by omega), (by omega), (by omega), (by omega), hD.gt hi0 hj0 he hx hgt, (by omega), (by simp; omega), (by omega)⟩
              · k_steps
                refine ER.mk' (dst_of (by k_asm) (by k_asm) hvm (IntsAre.app hvz (.cons _ _ .nil)) trivial rfl rfl rfl rfl rfl rfl) (by assumption) (by assumption) (by assumption) ⟨(hD.gt hi0 hj0 he hx hgt).right hout, by omega, by omega, by omega, by omega, by omega, by simp; omega⟩
        · k_steps
          refine ER.mk' (dst_of (by k_asm) (by k_asm) hvm hvz trivial rfl rfl rfl rfl rfl rfl) (by assumption) (by assumption) (by assumption) ⟨hD.right hout, by omega, by omega, by omega, by omega, by omega, by omega⟩
      · k_steps
        refine ER.mk' (dst_of (by k_asm) (by k_asm) hvm hvz trivial rfl rfl rfl rfl rfl rfl) (by assumption) (by assumption) (by assumption) ⟨hD.left hout, by omega, by omega, by omega, by omega, by omega, by omega⟩
end Mine
end

section
open PySem PySem.W PyProof.Rows PySem.Calls PySem.Spec
set_option Elab.async false
set_option maxRecDepth 100000
namespace Mine
section
variable {prog : Program} {w : World} {A : Around} {E : Value → Shared → Prop} {s : Shared} {env : Env} {g : Heap} {L : Addr} {m : Str → Option Value} {news : List (Addr × Obj)}
theorem IntsAre.of_at {vs : List Value} {ns : List Int} (h : IntsAre vs ns) : ∀ {i : Nat} {v : Value}, vs[i]? = some v → ∃ n t, ns[i]? = some n ∧ v = Value.int n t := by
  induction h with
  | nil => intro i v e; simp at e
  | cons n t r ih =>
    intro i v e
    cases i with
    | zero => simp only [List.getElem?_cons_zero, Option.some.injEq] at e; subst e; exact ⟨n, t, rfl, rfl⟩
    | succ i => exact ih (by simpa using e)
/-- what a turn must bring -/
def TurnEnd (g : Heap) (L : Addr) (s : Shared) (It : Addr) (oi : Obj) (J : (Str → Option Value) → List (Addr × Obj) → Prop) (f : Flow) (s₃ : Shared) : Prop :=
  f = .next ∧ ∃ h' tk' m₂ news₂, s₃ = { s with heap := h', toks := tk' } ∧ Fr g L h' m₂ ∧ News g L h' ((It, oi) :: news₂) ∧ (∀ p ∈ news₂, p.1 ≠ It) ∧ J m₂ news₂
/-- a for over a list of the ground, by an invariant over map and ledger; the ledger's addresses may turn -/
theorem for_own {target iter : Expr} {body : List Stmt} {pos : Pos} {Q : Flow → Shared → Prop} {lw : Addr} {us : List Value} {ws : List Int} (J : Nat → (Str → Option Value) → List (Addr × Obj) → Prop)
    (hh : A.handled = none) (hiter : ∀ (Q' : Value → Shared → Prop) (E' : Value → Shared → Prop), Q' (.ref lw) s → wpAny (model prog w) A (eval iter env) Q' E' s)
    (hl : g.IsList lw us.toArray) (hi : IntsAre us ws) (F : Fr g L s.heap m) (N : News g L s.heap news) (hJ : J 0 m news)
    (turn : ∀ i n t m₁ news₁ h tk It oi, ws[i]? = some n → J i m₁ news₁ → Fr g L h m₁ → News g L h ((It, oi) :: news₁) → (∀ p ∈ news₁, p.1 ≠ It) → (∀ p ∈ news, p.1 < It) →
      wpAny (model prog w) A (assign target env (.int n t)) (fun _ s₂ => wpAny (model prog w) A (execs body env) (TurnEnd g L s It oi (J (i + 1))) (fun _ _ => False) s₂) (fun _ _ => False) { s with heap := h, toks := tk })
    (done : ∀ m₁ news₁ h tk, J ws.length m₁ news₁ → Fr g L h m₁ → News g L h news₁ → Q .next { s with heap := h, toks := tk })
    (ht : ∀ it v, letOwnedTupleGo target it v = pure () := by intro _ _; rfl) (hs : ∀ x, foldedSetIterable iter env x = pure x := by intro _; rfl) :
    wpAny (model prog w) A (exec (.For target iter body [] pos) env) Q E s := by
  have hls : s.heap.IsList lw us.toArray := hl.at fun o e => F.keep lw o e
  have hlt : lw < s.heap.objs.size := by obtain ⟨_, e, _⟩ := hls; exact Heap.lt_size e
  have hne : lw ≠ s.heap.objs.size := Nat.ne_of_lt hlt
  have W := Walks.list (prog := prog) (w := w) hh s.heap.objs.size lw hne us.toArray
  have hlen : us.toArray.size = ws.length := by simp [hi.length]
  refine wpAny_For (hiter _ _ (wpAny_pyIter_list hls ?_)) hs
  refine codeAny_forLoop (fun n s' => ∃ i m₁ news₁ h tk oi, n = ws.length - i ∧ i ≤ ws.length ∧ s' = { s with heap := h, toks := tk } ∧ Fr g L h m₁ ∧ News g L h ((s.heap.objs.size, oi) :: news₁) ∧
    oi.cls = .type "list_iterator" ∧ oi.data = .fields #[.ref lw, .int (i : Nat) 0] ∧ (∀ p ∈ news₁, p.1 ≠ s.heap.objs.size) ∧ J i m₁ news₁) ?_ ws.length ?_ (ht _)
  · rintro n s' ⟨i, m₁, news₁, h, tk, oi, rfl, hile, rfl, F₁, N₁, hcl, hdt, hoff, hJ₁⟩
    have hIt := N₁ _ (.head _)
    have keepF : ∀ h', (∀ b o, b ∉ [s.heap.objs.size] → h.get? b = some o → h'.get? b = some o) → Fr g L h' m₁ := fun h' hk => by
      obtain ⟨o, es, ep, ho, r⟩ := F₁.ns
      exact ⟨⟨o, es, ep, hk _ _ (fun z => hIt.2.1 (List.mem_singleton.mp z).symm) ho, r⟩, fun b o q => hk b o (fun z => by rw [List.mem_singleton.mp z, hIt.2.2] at q; cases q) (F₁.keep b o q), F₁.above⟩
    have st : h.IsListIter s.heap.objs.size lw i ∧ h.IsList lw us.toArray := ⟨⟨oi, hIt.1, hcl, hdt⟩, hl.at fun o e => F₁.keep lw o e⟩
    by_cases hlt' : i < ws.length
    · refine W.item i _ _ _ (by rw [hlen]; exact hlt') st fun v h' tk' hv st' hk => ?_
      obtain ⟨n, t, hn, rfl⟩ := IntsAre.of_at hi (i := i) (v := v) (by simpa using hv)
      obtain ⟨oi', ho', hc', hd'⟩ := st'.1
      have N' : News g L h' ((s.heap.objs.size, oi') :: news₁) := fun p hp => by
        rcases List.mem_cons.mp hp with rfl | hp
        · exact ⟨ho', hIt.2⟩
        · exact ⟨hk _ _ (fun z => hoff p hp (List.mem_singleton.mp z)) (N₁ p (.tail _ hp)).1, (N₁ p (.tail _ hp)).2⟩
      refine wpAny_mono (turn i n t m₁ news₁ h' tk' _ oi' hn hJ₁ (keepF h' hk) N' hoff (fun p hp => Heap.lt_size (N p hp).1)) (fun _ s₂ h₂ => wpAny_mono h₂ (fun f s₃ h₃ => ?_) fun _ _ x => x.elim) fun _ _ x => x.elim
      obtain ⟨rfl, h₄, tk₄, m₂, news₂, rfl, F₂, N₂, off₂, J₂⟩ := h₃
      exact ⟨ws.length - (i + 1), by omega, i + 1, m₂, news₂, h₄, tk₄, oi', rfl, by omega, rfl, F₂, N₂, hc', hd', off₂, J₂⟩
    · have hie : i = ws.length := by omega
      subst hie
      refine W.done _ _ _ (by rw [hlen]; exact st) fun h' tk' hk => wpAny_execs_nil ?_
      exact done m₁ news₁ h' tk' hJ₁ (keepF h' hk) fun p hp => ⟨hk _ _ (fun z => hoff p hp (List.mem_singleton.mp z)) (N₁ p (.tail _ hp)).1, (N₁ p (.tail _ hp)).2⟩
  · refine ⟨0, m, news, _, s.toks, _, by simp, by omega, rfl, F.push _, N.push F _, rfl, rfl, fun p hp => Nat.ne_of_lt (Heap.lt_size (N p hp).1), hJ⟩
end
end Mine
end

section
namespace Mine
theorem Rises.nodup {l : List Int} (h : Rises l) : l.Nodup := h.imp fun h e => by omega
theorem rises_of {ns ns' : List Int} (p : ns'.Perm ns) (o : ns'.Pairwise (· ≤ ·)) (nd : ns.Nodup) : Rises ns' := by
  have nd' : ns'.Nodup := p.nodup_iff.mpr nd
  exact (o.and nd').imp fun h => by omega
theorem nodup_map_on {α β : Type} {f : α → β} : ∀ {l : List α}, (∀ a ∈ l, ∀ b ∈ l, f a = f b → a = b) → l.Nodup → (l.map f).Nodup
  | [], _, _ => List.nodup_nil
  | a :: l, h, nd => by
    rw [List.map_cons, List.nodup_cons]
    rw [List.nodup_cons] at nd
    refine ⟨fun hm => ?_, nodup_map_on (fun x hx y hy => h x (.tail _ hx) y (.tail _ hy)) nd.2⟩
    obtain ⟨b, hb, e⟩ := List.mem_map.mp hm
    have := h b (.tail _ hb) a (.head _) e
    exact nd.1 (this ▸ hb)
theorem shift_nodup {cells : List Int} {n : Int} (r : Rises cells) (hc : ∀ c ∈ cells, 0 ≤ c ∧ c < 23) : (cells.map fun k => (k + n).fmod 23).Nodup := by
  refine nodup_map_on (fun a ha b hb e => ?_) r.nodup
  have h1 := hc a ha
  have h2 := hc b hb
  rw [Int.fmod_eq_emod_of_nonneg _ (by decide), Int.fmod_eq_emod_of_nonneg _ (by decide)] at e
  omega
theorem diffF_sub : ∀ (es as : List Int), ((diffF es as).1).Sublist es ∧ ((diffF es as).2).Sublist as := by
  intro es as
  induction h : es.length + as.length using Nat.strongRecOn generalizing es as with
  | _ n ih =>
    match es, as, h with
    | [], as, _ => rw [diffF_nil_left]; exact ⟨List.Sublist.refl _, List.Sublist.refl _⟩
    | e :: es, [], _ => rw [diffF_nil_right]; exact ⟨List.Sublist.refl _, List.Sublist.refl _⟩
    | e :: es, a :: as, h =>
      simp only [List.length_cons] at h
      rcases Int.lt_trichotomy e a with hlt | rfl | hgt
      · rw [diffF_lt _ _ hlt]
        have := ih (es.length + (a :: as).length) (by simp; omega) es (a :: as) rfl
        exact ⟨this.1.cons_cons _, this.2⟩
      · rw [diffF_eq]
        have := ih (es.length + as.length) (by omega) es as rfl
        exact ⟨this.1.cons _, this.2.cons _⟩
      · rw [diffF_gt _ _ hgt]
        have := ih ((e :: es).length + as.length) (by simp; omega) (e :: es) as rfl
        exact ⟨this.1, this.2.cons_cons _⟩
theorem Rises.tail {a : Int} {l : List Int} (h : Rises (a :: l)) : Rises l := (List.pairwise_cons.mp h).2
theorem Rises.head {a : Int} {l : List Int} (h : Rises (a :: l)) : ∀ x ∈ l, a < x := (List.pairwise_cons.mp h).1
theorem diffF_mem (x : Int) : ∀ (es as : List Int), Rises es → Rises as → (x ∈ (diffF es as).1 ↔ x ∈ es ∧ x ∉ as) ∧ (x ∈ (diffF es as).2 ↔ x ∈ as ∧ x ∉ es) := by
  intro es as
  induction h : es.length + as.length using Nat.strongRecOn generalizing es as with
  | _ n ih =>
    intro re ra
    match es, as, h, re, ra with
    | [], as, _, _, _ => rw [diffF_nil_left]; simp
    | e :: es, [], _, _, _ => rw [diffF_nil_right]; simp
    | e :: es, a :: as, h, re, ra =>
      simp only [List.length_cons] at h
      rcases Int.lt_trichotomy e a with hlt | rfl | hgt
      · rw [diffF_lt _ _ hlt]
        have := ih (es.length + (a :: as).length) (by simp; omega) es (a :: as) rfl re.tail ra
        have hna : e ∉ a :: as := by
          intro hm
          rcases List.mem_cons.mp hm with q | hm
          · omega
          · have := ra.head e hm; omega
        have hne : e ∉ es := fun hm => by have := re.head e hm; omega
        by_cases hx : x = e
        · subst hx
          simp only [List.mem_cons, true_or, true_and, this.2, not_true_eq_false, and_false, iff_false] at *
          exact ⟨⟨fun _ => hna, fun _ => trivial⟩, fun z => absurd z.1 hna⟩
        · simp only [List.mem_cons, hx, false_or] at *
          exact this
      · rw [diffF_eq]
        have := ih (es.length + as.length) (by omega) es as rfl re.tail ra.tail
        have hne : e ∉ es := fun hm => by have := re.head e hm; omega
        have hna : e ∉ as := fun hm => by have := ra.head e hm; omega
        by_cases hx : x = e
        · subst hx
          simp only [List.mem_cons, true_or, not_true_eq_false, and_false, iff_false, this.1, this.2]
          exact ⟨fun z => hne z.1, fun z => hna z.1⟩
        · simp only [List.mem_cons, hx, false_or] at *
          exact this
      · rw [diffF_gt _ _ hgt]
        have := ih ((e :: es).length + as.length) (by simp; omega) (e :: es) as rfl re ra.tail
        have hne : a ∉ e :: es := by
          intro hm
          rcases List.mem_cons.mp hm with q | hm
          · omega
          · have := re.head a hm; omega
        have hna : a ∉ as := fun hm => by have := ra.head a hm; omega
        by_cases hx : x = a
        · subst hx
          simp only [List.mem_cons, true_or, true_and, not_true_eq_false, and_false, iff_false, this.1, this.2] at *
          exact ⟨fun z => hne z.1, ⟨fun _ => hne, fun _ => trivial⟩⟩
        · simp only [List.mem_cons, hx, false_or] at *
          exact this
theorem diffF_nodup {es as : List Int} (re : Rises es) (ra : Rises as) : ((diffF es as).1 ++ (diffF es as).2).Nodup := by
  have s := diffF_sub es as
  rw [List.nodup_append]
  refine ⟨s.1.nodup re.nodup, s.2.nodup ra.nodup, fun x hx y hy e => ?_⟩
  subst e
  have := diffF_mem x es as re ra
  exact (this.1.mp hx).2 (this.2.mp hy).1
theorem diffF_len (es as : List Int) : ((diffF es as).1).length ≤ es.length ∧ ((diffF es as).2).length ≤ as.length := ⟨(diffF_sub es as).1.length_le, (diffF_sub es as).2.length_le⟩
theorem len_of_rises : ∀ {l : List Int} {a : Int}, Rises l → (∀ x ∈ l, a ≤ x ∧ x < 23) → a ≤ 23 → (l.length : Int) ≤ 23 - a
  | [], a, _, _, h => by simp; omega
  | b :: l, a, r, h, ha => by
    have hb := h b (.head _)
    have ih := len_of_rises (l := l) (a := b + 1) r.tail (fun x hx => ⟨by have := r.head x hx; omega, (h x (.tail _ hx)).2⟩) (by omega)
    simp only [List.length_cons]
    omega
theorem len23 {l : List Int} (r : Rises l) (h : ∀ x ∈ l, 0 ≤ x ∧ x < 23) : l.length ≤ 23 := by
  have := len_of_rises r h (by decide)
  omega
/-- is x told after the ways ws? -/
noncomputable def toldB (cells ws : List Int) (x : Int) : Bool := ws.foldl (fun b w => b ^^ decide (x ∈ cells.map fun k => (k + w).fmod 23)) false
def Told (cells ws told : List Int) : Prop := Rises told ∧ (∀ x, x ∈ told ↔ toldB cells ws x = true) ∧ ∀ x ∈ told, 0 ≤ x ∧ x < 23
theorem Told.start {cells : List Int} : Told cells [] [] := ⟨List.Pairwise.nil, fun x => by simp [toldB], fun x hx => by cases hx⟩
theorem Told.step {cells ws told row' told' : List Int} {n : Int} (T : Told cells ws told) (rc : Rises cells) (hc : ∀ c ∈ cells, 0 ≤ c ∧ c < 23) (p : row'.Perm (cells.map fun k => (k + n).fmod 23)) (o : row'.Pairwise (· ≤ ·))
    (p' : told'.Perm ((diffF told row').1 ++ (diffF told row').2)) (o' : told'.Pairwise (· ≤ ·)) : Told cells (ws ++ [n]) told' := by
  obtain ⟨r, hm, hb⟩ := T
  have rr : Rises row' := rises_of p o (shift_nodup rc hc)
  refine ⟨rises_of p' o' (diffF_nodup r rr), fun x => ?_, fun x hx => ?_⟩
  · rw [p'.mem_iff, List.mem_append, (diffF_mem x told row' r rr).1, (diffF_mem x told row' r rr).2, p.mem_iff, hm x]
    unfold toldB
    rw [List.foldl_append, List.foldl_cons, List.foldl_nil]
    generalize List.foldl _ false ws = b
    by_cases hx : x ∈ List.map (fun k => (k + n).fmod 23) cells <;> cases b <;> simp [hx]
  · have hx' := p'.mem_iff.mp hx
    rcases List.mem_append.mp hx' with h | h
    · exact hb x ((diffF_mem x told row' r rr).1.mp h).1
    · have := p.mem_iff.mp ((diffF_mem x told row' r rr).2.mp h).1
      obtain ⟨k, _, e⟩ := List.mem_map.mp this
      rw [Int.fmod_eq_emod_of_nonneg _ (by decide)] at e
      omega
end Mine
end

section
open PySem PySem.W PyProof.Rows PySem.Calls PySem.Spec
set_option Elab.async false
set_option maxRecDepth 100000
set_option maxHeartbeats 8000000
set_option linter.unusedVariables false
namespace Mine
theorem cm_of {m : Str → Option Value} {D lc : Addr} (h1 : m (Str.ofString "told") = some (.ref D)) (h2 : m (Str.ofString "cells") = some (.ref lc)) :
    m = fun y => if y = Str.ofString "told" then some (.ref D) else if y = Str.ofString "cells" then some (.ref lc) else m y := by
  funext y
  split
  · subst_vars; exact h1
  · split
    · subst_vars; exact h2
    · rfl
theorem c_cells {w : World} {mean : ExcName → Option Value} {mg mb : Str → Option Value} {cn : Str} {cs : Scope} {a : Addr} {ccd : Value} {cl : List (Str × Addr)} {base : Heap} {L0 : Addr} {o0 : Obj} {s : Shared} {Q E : Value → Shared → Prop}
    {lc lw : Addr} {vs us : List Value} {cells ws : List Int}
    (hb : base.StaysIn s.heap) (X : (hd.heap_39 w.params).In base) (T : Top hd.view_39 (looseW hd.view_39 [Str.ofString "b2a_base64", Str.ofString "b64encode"]) mean mg mb base) (hk : cs.kind = .function)
    (hL0 : s.heap.get? L0 = some o0 ∧ base.get? L0 = none) (hd0 : ∃ x y, o0.data = .dict x y)
    (hlc : s.heap.IsList lc vs.toArray) (hvs : IntsAre vs cells) (hlw : s.heap.IsList lw us.toArray) (hus : IntsAre us ws) (rc : Rises cells) (hc : ∀ c ∈ cells, 0 ≤ c ∧ c < 23) (hcl : cells.length ≤ 23) (hwl : ws.length ≤ 23) (hw : ∀ c ∈ ws, 0 ≤ c ∧ c < 23)
    (hret : ∀ (r : Addr) (n : Nat) (ys : List Value) (told : List Int) (h' : Heap) (tk' : Nat) (sl0 : Array (Option Value)), (∀ b o, b ≠ L0 → s.heap.get? b = some o → h'.get? b = some o) →
      h'.get? L0 = some { o0 with slots := sl0 } → s.heap.get? r = none → h'.get? r = some (W.listOf ys.toArray n) → IntsAre ys told → Told cells ws told → Q (.ref r) { s with heap := h', toks := tk' }) :
    wpAny (model Challenge.rw_oc0023_01.row.prog w) (callerA.deeper (envX cn cs L0 a ccd cl)) (call (.ref 115) [.ref lc, .ref lw]) Q E s := by
  w_top off
  k_with_none
  k_with "own:exec For Name Name cons nil" => (k_here; refine wpStop ?_)
  k_with "own:call ref" => (k_here; refine wpStop ?_)
  revert X; k_fill; intro X
  obtain ⟨hp, gens, drawn, toks, os⟩ := s
  dsimp only at *
  refine wpAny_call ?_
  k_dflt (refine' callHidC (fs := [(L0, o0)]) ?k1 ?k2 ?k3 ?k5 ?k6 ?k7 ?k8 ?k9 ?kB ?kD ?_ ?c2 ?c3 ?c4; (case k1 => exact hb); (case k2 => exact X); (case k3 => exact T); (case k5 => (intro p hp; simp only [List.mem_cons, List.not_mem_nil, or_false] at hp; rcases hp with rfl; exact hL0)); (case k6 => k_is); (case k7 => k_is); (case k8 => ktr_room); (case k9 => exact BindsTo.of_eq rfl); (case kB => exact rfl); (case kD => decide +kernel); (case c2 => exact rfl); (case c3 => exact rfl); (case c4 => exact rfl); k_whole)
  intro g' L' h' tk' cells' Hg' st' lt' F' N' Y' X' T'
  k_cells Y'
  simp only [List.cons_append, List.nil_append] at N'
  have keepg : ∀ b o, b ≠ L0 → hp.get? b = some o → g'.get? b = some o := by
    intro b o h0 e
    rw [Hg']
    exact hideAll_get _ e (by simp [h0])
  have ne_fr : ∀ {l : Addr} {arr : Array Value}, hp.IsList l arr → l ≠ L0 := by
    intro l arr hl
    obtain ⟨o, ho, _, n, hdat⟩ := hl
    rintro rfl
    obtain ⟨x, y, z⟩ := hd0
    rw [hL0.1] at ho; cases ho; rw [z] at hdat; cases hdat
  have hlc' : g'.IsList lc vs.toArray := by
    have n2 := ne_fr hlc
    obtain ⟨o, ho, r⟩ := hlc
    exact ⟨o, keepg _ _ n2 ho, r⟩
  have hlw' : g'.IsList lw us.toArray := by
    have n2 := ne_fr hlw
    obtain ⟨o, ho, r⟩ := hlw
    exact ⟨o, keepg _ _ n2 ho, r⟩
  clear ne_fr
  have ofg : ∀ b, g'.get? b = none → b ≠ L0 → hp.get? b = none := by
    intro b e h0
    cases q : hp.get? b with
    | none => rfl
    | some o => rw [keepg b o h0 q] at e; cases e
  have hlt0 : L0 < L' := lt' _ (.head _)
  clear Hg' hlc hlw hL0 hb X T
  dsimp only
  k_steps
  rename_i oc d1c D0 hh1 l1a hh2 F₂ N₂
  have hlt0' : @LT.lt Nat _ L0 L' := hlt0
  have hne0 : (L' + 1) ≠ L0 := by refine neN ?_; omega
  refine Stop.intro ?_
  refine for_own (lw := lw) (us := us) (ws := ws) (fun i m₁ news₁ => ∃ (D : Addr) (n : Nat) (ys : List Value) (told : List Int) (o : Obj) (v0 : Option Value) (sl0 : Array (Option Value)) (rest : Str → Option Value),
    m₁ = (fun y => if y = Str.ofString "told" then some (.ref D) else if y = Str.ofString "cells" then some (.ref lc) else rest y) ∧
    news₁ = [(D, W.listOf ys.toArray n), (L' + 1, o), (L0, { o0 with slots := sl0 })] ∧ o.data = .cell v0 ∧ IntsAre ys told ∧ L' + 1 ≠ D ∧ L0 ≠ D ∧ Told cells (ws.take i) told) rfl ?it hlw' hus F₂ N₂ ?start ?turn ?done
  case it =>
    intro Q' E' hq
    k_steps
    exact hq
  case start => exact ⟨D0, 0, [], [], oc, _, o0.slots, _, cm_of rfl rfl, rfl, d1c, .nil, (by refine neN ?_; omega), (by refine neN ?_; omega), Told.start⟩
  case done =>
    clear F₂ N₂
    rintro m₁ news₁ h tk1 ⟨D, n, ys, told, o, v0, sl0, rest, rfl, rfl, hcd, hys, nd1, nd2, hT⟩ F₃ N₃
    dsimp only
    k_steps
    dsimp only
    rw [List.take_length] at hT
    have q1 := N₃ _ (.head _)
    have q3 := N₃ _ (.tail _ (.tail _ (.head _)))
    exact hret D _ _ told h _ sl0 (fun b o h0 e => F₃.keep _ _ (keepg b o h0 e)) q3.1 (ofg D q1.2.2 (Ne.symm nd2)) q1.1 hys hT
  case turn =>
    clear F₂ N₂
    rintro i n t m₁ news₁ h tk1 It oi hn ⟨D, n1, ys0, told, o, v0, sl0, rest, rfl, rfl, hcd, hys, nd1, nd2, hT⟩ F₃ N₃ hoff hlt
    have hlen := len23 hT.1 hT.2.2
    have f1 : @Ne Nat (L' + 1) D := nd1
    have f2 : @Ne Nat L0 D := nd2
    have f3 : @Ne Nat D It := hoff _ (.head _)
    have f4 : @LT.lt Nat _ (L' + 1) It := hlt _ (.tail _ (.head _))
    have f5 : @LT.lt Nat _ L0 It := hlt _ (.tail _ (.tail _ (.head _)))
    clear hoff hlt
    dsimp only
    k_steps
    rename_i hS oC dC kl1 kl2 kl3 gX hI8 hL8 D1 hD1 tkD1 o1' D2 v2 n2 c2 h2 F₄ N₄ i₄ e₄ p₄ o₄ b₄ p0₄ l₄
    obtain ⟨oL, esL, epL, hoL, hdL, hkL, hfL⟩ := F₄.ns
    have gL : g'.get? L' = none := by
      cases q : g'.get? L' with
      | none => rfl
      | some o => exact absurd (Nat.lt_of_lt_of_le (Heap.lt_size q) F₄.above) (Nat.lt_irrefl _)
    have qL0 := N₄ _ (.tail _ (.tail _ (.tail _ (.tail _ (.tail _ (.head _))))))
    have qD := N₄ _ (.tail _ (.tail _ (.tail _ (.head _))))
    have qD2 := N₄ _ (.head _)
    have qI := N₄ _ (.tail _ (.tail _ (.head _)))
    have qc := N₄ _ (.tail _ (.tail _ (.tail _ (.tail _ (.head _)))))
    have el : n2.length = cells.length := by rw [e₄, List.length_map]
    refine Stop.intro (c_diff (base := g') (o1 := oL) (o0 := { o0 with slots := sl0 }) F₄.keep X' T' rfl rfl hk ⟨qL0.1, qL0.2.2⟩ ⟨hoL, gL⟩ hd0 ⟨_, _, hdL⟩ ⟨_, qD.1, rfl, n1, rfl⟩ hys ⟨_, qD2.1, rfl, c2, rfl⟩ i₄ hlen (by omega) hT.1 (rises_of p₄ o₄ (shift_nodup rc hc)) ?_)
    intro r lm lu k1 k2 k3 ms zs h5 tk5 sl1 sl0' keep hL1' hL0' fr frm fru lt1 lt2 hr hm hu ims izs
    have ne_of : ∀ {b c : Addr} {o : Obj}, h2.get? b = none → h2.get? c = some o → b ≠ c := fun hb hc q => by rw [q, hc] at hb; cases hb
    have new_of : ∀ {b : Addr}, h2.get? b = none → g'.get? b = none := fun {b} hb => by
      cases q : g'.get? b with
      | none => rfl
      | some o => rw [F₄.keep _ _ q] at hb; cases hb
    have F₅ := Fr.slots (h' := h5) F₄ (fun b o q e => keep b o (fun z => by rw [z, gL] at q; cases q) (fun z => by rw [z, qL0.2.2] at q; cases q) e) (fun o e => ⟨sl1, by rw [hoL] at e; cases e; exact hL1'⟩)
    have N₅ : News g' L' h5 [(r, ({ cls := .type "tuple", data := .seq #[.ref lm, .ref lu] k3 } : Obj)), (lu, W.listOf zs.toArray k2), (lm, W.listOf ms.toArray k1), (It, oi), (L' + 1, oC), (L0, { o0 with slots := sl0' })] := by
      intro p hp
      simp only [List.mem_cons, List.not_mem_nil, or_false] at hp
      rcases hp with rfl | rfl | rfl | rfl | rfl | rfl
      · exact ⟨hr, ne_of fr hoL, new_of fr⟩
      · exact ⟨hu, ne_of fru hoL, new_of fru⟩
      · exact ⟨hm, ne_of frm hoL, new_of frm⟩
      · exact ⟨keep _ _ qI.2.1 (by refine neN ?_; omega) qI.1, qI.2⟩
      · exact ⟨keep _ _ qc.2.1 hne0 qc.1, qc.2⟩
      · exact ⟨hL0', qL0.2⟩
    have x1 : @Ne Nat r It := ne_of fr qI.1
    have x2 : @Ne Nat lu It := ne_of fru qI.1
    have x3 : @Ne Nat lm It := ne_of frm qI.1
    have x4 : @Ne Nat r (L' + 1) := ne_of fr qc.1
    have x5 : @Ne Nat lu (L' + 1) := ne_of fru qc.1
    have x6 : @Ne Nat lm (L' + 1) := ne_of frm qc.1
    have dl := diffF_len told n2
    have hst : ∀ {told' : List Int}, told'.Perm ((diffF told n2).1 ++ (diffF told n2).2) → told'.Pairwise (· ≤ ·) → Told cells (ws.take i ++ [n]) told' := fun p' o' => hT.step rc hc p₄ o₄ p' o'
    generalize (diffF told n2).1 = G at *
    generalize (diffF told n2).2 = C at *
    clear F₄ N₄ qL0 qD qD2 ne_of new_of keep hr hm hu hoL hL1' hL0' b₄ i₄ hI8 hL8
    dsimp only
    k_steps
    rename_i D6 v6 n6 c6 h6a i6 e6 p6 o6 b6 p06 l6 h6 F6 N6
    have htk : ws.take (i + 1) = ws.take i ++ [n] := by rw [List.take_add_one, hn]; rfl
    have N7 : News g' L' h6 ((It, oi) :: [(D6, W.listOf v6.toArray c6), (L' + 1, oC), (L0, { o0 with slots := sl0' })]) := fun p hp => N6 p (by
      simp only [List.mem_cons, List.not_mem_nil, or_false] at hp ⊢
      rcases hp with rfl | rfl | rfl | rfl <;> simp)
    refine ⟨rfl, h6, _, _, _, rfl, F6, N7, ?_, D6, c6, v6, n6, oC, _, sl0', _, cm_of rfl rfl, rfl, dC, i6, (by refine neN ?_; omega), (by refine neN ?_; omega), (by rw [htk]; exact hst p6 o6)⟩
    intro p hp
    simp only [List.mem_cons, List.not_mem_nil, or_false] at hp
    rcases hp with rfl | rfl | rfl
    · refine neN ?_; omega
    · refine neN ?_; omega
    · refine neN ?_; omega
end Mine
end

section
open PySem PySem.W PyProof.Rows PySem.Calls PySem.Spec
set_option Elab.async false
set_option maxRecDepth 100000
namespace Mine
section
variable {prog : Program} {w : World} {A : Around} {E : Value → Shared → Prop} {env : Env} {s : Shared} {h₀ : Heap} {L : Addr} {m : Str → Option Value}
theorem led_new {h' : Heap} {m' : Str → Option Value} {news : List (Addr × Obj)} {D : Addr} {ys : List Value} (F : Fr h₀ L h' m') (N : News h₀ L h' news) (h0 : h₀.get? D = none) (P : NewPlain h' news D ys.toArray) :
    ∃ n, News h₀ L h' ((D, W.listOf ys.toArray n) :: news) ∧ ∀ p ∈ news, p.1 ≠ D := by
  obtain ⟨⟨n, hn⟩, hne⟩ := P
  refine ⟨n, fun p hp => ?_, hne⟩
  rcases List.mem_cons.mp hp with rfl | hp
  · refine ⟨hn, ?_, h0⟩
    rintro rfl
    obtain ⟨o, es, ep, ho, hd, _⟩ := F.ns
    rw [hn] at ho; cases ho; cases hd
  · exact N p hp
abbrev CTest (prog : Program) (w : World) (A : Around) (env : Env) (scope : Scope) (cl : List (Str × Addr)) (x : Str) (ifs : List Expr) (s₁ : Shared) (as : List Int) (pz : Int → Bool) : Prop :=
  ∀ C k u s₂ m₂ E', s₁.heap.objs.size ≤ C → k ∈ as → s₂.heap.Ns (compEnvC scope cl C env).locals m₂ → m₂ x = some (.int k u) → (∀ b o, s₁.heap.get? b = some o → s₂.heap.get? b = some o) →
    wpAny (model prog w) A (forIn ifs true fun c r => if r = true then do let ok ← isTrue c (compEnvC scope cl C env) (eval c (compEnvC scope cl C env)); pure (ForInStep.yield ok) else pure (ForInStep.yield r))
      (fun ok s₃ => Stop (ok = pz k ∧ Keeps s₂ s₃)) E' s₂
abbrev CElt (prog : Program) (w : World) (A : Around) (env : Env) (scope : Scope) (cl : List (Str × Addr)) (x : Str) (elt : Expr) (s₁ : Shared) (as : List Int) (f : Int → Int) : Prop :=
  ∀ C k u s₂ m₂ E', s₁.heap.objs.size ≤ C → k ∈ as → s₂.heap.Ns (compEnvC scope cl C env).locals m₂ → m₂ x = some (.int k u) → (∀ b o, s₁.heap.get? b = some o → s₂.heap.get? b = some o) →
    wpAny (model prog w) A (eval elt (compEnvC scope cl C env)) (fun y s₃ => Stop ((∃ t, y = .int (f k) t) ∧ Keeps s₂ s₃)) E' s₂
theorem compL {elt iter : Expr} {x : Str} {px : Pos} {ifs : List Expr} {scope : Scope} {cl : List (Str × Addr)} {pos : Pos} {Q : Value → Shared → Prop} (pz : Int → Bool) (f : Int → Int) (_F₀ : Fr h₀ L s.heap m)
    (hh : A.handled = none) (hclos : closureFor scope env = pure cl) (hcell : ∀ y ∈ scope.names, y.2 ≠ .cell) (hkind : scope.kind = .function)
    (hnames : ∀ y ∈ scope.names, y.2 = .local → scope.names.lookup y.1 = some .local) (hx : scope.names.lookup x = some .local)
    (h : wpAny (model prog w) A (eval iter env) (fun xv s₁ => Stop (∃ (news : List (Addr × Obj)) (ax : Addr) (vs : List Value) (as : List Int), xv = .ref ax ∧ s₁.heap.IsList ax vs.toArray ∧ IntsAre vs as ∧ as.length ≤ 1000 ∧ Fr h₀ L s₁.heap m ∧ News h₀ L s₁.heap news ∧
      CTest prog w A env scope cl x ifs s₁ as pz ∧ CElt prog w A env scope cl x elt s₁ as f ∧
      (∀ D (ys : List Value) n h' tk, Fr h₀ L h' m → News h₀ L h' ((D, W.listOf ys.toArray n) :: news) → (∀ p ∈ news, p.1 ≠ D) → IntsAre ys ((as.filter pz).map f) → Q (.ref D) { s₁ with heap := h', toks := tk }))) E s)
    (hs : ∀ x, foldedSetIterable iter env x = pure x) :
    wpAny (model prog w) A (eval (.ListComp elt [⟨.Name x px, iter, ifs, 0⟩] scope pos) env) Q E s := by
  refine ListComp_DCn (h₀ := h₀) (L := L) (m := m) (K := ItemKind.int) (pz := pz) (d := fun a => PyData.int (f a)) hh hclos hcell hkind hnames hx (wpAny_mono h (fun xv s₁ h₁ => ?_) fun _ _ e => e) hs
  obtain ⟨news, ax, vs, as, rfl, hl, hi, hz, F, N, ht, he, hq⟩ := h₁
  refine ⟨news, ax, vs, as, rfl, hl, hi.areOf, (by rw [sizeLine_eq]; omega), F, N, fun C a v s₂ m₂ E' hC ha hv hn hm hk => ?_, fun C a v s₂ m₂ E' hC ha hv hp hn hm hk => ?_, fun D ys h' tk F' N' h0 hl' P hc => ?_⟩
  · obtain ⟨t, rfl⟩ := hv
    exact ht C a t s₂ m₂ E' hC ha hn hm hk
  · obtain ⟨t, rfl⟩ := hv
    refine wpAny_mono (he C a t s₂ m₂ E' hC ha hn hm hk) (fun y s₃ h₃ => ?_) fun _ _ e => e
    obtain ⟨⟨t', rfl⟩, hkp⟩ := h₃
    exact ⟨.int _ _, hkp⟩
  · obtain ⟨n, N'', hne⟩ := led_new F' N' h0 P
    exact hq D ys n h' tk F' N'' hne (CarriedAll.intsOf hc)
theorem compR {elt iter : Expr} {x : Str} {px : Pos} {ifs : List Expr} {scope : Scope} {cl : List (Str × Addr)} {pos : Pos} {Q : Value → Shared → Prop} (pz : Int → Bool) (f : Int → Int) (_F₀ : Fr h₀ L s.heap m)
    (hh : A.handled = none) (hclos : closureFor scope env = pure cl) (hcell : ∀ y ∈ scope.names, y.2 ≠ .cell) (hkind : scope.kind = .function)
    (hnames : ∀ y ∈ scope.names, y.2 = .local → scope.names.lookup y.1 = some .local) (hx : scope.names.lookup x = some .local)
    (h : wpAny (model prog w) A (eval iter env) (fun xv s₁ => Stop (∃ (news : List (Addr × Obj)) (r : Addr) (a₀ b₀ c₀ : Int) (t₀ u₀ v₀ : Tok) (n : Nat), xv = .ref r ∧ IsRange s₁.heap r a₀ b₀ c₀ t₀ u₀ v₀ ∧ Builtin.Range.small a₀ b₀ c₀ = true ∧ Builtin.Range.rangeSize a₀ b₀ c₀ = (n : Int) ∧ n ≤ 1000 ∧ Fr h₀ L s₁.heap m ∧ News h₀ L s₁.heap news ∧
      CTest prog w A env scope cl x ifs s₁ (rangeInts a₀ c₀ n) pz ∧ CElt prog w A env scope cl x elt s₁ (rangeInts a₀ c₀ n) f ∧
      (∀ D (ys : List Value) k h' tk, Fr h₀ L h' m → News h₀ L h' ((D, W.listOf ys.toArray k) :: news) → (∀ p ∈ news, p.1 ≠ D) → IntsAre ys (((rangeInts a₀ c₀ n).filter pz).map f) → Q (.ref D) { s₁ with heap := h', toks := tk }))) E s)
    (hs : ∀ x, foldedSetIterable iter env x = pure x) :
    wpAny (model prog w) A (eval (.ListComp elt [⟨.Name x px, iter, ifs, 0⟩] scope pos) env) Q E s := by
  refine ListComp_DCr (h₀ := h₀) (L := L) (m := m) (pz := pz) (d := fun a => PyData.int (f a)) hh hclos hcell hkind hnames hx (wpAny_mono h (fun xv s₁ h₁ => ?_) fun _ _ e => e) hs
  obtain ⟨news, r, a₀, b₀, c₀, t₀, u₀, v₀, n, rfl, hr, hsm, hsz, hz, F, N, ht, he, hq⟩ := h₁
  refine ⟨news, r, a₀, b₀, c₀, t₀, u₀, v₀, n, rfl, hr, hsm, hsz, (by rw [sizeLine_eq]; omega), F, N, fun C a v s₂ m₂ E' hC ha hv hn hm hk => ?_, fun C a v s₂ m₂ E' hC ha hv hp hn hm hk => ?_, fun D ys h' tk F' N' h0 hl' P hc => ?_⟩
  · obtain ⟨t, rfl⟩ := hv
    exact ht C a t s₂ m₂ E' hC ha hn hm hk
  · obtain ⟨t, rfl⟩ := hv
    refine wpAny_mono (he C a t s₂ m₂ E' hC ha hn hm hk) (fun y s₃ h₃ => ?_) fun _ _ e => e
    obtain ⟨⟨t', rfl⟩, hkp⟩ := h₃
    exact ⟨.int _ _, hkp⟩
  · obtain ⟨k, N'', hne⟩ := led_new F' N' h0 P
    exact hq D ys k h' tk F' N'' hne (CarriedAll.intsOf hc)
theorem compRA {elt iter : Expr} {x y : Str} {px py : Pos} {ifs : List Expr} {scope : Scope} {cl : List (Str × Addr)} {pos spos : Pos} {Q : Flow → Shared → Prop} (pz : Int → Bool) (f : Int → Int) (_F₀ : Fr h₀ L s.heap m)
    (hsw : swapsWith (.ListComp elt [⟨.Name x px, iter, ifs, 0⟩] scope pos) (some (.Name y py)) spos.line env = pure true) (hL : env.locals = L)
    (hh : A.handled = none) (hclos : closureFor scope env = pure cl) (hcell : ∀ z ∈ scope.names, z.2 ≠ .cell) (hkind : scope.kind = .function)
    (hnames : ∀ z ∈ scope.names, z.2 = .local → scope.names.lookup z.1 = some .local) (hx : scope.names.lookup x = some .local)
    (hy : env.kindOf y = some .local) (hp : (env.scope.kind == .class || (env.scope.kind == .module && env.locals != env.globals)) = false)
    (h : wpAny (model prog w) A (eval iter env) (fun xv s₁ => Stop (∃ (news : List (Addr × Obj)) (r : Addr) (a₀ b₀ c₀ : Int) (t₀ u₀ v₀ : Tok) (n : Nat), xv = .ref r ∧ IsRange s₁.heap r a₀ b₀ c₀ t₀ u₀ v₀ ∧ Builtin.Range.small a₀ b₀ c₀ = true ∧ Builtin.Range.rangeSize a₀ b₀ c₀ = (n : Int) ∧ n ≤ 1000 ∧ Fr h₀ L s₁.heap m ∧ News h₀ L s₁.heap news ∧
      CTest prog w A env scope cl x ifs s₁ (rangeInts a₀ c₀ n) pz ∧ CElt prog w A env scope cl x elt s₁ (rangeInts a₀ c₀ n) f ∧
      (∀ D (ys : List Value) k h' tk, Fr h₀ L h' (fun z => if z = y then some (.ref D) else m z) → News h₀ L h' ((D, W.listOf ys.toArray k) :: news) → (∀ p ∈ news, p.1 ≠ D) → IntsAre ys (((rangeInts a₀ c₀ n).filter pz).map f) → Q .next { s₁ with heap := h', toks := tk }))) E s)
    (hs : ∀ x, foldedSetIterable iter env x = pure x) :
    wpAny (model prog w) A (exec (.Assign [.Name y py] (.ListComp elt [⟨.Name x px, iter, ifs, 0⟩] scope pos) spos) env) Q E s := by
  refine Assign_ListComp_DCr (h₀ := h₀) (L := L) (m := m) (pz := pz) (d := fun a => PyData.int (f a)) hsw hL hh hclos hcell hkind hnames hx hy hp (wpAny_mono h (fun xv s₁ h₁ => ?_) fun _ _ e => e) hs
  obtain ⟨news, r, a₀, b₀, c₀, t₀, u₀, v₀, n, rfl, hr, hsm, hsz, hz, F, N, ht, he, hq⟩ := h₁
  refine ⟨news, r, a₀, b₀, c₀, t₀, u₀, v₀, n, rfl, hr, hsm, hsz, (by rw [sizeLine_eq]; omega), F, N, fun C a v s₂ m₂ E' hC ha hv hn hm hk => ?_, fun C a v s₂ m₂ E' hC ha hv hp hn hm hk => ?_, fun D ys h' tk F' N' h0 hl' P hc => ?_⟩
  · obtain ⟨t, rfl⟩ := hv
    exact ht C a t s₂ m₂ E' hC ha hn hm hk
  · obtain ⟨t, rfl⟩ := hv
    refine wpAny_mono (he C a t s₂ m₂ E' hC ha hn hm hk) (fun y s₃ h₃ => ?_) fun _ _ e => e
    obtain ⟨⟨t', rfl⟩, hkp⟩ := h₃
    exact ⟨.int _ _, hkp⟩
  · obtain ⟨k, N'', hne⟩ := led_new F' N' h0 P
    exact hq D ys k h' tk F' N'' hne (CarriedAll.intsOf hc)
end
end Mine
end

section
open PySem PySem.W PyProof.Rows PySem.Calls PySem.Spec
set_option Elab.async false
set_option maxRecDepth 100000
namespace Mine
def NC (H0 : Heap) (D C : Addr) (ys : List Value) (m : Str → Option Value) (h : Heap) : Prop :=
  (∀ b o, H0.get? b = some o → h.get? b = some o) ∧ h.Ns C m ∧ ∃ n, h.get? D = some (W.listOf ys.toArray n)
theorem NC.move {H0 h h' : Heap} {D C z : Addr} {ys : List Value} {m : Str → Option Value} (N : NC H0 D C ys m h) (h0 : H0.get? z = none) (hD : D ≠ z) (hC : C ≠ z) (hk : ∀ b o, b ≠ z → h.get? b = some o → h'.get? b = some o) : NC H0 D C ys m h' := by
  obtain ⟨a, ⟨o, es, ep, ho, r⟩, n, hn⟩ := N
  exact ⟨fun b o q => hk b o (fun e => by rw [e, h0] at q; cases q) (a b o q), ⟨o, es, ep, hk _ _ hC ho, r⟩, n, hk _ _ hD hn⟩
theorem NC.keep {H0 h h' : Heap} {D C : Addr} {ys : List Value} {m : Str → Option Value} (N : NC H0 D C ys m h) (hk : ∀ b o, h.get? b = some o → h'.get? b = some o) : NC H0 D C ys m h' := by
  obtain ⟨a, ⟨o, es, ep, ho, r⟩, n, hn⟩ := N
  exact ⟨fun b o q => hk b o (a b o q), ⟨o, es, ep, hk _ _ ho, r⟩, n, hk _ _ hn⟩
theorem NC.names {H0 h h' : Heap} {D C : Addr} {ys : List Value} {m m' : Str → Option Value} (N : NC H0 D C ys m h) (h0 : H0.get? C = none) (hDC : D ≠ C) (hn : h'.Ns C m') (hs : Heap.SameBut C h h') : NC H0 D C ys m' h' := by
  obtain ⟨a, _, n, hd⟩ := N
  exact ⟨fun b o q => hs.extBut b o (fun e => by rw [e, h0] at q; cases q) (a b o q), hn, n, hs.extBut _ _ hDC hd⟩
theorem iter_keep {h h' : Heap} {I l : Addr} {i : Nat} (x : h.IsListIter I l i) (hk : ∀ o, h.get? I = some o → h'.get? I = some o) : h'.IsListIter I l i := by
  obtain ⟨o, ho, r⟩ := x
  exact ⟨o, hk o ho, r⟩
section
variable {prog : Program} {w : World} {A : Around} {R : Result → Shared → Prop} {s : Shared} {cenv : Env} {elt it1 it2 : Expr} {x y : Str} {px py : Pos} {scope : Scope} {pos : Pos} {H0 : Heap} {D C I1 I2 ax lb : Addr} {va vb : List Value} {as bs : List Int} {f : Int → Int → Int}
theorem compTurn_nest1 (it acc : Value) (env : Env) :
    compTurn (.ListComp elt [⟨.Name x px, it1, [], 0⟩, ⟨.Name y py, it2, [], 0⟩] scope pos) 1 it acc env = (standAt it2.pos >>= fun _ => pyNext it >>= fun r => match r with
      | none => pure (.done .next)
      | some v => letOwnedTupleGo (.Name y py) it v >>= fun _ => assign (.Name y py) env v >>= fun _ =>
        (eval elt env >>= fun x => call (.builtin "list.append") [acc, x] >>= fun _ => pure ()) >>= fun _ =>
          again (.compLoop (.ListComp elt [⟨.Name x px, it1, [], 0⟩, ⟨.Name y py, it2, [], 0⟩] scope pos) 1 it acc env)) := by rfl
theorem compTurn_nest0 (it acc : Value) (env : Env) :
    compTurn (.ListComp elt [⟨.Name x px, it1, [], 0⟩, ⟨.Name y py, it2, [], 0⟩] scope pos) 0 it acc env = (standAt it1.pos >>= fun _ => pyNext it >>= fun r => match r with
      | none => pure (.done .next)
      | some v => letOwnedTupleGo (.Name x px) it v >>= fun _ => assign (.Name x px) env v >>= fun _ =>
        eval it2 env >>= fun z => standAt it2.pos >>= fun _ => foldedSetIterable it2 env z >>= fun z => holding [z] (pyIter z) >>= fun j => runOwn (.compStart (.ListComp elt [⟨.Name x px, it1, [], 0⟩, ⟨.Name y py, it2, [], 0⟩] scope pos) 1 j acc env) env >>= fun _ =>
          again (.compLoop (.ListComp elt [⟨.Name x px, it1, [], 0⟩, ⟨.Name y py, it2, [], 0⟩] scope pos) 0 it acc env)) := by rfl
theorem nest_inner {a : Int} {ta : Tok} {ys : List Value} {m : Str → Option Value} (hh : A.handled = none) (hCl : cenv.locals = C) (hky : cenv.kindOf y = some .local) (hxy : x ≠ y) (hp : (cenv.scope.kind == .class || (cenv.scope.kind == .module && cenv.locals != cenv.globals)) = false)
    (hlb : H0.IsList lb vb.toArray) (hb : IntsAre vb bs) (hDC : D ≠ C) (h0C : H0.get? C = none) (h0D : H0.get? D = none) (h02 : H0.get? I2 = none) (hD2 : D ≠ I2) (hC2 : C ≠ I2) (hz : ys.length + bs.length ≤ 100000)
    (helt : ∀ b tb s₂ m₂, b ∈ bs → s₂.heap.Ns C m₂ → m₂ x = some (.int a ta) → m₂ y = some (.int b tb) → (∀ b o, H0.get? b = some o → s₂.heap.get? b = some o) →
      wpAny (model prog w) A (eval elt cenv) (fun v s₃ => Stop ((∃ t, v = .int (f a b) t) ∧ Keeps s₂ s₃)) (fun _ _ => False) s₂)
    (hN : NC H0 D C ys m s.heap) (hm : m x = some (.int a ta)) (hI : s.heap.IsListIter I2 lb 0)
    (done : ∀ h' tk ys' m', NC H0 D C (ys ++ ys') m' h' → IntsAre ys' (bs.map (f a)) → (∀ b o, b ≠ D → b ≠ C → b ≠ I2 → s.heap.get? b = some o → h'.get? b = some o) → R (.ok .next) { s with heap := h', toks := tk }) :
    codeAny (model prog w) A (.compLoop (.ListComp elt [⟨.Name x px, it1, [], 0⟩, ⟨.Name y py, it2, [], 0⟩] scope pos) 1 (.ref I2) (.ref D) cenv) R s := by
  have hlt : lb ≠ I2 := fun e => by obtain ⟨o, ho, _⟩ := hlb; rw [e, h02] at ho; cases ho
  have W := Walks.list (prog := prog) (w := w) hh I2 lb hlt vb.toArray
  have hlen : vb.toArray.size = bs.length := by simp [hb.length]
  refine codeAny_loop rfl (fun n s' => ∃ j h tk ys' m', n = bs.length - j ∧ j ≤ bs.length ∧ s' = { s with heap := h, toks := tk } ∧ NC H0 D C (ys ++ ys') m' h ∧ m' x = some (.int a ta) ∧ h.IsListIter I2 lb j ∧ IntsAre ys' ((bs.take j).map (f a)) ∧ (∀ b o, b ≠ D → b ≠ C → b ≠ I2 → s.heap.get? b = some o → h.get? b = some o)) (fun n s' hI' => ?_) bs.length ⟨0, s.heap, s.toks, [], m, by simp, by omega, rfl, by simpa using hN, hm, hI, .nil, fun _ _ _ _ _ e => e⟩
  obtain ⟨j, h, tk, ys', m', rfl, hj, rfl, hN', hm', hIt, hys', hkp⟩ := hI'
  show wpAny _ A ((compTurn (.ListComp elt [⟨.Name x px, it1, [], 0⟩, ⟨.Name y py, it2, [], 0⟩] scope pos) 1 (.ref I2) (.ref D) cenv).onRaise (fun x => do noteFrame x cenv; theTreesLotGoes x)) _ _ _
  refine wpAny_noted (wpAny_noRaise ?_)
  rw [compTurn_nest1]
  refine wpAny_bind (wpAny_standAt (wpAny_bind ?_))
  have st : h.IsListIter I2 lb j ∧ h.IsList lb vb.toArray := ⟨hIt, hlb.at fun o e => hN'.1 lb o e⟩
  by_cases hlt' : j < bs.length
  · refine W.item j _ _ _ (by rw [hlen]; exact hlt') st fun v h₁ tk₁ hv st₁ hk₁ => ?_
    obtain ⟨b, tb, hbj, rfl⟩ := IntsAre.of_at hb (i := j) (v := v) (by simpa using hv)
    have k₁ : ∀ b o, b ≠ I2 → h.get? b = some o → h₁.get? b = some o := fun b o hb e => hk₁ b o (by simpa using hb) e
    have N₁ := hN'.move h02 hD2 hC2 k₁
    refine wpAny_bind (wpAny_of_eq rfl (wpAny_bind (wpAny_assign_Name ?_)))
    refine wpAny_storeName_local hky (by rw [hCl]; exact N₁.2.1) (fun h₂ hn₂ hs₂ => ?_) hp
    rw [hCl] at hn₂ hs₂
    have N₂ := N₁.names h0C hDC hn₂ hs₂
    refine wpAny_bind (wpAny_bind (wpAny_mono (helt b tb _ _ (List.mem_of_getElem? hbj) hn₂ (by rw [if_neg hxy]; exact hm') (by rw [if_pos rfl]) N₂.1) (fun v s₃ h₃ => ?_) fun _ _ z => z))
    obtain ⟨⟨t, rfl⟩, h₃', tk₃, rfl, hk₃⟩ := h₃
    have N₃ := N₂.keep hk₃
    obtain ⟨n₃, hn₃⟩ := N₃.2.2
    have hl₃ : ys'.length ≤ bs.length := by rw [hys'.length]; simp; omega
    refine wpAny_bind (append_at (n := n₃) hn₃ (fun h₄ hs₄ ho₄ => wpAny_pure (wpAny_pure ?_)) (by rw [sizeLine_eq]; simp; omega))
    refine ⟨rfl, bs.length - (j + 1), by omega, j + 1, h₄, _, ys' ++ [.int (f a b) t], (fun z => if z = y then some (.int b tb) else m' z), rfl, by omega, rfl, ?_, ?_, ?_, ?_, ?_⟩
    · refine ⟨fun b o q => hs₄.extBut b o (fun e => by rw [e, h0D] at q; cases q) (N₃.1 b o q), ?_, _, by rw [← List.append_assoc, ← List.push_toArray]; exact ho₄⟩
      obtain ⟨o, es, ep, ho, r⟩ := N₃.2.1
      exact ⟨o, es, ep, hs₄.extBut _ _ (Ne.symm hDC) ho, r⟩
    · show (if x = y then some (Value.int b tb) else m' x) = _
      rw [if_neg hxy]; exact hm'
    · exact iter_keep st₁.1 fun o e => hs₄.extBut _ _ (Ne.symm hD2) (hk₃ _ _ (hs₂.extBut _ _ (Ne.symm hC2) e))
    · have : bs.take (j + 1) = bs.take j ++ [b] := by rw [List.take_add_one, hbj]; rfl
      rw [this, List.map_append]
      exact IntsAre.app hys' (.cons _ _ .nil)
    · intro b o hb1 hb2 hb3 e
      exact hs₄.extBut b o hb1 (hk₃ _ _ (hs₂.extBut _ _ hb2 (k₁ _ _ hb3 (hkp b o hb1 hb2 hb3 e))))
  · have hje : j = bs.length := by omega
    subst hje
    refine W.done _ _ _ (by rw [hlen]; exact st) fun h₁ tk₁ hk₁ => wpAny_pure ?_
    have k₁ : ∀ b o, b ≠ I2 → h.get? b = some o → h₁.get? b = some o := fun b o hb e => hk₁ b o (by simpa using hb) e
    rw [List.take_length] at hys'
    exact done h₁ _ ys' m' (hN'.move h02 hD2 hC2 k₁) hys' fun b o hb1 hb2 hb3 e => k₁ _ _ hb3 (hkp b o hb1 hb2 hb3 e)
theorem nest_outer (hh : A.handled = none) (hfr : cenv.locals = C) (hkx : cenv.kindOf x = some .local) (hky : cenv.kindOf y = some .local) (hxy : x ≠ y) (hp : (cenv.scope.kind == .class || (cenv.scope.kind == .module && cenv.locals != cenv.globals)) = false)
    (hla : H0.IsList ax va.toArray) (ha : IntsAre va as) (hlb : H0.IsList lb vb.toArray) (hb : IntsAre vb bs) (hDC : D ≠ C) (h0C : H0.get? C = none) (h0D : H0.get? D = none) (h01 : H0.get? I1 = none) (hD1 : D ≠ I1) (hC1 : C ≠ I1) (hza : as.length ≤ 100) (hzb : bs.length ≤ 100)
    (hs2 : ∀ v, foldedSetIterable it2 cenv v = pure v)
    (hit2 : ∀ s₂ m₂ Q' E', s₂.heap.Ns C m₂ → (∀ b o, H0.get? b = some o → s₂.heap.get? b = some o) → Q' (.ref lb) s₂ → wpAny (model prog w) A (eval it2 cenv) Q' E' s₂)
    (helt : ∀ a ta b tb s₂ m₂, a ∈ as → b ∈ bs → s₂.heap.Ns C m₂ → m₂ x = some (.int a ta) → m₂ y = some (.int b tb) → (∀ b o, H0.get? b = some o → s₂.heap.get? b = some o) →
      wpAny (model prog w) A (eval elt cenv) (fun v s₃ => Stop ((∃ t, v = .int (f a b) t) ∧ Keeps s₂ s₃)) (fun _ _ => False) s₂)
    {m : Str → Option Value} (hN : NC H0 D C [] m s.heap) (hI : s.heap.IsListIter I1 ax 0)
    (done : ∀ h' tk ys' m', NC H0 D C ys' m' h' → IntsAre ys' (as.flatMap fun a => bs.map (f a)) → R (.ok .next) { s with heap := h', toks := tk }) :
    codeAny (model prog w) A (.compLoop (.ListComp elt [⟨.Name x px, it1, [], 0⟩, ⟨.Name y py, it2, [], 0⟩] scope pos) 0 (.ref I1) (.ref D) cenv) R s := by
  have hlt : ax ≠ I1 := fun e => by obtain ⟨o, ho, _⟩ := hla; rw [e, h01] at ho; cases ho
  have W := Walks.list (prog := prog) (w := w) hh I1 ax hlt va.toArray
  have hlen : va.toArray.size = as.length := by simp [ha.length]
  refine codeAny_loop rfl (fun n s' => ∃ i h tk ys' m', n = as.length - i ∧ i ≤ as.length ∧ s' = { s with heap := h, toks := tk } ∧ NC H0 D C ys' m' h ∧ h.IsListIter I1 ax i ∧ IntsAre ys' ((as.take i).flatMap fun a => bs.map (f a)) ∧ ys'.length = i * bs.length) (fun n s' hI' => ?_) as.length ⟨0, s.heap, s.toks, [], m, by simp, by omega, rfl, hN, hI, .nil, by simp⟩
  obtain ⟨i, h, tk, ys', m', rfl, hi, rfl, hN', hIt, hys', hyl⟩ := hI'
  show wpAny _ A ((compTurn (.ListComp elt [⟨.Name x px, it1, [], 0⟩, ⟨.Name y py, it2, [], 0⟩] scope pos) 0 (.ref I1) (.ref D) cenv).onRaise (fun x => do noteFrame x cenv; theTreesLotGoes x)) _ _ _
  refine wpAny_noted (wpAny_noRaise ?_)
  rw [compTurn_nest0]
  refine wpAny_bind (wpAny_standAt (wpAny_bind ?_))
  have st : h.IsListIter I1 ax i ∧ h.IsList ax va.toArray := ⟨hIt, hla.at fun o e => hN'.1 ax o e⟩
  by_cases hlt' : i < as.length
  · refine W.item i _ _ _ (by rw [hlen]; exact hlt') st fun v h₁ tk₁ hv st₁ hk₁ => ?_
    obtain ⟨a, ta, hai, rfl⟩ := IntsAre.of_at ha (i := i) (v := v) (by simpa using hv)
    have k₁ : ∀ b o, b ≠ I1 → h.get? b = some o → h₁.get? b = some o := fun b o hb e => hk₁ b o (by simpa using hb) e
    have N₁ := hN'.move h01 hD1 hC1 k₁
    refine wpAny_bind (wpAny_of_eq rfl (wpAny_bind (wpAny_assign_Name ?_)))
    refine wpAny_storeName_local hkx (by rw [hfr]; exact N₁.2.1) (fun h₂ hn₂ hs₂ => ?_) hp
    rw [hfr] at hn₂ hs₂
    have N₂ := N₁.names h0C hDC hn₂ hs₂
    refine wpAny_bind (hit2 _ _ _ _ hn₂ N₂.1 (wpAny_bind (wpAny_standAt (wpAny_bind (wpAny_of_eq (hs2 _) (wpAny_bind (wpAny_holding ?_)))))))
    have hlb₂ : h₂.IsList lb vb.toArray := hlb.at fun o e => N₂.1 lb o e
    refine wpAny_pyIter_list hlb₂ (wpAny_bind (wpAny_runOwn ?_))
    rw [Around.mark_none]
    have newI : h₂.get? h₂.objs.size = none := Heap.get?_none_of_le (Nat.le_refl _)
    have ne2 : ∀ {b : Addr} {o : Obj}, h₂.get? b = some o → b ≠ h₂.objs.size := fun e q => by rw [q, newI] at e; cases e
    have new0 : H0.get? h₂.objs.size = none := by
      cases q : H0.get? h₂.objs.size with
      | none => rfl
      | some o => rw [N₂.1 _ _ q] at newI; cases newI
    obtain ⟨n₂, hd₂⟩ := N₂.2.2
    obtain ⟨oC, esC, epC, hoC, rC⟩ := N₂.2.1
    have N₃ := N₂.keep (h' := h₂.push { cls := .type "list_iterator", data := .fields #[.ref lb, .int 0 0] }) fun b o e => Heap.get?_push_of_some _ e
    have hI1₂ : h₂.IsListIter I1 ax (i + 1) := iter_keep st₁.1 fun o e => hs₂.extBut _ _ (Ne.symm hC1) e
    have inner : ∀ s₅ : Shared, s₅.heap = h₂.push { cls := .type "list_iterator", data := .fields #[.ref lb, .int 0 0] } → (∃ tk, s₅ = { s with heap := s₅.heap, toks := tk }) →
        codeAny (model prog w) A (.compLoop (.ListComp elt [⟨.Name x px, it1, [], 0⟩, ⟨.Name y py, it2, [], 0⟩] scope pos) 1 (.ref h₂.objs.size) (.ref D) cenv)
          (fun r s' => match r with | .ok _ => ∃ m, m < as.length - i ∧ ∃ i' h tk ys' m', m = as.length - i' ∧ i' ≤ as.length ∧ s' = { s with heap := h, toks := tk } ∧ NC H0 D C ys' m' h ∧ h.IsListIter I1 ax i' ∧ IntsAre ys' ((as.take i').flatMap fun a => bs.map (f a)) ∧ ys'.length = i' * bs.length | .error _ => False) s₅ := by
      rintro s₅ hs₅ ⟨tk₅, e₅⟩
      have hmul : i * bs.length ≤ 100 * 100 := Nat.mul_le_mul (by omega) hzb
      refine nest_inner (a := a) (ta := ta) (ys := ys') hh hfr hky hxy hp hlb hb hDC h0C h0D new0 (ne2 hd₂) (ne2 hoC) (by omega) (fun b tb s₂ m₂ hb' hn hx hy hk => helt a ta b tb s₂ m₂ (List.mem_of_getElem? hai) hb' hn hx hy hk) (by rw [hs₅]; exact N₃) (by rw [if_pos rfl]) (by rw [hs₅]; exact ⟨_, Heap.get?_push_size _ rfl, rfl, rfl⟩) ?_
      intro h' tk' ys'' m'' N'' i'' keep''
      have i1l : i + 1 ≤ as.length := by omega
      refine ⟨as.length - (i + 1), by omega, i + 1, h', tk', ys' ++ ys'', m'', rfl, i1l, by rw [e₅], N'', ?_, ?_, ?_⟩
      · refine iter_keep hI1₂ fun o e => keep'' _ _ (Ne.symm hD1) (Ne.symm hC1) (ne2 e) ?_
        rw [hs₅]; exact Heap.get?_push_of_some _ e
      · have : as.take (i + 1) = as.take i ++ [a] := by rw [List.take_add_one, hai]; rfl
        rw [this, List.flatMap_append]
        simpa using IntsAre.app hys' i''
      · rw [List.length_append, hyl, i''.length, List.length_map, Nat.add_mul, Nat.one_mul]
    refine codeAny_of_tree ?_
    show wpAny _ A ((compStart (.ListComp elt [⟨.Name x px, it1, [], 0⟩, ⟨.Name y py, it2, [], 0⟩] scope pos) 1 (.ref h₂.objs.size) (.ref D) cenv).onRaise (fun x => do noteFrame x cenv; standAt theWindowsPlace)) _ _ _
    refine wpAny_notedAt (wpAny_noRaise ?_)
    unfold compStart
    show wpAny _ _ (ask >>= _) _ _ _
    refine wpAny_bind (wpAny_askSetting (wpAny_ite ?_))
    split
    · first
        | refine wpAny_bind (wpAny_pure (wpAny_pure (And.intro rfl (codeAny_mono (inner _ rfl ⟨_, rfl⟩) ?_))))
        | refine wpAny_pure (And.intro rfl (codeAny_mono (inner _ rfl ⟨_, rfl⟩) ?_))
      intro r s' hr
      cases r with
      | ok f => exact wpAny_pure ⟨rfl, hr⟩
      | error e => exact hr.elim
    · refine wpAny_bind (wpAny_rule ?_)
      show wpAny _ _ (standAt it2.pos >>= _) _ _ _
      refine wpAny_bind (wpAny_standAt (wpAny_bind (wpAny_pyIter_listiter ⟨_, Heap.get?_push_size _ rfl, rfl, rfl⟩ (wpAny_pure (And.intro rfl (codeAny_mono (inner _ rfl ⟨_, rfl⟩) ?_))))))
      intro r s' hr
      cases r with
      | ok f => exact wpAny_pure ⟨rfl, hr⟩
      | error e => exact hr.elim
  · have hie : i = as.length := by omega
    subst hie
    refine W.done _ _ _ (by rw [hlen]; exact st) fun h₁ tk₁ hk₁ => wpAny_pure ?_
    have k₁ : ∀ b o, b ≠ I1 → h.get? b = some o → h₁.get? b = some o := fun b o hb e => hk₁ b o (by simpa using hb) e
    rw [List.take_length] at hys'
    exact done h₁ _ ys' m' (hN'.move h01 hD1 hC1 k₁) hys'
end
end Mine
end

section
open PySem PySem.W PyProof.Rows PySem.Calls PySem.Spec
set_option Elab.async false
set_option maxRecDepth 100000
namespace Mine
section
variable {prog : Program} {w : World} {A : Around} {E : Value → Shared → Prop} {env : Env} {s : Shared} {h₀ : Heap} {L : Addr} {m : Str → Option Value}
theorem compN {elt it1 it2 : Expr} {x y : Str} {px py : Pos} {scope : Scope} {cl : List (Str × Addr)} {pos : Pos} {Q : Value → Shared → Prop} (f : Int → Int → Int) (_F₀ : Fr h₀ L s.heap m)
    (hh : A.handled = none) (hclos : closureFor scope env = pure cl) (hcell : ∀ y ∈ scope.names, y.2 ≠ .cell) (hkind : scope.kind = .function)
    (hnames : ∀ y ∈ scope.names, y.2 = .local → scope.names.lookup y.1 = some .local) (hx : scope.names.lookup x = some .local) (hy : scope.names.lookup y = some .local) (hxy : x ≠ y)
    (h : wpAny (model prog w) A (eval it1 env) (fun xv s₁ => Stop (∃ (news : List (Addr × Obj)) (ax : Addr) (va : List Value) (as : List Int) (lb : Addr) (vb : List Value) (bs : List Int), xv = .ref ax ∧ s₁.heap.IsList ax va.toArray ∧ IntsAre va as ∧ as.length ≤ 100 ∧ s₁.heap.IsList lb vb.toArray ∧ IntsAre vb bs ∧ bs.length ≤ 100 ∧ Fr h₀ L s₁.heap m ∧ News h₀ L s₁.heap news ∧
      (∀ C s₂ m₂ Q' E', s₁.heap.objs.size ≤ C → s₂.heap.Ns (compEnvC scope cl C env).locals m₂ → (∀ b o, s₁.heap.get? b = some o → s₂.heap.get? b = some o) → Q' (.ref lb) s₂ → wpAny (model prog w) A (eval it2 (compEnvC scope cl C env)) Q' E' s₂) ∧
      (∀ C a ta b tb s₂ m₂, s₁.heap.objs.size ≤ C → a ∈ as → b ∈ bs → s₂.heap.Ns (compEnvC scope cl C env).locals m₂ → m₂ x = some (.int a ta) → m₂ y = some (.int b tb) → (∀ b o, s₁.heap.get? b = some o → s₂.heap.get? b = some o) →
        wpAny (model prog w) A (eval elt (compEnvC scope cl C env)) (fun v s₃ => Stop ((∃ t, v = .int (f a b) t) ∧ Keeps s₂ s₃)) (fun _ _ => False) s₂) ∧
      (∀ D (ys : List Value) n h' tk, Fr h₀ L h' m → News h₀ L h' ((D, W.listOf ys.toArray n) :: news) → (∀ p ∈ news, p.1 ≠ D) → IntsAre ys (as.flatMap fun a => bs.map (f a)) → Q (.ref D) { s₁ with heap := h', toks := tk }))) E s)
    (hs : ∀ x, foldedSetIterable it1 env x = pure x) (hs2 : ∀ C v, foldedSetIterable it2 (compEnvC scope cl C env) v = pure v) :
    wpAny (model prog w) A (eval (.ListComp elt [⟨.Name x px, it1, [], 0⟩, ⟨.Name y py, it2, [], 0⟩] scope pos) env) Q E s := by
  rw [eval_ListComp]
  refine wpAny_comprehension_free (use := none) rfl hs hclos hkind hnames (wpAny_mono h (fun xv s₁ h₁ => ?_) fun _ _ e => e)
  obtain ⟨news, ax, va, as, lb, vb, bs, rfl, hla, ha, hza, hlb, hb, hzb, F, N, hit2, helt, hq⟩ := h₁
  refine wpAny_pyIter_list hla ?_
  refine wpAny_newObj_type (wpAny_newFunctionEnv hcell (by intro y hy; simp at hy) (fun h₁ hns₁ hsb₁ => ?_) hkind)
  dsimp only at hns₁ hsb₁ ⊢
  generalize hH1 : s₁.heap.push { cls := .type "list_iterator", dict := none, data := .fields #[.ref ax, .int 0 0] } = H1 at hns₁ hsb₁ ⊢
  generalize hH2 : H1.push { cls := .type "list", dict := none, data := .seq ([] : List Value).toArray } = H2 at hns₁ hsb₁ ⊢
  have hD : H1.objs.size = s₁.heap.objs.size + 1 := by rw [← hH1, Heap.size_push]
  have hC : H2.objs.size = s₁.heap.objs.size + 2 := by rw [← hH2, Heap.size_push, hD]
  have old1 : ∀ b o, s₁.heap.get? b = some o → H1.get? b = some o := fun b o e => hH1 ▸ Heap.get?_push_of_some _ e
  have old2 : ∀ b o, H1.get? b = some o → H2.get? b = some o := fun b o e => hH2 ▸ Heap.get?_push_of_some _ e
  have old3 : ∀ b o, H2.get? b = some o → h₁.get? b = some o := fun b o e => hsb₁.extBut b o (Nat.ne_of_lt (Heap.lt_size e)) (Heap.get?_push_of_some _ e)
  have old : ∀ b o, s₁.heap.get? b = some o → h₁.get? b = some o := fun b o e => old3 _ _ (old2 _ _ (old1 b o e))
  have fresh : ∀ a, s₁.heap.objs.size ≤ a → s₁.heap.get? a = none := fun a ha => Heap.get?_none_of_le ha
  have hI1 : h₁.IsListIter s₁.heap.objs.size ax 0 := ⟨_, old3 _ _ (old2 _ _ (hH1 ▸ Heap.get?_push_size _ rfl)), rfl, rfl⟩
  have hL1 : ∃ n, h₁.get? H1.objs.size = some (W.listOf ([] : List Value).toArray n) := ⟨0, old3 _ _ (hH2 ▸ Heap.get?_push_size _ rfl)⟩
  have NC0 : NC s₁.heap H1.objs.size H2.objs.size [] _ h₁ := ⟨old, hns₁, hL1⟩
  have hDC : H1.objs.size ≠ H2.objs.size := by rw [hC, hD]; exact Nat.ne_of_lt (Nat.lt_succ_self _)
  have hDI : H1.objs.size ≠ s₁.heap.objs.size := by rw [hD]; exact Nat.ne_of_gt (Nat.lt_succ_self _)
  have hCI : H2.objs.size ≠ s₁.heap.objs.size := by rw [hC]; exact Nat.ne_of_gt (Nat.lt_succ_of_lt (Nat.lt_succ_self _))
  have loop : ∀ s₃ : Shared, s₃ = { s₁ with heap := h₁, toks := s₁.toks + ([] : List (Str × Value)).length } →
      codeAny (model prog w) A (.compLoop (.ListComp elt [⟨.Name x px, it1, [], 0⟩, ⟨.Name y py, it2, [], 0⟩] scope pos) 0 (.ref s₁.heap.objs.size) (.ref H1.objs.size) (compEnvC scope cl H2.objs.size env))
        (compPost (model prog w) A E none Q (.ref H1.objs.size) H2.objs.size) s₃ := by
    rintro s₃ rfl
    refine nest_outer (H0 := s₁.heap) (C := H2.objs.size) (as := as) (bs := bs) (f := f) hh rfl (lookup_relabel_local hx) (lookup_relabel_local hy) hxy (by simp [compEnvC, relabel, hkind]) hla ha hlb hb hDC (fresh _ (by rw [hC]; exact Nat.le_add_right _ _)) (fresh _ (by rw [hD]; exact Nat.le_add_right _ _)) (fresh _ (Nat.le_refl _)) hDI hCI hza hzb (hs2 _)
      (fun s₂ m₂ Q' E' hn hk q => hit2 _ s₂ m₂ Q' E' (by rw [hC]; exact Nat.le_add_right _ _) hn hk q) (fun a ta b tb s₂ m₂ ha' hb' hn hx' hy' hk => helt _ a ta b tb s₂ m₂ (by rw [hC]; exact Nat.le_add_right _ _) ha' hb' hn hx' hy' hk) NC0 hI1 ?_
    intro h' tk ys' m' N' i'
    refine ⟨m', N'.2.1, fun h'' hs'' => ?_⟩
    obtain ⟨n, hn⟩ := N'.2.2
    have kp : ∀ b o, s₁.heap.get? b = some o → h''.get? b = some o := fun b o e => hs''.extBut b o (fun q => by rw [q, fresh _ (by rw [hC]; exact Nat.le_add_right _ _)] at e; cases e) (N'.1 b o e)
    have hDn : s₁.heap.get? H1.objs.size = none := fresh _ (by rw [hD]; exact Nat.le_add_right _ _)
    refine hq H1.objs.size ys' n h'' tk (F.keeps kp) (fun p hp => ?_) (fun p hp e => by rw [← e, (N p hp).1] at hDn; cases hDn) i'
    rcases List.mem_cons.mp hp with rfl | hp
    · refine ⟨hs''.extBut _ _ hDC hn, fun e => ?_, ?_⟩
      · obtain ⟨o, _, _, ho, _⟩ := F.ns
        have e' : H1.objs.size = L := e
        rw [e', ho] at hDn; cases hDn
      · cases q : h₀.get? H1.objs.size with
        | none => rfl
        | some o => rw [F.keep _ _ q] at hDn; cases hDn
    · exact ⟨kp _ _ (N p hp).1, (N p hp).2⟩
  exact codeAny_compStart_list (loop _ rfl) (wpAny_pyIter_listiter hI1 (loop _ rfl))
end
end Mine
end

section
namespace Mine
open PyProof.Rows
/-- the places below 23 that l holds an odd number of times -/
noncomputable def parF (l : List Int) : List Int := (rangeInts 0 1 23).filter fun c => ((List.count c l : Nat) : Int).fmod 2 == 1
theorem rises_range : Rises (rangeInts 0 1 23) := by
  unfold Rises rangeInts
  rw [List.pairwise_map]
  exact List.pairwise_lt_range.imp fun h => by omega
theorem mem_range {x : Int} : x ∈ rangeInts 0 1 23 ↔ 0 ≤ x ∧ x < 23 := by
  unfold rangeInts
  rw [List.mem_map]
  constructor
  · rintro ⟨i, hi, rfl⟩
    have := List.mem_range.mp hi
    omega
  · intro h
    exact ⟨x.toNat, List.mem_range.mpr (by omega), by omega⟩
theorem parF_rises (l : List Int) : Rises (parF l) := List.Pairwise.filter _ rises_range
theorem parF_in (l : List Int) : ∀ c ∈ parF l, 0 ≤ c ∧ c < 23 := fun c hc => mem_range.mp (List.mem_filter.mp hc).1
theorem parF_len (l : List Int) : (parF l).length ≤ 23 := len23 (parF_rises l) (parF_in l)
end Mine
end

section
open PySem PySem.W
namespace Mine
/-- the row as a natural number: place p from the left is bit 23 - p -/
noncomputable def bitsN (ns : List Int) : Nat := (ns.map fun p => 2 ^ (23 - p).toNat).sum
theorem numF_nat (ns : List Int) : numF ns = (bitsN ns : Nat) := by
  unfold numF bitsN
  induction ns with
  | nil => rfl
  | cons a l ih => simp only [List.map_cons, List.sum_cons, ih]; push_cast; rfl
theorem bitsN_perm {a b : List Int} (p : a.Perm b) : bitsN a = bitsN b := (p.map _).sum_nat
/-- of a rising row: the sum of distinct powers, from the smallest place on -/
theorem bitsN_rises : ∀ {ns : List Int} {q : Int}, Rises ns → (∀ c ∈ ns, q ≤ c ∧ c < 23) → 0 ≤ q → q ≤ 23 → (bitsN ns < 2 ^ (24 - q).toNat) ∧ ∀ k, (bitsN ns).testBit k = decide (1 ≤ k ∧ k ≤ 23 ∧ (23 - (k : Int)) ∈ ns)
  | [], q, _, _, h0, h1 => by
    refine ⟨Nat.two_pow_pos _, fun k => ?_⟩
    simp [bitsN]
  | a :: l, q, r, h, h0, h1 => by
    have ha := h a (.head _)
    have ih := bitsN_rises (ns := l) (q := a + 1) r.tail (fun x hx => ⟨by have := r.head x hx; omega, (h x (.tail _ hx)).2⟩) (by omega) (by omega)
    have e : bitsN (a :: l) = 2 ^ (23 - a).toNat + bitsN l := by simp [bitsN]
    have hlt : bitsN l < 2 ^ (23 - a).toNat := by
      have := ih.1
      rwa [show (24 - (a + 1)).toNat = (23 - a).toNat by omega] at this
    refine ⟨?_, fun k => ?_⟩
    · rw [e]
      have h2 : 2 ^ (24 - a).toNat = 2 * 2 ^ (23 - a).toNat := by rw [show (24 - a).toNat = (23 - a).toNat + 1 by omega, Nat.pow_succ]; omega
      have h3 : 2 ^ (24 - a).toNat ≤ 2 ^ (24 - q).toNat := Nat.pow_le_pow_right (by decide) (by omega)
      omega
    · rw [e]
      have ihk := ih.2 k
      by_cases hk : k = (23 - a).toNat
      · subst hk
        rw [Nat.testBit_two_pow_add_eq, ihk]
        have : ¬ (23 - (((23 - a).toNat : Nat) : Int)) ∈ l := fun hm => by
          have := r.head _ hm; omega
        have e2 : (23 - (((23 - a).toNat : Nat) : Int)) = a := by omega
        rw [e2] at this
        rw [e2]
        simp [this]
        omega
      · by_cases hk2 : k < (23 - a).toNat
        · rw [Nat.testBit_two_pow_add_gt hk2, ihk]
          congr 1
          have : ¬ (23 - (k : Int)) = a := by omega
          simp [this]
        · have hk3 : (23 - a).toNat < k := by omega
          have hlt2 : 2 ^ (23 - a).toNat + bitsN l < 2 ^ k := by
            have h4 : 2 ^ ((23 - a).toNat + 1) ≤ 2 ^ k := Nat.pow_le_pow_right (by decide) hk3
            rw [Nat.pow_succ] at h4
            omega
          rw [Nat.testBit_lt_two_pow hlt2]
          symm
          rw [decide_eq_false_iff_not]
          rintro ⟨_, _, hm⟩
          rcases List.mem_cons.mp hm with q | hm
          · omega
          · have := r.head _ hm; omega
theorem bitsN_test {ns : List Int} (r : Rises ns) (h : ∀ c ∈ ns, 0 ≤ c ∧ c < 23) (k : Nat) : (bitsN ns).testBit k = decide (1 ≤ k ∧ k ≤ 23 ∧ (23 - (k : Int)) ∈ ns) := (bitsN_rises r h (by decide) (by decide)).2 k
theorem bitsN_lt {ns : List Int} (r : Rises ns) (h : ∀ c ∈ ns, 0 ≤ c ∧ c < 23) : bitsN ns < 2 ^ 24 := (bitsN_rises r h (by decide) (by decide)).1
theorem bitsN_even : ∀ {ns : List Int}, (∀ c ∈ ns, 0 ≤ c ∧ c < 23) → bitsN ns % 2 = 0
  | [], _ => rfl
  | a :: l, h => by
    have e : bitsN (a :: l) = 2 ^ (23 - a).toNat + bitsN l := by simp [bitsN]
    have ih := bitsN_even (ns := l) fun x hx => h x (.tail _ hx)
    have ha := h a (.head _)
    have h2 : 2 ^ (23 - a).toNat = 2 * 2 ^ (22 - a).toNat := by rw [show (23 - a).toNat = (22 - a).toNat + 1 by omega, Nat.pow_succ]; omega
    omega
end Mine
end

section
open PySem PySem.W
set_option maxRecDepth 100000
namespace Mine
theorem fd_nat (n : Nat) (c : Nat) : ((n : Int).fdiv (c : Int)).fmod 2 = ((n / c % 2 : Nat) : Int) := by
  rw [Int.fmod_eq_emod_of_nonneg _ (by decide), Int.fdiv_eq_ediv_of_nonneg _ (by omega)]
  push_cast; rfl
/-- a number from its bits, the lowest first -/
noncomputable def ofR : List Bool → Nat
  | [] => 0
  | b :: l => 2 * ofR l + b.toNat
theorem ofR_test : ∀ (l : List Bool) (k : Nat), (ofR l).testBit k = l.getD k false
  | [], k => by simp [ofR]
  | b :: l, 0 => by
    cases b <;> simp [ofR, Nat.testBit_zero] <;> omega
  | b :: l, k + 1 => by
    have h : (2 * ofR l + b.toNat) / 2 = ofR l := by cases b <;> simp <;> omega
    rw [ofR, Nat.testBit_succ, h, ofR_test l k]
    simp
theorem ofR_lt : ∀ l : List Bool, ofR l < 2 ^ l.length
  | [] => by simp [ofR]
  | b :: l => by
    have := ofR_lt l
    rw [ofR, List.length_cons, Nat.pow_succ]
    cases b <;> simp <;> omega
/-- the dealt number -/
noncomputable def dealN (r : Nat) : Nat := ofR ((List.range 24).map fun k => r.testBit (k % 4 * 6 + k / 4))
theorem dealN_lt (r : Nat) : dealN r < 2 ^ 24 := by
  have := ofR_lt ((List.range 24).map fun k => r.testBit (k % 4 * 6 + k / 4))
  simpa [dealN] using this
theorem dealN_test (r : Nat) {k : Nat} (h : k < 24) : (dealN r).testBit k = r.testBit (k % 4 * 6 + k / 4) := by
  rw [dealN, ofR_test]
  simp [List.getD, h]
theorem dealF_nat {r : Nat} : dealF (r : Int) = (dealN r : Nat) := by
  unfold dealF
  have e1 : (r : Int) / 262144 = ((r / 262144 : Nat) : Int) := by simp
  have e2 : (r : Int) / 4096 % 64 = ((r / 4096 % 64 : Nat) : Int) := by simp
  have e3 : (r : Int) / 64 % 64 = ((r / 64 % 64 : Nat) : Int) := by simp
  have e4 : (r : Int) % 64 = ((r % 64 : Nat) : Int) := by simp
  rw [e1, e2, e3, e4]
  unfold dealJ
  simp only [List.foldl_cons, List.foldl_nil]
  have f : ∀ n : Nat, (((n : Int)).fdiv 1).fmod 2 = ((n / 1 % 2 : Nat) : Int) ∧ (((n : Int)).fdiv 2).fmod 2 = ((n / 2 % 2 : Nat) : Int) ∧ (((n : Int)).fdiv 4).fmod 2 = ((n / 4 % 2 : Nat) : Int) ∧ (((n : Int)).fdiv 8).fmod 2 = ((n / 8 % 2 : Nat) : Int) ∧ (((n : Int)).fdiv 16).fmod 2 = ((n / 16 % 2 : Nat) : Int) ∧ (((n : Int)).fdiv 32).fmod 2 = ((n / 32 % 2 : Nat) : Int) :=
    fun n => ⟨fd_nat n 1, fd_nat n 2, fd_nat n 4, fd_nat n 8, fd_nat n 16, fd_nat n 32⟩
  simp only [(f _).1, (f _).2.1, (f _).2.2.1, (f _).2.2.2.1, (f _).2.2.2.2.1, (f _).2.2.2.2.2]
  have g : ∀ (a b i : Nat), a * b = 2 ^ i → r / a / b % 2 = (r.testBit i).toNat := fun a b i e => by rw [Nat.div_div_eq_div_mul, e, Nat.toNat_testBit]
  have k : ∀ (a b i j : Nat), b = 2 ^ j → j < 6 → a * b = 2 ^ i → (r / a % 64) / b % 2 = (r.testBit i).toNat := fun a b i j hb hj e => by
    rw [hb, ← Nat.toNat_testBit, show (64 : Nat) = 2 ^ 6 from rfl, Nat.testBit_mod_two_pow, decide_eq_true hj, Bool.true_and, Nat.toNat_testBit, ← hb, Nat.div_div_eq_div_mul, e, Nat.toNat_testBit]
  have k1 : ∀ (b i : Nat), b = 2 ^ i → i < 6 → (r % 64) / b % 2 = (r.testBit i).toNat := fun b i e hj => by
    rw [e, ← Nat.toNat_testBit, show (64 : Nat) = 2 ^ 6 from rfl, Nat.testBit_mod_two_pow, decide_eq_true hj, Bool.true_and]
  rw [k1 1 0 (by decide) (by decide), k1 2 1 (by decide) (by decide), k1 4 2 (by decide) (by decide), k1 8 3 (by decide) (by decide), k1 16 4 (by decide) (by decide), k1 32 5 (by decide) (by decide),
    k 64 1 6 0 (by decide) (by decide) (by decide), k 64 2 7 1 (by decide) (by decide) (by decide), k 64 4 8 2 (by decide) (by decide) (by decide), k 64 8 9 3 (by decide) (by decide) (by decide), k 64 16 10 4 (by decide) (by decide) (by decide), k 64 32 11 5 (by decide) (by decide) (by decide),
    k 4096 1 12 0 (by decide) (by decide) (by decide), k 4096 2 13 1 (by decide) (by decide) (by decide), k 4096 4 14 2 (by decide) (by decide) (by decide), k 4096 8 15 3 (by decide) (by decide) (by decide), k 4096 16 16 4 (by decide) (by decide) (by decide), k 4096 32 17 5 (by decide) (by decide) (by decide),
    g 262144 1 18 (by decide), g 262144 2 19 (by decide), g 262144 4 20 (by decide), g 262144 8 21 (by decide), g 262144 16 22 (by decide), g 262144 32 23 (by decide)]
  have e : dealN r = ofR [r.testBit 0, r.testBit 6, r.testBit 12, r.testBit 18, r.testBit 1, r.testBit 7, r.testBit 13, r.testBit 19, r.testBit 2, r.testBit 8, r.testBit 14, r.testBit 20, r.testBit 3, r.testBit 9, r.testBit 15, r.testBit 21, r.testBit 4, r.testBit 10, r.testBit 16, r.testBit 22, r.testBit 5, r.testBit 11, r.testBit 17, r.testBit 23] := rfl
  rw [e]
  simp only [ofR, Int.natCast_add, Int.natCast_mul]
  rfl
end Mine
end

section
open PySem PySem.W
set_option maxRecDepth 100000
namespace Mine
/-- cell x (taken round 23) of a row -/
noncomputable def cb (r : Nat) (x : Int) : Bool := r.testBit (23 - x % 23).toNat
/-- is x, taken round 23, among the cells? -/
noncomputable def cellsB (cells : List Int) (x : Int) : Bool := decide (x % 23 ∈ cells)
/-- the cells at m times the ways back, taken together -/
noncomputable def conv (m : Int) : List Int → (Int → Bool) → Int → Bool
  | [], _, _ => false
  | w :: ws, F, x => F (x - m * w) ^^ conv m ws F x
theorem conv_xor (m : Int) (A B : Int → Bool) (x : Int) : ∀ ws, conv m ws (fun y => A y ^^ B y) x = (conv m ws A x ^^ conv m ws B x)
  | [] => rfl
  | w :: ws => by
    simp only [conv, conv_xor m A B x ws]
    generalize A (x - m * w) = a; generalize B (x - m * w) = b; generalize conv m ws A x = c; generalize conv m ws B x = d
    cases a <;> cases b <;> cases c <;> cases d <;> rfl
theorem conv_shift (m d : Int) (F : Int → Bool) (x : Int) : ∀ ws, conv m ws (fun y => F (y - d)) x = conv m ws F (x - d)
  | [] => rfl
  | w :: ws => by
    simp only [conv, conv_shift m d F x ws]
    rw [show x - m * w - d = x - d - m * w by omega]
theorem conv_congr {m : Int} {F G : Int → Bool} (h : ∀ x, F x = G x) (ws : List Int) (x : Int) : conv m ws F x = conv m ws G x := by
  rw [show F = G from funext h]
theorem conv_conv (m : Int) (F : Int → Bool) : ∀ (ws : List Int) (x : Int), conv m ws (conv m ws F) x = conv (2 * m) ws F x
  | [], _ => rfl
  | w :: ws, x => by
    have e : conv m ws (conv m (w :: ws) F) x = (conv m ws F (x - m * w) ^^ conv (2 * m) ws F x) := by
      have : (conv m (w :: ws) F) = fun y => (F (y - m * w) ^^ conv m ws F y) := rfl
      rw [this, conv_xor, conv_shift, conv_conv m F ws x]
    show (conv m (w :: ws) F (x - m * w) ^^ conv m ws (conv m (w :: ws) F) x) = _
    rw [e]
    simp only [conv]
    rw [show x - m * w - m * w = x - 2 * m * w by rw [Int.mul_assoc]; omega]
    generalize F (x - 2 * m * w) = a; generalize conv m ws F (x - m * w) = b; generalize conv (2 * m) ws F x = c
    cases a <;> cases b <;> cases c <;> rfl
theorem conv_four (F : Int → Bool) (ws : List Int) (x : Int) : conv 1 ws (conv 1 ws (conv 1 ws (conv 1 ws F))) x = conv 4 ws F x := by
  rw [conv_conv, show conv 1 ws (conv 1 ws F) = conv (2 * 1) ws F from funext (conv_conv 1 F ws), conv_conv]; rfl
/-- round 23 -/
def Per (F : Int → Bool) : Prop := ∀ x y : Int, x % 23 = y % 23 → F x = F y
theorem per_cb (r : Nat) : Per (cb r) := fun x y h => by unfold cb; rw [h]
theorem per_cells (l : List Int) : Per (cellsB l) := fun x y h => by unfold cellsB; rw [h]
theorem per_conv {F : Int → Bool} (P : Per F) (m : Int) (ws : List Int) : Per (conv m ws F) := by
  intro x y h
  induction ws with
  | nil => rfl
  | cons w ws ih =>
    simp only [conv, ih]
    rw [P (x - m * w) (y - m * w) (by generalize m * w = q; omega)]
/-- dealt first or last -/
theorem conv_deal {F : Int → Bool} (P : Per F) (x : Int) : ∀ ws, conv 4 ws (fun y => F (6 * y)) x = conv 1 ws F (6 * x)
  | [] => rfl
  | w :: ws => by
    simp only [conv, conv_deal P x ws]
    rw [P (6 * (x - 4 * w)) (6 * x - 1 * w) (by omega)]
/-- a number as a row: the cells, and the last bit -/
def Row (r : Int) (F : Int → Bool) (l : Int) : Prop := ∃ R : Nat, r = R ∧ R < 2 ^ 24 ∧ ((R % 2 : Nat) : Int) = l ∧ ∀ x, cb R x = F x
theorem Row.within {r l : Int} {F : Int → Bool} (h : Row r F l) : 0 ≤ r ∧ r < 16777216 := by
  obtain ⟨R, rfl, h1, _⟩ := h
  have : (2 : Nat) ^ 24 = 16777216 := by decide
  omega
theorem Row.of {r : Int} (h0 : 0 ≤ r) (h1 : r < 16777216) : Row r (cb r.toNat) (r % 2) := by
  have : (2 : Nat) ^ 24 = 16777216 := by decide
  exact ⟨r.toNat, by omega, by omega, by omega, fun _ => rfl⟩
theorem Row.ext {r r' l : Int} {F G : Int → Bool} (h : Row r F l) (h' : Row r' G l) (e : ∀ x, F x = G x) : r = r' := by
  obtain ⟨R, rfl, a1, a2, a3⟩ := h
  obtain ⟨S, rfl, b1, b2, b3⟩ := h'
  have : R = S := by
    apply Nat.eq_of_testBit_eq
    intro k
    match k with
    | 0 => rw [Nat.testBit_zero, Nat.testBit_zero, show R % 2 = S % 2 by omega]
    | k + 1 =>
      by_cases hk : k + 1 < 24
      · have h := (a3 (23 - ((k + 1 : Nat) : Int))).trans ((e _).trans (b3 _).symm)
        unfold cb at h
        rwa [show (23 - (23 - ((k + 1 : Nat) : Int)) % 23).toNat = k + 1 by omega] at h
      · have hp : 2 ^ 24 ≤ 2 ^ (k + 1) := Nat.pow_le_pow_right (by decide) (by omega)
        rw [Nat.testBit_lt_two_pow (Nat.lt_of_lt_of_le a1 hp), Nat.testBit_lt_two_pow (Nat.lt_of_lt_of_le b1 hp)]
  rw [this]
theorem Row.congr {r l : Int} {F G : Int → Bool} (h : Row r F l) (e : ∀ x, F x = G x) : Row r G l := by
  rw [← show F = G from funext e]; exact h
theorem Row.num {ns : List Int} {l : Int} (r : Rises ns) (h : ∀ c ∈ ns, 0 ≤ c ∧ c < 23) (h0 : 0 ≤ l) (h1 : l ≤ 1) : Row (numF ns + l) (cellsB ns) l := by
  have hlt := bitsN_lt r h
  have hev := bitsN_even h
  have ht := bitsN_test r h
  rw [numF_nat]
  have h24 : (2 : Nat) ^ 24 = 16777216 := by decide
  refine ⟨bitsN ns + l.toNat, by omega, by omega, by omega, fun x => ?_⟩
  unfold cb cellsB
  obtain ⟨k, hk⟩ : ∃ k, (23 - x % 23).toNat = k + 1 := ⟨(22 - x % 23).toNat, by omega⟩
  have h2 := ht (k + 1)
  rw [Nat.testBit_succ] at h2
  rw [hk, Nat.testBit_succ, show (bitsN ns + l.toNat) / 2 = bitsN ns / 2 by omega, h2]
  rw [show (23 - ((k + 1 : Nat) : Int)) = x % 23 by omega]
  congr 1
  exact propext ⟨fun z => z.2.2, fun z => ⟨by omega, by omega, z⟩⟩
theorem Row.deal {r l : Int} {F : Int → Bool} (h : Row r F l) : Row (dealF r) (fun x => F (6 * x)) l := by
  obtain ⟨R, rfl, a1, a2, a3⟩ := h
  refine ⟨dealN R, dealF_nat, dealN_lt R, ?_, fun x => ?_⟩
  · have h := dealN_test R (k := 0) (by decide)
    rw [Nat.testBit_zero, show (0 % 4 * 6 + 0 / 4) = 0 from rfl, Nat.testBit_zero] at h
    have h3 : (dealN R % 2 = 1 ↔ R % 2 = 1) := by rw [← decide_eq_true_iff (p := dealN R % 2 = 1), h, decide_eq_true_iff]
    omega
  · show cb (dealN R) x = F (6 * x)
    rw [← a3]
    unfold cb
    rw [dealN_test R (by omega)]
    congr 1
    omega
end Mine
end

section
open PySem PySem.W
set_option maxRecDepth 100000
namespace Mine
noncomputable def ringN (ring : Nat) (ns : List Int) (a : Nat) : Nat := ns.foldl (fun a n => a ^^^ ((ring / 2 ^ n.toNat) ||| (ring * 2 ^ (23 - n).toNat))) a
theorem ringF_nat (ring : Nat) : ∀ (ns : List Int) (a : Nat), ns.foldl (fun a n => Builtin.bitXor a (Builtin.bitOr ((ring : Int).fdiv (2 ^ n.toNat)) ((ring : Int) * 2 ^ (23 - n).toNat))) (a : Int) = (ringN ring ns a : Nat)
  | [], a => rfl
  | n :: ns, a => by
    have e1 : (ring : Int).fdiv (2 ^ n.toNat) = ((ring / 2 ^ n.toNat : Nat) : Int) := by
      rw [Int.fdiv_eq_ediv_of_nonneg _ (Int.le_of_lt (Int.pow_pos (by decide)))]; push_cast; rfl
    have e2 : (ring : Int) * 2 ^ (23 - n).toNat = ((ring * 2 ^ (23 - n).toNat : Nat) : Int) := by push_cast; rfl
    rw [List.foldl_cons, e1, e2, bitOr_nat, bitXor_nat, ringF_nat ring ns]
    rfl
theorem ringN_test {r : Nat} (h : r < 2 ^ 24) {j : Nat} (hj : j < 23) : ∀ (ns : List Int) (a : Nat), (∀ c ∈ ns, 0 ≤ c ∧ c < 23) → (ringN (r / 2) ns a).testBit j = (a.testBit j ^^ conv 1 ns (cb r) (22 - j))
  | [], a, _ => by simp [ringN, conv]
  | n :: ns, a, hn => by
    have hb := hn n (.head _)
    have ih := ringN_test h hj ns (a ^^^ ((r / 2 / 2 ^ n.toNat) ||| (r / 2 * 2 ^ (23 - n).toNat))) fun c hc => hn c (.tail _ hc)
    show (ringN (r / 2) ns (a ^^^ ((r / 2 / 2 ^ n.toNat) ||| (r / 2 * 2 ^ (23 - n).toNat)))).testBit j = _
    rw [ih, Nat.testBit_xor, Nat.testBit_or]
    have e : ((r / 2 / 2 ^ n.toNat).testBit j || (r / 2 * 2 ^ (23 - n).toNat).testBit j) = cb r (22 - j - 1 * n) := by
      rw [Nat.testBit_div_two_pow, Nat.testBit_mul_two_pow, ← Nat.testBit_succ, cb]
      by_cases hc : j + n.toNat < 23
      · rw [show decide ((23 - n).toNat ≤ j) = false from decide_eq_false (by omega), Bool.false_and, Bool.or_false]
        congr 1; omega
      · have hz : r.testBit (n.toNat + j + 1) = false := Nat.testBit_lt_two_pow (Nat.lt_of_lt_of_le h (Nat.pow_le_pow_right (by decide) (by omega)))
        rw [show (j + n.toNat).succ = n.toNat + j + 1 by omega, hz, Bool.false_or, show decide ((23 - n).toNat ≤ j) = true from decide_eq_true (by omega), Bool.true_and, ← Nat.testBit_succ]
        congr 1; omega
    rw [e]
    simp only [conv]
    rw [Bool.xor_assoc]
theorem Row.step {r l : Int} {F : Int → Bool} {ways : List Int} (h : Row r F l) (hw : ∀ c ∈ ways, 0 ≤ c ∧ c < 23) : Row (stepF r ways) (conv 1 ways F) l := by
  obtain ⟨R, rfl, a1, a2, a3⟩ := h
  have e : stepF (R : Int) ways = (((ringN (R / 2) ways 0 &&& 8388607) * 2 ||| (R &&& 1) : Nat) : Int) := by
    unfold stepF ringF
    have e1 : (R : Int).fdiv (2 ^ Int.toNat 1) = ((R / 2 : Nat) : Int) := by
      rw [Int.fdiv_eq_ediv_of_nonneg _ (by decide)]; push_cast; rfl
    have h0 := ringF_nat (R / 2) ways 0
    rw [e1, show (0 : Int) = ((0 : Nat) : Int) from rfl, h0, show (8388607 : Int) = ((8388607 : Nat) : Int) from rfl, bitAnd_nat, show (1 : Int) = ((1 : Nat) : Int) from rfl, bitAnd_nat]
    rw [show (((ringN (R / 2) ways 0 &&& 8388607 : Nat) : Int) * 2 ^ Int.toNat ((1 : Nat) : Int)) = (((ringN (R / 2) ways 0 &&& 8388607) * 2 : Nat) : Int) by push_cast; rfl, bitOr_nat]
  have h24 : (2 : Nat) ^ 24 = 16777216 := by decide
  have hm : ringN (R / 2) ways 0 &&& 8388607 ≤ 8388607 := Nat.and_le_right
  have h1 : R &&& 1 = R % 2 := Nat.and_one_is_mod R
  have e2 : ((ringN (R / 2) ways 0 &&& 8388607) * 2 ||| (R &&& 1)) = (ringN (R / 2) ways 0 &&& 8388607) * 2 + R % 2 := by
    have := Nat.two_pow_add_eq_or_of_lt (i := 1) (b := R % 2) (by omega) (ringN (R / 2) ways 0 &&& 8388607)
    rw [h1, Nat.mul_comm, this]
  rw [e2] at e
  refine ⟨_, e, by omega, by omega, fun x => ?_⟩
  have hc : conv 1 ways F x = conv 1 ways (cb R) (x % 23) := by
    rw [conv_congr a3 ways]
    exact per_conv (by rw [← show cb R = F from funext a3]; exact per_cb R) _ _ _ _ (by omega)
  rw [hc]
  unfold cb
  obtain ⟨j, hj⟩ : ∃ j, (23 - x % 23).toNat = j + 1 := ⟨(22 - x % 23).toNat, by omega⟩
  rw [hj, Nat.testBit_succ, show ((ringN (R / 2) ways 0 &&& 8388607) * 2 + R % 2) / 2 = (ringN (R / 2) ways 0 &&& 8388607) by omega, Nat.testBit_and]
  rw [ringN_test a1 (by omega) ways 0 hw, Nat.zero_testBit, Bool.false_xor]
  rw [show (8388607 : Nat) = 2 ^ 23 - 1 from rfl, Nat.testBit_two_pow_sub_one, show decide (j < 23) = true from decide_eq_true (by omega), Bool.and_true]
  rw [show (22 - (j : Int)) = x % 23 by omega]
  rfl
end Mine
end

section
open PySem PySem.W PyProof.Rows
set_option maxRecDepth 100000
namespace Mine
/-- the row of cells dealt out -/
noncomputable def mvF (cells : List Int) : List Int := cells.map fun c => (4 * c).fmod 23
noncomputable def sumsF (cells ways : List Int) : List Int := cells.flatMap fun a => ways.map fun b => (4 * (a + b)).fmod 23
theorem sumsF_len {cells ways : List Int} (hc : cells.length ≤ 23) (hw : ways.length ≤ 23) : (sumsF cells ways).length ≤ 529 := by
  unfold sumsF
  rw [List.length_flatMap]
  have : ∀ l : List Int, (l.map fun a => (ways.map fun b => (4 * (a + b)).fmod 23).length).sum ≤ 23 * l.length := by
    intro l
    induction l with
    | nil => simp
    | cons a l ih => simp only [List.map_cons, List.sum_cons, List.length_map, List.length_cons] at ih ⊢; omega
  have := this cells
  omega
theorem fmod23 (x : Int) : x.fmod 23 = x % 23 := Int.fmod_eq_emod_of_nonneg _ (by decide)
theorem row_in {cells : List Int} {last : Int} (r : Rises cells) (h : ∀ c ∈ cells, 0 ≤ c ∧ c < 23) (h0 : 0 ≤ last) (h1 : last ≤ 1) : 0 ≤ numF cells + last ∧ numF cells + last < 16777216 := (Row.num r h h0 h1).within
theorem mvF_in {cells moved : List Int} (p : moved.Perm (mvF cells)) : ∀ c ∈ moved, 0 ≤ c ∧ c < 23 := by
  intro c hc
  obtain ⟨k, _, e⟩ := List.mem_map.mp (p.mem_iff.mp hc)
  rw [fmod23] at e
  omega
theorem mvF_rises {cells moved : List Int} (r : Rises cells) (h : ∀ c ∈ cells, 0 ≤ c ∧ c < 23) (p : moved.Perm (mvF cells)) (o : moved.Pairwise (· ≤ ·)) : Rises moved := by
  refine rises_of p o (nodup_map_on (fun a ha b hb e => ?_) r.nodup)
  have h1 := h a ha
  have h2 := h b hb
  rw [fmod23, fmod23] at e
  omega
theorem mv_cells {cells moved : List Int} (h : ∀ c ∈ cells, 0 ≤ c ∧ c < 23) (p : moved.Perm (mvF cells)) (x : Int) : cellsB moved x = cellsB cells (6 * x) := by
  unfold cellsB
  congr 1
  rw [p.mem_iff, mvF, List.mem_map]
  refine propext ⟨fun ⟨c, hc, e⟩ => ?_, fun hm => ⟨_, hm, ?_⟩⟩
  · have hb := h c hc
    rw [fmod23] at e
    rwa [show (6 * x) % 23 = c by omega]
  · rw [fmod23]; omega
theorem deal_in {cells : List Int} {last : Int} (r : Rises cells) (h : ∀ c ∈ cells, 0 ≤ c ∧ c < 23) (h0 : 0 ≤ last) (h1 : last ≤ 1) : 0 ≤ dealF (numF cells + last) ∧ dealF (numF cells + last) < 16777216 := (Row.num r h h0 h1).deal.within
theorem step_in {r : Int} {ways : List Int} (h0 : 0 ≤ r) (h1 : r < 16777216) (hw : ∀ c ∈ ways, 0 ≤ c ∧ c < 23) : 0 ≤ stepF r ways ∧ stepF r ways < 16777216 := ((Row.of h0 h1).step hw).within
theorem deal_law' {cells moved : List Int} {last : Int} (r : Rises cells) (h : ∀ c ∈ cells, 0 ≤ c ∧ c < 23) (h0 : 0 ≤ last) (h1 : last ≤ 1) (p : moved.Perm (mvF cells)) (o : moved.Pairwise (· ≤ ·)) : dealF (numF cells + last) = numF moved + last :=
  (Row.num r h h0 h1).deal.ext (Row.num (mvF_rises r h p o) (mvF_in p) h0 h1) fun x => (mv_cells h p x).symm
/-- how often a place is told -/
theorem count_sums (x : Int) (cells ways : List Int) (b : Int) : (sumsF cells (b :: ways)).count x = (sumsF cells ways).count x + (cells.map fun a => (4 * (a + b)).fmod 23).count x := by
  unfold sumsF
  induction cells with
  | nil => rfl
  | cons a l ih =>
    simp only [List.flatMap_cons, List.map_cons, List.count_append, List.count_cons] at ih ⊢
    omega
theorem count_one {cells : List Int} (r : Rises cells) (h : ∀ c ∈ cells, 0 ≤ c ∧ c < 23) {x : Int} (h0 : 0 ≤ x) (h1 : x < 23) (b : Int) : (cells.map fun a => (4 * (a + b)).fmod 23).count x = (cellsB cells (6 * x - b)).toNat := by
  have nd : (cells.map fun a => (4 * (a + b)).fmod 23).Nodup := by
    refine nodup_map_on (fun a ha c hc e => ?_) r.nodup
    have h1 := h a ha
    have h2 := h c hc
    rw [fmod23, fmod23] at e
    omega
  have hm : x ∈ (cells.map fun a => (4 * (a + b)).fmod 23) ↔ (6 * x - b) % 23 ∈ cells := by
    rw [List.mem_map]
    refine ⟨fun ⟨c, hc, e⟩ => ?_, fun hm => ⟨_, hm, ?_⟩⟩
    · have hb := h c hc
      rw [fmod23] at e
      rwa [show (6 * x - b) % 23 = c by omega]
    · rw [fmod23]; omega
  have hle := List.nodup_iff_count.mp nd x
  unfold cellsB
  by_cases hx : (6 * x - b) % 23 ∈ cells
  · rw [show decide ((6 * x - b) % 23 ∈ cells) = true from decide_eq_true hx]
    have := List.count_pos_iff.mpr (hm.mpr hx)
    simp; omega
  · rw [show decide ((6 * x - b) % 23 ∈ cells) = false from decide_eq_false hx]
    rw [List.count_eq_zero.mpr fun z => hx (hm.mp z)]; rfl
theorem par_sums {cells : List Int} (r : Rises cells) (h : ∀ c ∈ cells, 0 ≤ c ∧ c < 23) {x : Int} (h0 : 0 ≤ x) (h1 : x < 23) : ∀ ways : List Int, (sumsF cells ways).count x % 2 = (conv 1 ways (cellsB cells) (6 * x)).toNat
  | [] => by
    have : sumsF cells [] = [] := by unfold sumsF; simp
    rw [this]; rfl
  | b :: ways => by
    have ih := par_sums r h h0 h1 ways
    rw [count_sums, count_one r h h0 h1]
    simp only [conv]
    rw [show 6 * x - 1 * b = 6 * x - b by omega]
    revert ih
    generalize cellsB cells (6 * x - b) = p
    generalize conv 1 ways (cellsB cells) (6 * x) = q
    generalize (sumsF cells ways).count x = n
    intro ih
    cases p <;> cases q <;> simp at ih ⊢ <;> omega
theorem due_cells {cells ways : List Int} (r : Rises cells) (h : ∀ c ∈ cells, 0 ≤ c ∧ c < 23) (x : Int) : cellsB (parF (sumsF cells ways)) x = conv 1 ways (cellsB cells) (6 * x) := by
  have hp : conv 1 ways (cellsB cells) (6 * x) = conv 1 ways (cellsB cells) (6 * (x % 23)) := per_conv (per_cells cells) _ _ _ _ (by omega)
  have hs := par_sums r h (x := x % 23) (by omega) (by omega) ways
  rw [hp]
  have hm : x % 23 ∈ parF (sumsF cells ways) ↔ (((sumsF cells ways).count (x % 23) : Nat) : Int).fmod 2 = 1 := by
    rw [parF, List.mem_filter, mem_range]
    exact ⟨fun z => eq_of_beq z.2, fun z => ⟨by omega, beq_iff_eq.mpr z⟩⟩
  rw [show cellsB (parF (sumsF cells ways)) x = decide (x % 23 ∈ parF (sumsF cells ways)) from rfl]
  generalize (sumsF cells ways).count (x % 23) = n at hs hm
  generalize conv 1 ways _ (6 * (x % 23)) = q at hs ⊢
  have hf : ((n : Int)).fmod 2 = ((n % 2 : Nat) : Int) := by rw [Int.fmod_eq_emod_of_nonneg _ (by decide)]; omega
  rw [hf, hs] at hm
  cases q
  · exact decide_eq_false fun z => by have := hm.mp z; simp at this
  · exact decide_eq_true (hm.mpr rfl)
theorem law_one {cells ways : List Int} {last : Int} (r : Rises cells) (h : ∀ c ∈ cells, 0 ≤ c ∧ c < 23) (rway : Rises ways) (hw : ∀ c ∈ ways, 0 ≤ c ∧ c < 23) (h0 : 0 ≤ last) (h1 : last ≤ 1) : dealF (stepF (numF cells + last) ways) = numF (parF (sumsF cells ways)) + last :=
  ((Row.num r h h0 h1).step hw).deal.ext (Row.num (parF_rises _) (parF_in _) h0 h1) fun x => (due_cells r h x).symm
theorem law_four {cells ways : List Int} {last : Int} (r : Rises cells) (h : ∀ c ∈ cells, 0 ≤ c ∧ c < 23) (rway : Rises ways) (hw : ∀ c ∈ ways, 0 ≤ c ∧ c < 23) (h0 : 0 ≤ last) (h1 : last ≤ 1) :
    stepF (stepF (stepF (stepF (dealF (numF cells + last)) ways) ways) ways) ways = numF (parF (sumsF cells ways)) + last :=
  ((((Row.num r h h0 h1).deal.step hw).step hw).step hw).step hw |>.ext (Row.num (parF_rises _) (parF_in _) h0 h1) fun x => by
    rw [conv_four, due_cells r h x]
    exact conv_deal (per_cells cells) x ways
theorem foldl_conv {cells : List Int} (h : ∀ c ∈ cells, 0 ≤ c ∧ c < 23) {x : Int} (h0 : 0 ≤ x) (h1 : x < 23) : ∀ (ws : List Int) (b : Bool), ws.foldl (fun b w => b ^^ decide (x ∈ cells.map fun k => (k + w).fmod 23)) b = (b ^^ conv 1 ws (cellsB cells) x)
  | [], b => by simp [conv]
  | w :: ws, b => by
    have e : decide (x ∈ cells.map fun k => (k + w).fmod 23) = cellsB cells (x - 1 * w) := by
      unfold cellsB
      congr 1
      rw [List.mem_map]
      refine propext ⟨fun ⟨c, hc, e⟩ => ?_, fun hm => ⟨_, hm, ?_⟩⟩
      · have hb := h c hc
        rw [fmod23] at e
        rwa [show (x - 1 * w) % 23 = c by omega]
      · rw [fmod23]; omega
    rw [List.foldl_cons, foldl_conv h h0 h1 ws, e, Bool.xor_assoc]; rfl
theorem told_cells {cells ws told : List Int} (h : ∀ c ∈ cells, 0 ≤ c ∧ c < 23) (T : Told cells ws told) (x : Int) : cellsB told x = conv 1 ws (cellsB cells) x := by
  have hp : conv 1 ws (cellsB cells) x = conv 1 ws (cellsB cells) (x % 23) := per_conv (per_cells cells) _ _ _ _ (by omega)
  have hf := foldl_conv h (x := x % 23) (by omega) (by omega) ws false
  have hm := T.2.1 (x % 23)
  rw [hp, show cellsB told x = decide (x % 23 ∈ told) from rfl]
  rw [Bool.false_xor] at hf
  rw [← hf]
  unfold toldB at hm
  generalize List.foldl _ false ws = b at hm ⊢
  cases b <;> simp at hm ⊢ <;> exact hm
theorem rises_ext : ∀ {a b : List Int}, Rises a → Rises b → (∀ x, x ∈ a ↔ x ∈ b) → a = b
  | [], [], _, _, _ => rfl
  | [], y :: b, _, _, h => absurd ((h y).mpr (.head _)) (by simp)
  | x :: a, [], _, _, h => absurd ((h x).mp (.head _)) (by simp)
  | x :: a, y :: b, ra, rb, h => by
    have e : x = y := by
      rcases List.mem_cons.mp ((h x).mp (.head _)) with q | hx
      · exact q
      rcases List.mem_cons.mp ((h y).mpr (.head _)) with q | hy
      · exact q.symm
      have h1 := rb.head _ hx
      have h2 := ra.head _ hy
      omega
    subst e
    congr 1
    refine rises_ext ra.tail rb.tail fun z => ⟨fun hz => ?_, fun hz => ?_⟩
    · rcases List.mem_cons.mp ((h z).mp (.tail _ hz)) with q | hx
      · have := ra.head _ hz; omega
      · exact hx
    · rcases List.mem_cons.mp ((h z).mpr (.tail _ hz)) with q | hx
      · have := rb.head _ hz; omega
      · exact hx
theorem law_cells {cells ways mv t1 t2 t3 t4 : List Int} (r : Rises cells) (h : ∀ c ∈ cells, 0 ≤ c ∧ c < 23) (rway : Rises ways) (hway : ∀ c ∈ ways, 0 ≤ c ∧ c < 23) (p : mv.Perm (mvF cells)) (ord : mv.Pairwise (· ≤ ·))
    (T1 : Told mv ways t1) (T2 : Told t1 ways t2) (T3 : Told t2 ways t3) (T4 : Told t3 ways t4) : t4 = parF (sumsF cells ways) := by
  have e : ∀ x, cellsB t4 x = cellsB (parF (sumsF cells ways)) x := fun x => by
    rw [told_cells T3.2.2 T4, conv_congr (told_cells T2.2.2 T3), show conv 1 ways (conv 1 ways (cellsB t2)) = conv 1 ways (conv 1 ways (conv 1 ways (cellsB t1))) by rw [show cellsB t2 = _ from funext (told_cells T1.2.2 T2)]]
    rw [show cellsB t1 = _ from funext (told_cells (mvF_in p) T1), conv_four, due_cells r h x, show cellsB mv = _ from funext (mv_cells h p)]
    exact conv_deal (per_cells cells) x ways
  refine rises_ext T4.1 (parF_rises _) fun x => ?_
  constructor
  · intro hx
    have hb := T4.2.2 x hx
    have := e x
    unfold cellsB at this
    rw [show x % 23 = x by omega, decide_eq_true hx] at this
    exact of_decide_eq_true this.symm
  · intro hx
    have hb := parF_in _ x hx
    have := e x
    unfold cellsB at this
    rw [show x % 23 = x by omega, decide_eq_true hx] at this
    exact of_decide_eq_true this
theorem deal_law {cells moved : List Int} {last : Int} (r : Rises cells) (h : ∀ c ∈ cells, 0 ≤ c ∧ c < 23) (h0 : 0 ≤ last) (h1 : last ≤ 1) (p : moved.Perm (mvF cells)) (o : moved.Pairwise (· ≤ ·)) : dealF (numF cells + last) = numF moved + last := deal_law' r h h0 h1 p o
end Mine
end

section
open PySem PySem.W PyProof.Rows PySem.Calls PySem.Spec
set_option Elab.async false
set_option maxRecDepth 100000
set_option maxHeartbeats 8000000
set_option linter.unusedVariables false
namespace Mine
def AllNe (d : Nat) : List (Addr × Obj) → Prop
  | [] => True
  | p :: r => @Ne Nat p.1 d ∧ AllNe d r
theorem allNe_of {d : Addr} : ∀ {l : List (Addr × Obj)}, (∀ p ∈ l, p.1 ≠ d) → AllNe d l
  | [], _ => trivial
  | p :: _, h => ⟨h p (.head _), allNe_of fun q hq => h q (.tail _ hq)⟩
noncomputable def evensF (script : List Int) : List Int := (List.filter (fun x => x.fmod 2 == 0) (List.take 24 script)).map fun x => (x.fdiv 2).fmod 24
noncomputable def oddsF (script : List Int) : List Int := (List.filter (fun x => x.fmod 2 == 1) (List.take 24 script)).map fun x => (x.fdiv 2).fmod 23
theorem evensF_len (script : List Int) : (evensF script).length ≤ 24 := by
  unfold evensF
  rw [List.length_map]
  refine Nat.le_trans (List.length_filter_le _ _) ?_
  rw [List.length_take]; omega
theorem oddsF_len (script : List Int) : (oddsF script).length ≤ 24 := by
  unfold oddsF
  rw [List.length_map]
  refine Nat.le_trans (List.length_filter_le _ _) ?_
  rw [List.length_take]; omega
theorem lm_of {m : Str → Option Value} {D : Addr} {l : Int} {t : Tok} (h1 : m (Str.ofString "cells") = some (.ref D)) (h2 : m (Str.ofString "last") = some (.int l t)) :
    m = fun y => if y = Str.ofString "cells" then some (.ref D) else if y = Str.ofString "last" then some (.int l t) else m y := by
  funext y
  split
  · subst_vars; exact h1
  · split
    · subst_vars; exact h2
    · rfl
theorem fr_law {g : Heap} {L : Addr} {h : Heap} {m : Str → Option Value} {D : Addr} {l : Int} {t : Tok} (F : Fr g L h m) (h1 : m (Str.ofString "cells") = some (.ref D)) (h2 : m (Str.ofString "last") = some (.int l t)) :
    ∃ rest : Str → Option Value, Fr g L h (fun y => if y = Str.ofString "cells" then some (.ref D) else if y = Str.ofString "last" then some (.int l t) else rest y) := ⟨m, by rw [← lm_of h1 h2]; exact F⟩
theorem fr_law2 {g : Heap} {L : Addr} {h : Heap} {m : Str → Option Value} {Dm Dd : Addr} {l r d : Int} {t1 t2 t3 : Tok} (F : Fr g L h m) (h1 : m (Str.ofString "dealt") = some (.int d t1)) (h2 : m (Str.ofString "moved") = some (.ref Dm)) (h3 : m (Str.ofString "row") = some (.int r t2))
    (h4 : m (Str.ofString "due") = some (.ref Dd)) (h5 : m (Str.ofString "last") = some (.int l t3)) :
    ∃ rest : Str → Option Value, Fr g L h (fun y => if y = Str.ofString "dealt" then some (.int d t1) else if y = Str.ofString "moved" then some (.ref Dm) else if y = Str.ofString "row" then some (.int r t2) else if y = Str.ofString "due" then some (.ref Dd) else if y = Str.ofString "last" then some (.int l t3) else rest y) := by
  refine ⟨m, ?_⟩
  have e : m = (fun y => if y = Str.ofString "dealt" then some (.int d t1) else if y = Str.ofString "moved" then some (.ref Dm) else if y = Str.ofString "row" then some (.int r t2) else if y = Str.ofString "due" then some (.ref Dd) else if y = Str.ofString "last" then some (.int l t3) else m y) := by
    funext y
    split
    · subst_vars; exact h1
    · split
      · subst_vars; exact h2
      · split
        · subst_vars; exact h3
        · split
          · subst_vars; exact h4
          · split
            · subst_vars; exact h5
            · rfl
  rw [← e]; exact F
theorem after_led {g : Heap} {L : Addr} {h he : Heap} {m : Str → Option Value} {It Dm Dd Dw c De : Addr} {oi om od ow oc oe : Obj} (F : Fr g L h m) (N : News g L h [(It, oi), (Dm, om), (Dd, od), (Dw, ow), (c, oc)])
    (kp : ∀ b o, b ≠ L → h.get? b = some o → he.get? b = some o) (hre : he.get? De = some oe) (fre : h.get? De = none) :
    News g L he [(It, oi), (De, oe), (Dd, od), (Dw, ow), (c, oc)] ∧ @Ne Nat De It ∧ @Ne Nat De Dd ∧ @Ne Nat De Dw ∧ @Ne Nat De c := by
  have ne : ∀ {c : Addr} {o : Obj}, h.get? c = some o → De ≠ c := fun hc q => by rw [q, hc] at fre; cases fre
  have qI := N _ (.head _)
  have qd := N _ (.tail _ (.tail _ (.head _)))
  have qw := N _ (.tail _ (.tail _ (.tail _ (.head _))))
  have qc := N _ (.tail _ (.tail _ (.tail _ (.tail _ (.head _)))))
  refine ⟨fun p hp => ?_, ne qI.1, ne qd.1, ne qw.1, ne qc.1⟩
  rcases List.mem_cons.mp hp with rfl | hp
  · exact ⟨kp _ _ qI.2.1 qI.1, qI.2⟩
  rcases List.mem_cons.mp hp with rfl | hp
  · refine ⟨hre, ?_, ?_⟩
    · obtain ⟨o, _, _, ho, _⟩ := F.ns
      exact ne ho
    · cases q : g.get? De with
      | none => rfl
      | some o => rw [F.keep _ _ q] at fre; cases fre
  rcases List.mem_cons.mp hp with rfl | hp
  · exact ⟨kp _ _ qd.2.1 qd.1, qd.2⟩
  rcases List.mem_cons.mp hp with rfl | hp
  · exact ⟨kp _ _ qw.2.1 qw.1, qw.2⟩
  rcases List.mem_cons.mp hp with rfl | hp
  · exact ⟨kp _ _ qc.2.1 qc.1, qc.2⟩
  cases hp
theorem after_fr {g : Heap} {L : Addr} {h he : Heap} {m : Str → Option Value} {oL : Obj} {sl : Array (Option Value)} (F : Fr g L h m) (hg : g.get? L = none) (hoL : h.get? L = some oL) (kp : ∀ b o, b ≠ L → h.get? b = some o → he.get? b = some o) (hL : he.get? L = some { oL with slots := sl }) : Fr g L he m :=
  Fr.slots F (fun b o q e => kp b o (fun z => by rw [z, hg] at q; cases q) e) (fun o e => ⟨sl, by rw [hoL] at e; cases e; exact hL⟩)
theorem fmod2_in (n : Nat) : 0 ≤ ((n : Int)).fmod 2 ∧ ((n : Int)).fmod 2 ≤ 1 := by
  rw [Int.fmod_eq_emod_of_nonneg _ (by decide)]; omega
theorem w0 : PySem.Challenge.rw_oc0023_01.Holds := hd (by
  k_with_none
  k_with "own:call ref" => (k_here; refine wpStop ?_)
  k_with "own:eval ListComp" => (k_here; refine wpStop ?_)
  k_with "own:exec Assign cons ListComp" => (k_here; refine wpStop ?_)
  w_strict (
    k_go0
    (all_goals try k_fold)
    rename_i wd s₀ s₁ mg mb G Y fa o pm doc ho hg KX XM V GL T Bt TE TW wa wb Mb wc wd2 hcd script hs hlay0 hLy hr hl2 wl1 wl2 lS vS wl3 hLS ra w1 r0 hIS hrr hcond hct K0 hD h₁ tk₁ F₁ o1 o2 o3 o4 c1 c2 c3 c4 N₁ X0
    clear X0 hD w1 r0 ra hrr hct
    k_steps
    refine Stop.intro (compL (fun x => x.fmod 2 == 0) (fun x => (x.fdiv 2).fmod 24) (by k_asm) rfl (by with_unfolding_all rfl) (by decide) rfl (by decide) rfl ?_ (by intro _; rfl))
    k_steps
    refine Stop.intro ⟨_, _, _, _, rfl, (by is_list), (by assumption), (by omega), (by k_asm), (by k_asm), ?test, ?elt, ?rest⟩
    case test =>
      intro C k u s₂ m₂ E' hC hk hn hm kp
      k_steps
      exact Stop.intro ⟨rfl, ⟨_, _, rfl, fun _ _ e => e⟩⟩
    case elt =>
      intro C k u s₂ m₂ E' hC hk hn hm kp
      k_steps
      exact Stop.intro ⟨⟨_, rfl⟩, ⟨_, _, rfl, fun _ _ e => e⟩⟩
    intro D1 ys1 n1 h' tk F' N' hD hi1
    replace hi1 : IntsAre ys1 (evensF script) := hi1
    have hl1 := evensF_len script
    generalize evensF script = evens at hi1 hl1
    replace hD := allNe_of hD
    dsimp only [AllNe] at hD
    dsimp only
    k_steps
    refine Stop.intro (compL (fun x => x.fmod 2 == 1) (fun x => (x.fdiv 2).fmod 23) (by k_asm) rfl (by with_unfolding_all rfl) (by decide) rfl (by decide) rfl ?_ (by intro _; rfl))
    k_steps
    refine Stop.intro ⟨_, _, _, _, rfl, (by is_list), (by assumption), (by omega), (by k_asm), (by k_asm), ?test2, ?elt2, ?rest2⟩
    case test2 =>
      intro C k u s₂ m₂ E' hC hk hn hm kp
      k_steps
      exact Stop.intro ⟨rfl, ⟨_, _, rfl, fun _ _ e => e⟩⟩
    case elt2 =>
      intro C k u s₂ m₂ E' hC hk hn hm kp
      k_steps
      exact Stop.intro ⟨⟨_, rfl⟩, ⟨_, _, rfl, fun _ _ e => e⟩⟩
    intro D2 ys2 n2 h' tk F' N' hD2 hi2
    replace hi2 : IntsAre ys2 (oddsF script) := hi2
    have hl2' := oddsF_len script
    generalize oddsF script = odds at hi2 hl2'
    replace hD2 := allNe_of hD2
    dsimp only [AllNe] at hD2
    dsimp only
    k_steps
    rename_i Dh vh hh1 iH lH hh2 oH dH tkx l22 hh3 l3 tky Dt vt hh4 iT lT hh5 oT F3 N3 dT
    have N4 : News s₁.heap s₁.heap.objs.size hh5 [(Dt, W.listOf vt.toArray 0), (Dh, W.listOf vh.toArray 0), (s₁.heap.objs.size + 1 + 1 + 1 + 1, o1), (s₁.heap.objs.size + 1 + 1 + 1, o2), (s₁.heap.objs.size + 1 + 1, oT), (s₁.heap.objs.size + 1, oH)] := fun p hp => N3 p (by
      simp only [List.mem_cons, List.not_mem_nil, or_false] at hp ⊢
      rcases hp with rfl | rfl | rfl | rfl | rfl | rfl <;> simp)
    clear N3 hD hD2
    refine Stop.intro (compRA (fun c => ((List.count c ([5, 23] ++ evens) : Nat) : Int).fmod 2 == 1) (fun c => c) (by k_asm) (by with_unfolding_all rfl) rfl rfl (by with_unfolding_all rfl) (by decide) rfl (by decide) rfl rfl rfl ?_ (by intro _; rfl))
    k_steps
    refine Stop.intro ⟨_, _, 0, 23, 1, _, _, _, 23, rfl, (by assumption), (by decide +kernel), (by decide +kernel), (by decide), (by k_asm), (by k_asm), ?test3, ?elt3, ?rest3⟩
    case test3 =>
      intro C k u s₂ m₂ E' hC hk hn hm kp
      k_steps
      exact Stop.intro ⟨rfl, ⟨_, _, rfl, fun _ _ e => e⟩⟩
    case elt3 =>
      intro C k u s₂ m₂ E' hC hk hn hm kp
      k_steps
      exact Stop.intro ⟨⟨_, rfl⟩, ⟨_, _, rfl, fun _ _ e => e⟩⟩
    intro Dc vc nc h' tk F' N' hDc iC
    replace hDc := allNe_of hDc
    dsimp only [AllNe] at hDc
    replace F' : Fr s₁.heap s₁.heap.objs.size h' _ := F'
    replace N' : News s₁.heap s₁.heap.objs.size h' _ := N'
    replace iC : IntsAre vc (parF (5 :: 23 :: evens)) := by rw [List.map_id'] at iC; exact iC
    have rC := parF_rises (5 :: 23 :: evens)
    have bC := parF_in (5 :: 23 :: evens)
    have lC := parF_len (5 :: 23 :: evens)
    generalize parF (5 :: 23 :: evens) = cells at iC rC bC lC
    dsimp only
    k_steps
    refine Stop.intro (wpAny_Assign_Name ?_ (by with_unfolding_all rfl))
    k_steps
    refine Stop.intro (compR (fun c => ((List.count c (1 :: 22 :: odds) : Nat) : Int).fmod 2 == 1) (fun c => c) (by k_asm) rfl (by with_unfolding_all rfl) (by decide) rfl (by decide) rfl ?_ (by intro _; rfl))
    k_steps
    refine Stop.intro ⟨_, _, 0, 23, 1, _, _, _, 23, rfl, (by assumption), (by decide +kernel), (by decide +kernel), (by decide), (by k_asm), (by k_asm), ?test4, ?elt4, ?rest4⟩
    case test4 =>
      intro C k u s₂ m₂ E' hC hk hn hm kp
      k_steps
      exact Stop.intro ⟨rfl, ⟨_, _, rfl, fun _ _ e => e⟩⟩
    case elt4 =>
      intro C k u s₂ m₂ E' hC hk hn hm kp
      k_steps
      exact Stop.intro ⟨⟨_, rfl⟩, ⟨_, _, rfl, fun _ _ e => e⟩⟩
    intro Dw vw nw h' tk F' N' hDw iW
    replace hDw := allNe_of hDw
    dsimp only [AllNe] at hDw
    replace F' : Fr s₁.heap s₁.heap.objs.size h' _ := F'
    replace N' : News s₁.heap s₁.heap.objs.size h' _ := N'
    replace iW : IntsAre vw (parF (1 :: 22 :: odds)) := by rw [List.map_id'] at iW; exact iW
    have rW := parF_rises (1 :: 22 :: odds)
    have bW := parF_in (1 :: 22 :: odds)
    have lW := parF_len (1 :: 22 :: odds)
    generalize parF (1 :: 22 :: odds) = ways at iW rW bW lW
    dsimp only
    k_steps
    rename_i hX1 oW dW tkz hX2 F5 N5
    have hla := fmod2_in (List.count 23 ([5, 23] ++ evens))
    generalize ((List.count 23 ([5, 23] ++ evens) : Nat) : Int).fmod 2 = last at F5 hla
    obtain ⟨rest, F6⟩ := fr_law F5 (D := Dc) (l := last) rfl rfl
    have N6 : News s₁.heap s₁.heap.objs.size hX2 [(Dw, W.listOf vw.toArray nw), (Dc, W.listOf vc.toArray nc), (s₁.heap.objs.size + 1 + 1 + 1 + 1, o1), (s₁.heap.objs.size + 1 + 1 + 1, oW)] := fun p hp => N5 p (by
      simp only [List.mem_cons, List.not_mem_nil, or_false] at hp ⊢
      rcases hp with rfl | rfl | rfl | rfl <;> simp)
    have ad : @Ne Nat Dc Dw ∧ @Ne Nat (s₁.heap.objs.size + 1 + 1 + 1 + 1) Dc ∧ @Ne Nat (s₁.heap.objs.size + 1 + 1 + 1) Dc ∧ @Ne Nat (s₁.heap.objs.size + 1 + 1 + 1 + 1) Dw ∧ @Ne Nat (s₁.heap.objs.size + 1 + 1 + 1) Dw := by refine ⟨?_, ?_, ?_, ?_, ?_⟩ <;> with_reducible (first | exact hDw.1 | exact hDw.2.1 | exact hDw.2.2.1 | exact hDw.2.2.2.1 | exact hDw.2.2.2.2.1 | exact hDw.2.2.2.2.2.1 | exact hDw.2.2.2.2.2.2.1 | exact hDw.2.2.2.2.2.2.2.1 | exact hDw.2.2.2.2.2.2.2.2.1 | exact hDc.1 | exact hDc.2.1 | exact hDc.2.2.1 | exact hDc.2.2.2.1 | exact hDc.2.2.2.2.1 | exact hDc.2.2.2.2.2.1 | exact hDc.2.2.2.2.2.2.1 | exact hDc.2.2.2.2.2.2.2.1 | exact hDc.2.2.2.2.2.2.2.2.1)
    clear F5 N5 lT hDc hDw
    refine Stop.intro (c_number K0 F6 KX T rfl ⟨_, (N6 _ (.tail _ (.head _))).1, rfl, nc, rfl⟩ iC lC bC ?_)
    intro t7 h7 tk7 kp7
    have F7 := F6.keeps kp7
    have N7 := N6.grown kp7
    clear F6 N6 kp7
    dsimp only
    k_steps
    rename_i h8 F8 N8
    have hrow := row_in rC bC hla.1 hla.2
    refine Stop.intro (c_dealt K0 F8 KX T rfl hrow.1 hrow.2 ?_)
    intro t9 h9 tk9 kp9
    have F9 := F8.keeps kp9
    have N9 := N8.grown kp9
    clear F8 N8 kp9
    dsimp only
    k_steps
    refine Stop.intro (compL (fun _ => true) (fun c => (4 * c).fmod 23) (by k_asm) rfl (by with_unfolding_all rfl) (by decide) rfl (by decide) rfl ?_ (by intro _; rfl))
    k_steps
    refine Stop.intro ⟨_, _, _, _, rfl, (by is_list), iC, (Nat.le_trans lC (by decide)), (by k_asm), (by k_asm), ?test5, ?elt5, ?rest5⟩
    case test5 =>
      intro C k u s₂ m₂ E' hC hk hn hm kp
      k_steps
      exact Stop.intro ⟨rfl, ⟨_, _, rfl, fun _ _ e => e⟩⟩
    case elt5 =>
      intro C k u s₂ m₂ E' hC hk hn hm kp
      k_steps
      exact Stop.intro ⟨⟨_, rfl⟩, ⟨_, _, rfl, fun _ _ e => e⟩⟩
    intro Dp vp np hhp tkp Fp Np hDp iP
    replace iP : IntsAre vp (mvF cells) := by rw [List.filter_eq_self.mpr (fun _ _ => rfl)] at iP; exact iP
    have lP : (mvF cells).length ≤ 23 := by unfold mvF; rw [List.length_map]; exact lC
    replace hDp := allNe_of hDp
    dsimp only [AllNe] at hDp
    dsimp only
    k_steps
    rename_i Dm vm mv cm hm0 iM eM pM oM bM p0M l1M hm1 F10 N10
    have rM := mvF_rises rC bC pM oM
    have bM' := mvF_in pM
    have lM : mv.length ≤ 23 := eM ▸ (by unfold mvF; rw [List.length_map]; exact lC)
    have hdl := deal_law rC bC hla.1 hla.2 pM oM
    have N11 : News s₁.heap s₁.heap.objs.size hm1 [(Dm, W.listOf vm.toArray cm), (Dw, W.listOf vw.toArray nw), (Dc, W.listOf vc.toArray nc), (s₁.heap.objs.size + 1 + 1 + 1 + 1, o1), (s₁.heap.objs.size + 1 + 1 + 1, oW)] := fun p hp => N10 p (by
      simp only [List.mem_cons, List.not_mem_nil, or_false] at hp ⊢
      rcases hp with rfl | rfl | rfl | rfl | rfl <;> simp)
    clear N10 hDp bM p0M iP lP
    refine Stop.intro (c_number K0 F10 KX T rfl ⟨_, (N11 _ (.head _)).1, rfl, cm, rfl⟩ iM lM bM' ?_)
    intro t12 h12 tk12 kp12
    have F12 := F10.keeps kp12
    have N12 := N11.grown kp12
    clear F10 N11 kp12
    dsimp only
    k_steps
    refine Stop.intro (wpAny_Assign_Name ?_ (by with_unfolding_all rfl))
    k_steps
    refine Stop.intro (compN (fun c w => (4 * (c + w)).fmod 23) (by k_asm) rfl (by with_unfolding_all rfl) (by decide) rfl (by decide) rfl rfl (by decide) ?_ (by intro _; rfl) (by intro _ _; rfl))
    k_steps
    refine Stop.intro ⟨_, _, _, _, Dw, _, _, rfl, (by is_list), iC, (Nat.le_trans lC (by decide)), (by is_list), iW, (Nat.le_trans lW (by decide)), (by k_asm), (by k_asm), ?it6, ?elt6, ?rest6⟩
    case it6 =>
      intro C s₂ m₂ Q' E' hC hn kp hq
      k_steps
      exact hq
    case elt6 =>
      intro C a ta b tb s₂ m₂ hC ha hb hn hx hy kp
      k_steps
      exact Stop.intro ⟨⟨_, rfl⟩, ⟨_, _, rfl, fun _ _ e => e⟩⟩
    intro Ds vsm nsm hsm tksm Fs Ns hDs iS
    replace iS : IntsAre vsm (sumsF cells ways) := iS
    have lS' := sumsF_len lC lW
    replace hDs := allNe_of hDs
    dsimp only [AllNe] at hDs
    dsimp only
    k_steps
    rename_i hs1 oS F14 N14 dS
    refine Stop.intro (compRA (fun c => ((List.count c (sumsF cells ways) : Nat) : Int).fmod 2 == 1) (fun c => c) (by k_asm) (by with_unfolding_all rfl) rfl rfl (by with_unfolding_all rfl) (by decide) rfl (by decide) rfl rfl rfl ?_ (by intro _; rfl))
    k_steps
    refine Stop.intro ⟨_, _, 0, 23, 1, _, _, _, 23, rfl, (by assumption), (by decide +kernel), (by decide +kernel), (by decide), (by k_asm), (by k_asm), ?test7, ?elt7, ?rest7⟩
    case test7 =>
      intro C k u s₂ m₂ E' hC hk hn hm kp
      k_steps
      exact Stop.intro ⟨rfl, ⟨_, _, rfl, fun _ _ e => e⟩⟩
    case elt7 =>
      intro C k u s₂ m₂ E' hC hk hn hm kp
      k_steps
      exact Stop.intro ⟨⟨_, rfl⟩, ⟨_, _, rfl, fun _ _ e => e⟩⟩
    intro Dd vd nd hdd tkd Fd Nd hDd iD
    replace hDd := allNe_of hDd
    dsimp only [AllNe] at hDd
    replace Fd : Fr s₁.heap s₁.heap.objs.size hdd _ := Fd
    replace Nd : News s₁.heap s₁.heap.objs.size hdd _ := Nd
    replace iD : IntsAre vd (parF (sumsF cells ways)) := by rw [List.map_id'] at iD; exact iD
    have rD := parF_rises (sumsF cells ways)
    have bD := parF_in (sumsF cells ways)
    have lD := parF_len (sumsF cells ways)
    obtain ⟨rest2, F15⟩ := fr_law2 Fd (d := dealF (numF cells + last)) (Dm := Dm) (r := numF cells + last) (Dd := Dd) (l := last) rfl rfl rfl rfl rfl
    have N15 : News s₁.heap s₁.heap.objs.size hdd [(Dm, W.listOf vm.toArray cm), (Dd, W.listOf vd.toArray nd), (Dw, W.listOf vw.toArray nw), (s₁.heap.objs.size + 1 + 1 + 1, oW)] := fun p hp => Nd p (by
      simp only [List.mem_cons, List.not_mem_nil, or_false] at hp ⊢
      rcases hp with rfl | rfl | rfl | rfl <;> simp)
    have ad2 : @Ne Nat Dm Dd ∧ @Ne Nat Dw Dd ∧ @Ne Nat (s₁.heap.objs.size + 1 + 1 + 1) Dd ∧ @Ne Nat Dw Dm ∧ @Ne Nat (s₁.heap.objs.size + 1 + 1 + 1) Dm := by refine ⟨?_, ?_, ?_, Nat.ne_of_lt l1M.2.1, Nat.ne_of_lt l1M.2.2.2.2⟩ <;> with_reducible (first | exact hDd.1 | exact hDd.2.1 | exact hDd.2.2.1 | exact hDd.2.2.2.1 | exact hDd.2.2.2.2.1 | exact hDd.2.2.2.2.2.1 | exact hDd.2.2.2.2.2.2.1 | exact hDd.2.2.2.2.2.2.2.1 | exact hDd.2.2.2.2.2.2.2.2.1)
    have hd0 := deal_in rC bC hla.1 hla.2
    have hfour := law_four rC bC rW bW hla.1 hla.2
    clear Fd Nd hDd hDs
    generalize dealF (numF cells + last) = d0 at F15 hd0 hfour hdl ⊢
    dsimp only
    k_steps
    (rename News _ _ _ _ => Na1)
    (rename Fr _ _ _ _ => Fa1)
    have Nb1 : News s₁.heap s₁.heap.objs.size _ _ := Na1
    have Fb1 : Fr s₁.heap s₁.heap.objs.size _ _ := Fa1
    clear Na1 Fa1
    refine Stop.intro (c_step K0 Fb1 KX T rfl ⟨_, (Nb1 _ (.tail _ (.tail _ (.tail _ (.head _))))).1, rfl, nw, rfl⟩ iW lW bW hd0.1 hd0.2 ?_)
    intro tb1 hb1 tkb1 kpb1
    have Fc1 := Fb1.keeps kpb1
    have Nc1 := Nb1.grown kpb1
    have hd1 := step_in hd0.1 hd0.2 bW
    generalize stepF d0 ways = d1 at hd1 hfour ⊢
    clear Fb1 Nb1 kpb1
    dsimp only
    k_steps
    (rename News _ _ _ _ => Nd1)
    (rename Fr _ _ _ _ => Fd1)
    have ge1 : News s₁.heap s₁.heap.objs.size _ _ := Nd1
    have gf1 : Fr s₁.heap s₁.heap.objs.size _ _ := Fd1
    clear Nd1 Fd1
    obtain ⟨oL1, esL1, epL1, hoL1, hdL1, hkL1, hfL1⟩ := gf1.ns
    refine Stop.intro (c_cells (base := s₁.heap) (o0 := oL1) gf1.keep KX T rfl ⟨hoL1, Heap.get?_none_of_le (Nat.le_refl _)⟩ ⟨_, _, hdL1⟩ ⟨_, (ge1 _ (.tail _ (.head _))).1, rfl, cm, rfl⟩ iM ⟨_, (ge1 _ (.tail _ (.tail _ (.tail _ (.head _))))).1, rfl, nw, rfl⟩ iW rM bM' lM lW bW ?_)
    intro De1 ce1 ve1 mv1 he1 tke1 sle1 kpe1 hLe1 fre1 hre1 iM1 hT1
    have rM1 := hT1.1
    have bM1 := hT1.2.2
    have lM1 := len23 rM1 bM1
    have Fg1 := after_fr gf1 (Heap.get?_none_of_le (Nat.le_refl _)) hoL1 kpe1 hLe1
    obtain ⟨Ng1, ad1⟩ := after_led gf1 ge1 kpe1 hre1 fre1
    clear kpe1 hre1 hLe1 hoL1 fre1 ge1 gf1 hdL1 hkL1 hfL1
    dsimp only
    k_steps
    (rename News _ _ _ _ => Na2)
    (rename Fr _ _ _ _ => Fa2)
    have Nb2 : News s₁.heap s₁.heap.objs.size _ _ := Na2
    have Fb2 : Fr s₁.heap s₁.heap.objs.size _ _ := Fa2
    clear Na2 Fa2
    refine Stop.intro (c_step K0 Fb2 KX T rfl ⟨_, (Nb2 _ (.tail _ (.tail _ (.tail _ (.head _))))).1, rfl, nw, rfl⟩ iW lW bW hd1.1 hd1.2 ?_)
    intro tb2 hb2 tkb2 kpb2
    have Fc2 := Fb2.keeps kpb2
    have Nc2 := Nb2.grown kpb2
    have hd2 := step_in hd1.1 hd1.2 bW
    generalize stepF d1 ways = d2 at hd2 hfour ⊢
    clear Fb2 Nb2 kpb2
    dsimp only
    k_steps
    (rename News _ _ _ _ => Nd2)
    (rename Fr _ _ _ _ => Fd2)
    have ge2 : News s₁.heap s₁.heap.objs.size _ _ := Nd2
    have gf2 : Fr s₁.heap s₁.heap.objs.size _ _ := Fd2
    clear Nd2 Fd2
    obtain ⟨oL2, esL2, epL2, hoL2, hdL2, hkL2, hfL2⟩ := gf2.ns
    refine Stop.intro (c_cells (base := s₁.heap) (o0 := oL2) gf2.keep KX T rfl ⟨hoL2, Heap.get?_none_of_le (Nat.le_refl _)⟩ ⟨_, _, hdL2⟩ ⟨_, (ge2 _ (.tail _ (.head _))).1, rfl, ce1, rfl⟩ iM1 ⟨_, (ge2 _ (.tail _ (.tail _ (.tail _ (.head _))))).1, rfl, nw, rfl⟩ iW rM1 bM1 lM1 lW bW ?_)
    intro De2 ce2 ve2 mv2 he2 tke2 sle2 kpe2 hLe2 fre2 hre2 iM2 hT2
    have rM2 := hT2.1
    have bM2 := hT2.2.2
    have lM2 := len23 rM2 bM2
    have Fg2 := after_fr gf2 (Heap.get?_none_of_le (Nat.le_refl _)) hoL2 kpe2 hLe2
    obtain ⟨Ng2, ad2⟩ := after_led gf2 ge2 kpe2 hre2 fre2
    clear kpe2 hre2 hLe2 hoL2 fre2 ge2 gf2 hdL2 hkL2 hfL2
    dsimp only
    k_steps
    (rename News _ _ _ _ => Na3)
    (rename Fr _ _ _ _ => Fa3)
    have Nb3 : News s₁.heap s₁.heap.objs.size _ _ := Na3
    have Fb3 : Fr s₁.heap s₁.heap.objs.size _ _ := Fa3
    clear Na3 Fa3
    refine Stop.intro (c_step K0 Fb3 KX T rfl ⟨_, (Nb3 _ (.tail _ (.tail _ (.tail _ (.head _))))).1, rfl, nw, rfl⟩ iW lW bW hd2.1 hd2.2 ?_)
    intro tb3 hb3 tkb3 kpb3
    have Fc3 := Fb3.keeps kpb3
    have Nc3 := Nb3.grown kpb3
    have hd3 := step_in hd2.1 hd2.2 bW
    generalize stepF d2 ways = d3 at hd3 hfour ⊢
    clear Fb3 Nb3 kpb3
    dsimp only
    k_steps
    (rename News _ _ _ _ => Nd3)
    (rename Fr _ _ _ _ => Fd3)
    have ge3 : News s₁.heap s₁.heap.objs.size _ _ := Nd3
    have gf3 : Fr s₁.heap s₁.heap.objs.size _ _ := Fd3
    clear Nd3 Fd3
    obtain ⟨oL3, esL3, epL3, hoL3, hdL3, hkL3, hfL3⟩ := gf3.ns
    refine Stop.intro (c_cells (base := s₁.heap) (o0 := oL3) gf3.keep KX T rfl ⟨hoL3, Heap.get?_none_of_le (Nat.le_refl _)⟩ ⟨_, _, hdL3⟩ ⟨_, (ge3 _ (.tail _ (.head _))).1, rfl, ce2, rfl⟩ iM2 ⟨_, (ge3 _ (.tail _ (.tail _ (.tail _ (.head _))))).1, rfl, nw, rfl⟩ iW rM2 bM2 lM2 lW bW ?_)
    intro De3 ce3 ve3 mv3 he3 tke3 sle3 kpe3 hLe3 fre3 hre3 iM3 hT3
    have rM3 := hT3.1
    have bM3 := hT3.2.2
    have lM3 := len23 rM3 bM3
    have Fg3 := after_fr gf3 (Heap.get?_none_of_le (Nat.le_refl _)) hoL3 kpe3 hLe3
    obtain ⟨Ng3, ad3⟩ := after_led gf3 ge3 kpe3 hre3 fre3
    clear kpe3 hre3 hLe3 hoL3 fre3 ge3 gf3 hdL3 hkL3 hfL3
    dsimp only
    k_steps
    (rename News _ _ _ _ => Na4)
    (rename Fr _ _ _ _ => Fa4)
    have Nb4 : News s₁.heap s₁.heap.objs.size _ _ := Na4
    have Fb4 : Fr s₁.heap s₁.heap.objs.size _ _ := Fa4
    clear Na4 Fa4
    refine Stop.intro (c_step K0 Fb4 KX T rfl ⟨_, (Nb4 _ (.tail _ (.tail _ (.tail _ (.head _))))).1, rfl, nw, rfl⟩ iW lW bW hd3.1 hd3.2 ?_)
    intro tb4 hb4 tkb4 kpb4
    have Fc4 := Fb4.keeps kpb4
    have Nc4 := Nb4.grown kpb4
    have hd4 := step_in hd3.1 hd3.2 bW
    generalize stepF d3 ways = d4 at hd4 hfour ⊢
    clear Fb4 Nb4 kpb4
    dsimp only
    k_steps
    (rename News _ _ _ _ => Nd4)
    (rename Fr _ _ _ _ => Fd4)
    have ge4 : News s₁.heap s₁.heap.objs.size _ _ := Nd4
    have gf4 : Fr s₁.heap s₁.heap.objs.size _ _ := Fd4
    clear Nd4 Fd4
    obtain ⟨oL4, esL4, epL4, hoL4, hdL4, hkL4, hfL4⟩ := gf4.ns
    refine Stop.intro (c_cells (base := s₁.heap) (o0 := oL4) gf4.keep KX T rfl ⟨hoL4, Heap.get?_none_of_le (Nat.le_refl _)⟩ ⟨_, _, hdL4⟩ ⟨_, (ge4 _ (.tail _ (.head _))).1, rfl, ce3, rfl⟩ iM3 ⟨_, (ge4 _ (.tail _ (.tail _ (.tail _ (.head _))))).1, rfl, nw, rfl⟩ iW rM3 bM3 lM3 lW bW ?_)
    intro De4 ce4 ve4 mv4 he4 tke4 sle4 kpe4 hLe4 fre4 hre4 iM4 hT4
    have rM4 := hT4.1
    have bM4 := hT4.2.2
    have lM4 := len23 rM4 bM4
    have Fg4 := after_fr gf4 (Heap.get?_none_of_le (Nat.le_refl _)) hoL4 kpe4 hLe4
    obtain ⟨Ng4, ad4⟩ := after_led gf4 ge4 kpe4 hre4 fre4
    clear kpe4 hre4 hLe4 hoL4 fre4 ge4 gf4 hdL4 hkL4 hfL4
    dsimp only
    k_steps
    have hm4 := law_cells rC bC rW bW pM oM hT1 hT2 hT3 hT4
    have hone := law_one rC bC rW bW hla.1 hla.2
    subst hm4 hfour
    (rename News _ _ _ _ => Na5)
    (rename Fr _ _ _ _ => Fa5)
    have Nb5 : News s₁.heap s₁.heap.objs.size _ _ := Na5
    have Fb5 : Fr s₁.heap s₁.heap.objs.size _ _ := Fa5
    clear Na5 Fa5
    refine Stop.intro (c_number K0 Fb5 KX T rfl ⟨_, (Nb5 _ (.tail _ (.head _))).1, rfl, nd, rfl⟩ iD lD bD ?_)
    intro t20 h20 tk20 kp20
    have F20 := Fb5.keeps kp20
    have N20 := Nb5.grown kp20
    clear Fb5 Nb5 kp20
    dsimp only
    k_steps
    (rename News _ _ _ _ => Na6)
    (rename Fr _ _ _ _ => Fa6)
    have Nb6 : News s₁.heap s₁.heap.objs.size _ _ := Na6
    have Fb6 : Fr s₁.heap s₁.heap.objs.size _ _ := Fa6
    clear Na6 Fa6
    have hst := step_in hrow.1 hrow.2 bW
    refine Stop.intro (c_step K0 Fb6 KX T rfl ⟨_, (Nb6 _ (.tail _ (.tail _ (.head _)))).1, rfl, nw, rfl⟩ iW lW bW hrow.1 hrow.2 ?_)
    intro t21 h21 tk21 kp21
    have F21 := Fb6.keeps kp21
    have N21 := Nb6.grown kp21
    clear Fb6 Nb6 kp21
    dsimp only
    k_steps
    (rename News _ _ _ _ => Na7)
    (rename Fr _ _ _ _ => Fa7)
    have Nb7 : News s₁.heap s₁.heap.objs.size _ _ := Na7
    have Fb7 : Fr s₁.heap s₁.heap.objs.size _ _ := Fa7
    clear Na7 Fa7
    refine Stop.intro (c_dealt K0 Fb7 KX T rfl hst.1 hst.2 ?_)
    intro t22 h22 tk22 kp22
    have F22 := Fb7.keeps kp22
    have N22 := Nb7.grown kp22
    clear Fb7 Nb7 kp22
    rw [hone]
    dsimp only
    k_steps))
end Mine
end

set_option maxRecDepth 100000 in
set_option maxHeartbeats 8000000 in
theorem PySem.Challenge.cw_oc0023_01_holds : PySem.Challenge.rw_oc0023_01.Holds := by
  exact Mine.w0
