import PyProof.Rows.All
import Wide.All
import OpenK.AllK
import Wide.FinOn
import KE.KNestM
import KE.BitLaws
import PyProof.FactsAll.range_2
import PyProof.FactsAll.bool_2
import PyProof.FactsAll.int_4
import KE.KWords
import KE.KxStill
import KE.RegMulBits
import PySem.Challenge.RW_wx0012_02
open PySem PySem.W PyProof.Rows
set_option Elab.async false
set_option maxRecDepth 100000
set_option maxHeartbeats 8000000
set_option linter.unusedVariables false
namespace Mine
open_top hd for PySem.Challenge.rw_wx0012_02
end Mine
section
open PySem PyProof.Rows
namespace Mine
theorem nat_xor_and (a : Nat) : ∀ b : Nat, (a ^^^ b) + 2 * (a &&& b) = a + b := by
  induction a using Nat.strongRecOn with
  | ind a ih =>
    intro b
    by_cases ha : a = 0
    · subst ha; simp
    · have h := ih (a / 2) (by omega) (b / 2)
      have x1 : (a ^^^ b) / 2 = (a / 2) ^^^ (b / 2) := Nat.xor_div_two
      have x2 : (a &&& b) / 2 = (a / 2) &&& (b / 2) := Nat.and_div_two
      have x3 : (a ^^^ b) % 2 = (a % 2) ^^^ (b % 2) := Nat.xor_mod_two_pow (n := 1)
      have x4 : (a &&& b) % 2 = (a % 2) &&& (b % 2) := Nat.and_mod_two_pow (n := 1)
      rw [← x1, ← x2] at h
      rcases Nat.mod_two_eq_zero_or_one a with p | p <;> rcases Nat.mod_two_eq_zero_or_one b with q | q <;> rw [p, q] at x3 x4
      · rw [show (0 ^^^ 0 : Nat) = 0 by decide] at x3; rw [show (0 &&& 0 : Nat) = 0 by decide] at x4; omega
      · rw [show (0 ^^^ 1 : Nat) = 1 by decide] at x3; rw [show (0 &&& 1 : Nat) = 0 by decide] at x4; omega
      · rw [show (1 ^^^ 0 : Nat) = 1 by decide] at x3; rw [show (1 &&& 0 : Nat) = 0 by decide] at x4; omega
      · rw [show (1 ^^^ 1 : Nat) = 0 by decide] at x3; rw [show (1 &&& 1 : Nat) = 1 by decide] at x4; omega
theorem bx (a b : Nat) : Builtin.bitXor (a : Int) (b : Int) = ((a ^^^ b : Nat) : Int) := by
  have h := nat_xor_and a b
  rw [bitXor_and, bitAnd_pp (Int.natCast_nonneg _) (Int.natCast_nonneg _), Int.toNat_natCast, Int.toNat_natCast]
  omega
theorem bx' {x y : Int} (hx : 0 ≤ x) (hy : 0 ≤ y) : Builtin.bitXor x y = ((x.toNat ^^^ y.toNat : Nat) : Int) := by
  have h := bx x.toNat y.toNat
  rwa [Int.toNat_of_nonneg hx, Int.toNat_of_nonneg hy] at h
theorem ba' {x y : Int} (hx : 0 ≤ x) (hy : 0 ≤ y) : Builtin.bitAnd x y = ((x.toNat &&& y.toNat : Nat) : Int) := bitAnd_pp hx hy

def GENs : List Nat := [14737472, 29474944, 58949888, 117899776, 235798537, 470557714, 940076068, 814808136, 565311632, 66318624]
def pmInner (b : Nat) : Nat → Nat → Nat
  | 0, c => c
  | k + 1, c => (pmInner b k c) ^^^ (if b / 2 ^ k % 2 = 1 then GENs.getD k 0 else 0)
def pmStep (c v : Nat) : Nat := pmInner (c / 1048576) 10 ((c % 1048576 * 1024) ^^^ v)
def polymod (vs : List Nat) : Nat := vs.foldl pmStep 1

theorem xor_lt30 {a b : Nat} (ha : a < 1073741824) (hb : b < 1073741824) : a ^^^ b < 1073741824 := Nat.xor_lt_two_pow (n := 30) ha hb
theorem gens_lt (k : Nat) : GENs.getD k 0 < 1073741824 := by
  have h : ∀ x ∈ GENs, x < 1073741824 := by decide
  rw [List.getD_eq_getElem?_getD]
  cases e : GENs[k]? with
  | none => decide
  | some x => exact h x (List.mem_of_getElem? e)
theorem pmInner_lt (b : Nat) : ∀ k c, c < 1073741824 → pmInner b k c < 1073741824
  | 0, _, h => h
  | k + 1, c, h => by
    refine xor_lt30 (pmInner_lt b k c h) ?_
    split
    · exact gens_lt k
    · decide
theorem pmStep_lt {c v : Nat} (hv : v < 1024) : pmStep c v < 1073741824 := pmInner_lt _ _ _ (xor_lt30 (by have := Nat.mod_lt c (show 0 < 1048576 by decide); omega) (by omega))
theorem polymod_snoc (vs : List Nat) (v : Nat) : polymod (vs ++ [v]) = pmStep (polymod vs) v := by simp [polymod]
theorem polymod_lt {vs : List Nat} (h : ∀ v ∈ vs, v < 1024) : polymod vs < 1073741824 := by
  rcases List.eq_nil_or_concat vs with rfl | ⟨r, v, rfl⟩
  · decide
  · rw [List.concat_eq_append, polymod_snoc]; exact pmStep_lt (h v (by simp))

/-- the words of the walk -/
structure PW (pre : List Int) (chk : Int) : Prop where
  lo : 0 ≤ chk
  hi : chk < 1073741824
  val : chk = ((polymod (pre.map Int.toNat) : Nat) : Int)
structure PI (b c0 : Int) (pre : List Int) (chk : Int) : Prop where
  lo : 0 ≤ chk
  hi : chk < 1073741824
  val : chk = ((pmInner b.toNat pre.length c0.toNat : Nat) : Int)
theorem pw_start : PW [] 1 := ⟨by decide, by decide, by decide⟩
theorem shl_fact {c v : Int} (h0 : 0 ≤ c) (hv : 0 ≤ v) : Builtin.bitXor (Builtin.bitAnd c 1048575 * 2 ^ Int.toNat 10) v = (((c.toNat % 1048576 * 1024) ^^^ v.toNat : Nat) : Int) := by
  have e1 : (1048575 : Int).toNat = 2 ^ 20 - 1 := by decide
  have e2 : (2 : Int) ^ Int.toNat 10 = ((1024 : Nat) : Int) := by decide
  rw [ba' h0 (by decide), e1, Nat.and_two_pow_sub_one_eq_mod, e2, ← Int.natCast_mul, bx' (Int.natCast_nonneg _) hv, Int.toNat_natCast]
theorem and_lt64 (c : Int) : (Builtin.bitAnd c 1048575).natAbs < 2 ^ 64 := by
  have h := bitAnd_range c (y := 1048575) (by decide)
  omega
theorem pi_start {b c v : Int} (h0 : 0 ≤ c) (hv : 0 ≤ v ∧ v < 1024) :
    PI b (Builtin.bitXor (Builtin.bitAnd c 1048575 * 2 ^ Int.toNat 10) v) [] (Builtin.bitXor (Builtin.bitAnd c 1048575 * 2 ^ Int.toNat 10) v) := by
  rw [shl_fact h0 hv.1]
  have hl : (c.toNat % 1048576 * 1024) ^^^ v.toNat < 1073741824 := xor_lt30 (by omega) (by omega)
  exact ⟨by omega, by omega, by rw [Int.toNat_natCast]; rfl⟩
theorem bit_fact {b : Int} {k : Nat} (hb : 0 ≤ b) : Builtin.bitAnd (b.fdiv (2 ^ (k : Int).toNat)) 1 = ((b.toNat / 2 ^ k % 2 : Nat) : Int) := by
  obtain ⟨n, rfl⟩ := Int.eq_ofNat_of_zero_le hb
  rw [bitAnd_m1, Int.toNat_natCast, Int.toNat_natCast, show (2 : Int) ^ k = ((2 ^ k : Nat) : Int) by rw [Int.natCast_pow]; rfl, Int.fdiv_eq_ediv_of_nonneg _ (Int.natCast_nonneg _)]
  omega
theorem pi_turn1 {b c0 chk : Int} {pre : List Int} {k : Int} (hb : 0 ≤ b) (hk : k = (pre.length : Int)) (h : PI b c0 pre chk) (ht : Builtin.bitAnd (b.fdiv (2 ^ k.toNat)) 1 ≠ 0) :
    PI b c0 (pre ++ [k]) (Builtin.bitXor chk (([14737472, 29474944, 58949888, 117899776, 235798537, 470557714, 940076068, 814808136, 565311632, 66318624] : List Int).getD k.toNat 0)) := by
  subst hk
  obtain ⟨h0, h1, h2⟩ := h
  rw [bit_fact hb] at ht
  have hbit : b.toNat / 2 ^ pre.length % 2 = 1 := by omega
  have hg : (([14737472, 29474944, 58949888, 117899776, 235798537, 470557714, 940076068, 814808136, 565311632, 66318624] : List Int).getD ((pre.length : Int)).toNat 0) = ((GENs.getD pre.length 0 : Nat) : Int) := by
    rw [Int.toNat_natCast, show ([14737472, 29474944, 58949888, 117899776, 235798537, 470557714, 940076068, 814808136, 565311632, 66318624] : List Int) = GENs.map (fun n : Nat => (n : Int)) by decide]
    rw [List.getD_eq_getElem?_getD, List.getD_eq_getElem?_getD, List.getElem?_map]
    cases GENs[pre.length]? <;> rfl
  rw [hg, h2, bx]
  have hlen : (pre ++ [(pre.length : Int)]).length = pre.length + 1 := by simp
  have e : pmInner b.toNat (pre.length + 1) c0.toNat = pmInner b.toNat pre.length c0.toNat ^^^ GENs.getD pre.length 0 := by
    show _ ^^^ (if _ then _ else _) = _
    rw [if_pos hbit]
  have hl := xor_lt30 (show pmInner b.toNat pre.length c0.toNat < 1073741824 by omega) (gens_lt pre.length)
  exact ⟨Int.natCast_nonneg _, by omega, by rw [hlen, e]⟩
theorem pi_turn0 {b c0 chk : Int} {pre : List Int} {k : Int} (hb : 0 ≤ b) (hk : k = (pre.length : Int)) (h : PI b c0 pre chk) (ht : Builtin.bitAnd (b.fdiv (2 ^ k.toNat)) 1 = 0) :
    PI b c0 (pre ++ [k]) (Builtin.bitXor chk 0) := by
  subst hk
  obtain ⟨h0, h1, h2⟩ := h
  rw [bit_fact hb] at ht
  have hbit : ¬ b.toNat / 2 ^ pre.length % 2 = 1 := by omega
  rw [bitXor_zero]
  have hlen : (pre ++ [(pre.length : Int)]).length = pre.length + 1 := by simp
  refine ⟨h0, h1, ?_⟩
  have e : pmInner b.toNat (pre.length + 1) c0.toNat = pmInner b.toNat pre.length c0.toNat := by
    show _ ^^^ (if _ then _ else _) = _
    rw [if_neg hbit, Nat.xor_zero]
  rw [hlen, e]; exact h2
theorem fd20 {pre : List Int} {c : Int} (h : PW pre c) : 0 ≤ c.fdiv (2 ^ Int.toNat 20) := Int.fdiv_nonneg h.lo (by decide)
theorem pw_nn {pre : List Int} {c : Int} (h : PW pre c) : 0 ≤ c := h.lo
theorem pw_val {pre : List Int} {c : Int} (h : PW pre c) : c = ((polymod (pre.map Int.toNat) : Nat) : Int) := h.val
theorem pw_turn {pre ks : List Int} {c v chk : Int} (h : PW pre c) (hv : 0 ≤ v ∧ v < 1024) (hk : ks.length = 10)
    (hi : PI (c.fdiv (2 ^ Int.toNat 20)) (Builtin.bitXor (Builtin.bitAnd c 1048575 * 2 ^ Int.toNat 10) v) ks chk) : PW (pre ++ [v]) chk := by
  obtain ⟨h0, h1, h2⟩ := h
  obtain ⟨i0, i1, i2⟩ := hi
  refine ⟨i0, i1, ?_⟩
  rw [i2, List.map_append, List.map_singleton, polymod_snoc, hk, shl_fact h0 hv.1, Int.toNat_natCast]
  have e : (c.fdiv (2 ^ Int.toNat 20)).toNat = c.toNat / 1048576 := by
    rw [show (2 : Int) ^ Int.toNat 20 = 1048576 by decide, Int.fdiv_eq_ediv_of_nonneg _ (by decide)]; omega
  have e2 : c.toNat = polymod (pre.map Int.toNat) := by omega
  rw [e, e2]; rfl
end Mine
end
section
open PySem PySem.W PyProof.Rows
namespace Mine
abbrev Pg := PySem.Challenge.pw_wx0012_02

theorem fill : (fun (_ : OpenLaw) (_ : Params → Frag) => True) PySem.Challenge.rw_wx0012_02 hd.heap_39 := by
  w_top off
  k_fill
  trivial

abbrev Kp (h h' : Heap) : Prop := ∀ b o, h.get? b = some o → h'.get? b = some o
theorem Kp.refl (h : Heap) : Kp h h := fun _ _ e => e
theorem Kp.trans {a b c : Heap} (x : Kp a b) (y : Kp b c) : Kp a c := fun _ _ e => y _ _ (x _ _ e)

abbrev Ar (dp un : Nat) (fr : Option (List Env)) (gd : Option (List Code)) : Around := { handled := none, depth := dp, frames := fr, guards := gd, units := un }
/-- entering a plain def: the whole heap at the call is the new frame's base -/
theorem enter {K : Frag} {w : World} {A : Around} {s : Shared} {Q E : Value → Shared → Prop} {name qual : Str} {params : Arguments} {body : List Stmt} {scope : Scope} {dV kV doc pm cdv ct oc : Value} {an od : Option Addr} {osl : Array (Option Value)} {f : Addr} {pos : List Value} {binds : List (Str × Value)}
    {loose : List Str} {mean : ExcName → Option Value} {mg mb : Str → Option Value}
    (X : K.In s.heap) (T : Top topProg loose mean mg mb s.heap) (hroom : A.depth + 1 < recursionLimit)
    (ho : K.lookup f = some ⟨oc, od, .func (fnOf name qual params body scope dV kV doc pm an cdv ct), osl⟩) (hcd : codeIn K cdv qual = true)
    (hbind : BindsTo s (fnOf name qual params body scope dV kV doc pm an cdv ct) ⟨pos, []⟩ binds) (hloc : ∀ y ∈ binds, scope.names.lookup y.1 = some .local)
    (h : ∀ L' h₁, Fr s.heap L' h₁ (fun y => binds.reverse.lookup y) → News s.heap L' h₁ [] →
      wpAny (model Pg w) (A.deeper (envOf qual scope L' f cdv)) (execs body (envOf qual scope L' f cdv))
        (fun fl s' => Q (match fl with | .ret v => v | _ => .none) s')
        (fun e s' => wpAny (model Pg w) (A.deeper (envOf qual scope L' f cdv)) (leaving (envOf qual scope L' f cdv) e) (fun _ s'' => E e s'') (fun e' s'' => E e' s'') s')
        { s with heap := h₁, toks := s.toks + binds.length })
    (hco : scope.isCoroutine = false) (hgen : scope.isGenerator = false) (hk : scope.kind = .function)
    (hcell : ∀ x ∈ scope.names, x.2 ≠ .cell) : wpAny (model Pg w) A (call (.ref f) pos) Q E s := by
  refine wpAny_call (codeAny_call_def (fd := fnOf name qual params body scope dV kV doc pm an cdv ct) (body := body) (binds := binds) (by omega) (X _ _ ho) rfl T.nolimit (codeRec_of X hcd) rfl hbind hcell hloc (fun h₁ hns hk₁ => ?_) hco hgen hk)
  exact h s.heap.objs.size h₁ ⟨hns, hk₁, Nat.le_refl _⟩ (fun p hp => nomatch hp)

theorem enterC {K : Frag} {w : World} {A : Around} {s : Shared} {Q E : Value → Shared → Prop} {name qual : Str} {params : Arguments} {body : List Stmt} {scope : Scope} {dV kV doc pm cdv ct oc : Value} {an od : Option Addr} {osl : Array (Option Value)} {f : Addr} {pos : List Value} {binds : List (Str × Value)}
    {loose : List Str} {mean : ExcName → Option Value} {mg mb : Str → Option Value}
    (X : K.In s.heap) (T : Top topProg loose mean mg mb s.heap) (hroom : A.depth + 1 < recursionLimit)
    (ho : K.lookup f = some ⟨oc, od, .func (fnOf name qual params body scope dV kV doc pm an cdv ct), osl⟩) (hcd : codeIn K cdv qual = true)
    (hbind : BindsTo s (fnOf name qual params body scope dV kV doc pm an cdv ct) ⟨pos, []⟩ binds) (hkind : (binds.all fun y => scope.names.lookup y.1 == some .local || scope.names.lookup y.1 == some .cell) = true)
    (hnd : ((cellsFrom 0 scope.names []).map (·.1)).Nodup)
    (h : ∀ L' h₁ tk cells, Fr s.heap L' h₁ (bindL (envOfC qual scope L' f cdv).kindOf binds fun _ => none) → News s.heap L' h₁ cells →
      CellsAre (bindC (envOfC qual scope L' f cdv).kindOf binds fun _ => none) (cellsFrom (L' + 1) scope.names []) cells →
      wpAny (model Pg w) (A.deeper (envOfC qual scope L' f cdv)) (execs body (envOfC qual scope L' f cdv))
        (fun fl s' => Q (match fl with | .ret v => v | _ => .none) s')
        (fun e s' => wpAny (model Pg w) (A.deeper (envOfC qual scope L' f cdv)) (leaving (envOfC qual scope L' f cdv) e) (fun _ s'' => E e s'') (fun e' s'' => E e' s'') s')
        { s with heap := h₁, toks := tk })
    (hco : scope.isCoroutine = false) (hgen : scope.isGenerator = false) (hk : scope.kind = .function) : wpAny (model Pg w) A (call (.ref f) pos) Q E s := by
  refine wpAny_call (codeAny_call_function (fd := fnOf name qual params body scope dV kV doc pm an cdv ct) (by omega) (X _ _ ho) rfl hco hgen rfl (codeRec_of X hcd) (hbind _ _ _ _ ?_))
  refine wpAny_newFunctionEnv_cells hk (kindsX hkind _) fun env' he s' x => ?_
  subst he
  refine ⟨T.nolimit.keeps x.toInCall.keep, codeAny_func ?_⟩
  obtain ⟨h₁, tk, rfl, _⟩ := x.done
  have hk₁ := x.toInCall.keep
  obtain ⟨cells, NC, Y⟩ := Cl.news (h₀ := s.heap) (Nat.le_refl _) fun n c hm => ⟨x.cell n c (lookup_of_mem_nodup (cellsFrom_names scope.names 0 (s.heap.objs.size + 1) [] [] rfl ▸ hnd) hm), x.above n c hm⟩
  exact h s.heap.objs.size h₁ tk cells ⟨x.toInCall.ns, hk₁, Nat.le_refl _⟩ (fun p hp => ⟨(NC p hp).1, (NC p hp).2.1, (NC p hp).2.2⟩) Y

theorem fin_str {h : Heap} {s : Shared} {Q : Value → Shared → Prop} {x y : PySem.Str} {h' : Heap} {tk : Nat} {t : Tok} (ret : ∀ h' tk t, Kp h h' → Q (.str x t) { s with heap := h', toks := tk }) (e : y = x) (k : Kp h h') : Q (.str y t) { s with heap := h', toks := tk } := e ▸ ret h' tk t k
theorem fin_bool {h : Heap} {s : Shared} {Q : Value → Shared → Prop} {x y : Bool} {h' : Heap} {tk : Nat} (ret : ∀ h' tk, Kp h h' → Q (.bool x) { s with heap := h', toks := tk }) (e : y = x) (k : Kp h h') : Q (.bool y) { s with heap := h', toks := tk } := e ▸ ret h' tk k
theorem fin_int {h : Heap} {s : Shared} {Q : Value → Shared → Prop} {x y : Int} {h' : Heap} {tk : Nat} {t : Tok} (ret : ∀ h' tk t, Kp h h' → Q (.int x t) { s with heap := h', toks := tk }) (e : y = x) (k : Kp h h') : Q (.int y t) { s with heap := h', toks := tk } := e ▸ ret h' tk t k
end Mine
end
section
open PySem PySem.W PyProof.Rows
namespace Mine
theorem fill_T6 : (fun (_ : OpenLaw) (_ : Params → Frag) => True) PySem.Challenge.rw_wx0012_02 hd.heap_39 := by
  w_top off
  k_fill
  trivial
def cons16 : PySem.Str := PySem.Str.ofString "bdfghjklmnprstvz"
def vow4 : PySem.Str := PySem.Str.ofString "aiou"
def wordStr (i : Int) : PySem.Str := (Txt.item cons16 (i / 64) ++ Txt.item vow4 (i / 16 % 4)) ++ Txt.item cons16 (i % 16)
theorem word_spec {w : World} {dp un : Nat} {fr : Option (List Env)} {gd : Option (List Code)} {s : Shared} {Q E : Value → Shared → Prop} {loose : List Str} {mean : ExcName → Option Value} {mg mb : Str → Option Value}
    (hdp : dp + 1 < recursionLimit) (hun : un + 8 < cLine)
    (X : (hd.heap_39 w.params).In s.heap) (T : Top topProg loose mean mg mb s.heap) (i : Int) (t : Tok) (hi : 0 ≤ i ∧ i < 1024)
    (ret : ∀ h' tk t, Kp s.heap h' → Q (.str (wordStr i) t) { s with heap := h', toks := tk }) :
    wpAny (model Pg w) (Ar dp un fr gd) (call (.ref 90) [.int i t]) Q E s := by
  have e6 : i.fdiv (2 ^ Int.toNat 6) = i / 64 := Int.fdiv_eq_ediv_of_nonneg _ (by decide)
  have e4 : i.fdiv (2 ^ Int.toNat 4) = i / 16 := Int.fdiv_eq_ediv_of_nonneg _ (by decide)
  have e43 : Builtin.bitAnd (i.fdiv (2 ^ Int.toNat 4)) 3 = i / 16 % 4 := by rw [bitAnd_m2, e4]
  have e15 : Builtin.bitAnd i 15 = i % 16 := bitAnd_m4 i
  k_dflt (refine' enter ?k3 ?k5 ?k8 ?k6 ?k7 ?k9 ?kB ?_ ?c2 ?c3 ?c4 ?c5; (case k3 => k_asm); (case k5 => k_asm); (case k6 => k_is); (case k7 => k_is); (case k8 => assumption); (case k9 => exact BindsTo.of_eq rfl); (case c5 => decide); (case kB => exact locs rfl); (case c2 => exact rfl); (case c3 => exact rfl); (case c4 => exact rfl); k_whole; intro L' h' F' N'; (try dsimp only); (try k_fold))
  k_steps

  refine fin_str ret ?_ ?_
  · rw [e6, e43, e15]; rfl
  · exact F'.keep

end Mine
end
section
open PySem PySem.W PyProof.Rows
namespace Mine
theorem fill_T7 : (fun (_ : OpenLaw) (_ : Params → Frag) => True) PySem.Challenge.rw_wx0012_02 hd.heap_39 := by
  w_top off
  k_fill
  trivial
local macro_rules | `(tactic| walk_at "binaryOp LShift int int") => `(tactic| (k_here; (with_reducible refine lshift_int_small ?kb1 ?kb2 ?kb3 ?_); (case kb1 => decide); (case kb2 => decide); (case kb3 => exact and_lt64 _)))
theorem polymod_spec {w : World} {dp un : Nat} {fr : Option (List Env)} {gd : Option (List Code)} {s : Shared} {Q E : Value → Shared → Prop} {loose : List Str} {mean : ExcName → Option Value} {mg mb : Str → Option Value}
    (hdp : dp + 1 < recursionLimit) (hun : un + 8 < cLine)
    (X : (hd.heap_39 w.params).In s.heap) (T : Top topProg loose mean mg mb s.heap) (l : Addr) (vs : List Value) (ns : List Int)
    (hl : s.heap.IsList l vs.toArray) (hi : IntsAre vs ns) (hlen : ns.length < 1000) (hb : ∀ x ∈ ns, 0 ≤ x ∧ x < 1024)
    (ret : ∀ h' tk t, Kp s.heap h' → Q (.int ((polymod (ns.map Int.toNat) : Nat) : Int) t) { s with heap := h', toks := tk }) :
    wpAny (model Pg w) (Ar dp un fr gd) (call (.ref 28) [.ref l]) Q E s := by
  k_dflt (refine' enter ?k3 ?k5 ?k8 ?k6 ?k7 ?k9 ?kB ?_ ?c2 ?c3 ?c4 ?c5; (case k3 => k_asm); (case k5 => k_asm); (case k6 => k_is); (case k7 => k_is); (case k8 => assumption); (case k9 => exact BindsTo.of_eq rfl); (case c5 => decide); (case kB => exact locs rfl); (case c2 => exact rfl); (case c3 => exact rfl); (case c4 => exact rfl); k_whole; intro L' h' F' N'; (try dsimp only); (try k_fold))
  (k_with "pyIter ref" => (k_of "v" => k_state (fun pre chk => PW pre chk) "chk"))
  (k_with "pyIter ref" => (k_of "i" => k_state_given ["b", "chk!"] (fun b c0 pre chk => PI b c0 pre chk) "chk"))
  (k_with "state" => first
    | (with_reducible exact pw_start)
    | ((with_reducible show PI _ _ [] _); exact pi_start (pw_nn (by assumption)) (hb _ (by assumption)))
    | ((with_reducible show PI _ _ _ (Builtin.bitXor _ (List.getD _ _ _))); exact pi_turn1 (fd20 (by assumption)) (by omega) (by assumption) (by assumption))
    | ((with_reducible show PI _ _ (_ ++ _) _); exact pi_turn0 (fd20 (by assumption)) (by omega) (by assumption) (by assumption))
    | ((with_reducible show PW _ _); refine pw_turn (by assumption) (hb _ (by assumption)) ?_ (by assumption); exact rangeKs_length _ _))
  k_steps
  refine fin_int ret ?_ (Fr.keep (by assumption))
  exact pw_val (by assumption)
end Mine
end
section
open PySem PySem.W PyProof.Rows PySem.Calls
namespace Mine
theorem fill_LB : (fun (_ : OpenLaw) (_ : Params → Frag) => True) PySem.Challenge.rw_wx0012_02 hd.heap_39 := by
  w_top off
  k_fill
  trivial
open PySem.W.KBw (bInts)
theorem bytes_len_look : typeLookup (.type "bytes") "__len__" = pure (some (.builtin "bytes.__len__")) := by rw [typeLookup_type, builtinLookup_eq_fast]; kernel_rfl
theorem ints_of_items {b : Array UInt8} {acc : Array Value} (h : ItemsOf (fun i v => ∃ c u, b[i]? = some c ∧ v = .int (c.toNat : Int) u) acc b.size) : IntsAre acc.toList (bInts b) := by
  obtain ⟨hs, hv⟩ := h
  have key : ∀ (l : List Value) (k : List UInt8), l.length = k.length → (∀ (j : Nat) (v : Value), l[j]? = some v → ∃ (c : UInt8) (u : Tok), k[j]? = some c ∧ v = Value.int (c.toNat : Int) u) → IntsAre l (k.map fun c => (c.toNat : Int)) := by
    intro l
    induction l with
    | nil => intro k hk _; cases k with
      | nil => exact .nil
      | cons _ _ => simp at hk
    | cons v l ih => intro k hk hj; cases k with
      | nil => simp at hk
      | cons c k =>
        obtain ⟨c', u, e1, e2⟩ := hj 0 v rfl
        simp at e1; subst e1; subst e2
        exact .cons _ _ (ih k (by simpa using hk) fun j w hw => hj (j + 1) w (by simpa using hw))
  exact key _ _ (by simp [hs]) fun j v hj => by
    obtain ⟨c, u, e1, e2⟩ := hv j v (by simpa using hj)
    exact ⟨c, u, by simpa using e1, e2⟩
section
variable {prog : Program} {w : World} {A : Around} {E : Value → Shared → Prop} {s : Shared}
theorem extend_bytes {R : Result → Shared → Prop} (hh : A.handled = none) (b : Array UInt8) (t : Tok) (S : Addr) (res : Value) (c₀ : Nat) (hS : s.heap.get? S = some { cls := .type "list", data := .seq #[] c₀ })
    (hR : ∀ h' tk acc' c', (∀ z o, z ≠ S → s.heap.get? z = some o → h'.get? z = some o) → h'.get? S = some (listOf acc' c') → IntsAre acc'.toList (bInts b) → R (.ok (.ret res)) { s with heap := h', toks := tk }) (hn : b.size ≤ sizeLine) :
    wpAny (model prog w) A.in1 (Builtin.List.listExtendWith (.ref S) (.bytes b t) res)
      (fun fin s' => match fin with | .done f => R (.ok f) s' | .again c' => c'.quiet = true ∧ codeAny (model prog w) A c' R s') (fun e s' => R (.error e) s') s := by
  have hne : S ≠ s.heap.objs.size := Nat.ne_of_lt (Heap.lt_size hS)
  have hSf : S ∉ [s.heap.objs.size] := fun hm => hne (List.mem_singleton.mp hm)
  unfold Builtin.List.listExtendWith
  refine wpAny_bind (wpAny_typeOf (T := "bytes") (v := .bytes b t) rfl ?_)
  simp only [show Builtin.List.listSameRef (.ref S) (.bytes b t) = false from rfl, show (Value.type "bytes" == Value.type "list") = false by decide, show (Value.type "bytes" == Value.type "tuple") = false by decide, Bool.or_false, Bool.false_eq_true, if_false]
  refine wpAny_bind (W.KBw.pyIter_bytes (wpAny_bind (wpAny_holding ?_)))
  unfold Builtin.List.listLengthHint
  refine wpAny_bind (wpAny_specialOf (T := "bytes") (v := .bytes b t) rfl bytes_len_look ?_)
  wp_delta
  refine wpAny_bind (wpAny_isInstance (T := "bytes") (v := .bytes b t) (b := true) rfl (by rw [isSubtype_type]; kernel_rfl) ?_)
  show wpAny _ _ (typeOf (Value.bytes b t) >>= _) _ _ _
  refine wpAny_bind (wpAny_typeOf (T := "bytes") (v := .bytes b t) rfl ?_)
  refine wpAny_pure ?_
  rw [if_neg (by decide)]
  refine wpAny_pure ⟨plainId_quiet F.plain_extend_loop _, codeAny_extend_loopS (W.KBw.walks (A := A.in1) hh s.heap.objs.size b t).toS hn _ hSf _ b.size 0 _ _ _ rfl (Nat.zero_le _) ⟨_, Heap.get?_push_size _ rfl, rfl, rfl⟩ (Heap.get?_push_of_some _ hS) (ItemsOf.nil _) fun s' acc' c' hm hS' hacc => ?_⟩
  rw [Moved.eq_with hm]
  refine hR s'.heap s'.toks acc' c' (fun z ob hb e => hm.heap z ob (fun hmem => ?_) (Heap.get?_push_of_some _ e)) hS' (ints_of_items hacc)
  rcases List.mem_cons.mp hmem with e' | hmem
  · exact hb e'
  · exact absurd (Heap.lt_size e) (by rw [List.mem_singleton.mp hmem]; exact Nat.lt_irrefl _)
theorem list_bytes {Q : Value → Shared → Prop} (hh : A.handled = none) (b : Array UInt8) (t : Tok) (hn : b.size ≤ sizeLine)
    (hQ : ∀ h' tk acc' c', (∀ z o, s.heap.get? z = some o → h'.get? z = some o) → h'.get? s.heap.objs.size = some (listOf acc' c') → IntsAre acc'.toList (bInts b) → Q (.ref s.heap.objs.size) { s with heap := h', toks := tk }) :
    wpAny (model prog w) A (call (.type "list") [.bytes b t]) Q E s := by
  refine callType_codes (Q₁ := fun obj s₁ => obj = .ref s.heap.objs.size ∧ s₁ = { s with heap := s.heap.push { cls := .type "list", data := .seq #[] } }) F.called_list (F.typeCall_list_1 _) F.entry_list_init
    (code_list_new _ ⟨rfl, rfl⟩) fun obj s₁ h₁ => ?_
  obtain ⟨rfl, rfl⟩ := h₁
  have hS : (s.heap.push { cls := .type "list", data := .seq #[] }).get? s.heap.objs.size = some { cls := .type "list", data := .seq #[] } := Heap.get?_push_size _ rfl
  refine ⟨⟨_, hS, rfl⟩, F.args_list_init_2 _ _, ?_⟩
  show wpAny _ _ (do let old ← Builtin.List.listItems (.ref s.heap.objs.size); Builtin.List.listUpdate (.ref s.heap.objs.size) (fun _ => #[]); letGo old.toList.reverse; Builtin.List.listExtendWith (.ref s.heap.objs.size) (.bytes b t) .none) _ _ _
  refine wpAny_bind ?_
  unfold Builtin.List.listItems
  refine wpAny_bind (wpAny_seqItems hS rfl (wpAny_pure ?_))
  show wpAny _ _ (updateSeq s.heap.objs.size (fun _ => #[]) >>= fun _ => letGo (#[] : Array Value).toList.reverse >>= fun _ => Builtin.List.listExtendWith (.ref s.heap.objs.size) (.bytes b t) .none) _ _ _
  refine wpAny_bind (wpAny_updateSeq hS rfl ?_)
  have hS₂ := Heap.get?_update_self (Obj.mapSeq (fun _ => (#[] : Array Value))) hS rfl
  refine wpAny_bind (wpAny_letGo ?_)
  refine extend_bytes (A := A.in1) hh b t _ .none _ hS₂ (fun h' tk acc' c' hk hS' hacc => ?_) hn
  exact ⟨rfl, hQ h' tk acc' c' (fun z o e => hk z o (Nat.ne_of_lt (Heap.lt_size e)) ((Heap.get?_update_other _ _ (Ne.symm (Nat.ne_of_lt (Heap.lt_size e)))).trans (Heap.get?_push_of_some _ e))) hS' hacc⟩
end
section
variable {M : Model} {A : Around} {E : Value → Shared → Prop} {s : Shared} {h₀ : Heap} {L : Addr} {m : PySem.Str → Option Value} {news : List (Addr × Obj)}
theorem kp_fr (F : Fr h₀ L s.heap m) {h' : Heap} (k : Kp s.heap h') : Fr h₀ L h' m := F.keeps k
theorem kp_new (F : Fr h₀ L s.heap m) (N : News h₀ L s.heap news) {h' : Heap} (k : Kp s.heap h') {a : Addr} {o : Obj} (ha : s.heap.objs.size ≤ a) (ho : h'.get? a = some o) : News h₀ L h' ((a, o) :: news) := News.kept_cons F N k ha ho
theorem list_bytesN {prog : Program} {w : World} {Q : Value → Shared → Prop} (F : Fr h₀ L s.heap m) (N : News h₀ L s.heap news) (hh : A.handled = none) (b : Array UInt8) (t : Tok) (hn : b.size ≤ sizeLine)
    (hQ : ∀ l vs c' h' tk, Fr h₀ L h' m → News h₀ L h' ((l, listOf vs.toArray c') :: news) → (∀ p ∈ news, p.1 < l) → IntsAre vs (bInts b) → Q (.ref l) { s with heap := h', toks := tk }) :
    wpAny (model prog w) A (call (.type "list") [.bytes b t]) Q E s :=
  list_bytes hh b t hn fun h' tk acc' c' k ho hi => hQ _ acc'.toList c' h' tk (kp_fr F k) (kp_new F N k (Nat.le_refl _) ho) (fun p hp => Heap.lt_size (N p hp).1) hi
end

end Mine
end
section
open PySem PySem.W PyProof.Rows PySem.Calls
namespace Mine
theorem fill_C2 : (fun (_ : OpenLaw) (_ : Params → Frag) => True) PySem.Challenge.rw_wx0012_02 hd.heap_39 := by
  w_top off
  k_fill
  trivial
def ofWords (ws : List Nat) : Nat := ws.foldl (fun a x => a * 1024 + x) 0
structure FW (pre : List Int) (v : Int) : Prop where
  val : v = ((ofWords (pre.map Int.toNat) : Nat) : Int)
theorem fw_start : FW [] 0 := ⟨rfl⟩
theorem fw_turn {pre : List Int} {v k : Int} (h : FW pre v) (hk : 0 ≤ k ∧ k < 1024) : FW (pre ++ [k]) (v * 1024 + k) := ⟨by
  have e : ofWords ((pre ++ [k]).map Int.toNat) = ofWords (pre.map Int.toNat) * 1024 + k.toNat := by simp [ofWords]
  rw [e, h.val]; omega⟩
theorem fromwords_spec {w : World} {dp un : Nat} {fr : Option (List Env)} {gd : Option (List Code)} {s : Shared} {Q E : Value → Shared → Prop} {loose : List Str} {mean : ExcName → Option Value} {mg mb : Str → Option Value}
    (hdp : dp + 1 < recursionLimit) (hun : un + 8 < cLine)
    (X : (hd.heap_39 w.params).In s.heap) (T : Top topProg loose mean mg mb s.heap) (l : Addr) (vs : List Value) (ns : List Int)
    (hl : s.heap.IsList l vs.toArray) (hi : IntsAre vs ns) (hlen : ns.length < 1000) (hb : ∀ x ∈ ns, 0 ≤ x ∧ x < 1024)
    (ret : ∀ h' tk t, Kp s.heap h' → Q (.int ((ofWords (ns.map Int.toNat) : Nat) : Int) t) { s with heap := h', toks := tk }) :
    wpAny (model Pg w) (Ar dp un fr gd) (call (.ref 130) [.ref l]) Q E s := by
  k_dflt (refine' enter ?k3 ?k5 ?k8 ?k6 ?k7 ?k9 ?kB ?_ ?c2 ?c3 ?c4 ?c5; (case k3 => k_asm); (case k5 => k_asm); (case k6 => k_is); (case k7 => k_is); (case k8 => exact (by show dp + 1 < recursionLimit; omega)); (case k9 => exact BindsTo.of_eq rfl); (case c5 => decide); (case kB => exact locs rfl); (case c2 => exact rfl); (case c3 => exact rfl); (case c4 => exact rfl); k_whole; intro L' h' F' N'; (try dsimp only); (try k_fold))
  (k_with "pyIter ref" => k_state (fun pre value => FW pre value) "value")
  (k_with "state" => first
    | (with_reducible exact fw_start)
    | exact fw_turn (by assumption) (hb _ (by assumption)))
  k_steps
  refine fin_int ret ?_ (Fr.keep (by assumption))
  exact FW.val (by assumption)

end Mine
end
section
open PySem PySem.W PyProof.Rows PySem.Calls
namespace Mine
local macro_rules | `(tactic| walk_at "pad 0") => `(tactic| skip)
theorem fill_C3 : (fun (_ : OpenLaw) (_ : Params → Frag) => True) PySem.Challenge.rw_wx0012_02 hd.heap_39 := by
  w_top off
  k_fill
  trivial
local macro_rules | `(tactic| walk_at "call type:list") => `(tactic| (k_here; (with_reducible show wpAny _ _ (call (Value.type "list") [Value.bytes _ _]) _ _ _); k_dflt (refine' list_bytesN ?F ?N ?hh _ _ ?hn ?_; (case F => k_asm); (case N => k_asm); (case hh => exact rfl); (case hn => exact (by rw [sizeLine_eq]; omega)); intro l' vs' c' h' tk' F' N' l1 i'; (try k_lt l1); (try k_sweep); (try dsimp only); (try k_fold))))
theorem bnd_app {a b : List Int} (ha : ∀ x ∈ a, 0 ≤ x ∧ x < 1024) (hb : ∀ x ∈ b, 0 ≤ x ∧ x < 1024) : ∀ x ∈ a ++ b, 0 ≤ x ∧ x < 1024 := fun x hx => (List.mem_append.mp hx).elim (ha x) (hb x)
theorem bnd_bytes (b : Array UInt8) : ∀ x ∈ KBw.bInts b, 0 ≤ x ∧ x < 1024 := fun x hx => by have := KBw.ints_in hx; omega
local macro_rules | `(tactic| walk_at "mine use_ln1") => `(tactic| (k_here; (with_reducible show wpAny _ _ (call (Value.ref 28) [Value.ref _]) _ _ _); k_dflt (refine' polymod_spec ?hdp ?hun ?hX ?hT _ _ _ ?hl ?hi ?hlen ?hb ?hr; (case hdp => ((try simp only [depth_in1, depth_deeper, depth_caller]); (try dsimp only [Ar, Around.deeper]); omega)); (case hun => ((try simp only [units_in1, units_deeper, Around.mark_units, units_caller]); (try dsimp only [Ar, Around.deeper]); omega)); (case hX => exact Frag.In.keeps (by k_asm) (Fr.keep (by k_asm))); (case hT => exact Top.keeps (by k_asm) (Fr.keep (by k_asm))); (case hl => first | assumption | exact News.isList (by k_asm) (by k_mem)); (case hi => l_ints); (case hlen => (simp only [List.length_append]; omega)); (case hb => first | assumption | exact bnd_app (bnd_bytes _) (by assumption)); intro h' tk' t' hk'; (have F' := kp_fr (by k_asm) hk'); (have N' := News.grown (by k_asm) hk'); clear hk'; (try k_sweep); (try dsimp only); (try k_fold))))
local macro_rules | `(tactic| walk_at "call ref") => `(tactic| (walk_at "mine use_ln1"))
theorem nat_beq_one (n : Nat) : (((n : Nat) : Int) == 1) = (n == 1) := by rw [Bool.eq_iff_iff]; simp; omega
theorem verify_spec {w : World} {dp un : Nat} {fr : Option (List Env)} {gd : Option (List Code)} {s : Shared} {Q E : Value → Shared → Prop} {loose : List Str} {mean : ExcName → Option Value} {mg mb : Str → Option Value}
    (hdp : dp + 2 < recursionLimit) (hun : un + 16 < cLine)
    (X : (hd.heap_39 w.params).In s.heap) (T : Top topProg loose mean mg mb s.heap) (l : Addr) (vs : List Value) (ns : List Int) (cb : Array UInt8) (ct : Tok)
    (hl : s.heap.IsList l vs.toArray) (hi : IntsAre vs ns) (hlen : ns.length < 900) (hb : ∀ x ∈ ns, 0 ≤ x ∧ x < 1024) (hcs : cb.size < 30)
    (ret : ∀ h' tk, Kp s.heap h' → Q (.bool (polymod ((KBw.bInts cb ++ ns).map Int.toNat) == 1)) { s with heap := h', toks := tk }) :
    wpAny (model Pg w) (Ar dp un fr gd) (call (.ref 40) [.ref l, .bytes cb ct]) Q E s := by
  have hlb := KBw.ints_length cb
  k_dflt (refine' enter ?k3 ?k5 ?k8 ?k6 ?k7 ?k9 ?kB ?_ ?c2 ?c3 ?c4 ?c5; (case k3 => k_asm); (case k5 => k_asm); (case k6 => k_is); (case k7 => k_is); (case k8 => exact (by show dp + 1 < recursionLimit; omega)); (case k9 => exact BindsTo.of_eq rfl); (case c5 => decide); (case kB => exact locs rfl); (case c2 => exact rfl); (case c3 => exact rfl); (case c4 => exact rfl); k_whole; intro L' h' F' N'; (try dsimp only); (try k_fold))
  k_steps
  refine fin_bool ret ?_ (Fr.keep (by assumption))
  exact nat_beq_one _


end Mine
end
section
open PySem PySem.W PyProof.Rows PySem.Calls
namespace Mine
theorem fill_RV : (fun (_ : OpenLaw) (_ : Params → Frag) => True) PySem.Challenge.rw_wx0012_02 hd.heap_39 := by
  w_top off
  k_fill
  trivial
abbrev rIter (x left step : Int) : Obj := { cls := .type "range_iterator", data := .fields #[rawInt x, rawInt left, rawInt step] }
section
variable {prog : Program} {w : World} {A : Around} {E : Value → Shared → Prop} {s : Shared} {r : Addr} {t u v : Tok} {n : Nat}
theorem fitsLong {x : Int} (h1 : -1000000 ≤ x) (h2 : x ≤ 1000000) : Builtin.Range.rangeFitsLong x = true := by
  unfold Builtin.Range.rangeFitsLong
  simp only [Bool.and_eq_true, decide_eq_true_eq]
  omega
theorem range_rev {Q : Value → Shared → Prop} (hn : n ≤ 100000) (hr : IsRange s.heap r 0 (n : Int) 1 t u v)
    (h : Q (.ref s.heap.objs.size) { s with heap := s.heap.push (rIter ((n : Int) - 1) (n : Int) (-1)) }) :
    wpAny (model prog w) A (call (.builtin "range.__reversed__") [.ref r]) Q E s := by
  have hT : s.TypeIs (.ref r) "range" := ⟨_, hr, rfl⟩
  refine wpAny_call_entry F.slot_range_reversed hT F.entry_range_reversed ?_ (F.args_range_reversed_1 _)
  unfold Builtin.«range.__reversed__»
  refine wpAny_bind (wpAny_of_eq (a := Value.ref r) rfl ?_)
  refine wpAny_bind (m := Builtin.Range.rangeFields (.ref r)) ?_
  unfold Builtin.Range.rangeFields
  refine wpAny_bind (wpAny_field hr rfl (x := .int 0 t) rfl ?_)
  refine wpAny_bind (wpAny_of_eq (a := some (0 : Int)) rfl ?_)
  refine wpAny_bind (wpAny_field hr rfl (x := .int (n : Int) u) rfl ?_)
  refine wpAny_bind (wpAny_of_eq (a := some (n : Int)) rfl ?_)
  refine wpAny_bind (wpAny_field hr rfl (x := .int 1 v) rfl ?_)
  have e1' : asInt? (Value.int 1 v) = pure (some (1 : Int)) := rfl
  refine wpAny_bind ?_
  rw [e1']
  refine wpAny_pure ?_
  show wpAny _ _ (pure ((0 : Int), (n : Int), (1 : Int))) _ _ _
  refine wpAny_pure ?_
  have hsz : Builtin.Range.rangeSize 0 (n : Int) 1 = (n : Int) := by rw [rangeSize_nat]; omega
  have e0 : Builtin.Range.rangeFitsLong 0 = true := by decide
  have e1 : Builtin.Range.rangeFitsLong 1 = true := by decide
  have em : Builtin.Range.rangeFitsLong (-1) = true := by decide
  have e01 : Builtin.Range.rangeFitsLong (0 - 1) = true := by decide
  have en : Builtin.Range.rangeFitsLong (n : Int) = true := fitsLong (by omega) (by omega)
  simp only [hsz, e0, e1, em, e01, en, Bool.and_self, Bool.not_true, Bool.false_eq_true, if_false, if_true]
  show wpAny _ _ (newFields "range_iterator" [rawInt (0 + ((n : Int) - 1) * 1), rawInt (n : Int), rawInt (-1)] >>= fun x => ret x) _ _ _
  rw [show (0 : Int) + ((n : Int) - 1) * 1 = (n : Int) - 1 by omega]
  exact wpAny_bind (wpAny_newObj_type (wpAny_pure ⟨_, rfl, h⟩) (by size_fits))
theorem newClass_rev (a : Value) : Builtin.SmallTypes.newClass "reversed" ⟨[.type "reversed", a], []⟩ = pure (.type "reversed", [a]) := newClass_reversed a
theorem code_rev_range {Q₁ : Value → Shared → Prop} (hn : n ≤ 100000) (hr : IsRange s.heap r 0 (n : Int) 1 t u v)
    (h : Q₁ (.ref s.heap.objs.size) { s with heap := s.heap.push (rIter ((n : Int) - 1) (n : Int) (-1)) }) :
    codeAny (model prog w) A (.call (.builtin "reversed.__new__") ⟨[.type "reversed", .ref r], []⟩) (wants Q₁ E) s := by
  have hT : s.TypeIs (.ref r) "range" := ⟨_, hr, rfl⟩
  refine codeAny_of_tree ?_
  show wpAny _ A.in1 (do checkBuiltinCall "reversed.__new__" ⟨[.type "reversed", .ref r], []⟩; again (.builtin "reversed.__new__" ⟨[.type "reversed", .ref r], []⟩)) _ _ s
  refine wpAny_bind (wpAny_of_eq (F.newCall_reversed_1 _) (wpAny_pure ⟨plainId_quiet F.plain_reversed_new _, codeAny_builtin F.entry_reversed_new ?_⟩))
  rw [Around.under_plainId F.plain_reversed_new _]
  unfold Builtin.«reversed.__new__»
  refine wpAny_bind (wpAny_of_eq (newClass_rev _) ?_)
  try dsimp only
  refine wpAny_bind (wpAny_of_eq (a := ()) (by first | rfl | kernel_rfl) ?_)
  refine wpAny_bind (wpAny_of_eq (a := ()) (by first | rfl | kernel_rfl) ?_)
  try dsimp only
  refine wpAny_bind (wpAny_specialOf hT F.slot_range_reversed.lookup ?_)
  try dsimp only
  refine wpAny_bind (wpAny_of_eq (F.slot_range_reversed.bind _) ?_)
  try dsimp only
  rw [if_neg (show ¬ ((Value.builtin "range.__reversed__" == Value.none) = true) from Bool.false_ne_true)]
  refine wpAny_bind (wpAny_rule ?_)
  refine wpAny_bind (m := runValue (.call (.builtin "range.__reversed__") ⟨[.ref r], []⟩)) (show wpAny _ _ (call (.builtin "range.__reversed__") [.ref r]) _ _ _ from range_rev hn hr ?_)
  first
  | exact wpAny_pure h
  | exact wpAny_bind (wpAny_pure (wpAny_pure h))
theorem sub_ri_rev : isSubtype (.type "range_iterator") (.type "reversed") = pure false := by rw [isSubtype_type]; kernel_rfl
theorem call_rev_range {Q : Value → Shared → Prop} (hn : n ≤ 100000) (hr : IsRange s.heap r 0 (n : Int) 1 t u v)
    (h : Q (.ref s.heap.objs.size) { s with heap := s.heap.push (rIter ((n : Int) - 1) (n : Int) (-1)) }) : wpAny (model prog w) A (call (.type "reversed") [.ref r]) Q E s := by
  refine callType_other (U := "range_iterator") (Q₁ := fun obj s₁ => obj = .ref s.heap.objs.size ∧ s₁ = { s with heap := s.heap.push (rIter ((n : Int) - 1) (n : Int) (-1)) }) (by decide +kernel) F.create_reversed ⟨_, _, F.mro_reversed⟩ F.made_reversed sub_ri_rev (F.typeCall_reversed_1 _) (code_rev_range hn hr ⟨rfl, rfl⟩) ?_
  rintro obj s₁ ⟨rfl, rfl⟩
  exact ⟨⟨_, Heap.get?_push_size _ rfl, rfl⟩, h⟩
end
theorem call_rev_rangeI {prog : Program} {w : World} {A : Around} {E : Value → Shared → Prop} {s : Shared} {r : Addr} {t u v : Tok} {b : Int} {Q : Value → Shared → Prop} (hb : 0 ≤ b ∧ b ≤ 100000) (hr : IsRange s.heap r 0 b 1 t u v)
    (h : Q (.ref s.heap.objs.size) { s with heap := s.heap.push (rIter (b - 1) (b.toNat : Int) (-1)) }) : wpAny (model prog w) A (call (.type "reversed") [.ref r]) Q E s := by
  obtain ⟨n, rfl⟩ := Int.eq_ofNat_of_zero_le hb.1
  exact call_rev_range (n := n) (by omega) hr h

end Mine
end
section
open PySem PySem.W PyProof.Rows PySem.Calls
namespace Mine
theorem fill_RV2 : (fun (_ : OpenLaw) (_ : Params → Frag) => True) PySem.Challenge.rw_wx0012_02 hd.heap_39 := by
  w_top off
  k_fill
  trivial
abbrev RvI (x left step : Int) : Obj := rIter x left step
section
open LCg
variable {prog : Program} {w : World} {A : Around} {E : Value → Shared → Prop} {s : Shared} {h₀ : Heap} {L : Addr} {m : Str → Option Value} {env : Env}
def RISrc (prog : Program) (w : World) (A : Around) (h₀ : Heap) (L : Addr) (m : Str → Option Value) (env : Env) (elt : Expr) (x : Str) (scope : Scope) (cl : List (Str × Addr)) (Fin : Shared → List Value → List (Addr × Obj) → Prop) (xv : Value) (s₁ : Shared) : Prop :=
  ∃ (H : Heap) (a c : Int) (n : Nat) (news : List (Addr × Obj)), xv = .ref H.objs.size ∧ s₁.heap = H.push (rIter a n c) ∧ A.handled = none ∧ Fr h₀ L H m ∧ News h₀ L H news ∧ n ≤ sizeLine ∧
    ∀ g, CompRest prog w A h₀ L m env elt x scope cl { s₁ with heap := g } (fun _ => True) (fun i v => ∃ t, v = .int (a + (i : Int) * c) t) (Fin { s₁ with heap := g }) n 0 [] news
theorem RISrc.mk {elt : Expr} {x : Str} {scope : Scope} {cl : List (Str × Addr)} {Fin : Shared → List Value → List (Addr × Obj) → Prop} {H : Heap} {a c : Int} {n : Nat} {news : List (Addr × Obj)} {g d : _} {o : _} {tk : Nat}
    (hh : A.handled = none) (F : Fr h₀ L H m) (N : News h₀ L H news) (hsz : n ≤ sizeLine)
    (h : ∀ gg, CompRest prog w A h₀ L m env elt x scope cl ⟨gg, g, d, tk, o⟩ (fun _ => True) (fun i v => ∃ t, v = .int (a + (i : Int) * c) t) (Fin ⟨gg, g, d, tk, o⟩) n 0 [] news) :
    RISrc prog w A h₀ L m env elt x scope cl Fin (.ref H.objs.size) ⟨H.push (rIter a n c), g, d, tk, o⟩ := ⟨H, a, c, n, news, rfl, rfl, hh, F, N, hsz, h⟩
theorem ri_st {I : Addr} {a c : Int} {n : Nat} : ∀ i (h h' : Heap) (o : Obj) (nw : List (Addr × Obj)), IsRangeIter h I (a + (i : Nat) * c) ((n : Int) - (i : Nat)) c → h.get? I = some o → h'.get? I = some o → (∀ b o, h₀.get? b = some o → h'.get? b = some o) → News h₀ L h' nw → True → IsRangeIter h' I (a + (i : Nat) * c) ((n : Int) - (i : Nat)) c :=
  fun i h h' o nw st e e' _ _ _ => by
    have st' : h.get? I = some _ := st
    show h'.get? I = some _
    rw [e', ← e]; exact st'
theorem ListComp_RI {elt iter : Expr} {x : Str} {px : Pos} {scope : Scope} {cl : List (Str × Addr)} {pos : Pos} {Q : Value → Shared → Prop} (F₀ : Fr h₀ L s.heap m)
    (hclos : closureFor scope env = pure cl) (hcell : ∀ y ∈ scope.names, y.2 ≠ .cell) (hkind : scope.kind = .function)
    (hnames : ∀ y ∈ scope.names, y.2 = .local → scope.names.lookup y.1 = some .local) (hx : scope.names.lookup x = some .local)
    (h : wpAny (model prog w) A (eval iter env) (RISrc prog w A h₀ L m env elt x scope cl (fun s₂ => FinE h₀ L m s₂ Q)) E s)
    (hs : ∀ x, foldedSetIterable iter env x = pure x := by intro _; rfl) :
    wpAny (model prog w) A (eval (.ListComp elt [⟨.Name x px, iter, [], 0⟩] scope pos) env) Q E s := by
  rw [eval_ListComp]
  refine wpAny_comprehension_free (use := none) rfl hs hclos hkind hnames (wpAny_mono h (fun xv s₁ h₁ => ?_) fun _ _ e => e)
  obtain ⟨H, a, c, n, news, rfl, hH, hh, F, N, hsz, R⟩ := h₁
  obtain ⟨hp, g, d, tk, o⟩ := s₁
  dsimp only at hH R ⊢
  subst hH
  refine wpAny_pyIter_rangeiter (x := a) (left := n) (step := c) (Heap.get?_push_size H rfl) ?_
  refine block_U (Walks.range hh H.objs.size a c n) hsz (fun i h st => ⟨_, st⟩) ri_st hcell hkind hx (by show IsRangeIter _ _ _ _ _; simpa using Heap.get?_push_size H rfl) (fun b hb => ?_)
      (F.keeps fun _ _ e => Heap.get?_push_of_some _ e) (N.grown fun _ _ e => Heap.get?_push_of_some _ e) (Nat.ne_of_lt F.ns.lt) (next_is_new F) (fun p hp => Nat.ne_of_lt (Heap.lt_size (N p hp).1)) trivial (R _) ?_
  · rw [List.mem_singleton.mp hb]
    show H.objs.size < (H.push _).objs.size
    rw [Heap.size_push]; exact Nat.lt_succ_self _
  · intro D C h tk m' ys news' F' N' o1 hn hC₀ hD₀ hCL hDL hCD offC fin
    refine ⟨m', hn, fun h'' hs'' => fin D h'' tk (F'.change hs'' hCL hC₀) (fun p hp => ?_) o1⟩
    refine ⟨hs''.extBut _ _ ?_ (N' p hp).1, (N' p hp).2⟩
    rcases List.mem_cons.mp hp with rfl | hp
    · exact Ne.symm hCD
    · exact offC p hp
end

end Mine
end
section
open PySem PySem.W PyProof.Rows PySem.Calls
namespace Mine
theorem fill_LN : (fun (_ : OpenLaw) (_ : Params → Frag) => True) PySem.Challenge.rw_wx0012_02 hd.heap_39 := by
  w_top off
  k_fill
  trivial
theorem fin_list {h h' : Heap} {s : Shared} {Q : Value → Shared → Prop} {L D : Addr} {xs zs : List Int} {ys : List Value} {c : Nat} {tk : Nat} {news : List (Addr × Obj)}
    (ret : ∀ D ys c h' tk, Kp h h' → h.get? D = none → h'.get? D = some (W.listOf ys.toArray c) → IntsAre ys xs → Q (.ref D) { s with heap := h', toks := tk })
    (N : News h L h' news) (hm : (D, W.listOf ys.toArray c) ∈ news) (hi : IntsAre ys zs) (e : zs = xs) (k : Kp h h') : Q (.ref D) { s with heap := h', toks := tk } :=
  ret D ys c h' tk k (N.fresh hm) (N.get hm) (e ▸ hi)
theorem kp_newN {h₀ h h' : Heap} {L : Addr} {m : PySem.Str → Option Value} {news : List (Addr × Obj)} (F : Fr h₀ L h m) (N : News h₀ L h news) (k : Kp h h') {a : Addr} {o : Obj} (ha : h.get? a = none) (ho : h'.get? a = some o) : News h₀ L h' ((a, o) :: news) := by
  obtain ⟨oL, _, _, hL, _⟩ := F.ns
  intro p hp
  rcases List.mem_cons.mp hp with rfl | hp
  · refine ⟨ho, ?_, ?_⟩
    · rintro rfl; rw [ha] at hL; cases hL
    · cases e : h₀.get? a with
      | none => rfl
      | some x => rw [F.keep a x e] at ha; cases ha
  · exact (N.grown k) p hp
theorem kp_off {h₀ h : Heap} {L : Addr} {news : List (Addr × Obj)} (N : News h₀ L h news) {a : Addr} (ha : h.get? a = none) : ∀ p ∈ news, p.1 ≠ a := by
  rintro p hp rfl
  rw [(N p hp).1] at ha; cases ha

end Mine
end
section
open PySem PySem.W PyProof.Rows PySem.Calls
namespace Mine
local macro_rules | `(tactic| walk_at "pad 0") => `(tactic| skip)
local macro_rules | `(tactic| walk_at "pad 1") => `(tactic| skip)
local macro_rules | `(tactic| walk_at "pad 2") => `(tactic| skip)
local macro_rules | `(tactic| walk_at "pad 3") => `(tactic| skip)
theorem fill_C4 : (fun (_ : OpenLaw) (_ : Params → Frag) => True) PySem.Challenge.rw_wx0012_02 hd.heap_39 := by
  w_top off
  k_fill
  trivial
local macro_rules | `(tactic| walk_at "call type:list") => `(tactic| (k_here; (with_reducible show wpAny _ _ (call (Value.type "list") [Value.bytes _ _]) _ _ _); k_dflt (refine' list_bytesN ?F ?N ?hh _ _ ?hn ?_; (case F => k_asm); (case N => k_asm); (case hh => exact rfl); (case hn => exact (by rw [sizeLine_eq]; omega)); intro l' vs' c' h' tk' F' N' l1 i'; (try k_lt l1); (try k_sweep); (try dsimp only); (try k_fold))))
local macro_rules | `(tactic| walk_at "call type:reversed") => `(tactic| (k_here; (with_reducible show wpAny _ _ (call (Value.type "reversed") [Value.ref _]) _ _ _); k_dflt (refine' call_rev_rangeI ?hb ?hr ?_; (case hr => k_asm); (case hb => decide))))
local macro_rules | `(tactic| walk_at "eval ListComp") => `(tactic| (k_here; k_dflt (refine ListComp_RI (F₀ := by k_asm) (by with_unfolding_all rfl) (by decide) (by rfl) (by decide) (by rfl) ?_)))
local macro_rules | `(tactic| walk_at "RISrc") => `(tactic| (k_here; k_dflt (refine RISrc.mk (by rfl) (by k_asm) (by k_asm) (by first | size_fits | exact Nat.le_of_ble_eq_true rfl) ?_; intro g'; lcg_lit)))
local macro_rules | `(tactic| walk_at "mine use_ln1") => `(tactic| (k_here; (with_reducible show wpAny _ _ (call (Value.ref 28) [Value.ref _]) _ _ _); k_dflt (refine' polymod_spec ?hdp ?hun ?hX ?hT _ _ _ ?hl ?hi ?hlen ?hb ?hr; (case hdp => ((try simp only [depth_in1, depth_deeper, depth_caller]); (try dsimp only [Ar, Around.deeper]); omega)); (case hun => ((try simp only [units_in1, units_deeper, Around.mark_units, units_caller]); (try dsimp only [Ar, Around.deeper]); omega)); (case hX => exact Frag.In.keeps (by k_asm) (Fr.keep (by k_asm))); (case hT => exact Top.keeps (by k_asm) (Fr.keep (by k_asm))); (case hl => first | assumption | exact News.isList (by k_asm) (by k_mem)); (case hi => l_ints); (case hlen => (simp only [List.length_append]; omega)); (case hb => first | assumption | exact bnd_app (bnd_app (bnd_bytes _) (by assumption)) (by decide)); intro h' tk' t' hk'; (have F' := kp_fr (by k_asm) hk'); (have N' := News.grown (by k_asm) hk'); clear hk'; (try k_sweep); (try dsimp only); (try k_fold))))
local macro_rules | `(tactic| walk_at "call ref") => `(tactic| (walk_at "mine use_ln1"))
def chk (xs : List Nat) : List Nat := let p := polymod (xs ++ [0, 0, 0]) ^^^ 1; [p / 2 ^ 20 % 1024, p / 2 ^ 10 % 1024, p % 1024]
theorem map_nn (ns : List Int) (hb : ∀ x ∈ ns, 0 ≤ x ∧ x < 1024) : ∀ v ∈ ns.map Int.toNat, v < 1024 := by
  intro v hv; obtain ⟨x, hx, rfl⟩ := List.mem_map.mp hv; have := hb x hx; omega
theorem chk_it (p q : Nat) (k : Nat) (x : Int) (hx : x = 2 ^ k) (hq : q = p ^^^ 1) : Builtin.bitAnd ((Builtin.bitXor ((p : Nat) : Int) 1).fdiv x) 1023 = ((q / 2 ^ k % 1024 : Nat) : Int) := by
  subst hx; subst hq
  rw [show (1 : Int) = ((1 : Nat) : Int) from rfl, bx, show (2 : Int) ^ k = ((2 ^ k : Nat) : Int) by push_cast; rfl]
  rw [Int.fdiv_eq_ediv_of_nonneg _ (Int.natCast_nonneg _), ← Int.natCast_ediv, ba' (Int.natCast_nonneg _) (by decide), Int.toNat_natCast, show (1023 : Int).toNat = 2 ^ 10 - 1 by decide, Nat.and_two_pow_sub_one_eq_mod]
theorem cons_ints {t : Tok} {x y : Int} {vs : List Value} {xs : List Int} (e : x = y) (h : IntsAre vs xs) : IntsAre (.int x t :: vs) (y :: xs) := e ▸ IntsAre.cons _ _ h
theorem create_spec {w : World} {dp un : Nat} {fr : Option (List Env)} {gd : Option (List Code)} {s : Shared} {Q E : Value → Shared → Prop} {loose : List Str} {mean : ExcName → Option Value} {mg mb : Str → Option Value}
    (hdp : dp + 2 < recursionLimit) (hun : un + 16 < cLine)
    (X : (hd.heap_39 w.params).In s.heap) (T : Top topProg loose mean mg mb s.heap) (l : Addr) (vs : List Value) (ns : List Int) (cb : Array UInt8) (ct : Tok)
    (hl : s.heap.IsList l vs.toArray) (hi : IntsAre vs ns) (hlen : ns.length < 900) (hb : ∀ x ∈ ns, 0 ≤ x ∧ x < 1024) (hcs : cb.size < 30)
    (ret : ∀ D ys c h' tk, Kp s.heap h' → s.heap.get? D = none → h'.get? D = some (W.listOf ys.toArray c) → IntsAre ys ((chk ((KBw.bInts cb ++ ns).map Int.toNat)).map Int.ofNat) → Q (.ref D) { s with heap := h', toks := tk }) :
    wpAny (model Pg w) (Ar dp un fr gd) (call (.ref 33) [.ref l, .bytes cb ct]) Q E s := by
  have hlb := KBw.ints_length cb
  have hz3 : (List.replicate (Int.toNat 3) [(0:Int)]).flatten.length = 3 := by decide
  k_dflt (refine' enterC ?k3 ?k5 ?k8 ?k6 ?k7 ?k9 ?kB ?kD ?_ ?c2 ?c3 ?c4; (case k3 => k_asm); (case k5 => k_asm); (case k6 => k_is); (case k7 => k_is); (case k8 => exact (by show dp + 1 < recursionLimit; omega)); (case k9 => exact BindsTo.of_eq rfl); (case kB => exact rfl); (case kD => decide +kernel); (case c2 => exact rfl); (case c3 => exact rfl); (case c4 => exact rfl); k_whole; intro L' h' tk' cells' F' N' Y'; k_cells Y'; (try simp only [List.cons_append, List.nil_append] at N'); (try dsimp only); (try k_fold))
  k_steps
  refine fin_list ret (by assumption) (by k_mem) ?_ rfl (Fr.keep (by assumption))
  have e0 : (KBw.bInts cb ++ ns).map Int.toNat ++ [0, 0, 0] = (KBw.bInts cb ++ ns ++ (List.replicate (Int.toNat 3) [(0:Int)]).flatten).map Int.toNat := by simp
  refine cons_ints ?_ (cons_ints ?_ (cons_ints ?_ IntsAre.nil))
  · exact chk_it _ _ 20 _ (by decide) (by rw [e0])
  · exact chk_it _ _ 10 _ (by decide) (by rw [e0])
  · rw [chk_it _ _ 0 _ (by decide) rfl, ← e0]; simp
theorem ck_len {v : List Nat} {xs : List Int} (h : List.map Int.ofNat (chk v) = xs) : xs.length = 3 := by subst h; simp [chk]
theorem ck_bd {v : List Nat} {xs : List Int} (h : List.map Int.ofNat (chk v) = xs) : ∀ x ∈ xs, 0 ≤ x ∧ x < 1024 := by
  subst h
  intro x hx
  obtain ⟨y, hy, rfl⟩ := List.mem_map.mp hx
  have hy' : y < 1024 := by
    simp only [chk, List.mem_cons, List.not_mem_nil, or_false] at hy
    rcases hy with rfl | rfl | rfl <;> exact Nat.mod_lt _ (by decide)
  exact ⟨Int.natCast_nonneg _, Int.ofNat_lt.mpr hy'⟩

end Mine
end
section
open PySem PySem.W PyProof.Rows PySem.Calls
namespace Mine
theorem fill_GX : (fun (_ : OpenLaw) (_ : Params → Frag) => True) PySem.Challenge.rw_wx0012_02 hd.heap_39 := by
  w_top off
  k_fill
  trivial
theorem hid_top {loose : List Str} {mean : ExcName → Option Value} {mg mb : Str → Option Value} {h : Heap} {P : Addr} {ps : Array Value} (T : Top topProg loose mean mg mb h) (hP : h.get? P = some (tabObj ps)) : Top topProg loose mean mg mb (hideAll h [P]) := by
  have hk : ∀ b o, b ≠ P → h.get? b = some o → (hideAll h [P]).get? b = some o := fun b o hb e => hideAll_get _ e (by simpa using hb)
  have ns : ∀ {a : Addr} {mm : Str → Option Value}, h.Ns a mm → (hideAll h [P]).Ns a mm := fun {a mm} x => x.at' fun o e => hk a o (fun q => by
    obtain ⟨o', es, ep, e', hd, _⟩ := x
    rw [q, hP] at e'; cases e'; cases hd) e
  exact {
    g := ns T.g
    b := ns T.b
    nolimit := let ⟨mc, x, y⟩ := T.nolimit; ⟨mc, ns x, y⟩
    nodigits := let ⟨mc, x, y⟩ := T.nodigits; ⟨mc, ns x, y⟩
    fn := fun d hd => nomatch hd
    own := fun o ho => nomatch ho
    const := T.const
    free := T.free
    builtins := T.builtins
    tab := fun d hd => nomatch hd
    bmain := let ⟨bm, ob, b1, b2, b3, b4, r⟩ := T.bmain; ⟨bm, ob, b1, b2, hk _ _ (fun q => by rw [q, hP] at b3; cases b3; cases b4) b3, b4, r⟩
    seer := fun e => absurd e (by decide) }
theorem genCode {M : Model} {A : Around} {E : Value → Shared → Prop} {s : Shared} {env : Env} {c P : Addr} {ps : Array Value} {pos : Pos} {qualname : Str} {scope : Scope} {Q : Value → Shared → Prop} (hc : env.code = .ref c) (C : CodeHd s.heap c P) (hP : s.heap.get? P = some (tabObj ps)) (ht : TriplesOk ps.toList)
    (hQ : ∀ code h' tk ps', Heap.ExtBut P s.heap h' → s.heap.objs.size ≤ h'.objs.size → h'.get? P = some (tabObj ps') → TriplesOk ps'.toList → Q code { s with heap := h', toks := tk }) :
    wpAny M A (genexprCode env pos qualname scope) Q E s := by
  have hok := C.code hP ht
  cases hnf : codeAmong pos ps.toList with
  | none =>
    refine wpAny_genexprCodeX hc hok (C.tab hP) hnf fun c' h' tk hx hge hlt hcode _ htab _ => ?_
    obtain ⟨_, _, _, _, _, _, _, _, _, _, _, _, _, _, _, _, _, _, _, htr, _⟩ := hcode
    exact hQ _ h' tk _ hx (Nat.le_trans hge (Nat.le_of_lt hlt)) htab.2 htr
  | some cv =>
    obtain ⟨o, vs, file, tf, flags, tg, inF, text, tt, op, ho, hd, h11, h2, h7, h9, h10, hop, hpd, htr, hne⟩ := id hok
    unfold genexprCode codeAt
    rw [hc, if_neg (show ¬ ((Value.ref c == Value.none) = true) from Bool.false_ne_true)]
    refine wpAny_bind (wpAny_fieldsOf ho hd ?_)
    rw [h11]
    refine wpAny_bind (wpAny_fieldsOf hop hpd ?_)
    rw [hnf]
    exact wpAny_pure (hQ cv s.heap s.toks ps (Heap.ExtBut.refl _ _) (Nat.le_refl _) hP ht)
structure GenReady (w : World) (D U : Nat) (a : Addr) (Z : Addr → Prop) (h0 : Heap) (n : Nat) (P : Nat → Value → Prop) (s : Shared) : Prop where
  ex : ∃ (g : Nat) (fp wr : List Addr), a ∈ fp ∧ (∀ b ∈ fp, b < s.heap.objs.size) ∧ (∀ b ∈ fp, Z b) ∧ (∀ b ∈ wr, h0.get? b = none) ∧
    ∀ A' : Around, A'.handled = none → A'.depth < recursionLimit → A'.depth + 1 ≤ D → A'.units + 4 ≤ U →
      ∃ St, WalksS Pg w A' a fp wr (GenOnlyQ g) n P St ∧ St 0 s ∧ (∀ i s, St i s → s.TypeIs (.ref a) "generator") ∧
        ∀ h' tk, (∀ b ∈ fp, ∀ o, s.heap.get? b = some o → h'.get? b = some o) → St 0 { s with heap := h', toks := tk }
theorem GenReady.frame {w : World} {D U : Nat} {a : Addr} {Z : Addr → Prop} {h0 : Heap} {n : Nat} {P : Nat → Value → Prop} {s : Shared} (G : GenReady w D U a Z h0 n P s) {h' : Heap} {tk : Nat}
    (hk : ∀ b, Z b → ∀ o, s.heap.get? b = some o → h'.get? b = some o) (hsz : s.heap.objs.size ≤ h'.objs.size) : GenReady w D U a Z h0 n P { s with heap := h', toks := tk } := by
  obtain ⟨g, fp, wr, h1, h2, h3, h4, h5⟩ := G.ex
  refine ⟨g, fp, wr, h1, fun b hb => Nat.lt_of_lt_of_le (h2 b hb) hsz, h3, h4, fun A' a1 a2 a3 a4 => ?_⟩
  obtain ⟨St, W, st, hT, hf⟩ := h5 A' a1 a2 a3 a4
  refine ⟨St, W, hf h' tk (fun b hb o e => hk b (h3 b hb) o e), hT, fun h'' tk' hk' => ?_⟩
  exact hf h'' tk' fun b hb o e => hk' b hb o (hk b (h3 b hb) o e)
theorem GenReady.mono {w : World} {D U : Nat} {a : Addr} {Z : Addr → Prop} {h0 : Heap} {n : Nat} {P P' : Nat → Value → Prop} {s : Shared} (G : GenReady w D U a Z h0 n P s) (hp : ∀ j y, j < n → P j y → P' j y) : GenReady w D U a Z h0 n P' s := by
  obtain ⟨g, fp, wr, h1, h2, h3, h4, h5⟩ := G.ex
  refine ⟨g, fp, wr, h1, h2, h3, h4, fun A' a1 a2 a3 a4 => ?_⟩
  obtain ⟨St, W, st, hT, hf⟩ := h5 A' a1 a2 a3 a4
  exact ⟨St, ⟨W.sub, W.grefl, W.gtrans, W.frame, fun i s Q E hi st hQ => W.item i s Q E hi st fun v s' hP => hQ v s' (hp i v hi hP), W.done, W.self⟩, st, hT, hf⟩
theorem passing_all (n j i : Nat) : (passing (fun _ => true) n 0)[j]? = some i ↔ j < n ∧ i = j := by
  unfold passing
  rw [List.drop_zero, List.filter_eq_self.mpr (fun _ _ => rfl)]
  by_cases h : j < n
  · rw [List.getElem?_range h]; constructor
    · intro e; cases e; exact ⟨h, rfl⟩
    · rintro ⟨_, rfl⟩; rfl
  · rw [List.getElem?_eq_none (by simp; omega)]; simp [h]
theorem passing_len (n : Nat) : (passing (fun _ => true) n 0).length = n := by
  unfold passing
  rw [List.drop_zero, List.filter_eq_self.mpr (fun _ _ => rfl), List.length_range]
/-- what the state behind the iterable must say -/
def GXok (w : World) (D U : Nat) (c P : Addr) (x : Str) (elt : Expr) (scope : Scope) (cl : List (Str × Addr)) (env : Env) (Z : Addr → Prop) (h0 : Heap) (Q : Value → Shared → Prop) (it : Value) (s₂ : Shared) : Prop :=
  ∃ (I : Addr) (fp wr : List Addr) (n₀ : Nat) (Pi : Nat → Value → Prop) (St₀ : Nat → Heap → Prop) (F : Nat → Value → Prop) (ps : Array Value) (loose : List Str) (mean : ExcName → Option Value) (mg mb : Str → Option Value) (hB : Heap),
    it = .ref I ∧ (∀ A' : Around, A'.handled = none → Walks Pg w A' I fp wr n₀ Pi St₀) ∧ St₀ 0 s₂.heap ∧ (∀ b ∈ fp, b < s₂.heap.objs.size) ∧ P ∉ fp ∧ (∀ b ∈ fp, Z b) ∧ Z cStatics ∧ (∀ b ∈ wr, h0.get? b = none) ∧ cStatics ∉ wr ∧ CodeHd s₂.heap c P ∧ s₂.heap.get? P = some (tabObj ps) ∧ TriplesOk ps.toList ∧
    (∀ b o, h0.get? b = some o → b ≠ P → s₂.heap.get? b = some o) ∧ (∀ b, s₂.heap.objs.size ≤ b → Z b) ∧ h0.objs.size ≤ s₂.heap.objs.size ∧
    Top topProg loose mean mg mb hB ∧ (∀ b o, hB.get? b = some o → s₂.heap.get? b = some o) ∧ hB.get? P = none ∧ AllBare s₂.gens ∧
    (∀ C code h', s₂.heap.objs.size ≤ C → Heap.ExtBut P s₂.heap h' → QuietGenD Pg w (genEnv scope cl C code builtinsNs env) x [] elt (cStatics :: fp) wr Pi (fun _ => true) F h' D U) ∧
    (∀ a h₅ ps' gs tk, Heap.ExtBut P s₂.heap h₅ → h₅.get? P = some (tabObj ps') → TriplesOk ps'.toList → AllBare gs → s₂.heap.objs.size ≤ a → GenReady w D U a Z h0 n₀ F { s₂ with heap := h₅, gens := gs, toks := tk } → Q (.ref a) { s₂ with heap := h₅, gens := gs, toks := tk })
theorem gen_make {w : World} {A : Around} {E : Value → Shared → Prop} {s : Shared} {D U : Nat} {c P : Addr} {env : Env} {elt iter : Expr} {x : Str} {px : Pos} {scope : Scope} {cl : List (Str × Addr)} {pos : Pos} {Z : Addr → Prop} {h0 : Heap} {Q : Value → Shared → Prop}
    (hh : A.handled = none) (hco : scope.isCoroutine = false) (hclos : closureFor scope env = pure cl) (hcell : ∀ y ∈ scope.names, y.2 ≠ .cell) (hz : scope.names.lookup (".0" : Str) = some NameKind.local)
    (hx : scope.names.lookup x = some .local) (hkind : scope.kind = .function) (hroom : A.depth < recursionLimit) (hcode : env.code = .ref c) (hge : env.globals = mainGlobals)
    (h : wpAny (model Pg w) A (eval iter env) (fun xv s₁ => wpAny (model Pg w) A (pyIter xv) (GXok w D U c P x elt scope cl env Z h0 Q) E s₁) E s)
    (hs : ∀ x, genFold iter env x = pure x) :
    wpAny (model Pg w) A (eval (.GeneratorExp elt [⟨.Name x px, iter, [], 0⟩] scope pos) env) Q E s := by
  refine wpAny_GeneratorExp_make hco hclos hcell hz hkind hroom (wpAny_mono h (fun xv s₁ h₁ => wpAny_mono h₁ (fun it s₂ h₂ => ?_) fun _ _ e => e) fun _ _ e => e) hs
  obtain ⟨I, fp, wr, n₀, Pi, St₀, F, ps, loose, mean, mg, mb, hB, rfl, W₀, hst, hfp, hPf, hZ, hZc, hwr, hcw, hCd, hPt, htr, hk0, hZn, hsz0, T, hkB, hBP, hbare, hq, hQ⟩ := h₂
  have T₂ := T.keeps hkB
  refine ⟨T₂.nolimit, genCode hcode hCd hPt htr fun code h₃ tk₃ ps' hx₃ hsz23 hPt₃ htr₃ => ?_⟩
  have hk₃ : ∀ b o, hB.get? b = some o → h₃.get? b = some o := fun b o e => hx₃ b o (fun q => by rw [q, hBP] at e; cases e) (hkB b o e)
  have T₃ := T.keeps hk₃
  obtain ⟨bm, ob, b1, b2, b3, b4, b5, b6⟩ := T₃.bmain
  refine wpAny_builtinsFor (m := mg) (by rw [hge]; exact T₃.g) b1 b2 b3 b4 b5 b6 ?_
  intro h' hn' hs'
  have hcB : cStatics < h₃.objs.size := let ⟨_, hn, _⟩ := T₃.nolimit; hn.lt
  have hcP : cStatics ≠ P := fun q => by
    obtain ⟨_, hn, _⟩ := T.nolimit
    obtain ⟨o, _, _, e, _⟩ := hn
    rw [q, hBP] at e; cases e
  have hsz : h'.objs.size = h₃.objs.size + 1 := by rw [hs'.1, Heap.size_push]
  have keep' : ∀ b o, h₃.get? b = some o → h'.get? b = some o := fun b o e => hs'.extBut b o (Nat.ne_of_lt (Heap.lt_size e)) (Heap.get?_push_of_some _ e)
  have keep₅ : ∀ b o, h₃.get? b = some o → (h'.push { cls := .type "generator", data := .fields #[.int s₂.gens.size 0, .str "<genexpr>" (tk₃ + 1), .str (env.qual ++ "<genexpr>") (tk₃ + 1 + 1)] }).get? b = some o := fun b o e => Heap.get?_push_of_some _ (keep' b o e)
  have hfp3 : ∀ b ∈ fp, b < h₃.objs.size := fun b hb => Nat.lt_of_lt_of_le (hfp b hb) hsz23
  have hx5 : Heap.ExtBut P s₂.heap (h'.push { cls := .type "generator", data := .fields #[.int s₂.gens.size 0, .str "<genexpr>" (tk₃ + 1), .str (env.qual ++ "<genexpr>") (tk₃ + 1 + 1)] }) := fun b o hb e => keep₅ b o (hx₃ b o hb e)
  refine hQ h'.objs.size _ ps' _ _ hx5 (keep₅ _ _ hPt₃) htr₃ (hbare.push rfl) (by rw [hsz]; exact Nat.le_succ_of_le hsz23) ⟨s₂.gens.size, h'.objs.size :: h₃.objs.size :: cStatics :: fp, h₃.objs.size :: wr, List.mem_cons_self, ?_, ?_, ?_, ?_⟩
  · intro b hb
    show b < (h'.push _).objs.size
    rw [Heap.size_push]
    have hsz' : (h'.objs.size : Nat) = h₃.objs.size + 1 := hsz
    rcases List.mem_cons.mp hb with rfl | hb
    · exact Nat.lt_succ_self _
    · rcases List.mem_cons.mp hb with rfl | hb
      · rw [hsz]; exact Nat.lt_succ_of_lt (Nat.lt_succ_self _)
      · rcases List.mem_cons.mp hb with rfl | hb
        · rw [hsz]; exact Nat.lt_succ_of_lt (Nat.lt_succ_of_lt hcB)
        · rw [hsz]; exact Nat.lt_succ_of_lt (Nat.lt_succ_of_lt (hfp3 b hb))
  · intro b hb
    rcases List.mem_cons.mp hb with rfl | hb
    · exact hZn _ (by rw [hsz]; exact Nat.le_succ_of_le hsz23)
    · rcases List.mem_cons.mp hb with rfl | hb
      · exact hZn _ hsz23
      · rcases List.mem_cons.mp hb with rfl | hb
        · exact hZc
        · exact hZ b hb
  · intro b hb
    rcases List.mem_cons.mp hb with rfl | hb
    · exact Heap.get?_none_of_le (Nat.le_trans hsz0 hsz23)
    · exact hwr b hb
  · intro A' a1 a2 a3 a4
    have hst5 : St₀ 0 (h'.push { cls := .type "generator", data := .fields #[.int s₂.gens.size 0, .str "<genexpr>" (tk₃ + 1), .str (env.qual ++ "<genexpr>") (tk₃ + 1 + 1)] }) :=
      (W₀ A' a1).frame _ _ _ hst fun b hb o e => hx5 b o (fun q => hPf (q ▸ hb)) e
    have hCf : h₃.objs.size ∉ cStatics :: fp := fun hm => by
      rcases List.mem_cons.mp hm with q | hm
      · exact Nat.ne_of_lt hcB q.symm
      · exact Nat.lt_irrefl _ (hfp3 _ hm)
    have haf : h'.objs.size ∉ cStatics :: fp := fun hm => by
      rw [hsz] at hm
      rcases List.mem_cons.mp hm with q | hm
      · exact Nat.ne_of_lt (Nat.lt_succ_of_lt hcB) q.symm
      · exact Nat.lt_irrefl _ (Nat.lt_trans (Nat.lt_succ_self _) (hfp3 _ hm))
    have hat : GenAt Pg w A' h'.objs.size s₂.gens.size h₃.objs.size (cStatics :: fp) wr (fun _ => true) n₀ F 0 { s₂ with gens := s₂.gens.push (.fresh (.compStart (.GeneratorExp elt [⟨.Name x px, iter, [], 0⟩] scope pos) 0 (.ref I) .none (genEnv scope cl h₃.objs.size code builtinsNs env))), toks := tk₃ + 1 + 1 + 1, heap := h'.push { cls := .type "generator", data := .fields #[.int s₂.gens.size 0, .str "<genexpr>" (tk₃ + 1), .str (env.qual ++ "<genexpr>") (tk₃ + 1 + 1)] } } := by
      refine GenAt.freshD (A := A') (cenv := genEnv scope cl h₃.objs.size code builtinsNs env) (m := fun y => if y = ".0" then some (.ref I) else none) a1
        (fun A'' hA => (W₀ A'' hA).mono_fp fun b hb => List.mem_cons_of_mem _ hb) (fun _ => true) F hx (by simp [genEnv, hkind]) hco hCf ?_ ⟨_, _, _, Heap.get?_push_size _ rfl, rfl, rfl, rfl⟩ (Array.getElem?_push_size ..) hst5 (hn'.push _) (T₃.nolimit.keeps keep₅)
      have q0 := hq h₃.objs.size code _ hsz23 hx5
      exact ⟨fun A' E' i v t m₂ hA hD hU => q0.tests A' E' i v t m₂ hA (by omega) (by omega), fun A' E' i v t m₂ hA hD hU => q0.elt A' E' i v t m₂ hA (by omega) (by omega)⟩
    have W := WalksS.genexpQ (prog := Pg) (w := w) (A := A') a1 h'.objs.size s₂.gens.size h₃.objs.size (cStatics :: fp) wr (fun _ => true) n₀ F (by rw [hsz]; exact Nat.succ_ne_self _) haf (fun b hb => List.mem_cons_of_mem _ ((W₀ A' a1).sub b hb)) a2 List.mem_cons_self (Nat.ne_of_lt hcB) hcw
    rw [passing_len] at W
    refine ⟨_, ⟨W.sub, W.grefl, W.gtrans, W.frame, fun i s Q E hi st hQ => W.item i s Q E hi st fun v s' hP => hQ v s' ?_, W.done, W.self⟩, hat, fun i s st => st.1.typeIs, fun h'' tk hk => ?_⟩
    · obtain ⟨i', e, hF⟩ := hP
      rw [((passing_all _ _ _).mp e).2] at hF; exact hF
    · exact W.frame 0 _ h'' _ hat (Nat.le_max_left _ tk) hk |> fun st => ⟨st.1, st.2.1, st.2.2⟩

end Mine
end
section
open PySem PySem.W PyProof.Rows PySem.Calls
namespace Mine
theorem fill_TB : (fun (_ : OpenLaw) (_ : Params → Frag) => True) PySem.Challenge.rw_wx0012_02 hd.heap_39 := by
  w_top off
  k_fill
  trivial
abbrev KT (h h' : Heap) : Prop := ∀ b o, b ≠ 76 → b ≠ 99 → h.get? b = some o → h'.get? b = some o
theorem KT.of_kp {h h' : Heap} (k : Kp h h') : KT h h' := fun b o _ _ e => k b o e
theorem KT.trans {a b c : Heap} (x : KT a b) (y : KT b c) : KT a c := fun p o h1 h2 e => y p o h1 h2 (x p o h1 h2 e)
abbrev hid2 (h : Heap) : Heap := hideAll h [76, 99]
section
variable {h h' h₀ : Heap} {p1 p2 p1' p2' : Array Value}
theorem hid2_get {b : Addr} {o : Obj} (e : h.get? b = some o) (h1 : b ≠ 76) (h2 : b ≠ 99) : (hid2 h).get? b = some o := hideAll_get _ e (by simp [h1, h2])
theorem hid2_kt (k : KT h h') : Kp (hid2 h) h' := fun b o e => k b o (fun q => by rw [q, hideAll_none _ (by simp)] at e; cases e) (fun q => by rw [q, hideAll_none _ (by simp)] at e; cases e) (of_hideAll _ e)
theorem hid2_top {loose : List PySem.Str} {mean : ExcName → Option Value} {mg mb : PySem.Str → Option Value} (T : Top topProg loose mean mg mb h) (h1 : h.get? 76 = some (tabObj p1)) (h2 : h.get? 99 = some (tabObj p2)) : Top topProg loose mean mg mb (hid2 h) := by
  have ns : ∀ {a : Addr} {mm : PySem.Str → Option Value}, h.Ns a mm → (hid2 h).Ns a mm := fun {a mm} x => x.at' fun o e => hid2_get e (fun q => by
    obtain ⟨o', es, ep, e', hd, _⟩ := x
    rw [q, h1] at e'; cases e'; cases hd) (fun q => by
    obtain ⟨o', es, ep, e', hd, _⟩ := x
    rw [q, h2] at e'; cases e'; cases hd)
  exact {
    g := ns T.g
    b := ns T.b
    nolimit := let ⟨mc, x, y⟩ := T.nolimit; ⟨mc, ns x, y⟩
    nodigits := let ⟨mc, x, y⟩ := T.nodigits; ⟨mc, ns x, y⟩
    fn := fun d hd => nomatch hd
    own := fun o ho => nomatch ho
    const := T.const
    free := T.free
    builtins := T.builtins
    tab := fun d hd => nomatch hd
    bmain := let ⟨bm, ob, b1, b2, b3, b4, r⟩ := T.bmain; ⟨bm, ob, b1, b2, hid2_get b3 (fun q => by rw [q, h1] at b3; cases b3; cases b4) (fun q => by rw [q, h2] at b3; cases b3; cases b4), b4, r⟩
    seer := fun e => absurd e (by decide) }
theorem hid2_X {K : Frag} (X : K.In h) (k1 : K.lookup 76 = none) (k2 : K.lookup 99 = none) : K.In (hid2 h) := fun a o e => hid2_get (X a o e) (fun q => by rw [q, k1] at e; cases e) (fun q => by rw [q, k2] at e; cases e)
theorem kt_fr {L : Addr} {m : PySem.Str → Option Value} {news : List (Addr × Obj)} (F : Fr h₀ L h m) (N : News h₀ L h news) (m1 : (76, tabObj p1) ∈ news) (m2 : (99, tabObj p2) ∈ news) (k : KT h h') : Fr h₀ L h' m :=
  ⟨F.ns.at' fun o e => k _ _ (fun q => (N _ m1).2.1 q.symm) (fun q => (N _ m2).2.1 q.symm) e, fun b o e => k b o (fun q => by rw [q, (N _ m1).2.2] at e; cases e) (fun q => by rw [q, (N _ m2).2.2] at e; cases e) (F.keep b o e), F.above⟩
theorem kt_news {L : Addr} {news : List (Addr × Obj)} {g1 g2 : Obj → List (Addr × Obj)} (N : News h₀ L h news) (k : KT h h') (U1 : UpdF 76 (tabObj p1) news g1) (U2 : UpdF 99 (tabObj p2) (g1 (tabObj p1')) g2) (e1 : h'.get? 76 = some (tabObj p1')) (e2 : h'.get? 99 = some (tabObj p2')) : News h₀ L h' (g2 (tabObj p2')) := by
  obtain ⟨a, b, rfl, ha, n1, n2⟩ := U1.split
  rw [ha] at U2
  obtain ⟨c, d, e, hc, n3, n4⟩ := U2.split
  rw [hc]
  have f1 := N (76, tabObj p1) (by simp)
  have inN : ∀ p, p ∈ c ∨ p ∈ d → p = (76, tabObj p1') ∨ (p ∈ a ++ (76, tabObj p1) :: b ∧ p.1 ≠ 76) := fun p hp => by
    have hm : p ∈ a ++ (76, tabObj p1') :: b := by rw [e]; rcases hp with h | h <;> simp [h]
    rcases List.mem_append.mp hm with h | h
    · exact .inr ⟨List.mem_append_left _ h, n1 p h⟩
    · rcases List.mem_cons.mp h with h | h
      · exact .inl h
      · exact .inr ⟨List.mem_append_right _ (.tail _ h), n2 p h⟩
  have go : ∀ p, p ∈ c ∨ p ∈ d → p.1 ≠ 99 → h'.get? p.1 = some p.2 ∧ p.1 ≠ L ∧ h₀.get? p.1 = none := fun p hp h99 => by
    rcases inN p hp with rfl | ⟨hm, h76⟩
    · exact ⟨e1, f1.2⟩
    · exact ⟨k _ _ h76 h99 (N p hm).1, (N p hm).2⟩
  intro p hp
  rcases List.mem_append.mp hp with hp | hp
  · exact go p (.inl hp) (n3 p hp)
  · rcases List.mem_cons.mp hp with rfl | hp
    · have hm : ((99 : Addr), tabObj p2) ∈ a ++ (76, tabObj p1) :: b := by
        have hm : ((99 : Addr), tabObj p2) ∈ a ++ (76, tabObj p1') :: b := by rw [e]; simp
        rcases List.mem_append.mp hm with h | h
        · exact List.mem_append_left _ h
        · rcases List.mem_cons.mp h with h | h
          · exact absurd (congrArg Prod.fst h) (show ¬ ((99 : Nat) = 76) by decide)
          · exact List.mem_append_right _ (.tail _ h)
      exact ⟨e2, (N _ hm).2⟩
    · exact go p (.inr hp) (n4 p hp)
end
/-- entering a plain def whose run may grow the two tables -/
theorem enterT {K : Frag} {w : World} {A : Around} {s : Shared} {Q E : Value → Shared → Prop} {name qual : PySem.Str} {params : Arguments} {body : List Stmt} {scope : Scope} {dV kV doc pm cdv ct oc : Value} {an od : Option Addr} {osl : Array (Option Value)} {f : Addr} {pos : List Value} {kws : List (PySem.Str × Value)} {binds : List (PySem.Str × Value)}
    {loose : List PySem.Str} {mean : ExcName → Option Value} {mg mb : PySem.Str → Option Value} {p1 p2 : Array Value}
    (X : K.In s.heap) (T : Top topProg loose mean mg mb s.heap) (h1 : s.heap.get? 76 = some (tabObj p1)) (h2 : s.heap.get? 99 = some (tabObj p2)) (k1 : K.lookup 76 = none) (k2 : K.lookup 99 = none) (hroom : A.depth + 1 < recursionLimit)
    (ho : K.lookup f = some ⟨oc, od, .func (fnOf name qual params body scope dV kV doc pm an cdv ct), osl⟩) (hcd : codeIn K cdv qual = true)
    (hbind : BindsTo s (fnOf name qual params body scope dV kV doc pm an cdv ct) ⟨pos, kws⟩ binds) (hloc : ∀ y ∈ binds, scope.names.lookup y.1 = some .local)
    (h : ∀ L' h₁, K.In (hid2 s.heap) → Top topProg loose mean mg mb (hid2 s.heap) → Fr (hid2 s.heap) L' h₁ (fun y => binds.reverse.lookup y) → News (hid2 s.heap) L' h₁ [(76, tabObj p1), (99, tabObj p2)] → Kp s.heap h₁ →
      wpAny (model Pg w) (A.deeper (envOf qual scope L' f cdv)) (execs body (envOf qual scope L' f cdv))
        (fun fl s' => Q (match fl with | .ret v => v | _ => .none) s')
        (fun e s' => wpAny (model Pg w) (A.deeper (envOf qual scope L' f cdv)) (leaving (envOf qual scope L' f cdv) e) (fun _ s'' => E e s'') (fun e' s'' => E e' s'') s')
        { s with heap := h₁, toks := s.toks + binds.length })
    (hco : scope.isCoroutine = false) (hgen : scope.isGenerator = false) (hk : scope.kind = .function)
    (hcell : ∀ x ∈ scope.names, x.2 ≠ .cell) : wpAny (model Pg w) A (runValue (.call (.ref f) ⟨pos, kws⟩)) Q E s := by
  refine wpAny_call (codeAny_call_def (fd := fnOf name qual params body scope dV kV doc pm an cdv ct) (body := body) (binds := binds) (by omega) (X _ _ ho) rfl T.nolimit (codeRec_of X hcd) rfl hbind hcell hloc (fun h₁ hns hk₁ => ?_) hco hgen hk)
  have lt1 := Heap.lt_size h1
  have lt2 := Heap.lt_size h2
  refine h s.heap.objs.size h₁ (hid2_X X k1 k2) (hid2_top T h1 h2) ⟨hns, fun b o e => hk₁ b o (of_hideAll _ e), Nat.le_of_eq (hideAll_size _ _)⟩ (fun p hp => ?_) hk₁
  rcases List.mem_cons.mp hp with rfl | hp
  · exact ⟨hk₁ _ _ h1, Nat.ne_of_lt lt1, hideAll_none _ (by simp)⟩
  · rw [List.mem_singleton.mp hp]
    exact ⟨hk₁ _ _ h2, Nat.ne_of_lt lt2, hideAll_none _ (by simp)⟩
theorem enterCK {K : Frag} {w : World} {A : Around} {s : Shared} {Q E : Value → Shared → Prop} {name qual : PySem.Str} {params : Arguments} {body : List Stmt} {scope : Scope} {dV kV doc pm cdv ct oc : Value} {an od : Option Addr} {osl : Array (Option Value)} {f : Addr} {pos : List Value} {kws : List (PySem.Str × Value)} {binds : List (PySem.Str × Value)}
    {loose : List Str} {mean : ExcName → Option Value} {mg mb : PySem.Str → Option Value}
    (X : K.In s.heap) (T : Top topProg loose mean mg mb s.heap) (hroom : A.depth + 1 < recursionLimit)
    (ho : K.lookup f = some ⟨oc, od, .func (fnOf name qual params body scope dV kV doc pm an cdv ct), osl⟩) (hcd : codeIn K cdv qual = true)
    (hbind : BindsTo s (fnOf name qual params body scope dV kV doc pm an cdv ct) ⟨pos, kws⟩ binds) (hkind : (binds.all fun y => scope.names.lookup y.1 == some .local || scope.names.lookup y.1 == some .cell) = true)
    (hnd : ((cellsFrom 0 scope.names []).map (·.1)).Nodup)
    (h : ∀ L' h₁ tk cells, Fr s.heap L' h₁ (bindL (envOfC qual scope L' f cdv).kindOf binds fun _ => none) → News s.heap L' h₁ cells →
      CellsAre (bindC (envOfC qual scope L' f cdv).kindOf binds fun _ => none) (cellsFrom (L' + 1) scope.names []) cells →
      wpAny (model Pg w) (A.deeper (envOfC qual scope L' f cdv)) (execs body (envOfC qual scope L' f cdv))
        (fun fl s' => Q (match fl with | .ret v => v | _ => .none) s')
        (fun e s' => wpAny (model Pg w) (A.deeper (envOfC qual scope L' f cdv)) (leaving (envOfC qual scope L' f cdv) e) (fun _ s'' => E e s'') (fun e' s'' => E e' s'') s')
        { s with heap := h₁, toks := tk })
    (hco : scope.isCoroutine = false) (hgen : scope.isGenerator = false) (hk : scope.kind = .function) : wpAny (model Pg w) A (runValue (.call (.ref f) ⟨pos, kws⟩)) Q E s := by
  refine wpAny_call (codeAny_call_function (fd := fnOf name qual params body scope dV kV doc pm an cdv ct) (by omega) (X _ _ ho) rfl hco hgen rfl (codeRec_of X hcd) (hbind _ _ _ _ ?_))
  refine wpAny_newFunctionEnv_cells hk (kindsX hkind _) fun env' he s' x => ?_
  subst he
  refine ⟨T.nolimit.keeps x.toInCall.keep, codeAny_func ?_⟩
  obtain ⟨h₁, tk, rfl, _⟩ := x.done
  have hk₁ := x.toInCall.keep
  obtain ⟨cells, NC, Y⟩ := Cl.news (h₀ := s.heap) (Nat.le_refl _) fun n c hm => ⟨x.cell n c (lookup_of_mem_nodup (cellsFrom_names scope.names 0 (s.heap.objs.size + 1) [] [] rfl ▸ hnd) hm), x.above n c hm⟩
  exact h s.heap.objs.size h₁ tk cells ⟨x.toInCall.ns, hk₁, Nat.le_refl _⟩ (fun p hp => ⟨(NC p hp).1, (NC p hp).2.1, (NC p hp).2.2⟩) Y


end Mine
end
section
open PySem PySem.W PyProof.Rows PySem.Calls
namespace Mine
theorem fill_TB2 : (fun (_ : OpenLaw) (_ : Params → Frag) => True) PySem.Challenge.rw_wx0012_02 hd.heap_39 := by
  w_top off
  k_fill
  trivial
section
variable {w : World} {A : Around} {E Q : Value → Shared → Prop} {s : Shared} {D U n : Nat} {a : Addr} {Z : Addr → Prop} {h0 : Heap} {P : Nat → Value → Prop}
theorem list_gen_kt (hh : A.handled = none) (hd : A.in1.in1.depth < recursionLimit) (hD : A.in1.in1.depth + 1 ≤ D) (hU : A.in1.in1.units + 4 ≤ U) (G : GenReady w D U a Z h0 n P s) (hb : AllBare s.gens) (hn : n ≤ sizeLine) (hs0 : h0.objs.size ≤ s.heap.objs.size)
    (hQ : ∀ (h' : Heap) (gs : Array GenState) (tk : Nat) (ys : List Value) (c : Nat), (∀ b o o', h0.get? b = some o' → s.heap.get? b = some o → h'.get? b = some o) → h'.get? s.heap.objs.size = some (W.listOf ys.toArray c) → ys.length = n → (∀ j y, ys[j]? = some y → P j y) → AllBare gs → Q (.ref s.heap.objs.size) { s with heap := h', gens := gs, toks := tk }) :
    wpAny (model Pg w) A (call (.type "list") [.ref a]) Q E s := by
  obtain ⟨g, fp, wr, h1, h2, h3, h4, h5⟩ := G.ex
  obtain ⟨St, W, st, hT, _⟩ := h5 A.in1.in1 hh hd hD hU
  refine call_list_gen W hT st h2 h1 (fun s' acc' c' hm hS hacc => ?_) hn
  have e : s' = { s with heap := s'.heap, gens := s'.gens, toks := s'.toks } := by
    obtain ⟨x1, x2, x3, x4, x5⟩ := s'
    have q1 : x3 = s.drawn := hm.drawn
    have q2 : x5 = s.os := hm.os
    subst q1; subst q2; rfl
  rw [e]
  refine hQ _ _ _ acc'.toList c' (fun b o o' e0 e1 => ?_) hS (by simp [hacc.1]) (fun j y hj => hacc.2 j y (by simpa using hj)) (AllBare.movedS (s := { s with heap := s.heap.push { cls := .type "list", data := .seq #[] } }) hb hm)
  refine hm.heap b o (fun hmem => ?_) (Heap.get?_push_of_some _ e1)
  rcases List.mem_cons.mp hmem with rfl | hmem
  · exact Nat.lt_irrefl _ (Nat.lt_of_lt_of_le (Heap.lt_size e0) hs0)
  · rw [h4 b hmem] at e0; cases e0
end
theorem ints_of_get : ∀ (ys : List Value) (ns : List Int), ys.length = ns.length → (∀ j y, ys[j]? = some y → ∃ t, y = Value.int (ns.getD j 0) t) → IntsAre ys ns
  | [], [], _, _ => IntsAre.nil
  | [], _ :: _, h, _ => by simp at h
  | _ :: _, [], h, _ => by simp at h
  | y :: ys, n :: ns, h, g => by
    obtain ⟨t, rfl⟩ := g 0 y rfl
    exact IntsAre.cons _ _ (ints_of_get ys ns (by simpa using h) fun j v hv => by simpa using g (j + 1) v (by simpa using hv))

end Mine
end
section
open PySem PySem.W PyProof.Rows PySem.Calls
namespace Mine
local macro_rules | `(tactic| walk_at "pad 0") => `(tactic| skip)
local macro_rules | `(tactic| walk_at "pad 1") => `(tactic| skip)
local macro_rules | `(tactic| walk_at "pad 2") => `(tactic| skip)
local macro_rules | `(tactic| walk_at "pad 3") => `(tactic| skip)
local macro_rules | `(tactic| walk_at "pad 4") => `(tactic| skip)
local macro_rules | `(tactic| walk_at "pad 5") => `(tactic| skip)
local macro_rules | `(tactic| walk_at "pad 6") => `(tactic| skip)
local macro_rules | `(tactic| walk_at "pad 7") => `(tactic| skip)
local macro_rules | `(tactic| walk_at "pad 8") => `(tactic| skip)
local macro_rules | `(tactic| walk_at "pad 9") => `(tactic| skip)
theorem fill_I1 : (fun (_ : OpenLaw) (_ : Params → Frag) => True) PySem.Challenge.rw_wx0012_02 hd.heap_39 := by
  w_top off
  k_fill
  trivial
local macro_rules | `(tactic| walk_at "call type:reversed") => `(tactic| (k_here; (with_reducible show wpAny _ _ (call (Value.type "reversed") [Value.ref _]) _ _ _); k_dflt (refine' call_rev_rangeI ?hb ?hr ?_; (case hr => k_asm); (case hb => exact (by omega)))))
local macro_rules | `(tactic| walk_at "pyIter ref") => `(tactic| (k_here; (with_reducible show wpAny _ _ (pyIter _) (GXok _ _ _ _ _ _ _ _ _ _ _ _ _) _ _); (with_reducible refine wpAny_pyIter_rangeiter (Heap.get?_push_size _ rfl) ?_)))
section
variable {w : World} {s : Shared}
theorem mulok_small {a b : Int} (ha : -1 ≤ a ∧ a ≤ 1000) (hb : 0 ≤ b ∧ b ≤ 1000) : IntMulOk a b := by
  obtain ⟨h1, h2⟩ := ha; obtain ⟨h3, h4⟩ := hb
  mul_fits
theorem free_name {A : Around} {E Q : Value → Shared → Prop} {env : Env} {x : PySem.Str} {c : Addr} {p : Pos} {v : Value} (hk : env.scope.kind = .function) (hl : env.kindOf x = some .free) (hc : env.cells.lookup x = some c) (hv : s.heap.IsCell c (some v)) (h : Q v s)
    (hd : (x == ("__debug__" : PySem.Str)) = false) (hn : (x == ("__classdict__" : PySem.Str)) = false) : wpAny (model Pg w) A (eval (.Name x p) env) Q E s := wpAny_Name (wpAny_loadName_free hk hl hc hv h hn) hd
abbrev i2iElt (p1 p2 p3 p4 p5 p6 p7 : Pos) : Expr := ((((Expr.Name (Str.ofString "value") p1).BinOp Operator.RShift ((Expr.Name (Str.ofString "i") p2).BinOp Operator.Mult (Expr.Name (Str.ofString "radix_bits") p3) p4) p5).BinOp Operator.BitAnd (Expr.Name (Str.ofString "mask") p6) p7))
abbrev i2iScope : Scope := { kind := ScopeKind.function, names := [(Str.ofString ".0", NameKind.local), (Str.ofString "i", NameKind.local), (Str.ofString "mask", NameKind.free), (Str.ofString "radix_bits", NameKind.free), (Str.ofString "value", NameKind.free)], isGenerator := true, isCoroutine := false }
theorem i2i_elt {A : Around} {E : Value → Shared → Prop} {p1 p2 p3 p4 p5 p6 p7 : Pos} {v r M i : Int} {tv tr tm ti : Tok} {cv cr cm C : Addr} {code : Value} {env : Env} {m₂ : PySem.Str → Option Value}
    (hns : s.heap.Ns C m₂) (hm : m₂ "i" = some (.int i ti)) (h1 : s.heap.IsCell cv (some (.int v tv))) (h2 : s.heap.IsCell cr (some (.int r tr))) (h3 : s.heap.IsCell cm (some (.int M tm))) (hi : 0 ≤ i ∧ i ≤ 1000) (hr : 0 < r ∧ r ≤ 60) :
    wpAny (model Pg w) A (eval (i2iElt p1 p2 p3 p4 p5 p6 p7) (genEnv i2iScope [(Str.ofString "value", cv), (Str.ofString "radix_bits", cr), (Str.ofString "mask", cm)] C code builtinsNs env)) (fun y s₃ => (∃ t, y = .int (Builtin.bitAnd (v.fdiv (2 ^ (i * r).toNat)) M) t) ∧ Keeps s s₃) E s := by
  refine wpAny_BinOp (wpAny_BinOp (free_name (c := cv) (by rfl) (by rfl) (by rfl) h1 (wpAny_BinOp (wpAny_Name (wpAny_loadName_local (m := m₂) (by rfl) (by rfl) hns hm ?_) (by decide))) (by decide) (by decide)))
  refine free_name (c := cr) (by rfl) (by rfl) (by rfl) h2 ?_ (by decide) (by decide)
  refine mul_int ?_ (mulok_small (by omega) (by omega))
  refine rshift_int (Int.mul_nonneg hi.1 (by omega)) ?_
  refine free_name (c := cm) (by rfl) (by rfl) (by rfl) h3 ?_ (by decide) (by decide)
  refine and_int ?_
  exact ⟨⟨_, rfl⟩, _, _, rfl, fun _ _ e => e⟩
end
theorem i2i_ok {w : World} {h0 H : Heap} {gens : Array GenState} {dr : _} {os : _} {tk : Nat} {p1 p2 p3 p4 p5 p6 p7 : Pos} {v n r M : Int} {tv tr tm : Tok} {cv cr cm L : Addr} {ov orr om : Obj} {m : PySem.Str → Option Value} {env : Env} {D U : Nat} {Q : Value → Shared → Prop} {loose : List Str} {mean : ExcName → Option Value} {mg mb : Str → Option Value} {ps : Array Value}
    (F : Fr h0 L H m) (N : News h0 L H [(cm, om), (cr, orr), (cv, ov)]) (dm : om.data = .cell (some (.int M tm))) (dr' : orr.data = .cell (some (.int r tr))) (dv : ov.data = .cell (some (.int v tv)))
    (hn : 0 ≤ n ∧ n ≤ 1000) (hr : 0 < r ∧ r ≤ 60) (X : (hd.heap_39 w.params).In h0) (T : Top topProg loose mean mg mb h0) (hP : h0.get? 76 = some (tabObj ps)) (htr : TriplesOk ps.toList) (hbare : AllBare gens)
    (ret : ∀ a h' ps' gs tk, Heap.ExtBut 76 h0 h' → h'.get? 76 = some (tabObj ps') → TriplesOk ps'.toList → AllBare gs → h0.objs.size ≤ h'.objs.size →
      GenReady w D U a (fun b => h0.get? b = none ∨ b = cStatics) h0 n.toNat (fun j y => ∃ t, y = .int (Builtin.bitAnd (v.fdiv (2 ^ ((n - 1 + (j : Int) * (-1)) * r).toNat)) M) t) ⟨h', gs, dr, tk, os⟩ → Q (.ref a) ⟨h', gs, dr, tk, os⟩) :
    GXok w D U 80 76 (Str.ofString "i") (i2iElt p1 p2 p3 p4 p5 p6 p7) i2iScope [(Str.ofString "value", cv), (Str.ofString "radix_bits", cr), (Str.ofString "mask", cm)] env (fun b => h0.get? b = none ∨ b = cStatics) h0 Q (.ref H.objs.size) ⟨H.push (rIter (n - 1) (n.toNat : Int) (-1)), gens, dr, tk, os⟩ := by
  have hH : H.get? 76 = some (tabObj ps) := F.keep _ _ hP
  have hlt : (76 : Nat) < H.objs.size := Heap.lt_size hH
  have C : CodeHd h0 80 76 := codeHd_of_K X (by first | k_is | (generalize w.params = pp; rfl))
  have hsz0 : h0.objs.size ≤ H.objs.size := Nat.le_trans F.above (Nat.le_of_lt F.ns.lt)
  have up : ∀ b o, H.get? b = some o → (H.push (rIter (n - 1) (n.toNat : Int) (-1))).get? b = some o := fun b o e => Heap.get?_push_of_some _ e
  have gm := N.get (a := cm) (o := om) (by simp)
  have gr := N.get (a := cr) (o := orr) (by simp)
  have gv := N.get (a := cv) (o := ov) (by simp)
  have fm := N.fresh (a := cm) (o := om) (by simp)
  have fr := N.fresh (a := cr) (o := orr) (by simp)
  have fv := N.fresh (a := cv) (o := ov) (by simp)
  have hcs : cStatics ≠ H.objs.size := fun e => by
    have := (T.keeps F.keep).nolimit
    obtain ⟨_, hn, _⟩ := this
    exact Nat.ne_of_lt hn.lt e
  refine ⟨H.objs.size, [H.objs.size, cv, cr, cm], [H.objs.size], n.toNat, _, _, _, ps, loose, mean, mg, mb, hideAll h0 [76], rfl,
    fun A' hA => ((Walks.range (prog := Pg) (w := w) hA H.objs.size (n - 1) (-1) n.toNat).bound).mono_fp (fun b hb => by simp at hb; simp [hb]), ?_, ?_, ?_, ?_, Or.inr rfl, ?_, ?_, (C.keeps F.keep).keeps up, up _ _ hH, htr, ?_, ?_, ?_, ?_, ?_, ?_, hbare, ?_, fun a h₅ ps' gs tk5 hx5 q1 q2 q3 q4 G => ret a h₅ ps' gs tk5 (fun b o hb e => hx5 b o hb (up _ _ (F.keep _ _ e))) q1 q2 q3 (by
    obtain ⟨g, fp, wr, g1, g2, _⟩ := G.ex
    have l1 : a < h₅.objs.size := g2 a g1
    have l2 : (H.push (rIter (n - 1) (n.toNat : Int) (-1))).objs.size ≤ a := q4
    rw [Heap.size_push] at l2
    exact Nat.le_trans hsz0 (Nat.le_trans (Nat.le_succ _) (Nat.le_trans l2 (Nat.le_of_lt l1)))) G⟩
  · show IsRangeIter _ _ _ _ _
    simpa using Heap.get?_push_size H rfl
  · intro b hb
    show b < (H.push _).objs.size
    rw [Heap.size_push]
    simp only [List.mem_cons, List.not_mem_nil, or_false] at hb
    rcases hb with rfl | rfl | rfl | rfl
    · exact Nat.lt_succ_self _
    · exact Nat.lt_succ_of_lt (Heap.lt_size gv)
    · exact Nat.lt_succ_of_lt (Heap.lt_size gr)
    · exact Nat.lt_succ_of_lt (Heap.lt_size gm)
  · intro hb
    simp only [List.mem_cons, List.not_mem_nil, or_false] at hb
    rcases hb with e | e | e | e
    · exact Nat.ne_of_lt hlt e
    · rw [← e, hP] at fv; cases fv
    · rw [← e, hP] at fr; cases fr
    · rw [← e, hP] at fm; cases fm
  · intro b hb
    simp only [List.mem_cons, List.not_mem_nil, or_false] at hb
    rcases hb with rfl | rfl | rfl | rfl
    · exact .inl (Heap.get?_none_of_le hsz0)
    · exact .inl fv
    · exact .inl fr
    · exact .inl fm
  · intro b hb
    rw [List.mem_singleton.mp hb]; exact Heap.get?_none_of_le hsz0
  · intro hm; exact hcs (List.mem_singleton.mp hm)
  · intro b o e _; exact up _ _ (F.keep _ _ e)
  · intro b hb
    refine .inl (Heap.get?_none_of_le (Nat.le_trans hsz0 ?_))
    have : H.objs.size + 1 ≤ b := by simpa [Heap.size_push] using hb
    exact Nat.le_of_succ_le this
  · show h0.objs.size ≤ (H.push _).objs.size
    rw [Heap.size_push]; exact Nat.le_succ_of_le hsz0
  · exact hid_top T hP
  · intro b o e; exact up _ _ (F.keep _ _ (of_hideAll _ e))
  · exact hideAll_none _ (by simp)
  · intro C' code h' hC' hx'
    have hgb : ∀ {b : Addr} {o : Obj}, H.get? b = some o → h0.get? b = none → h'.get? b = some o := fun {b o} e f => hx' b o (fun q => by rw [q, hP] at f; cases f) (up _ _ e)
    refine ⟨fun A' E' i v' s₂ m₂ _ _ _ _ _ _ _ => wpAny_pure ⟨rfl, _, _, rfl, fun _ _ e => e⟩, fun A' E' i v' s₂ m₂ hA _ _ hPi _ hns hm hk => ?_⟩
    obtain ⟨hi, t, rfl⟩ := hPi
    have nw : ∀ {b : Addr} {o : Obj}, H.get? b = some o → b ∉ [H.objs.size] := fun e hb => Nat.ne_of_lt (Heap.lt_size e) (List.mem_singleton.mp hb)
    exact i2i_elt hns hm ⟨ov, hk cv (by simp) (nw gv) _ (hgb gv fv), dv⟩ ⟨orr, hk cr (by simp) (nw gr) _ (hgb gr fr), dr'⟩ ⟨om, hk cm (by simp) (nw gm) _ (hgb gm fm), dm⟩ (by omega) hr
theorem i2i_val {v n r : Int} {j : Nat} (hv : 0 ≤ v) (hr : 0 < r) (hj : j < n.toNat) : Builtin.bitAnd (v.fdiv (2 ^ ((n - 1 + (j : Int) * (-1)) * r).toNat)) (1 * 2 ^ r.toNat - 1) = ((v.toNat / 2 ^ ((n.toNat - 1 - j) * r.toNat) % 2 ^ r.toNat : Nat) : Int) := by
  obtain ⟨v', rfl⟩ := Int.eq_ofNat_of_zero_le hv
  obtain ⟨r', rfl⟩ := Int.eq_ofNat_of_zero_le (Int.le_of_lt hr)
  have e1 : ((n - 1 + (j : Int) * (-1)) * (r' : Int)).toNat = (n.toNat - 1 - j) * r' := by
    have : n - 1 + (j : Int) * (-1) = ((n.toNat - 1 - j : Nat) : Int) := by omega
    rw [this, ← Int.natCast_mul, Int.toNat_natCast]
  have e2 : (1 : Int) * 2 ^ ((r' : Int).toNat) - 1 = ((2 ^ r' - 1 : Nat) : Int) := by
    have := Nat.one_le_two_pow (n := r')
    rw [Int.toNat_natCast, Int.one_mul]; push_cast [this]; rfl
  rw [e1, e2, show (2 : Int) ^ ((n.toNat - 1 - j) * r') = ((2 ^ ((n.toNat - 1 - j) * r') : Nat) : Int) by push_cast; rfl, Int.fdiv_eq_ediv_of_nonneg _ (Int.natCast_nonneg _), ← Int.natCast_ediv, ba' (Int.natCast_nonneg _) (Int.natCast_nonneg _), Int.toNat_natCast, Int.toNat_natCast, Int.toNat_natCast, Int.toNat_natCast, Nat.and_two_pow_sub_one_eq_mod]
theorem i2i_spec {w : World} {dp un : Nat} {fr : Option (List Env)} {gd : Option (List Code)} {s : Shared} {Q E : Value → Shared → Prop} {loose : List Str} {mean : ExcName → Option Value} {mg mb : Str → Option Value}
    (hdp : dp + 2 < recursionLimit) (hun : un + 16 < cLine)
    (X : (hd.heap_39 w.params).In s.heap) (T : Top topProg loose mean mg mb s.heap) (v n r : Int) (tv tn tr : Tok) (hv : 0 ≤ v) (hn : 0 ≤ n ∧ n ≤ 1000) (hr : 0 < r ∧ r ≤ 60) (ps : Array Value) (hP : s.heap.get? 76 = some (tabObj ps)) (htr : TriplesOk ps.toList) (hbare : AllBare s.gens) (DD UU : Nat)
    (ret : ∀ a h' ps' gs tk, Heap.ExtBut 76 s.heap h' → h'.get? 76 = some (tabObj ps') → TriplesOk ps'.toList → AllBare gs → s.heap.objs.size ≤ h'.objs.size →
      GenReady w DD UU a (fun b => s.heap.get? b = none ∨ b = cStatics) s.heap n.toNat (fun j y => ∃ t, y = .int ((v.toNat / 2 ^ ((n.toNat - 1 - j) * r.toNat) % 2 ^ r.toNat : Nat) : Int) t) { s with heap := h', gens := gs, toks := tk } → Q (.ref a) { s with heap := h', gens := gs, toks := tk }) :
    wpAny (model Pg w) (Ar dp un fr gd) (call (.ref 81) [.int v tv, .int n tn, .int r tr]) Q E s := by
  k_dflt (refine' enterC ?k3 ?k5 ?k8 ?k6 ?k7 ?k9 ?kB ?kD ?_ ?c2 ?c3 ?c4; (case k3 => k_asm); (case k5 => k_asm); (case k6 => k_is); (case k7 => k_is); (case k8 => exact (by show dp + 1 < recursionLimit; omega)); (case k9 => exact BindsTo.of_eq rfl); (case kB => exact rfl); (case kD => decide +kernel); (case c2 => exact rfl); (case c3 => exact rfl); (case c4 => exact rfl); k_whole; intro L' h' tk' cells' F' N' Y'; k_cells Y'; (try simp only [List.cons_append, List.nil_append] at N'); (try dsimp only); (try k_fold))
  k_steps
  with_unfolding_all refine gen_make (D := DD) (U := UU) (c := 80) (P := 76) (Z := fun b => s.heap.get? b = none ∨ b = cStatics) (h0 := s.heap) (by rfl) (by rfl) (by rfl) (by decide) (by rfl) (by rfl) (by rfl) ?hroom (by rfl) (by rfl) ?_ (by intro _; rfl)
  case hroom => exact (by show dp + 1 < recursionLimit; omega)
  k_steps
  refine i2i_ok (F := by k_asm) (N := by k_asm) (dm := by k_asm) (dr' := by k_asm) (dv := by k_asm) hn hr X T hP htr hbare ?_
  intro a h' ps' gs tk hx h1 h2 h3 h4 G
  refine ret a h' ps' gs tk hx h1 h2 h3 h4 (G.mono fun j y hj hy => ?_)
  obtain ⟨t, rfl⟩ := hy
  exact ⟨t, by rw [i2i_val hv hr.1 hj]⟩
theorem i2i_specK {w : World} {dp un : Nat} {fr : Option (List Env)} {gd : Option (List Code)} {s : Shared} {Q E : Value → Shared → Prop} {loose : List Str} {mean : ExcName → Option Value} {mg mb : Str → Option Value}
    (hdp : dp + 2 < recursionLimit) (hun : un + 16 < cLine)
    (X : (hd.heap_39 w.params).In s.heap) (T : Top topProg loose mean mg mb s.heap) (v n r : Int) (tv tn tr : Tok) (hv : 0 ≤ v) (hn : 0 ≤ n ∧ n ≤ 1000) (hr : 0 < r ∧ r ≤ 60) (ps : Array Value) (hP : s.heap.get? 76 = some (tabObj ps)) (htr : TriplesOk ps.toList) (hbare : AllBare s.gens) (DD UU : Nat)
    (ret : ∀ a h' ps' gs tk, Heap.ExtBut 76 s.heap h' → h'.get? 76 = some (tabObj ps') → TriplesOk ps'.toList → AllBare gs → s.heap.objs.size ≤ h'.objs.size →
      GenReady w DD UU a (fun b => s.heap.get? b = none ∨ b = cStatics) s.heap n.toNat (fun j y => ∃ t, y = .int ((v.toNat / 2 ^ ((n.toNat - 1 - j) * r.toNat) % 2 ^ r.toNat : Nat) : Int) t) { s with heap := h', gens := gs, toks := tk } → Q (.ref a) { s with heap := h', gens := gs, toks := tk }) :
    wpAny (model Pg w) (Ar dp un fr gd) (call (.ref 81) [.int v tv, .int n tn] [(Str.ofString "radix_bits", .int r tr)]) Q E s := by
  k_dflt (refine' enterCK ?k3 ?k5 ?k8 ?k6 ?k7 ?k9 ?kB ?kD ?_ ?c2 ?c3 ?c4; (case k3 => k_asm); (case k5 => k_asm); (case k6 => k_is); (case k7 => k_is); (case k8 => exact (by show dp + 1 < recursionLimit; omega)); (case k9 => exact BindsTo.of_eq rfl); (case kB => exact rfl); (case kD => decide +kernel); (case c2 => exact rfl); (case c3 => exact rfl); (case c4 => exact rfl); k_whole; intro L' h' tk' cells' F' N' Y'; k_cells Y'; (try simp only [List.cons_append, List.nil_append] at N'); (try dsimp only); (try k_fold))
  k_steps
  with_unfolding_all refine gen_make (D := DD) (U := UU) (c := 80) (P := 76) (Z := fun b => s.heap.get? b = none ∨ b = cStatics) (h0 := s.heap) (by rfl) (by rfl) (by rfl) (by decide) (by rfl) (by rfl) (by rfl) ?hroom (by rfl) (by rfl) ?_ (by intro _; rfl)
  case hroom => exact (by show dp + 1 < recursionLimit; omega)
  k_steps
  refine i2i_ok (F := by k_asm) (N := by k_asm) (dm := by k_asm) (dr' := by k_asm) (dv := by k_asm) hn hr X T hP htr hbare ?_
  intro a h' ps' gs tk hx h1 h2 h3 h4 G
  refine ret a h' ps' gs tk hx h1 h2 h3 h4 (G.mono fun j y hj hy => ?_)
  obtain ⟨t, rfl⟩ := hy
  exact ⟨t, by rw [i2i_val hv hr.1 hj]⟩

end Mine
end
section
open PySem PySem.W PyProof.Rows PySem.Calls
namespace Mine
theorem fill_C5 : (fun (_ : OpenLaw) (_ : Params → Frag) => True) PySem.Challenge.rw_wx0012_02 hd.heap_39 := by
  w_top off
  k_fill
  trivial
def toWords (v n : Nat) : List Nat := (List.range n).map fun j => v / 2 ^ ((n - 1 - j) * 10) % 1024
theorem itw_spec {w : World} {dp un : Nat} {fr : Option (List Env)} {gd : Option (List Code)} {s : Shared} {Q E : Value → Shared → Prop} {loose : List Str} {mean : ExcName → Option Value} {mg mb : Str → Option Value}
    (hdp : dp + 3 < recursionLimit) (hun : un + 40 < cLine)
    (X : (hd.heap_39 w.params).In s.heap) (T : Top topProg loose mean mg mb s.heap) {p1 p2 : Array Value} (h76 : s.heap.get? 76 = some (tabObj p1)) (t76 : TriplesOk p1.toList) (h99 : s.heap.get? 99 = some (tabObj p2)) (t99 : TriplesOk p2.toList) (hbare : AllBare s.gens) (v n : Int) (tv tn : Tok) (hv : 0 ≤ v) (hn : 0 ≤ n ∧ n ≤ 1000)
    (ret : ∀ D ys c h' p1' p2' gs tk, KT s.heap h' → h'.get? 76 = some (tabObj p1') → TriplesOk p1'.toList → h'.get? 99 = some (tabObj p2') → TriplesOk p2'.toList → AllBare gs → s.heap.get? D = none → h'.get? D = some (W.listOf ys.toArray c) → IntsAre ys ((toWords v.toNat n.toNat).map Int.ofNat) → Q (.ref D) { s with heap := h', gens := gs, toks := tk }) :
    wpAny (model Pg w) (Ar dp un fr gd) (call (.ref 123) [.int v tv, .int n tn]) Q E s := by
  k_dflt (refine' enterT ?k3 ?k5 ?h1 ?h2 ?q1 ?q2 ?k8 ?k6 ?k7 ?k9 ?kB ?_ ?c2 ?c3 ?c4 ?c5; (case k3 => k_asm); (case k5 => k_asm); (case h1 => assumption); (case h2 => assumption); (case q1 => with_unfolding_all rfl); (case q2 => with_unfolding_all rfl); (case k6 => k_is); (case k7 => k_is); (case k8 => exact (by show dp + 1 < recursionLimit; omega)); (case k9 => exact BindsTo.of_eq rfl); (case c5 => decide); (case kB => exact locs rfl); (case c2 => exact rfl); (case c3 => exact rfl); (case c4 => exact rfl); k_whole; intro L' h' X' T' F' N' kp'; (try dsimp only); (try k_fold))
  k_steps
  with_unfolding_all refine' i2i_specK ?hdp ?hun ?hX ?hT v n 10 tv tn _ hv hn (by decide) p1 ?hP t76 hbare (dp + 20) (un + 40) ?hr
  case hdp => show dp + 1 + 2 < recursionLimit; omega
  case hun => show un + 3 + 16 < cLine; omega
  case hX => exact Frag.In.keeps (by k_asm) (Fr.keep (by k_asm))
  case hT => exact Top.keeps (by k_asm) (Fr.keep (by k_asm))
  case hP => exact News.get (by k_asm) (by k_mem)
  intro a h2 ps2 gs2 tk2 hx2 hP2 htr2 hb2 hsz2 G2
  k_steps
  refine list_gen_kt rfl (by show dp + 1 < recursionLimit; omega) (by show dp + 1 + 1 ≤ dp + 20; omega) (by show un + 3 + 1 + 1 + 4 ≤ un + 40; omega) G2 hb2 (by rw [sizeLine_eq]; omega) hsz2 ?_
  intro h3 gs3 tk3 ys3 c3 k3 g3 l3 i3 b3
  have kk : KT s.heap h3 := fun b o e1 e2 e => k3 b o o (kp' b o e) (hx2 b o e1 (kp' b o e))
  k_steps
  refine ret _ ys3 c3 h3 ps2 p2 gs3 tk3 kk (k3 _ _ _ (kp' _ _ h76) hP2) htr2 (k3 _ _ _ (kp' _ _ h99) (hx2 _ _ (by decide) (kp' _ _ h99))) t99 b3 ?_ g3 (ints_of_get _ _ ?_ ?_)
  · refine Heap.get?_none_of_le (Nat.le_trans ?_ hsz2)
    have := F'.above
    exact Nat.le_trans (Nat.le_of_eq (hideAll_size _ _).symm) (Nat.le_trans this (Nat.le_of_lt F'.ns.lt))
  · simp [toWords, l3]
  · intro j y hj
    obtain ⟨t, rfl⟩ := i3 j y hj
    have hlt : j < n.toNat := by
      rcases Nat.lt_or_ge j ys3.length with h | h
      · rwa [l3] at h
      · rw [List.getElem?_eq_none h] at hj; cases hj
    refine ⟨t, ?_⟩
    congr 1
    simp [toWords, List.getD_eq_getElem?_getD, hlt]
theorem tw_len {v n : Nat} {xs : List Int} (h : List.map Int.ofNat (toWords v n) = xs) : xs.length = n := by subst h; simp [toWords]
theorem tw_bd {v n : Nat} {xs : List Int} (h : List.map Int.ofNat (toWords v n) = xs) : ∀ x ∈ xs, 0 ≤ x ∧ x < 1024 := by
  subst h
  intro x hx
  obtain ⟨y, hy, rfl⟩ := List.mem_map.mp hx
  obtain ⟨j, _, rfl⟩ := List.mem_map.mp hy
  have := Nat.mod_lt (v / 2 ^ ((n - 1 - j) * 10)) (show 0 < 1024 by decide)
  exact ⟨Int.natCast_nonneg _, Int.ofNat_lt.mpr this⟩

end Mine
end
section
open PySem PySem.W PyProof.Rows PySem.Calls
namespace Mine
theorem fill_C6 : (fun (_ : OpenLaw) (_ : Params → Frag) => True) PySem.Challenge.rw_wx0012_02 hd.heap_39 := by
  w_top off
  k_fill
  trivial
abbrev lawNum (ns : List Int) (p : Int) : Int := ns.getD (p.toNat % ns.length) 0 + 7 * p
theorem lawnum_spec {w : World} {dp un : Nat} {fr : Option (List Env)} {gd : Option (List Code)} {s : Shared} {Q E : Value → Shared → Prop} {loose : List Str} {mean : ExcName → Option Value} {mg mb : Str → Option Value}
    (hdp : dp + 1 < recursionLimit) (hun : un + 16 < cLine)
    (X : (hd.heap_39 w.params).In s.heap) (T : Top topProg loose mean mg mb s.heap) (l : Addr) (vs : List Value) (ns : List Int) (hl : s.heap.IsList l vs.toArray) (hi : IntsAre vs ns) (hlen : ns.length ≤ 63) (p : Int) (tp : Tok) (hp : 0 ≤ p ∧ p ≤ 1000)
    (ret : ∀ h' tk t, Kp s.heap h' → Q (.int (lawNum ns p) t) { s with heap := h', toks := tk }) :
    wpAny (model Pg w) (Ar dp un fr gd) (call (.ref 286) [.ref l, .int p tp]) Q E s := by
  k_dflt (refine' enter ?k3 ?k5 ?k8 ?k6 ?k7 ?k9 ?kB ?_ ?c2 ?c3 ?c4 ?c5; (case k3 => k_asm); (case k5 => k_asm); (case k6 => k_is); (case k7 => k_is); (case k8 => exact (by show dp + 1 < recursionLimit; omega)); (case k9 => exact BindsTo.of_eq rfl); (case c5 => decide); (case kB => exact locs rfl); (case c2 => exact rfl); (case c3 => exact rfl); (case c4 => exact rfl); k_whole; intro L' h' F' N'; (try dsimp only); (try k_fold))
  k_steps
  all_goals first
    | (refine fin_int ret ?_ (Fr.keep (by assumption)))
    | skip
  · obtain ⟨q, rfl⟩ := Int.eq_ofNat_of_zero_le hp.1
    rw [lawNum, Int.fmod_eq_emod_of_nonneg _ (Int.natCast_nonneg _), ← Int.natCast_emod, Int.toNat_natCast, Int.toNat_natCast]
  · have h0 : ns.length = 0 := by first | omega | (simp at *; omega) | simp_all
    have : ns = [] := List.eq_nil_of_length_eq_zero h0
    subst this
    simp [lawNum]

end Mine
end
section
open PySem PySem.W PyProof.Rows PySem.Calls
namespace Mine
theorem fill_S1 : (fun (_ : OpenLaw) (_ : Params → Frag) => True) PySem.Challenge.rw_wx0012_02 hd.heap_39 := by
  w_top off
  k_fill
  trivial
theorem enterB {K : Frag} {w : World} {A : Around} {s : Shared} {Q E : Value → Shared → Prop} {name qual : PySem.Str} {params : Arguments} {body : List Stmt} {scope : Scope} {dV kV doc pm cdv ct oc : Value} {an od : Option Addr} {osl : Array (Option Value)} {f : Addr} {pos : List Value} {kws : List (PySem.Str × Value)} {binds : List (PySem.Str × Value)}
    {loose : List PySem.Str} {mean : ExcName → Option Value} {mg mb : PySem.Str → Option Value} (h₀ : Heap) {news : List (Addr × Obj)}
    (X : K.In h₀) (T : Top topProg loose mean mg mb h₀) (kB : Kp h₀ s.heap) (hsz : h₀.objs.size ≤ s.heap.objs.size) (hN : ∀ p ∈ news, s.heap.get? p.1 = some p.2 ∧ h₀.get? p.1 = none) (hroom : A.depth + 1 < recursionLimit)
    (ho : K.lookup f = some ⟨oc, od, .func (fnOf name qual params body scope dV kV doc pm an cdv ct), osl⟩) (hcd : codeIn K cdv qual = true)
    (hbind : BindsTo s (fnOf name qual params body scope dV kV doc pm an cdv ct) ⟨pos, kws⟩ binds) (hloc : ∀ y ∈ binds, scope.names.lookup y.1 = some .local)
    (h : ∀ L' h₁, Fr h₀ L' h₁ (fun y => binds.reverse.lookup y) → News h₀ L' h₁ news → Kp s.heap h₁ →
      wpAny (model Pg w) (A.deeper (envOf qual scope L' f cdv)) (execs body (envOf qual scope L' f cdv))
        (fun fl s' => Q (match fl with | .ret v => v | _ => .none) s')
        (fun e s' => wpAny (model Pg w) (A.deeper (envOf qual scope L' f cdv)) (leaving (envOf qual scope L' f cdv) e) (fun _ s'' => E e s'') (fun e' s'' => E e' s'') s')
        { s with heap := h₁, toks := s.toks + binds.length })
    (hco : scope.isCoroutine = false) (hgen : scope.isGenerator = false) (hk : scope.kind = .function)
    (hcell : ∀ x ∈ scope.names, x.2 ≠ .cell) : codeAny (model Pg w) A (.call (.ref f) ⟨pos, kws⟩) (wants Q E) s := by
  have Xs := X.keeps kB
  have Ts := T.keeps kB
  refine codeAny_call_def (fd := fnOf name qual params body scope dV kV doc pm an cdv ct) (body := body) (binds := binds) (by omega) (Xs _ _ ho) rfl Ts.nolimit (codeRec_of Xs hcd) rfl hbind hcell hloc (fun h₁ hns hk₁ => ?_) hco hgen hk
  exact h s.heap.objs.size h₁ ⟨hns, fun b o e => hk₁ b o (kB b o e), hsz⟩ (fun p hp => ⟨hk₁ _ _ (hN p hp).1, Nat.ne_of_lt (Heap.lt_size (hN p hp).1), (hN p hp).2⟩) hk₁
theorem share_spec {w : World} {dp un : Nat} {fr : Option (List Env)} {gd : Option (List Code)} {s : Shared} {Q E : Value → Shared → Prop} {loose : List Str} {mean : ExcName → Option Value} {mg mb : Str → Option Value}
    (hdp : dp + 4 < recursionLimit) (hun : un + 40 < cLine)
    (X : (hd.heap_39 w.params).In s.heap) (T : Top topProg loose mean mg mb s.heap) (i1 i2 i3 i4 i5 i6 i7 : Int) (e1 : Bool) (b : Array UInt8) (t1 t2 t3 t4 t5 t6 t7 t8 : Tok)
    (ret : ∀ x dx h' tk k1 k2 k3 k4 k5 k6 k7 k8 k9, Kp s.heap h' → s.heap.objs.size ≤ dx → dx < x → h'.get? x = some (instObj 275 dx) → h'.get? dx = some (dictOf [{ hash := PyData.keyHash w.params (Str.ofString "identifier"), key := Value.str (Str.ofString "identifier") k1, val := .int i1 t1 }, { hash := PyData.keyHash w.params (Str.ofString "extendable"), key := Value.str (Str.ofString "extendable") k2, val := .bool e1 }, { hash := PyData.keyHash w.params (Str.ofString "iteration_exponent"), key := Value.str (Str.ofString "iteration_exponent") k3, val := .int i2 t2 }, { hash := PyData.keyHash w.params (Str.ofString "group_index"), key := Value.str (Str.ofString "group_index") k4, val := .int i3 t3 }, { hash := PyData.keyHash w.params (Str.ofString "group_threshold"), key := Value.str (Str.ofString "group_threshold") k5, val := .int i4 t4 }, { hash := PyData.keyHash w.params (Str.ofString "group_count"), key := Value.str (Str.ofString "group_count") k6, val := .int i5 t5 }, { hash := PyData.keyHash w.params (Str.ofString "index"), key := Value.str (Str.ofString "index") k7, val := .int i6 t6 }, { hash := PyData.keyHash w.params (Str.ofString "member_threshold"), key := Value.str (Str.ofString "member_threshold") k8, val := .int i7 t7 }, { hash := PyData.keyHash w.params (Str.ofString "value"), key := Value.str (Str.ofString "value") k9, val := .bytes b t8 }] 9) → Q (.ref x) { s with heap := h', toks := tk }) :
    wpAny (model Pg w) (Ar dp un fr gd) (call (.ref 275) [.int i1 t1, .bool e1, .int i2 t2, .int i3 t3, .int i4 t4, .int i5 t5, .int i6 t6, .int i7 t7, .bytes b t8]) Q E s := by
  refine wpAny_call ?_
  obtain ⟨hp, g, d, t, os⟩ := s
  dsimp only at X T ret ⊢
  refine make_core (init := .ref 217) (makes_of X (by k_is)) (looks_findIn X (by k_is)) (fun self => bind_fn X self (by k_is)) (.inl rfl) ?_
  refine codeAny_mono (R := wants (fun v s' => v = .none ∧ wants Q E (.ok (.ret (.ref (hp.objs.size + 1)))) s') E) ?_ (fun r s' z => ?_)
  rotate_left
  · rcases r with e | (v | _ | _ | _) <;> first | exact z | exact z.elim
  have kb : Kp hp ((hp.push emptyDict).push (instObj 275 hp.objs.size)) := fun _ _ e => Heap.get?_push_of_some _ (Heap.get?_push_of_some _ e)
  have ks : hp.objs.size ≤ ((hp.push emptyDict).push (instObj 275 hp.objs.size)).objs.size := by rw [Heap.size_push, Heap.size_push]; exact Nat.le_succ_of_le (Nat.le_succ _)
  have kn : ∀ p ∈ [(hp.objs.size + 1, instObj 275 hp.objs.size), (hp.objs.size, emptyDict)], ((hp.push emptyDict).push (instObj 275 hp.objs.size)).get? p.1 = some p.2 ∧ hp.get? p.1 = none := by
    intro p hp'
    rcases List.mem_cons.mp hp' with rfl | hp'
    · exact ⟨by heap_get, Heap.get?_none_of_le (Nat.le_succ _)⟩
    · rw [List.mem_singleton.mp hp']
      exact ⟨by heap_get, Heap.get?_none_of_le (Nat.le_refl _)⟩
  k_dflt (refine' enterB hp ?k3 ?k5 ?kb ?ks ?kn ?k8 ?k6 ?k7 ?k9 ?kB ?_ ?c2 ?c3 ?c4 ?c5; (case k3 => k_asm); (case k5 => k_asm); (case kb => assumption); (case ks => assumption); (case kn => assumption); (case k6 => k_is); (case k7 => k_is); (case k8 => first | exact (by show dp + 1 < recursionLimit; omega) | exact (by show dp + 1 + 1 < recursionLimit; omega) | k_room); (case k9 => exact BindsTo.of_eq rfl); (case c5 => decide); (case kB => exact locs rfl); (case c2 => exact rfl); (case c3 => exact rfl); (case c4 => exact rfl); k_whole; intro L' h' F' N' kp'; (try dsimp only); (try k_fold))
  k_steps
  exact ret _ _ _ _ _ _ _ _ _ _ _ _ _ (Fr.keep (by assumption)) (Nat.le_refl _) (Nat.lt_succ_self _) (News.get (by assumption) (by k_mem)) (News.get (by assumption) (List.mem_cons_of_mem _ List.mem_cons_self))

end Mine
end
section
open PySem PySem.W PyProof.Rows PySem.Calls
namespace Mine
theorem fill_EH : (fun (_ : OpenLaw) (_ : Params → Frag) => True) PySem.Challenge.rw_wx0012_02 hd.heap_39 := by
  w_top off
  k_fill
  trivial
theorem look_none {K : Frag} {h : Heap} {a : Addr} (X : K.In h) (e : h.get? a = none) : K.lookup a = none := by
  cases q : K.lookup a with
  | none => rfl
  | some o => rw [X a o q] at e; cases e
/-- entering a plain def: some objects of the heap at the call (fresh over hB) stand in the ledger, all others are the base -/
theorem enterH {K : Frag} {w : World} {A : Around} {s : Shared} {Q E : Value → Shared → Prop} {name qual : PySem.Str} {params : Arguments} {body : List Stmt} {scope : Scope} {dV kV doc pm cdv ct oc : Value} {an od : Option Addr} {osl : Array (Option Value)} {f : Addr} {pos : List Value} {kws : List (PySem.Str × Value)} {binds : List (PySem.Str × Value)}
    {loose : List PySem.Str} {mean : ExcName → Option Value} {mg mb : PySem.Str → Option Value} {hB : Heap} (news : List (Addr × Obj))
    (X : K.In hB) (T : Top topProg loose mean mg mb hB) (kB : Kp hB s.heap) (hN : ∀ p ∈ news, s.heap.get? p.1 = some p.2 ∧ hB.get? p.1 = none) (hroom : A.depth + 1 < recursionLimit)
    (ho : K.lookup f = some ⟨oc, od, .func (fnOf name qual params body scope dV kV doc pm an cdv ct), osl⟩) (hcd : codeIn K cdv qual = true)
    (hbind : BindsTo s (fnOf name qual params body scope dV kV doc pm an cdv ct) ⟨pos, kws⟩ binds) (hloc : ∀ y ∈ binds, scope.names.lookup y.1 = some .local)
    (h : ∀ L' h₁, K.In (hideAll s.heap (news.map (·.1))) → Top topProg loose mean mg mb (hideAll s.heap (news.map (·.1))) → Fr (hideAll s.heap (news.map (·.1))) L' h₁ (fun y => binds.reverse.lookup y) → News (hideAll s.heap (news.map (·.1))) L' h₁ news →
      wpAny (model Pg w) (A.deeper (envOf qual scope L' f cdv)) (execs body (envOf qual scope L' f cdv))
        (fun fl s' => Q (match fl with | .ret v => v | _ => .none) s')
        (fun e s' => wpAny (model Pg w) (A.deeper (envOf qual scope L' f cdv)) (leaving (envOf qual scope L' f cdv) e) (fun _ s'' => E e s'') (fun e' s'' => E e' s'') s')
        { s with heap := h₁, toks := s.toks + binds.length })
    (hco : scope.isCoroutine = false) (hgen : scope.isGenerator = false) (hk : scope.kind = .function)
    (hcell : ∀ x ∈ scope.names, x.2 ≠ .cell) : wpAny (model Pg w) A (runValue (.call (.ref f) ⟨pos, kws⟩)) Q E s := by
  have kH : Kp hB (hideAll s.heap (news.map (·.1))) := fun b o e => hideAll_get _ (kB b o e) (fun hm => by
    obtain ⟨p, hp, rfl⟩ := List.mem_map.mp hm
    rw [(hN p hp).2] at e; cases e)
  refine wpAny_call (enterB (hideAll s.heap (news.map (·.1))) (X.keeps kH) (T.keeps kH) (fun b o e => of_hideAll _ e) (Nat.le_of_eq (hideAll_size _ _)) (fun p hp => ⟨(hN p hp).1, hideAll_none _ (List.mem_map_of_mem hp)⟩) hroom ho hcd hbind hloc (fun L' h₁ F N _ => h L' h₁ (X.keeps kH) (T.keeps kH) F N) hco hgen hk hcell)
/-- what was kept, but for the two tables -/
theorem kt_of {s h' : Heap} {L : Addr} {m : PySem.Str → Option Value} {hid : List (Addr × Obj)} {news : List (Addr × Obj)} (F : Fr (hideAll s (hid.map (·.1))) L h' m) (N : News (hideAll s (hid.map (·.1))) L h' news)
    (hs : ∀ p ∈ hid, p.1 = 76 ∨ p.1 = 99 ∨ (s.get? p.1 = some p.2 ∧ p ∈ news)) : KT s h' := fun b o h1 h2 e => by
  by_cases hm : b ∈ hid.map (·.1)
  · obtain ⟨p, hp, rfl⟩ := List.mem_map.mp hm
    rcases hs p hp with q | q | ⟨q, q'⟩
    · exact absurd q h1
    · exact absurd q h2
    · rw [q] at e; cases e; exact (N p q').1
  · exact F.keep b o (hideAll_get _ e hm)
theorem kt_cons {h₀ h h' : Heap} {L D : Addr} {m : PySem.Str → Option Value} {news g : List (Addr × Obj)} {o : Obj} (F : Fr h₀ L h m) (N : News h₀ L h news) (hD : h.get? D = none) (ho : h'.get? D = some o) (N' : News h₀ L h' g) : News h₀ L h' ((D, o) :: g) := by
  intro p hp
  rcases List.mem_cons.mp hp with rfl | hp
  · refine ⟨ho, ?_, ?_⟩
    · rintro rfl
      obtain ⟨oL, _, _, hL, _⟩ := F.ns
      rw [hD] at hL; cases hL
    · cases e : h₀.get? D with
      | none => rfl
      | some x => rw [F.keep D x e] at hD; cases hD
  · exact N' p hp
theorem kt_off {h₀ h : Heap} {L D : Addr} : ∀ {news : List (Addr × Obj)}, News h₀ L h news → h.get? D = none → LCg.Off1 D news
  | [], _, _ => trivial
  | p :: r, N, hD => And.intro (fun e => by
      have h1 := (N p (by simp)).1
      have e' : p.1 = D := e
      rw [e', hD] at h1; cases h1) (kt_off (fun q hq => N q (by simp [hq])) hD)
theorem hid_fresh {h : Heap} {ts : List Addr} {D : Addr} (e : (hideAll h ts).get? D = none) (hn : D ∉ ts) : h.get? D = none := by
  cases q : h.get? D with
  | none => rfl
  | some o => rw [hideAll_get _ q hn] at e; cases e
theorem fin_T {s : Shared} {Q : Value → Shared → Prop} {h' : Heap} {L D : Addr} {m : PySem.Str → Option Value} {hid news : List (Addr × Obj)} {q1 q2 : Array Value} {gs : Array GenState} {tk c : Nat} {ys : List Value} {xs zs : List Int}
    (ret : ∀ D ys c h' p1' p2' gs tk, KT s.heap h' → h'.get? 76 = some (tabObj p1') → TriplesOk p1'.toList → h'.get? 99 = some (tabObj p2') → TriplesOk p2'.toList → AllBare gs → s.heap.get? D = none → h'.get? D = some (W.listOf ys.toArray c) → IntsAre ys xs → Q (.ref D) { s with heap := h', gens := gs, toks := tk })
    (F : Fr (hideAll s.heap (hid.map (·.1))) L h' m) (N : News (hideAll s.heap (hid.map (·.1))) L h' news)
    (hs : ∀ p ∈ hid, p.1 = 76 ∨ p.1 = 99 ∨ (s.heap.get? p.1 = some p.2 ∧ p ∈ news)) (mD : (D, W.listOf ys.toArray c) ∈ news) (m1 : ((76 : Addr), tabObj q1) ∈ news) (m2 : ((99 : Addr), tabObj q2) ∈ news)
    (u1 : TriplesOk q1.toList) (u2 : TriplesOk q2.toList) (hb : AllBare gs) (hn : D ∉ hid.map (·.1)) (hi : IntsAre ys zs) (e : zs = xs) : Q (.ref D) { s with heap := h', gens := gs, toks := tk } :=
  ret D ys c h' q1 q2 gs tk (kt_of F N hs) (N.get m1) u1 (N.get m2) u2 hb (hid_fresh (N.fresh mD) hn) (N.get mD) (e ▸ hi)


end Mine
end
section
open PySem PySem.W PyProof.Rows PySem.Calls
namespace Mine
local macro_rules | `(tactic| walk_at "pad 0") => `(tactic| skip)
local macro_rules | `(tactic| walk_at "pad 1") => `(tactic| skip)
local macro_rules | `(tactic| walk_at "pad 2") => `(tactic| skip)
local macro_rules | `(tactic| walk_at "pad 3") => `(tactic| skip)
local macro_rules | `(tactic| walk_at "pad 4") => `(tactic| skip)
local macro_rules | `(tactic| walk_at "pad 5") => `(tactic| skip)
local macro_rules | `(tactic| walk_at "pad 6") => `(tactic| skip)
local macro_rules | `(tactic| walk_at "pad 7") => `(tactic| skip)
local macro_rules | `(tactic| walk_at "pad 8") => `(tactic| skip)
local macro_rules | `(tactic| walk_at "pad 9") => `(tactic| skip)
local macro_rules | `(tactic| walk_at "pad 10") => `(tactic| skip)
local macro_rules | `(tactic| walk_at "pad 11") => `(tactic| skip)
local macro_rules | `(tactic| walk_at "mine my_ne") => `(tactic| (refine neN ?_; (try dsimp only); first | assumption | exact Ne.symm (by assumption) | exact Nat.ne_of_lt (by assumption) | exact Nat.ne_of_gt (by assumption) | decide | ((with_reducible (repeat (rename (_ ≠ _) => q9; clear q9))); omega) | omega))
local macro_rules | `(tactic| walk_at "mine my_all") => `(tactic| first | exact List.forall_mem_nil _ | (refine' List.forall_mem_cons.mpr ⟨?a, ?b⟩; (case a => (walk_at "mine my_ne")); (case b => (walk_at "mine my_all"))))
local macro_rules | `(tactic| walk_at "mine my_updF") => `(tactic| first | (refine' UpdF.head ?a; (case a => (walk_at "mine my_all"))) | (refine' UpdF.tail ?a ?b; (case a => (walk_at "mine my_ne")); (case b => (walk_at "mine my_updF"))))
theorem fill_C7 : (fun (_ : OpenLaw) (_ : Params → Frag) => True) PySem.Challenge.rw_wx0012_02 hd.heap_39 := by
  w_top off
  k_fill
  trivial
theorem gives_lsh4 (a : Bool) (u : Tok) : Gives (Builtin.«int.__lshift__» ⟨[.bool a, .int 4 u], []⟩) (.int ((if a = true then (1 : Int) else 0) * 16)) := by
  cases a
  · exact .of_wp fun M A E s Q h => by
      obtain ⟨hp, g, d, tk, os⟩ := s
      wp_walk
      exact ⟨_, rfl, h⟩
  · exact .of_wp fun M A E s Q h => by
      obtain ⟨hp, g, d, tk, os⟩ := s
      wp_walk
      exact ⟨_, rfl, h⟩
theorem lsh4_bool {prog : Program} {w : World} {A : Around} {E Q : Value → Shared → Prop} {s : Shared} {a : Bool} {u : Tok} (h : Q (.int ((if a = true then (1 : Int) else 0) * 16) s.toks) { s with toks := s.toks + 1 }) : wpAny (model prog w) A (binaryOp .LShift (.bool a) (.int 4 u)) Q E s :=
  binaryOp_left_gives (op := .LShift) (T := "bool") (U := "int") (by decide) rfl (fun s' => typeIs_int s' 4 u) F.fills_bool_lshift F.fills_int_lshift F.sub_int_bool F.slot_bool_lshift F.slot_int_rlshift F.entry_int_lshift (F.args_int_lshift_2 _ _)
    (gives_lsh4 a u) trivial h
local macro_rules | `(tactic| walk_at "mine use_lsh4") => `(tactic| (k_here; k_dflt (refine lsh4_bool ?_)))
local macro_rules | `(tactic| walk_at "binaryOp LShift bool int") => `(tactic| (walk_at "mine use_lsh4"))
local macro_rules | `(tactic| walk_at "mine nn_enc") => `(tactic| ((have hh : (2 : Int) ^ ((4 : Int) + 1).toNat = 32 := by decide); rw [hh]; split <;> omega))
local macro_rules | `(tactic| walk_at "mine use_ln1") => `(tactic| (k_here; (with_reducible show wpAny _ _ (call (Value.ref 123) [Value.int _ _, Value.int _ _]) _ _ _); k_dflt (refine' itw_spec ?hdp ?hun ?hX ?hT ?h76 ?t76 ?h99 ?t99 ?hb _ _ _ _ ?hv ?hn ?hr; (case hdp => ((try simp only [depth_in1, depth_deeper, depth_caller]); (try dsimp only [Ar, Around.deeper]); omega)); (case hun => ((try simp only [units_in1, units_deeper, Around.mark_units, units_caller]); (try dsimp only [Ar, Around.deeper]); omega)); (case hX => exact Frag.In.keeps (by k_asm) (Fr.keep (by k_asm))); (case hT => exact Top.keeps (by k_asm) (Fr.keep (by k_asm))); (case h76 => exact News.get (by k_asm) (by k_mem)); (case t76 => assumption); (case h99 => exact News.get (by k_asm) (by k_mem)); (case t99 => assumption); (case hb => assumption); (case hv => first | l_bnd | (walk_at "mine nn_enc")); (case hn => first | decide | (constructor <;> l_bnd)); intro D' ys' c' h' q1' q2' gs' tk' hk' g1' u1' g2' u2' hb' hD' ho' hi'; (try ((generalize hx9 : List.map Int.ofNat _ = xs9 at hi'); (have hl9 := tw_len hx9); (have hb9 := tw_bd hx9))); (have N' := kt_cons (by k_asm) (by k_asm) hD' ho' (kt_news (by k_asm) hk' (by (walk_at "mine my_updF")) (by (walk_at "mine my_updF")) g1' g2')); (have off' := kt_off (by k_asm) hD'); (have F' := kt_fr (by k_asm) (by k_asm) (by k_mem) (by k_mem) hk'); clear hk'; (try dsimp only at N'); (try simp only [LCg.Off1, and_true] at off'); (repeat (rcases off' with ⟨o9, off'⟩)); (try k_sweep); (try dsimp only); (try k_fold))))
local macro_rules | `(tactic| walk_at "call ref") => `(tactic| (walk_at "mine use_ln1"))
theorem enc_id_spec {w : World} {dp un : Nat} {fr : Option (List Env)} {gd : Option (List Code)} {s : Shared} {Q E : Value → Shared → Prop} {loose : List PySem.Str} {mean : ExcName → Option Value} {mg mb : PySem.Str → Option Value}
    (hdp : dp + 4 < recursionLimit) (hun : un + 80 < cLine) {hB : Heap} (X : (hd.heap_39 w.params).In hB) (T : Top topProg loose mean mg mb hB) (kB : Kp hB s.heap)
    {p1 p2 : Array Value} (h76 : s.heap.get? 76 = some (tabObj p1)) (f76 : hB.get? 76 = none) (t76 : TriplesOk p1.toList) (h99 : s.heap.get? 99 = some (tabObj p2)) (f99 : hB.get? 99 = none) (t99 : TriplesOk p2.toList) (hbare : AllBare s.gens) (a dx : Addr) (k1 k2 k3 k4 k5 k6 k7 k8 k9 : Nat) (i1 i2 i3 i4 i5 i6 i7 : Int) (e1 : Bool) (b : Array UInt8) (t1 t2 t3 t4 t5 t6 t7 t8 : Tok) (ha : s.heap.get? a = some (instObj 275 dx)) (fa : hB.get? a = none) (hd' : s.heap.get? dx = some (dictOf [{ hash := PyData.keyHash w.params (Str.ofString "identifier"), key := Value.str (Str.ofString "identifier") k1, val := .int i1 t1 }, { hash := PyData.keyHash w.params (Str.ofString "extendable"), key := Value.str (Str.ofString "extendable") k2, val := .bool e1 }, { hash := PyData.keyHash w.params (Str.ofString "iteration_exponent"), key := Value.str (Str.ofString "iteration_exponent") k3, val := .int i2 t2 }, { hash := PyData.keyHash w.params (Str.ofString "group_index"), key := Value.str (Str.ofString "group_index") k4, val := .int i3 t3 }, { hash := PyData.keyHash w.params (Str.ofString "group_threshold"), key := Value.str (Str.ofString "group_threshold") k5, val := .int i4 t4 }, { hash := PyData.keyHash w.params (Str.ofString "group_count"), key := Value.str (Str.ofString "group_count") k6, val := .int i5 t5 }, { hash := PyData.keyHash w.params (Str.ofString "index"), key := Value.str (Str.ofString "index") k7, val := .int i6 t6 }, { hash := PyData.keyHash w.params (Str.ofString "member_threshold"), key := Value.str (Str.ofString "member_threshold") k8, val := .int i7 t7 }, { hash := PyData.keyHash w.params (Str.ofString "value"), key := Value.str (Str.ofString "value") k9, val := .bytes b t8 }] 9)) (fd : hB.get? dx = none) (hi1 : 0 ≤ i1 ∧ i1 < 32768) (hi2 : 0 ≤ i2 ∧ i2 < 16)
    (ret : ∀ D ys c h' p1' p2' gs tk, KT s.heap h' → h'.get? 76 = some (tabObj p1') → TriplesOk p1'.toList → h'.get? 99 = some (tabObj p2') → TriplesOk p2'.toList → AllBare gs → s.heap.get? D = none → h'.get? D = some (W.listOf ys.toArray c) → IntsAre ys ((toWords (i1.toNat * 32 + (if e1 then 1 else 0) * 16 + i2.toNat) 2).map Int.ofNat) → Q (.ref D) { s with heap := h', gens := gs, toks := tk }) :
    wpAny (model Pg w) (Ar dp un fr gd) (call (.ref 179) [.ref a]) Q E s := by
  have na76 : a ≠ 76 := by rintro rfl; rw [h76] at ha; cases ha
  have na99 : a ≠ 99 := by rintro rfl; rw [h99] at ha; cases ha
  have nd76 : dx ≠ 76 := by rintro rfl; rw [h76] at hd'; cases hd'
  have nd99 : dx ≠ 99 := by rintro rfl; rw [h99] at hd'; cases hd'
  have nad : a ≠ dx := by rintro rfl; rw [ha] at hd'; cases hd'
  have hN : ∀ p ∈ [((76 : Addr), tabObj p1), (99, tabObj p2), (a, instObj 275 dx), (dx, (dictOf [{ hash := PyData.keyHash w.params (Str.ofString "identifier"), key := Value.str (Str.ofString "identifier") k1, val := .int i1 t1 }, { hash := PyData.keyHash w.params (Str.ofString "extendable"), key := Value.str (Str.ofString "extendable") k2, val := .bool e1 }, { hash := PyData.keyHash w.params (Str.ofString "iteration_exponent"), key := Value.str (Str.ofString "iteration_exponent") k3, val := .int i2 t2 }, { hash := PyData.keyHash w.params (Str.ofString "group_index"), key := Value.str (Str.ofString "group_index") k4, val := .int i3 t3 }, { hash := PyData.keyHash w.params (Str.ofString "group_threshold"), key := Value.str (Str.ofString "group_threshold") k5, val := .int i4 t4 }, { hash := PyData.keyHash w.params (Str.ofString "group_count"), key := Value.str (Str.ofString "group_count") k6, val := .int i5 t5 }, { hash := PyData.keyHash w.params (Str.ofString "index"), key := Value.str (Str.ofString "index") k7, val := .int i6 t6 }, { hash := PyData.keyHash w.params (Str.ofString "member_threshold"), key := Value.str (Str.ofString "member_threshold") k8, val := .int i7 t7 }, { hash := PyData.keyHash w.params (Str.ofString "value"), key := Value.str (Str.ofString "value") k9, val := .bytes b t8 }] 9))], s.heap.get? p.1 = some p.2 ∧ hB.get? p.1 = none := by
    intro p hp
    simp only [List.mem_cons, List.not_mem_nil, or_false] at hp
    rcases hp with rfl | rfl | rfl | rfl
    · exact ⟨h76, f76⟩
    · exact ⟨h99, f99⟩
    · exact ⟨ha, fa⟩
    · exact ⟨hd', fd⟩
  k_dflt (refine' enterH _ ?k3 ?k5 ?kb ?kn ?k8 ?k6 ?k7 ?k9 ?kB ?_ ?c2 ?c3 ?c4 ?c5; (case kn => exact hN); (case k3 => exact X); (case k5 => exact T); (case kb => exact kB); (case k6 => k_is); (case k7 => k_is); (case k8 => first | exact (by show dp + 1 < recursionLimit; omega) | exact (by show dp + 1 + 1 < recursionLimit; omega) | k_room); (case k9 => exact BindsTo.of_eq rfl); (case c5 => decide); (case kB => exact locs rfl); (case c2 => exact rfl); (case c3 => exact rfl); (case c4 => exact rfl); k_whole; intro L' h' X' T' F' N'; (try dsimp only); (try k_fold))
  k_steps
  refine fin_T ret (by k_asm) (by k_asm) ?_ (by k_mem) (by k_mem) (by k_mem) (by assumption) (by assumption) (by assumption) ?_ (by assumption) ?_
  · intro p hp
    simp only [List.mem_cons, List.not_mem_nil, or_false] at hp
    rcases hp with rfl | rfl | rfl | rfl
    · exact .inl rfl
    · exact .inr (.inl rfl)
    · exact .inr (.inr ⟨ha, by k_mem⟩)
    · exact .inr (.inr ⟨hd', by k_mem⟩)
  · simp only [List.map_cons, List.map_nil, List.mem_cons, List.not_mem_nil, or_false, not_or]
    exact ⟨by k_ne, by k_ne, by k_ne, by k_ne⟩
  · refine Eq.trans (Eq.symm (by assumption)) ?_
    congr 2
    have hh : (2 : Int) ^ ((4 : Int) + 1).toNat = 32 := by decide
    rw [hh]
    cases e1 <;> simp <;> omega

end Mine
end
section
open PySem PySem.W PyProof.Rows PySem.Calls
namespace Mine
local macro_rules | `(tactic| walk_at "pad 0") => `(tactic| skip)
local macro_rules | `(tactic| walk_at "pad 1") => `(tactic| skip)
local macro_rules | `(tactic| walk_at "pad 2") => `(tactic| skip)
local macro_rules | `(tactic| walk_at "pad 3") => `(tactic| skip)
local macro_rules | `(tactic| walk_at "pad 4") => `(tactic| skip)
local macro_rules | `(tactic| walk_at "pad 5") => `(tactic| skip)
local macro_rules | `(tactic| walk_at "pad 6") => `(tactic| skip)
local macro_rules | `(tactic| walk_at "pad 7") => `(tactic| skip)
local macro_rules | `(tactic| walk_at "pad 8") => `(tactic| skip)
local macro_rules | `(tactic| walk_at "pad 9") => `(tactic| skip)
local macro_rules | `(tactic| walk_at "pad 10") => `(tactic| skip)
local macro_rules | `(tactic| walk_at "pad 11") => `(tactic| skip)
local macro_rules | `(tactic| walk_at "pad 12") => `(tactic| skip)
local macro_rules | `(tactic| walk_at "pad 13") => `(tactic| skip)
local macro_rules | `(tactic| walk_at "pad 14") => `(tactic| skip)
local macro_rules | `(tactic| walk_at "pad 15") => `(tactic| skip)
local macro_rules | `(tactic| walk_at "pad 16") => `(tactic| skip)
local macro_rules | `(tactic| walk_at "pad 17") => `(tactic| skip)
local macro_rules | `(tactic| walk_at "pad 18") => `(tactic| skip)
local macro_rules | `(tactic| walk_at "pad 19") => `(tactic| skip)
local macro_rules | `(tactic| walk_at "mine my_ne") => `(tactic| (refine neN ?_; (try dsimp only); first | assumption | exact Ne.symm (by assumption) | exact Nat.ne_of_lt (by assumption) | exact Nat.ne_of_gt (by assumption) | decide | ((with_reducible (repeat (rename (_ ≠ _) => q9; clear q9))); omega) | omega))
local macro_rules | `(tactic| walk_at "mine my_all") => `(tactic| first | exact List.forall_mem_nil _ | (refine' List.forall_mem_cons.mpr ⟨?a, ?b⟩; (case a => (walk_at "mine my_ne")); (case b => (walk_at "mine my_all"))))
local macro_rules | `(tactic| walk_at "mine my_updF") => `(tactic| first | (refine' UpdF.head ?a; (case a => (walk_at "mine my_all"))) | (refine' UpdF.tail ?a ?b; (case a => (walk_at "mine my_ne")); (case b => (walk_at "mine my_updF"))))
theorem fill_C8 : (fun (_ : OpenLaw) (_ : Params → Frag) => True) PySem.Challenge.rw_wx0012_02 hd.heap_39 := by
  w_top off
  k_fill
  trivial
local macro_rules | `(tactic| walk_at "mine use_ish") => `(tactic| (k_here; k_dflt (refine ilshift_int_small (by decide) (by decide) ?x9 ?_; (case x9 => ((have hh : (2 : Int) ^ ((4 : Int)).toNat = 16 := by decide); (try simp only [hh]); omega)))))
local macro_rules | `(tactic| walk_at "inplaceOp LShift int int") => `(tactic| (walk_at "mine use_ish"))
local macro_rules | `(tactic| walk_at "mine nn_par") => `(tactic| ((have hh : (2 : Int) ^ ((4 : Int)).toNat = 16 := by decide); (try simp only [hh]); omega))
local macro_rules | `(tactic| walk_at "mine use_ln1") => `(tactic| (k_here; (with_reducible show wpAny _ _ (call (Value.ref 123) [Value.int _ _, Value.int _ _]) _ _ _); k_dflt (refine' itw_spec ?hdp ?hun ?hX ?hT ?h76 ?t76 ?h99 ?t99 ?hb _ _ _ _ ?hv ?hn ?hr; (case hdp => ((try simp only [depth_in1, depth_deeper, depth_caller]); (try dsimp only [Ar, Around.deeper]); omega)); (case hun => ((try simp only [units_in1, units_deeper, Around.mark_units, units_caller]); (try dsimp only [Ar, Around.deeper]); omega)); (case hX => exact Frag.In.keeps (by k_asm) (Fr.keep (by k_asm))); (case hT => exact Top.keeps (by k_asm) (Fr.keep (by k_asm))); (case h76 => exact News.get (by k_asm) (by k_mem)); (case t76 => assumption); (case h99 => exact News.get (by k_asm) (by k_mem)); (case t99 => assumption); (case hb => assumption); (case hv => first | (walk_at "mine nn_par") | l_bnd); (case hn => first | decide | (constructor <;> l_bnd)); intro D' ys' c' h' q1' q2' gs' tk' hk' g1' u1' g2' u2' hb' hD' ho' hi'; (try ((generalize hx9 : List.map Int.ofNat _ = xs9 at hi'); (have hl9 := tw_len hx9); (have hb9 := tw_bd hx9))); (have N' := kt_cons (by k_asm) (by k_asm) hD' ho' (kt_news (by k_asm) hk' (by (walk_at "mine my_updF")) (by (walk_at "mine my_updF")) g1' g2')); (have off' := kt_off (by k_asm) hD'); (have F' := kt_fr (by k_asm) (by k_asm) (by k_mem) (by k_mem) hk'); clear hk'; (try dsimp only at N'); (try simp only [LCg.Off1, and_true] at off'); (repeat (rcases off' with ⟨o9, off'⟩)); (try k_sweep); (try dsimp only); (try k_fold))))
local macro_rules | `(tactic| walk_at "call ref") => `(tactic| (walk_at "mine use_ln1"))
theorem enc_par_spec {w : World} {dp un : Nat} {fr : Option (List Env)} {gd : Option (List Code)} {s : Shared} {Q E : Value → Shared → Prop} {loose : List PySem.Str} {mean : ExcName → Option Value} {mg mb : PySem.Str → Option Value}
    (hdp : dp + 4 < recursionLimit) (hun : un + 80 < cLine) {hB : Heap} (X : (hd.heap_39 w.params).In hB) (T : Top topProg loose mean mg mb hB) (kB : Kp hB s.heap)
    {p1 p2 : Array Value} (h76 : s.heap.get? 76 = some (tabObj p1)) (f76 : hB.get? 76 = none) (t76 : TriplesOk p1.toList) (h99 : s.heap.get? 99 = some (tabObj p2)) (f99 : hB.get? 99 = none) (t99 : TriplesOk p2.toList) (hbare : AllBare s.gens) (a dx : Addr) (k1 k2 k3 k4 k5 k6 k7 k8 k9 : Nat) (i1 i2 i3 i4 i5 i6 i7 : Int) (e1 : Bool) (b : Array UInt8) (t1 t2 t3 t4 t5 t6 t7 t8 : Tok) (ha : s.heap.get? a = some (instObj 275 dx)) (fa : hB.get? a = none) (hd' : s.heap.get? dx = some (dictOf [{ hash := PyData.keyHash w.params (Str.ofString "identifier"), key := Value.str (Str.ofString "identifier") k1, val := .int i1 t1 }, { hash := PyData.keyHash w.params (Str.ofString "extendable"), key := Value.str (Str.ofString "extendable") k2, val := .bool e1 }, { hash := PyData.keyHash w.params (Str.ofString "iteration_exponent"), key := Value.str (Str.ofString "iteration_exponent") k3, val := .int i2 t2 }, { hash := PyData.keyHash w.params (Str.ofString "group_index"), key := Value.str (Str.ofString "group_index") k4, val := .int i3 t3 }, { hash := PyData.keyHash w.params (Str.ofString "group_threshold"), key := Value.str (Str.ofString "group_threshold") k5, val := .int i4 t4 }, { hash := PyData.keyHash w.params (Str.ofString "group_count"), key := Value.str (Str.ofString "group_count") k6, val := .int i5 t5 }, { hash := PyData.keyHash w.params (Str.ofString "index"), key := Value.str (Str.ofString "index") k7, val := .int i6 t6 }, { hash := PyData.keyHash w.params (Str.ofString "member_threshold"), key := Value.str (Str.ofString "member_threshold") k8, val := .int i7 t7 }, { hash := PyData.keyHash w.params (Str.ofString "value"), key := Value.str (Str.ofString "value") k9, val := .bytes b t8 }] 9)) (fd : hB.get? dx = none) (hi3 : 0 ≤ i3 ∧ i3 < 16) (hi4 : 1 ≤ i4 ∧ i4 ≤ 16) (hi5 : 1 ≤ i5 ∧ i5 ≤ 16) (hi6 : 0 ≤ i6 ∧ i6 < 16) (hi7 : 1 ≤ i7 ∧ i7 ≤ 16)
    (ret : ∀ D ys c h' p1' p2' gs tk, KT s.heap h' → h'.get? 76 = some (tabObj p1') → TriplesOk p1'.toList → h'.get? 99 = some (tabObj p2') → TriplesOk p2'.toList → AllBare gs → s.heap.get? D = none → h'.get? D = some (W.listOf ys.toArray c) → IntsAre ys ((toWords (((((i3 * 16 + (i4 - 1)) * 16 + (i5 - 1)) * 16 + i6) * 16 + (i7 - 1)).toNat) 2).map Int.ofNat) → Q (.ref D) { s with heap := h', gens := gs, toks := tk }) :
    wpAny (model Pg w) (Ar dp un fr gd) (call (.ref 186) [.ref a]) Q E s := by
  have na76 : a ≠ 76 := by rintro rfl; rw [h76] at ha; cases ha
  have na99 : a ≠ 99 := by rintro rfl; rw [h99] at ha; cases ha
  have nd76 : dx ≠ 76 := by rintro rfl; rw [h76] at hd'; cases hd'
  have nd99 : dx ≠ 99 := by rintro rfl; rw [h99] at hd'; cases hd'
  have nad : a ≠ dx := by rintro rfl; rw [ha] at hd'; cases hd'
  have hN : ∀ p ∈ [((76 : Addr), tabObj p1), (99, tabObj p2), (a, instObj 275 dx), (dx, (dictOf [{ hash := PyData.keyHash w.params (Str.ofString "identifier"), key := Value.str (Str.ofString "identifier") k1, val := .int i1 t1 }, { hash := PyData.keyHash w.params (Str.ofString "extendable"), key := Value.str (Str.ofString "extendable") k2, val := .bool e1 }, { hash := PyData.keyHash w.params (Str.ofString "iteration_exponent"), key := Value.str (Str.ofString "iteration_exponent") k3, val := .int i2 t2 }, { hash := PyData.keyHash w.params (Str.ofString "group_index"), key := Value.str (Str.ofString "group_index") k4, val := .int i3 t3 }, { hash := PyData.keyHash w.params (Str.ofString "group_threshold"), key := Value.str (Str.ofString "group_threshold") k5, val := .int i4 t4 }, { hash := PyData.keyHash w.params (Str.ofString "group_count"), key := Value.str (Str.ofString "group_count") k6, val := .int i5 t5 }, { hash := PyData.keyHash w.params (Str.ofString "index"), key := Value.str (Str.ofString "index") k7, val := .int i6 t6 }, { hash := PyData.keyHash w.params (Str.ofString "member_threshold"), key := Value.str (Str.ofString "member_threshold") k8, val := .int i7 t7 }, { hash := PyData.keyHash w.params (Str.ofString "value"), key := Value.str (Str.ofString "value") k9, val := .bytes b t8 }] 9))], s.heap.get? p.1 = some p.2 ∧ hB.get? p.1 = none := by
    intro p hp
    simp only [List.mem_cons, List.not_mem_nil, or_false] at hp
    rcases hp with rfl | rfl | rfl | rfl
    · exact ⟨h76, f76⟩
    · exact ⟨h99, f99⟩
    · exact ⟨ha, fa⟩
    · exact ⟨hd', fd⟩
  k_dflt (refine' enterH _ ?k3 ?k5 ?kb ?kn ?k8 ?k6 ?k7 ?k9 ?kB ?_ ?c2 ?c3 ?c4 ?c5; (case kn => exact hN); (case k3 => exact X); (case k5 => exact T); (case kb => exact kB); (case k6 => k_is); (case k7 => k_is); (case k8 => first | exact (by show dp + 1 < recursionLimit; omega) | exact (by show dp + 1 + 1 < recursionLimit; omega) | k_room); (case k9 => exact BindsTo.of_eq rfl); (case c5 => decide); (case kB => exact locs rfl); (case c2 => exact rfl); (case c3 => exact rfl); (case c4 => exact rfl); k_whole; intro L' h' X' T' F' N'; (try dsimp only); (try k_fold))
  k_steps
  refine fin_T ret (by k_asm) (by k_asm) ?_ (by k_mem) (by k_mem) (by k_mem) (by assumption) (by assumption) (by assumption) ?_ (by assumption) ?_
  · intro p hp
    simp only [List.mem_cons, List.not_mem_nil, or_false] at hp
    rcases hp with rfl | rfl | rfl | rfl
    · exact .inl rfl
    · exact .inr (.inl rfl)
    · exact .inr (.inr ⟨ha, by k_mem⟩)
    · exact .inr (.inr ⟨hd', by k_mem⟩)
  · simp only [List.map_cons, List.map_nil, List.mem_cons, List.not_mem_nil, or_false, not_or]
    exact ⟨by (walk_at "mine my_ne"), by (walk_at "mine my_ne"), by (walk_at "mine my_ne"), by (walk_at "mine my_ne")⟩
  · refine Eq.trans (Eq.symm (by assumption)) ?_
    congr 2


end Mine
end
section
open PySem PySem.W PyProof.Rows PySem.Calls
namespace Mine
local macro_rules | `(tactic| walk_at "pad 0") => `(tactic| skip)
local macro_rules | `(tactic| walk_at "pad 1") => `(tactic| skip)
local macro_rules | `(tactic| walk_at "pad 2") => `(tactic| skip)
local macro_rules | `(tactic| walk_at "pad 3") => `(tactic| skip)
local macro_rules | `(tactic| walk_at "pad 4") => `(tactic| skip)
local macro_rules | `(tactic| walk_at "pad 5") => `(tactic| skip)
local macro_rules | `(tactic| walk_at "pad 6") => `(tactic| skip)
local macro_rules | `(tactic| walk_at "pad 7") => `(tactic| skip)
local macro_rules | `(tactic| walk_at "pad 8") => `(tactic| skip)
local macro_rules | `(tactic| walk_at "pad 9") => `(tactic| skip)
local macro_rules | `(tactic| walk_at "pad 10") => `(tactic| skip)
local macro_rules | `(tactic| walk_at "pad 11") => `(tactic| skip)
local macro_rules | `(tactic| walk_at "pad 12") => `(tactic| skip)
local macro_rules | `(tactic| walk_at "pad 13") => `(tactic| skip)
local macro_rules | `(tactic| walk_at "pad 14") => `(tactic| skip)
local macro_rules | `(tactic| walk_at "pad 15") => `(tactic| skip)
local macro_rules | `(tactic| walk_at "pad 16") => `(tactic| skip)
local macro_rules | `(tactic| walk_at "pad 17") => `(tactic| skip)
local macro_rules | `(tactic| walk_at "pad 18") => `(tactic| skip)
local macro_rules | `(tactic| walk_at "pad 19") => `(tactic| skip)
local macro_rules | `(tactic| walk_at "pad 20") => `(tactic| skip)
local macro_rules | `(tactic| walk_at "pad 21") => `(tactic| skip)
local macro_rules | `(tactic| walk_at "pad 22") => `(tactic| skip)
local macro_rules | `(tactic| walk_at "pad 23") => `(tactic| skip)
local macro_rules | `(tactic| walk_at "pad 24") => `(tactic| skip)
local macro_rules | `(tactic| walk_at "pad 25") => `(tactic| skip)
local macro_rules | `(tactic| walk_at "pad 26") => `(tactic| skip)
local macro_rules | `(tactic| walk_at "pad 27") => `(tactic| skip)
theorem fill_C9 : (fun (_ : OpenLaw) (_ : Params → Frag) => True) PySem.Challenge.rw_wx0012_02 hd.heap_39 := by
  w_top off
  k_fill
  trivial
theorem round_spec {w : World} {dp un : Nat} {fr : Option (List Env)} {gd : Option (List Code)} {s : Shared} {Q E : Value → Shared → Prop} {loose : List Str} {mean : ExcName → Option Value} {mg mb : Str → Option Value}
    (hdp : dp + 1 < recursionLimit) (hun : un + 16 < cLine)
    (X : (hd.heap_39 w.params).In s.heap) (T : Top topProg loose mean mg mb s.heap) (n r : Int) (tn tr : Tok) (hn : 0 ≤ n ∧ n ≤ 100000) (hr : 0 < r ∧ r ≤ 1000)
    (ret : ∀ h' tk t, Kp s.heap h' → Q (.int ((n + r - 1) / r) t) { s with heap := h', toks := tk }) :
    wpAny (model Pg w) (Ar dp un fr gd) (call (.ref 60) [.int n tn, .int r tr]) Q E s := by
  k_dflt (refine' enter ?k3 ?k5 ?k8 ?k6 ?k7 ?k9 ?kB ?_ ?c2 ?c3 ?c4 ?c5; (case k3 => k_asm); (case k5 => k_asm); (case k6 => k_is); (case k7 => k_is); (case k8 => exact (by show dp + 1 < recursionLimit; omega)); (case k9 => exact BindsTo.of_eq rfl); (case c5 => decide); (case kB => exact locs rfl); (case c2 => exact rfl); (case c3 => exact rfl); (case c4 => exact rfl); k_whole; intro L' h' F' N'; (try dsimp only); (try k_fold))
  k_steps
  all_goals first
    | (refine fin_int ret ?_ (Fr.keep (by assumption)))
    | skip
  all_goals first
    | exact Int.fdiv_eq_ediv_of_nonneg _ (by omega)
    | skip
local macro_rules | `(tactic| walk_at "mine use_ln1") => `(tactic| (k_here; (with_reducible show wpAny _ _ (call (Value.ref 60) [Value.int _ _, Value.int _ _]) _ _ _); k_dflt (refine' round_spec ?hdp ?hun ?hX ?hT _ _ _ _ ?hn9 ?hr9 ?hr; (case hdp => ((try simp only [depth_in1, depth_deeper, depth_caller]); (try dsimp only [Ar, Around.deeper]); omega)); (case hun => ((try simp only [units_in1, units_deeper, Around.mark_units, units_caller]); (try dsimp only [Ar, Around.deeper]); omega)); (case hX => exact Frag.In.keeps (by k_asm) (Fr.keep (by k_asm))); (case hT => exact Top.keeps (by k_asm) (Fr.keep (by k_asm))); (case hn9 => omega); (case hr9 => decide); intro h' tk' t' hk'; (have F' := kp_fr (by k_asm) hk'); (have N' := News.grown (by k_asm) hk'); clear hk'; (try k_sweep); (try dsimp only); (try k_fold))))
local macro_rules | `(tactic| walk_at "call ref") => `(tactic| (walk_at "mine use_ln1"))
theorem b2w_spec {w : World} {dp un : Nat} {fr : Option (List Env)} {gd : Option (List Code)} {s : Shared} {Q E : Value → Shared → Prop} {loose : List Str} {mean : ExcName → Option Value} {mg mb : Str → Option Value}
    (hdp : dp + 2 < recursionLimit) (hun : un + 32 < cLine)
    (X : (hd.heap_39 w.params).In s.heap) (T : Top topProg loose mean mg mb s.heap) (n : Int) (tn : Tok) (hn : 0 ≤ n ∧ n ≤ 100000)
    (ret : ∀ h' tk t, Kp s.heap h' → Q (.int ((n + 10 - 1) / 10) t) { s with heap := h', toks := tk }) :
    wpAny (model Pg w) (Ar dp un fr gd) (call (.ref 74) [.int n tn]) Q E s := by
  k_dflt (refine' enter ?k3 ?k5 ?k8 ?k6 ?k7 ?k9 ?kB ?_ ?c2 ?c3 ?c4 ?c5; (case k3 => k_asm); (case k5 => k_asm); (case k6 => k_is); (case k7 => k_is); (case k8 => exact (by show dp + 1 < recursionLimit; omega)); (case k9 => exact BindsTo.of_eq rfl); (case c5 => decide); (case kB => exact locs rfl); (case c2 => exact rfl); (case c3 => exact rfl); (case c4 => exact rfl); k_whole; intro L' h' F' N'; (try dsimp only); (try k_fold))
  k_steps
  refine fin_int ret rfl (Fr.keep (by assumption))
theorem b2b_spec {w : World} {dp un : Nat} {fr : Option (List Env)} {gd : Option (List Code)} {s : Shared} {Q E : Value → Shared → Prop} {loose : List Str} {mean : ExcName → Option Value} {mg mb : Str → Option Value}
    (hdp : dp + 2 < recursionLimit) (hun : un + 32 < cLine)
    (X : (hd.heap_39 w.params).In s.heap) (T : Top topProg loose mean mg mb s.heap) (n : Int) (tn : Tok) (hn : 0 ≤ n ∧ n ≤ 100000)
    (ret : ∀ h' tk t, Kp s.heap h' → Q (.int ((n + 8 - 1) / 8) t) { s with heap := h', toks := tk }) :
    wpAny (model Pg w) (Ar dp un fr gd) (call (.ref 67) [.int n tn]) Q E s := by
  k_dflt (refine' enter ?k3 ?k5 ?k8 ?k6 ?k7 ?k9 ?kB ?_ ?c2 ?c3 ?c4 ?c5; (case k3 => k_asm); (case k5 => k_asm); (case k6 => k_is); (case k7 => k_is); (case k8 => exact (by show dp + 1 < recursionLimit; omega)); (case k9 => exact BindsTo.of_eq rfl); (case c5 => decide); (case kB => exact locs rfl); (case c2 => exact rfl); (case c3 => exact rfl); (case c4 => exact rfl); k_whole; intro L' h' F' N'; (try dsimp only); (try k_fold))
  k_steps
  refine fin_int ret rfl (Fr.keep (by assumption))
abbrev custX : Array UInt8 := #[115, 104, 97, 109, 105, 114, 95, 101, 120, 116, 101, 110, 100, 97, 98, 108, 101]
abbrev custO : Array UInt8 := #[115, 104, 97, 109, 105, 114]
def cust (e : Bool) : Array UInt8 := if e then custX else custO
theorem cust_size (e : Bool) : (cust e).size < 30 := by cases e <;> decide
theorem custom_spec {w : World} {dp un : Nat} {fr : Option (List Env)} {gd : Option (List Code)} {s : Shared} {Q E : Value → Shared → Prop} {loose : List Str} {mean : ExcName → Option Value} {mg mb : Str → Option Value}
    (hdp : dp + 2 < recursionLimit) (hun : un + 32 < cLine)
    (X : (hd.heap_39 w.params).In s.heap) (T : Top topProg loose mean mg mb s.heap) (e : Bool)
    (ret : ∀ h' tk t, Kp s.heap h' → Q (.bytes (cust e) t) { s with heap := h', toks := tk }) :
    wpAny (model Pg w) (Ar dp un fr gd) (call (.ref 137) [.bool e]) Q E s := by
  cases e
  · k_dflt (refine' enter ?k3 ?k5 ?k8 ?k6 ?k7 ?k9 ?kB ?_ ?c2 ?c3 ?c4 ?c5; (case k3 => k_asm); (case k5 => k_asm); (case k6 => k_is); (case k7 => k_is); (case k8 => exact (by show dp + 1 < recursionLimit; omega)); (case k9 => exact BindsTo.of_eq rfl); (case c5 => decide); (case kB => exact locs rfl); (case c2 => exact rfl); (case c3 => exact rfl); (case c4 => exact rfl); k_whole; intro L' h' F' N'; (try dsimp only); (try k_fold))
    k_steps
    exact ret _ _ 207 (Fr.keep (by assumption))
  · k_dflt (refine' enter ?k3 ?k5 ?k8 ?k6 ?k7 ?k9 ?kB ?_ ?c2 ?c3 ?c4 ?c5; (case k3 => k_asm); (case k5 => k_asm); (case k6 => k_is); (case k7 => k_is); (case k8 => exact (by show dp + 1 < recursionLimit; omega)); (case k9 => exact BindsTo.of_eq rfl); (case c5 => decide); (case kB => exact locs rfl); (case c2 => exact rfl); (case c3 => exact rfl); (case c4 => exact rfl); k_whole; intro L' h' F' N'; (try dsimp only); (try k_fold))
    k_steps
    exact ret _ _ 209 (Fr.keep (by assumption))

end Mine
end
section
open PySem PySem.W PyProof.Rows PySem.Calls
namespace Mine
theorem fill_BY : (fun (_ : OpenLaw) (_ : Params → Frag) => True) PySem.Challenge.rw_wx0012_02 hd.heap_39 := by
  w_top off
  k_fill
  trivial
section
variable {prog : Program} {w : World} {M : Model} {A : Around} {E : Value → Shared → Prop} {s : Shared} {h₀ : Heap} {L : Addr} {m : PySem.Str → Option Value} {news : List (Addr × Obj)}
theorem grownN {n k : Nat} {Q : Value → Shared → Prop} (hk : k < 100000) (hn : n < 2 ^ k) (h : Q (.int (n : Int) s.toks) { s with toks := s.toks + 1 }) : wpAny M A (mkIntGrown (n : Int)) Q E s := by
  unfold mkIntGrown
  have hl : ¬ ((n : Int).natAbs.log2 ≥ bitsLine) := by
    rw [Int.natAbs_natCast]
    have hb : bitsLine = 134217728 := by first | rfl | decide
    by_cases hz : n = 0
    · subst hz
      rw [hb]
      decide
    · have h1 := (Nat.log2_lt hz).mpr hn
      omega
  rw [if_neg hl]
  exact wpAny_mkInt h
theorem tree_bigN {b : Array UInt8} {t u : Tok} {P : Fin → Shared → Prop} (hl : b.size ≤ 1000) (h : P (.done (.ret (.int (KFB.value (KBw.bInts b)) s.toks))) { s with toks := s.toks + 1 }) :
    wpAny M A (Builtin.«int.from_bytes» ⟨[.type "int", .bytes b t, .str (PySem.Str.ofString "big") u], []⟩) P E s := by
  have hv : ((b.toList.foldl (fun (acc : Nat) (b : UInt8) => acc * 256 + b.toNat) 0 : Nat) : Int) = KFB.value (KBw.bInts b) := KFB.fold_cast b.toList 0
  have hn : b.toList.foldl (fun (acc : Nat) (b : UInt8) => acc * 256 + b.toNat) 0 < 2 ^ (8 * b.size) := by
    have h1 := KFB.fold_lt b.toList 0
    rw [Nat.zero_add, Nat.one_mul, Array.length_toList] at h1
    rw [Nat.pow_mul]; exact h1
  unfold Builtin.«int.from_bytes»
  refine wpAny_bind (wpAny_of_eq (a := true) KFB.type_int ?_)
  refine KFB.if_not rfl ?_
  refine wpAny_bind (wpAny_of_eq (a := true) F.conv_sub_int ?_)
  refine KFB.if_not rfl ?_
  refine wpAny_bind (wpAny_of_eq (a := [some (.bytes b t), some (.str (PySem.Str.ofString "big") u), none]) (by kernel_rfl) ?_)
  refine wpAny_bind (wpAny_of_eq (a := PySem.Str.ofString "big") (by kernel_rfl) ?_)
  refine wpAny_bind (wpAny_of_eq (a := false) rfl ?_)
  refine wpAny_bind (wpAny_of_eq (a := false) (by kernel_rfl) ?_)
  refine wpAny_bind (wpAny_of_eq (a := b) rfl ?_)
  show wpAny _ _ (mkIntGrown (b.toList.foldl (fun (acc : Int) (b : UInt8) => acc * 256 + (b.toNat : Int)) ((0 : Nat) : Int)) >>= fun v => _) _ _ _
  rw [KFB.foldI_eq]
  refine wpAny_bind (grownN (k := 8 * b.size) (by omega) hn ?_)
  rw [hv]
  refine KFB.if_so (by decide +kernel) ?_
  exact wpAny_bind (wpAny_pure (wpAny_pure h))
theorem call_bigN {x : Addr} {b : Array UInt8} {t u : Tok} {Q : Value → Shared → Prop} (N : News h₀ L s.heap news) (hm : (x, KFB.bound) ∈ news) (hl : b.size ≤ 1000)
    (h : ∀ t' k, Q (.int (KFB.value (KBw.bInts b)) t') { s with toks := k }) : wpAny (model prog w) A (call (.ref x) [.bytes b t, .str (PySem.Str.ofString "big") u]) Q E s :=
  KFB.call_of (KFB.at_of N hm) (fun z => tree_bigN hl z) (h _ _)
theorem bitsN {x : Int} {k : Nat} (h0 : 0 ≤ x) (h1 : x < 256 ^ k) : Builtin.Int.intBits x ≤ 8 * k := by
  refine intBits_le_iff.mpr ?_
  have e2 : (2 : Nat) ^ 8 = 256 := by decide
  rw [Nat.pow_mul, e2]
  rw [KTBy.p256] at h1
  omega
theorem to_bigN {x : Int} {k : Nat} {t u v : Tok} {Q : Value → Shared → Prop} (hk : k ≤ 1000) (h0 : 0 ≤ x) (h1 : x < 256 ^ k) (h : ∀ (b : Array UInt8) t' k', KBw.bInts b = (KTBy.little k x).reverse → b.size = k → Q (.bytes b t') { s with toks := k' }) :
    wpAny (model prog w) A (call (.builtin "int.to_bytes") [.int x t, .int (k : Int) u, .str (PySem.Str.ofString "big") v]) Q E s := by
  refine wpAny_call_entry KTBy.slot (typeIs_int s x t) KTBy.entry ?_ (KTBy.args _ _ _)
  have hb := bitsN h0 h1
  show wpAny _ _ (Builtin.Int.intOfSelf (.int x t) >>= fun y => _) _ _ s
  refine wpAny_bind (wpAny_of_eq (a := x) rfl ?_)
  show wpAny _ _ (Builtin.Int.intBindNamed "to_bytes" ["length", "byteorder", "signed"] 0 2 [.int (k : Int) u, .str (PySem.Str.ofString "big") v] [] >>= fun l => _) _ _ s
  refine wpAny_bind (wpAny_of_eq (a := [some (.int (k : Int) u), some (.str (PySem.Str.ofString "big") v), none]) (by kernel_rfl) ?_)
  show wpAny _ _ (Builtin.Int.intIndex "int.to_bytes" (.int (k : Int) u) >>= fun n => _) _ _ s
  refine wpAny_bind (wpAny_of_eq (a := (k : Int)) rfl ?_)
  refine KTBy.if_not (by show (decide ((k : Int) < -(2 ^ 63 : Int)) || decide ((k : Int) ≥ 2 ^ 63)) = false; rw [decide_eq_false (show ¬ ((k : Int) < -(2 ^ 63 : Int)) by omega), decide_eq_false (show ¬ ((k : Int) ≥ 2 ^ 63) by omega)]; rfl) ?_
  refine wpAny_bind (wpAny_of_eq (a := PySem.Str.ofString "big") (by kernel_rfl) ?_)
  refine wpAny_bind (wpAny_of_eq (a := false) rfl ?_)
  refine wpAny_bind (wpAny_of_eq (a := false) (by kernel_rfl) ?_)
  refine wpAny_ite_false (decide_eq_false (show ¬ ((k : Int) < 0) by omega)) ?_
  refine wpAny_ite_false (decide_eq_false (show ¬ ((k : Int) > 2 ^ 63 - 1 - 33) by omega)) ?_
  refine wpAny_ite_false (decide_eq_false (show ¬ ((k : Int) > (sizeLine : Int)) by rw [sizeLine_eq]; omega)) ?_
  refine KTBy.if_not (by show (decide (x < 0) && !false) = false; rw [decide_eq_false (show ¬ x < 0 by omega)]; rfl) ?_
  refine KTBy.if_not (by show (_ && decide ((Builtin.Int.intBits x : Int) > 8 * (k : Int))) = false; rw [decide_eq_false (show ¬ ((Builtin.Int.intBits x : Int) > 8 * (k : Int)) by omega), Bool.and_false]) ?_
  refine wpAny_bind (wpAny_mkBytes (wpAny_pure ⟨_, rfl, h _ _ _ ?_ ?_⟩) (by show (List.reverse (KTBy.low x (Int.toNat (k : Int)))).length ≤ sizeLine; rw [List.length_reverse, KTBy.low_length, Int.toNat_natCast, sizeLine_eq]; omega))
  · show (List.map (fun c : UInt8 => ((c.toNat : Nat) : Int)) (List.reverse (KTBy.low x (Int.toNat (k : Int))))) = (KTBy.little k x).reverse
    rw [Int.toNat_natCast, List.map_reverse, KTBy.low_ints h0 h1, ← KTBy.little_eq]
  · show (List.reverse (KTBy.low x (Int.toNat (k : Int)))).toArray.size = k
    rw [List.size_toArray, List.length_reverse, KTBy.low_length, Int.toNat_natCast]
end
theorem to_bigI {prog : Program} {w : World} {A : Around} {E : Value → Shared → Prop} {s : Shared} {x n : Int} {t u v : Tok} {Q : Value → Shared → Prop} (hn : 0 ≤ n ∧ n ≤ 1000) (h0 : 0 ≤ x) (h1 : x < 256 ^ n.toNat) (h : ∀ (b : Array UInt8) t' k', KBw.bInts b = (KTBy.little n.toNat x).reverse → b.size = n.toNat → Q (.bytes b t') { s with toks := k' }) :
    wpAny (model prog w) A (call (.builtin "int.to_bytes") [.int x t, .int n u, .str (PySem.Str.ofString "big") v]) Q E s := by
  obtain ⟨k, rfl⟩ := Int.eq_ofNat_of_zero_le hn.1
  exact to_bigN (by omega) h0 h1 h
theorem fm9 (x : Int) : 0 ≤ 16 + x.fmod 9 * 2 ∧ 16 + x.fmod 9 * 2 ≤ 1000 := by
  have h1 := Int.fmod_nonneg_of_pos x (b := 9) (by decide)
  have h2 := Int.fmod_lt_of_pos x (b := 9) (by decide)
  omega
theorem fm_lo (x : Int) (n : Nat) : 0 ≤ x.fmod (256 ^ n) := Int.fmod_nonneg_of_pos _ (Int.pow_pos (by decide))
theorem fm_hi (x : Int) (n : Nat) : x.fmod (256 ^ n) < 256 ^ n := Int.fmod_lt_of_pos _ (Int.pow_pos (by decide))

end Mine
end
section
open PySem PySem.W PyProof.Rows PySem.Calls
namespace Mine
local macro_rules | `(tactic| walk_at "pad 0") => `(tactic| skip)
local macro_rules | `(tactic| walk_at "pad 1") => `(tactic| skip)
local macro_rules | `(tactic| walk_at "pad 2") => `(tactic| skip)
local macro_rules | `(tactic| walk_at "pad 3") => `(tactic| skip)
local macro_rules | `(tactic| walk_at "pad 4") => `(tactic| skip)
local macro_rules | `(tactic| walk_at "pad 5") => `(tactic| skip)
local macro_rules | `(tactic| walk_at "pad 6") => `(tactic| skip)
local macro_rules | `(tactic| walk_at "pad 7") => `(tactic| skip)
local macro_rules | `(tactic| walk_at "pad 8") => `(tactic| skip)
local macro_rules | `(tactic| walk_at "pad 9") => `(tactic| skip)
local macro_rules | `(tactic| walk_at "pad 10") => `(tactic| skip)
local macro_rules | `(tactic| walk_at "pad 11") => `(tactic| skip)
local macro_rules | `(tactic| walk_at "pad 12") => `(tactic| skip)
local macro_rules | `(tactic| walk_at "pad 13") => `(tactic| skip)
local macro_rules | `(tactic| walk_at "pad 14") => `(tactic| skip)
local macro_rules | `(tactic| walk_at "pad 15") => `(tactic| skip)
local macro_rules | `(tactic| walk_at "pad 16") => `(tactic| skip)
local macro_rules | `(tactic| walk_at "pad 17") => `(tactic| skip)
local macro_rules | `(tactic| walk_at "pad 18") => `(tactic| skip)
local macro_rules | `(tactic| walk_at "pad 19") => `(tactic| skip)
local macro_rules | `(tactic| walk_at "pad 20") => `(tactic| skip)
local macro_rules | `(tactic| walk_at "pad 21") => `(tactic| skip)
local macro_rules | `(tactic| walk_at "pad 22") => `(tactic| skip)
local macro_rules | `(tactic| walk_at "pad 23") => `(tactic| skip)
local macro_rules | `(tactic| walk_at "pad 24") => `(tactic| skip)
local macro_rules | `(tactic| walk_at "pad 25") => `(tactic| skip)
local macro_rules | `(tactic| walk_at "pad 26") => `(tactic| skip)
local macro_rules | `(tactic| walk_at "pad 27") => `(tactic| skip)
local macro_rules | `(tactic| walk_at "pad 28") => `(tactic| skip)
local macro_rules | `(tactic| walk_at "pad 29") => `(tactic| skip)
theorem fill_W1 : (fun (_ : OpenLaw) (_ : Params → Frag) => True) PySem.Challenge.rw_wx0012_02 hd.heap_39 := by
  w_top off
  k_fill
  trivial
theorem wfi_ok {w : World} {h0 H : Heap} {gens : Array GenState} {dr : _} {os : _} {tk : Nat} {L l : Addr} {vs : List Value} {m : PySem.Str → Option Value} {env : Env} {D U : Nat} {Q : Value → Shared → Prop} {loose : List Str} {mean : ExcName → Option Value} {mg mb : Str → Option Value} {ps : Array Value} {elt : Expr} {scope : Scope} {x : PySem.Str}
    (F : Fr h0 L H m) (hl : h0.IsList l vs.toArray) (Fx : Nat → Value → Prop)
    (X : (hd.heap_39 w.params).In h0) (T : Top topProg loose mean mg mb h0) (hP : h0.get? 99 = some (tabObj ps)) (htr : TriplesOk ps.toList) (hbare : AllBare gens)
    (helt : ∀ C code (A' : Around) E' k v (s₂ : Shared) m₂, A'.handled = none → A'.depth ≤ D → A'.units ≤ U → vs[k]? = some v → Fr (hideAll h0 [99]) C s₂.heap m₂ → m₂ x = some v →
      wpAny (model Pg w) A' (eval elt (genEnv scope [] C code builtinsNs env)) (fun y s₃ => Fx k y ∧ Keeps s₂ s₃) E' s₂)
    (ret : ∀ a h' ps' gs tk, Heap.ExtBut 99 h0 h' → h'.get? 99 = some (tabObj ps') → TriplesOk ps'.toList → AllBare gs → h0.objs.size ≤ h'.objs.size →
      GenReady w D U a (fun _ => True) h0 vs.length Fx ⟨h', gs, dr, tk, os⟩ → Q (.ref a) ⟨h', gs, dr, tk, os⟩) :
    GXok w D U 103 99 x elt scope [] env (fun _ => True) h0 Q (.ref H.objs.size) ⟨H.push { cls := .type "list_iterator", data := .fields #[.ref l, .int 0 0] }, gens, dr, tk, os⟩ := by
  have hH : H.get? 99 = some (tabObj ps) := F.keep _ _ hP
  have C : CodeHd h0 103 99 := codeHd_of_K X (by first | k_is | (generalize w.params = pp; rfl))
  have hsz0 : h0.objs.size ≤ H.objs.size := Nat.le_trans F.above (Nat.le_of_lt F.ns.lt)
  have up : ∀ b o, H.get? b = some o → (H.push { cls := .type "list_iterator", data := .fields #[.ref l, .int 0 0] }).get? b = some o := fun b o e => Heap.get?_push_of_some _ e
  have hlH : H.IsList l vs.toArray := by obtain ⟨o, e, r⟩ := hl; exact ⟨o, F.keep _ _ e, r⟩
  have hll : l < H.objs.size := by obtain ⟨o, e, _⟩ := hlH; exact Heap.lt_size e
  have hl99 : l ≠ 99 := fun q => by obtain ⟨o, e, hc, _⟩ := hl; rw [q, hP] at e; cases e; exact absurd hc (by simp)
  have hlt99 : (99 : Nat) < H.objs.size := Heap.lt_size hH
  have hcs : cStatics ≠ H.objs.size := fun e => by
    have := (T.keeps F.keep).nolimit
    obtain ⟨_, hn, _⟩ := this
    exact Nat.ne_of_lt hn.lt e
  have hmem : ∀ b, b ∈ (List.range (H.objs.size + 1)).filter (fun b => b != 99) ↔ b < H.objs.size + 1 ∧ b ≠ 99 := fun b => by simp [List.mem_filter, List.mem_range]
  refine ⟨H.objs.size, (List.range (H.objs.size + 1)).filter (fun b => b != 99), [H.objs.size], vs.toArray.size, _, _, Fx, ps, loose, mean, mg, mb, hideAll h0 [99], rfl,
    fun A' hA => (Walks.list (prog := Pg) (w := w) hA H.objs.size l (Nat.ne_of_lt hll) vs.toArray).mono_fp (fun b hb => (hmem b).mpr ?_), ?_, ?_, ?_, fun _ _ => trivial, trivial, ?_, ?_, (C.keeps F.keep).keeps up, up _ _ hH, htr, ?_, fun _ _ => trivial, ?_, ?_, ?_, ?_, hbare, ?_, fun a h₅ ps' gs tk5 hx5 q1 q2 q3 q4 G => ret a h₅ ps' gs tk5 (fun b o hb e => hx5 b o hb (up _ _ (F.keep _ _ e))) q1 q2 q3 (by
    obtain ⟨g, fp, wr, g1, g2, _⟩ := G.ex
    have l1 : a < h₅.objs.size := g2 a g1
    have l2 : (H.push { cls := .type "list_iterator", data := .fields #[.ref l, .int 0 0] }).objs.size ≤ a := q4
    rw [Heap.size_push] at l2
    exact Nat.le_trans hsz0 (Nat.le_trans (Nat.le_succ _) (Nat.le_trans l2 (Nat.le_of_lt l1)))) (by simpa using G)⟩
  · simp only [List.mem_cons, List.not_mem_nil, or_false] at hb
    rcases hb with rfl | rfl
    · exact ⟨Nat.lt_succ_self _, fun q => Nat.ne_of_lt hlt99 q.symm⟩
    · exact ⟨Nat.lt_succ_of_lt hll, hl99⟩
  · exact ⟨⟨_, Heap.get?_push_size H rfl, rfl, rfl⟩, hlH.push _⟩
  · intro b hb
    show b < (H.push _).objs.size
    rw [Heap.size_push]
    exact ((hmem b).mp hb).1
  · intro hb; exact ((hmem 99).mp hb).2 rfl
  · intro b hb
    rw [List.mem_singleton.mp hb]; exact Heap.get?_none_of_le hsz0
  · intro hm; exact hcs (List.mem_singleton.mp hm)
  · intro b o e _; exact up _ _ (F.keep _ _ e)
  · show h0.objs.size ≤ (H.push _).objs.size
    rw [Heap.size_push]; exact Nat.le_succ_of_le hsz0
  · exact hid_top T hP
  · intro b o e; exact up _ _ (F.keep _ _ (of_hideAll _ e))
  · exact hideAll_none _ (by simp)
  · intro C' code h' hC' hx'
    refine ⟨fun A' E' i v' s₂ m₂ _ _ _ _ _ _ _ => wpAny_pure ⟨rfl, _, _, rfl, fun _ _ e => e⟩, fun A' E' i v' s₂ m₂ hA hD hU hPi _ hns hm hk => ?_⟩
    refine helt C' code A' E' i v' s₂ m₂ hA hD hU (by simpa using hPi) ⟨hns, fun b o e => ?_, ?_⟩ hm
    · have hb9 : b ≠ 99 := fun q => by rw [q, hideAll_none _ (by simp)] at e; cases e
      have e0 := F.keep _ _ (of_hideAll _ e)
      exact hk b (List.mem_cons_of_mem _ ((hmem b).mpr ⟨Nat.lt_succ_of_lt (Heap.lt_size e0), hb9⟩)) (fun q => by rw [List.mem_singleton.mp q] at e0; exact Nat.lt_irrefl _ (Heap.lt_size e0)) o (hx' b o hb9 (up _ _ e0))
    · have : (H.push { cls := .type "list_iterator", data := .fields #[.ref l, .int 0 0] }).objs.size ≤ C' := hC'
      rw [Heap.size_push] at this
      exact Nat.le_trans (Nat.le_of_eq (hideAll_size _ _)) (Nat.le_trans hsz0 (Nat.le_trans (Nat.le_succ _) this))
local macro_rules | `(tactic| walk_at "mine use_pil") => `(tactic| (k_here; (with_reducible show wpAny _ _ (pyIter _) (GXok _ _ _ _ _ _ _ _ _ _ _ _ _) _ _); k_dflt (refine wpAny_pyIter_list (by is_list) ?_)))
local macro_rules | `(tactic| walk_at "pyIter ref") => `(tactic| (walk_at "mine use_pil"))
theorem int_at : ∀ {vs : List Value} {ns : List Int}, IntsAre vs ns → (∀ x ∈ ns, 0 ≤ x ∧ x < 1024) → ∀ {k : Nat} {v : Value}, vs[k]? = some v → ∃ t, v = .int (ns.getD k 0) t ∧ (0 ≤ ns.getD k 0 ∧ ns.getD k 0 < 1024)
  | [], _, _, _, k, v, h => by simp at h
  | x :: vs, ns, hi, hb, k, v, h => by
    cases hi with
    | cons n t hi' =>
      cases k with
      | zero => simp at h; subst h; exact ⟨t, rfl, hb _ (by simp)⟩
      | succ k => simpa using int_at hi' (fun y hy => hb y (by simp [hy])) (k := k) (v := v) (by simpa using h)
theorem wfi_spec {w : World} {dp un : Nat} {fr : Option (List Env)} {gd : Option (List Code)} {s : Shared} {Q E : Value → Shared → Prop} {loose : List Str} {mean : ExcName → Option Value} {mg mb : Str → Option Value}
    (hdp : dp + 2 < recursionLimit) (hun : un + 16 < cLine)
    (X : (hd.heap_39 w.params).In s.heap) (T : Top topProg loose mean mg mb s.heap) (l : Addr) (vs : List Value) (ns : List Int) (hl : s.heap.IsList l vs.toArray) (hi : IntsAre vs ns) (hb : ∀ x ∈ ns, 0 ≤ x ∧ x < 1024) (ps : Array Value) (hP : s.heap.get? 99 = some (tabObj ps)) (htr : TriplesOk ps.toList) (hbare : AllBare s.gens) (DD UU : Nat) (hDD : DD + 2 < recursionLimit) (hUU : UU + 30 < cLine)
    (ret : ∀ a h' ps' gs tk, Heap.ExtBut 99 s.heap h' → h'.get? 99 = some (tabObj ps') → TriplesOk ps'.toList → AllBare gs → s.heap.objs.size ≤ h'.objs.size →
      GenReady w DD UU a (fun _ => True) s.heap vs.length (fun j y => ∃ t, y = .str (wordStr (ns.getD j 0)) t) { s with heap := h', gens := gs, toks := tk } → Q (.ref a) { s with heap := h', gens := gs, toks := tk }) :
    wpAny (model Pg w) (Ar dp un fr gd) (call (.ref 104) [.ref l]) Q E s := by
  k_dflt (refine' enter ?k3 ?k5 ?k8 ?k6 ?k7 ?k9 ?kB ?_ ?c2 ?c3 ?c4 ?c5; (case k3 => k_asm); (case k5 => k_asm); (case k6 => k_is); (case k7 => k_is); (case k8 => exact (by show dp + 1 < recursionLimit; omega)); (case k9 => exact BindsTo.of_eq rfl); (case c5 => decide); (case kB => exact locs rfl); (case c2 => exact rfl); (case c3 => exact rfl); (case c4 => exact rfl); k_whole; intro L' h' F' N'; (try dsimp only); (try k_fold))
  k_steps
  with_unfolding_all refine gen_make (D := DD) (U := UU) (c := 103) (P := 99) (Z := fun _ => True) (h0 := s.heap) (by rfl) (by rfl) (by rfl) (by decide) (by rfl) (by rfl) (by rfl) ?hroom (by rfl) (by rfl) ?_ (by intro _; rfl)
  case hroom => exact (by show dp + 1 < recursionLimit; omega)
  k_steps
  refine wfi_ok (F := by k_asm) hl (fun j y => ∃ t, y = .str (wordStr (ns.getD j 0)) t) X T hP htr hbare ?_ ret
  intro C code A' E' k v s₂ m₂ hA hD hU hv F2 hm
  have T2 := hid_top T hP
  have X2 : (hd.heap_39 w.params).In (hideAll s.heap [99]) := fun a o e => hideAll_get _ (X a o e) (fun q => by
    have hk : (hd.heap_39 w.params).lookup 99 = none := by with_unfolding_all rfl
    rw [List.mem_singleton.mp q, hk] at e; cases e)
  obtain ⟨hh, dd, fr', gg, uu⟩ := A'
  have hA' : hh = none := hA
  subst hA'
  have hD' : dd ≤ DD := hD
  have hU' : uu ≤ UU := hU
  obtain ⟨t9, rfl, hb9⟩ := int_at hi hb hv
  have hdp2 : dd + 2 < recursionLimit := by omega
  have hun2 : uu + 30 < cLine := by omega
  clear hdp hun X T hA hD hU hl ret hP F' N'
  refine Call_ ?_
  refine Name_function_global (by rfl) (by rfl) (loadGlobal_global (mg := mg) (show s₂.heap.Ns mainGlobals mg from (T2.keeps F2.keep).g) (mg_of X2 T2.g (v := .ref 90) (by k_is)) ?_)
  refine callWith_K (X2.keeps F2.keep) (by k_is) ?_
  refine args_cons ?_
  refine wpAny_Name (wpAny_loadName_local (m := m₂) (by rfl) (by rfl) F2.ns hm ?_) (by decide)
  refine args_nil ?_
  refine ⟨X2.keeps F2.keep, ?_⟩
  refine word_spec (dp := dd) (un := uu) (fr := fr') (gd := gg) (by omega) (by omega) (X2.keeps F2.keep) (T2.keeps F2.keep) _ t9 hb9 ?_
  intro h' tk t kp
  exact ⟨⟨t, rfl⟩, h', tk, rfl, kp⟩

end Mine
end
section
open PySem PySem.W PyProof.Rows PySem.Calls
namespace Mine
local macro_rules | `(tactic| walk_at "pad 0") => `(tactic| skip)
local macro_rules | `(tactic| walk_at "pad 1") => `(tactic| skip)
local macro_rules | `(tactic| walk_at "pad 2") => `(tactic| skip)
local macro_rules | `(tactic| walk_at "pad 3") => `(tactic| skip)
local macro_rules | `(tactic| walk_at "pad 4") => `(tactic| skip)
local macro_rules | `(tactic| walk_at "pad 5") => `(tactic| skip)
local macro_rules | `(tactic| walk_at "pad 6") => `(tactic| skip)
local macro_rules | `(tactic| walk_at "pad 7") => `(tactic| skip)
local macro_rules | `(tactic| walk_at "pad 8") => `(tactic| skip)
local macro_rules | `(tactic| walk_at "pad 9") => `(tactic| skip)
local macro_rules | `(tactic| walk_at "pad 10") => `(tactic| skip)
local macro_rules | `(tactic| walk_at "pad 11") => `(tactic| skip)
local macro_rules | `(tactic| walk_at "pad 12") => `(tactic| skip)
local macro_rules | `(tactic| walk_at "pad 13") => `(tactic| skip)
local macro_rules | `(tactic| walk_at "pad 14") => `(tactic| skip)
local macro_rules | `(tactic| walk_at "pad 15") => `(tactic| skip)
local macro_rules | `(tactic| walk_at "pad 16") => `(tactic| skip)
local macro_rules | `(tactic| walk_at "pad 17") => `(tactic| skip)
local macro_rules | `(tactic| walk_at "pad 18") => `(tactic| skip)
local macro_rules | `(tactic| walk_at "pad 19") => `(tactic| skip)
local macro_rules | `(tactic| walk_at "pad 20") => `(tactic| skip)
local macro_rules | `(tactic| walk_at "pad 21") => `(tactic| skip)
local macro_rules | `(tactic| walk_at "pad 22") => `(tactic| skip)
local macro_rules | `(tactic| walk_at "pad 23") => `(tactic| skip)
local macro_rules | `(tactic| walk_at "pad 24") => `(tactic| skip)
local macro_rules | `(tactic| walk_at "pad 25") => `(tactic| skip)
local macro_rules | `(tactic| walk_at "pad 26") => `(tactic| skip)
local macro_rules | `(tactic| walk_at "pad 27") => `(tactic| skip)
local macro_rules | `(tactic| walk_at "pad 28") => `(tactic| skip)
local macro_rules | `(tactic| walk_at "pad 29") => `(tactic| skip)
local macro_rules | `(tactic| walk_at "pad 30") => `(tactic| skip)
local macro_rules | `(tactic| walk_at "pad 31") => `(tactic| skip)
local macro_rules | `(tactic| walk_at "mine my_ne") => `(tactic| (refine neN ?_; (try dsimp only); first | assumption | exact Ne.symm (by assumption) | exact Nat.ne_of_lt (by assumption) | exact Nat.ne_of_gt (by assumption) | decide | ((with_reducible (repeat (rename (_ ≠ _) => q9; clear q9))); omega) | omega))
local macro_rules | `(tactic| walk_at "mine my_all") => `(tactic| first | exact List.forall_mem_nil _ | (refine' List.forall_mem_cons.mpr ⟨?a, ?b⟩; (case a => (walk_at "mine my_ne")); (case b => (walk_at "mine my_all"))))
local macro_rules | `(tactic| walk_at "mine my_updF") => `(tactic| first | (refine' UpdF.head ?a; (case a => (walk_at "mine my_all"))) | (refine' UpdF.tail ?a ?b; (case a => (walk_at "mine my_ne")); (case b => (walk_at "mine my_updF"))))
local macro_rules | `(tactic| walk_at "mine my_om") => `(tactic| ((with_reducible (repeat (rename (_ ≠ _) => q9; clear q9))); first | omega | (constructor <;> omega)))
local macro_rules | `(tactic| walk_at "mine use_addl") => `(tactic| (k_here; (with_reducible show wpAny _ _ (binaryOp Operator.Add (Value.ref _) (Value.ref _)) _ _ _); k_dflt (refine' kmk_add_ints ?F ?N ?a ?b ?i ?j ?_ ?z; (case F => k_asm); (case N => k_asm); (case a => exact News.isList (by k_asm) (by k_mem)); (case b => exact News.isList (by k_asm) (by k_mem)); (case i => l_ints); (case j => l_ints); (case z => (rw [sizeLine_eq]; (try simp only [List.length_append]); (walk_at "mine my_om")))); intro D' ws' h' F' N' l1 hI'; (try k_lt l1); (try k_sweep)))
theorem fill_W2 : (fun (_ : OpenLaw) (_ : Params → Frag) => True) PySem.Challenge.rw_wx0012_02 hd.heap_39 := by
  w_top off
  k_fill
  trivial
local macro_rules | `(tactic| walk_at "binaryOp Add ref ref") => `(tactic| (walk_at "mine use_addl"))
local macro_rules | `(tactic| walk_at "mine use_ln4") => `(tactic| (k_here; (with_reducible show wpAny _ _ (call (Value.ref 74) [Value.int _ _]) _ _ _); k_dflt (refine' b2w_spec ?hdp ?hun ?hX ?hT _ _ ?hn9 ?hr; (case hdp => ((try simp only [depth_in1, depth_deeper, depth_caller]); (try dsimp only [Ar, Around.deeper]); omega)); (case hun => ((try simp only [units_in1, units_deeper, Around.mark_units, units_caller]); (try dsimp only [Ar, Around.deeper]); omega)); (case hX => exact Frag.In.keeps (by k_asm) (Fr.keep (by k_asm))); (case hT => exact Top.keeps (by k_asm) (Fr.keep (by k_asm))); (case hn9 => (walk_at "mine my_om")); intro h' tk' t' hk'; (have F' := kp_fr (by k_asm) hk'); (have N' := News.grown (by k_asm) hk'); clear hk'; (try k_sweep); (try dsimp only); (try k_fold))))
local macro_rules | `(tactic| walk_at "call ref") => `(tactic| (walk_at "mine use_ln4"))
local macro_rules | `(tactic| walk_at "mine use_ln5") => `(tactic| (k_here; (with_reducible show wpAny _ _ (call (Value.ref 137) [Value.bool _]) _ _ _); k_dflt (refine' custom_spec ?hdp ?hun ?hX ?hT _ ?hr; (case hdp => ((try simp only [depth_in1, depth_deeper, depth_caller]); (try dsimp only [Ar, Around.deeper]); omega)); (case hun => ((try simp only [units_in1, units_deeper, Around.mark_units, units_caller]); (try dsimp only [Ar, Around.deeper]); omega)); (case hX => exact Frag.In.keeps (by k_asm) (Fr.keep (by k_asm))); (case hT => exact Top.keeps (by k_asm) (Fr.keep (by k_asm))); intro h' tk' t' hk'; (have F' := kp_fr (by k_asm) hk'); (have N' := News.grown (by k_asm) hk'); clear hk'; (try k_sweep); (try dsimp only); (try k_fold))))
local macro_rules | `(tactic| walk_at "call ref") => `(tactic| (walk_at "mine use_ln5"))
local macro_rules | `(tactic| walk_at "mine use_fb") => `(tactic| (k_here; (with_reducible show wpAny _ _ (call (Value.ref _) [Value.bytes _ _, Value.str _ _]) _ _ _); k_dflt (with_unfolding_all refine call_bigN (by k_asm) (by k_mem) (by omega) ?_; intro t' k')))
local macro_rules | `(tactic| walk_at "call ref") => `(tactic| (walk_at "mine use_fb"))
local macro_rules | `(tactic| walk_at "mine use_ln2") => `(tactic| (k_here; (with_reducible show wpAny _ _ (call (Value.ref 179) _) _ _ _); k_dflt (refine' enc_id_spec ?hdp ?hun ?hX ?hT ?kB ?h76 ?f76 ?t76 ?h99 ?f99 ?t99 ?hb _ _ _ _ _ _ _ _ _ _ _ _ _ _ _ _ _ _ _ _ _ _ _ _ _ _ _ _ ?ha ?fa ?hd9 ?fd ?hi1 ?hi2 ?hr; (case hdp => ((try simp only [depth_in1, depth_deeper, depth_caller]); (try dsimp only [Ar, Around.deeper]); omega)); (case hun => ((try simp only [units_in1, units_deeper, Around.mark_units, units_caller]); (try dsimp only [Ar, Around.deeper]); omega)); (case hX => k_asm); (case hT => k_asm); (case kB => exact Fr.keep (by k_asm)); (case h76 => exact News.get (by k_asm) (by k_mem)); (case f76 => exact News.fresh (by k_asm) (by k_mem)); (case t76 => assumption); (case h99 => exact News.get (by k_asm) (by k_mem)); (case f99 => exact News.fresh (by k_asm) (by k_mem)); (case t99 => assumption); (case hb => assumption); (case ha => exact News.get (by k_asm) (by k_mem)); (case fa => exact News.fresh (by k_asm) (by k_mem)); (case hd9 => exact News.get (by k_asm) (by k_mem)); (case fd => exact News.fresh (by k_asm) (by k_mem)); (case hi1 => (walk_at "mine my_om")); (case hi2 => (walk_at "mine my_om")); intro D' ys' c' h' q1' q2' gs' tk' hk' g1' u1' g2' u2' hb' hD' ho' hi'; (try ((generalize hx9 : List.map Int.ofNat _ = xs9 at hi'); (have hl9 := tw_len hx9); (have hb9 := tw_bd hx9))); (have N' := kt_cons (by k_asm) (by k_asm) hD' ho' (kt_news (by k_asm) hk' (by (walk_at "mine my_updF")) (by (walk_at "mine my_updF")) g1' g2')); (have off' := kt_off (by k_asm) hD'); (have F' := kt_fr (by k_asm) (by k_asm) (by k_mem) (by k_mem) hk'); clear hk'; (try dsimp only at N'); (try simp only [LCg.Off1, and_true] at off'); (repeat (rcases off' with ⟨o9, off'⟩)); (try k_sweep); (try dsimp only); (try k_fold))))
local macro_rules | `(tactic| walk_at "call ref") => `(tactic| (walk_at "mine use_ln2"))
theorem val_nn (b : Array UInt8) : 0 ≤ KFB.value (KBw.bInts b) := by
  have hv : ((b.toList.foldl (fun (acc : Nat) (b : UInt8) => acc * 256 + b.toNat) 0 : Nat) : Int) = KFB.value (KBw.bInts b) := KFB.fold_cast b.toList 0
  rw [← hv]; exact Int.natCast_nonneg _
local macro_rules | `(tactic| walk_at "mine use_ln1") => `(tactic| (k_here; (with_reducible show wpAny _ _ (call (Value.ref 123) [Value.int _ _, Value.int _ _]) _ _ _); k_dflt (refine' itw_spec ?hdp ?hun ?hX ?hT ?h76 ?t76 ?h99 ?t99 ?hb _ _ _ _ ?hv ?hn ?hr; (case hdp => ((try simp only [depth_in1, depth_deeper, depth_caller]); (try dsimp only [Ar, Around.deeper]); omega)); (case hun => ((try simp only [units_in1, units_deeper, Around.mark_units, units_caller]); (try dsimp only [Ar, Around.deeper]); omega)); (case hX => exact Frag.In.keeps (by k_asm) (Fr.keep (by k_asm))); (case hT => exact Top.keeps (by k_asm) (Fr.keep (by k_asm))); (case h76 => exact News.get (by k_asm) (by k_mem)); (case t76 => assumption); (case h99 => exact News.get (by k_asm) (by k_mem)); (case t99 => assumption); (case hb => assumption); (case hv => exact val_nn _); (case hn => (walk_at "mine my_om")); intro D' ys' c' h' q1' q2' gs' tk' hk' g1' u1' g2' u2' hb' hD' ho' hi'; (try ((generalize hx9 : List.map Int.ofNat _ = xs9 at hi'); (have hl9 := tw_len hx9); (have hb9 := tw_bd hx9))); (have N' := kt_cons (by k_asm) (by k_asm) hD' ho' (kt_news (by k_asm) hk' (by (walk_at "mine my_updF")) (by (walk_at "mine my_updF")) g1' g2')); (have off' := kt_off (by k_asm) hD'); (have F' := kt_fr (by k_asm) (by k_asm) (by k_mem) (by k_mem) hk'); clear hk'; (try dsimp only at N'); (try simp only [LCg.Off1, and_true] at off'); (repeat (rcases off' with ⟨o9, off'⟩)); (try k_sweep); (try dsimp only); (try k_fold))))
local macro_rules | `(tactic| walk_at "call ref") => `(tactic| (walk_at "mine use_ln1"))
local macro_rules | `(tactic| walk_at "mine use_ln3") => `(tactic| (k_here; (with_reducible show wpAny _ _ (call (Value.ref 186) _) _ _ _); k_dflt (refine' enc_par_spec ?hdp ?hun ?hX ?hT ?kB ?h76 ?f76 ?t76 ?h99 ?f99 ?t99 ?hb _ _ _ _ _ _ _ _ _ _ _ _ _ _ _ _ _ _ _ _ _ _ _ _ _ _ _ _ ?ha ?fa ?hd9 ?fd ?hi3 ?hi4 ?hi5 ?hi6 ?hi7 ?hr; (case hdp => ((try simp only [depth_in1, depth_deeper, depth_caller]); (try dsimp only [Ar, Around.deeper]); omega)); (case hun => ((try simp only [units_in1, units_deeper, Around.mark_units, units_caller]); (try dsimp only [Ar, Around.deeper]); omega)); (case hX => k_asm); (case hT => k_asm); (case kB => exact Fr.keep (by k_asm)); (case h76 => exact News.get (by k_asm) (by k_mem)); (case f76 => exact News.fresh (by k_asm) (by k_mem)); (case t76 => assumption); (case h99 => exact News.get (by k_asm) (by k_mem)); (case f99 => exact News.fresh (by k_asm) (by k_mem)); (case t99 => assumption); (case hb => assumption); (case ha => exact News.get (by k_asm) (by k_mem)); (case fa => exact News.fresh (by k_asm) (by k_mem)); (case hd9 => exact News.get (by k_asm) (by k_mem)); (case fd => exact News.fresh (by k_asm) (by k_mem)); (case hi3 => (walk_at "mine my_om")); (case hi4 => (walk_at "mine my_om")); (case hi5 => (walk_at "mine my_om")); (case hi6 => (walk_at "mine my_om")); (case hi7 => (walk_at "mine my_om")); intro D' ys' c' h' q1' q2' gs' tk' hk' g1' u1' g2' u2' hb' hD' ho' hi'; (try ((generalize hx9 : List.map Int.ofNat _ = xs9 at hi'); (have hl9 := tw_len hx9); (have hb9 := tw_bd hx9))); (have N' := kt_cons (by k_asm) (by k_asm) hD' ho' (kt_news (by k_asm) hk' (by (walk_at "mine my_updF")) (by (walk_at "mine my_updF")) g1' g2')); (have off' := kt_off (by k_asm) hD'); (have F' := kt_fr (by k_asm) (by k_asm) (by k_mem) (by k_mem) hk'); clear hk'; (try dsimp only at N'); (try simp only [LCg.Off1, and_true] at off'); (repeat (rcases off' with ⟨o9, off'⟩)); (try k_sweep); (try dsimp only); (try k_fold))))
local macro_rules | `(tactic| walk_at "call ref") => `(tactic| (walk_at "mine use_ln3"))
local macro_rules | `(tactic| walk_at "mine use_ln6") => `(tactic| (k_here; (with_reducible show wpAny _ _ (call (Value.ref 33) [Value.ref _, Value.bytes _ _]) _ _ _); k_dflt (refine' create_spec ?hdp ?hun ?hX ?hT _ _ _ _ _ ?hl ?hi ?hlen ?hbb ?hcs ?hr; (case hdp => ((try simp only [depth_in1, depth_deeper, depth_caller]); (try dsimp only [Ar, Around.deeper]); omega)); (case hun => ((try simp only [units_in1, units_deeper, Around.mark_units, units_caller]); (try dsimp only [Ar, Around.deeper]); omega)); (case hX => exact Frag.In.keeps (by k_asm) (Fr.keep (by k_asm))); (case hT => exact Top.keeps (by k_asm) (Fr.keep (by k_asm))); (case hl => exact News.isList (by k_asm) (by k_mem)); (case hi => l_ints); (case hlen => (simp only [List.length_append]; (walk_at "mine my_om"))); (case hbb => exact bnd_app (bnd_app (by assumption) (by assumption)) (by assumption)); (case hcs => exact cust_size _); intro D' ys' c' h' tk' hk' hD' ho' hi'; ((generalize hx9 : List.map Int.ofNat (chk _) = xs9 at hi'); (have hl9 := ck_len hx9); (have hb9 := ck_bd hx9)); (have N' := kp_newN (by k_asm) (by k_asm) hk' hD' ho'); (have off' := kt_off (by k_asm) hD'); (have F' := kp_fr (by k_asm) hk'); clear hk'; (try simp only [LCg.Off1, and_true] at off'); (repeat (rcases off' with ⟨o9, off'⟩)); (try k_sweep); (try dsimp only); (try k_fold))))
local macro_rules | `(tactic| walk_at "call ref") => `(tactic| (walk_at "mine use_ln6"))
theorem lg_kt {h0 h2 h3 : Heap} (hx : Heap.ExtBut 99 h0 h2) (k3 : ∀ b o o', h0.get? b = some o' → h2.get? b = some o → h3.get? b = some o) : KT h0 h3 := fun b o _ h9 e => k3 b o o e (hx b o h9 e)
local macro_rules | `(tactic| walk_at "mine use_wfi") => `(tactic| (k_here; (with_reducible show wpAny _ _ (call (Value.ref 104) [Value.ref _]) _ _ _); k_dflt (refine' wfi_spec ?hdp ?hun ?hX ?hT _ _ _ ?hl ?hi ?hb _ ?hP ?htr ?hbare (recursionLimit - 3) (cLine - 31) ?hDD ?hUU ?hr; (case hdp => ((try simp only [depth_in1, depth_deeper, depth_caller]); (try dsimp only [Ar, Around.deeper]); omega)); (case hun => ((try simp only [units_in1, units_deeper, Around.mark_units, units_caller]); (try dsimp only [Ar, Around.deeper]); omega)); (case hX => exact Frag.In.keeps (by k_asm) (Fr.keep (by k_asm))); (case hT => exact Top.keeps (by k_asm) (Fr.keep (by k_asm))); (case hl => exact News.isList (by k_asm) (by k_mem)); (case hi => l_ints); (case hb => exact bnd_app (bnd_app (bnd_app (by assumption) (by assumption)) (by assumption)) (by assumption)); (case hP => exact News.get (by k_asm) (by k_mem)); (case htr => assumption); (case hbare => assumption); (case hDD => decide); (case hUU => decide))))
local macro_rules | `(tactic| walk_at "call ref") => `(tactic| (walk_at "mine use_wfi"))
def StrsOf (ys : List Value) (ns : List Int) : Prop := ys.length = ns.length ∧ ∀ j y, ys[j]? = some y → ∃ t, y = Value.str (wordStr (ns.getD j 0)) t
def shareData (i1 i2 i3 i4 i5 i6 i7 : Int) (e1 : Bool) (b : Array UInt8) : List Int :=
  List.map Int.ofNat (toWords (i1.toNat * 32 + (if e1 then 1 else 0) * 16 + i2.toNat) 2) ++ List.map Int.ofNat (toWords (((((i3 * 16 + (i4 - 1)) * 16 + (i5 - 1)) * 16 + i6) * 16 + (i7 - 1)).toNat) 2) ++ List.map Int.ofNat (toWords (KFB.value (KBw.bInts b)).toNat (((b.size : Int) * 8 + 10 - 1) / 10).toNat)
def shareRow (i1 i2 i3 i4 i5 i6 i7 : Int) (e1 : Bool) (b : Array UInt8) : List Int :=
  shareData i1 i2 i3 i4 i5 i6 i7 e1 b ++ List.map Int.ofNat (chk (List.map Int.toNat (KBw.bInts (cust e1) ++ shareData i1 i2 i3 i4 i5 i6 i7 e1 b)))
theorem fin_G {s h0 h2 h3 : Heap} {L : Addr} {m : PySem.Str → Option Value} {hid news : List (Addr × Obj)} {q1 q2 q3 : Array Value} (F : Fr (hideAll s (hid.map (·.1))) L h0 m) (N : News (hideAll s (hid.map (·.1))) L h0 news)
    (hs : ∀ p ∈ hid, p.1 = 76 ∨ p.1 = 99 ∨ (s.get? p.1 = some p.2 ∧ p ∈ news)) (m1 : ((76 : Addr), tabObj q1) ∈ news) (m2 : ((99 : Addr), tabObj q2) ∈ news) (hx : Heap.ExtBut 99 h0 h2) (hP : h2.get? 99 = some (tabObj q3)) (hsz : h0.objs.size ≤ h2.objs.size)
    (k3 : ∀ b o o', h0.get? b = some o' → h2.get? b = some o → h3.get? b = some o) : KT s h3 ∧ h3.get? 76 = some (tabObj q1) ∧ h3.get? 99 = some (tabObj q3) ∧ s.get? h2.objs.size = none :=
  ⟨(kt_of F N hs).trans (lg_kt hx k3), k3 _ _ _ (N.get m1) (hx _ _ (by decide) (N.get m1)), k3 _ _ _ (N.get m2) hP,
    Heap.get?_none_of_le (Nat.le_trans (Nat.le_of_eq (hideAll_size _ _).symm) (Nat.le_trans F.above (Nat.le_trans (Nat.le_of_lt F.ns.lt) hsz)))⟩
theorem words_spec {w : World} {dp un : Nat} {fr : Option (List Env)} {gd : Option (List Code)} {s : Shared} {Q E : Value → Shared → Prop} {loose : List PySem.Str} {mean : ExcName → Option Value} {mg mb : PySem.Str → Option Value}
    (hdp : dp + 8 < recursionLimit) (hun : un + 160 < cLine) {hB : Heap} (X : (hd.heap_39 w.params).In hB) (T : Top topProg loose mean mg mb hB) (kB : Kp hB s.heap)
    {p1 p2 : Array Value} (h76 : s.heap.get? 76 = some (tabObj p1)) (f76 : hB.get? 76 = none) (t76 : TriplesOk p1.toList) (h99 : s.heap.get? 99 = some (tabObj p2)) (f99 : hB.get? 99 = none) (t99 : TriplesOk p2.toList) (hbare : AllBare s.gens) (a dx : Addr) (k1 k2 k3 k4 k5 k6 k7 k8 k9 : Nat) (i1 i2 i3 i4 i5 i6 i7 : Int) (e1 : Bool) (b : Array UInt8) (t1 t2 t3 t4 t5 t6 t7 t8 : Tok) (ha : s.heap.get? a = some (instObj 275 dx)) (fa : hB.get? a = none) (hd' : s.heap.get? dx = some (dictOf [{ hash := PyData.keyHash w.params (Str.ofString "identifier"), key := Value.str (Str.ofString "identifier") k1, val := .int i1 t1 }, { hash := PyData.keyHash w.params (Str.ofString "extendable"), key := Value.str (Str.ofString "extendable") k2, val := .bool e1 }, { hash := PyData.keyHash w.params (Str.ofString "iteration_exponent"), key := Value.str (Str.ofString "iteration_exponent") k3, val := .int i2 t2 }, { hash := PyData.keyHash w.params (Str.ofString "group_index"), key := Value.str (Str.ofString "group_index") k4, val := .int i3 t3 }, { hash := PyData.keyHash w.params (Str.ofString "group_threshold"), key := Value.str (Str.ofString "group_threshold") k5, val := .int i4 t4 }, { hash := PyData.keyHash w.params (Str.ofString "group_count"), key := Value.str (Str.ofString "group_count") k6, val := .int i5 t5 }, { hash := PyData.keyHash w.params (Str.ofString "index"), key := Value.str (Str.ofString "index") k7, val := .int i6 t6 }, { hash := PyData.keyHash w.params (Str.ofString "member_threshold"), key := Value.str (Str.ofString "member_threshold") k8, val := .int i7 t7 }, { hash := PyData.keyHash w.params (Str.ofString "value"), key := Value.str (Str.ofString "value") k9, val := .bytes b t8 }] 9)) (fd : hB.get? dx = none) (hi1 : 0 ≤ i1 ∧ i1 < 32768) (hi2 : 0 ≤ i2 ∧ i2 < 16) (hi3 : 0 ≤ i3 ∧ i3 < 16) (hi4 : 1 ≤ i4 ∧ i4 ≤ 16) (hi5 : 1 ≤ i5 ∧ i5 ≤ 16) (hi6 : 0 ≤ i6 ∧ i6 < 16) (hi7 : 1 ≤ i7 ∧ i7 ≤ 16) (hbs : b.size ≤ 64)
    (ret : ∀ D ys c h' p1' p2' gs tk, KT s.heap h' → h'.get? 76 = some (tabObj p1') → TriplesOk p1'.toList → h'.get? 99 = some (tabObj p2') → TriplesOk p2'.toList → AllBare gs → s.heap.get? D = none → h'.get? D = some (W.listOf ys.toArray c) → StrsOf ys (shareRow i1 i2 i3 i4 i5 i6 i7 e1 b) → Q (.ref D) { s with heap := h', gens := gs, toks := tk }) :
    wpAny (model Pg w) (Ar dp un fr gd) (call (.ref 193) [.ref a]) Q E s := by
  have na76 : a ≠ 76 := by rintro rfl; rw [h76] at ha; cases ha
  have na99 : a ≠ 99 := by rintro rfl; rw [h99] at ha; cases ha
  have nd76 : dx ≠ 76 := by rintro rfl; rw [h76] at hd'; cases hd'
  have nd99 : dx ≠ 99 := by rintro rfl; rw [h99] at hd'; cases hd'
  have nad : a ≠ dx := by rintro rfl; rw [ha] at hd'; cases hd'
  have hN : ∀ p ∈ [((76 : Addr), tabObj p1), (99, tabObj p2), (a, instObj 275 dx), (dx, (dictOf [{ hash := PyData.keyHash w.params (Str.ofString "identifier"), key := Value.str (Str.ofString "identifier") k1, val := .int i1 t1 }, { hash := PyData.keyHash w.params (Str.ofString "extendable"), key := Value.str (Str.ofString "extendable") k2, val := .bool e1 }, { hash := PyData.keyHash w.params (Str.ofString "iteration_exponent"), key := Value.str (Str.ofString "iteration_exponent") k3, val := .int i2 t2 }, { hash := PyData.keyHash w.params (Str.ofString "group_index"), key := Value.str (Str.ofString "group_index") k4, val := .int i3 t3 }, { hash := PyData.keyHash w.params (Str.ofString "group_threshold"), key := Value.str (Str.ofString "group_threshold") k5, val := .int i4 t4 }, { hash := PyData.keyHash w.params (Str.ofString "group_count"), key := Value.str (Str.ofString "group_count") k6, val := .int i5 t5 }, { hash := PyData.keyHash w.params (Str.ofString "index"), key := Value.str (Str.ofString "index") k7, val := .int i6 t6 }, { hash := PyData.keyHash w.params (Str.ofString "member_threshold"), key := Value.str (Str.ofString "member_threshold") k8, val := .int i7 t7 }, { hash := PyData.keyHash w.params (Str.ofString "value"), key := Value.str (Str.ofString "value") k9, val := .bytes b t8 }] 9))], s.heap.get? p.1 = some p.2 ∧ hB.get? p.1 = none := by
    intro p hp
    simp only [List.mem_cons, List.not_mem_nil, or_false] at hp
    rcases hp with rfl | rfl | rfl | rfl
    · exact ⟨h76, f76⟩
    · exact ⟨h99, f99⟩
    · exact ⟨ha, fa⟩
    · exact ⟨hd', fd⟩
  k_dflt (refine' enterH _ ?k3 ?k5 ?kb ?kn ?k8 ?k6 ?k7 ?k9 ?kB ?_ ?c2 ?c3 ?c4 ?c5; (case kn => exact hN); (case k3 => exact X); (case k5 => exact T); (case kb => exact kB); (case k6 => k_is); (case k7 => k_is); (case k8 => first | exact (by show dp + 1 < recursionLimit; omega) | exact (by show dp + 1 + 1 < recursionLimit; omega) | k_room); (case k9 => exact BindsTo.of_eq rfl); (case c5 => decide); (case kB => exact locs rfl); (case c2 => exact rfl); (case c3 => exact rfl); (case c4 => exact rfl); k_whole; intro L' h' X' T' F' N'; (try dsimp only); (try k_fold))
  k_steps
  have hHid : ∀ p ∈ [((76 : Addr), tabObj p1), (99, tabObj p2), (a, instObj 275 dx), (dx, (dictOf [{ hash := PyData.keyHash w.params (Str.ofString "identifier"), key := Value.str (Str.ofString "identifier") k1, val := .int i1 t1 }, { hash := PyData.keyHash w.params (Str.ofString "extendable"), key := Value.str (Str.ofString "extendable") k2, val := .bool e1 }, { hash := PyData.keyHash w.params (Str.ofString "iteration_exponent"), key := Value.str (Str.ofString "iteration_exponent") k3, val := .int i2 t2 }, { hash := PyData.keyHash w.params (Str.ofString "group_index"), key := Value.str (Str.ofString "group_index") k4, val := .int i3 t3 }, { hash := PyData.keyHash w.params (Str.ofString "group_threshold"), key := Value.str (Str.ofString "group_threshold") k5, val := .int i4 t4 }, { hash := PyData.keyHash w.params (Str.ofString "group_count"), key := Value.str (Str.ofString "group_count") k6, val := .int i5 t5 }, { hash := PyData.keyHash w.params (Str.ofString "index"), key := Value.str (Str.ofString "index") k7, val := .int i6 t6 }, { hash := PyData.keyHash w.params (Str.ofString "member_threshold"), key := Value.str (Str.ofString "member_threshold") k8, val := .int i7 t7 }, { hash := PyData.keyHash w.params (Str.ofString "value"), key := Value.str (Str.ofString "value") k9, val := .bytes b t8 }] 9))], p.1 = 76 ∨ p.1 = 99 ∨ (s.heap.get? p.1 = some p.2 ∧ p ∈ [(a, instObj 275 dx), (dx, (dictOf [{ hash := PyData.keyHash w.params (Str.ofString "identifier"), key := Value.str (Str.ofString "identifier") k1, val := .int i1 t1 }, { hash := PyData.keyHash w.params (Str.ofString "extendable"), key := Value.str (Str.ofString "extendable") k2, val := .bool e1 }, { hash := PyData.keyHash w.params (Str.ofString "iteration_exponent"), key := Value.str (Str.ofString "iteration_exponent") k3, val := .int i2 t2 }, { hash := PyData.keyHash w.params (Str.ofString "group_index"), key := Value.str (Str.ofString "group_index") k4, val := .int i3 t3 }, { hash := PyData.keyHash w.params (Str.ofString "group_threshold"), key := Value.str (Str.ofString "group_threshold") k5, val := .int i4 t4 }, { hash := PyData.keyHash w.params (Str.ofString "group_count"), key := Value.str (Str.ofString "group_count") k6, val := .int i5 t5 }, { hash := PyData.keyHash w.params (Str.ofString "index"), key := Value.str (Str.ofString "index") k7, val := .int i6 t6 }, { hash := PyData.keyHash w.params (Str.ofString "member_threshold"), key := Value.str (Str.ofString "member_threshold") k8, val := .int i7 t7 }, { hash := PyData.keyHash w.params (Str.ofString "value"), key := Value.str (Str.ofString "value") k9, val := .bytes b t8 }] 9))]) := by
    intro p hp
    simp only [List.mem_cons, List.not_mem_nil, or_false] at hp
    rcases hp with rfl | rfl | rfl | rfl
    · exact .inl rfl
    · exact .inr (.inl rfl)
    · exact .inr (.inr ⟨ha, by simp⟩)
    · exact .inr (.inr ⟨hd', by simp⟩)
  rename GenReady _ _ _ _ _ _ _ _ _ => G9
  rename Heap.ExtBut 99 _ _ => hx99
  refine list_gen_kt rfl (by show dp + 1 < recursionLimit; omega) (by show dp + 1 + 1 ≤ recursionLimit - 3; omega) (by show un + 3 + 1 + 1 + 4 ≤ cLine - 31; omega) G9 (by assumption) ?n (by assumption) ?_
  case n => (refine Nat.le_trans (Nat.le_of_eq (IntsAre.length (by assumption))) ?_; rw [sizeLine_eq]; simp only [List.length_append]; (walk_at "mine my_om"))
  intro h9 gs9 tk9 ys9 c9 kk9 gg9 ll9 ii9 bb9
  have fg := fin_G (hid := [((76 : Addr), tabObj p1), (99, tabObj p2), (a, instObj 275 dx), (dx, (dictOf [{ hash := PyData.keyHash w.params (Str.ofString "identifier"), key := Value.str (Str.ofString "identifier") k1, val := .int i1 t1 }, { hash := PyData.keyHash w.params (Str.ofString "extendable"), key := Value.str (Str.ofString "extendable") k2, val := .bool e1 }, { hash := PyData.keyHash w.params (Str.ofString "iteration_exponent"), key := Value.str (Str.ofString "iteration_exponent") k3, val := .int i2 t2 }, { hash := PyData.keyHash w.params (Str.ofString "group_index"), key := Value.str (Str.ofString "group_index") k4, val := .int i3 t3 }, { hash := PyData.keyHash w.params (Str.ofString "group_threshold"), key := Value.str (Str.ofString "group_threshold") k5, val := .int i4 t4 }, { hash := PyData.keyHash w.params (Str.ofString "group_count"), key := Value.str (Str.ofString "group_count") k6, val := .int i5 t5 }, { hash := PyData.keyHash w.params (Str.ofString "index"), key := Value.str (Str.ofString "index") k7, val := .int i6 t6 }, { hash := PyData.keyHash w.params (Str.ofString "member_threshold"), key := Value.str (Str.ofString "member_threshold") k8, val := .int i7 t7 }, { hash := PyData.keyHash w.params (Str.ofString "value"), key := Value.str (Str.ofString "value") k9, val := .bytes b t8 }] 9))]) (by k_asm) (by k_asm) (fun p hp => by
    rcases hHid p hp with q | q | ⟨q, q'⟩
    · exact .inl q
    · exact .inr (.inl q)
    · refine .inr (.inr ⟨q, ?_⟩)
      simp only [List.mem_cons, List.not_mem_nil, or_false] at q'
      rcases q' with rfl | rfl
      · k_mem
      · k_mem) (by k_mem) (by k_mem) hx99 (by assumption) (by assumption) kk9
  refine ret _ ys9 c9 h9 _ _ gs9 tk9 fg.1 fg.2.1 (by assumption) fg.2.2.1 (by assumption) bb9 fg.2.2.2 gg9 ⟨?l9, ?r9⟩
  case l9 =>
    refine (ll9.trans (IntsAre.length (by assumption))).trans ?_
    unfold shareRow shareData
    subst_vars
    rfl
  case r9 =>
    intro j y hj
    obtain ⟨t, e⟩ := ii9 j y hj
    refine ⟨t, e.trans ?_⟩
    unfold shareRow shareData
    subst_vars
    rfl

end Mine
end
section
open PySem PySem.W PyProof.Rows PySem.Calls
namespace Mine
local macro_rules | `(tactic| walk_at "pad 0") => `(tactic| skip)
local macro_rules | `(tactic| walk_at "pad 1") => `(tactic| skip)
local macro_rules | `(tactic| walk_at "pad 2") => `(tactic| skip)
local macro_rules | `(tactic| walk_at "pad 3") => `(tactic| skip)
local macro_rules | `(tactic| walk_at "pad 4") => `(tactic| skip)
local macro_rules | `(tactic| walk_at "pad 5") => `(tactic| skip)
local macro_rules | `(tactic| walk_at "pad 6") => `(tactic| skip)
local macro_rules | `(tactic| walk_at "pad 7") => `(tactic| skip)
local macro_rules | `(tactic| walk_at "pad 8") => `(tactic| skip)
local macro_rules | `(tactic| walk_at "pad 9") => `(tactic| skip)
local macro_rules | `(tactic| walk_at "pad 10") => `(tactic| skip)
local macro_rules | `(tactic| walk_at "pad 11") => `(tactic| skip)
local macro_rules | `(tactic| walk_at "pad 12") => `(tactic| skip)
local macro_rules | `(tactic| walk_at "pad 13") => `(tactic| skip)
local macro_rules | `(tactic| walk_at "pad 14") => `(tactic| skip)
local macro_rules | `(tactic| walk_at "pad 15") => `(tactic| skip)
local macro_rules | `(tactic| walk_at "pad 16") => `(tactic| skip)
local macro_rules | `(tactic| walk_at "pad 17") => `(tactic| skip)
local macro_rules | `(tactic| walk_at "pad 18") => `(tactic| skip)
local macro_rules | `(tactic| walk_at "pad 19") => `(tactic| skip)
local macro_rules | `(tactic| walk_at "pad 20") => `(tactic| skip)
local macro_rules | `(tactic| walk_at "pad 21") => `(tactic| skip)
local macro_rules | `(tactic| walk_at "pad 22") => `(tactic| skip)
local macro_rules | `(tactic| walk_at "pad 23") => `(tactic| skip)
local macro_rules | `(tactic| walk_at "pad 24") => `(tactic| skip)
local macro_rules | `(tactic| walk_at "pad 25") => `(tactic| skip)
local macro_rules | `(tactic| walk_at "pad 26") => `(tactic| skip)
local macro_rules | `(tactic| walk_at "pad 27") => `(tactic| skip)
local macro_rules | `(tactic| walk_at "pad 28") => `(tactic| skip)
local macro_rules | `(tactic| walk_at "pad 29") => `(tactic| skip)
local macro_rules | `(tactic| walk_at "pad 30") => `(tactic| skip)
local macro_rules | `(tactic| walk_at "pad 31") => `(tactic| skip)
local macro_rules | `(tactic| walk_at "pad 32") => `(tactic| skip)
local macro_rules | `(tactic| walk_at "pad 33") => `(tactic| skip)
local macro_rules | `(tactic| walk_at "pad 34") => `(tactic| skip)
local macro_rules | `(tactic| walk_at "pad 35") => `(tactic| skip)
local macro_rules | `(tactic| walk_at "pad 36") => `(tactic| skip)
local macro_rules | `(tactic| walk_at "pad 37") => `(tactic| skip)
local macro_rules | `(tactic| walk_at "pad 38") => `(tactic| skip)
local macro_rules | `(tactic| walk_at "pad 39") => `(tactic| skip)
local macro_rules | `(tactic| walk_at "pad 40") => `(tactic| skip)
local macro_rules | `(tactic| walk_at "pad 41") => `(tactic| skip)
local macro_rules | `(tactic| walk_at "pad 42") => `(tactic| skip)
local macro_rules | `(tactic| walk_at "pad 43") => `(tactic| skip)
local macro_rules | `(tactic| walk_at "pad 44") => `(tactic| skip)
local macro_rules | `(tactic| walk_at "pad 45") => `(tactic| skip)
local macro_rules | `(tactic| walk_at "pad 46") => `(tactic| skip)
local macro_rules | `(tactic| walk_at "pad 47") => `(tactic| skip)
local macro_rules | `(tactic| walk_at "pad 48") => `(tactic| skip)
local macro_rules | `(tactic| walk_at "pad 49") => `(tactic| skip)
local macro_rules | `(tactic| walk_at "pad 50") => `(tactic| skip)
local macro_rules | `(tactic| walk_at "pad 51") => `(tactic| skip)
local macro_rules | `(tactic| walk_at "pad 52") => `(tactic| skip)
local macro_rules | `(tactic| walk_at "pad 53") => `(tactic| skip)
local macro_rules | `(tactic| walk_at "mine my_ne") => `(tactic| (refine neN ?_; (try dsimp only); first | assumption | exact Ne.symm (by assumption) | exact Nat.ne_of_lt (by assumption) | exact Nat.ne_of_gt (by assumption) | decide | ((with_reducible (repeat (rename (_ ≠ _) => q9; clear q9))); omega) | omega))
local macro_rules | `(tactic| walk_at "mine my_all") => `(tactic| first | exact List.forall_mem_nil _ | (refine' List.forall_mem_cons.mpr ⟨?a, ?b⟩; (case a => (walk_at "mine my_ne")); (case b => (walk_at "mine my_all"))))
local macro_rules | `(tactic| walk_at "mine my_updF") => `(tactic| first | (refine' UpdF.head ?a; (case a => (walk_at "mine my_all"))) | (refine' UpdF.tail ?a ?b; (case a => (walk_at "mine my_ne")); (case b => (walk_at "mine my_updF"))))
local macro_rules | `(tactic| walk_at "mine my_om") => `(tactic| ((with_reducible (repeat (rename (_ ≠ _) => q9; clear q9))); first | omega | (constructor <;> omega)))
theorem fill_W3 : (fun (_ : OpenLaw) (_ : Params → Frag) => True) PySem.Challenge.rw_wx0012_02 hd.heap_39 := by
  w_top off
  k_fill
  trivial
theorem strs_of : ∀ {ys : List Value} {ns : List Int}, StrsOf ys ns → StrsAre ys (ns.map wordStr)
  | [], ns, h => by
    have h1 := h.1
    cases ns with
    | nil => exact StrsAre.nil
    | cons n r => simp at h1
  | y :: ys, ns, h => by
    have h1 := h.1
    cases ns with
    | nil => simp at h1
    | cons n r =>
      obtain ⟨t, rfl⟩ := h.2 0 y rfl
      exact StrsAre.cons _ _ (strs_of ⟨by simpa using h1, fun j z hj => by simpa using h.2 (j + 1) z (by simpa using hj)⟩)
theorem wordStr_len (i : Int) : (wordStr i).length = 3 := by
  unfold wordStr
  rfl
theorem words_sum (ns : List Int) : ((ns.map wordStr).map (·.length)).sum + (ns.map wordStr).length * (PySem.Str.ofString " ").length = ns.length * 4 := by
  have e : (PySem.Str.ofString " ").length = 1 := by decide
  rw [e]
  induction ns with
  | nil => rfl
  | cons n r ih => simp only [List.map_cons, List.sum_cons, List.length_cons, wordStr_len] at ih ⊢; omega
def rowText (ns : List Int) : PySem.Str := Txt.join (PySem.Str.ofString " ") (ns.map wordStr)
theorem shareRow_len (i1 i2 i3 i4 i5 i6 i7 : Int) (e1 : Bool) (b : Array UInt8) : (shareRow i1 i2 i3 i4 i5 i6 i7 e1 b).length = 7 + (((b.size : Int) * 8 + 10 - 1) / 10).toNat := by
  simp [shareRow, shareData, toWords, chk]; omega
local macro_rules | `(tactic| walk_at "mine use_ln1") => `(tactic| (k_here; (with_reducible show wpAny _ _ (call (Value.ref 193) _) _ _ _); k_dflt (refine' words_spec ?hdp ?hun ?hX ?hT ?kB ?h76 ?f76 ?t76 ?h99 ?f99 ?t99 ?hb _ _ _ _ _ _ _ _ _ _ _ _ _ _ _ _ _ _ _ _ _ _ _ _ _ _ _ _ ?ha ?fa ?hd9 ?fd ?hi1 ?hi2 ?hi3 ?hi4 ?hi5 ?hi6 ?hi7 ?hbs ?hr; (case hdp => ((try simp only [depth_in1, depth_deeper, depth_caller]); (try dsimp only [Ar, Around.deeper]); omega)); (case hun => ((try simp only [units_in1, units_deeper, Around.mark_units, units_caller]); (try dsimp only [Ar, Around.deeper]); omega)); (case hX => k_asm); (case hT => k_asm); (case kB => exact Fr.keep (by k_asm)); (case h76 => exact News.get (by k_asm) (by k_mem)); (case f76 => exact News.fresh (by k_asm) (by k_mem)); (case t76 => assumption); (case h99 => exact News.get (by k_asm) (by k_mem)); (case f99 => exact News.fresh (by k_asm) (by k_mem)); (case t99 => assumption); (case hb => assumption); (case ha => exact News.get (by k_asm) (by k_mem)); (case fa => exact News.fresh (by k_asm) (by k_mem)); (case hd9 => exact News.get (by k_asm) (by k_mem)); (case fd => exact News.fresh (by k_asm) (by k_mem)); (case hi1 => (walk_at "mine my_om")); (case hi2 => (walk_at "mine my_om")); (case hi3 => (walk_at "mine my_om")); (case hi4 => (walk_at "mine my_om")); (case hi5 => (walk_at "mine my_om")); (case hi6 => (walk_at "mine my_om")); (case hi7 => (walk_at "mine my_om")); (case hbs => (walk_at "mine my_om")); intro D' ys' c' h' q1' q2' gs' tk' hk' g1' u1' g2' u2' hb' hD' ho' hi'; (try ((generalize hx9 : List.map Int.ofNat _ = xs9 at hi'); (have hl9 := tw_len hx9); (have hb9 := tw_bd hx9))); (have N' := kt_cons (by k_asm) (by k_asm) hD' ho' (kt_news (by k_asm) hk' (by (walk_at "mine my_updF")) (by (walk_at "mine my_updF")) g1' g2')); (have off' := kt_off (by k_asm) hD'); (have F' := kt_fr (by k_asm) (by k_asm) (by k_mem) (by k_mem) hk'); clear hk'; (try dsimp only at N'); (try simp only [LCg.Off1, and_true] at off'); (repeat (rcases off' with ⟨o9, off'⟩)); (try k_sweep); (try dsimp only); (try k_fold))))
local macro_rules | `(tactic| walk_at "call ref") => `(tactic| (walk_at "mine use_ln1"))
local macro_rules | `(tactic| walk_at "mine use_join") => `(tactic| (k_here; (with_reducible show wpAny _ _ (call (Value.builtin "str.join") [Value.str _ _, Value.ref _]) _ _ _); k_dflt (refine' join_list (News.isList (by k_asm) (by k_mem)) (strs_of (by assumption)) ?z9 ?_; (case z9 => rw [words_sum, shareRow_len]; (walk_at "mine my_om")); intro t' k')))
local macro_rules | `(tactic| walk_at "call builtin:str.join") => `(tactic| (walk_at "mine use_join"))
theorem mnem_spec {w : World} {dp un : Nat} {fr : Option (List Env)} {gd : Option (List Code)} {s : Shared} {Q E : Value → Shared → Prop} {loose : List PySem.Str} {mean : ExcName → Option Value} {mg mb : PySem.Str → Option Value}
    (hdp : dp + 10 < recursionLimit) (hun : un + 180 < cLine) {hB : Heap} (X : (hd.heap_39 w.params).In hB) (T : Top topProg loose mean mg mb hB) (kB : Kp hB s.heap)
    {p1 p2 : Array Value} (h76 : s.heap.get? 76 = some (tabObj p1)) (f76 : hB.get? 76 = none) (t76 : TriplesOk p1.toList) (h99 : s.heap.get? 99 = some (tabObj p2)) (f99 : hB.get? 99 = none) (t99 : TriplesOk p2.toList) (hbare : AllBare s.gens) (a dx : Addr) (k1 k2 k3 k4 k5 k6 k7 k8 k9 : Nat) (i1 i2 i3 i4 i5 i6 i7 : Int) (e1 : Bool) (b : Array UInt8) (t1 t2 t3 t4 t5 t6 t7 t8 : Tok) (ha : s.heap.get? a = some (instObj 275 dx)) (fa : hB.get? a = none) (hd' : s.heap.get? dx = some (dictOf [{ hash := PyData.keyHash w.params (Str.ofString "identifier"), key := Value.str (Str.ofString "identifier") k1, val := .int i1 t1 }, { hash := PyData.keyHash w.params (Str.ofString "extendable"), key := Value.str (Str.ofString "extendable") k2, val := .bool e1 }, { hash := PyData.keyHash w.params (Str.ofString "iteration_exponent"), key := Value.str (Str.ofString "iteration_exponent") k3, val := .int i2 t2 }, { hash := PyData.keyHash w.params (Str.ofString "group_index"), key := Value.str (Str.ofString "group_index") k4, val := .int i3 t3 }, { hash := PyData.keyHash w.params (Str.ofString "group_threshold"), key := Value.str (Str.ofString "group_threshold") k5, val := .int i4 t4 }, { hash := PyData.keyHash w.params (Str.ofString "group_count"), key := Value.str (Str.ofString "group_count") k6, val := .int i5 t5 }, { hash := PyData.keyHash w.params (Str.ofString "index"), key := Value.str (Str.ofString "index") k7, val := .int i6 t6 }, { hash := PyData.keyHash w.params (Str.ofString "member_threshold"), key := Value.str (Str.ofString "member_threshold") k8, val := .int i7 t7 }, { hash := PyData.keyHash w.params (Str.ofString "value"), key := Value.str (Str.ofString "value") k9, val := .bytes b t8 }] 9)) (fd : hB.get? dx = none) (hi1 : 0 ≤ i1 ∧ i1 < 32768) (hi2 : 0 ≤ i2 ∧ i2 < 16) (hi3 : 0 ≤ i3 ∧ i3 < 16) (hi4 : 1 ≤ i4 ∧ i4 ≤ 16) (hi5 : 1 ≤ i5 ∧ i5 ≤ 16) (hi6 : 0 ≤ i6 ∧ i6 < 16) (hi7 : 1 ≤ i7 ∧ i7 ≤ 16) (hbs : b.size ≤ 64)
    (ret : ∀ h' p1' p2' gs tk t, KT s.heap h' → h'.get? 76 = some (tabObj p1') → TriplesOk p1'.toList → h'.get? 99 = some (tabObj p2') → TriplesOk p2'.toList → AllBare gs → Q (.str (rowText (shareRow i1 i2 i3 i4 i5 i6 i7 e1 b)) t) { s with heap := h', gens := gs, toks := tk }) :
    wpAny (model Pg w) (Ar dp un fr gd) (call (.ref 200) [.ref a]) Q E s := by
  have na76 : a ≠ 76 := by rintro rfl; rw [h76] at ha; cases ha
  have na99 : a ≠ 99 := by rintro rfl; rw [h99] at ha; cases ha
  have nd76 : dx ≠ 76 := by rintro rfl; rw [h76] at hd'; cases hd'
  have nd99 : dx ≠ 99 := by rintro rfl; rw [h99] at hd'; cases hd'
  have nad : a ≠ dx := by rintro rfl; rw [ha] at hd'; cases hd'
  have hN : ∀ p ∈ [((76 : Addr), tabObj p1), (99, tabObj p2), (a, instObj 275 dx), (dx, (dictOf [{ hash := PyData.keyHash w.params (Str.ofString "identifier"), key := Value.str (Str.ofString "identifier") k1, val := .int i1 t1 }, { hash := PyData.keyHash w.params (Str.ofString "extendable"), key := Value.str (Str.ofString "extendable") k2, val := .bool e1 }, { hash := PyData.keyHash w.params (Str.ofString "iteration_exponent"), key := Value.str (Str.ofString "iteration_exponent") k3, val := .int i2 t2 }, { hash := PyData.keyHash w.params (Str.ofString "group_index"), key := Value.str (Str.ofString "group_index") k4, val := .int i3 t3 }, { hash := PyData.keyHash w.params (Str.ofString "group_threshold"), key := Value.str (Str.ofString "group_threshold") k5, val := .int i4 t4 }, { hash := PyData.keyHash w.params (Str.ofString "group_count"), key := Value.str (Str.ofString "group_count") k6, val := .int i5 t5 }, { hash := PyData.keyHash w.params (Str.ofString "index"), key := Value.str (Str.ofString "index") k7, val := .int i6 t6 }, { hash := PyData.keyHash w.params (Str.ofString "member_threshold"), key := Value.str (Str.ofString "member_threshold") k8, val := .int i7 t7 }, { hash := PyData.keyHash w.params (Str.ofString "value"), key := Value.str (Str.ofString "value") k9, val := .bytes b t8 }] 9))], s.heap.get? p.1 = some p.2 ∧ hB.get? p.1 = none := by
    intro p hp
    simp only [List.mem_cons, List.not_mem_nil, or_false] at hp
    rcases hp with rfl | rfl | rfl | rfl
    · exact ⟨h76, f76⟩
    · exact ⟨h99, f99⟩
    · exact ⟨ha, fa⟩
    · exact ⟨hd', fd⟩
  k_dflt (refine' enterH _ ?k3 ?k5 ?kb ?kn ?k8 ?k6 ?k7 ?k9 ?kB ?_ ?c2 ?c3 ?c4 ?c5; (case kn => exact hN); (case k3 => exact X); (case k5 => exact T); (case kb => exact kB); (case k6 => k_is); (case k7 => k_is); (case k8 => first | exact (by show dp + 1 < recursionLimit; omega) | exact (by show dp + 1 + 1 < recursionLimit; omega) | k_room); (case k9 => exact BindsTo.of_eq rfl); (case c5 => decide); (case kB => exact locs rfl); (case c2 => exact rfl); (case c3 => exact rfl); (case c4 => exact rfl); k_whole; intro L' h' X' T' F' N'; (try dsimp only); (try k_fold))
  k_steps
  refine ret _ _ _ _ _ _ (kt_of (by k_asm) (by k_asm) ?hs) (News.get (by k_asm) (by k_mem)) (by assumption) (News.get (by k_asm) (by k_mem)) (by assumption) (by assumption)
  case hs =>
    intro p hp
    simp only [List.mem_cons, List.not_mem_nil, or_false] at hp
    rcases hp with rfl | rfl | rfl | rfl
    · exact .inl rfl
    · exact .inr (.inl rfl)
    · exact .inr (.inr ⟨ha, by k_mem⟩)
    · exact .inr (.inr ⟨hd', by k_mem⟩)

end Mine
end
section
open PySem PySem.W PyProof.Rows PySem.Calls
namespace Mine
local macro_rules | `(tactic| walk_at "pad 0") => `(tactic| skip)
local macro_rules | `(tactic| walk_at "pad 1") => `(tactic| skip)
local macro_rules | `(tactic| walk_at "pad 2") => `(tactic| skip)
local macro_rules | `(tactic| walk_at "pad 3") => `(tactic| skip)
local macro_rules | `(tactic| walk_at "pad 4") => `(tactic| skip)
local macro_rules | `(tactic| walk_at "pad 5") => `(tactic| skip)
local macro_rules | `(tactic| walk_at "pad 6") => `(tactic| skip)
local macro_rules | `(tactic| walk_at "pad 7") => `(tactic| skip)
local macro_rules | `(tactic| walk_at "pad 8") => `(tactic| skip)
local macro_rules | `(tactic| walk_at "pad 9") => `(tactic| skip)
local macro_rules | `(tactic| walk_at "pad 10") => `(tactic| skip)
local macro_rules | `(tactic| walk_at "pad 11") => `(tactic| skip)
local macro_rules | `(tactic| walk_at "pad 12") => `(tactic| skip)
local macro_rules | `(tactic| walk_at "pad 13") => `(tactic| skip)
local macro_rules | `(tactic| walk_at "pad 14") => `(tactic| skip)
local macro_rules | `(tactic| walk_at "pad 15") => `(tactic| skip)
local macro_rules | `(tactic| walk_at "pad 16") => `(tactic| skip)
local macro_rules | `(tactic| walk_at "pad 17") => `(tactic| skip)
local macro_rules | `(tactic| walk_at "pad 18") => `(tactic| skip)
local macro_rules | `(tactic| walk_at "pad 19") => `(tactic| skip)
local macro_rules | `(tactic| walk_at "pad 20") => `(tactic| skip)
local macro_rules | `(tactic| walk_at "pad 21") => `(tactic| skip)
local macro_rules | `(tactic| walk_at "pad 22") => `(tactic| skip)
local macro_rules | `(tactic| walk_at "pad 23") => `(tactic| skip)
local macro_rules | `(tactic| walk_at "pad 24") => `(tactic| skip)
local macro_rules | `(tactic| walk_at "pad 25") => `(tactic| skip)
local macro_rules | `(tactic| walk_at "pad 26") => `(tactic| skip)
local macro_rules | `(tactic| walk_at "pad 27") => `(tactic| skip)
local macro_rules | `(tactic| walk_at "pad 28") => `(tactic| skip)
local macro_rules | `(tactic| walk_at "pad 29") => `(tactic| skip)
local macro_rules | `(tactic| walk_at "pad 30") => `(tactic| skip)
local macro_rules | `(tactic| walk_at "pad 31") => `(tactic| skip)
local macro_rules | `(tactic| walk_at "pad 32") => `(tactic| skip)
local macro_rules | `(tactic| walk_at "pad 33") => `(tactic| skip)
local macro_rules | `(tactic| walk_at "pad 34") => `(tactic| skip)
local macro_rules | `(tactic| walk_at "pad 35") => `(tactic| skip)
local macro_rules | `(tactic| walk_at "pad 36") => `(tactic| skip)
local macro_rules | `(tactic| walk_at "pad 37") => `(tactic| skip)
local macro_rules | `(tactic| walk_at "pad 38") => `(tactic| skip)
local macro_rules | `(tactic| walk_at "pad 39") => `(tactic| skip)
local macro_rules | `(tactic| walk_at "pad 40") => `(tactic| skip)
local macro_rules | `(tactic| walk_at "pad 41") => `(tactic| skip)
local macro_rules | `(tactic| walk_at "pad 42") => `(tactic| skip)
local macro_rules | `(tactic| walk_at "pad 43") => `(tactic| skip)
local macro_rules | `(tactic| walk_at "pad 44") => `(tactic| skip)
local macro_rules | `(tactic| walk_at "pad 45") => `(tactic| skip)
local macro_rules | `(tactic| walk_at "pad 46") => `(tactic| skip)
local macro_rules | `(tactic| walk_at "pad 47") => `(tactic| skip)
local macro_rules | `(tactic| walk_at "pad 48") => `(tactic| skip)
local macro_rules | `(tactic| walk_at "pad 49") => `(tactic| skip)
local macro_rules | `(tactic| walk_at "pad 50") => `(tactic| skip)
local macro_rules | `(tactic| walk_at "pad 51") => `(tactic| skip)
local macro_rules | `(tactic| walk_at "pad 52") => `(tactic| skip)
local macro_rules | `(tactic| walk_at "pad 53") => `(tactic| skip)
local macro_rules | `(tactic| walk_at "pad 54") => `(tactic| skip)
local macro_rules | `(tactic| walk_at "pad 55") => `(tactic| skip)
local macro_rules | `(tactic| walk_at "pad 56") => `(tactic| skip)
local macro_rules | `(tactic| walk_at "pad 57") => `(tactic| skip)
local macro_rules | `(tactic| walk_at "pad 58") => `(tactic| skip)
local macro_rules | `(tactic| walk_at "pad 59") => `(tactic| skip)
local macro_rules | `(tactic| walk_at "pad 60") => `(tactic| skip)
local macro_rules | `(tactic| walk_at "pad 61") => `(tactic| skip)
theorem fill_W4 : (fun (_ : OpenLaw) (_ : Params → Frag) => True) PySem.Challenge.rw_wx0012_02 hd.heap_39 := by
  w_top off
  k_fill
  trivial
theorem strValues_inj : ∀ {a b : List (PySem.Str × Tok)}, strValues a = strValues b → a = b
  | [], [], _ => rfl
  | [], _ :: _, h => by simp [strValues] at h
  | _ :: _, [], h => by simp [strValues] at h
  | (x, t) :: a, (y, u) :: b, h => by
    simp only [strValues, List.map_cons, List.cons.injEq, Value.str.injEq] at h
    obtain ⟨⟨rfl, rfl⟩, h2⟩ := h
    rw [strValues_inj (a := a) (b := b) h2]
section
variable {w : World} {A : Around} {E Q : Value → Shared → Prop} {s : Shared} {D U : Nat} {a : Addr} {Z : Addr → Prop} {h0 : Heap}
theorem join_gen_kt {ns : List Int} {t : Tok} (hh : A.handled = none) (hd : A.in1.in1.depth < recursionLimit) (hD : A.in1.in1.depth + 1 ≤ D) (hU : A.in1.in1.units + 4 ≤ U) (G : GenReady w D U a Z h0 ns.length (fun j y => ∃ t, y = .str (wordStr (ns.getD j 0)) t) s) (hb : AllBare s.gens) (hn : ns.length ≤ 4000)
    (hQ : ∀ (h' : Heap) (gs : Array GenState) (tk : Nat) (t' : Tok), (∀ b o o', h0.get? b = some o' → s.heap.get? b = some o → h'.get? b = some o) → AllBare gs → Q (.str (rowText ns) t') { s with heap := h', gens := gs, toks := tk }) :
    wpAny (model Pg w) A (call (.builtin "str.join") [.str (PySem.Str.ofString " ") t, .ref a]) Q E s := by
  obtain ⟨g, fp, wr, h1, h2, h3, h4, h5⟩ := G.ex
  obtain ⟨St, W, st, hT, _⟩ := h5 A.in1.in1 hh hd hD hU
  refine SC.joinGen W hT st h2 h1 (fun i v hP => let ⟨t, e⟩ := hP; ⟨_, t, e⟩) (fun s' lt hm hacc => ?_) (by rw [sizeLine_eq]; omega)
  have hs : StrsOf (strValues lt) ns := ⟨by simpa using hacc.1, fun j y hj => hacc.2 j y (by simpa using hj)⟩
  have hl : lt.map (·.1) = ns.map wordStr := by
    have h1 := strs_of hs
    obtain ⟨l2, e2, e3⟩ := strsAre_values h1
    have e4 : lt = l2 := strValues_inj e2
    rw [e4, e3]
  refine ⟨?_, fun t' k => ?_⟩
  · rw [hl]
    refine joinOk_of ?_
    rw [words_sum]; omega
  · rw [hl]
    have e : { s' with toks := k } = { s with heap := s'.heap, gens := s'.gens, toks := k } := by
      obtain ⟨x1, x2, x3, x4, x5⟩ := s'
      have q1 : x3 = s.drawn := hm.drawn
      have q2 : x5 = s.os := hm.os
      subst q1; subst q2; rfl
    rw [e]
    refine hQ s'.heap s'.gens k t' (fun b o o' e0 e1 => hm.heap b o (fun hmem => ?_) e1) (AllBare.movedS hb hm)
    rw [h4 b hmem] at e0; cases e0
end
local macro_rules | `(tactic| walk_at "mine use_wfi2") => `(tactic| (k_here; (with_reducible show wpAny _ _ (call (Value.ref 104) [Value.ref _]) _ _ _); k_dflt (refine' wfi_spec ?hdp ?hun ?hX ?hT _ _ _ ?hl ?hi ?hb _ ?hP ?htr ?hbare (recursionLimit - 3) (cLine - 31) ?hDD ?hUU ?hr; (case hdp => ((try simp only [depth_in1, depth_deeper, depth_caller]); (try dsimp only [Ar, Around.deeper]); omega)); (case hun => ((try simp only [units_in1, units_deeper, Around.mark_units, units_caller]); (try dsimp only [Ar, Around.deeper]); omega)); (case hX => exact Frag.In.keeps (by k_asm) (Fr.keep (by k_asm))); (case hT => exact Top.keeps (by k_asm) (Fr.keep (by k_asm))); (case hl => is_list); (case hi => assumption); (case hb => assumption); (case hP => exact News.get (by k_asm) (by k_mem)); (case htr => assumption); (case hbare => assumption); (case hDD => decide); (case hUU => decide))))
local macro_rules | `(tactic| walk_at "call ref") => `(tactic| (walk_at "mine use_wfi2"))
theorem mfi_spec {w : World} {dp un : Nat} {fr : Option (List Env)} {gd : Option (List Code)} {s : Shared} {Q E : Value → Shared → Prop} {loose : List Str} {mean : ExcName → Option Value} {mg mb : Str → Option Value}
    (hdp : dp + 6 < recursionLimit) (hun : un + 80 < cLine)
    (X : (hd.heap_39 w.params).In s.heap) (T : Top topProg loose mean mg mb s.heap) {p1 p2 : Array Value} (h76 : s.heap.get? 76 = some (tabObj p1)) (t76 : TriplesOk p1.toList) (h99 : s.heap.get? 99 = some (tabObj p2)) (t99 : TriplesOk p2.toList) (hbare : AllBare s.gens) (l : Addr) (vs : List Value) (ns : List Int) (hl : s.heap.IsList l vs.toArray) (hi : IntsAre vs ns) (hb : ∀ x ∈ ns, 0 ≤ x ∧ x < 1024) (hlen : ns.length ≤ 1000)
    (ret : ∀ h' p1' p2' gs tk t, KT s.heap h' → h'.get? 76 = some (tabObj p1') → TriplesOk p1'.toList → h'.get? 99 = some (tabObj p2') → TriplesOk p2'.toList → AllBare gs → Q (.str (rowText ns) t) { s with heap := h', gens := gs, toks := tk }) :
    wpAny (model Pg w) (Ar dp un fr gd) (call (.ref 111) [.ref l]) Q E s := by
  k_dflt (refine' enterT ?k3 ?k5 ?h1 ?h2 ?q1 ?q2 ?k8 ?k6 ?k7 ?k9 ?kB ?_ ?c2 ?c3 ?c4 ?c5; (case k3 => k_asm); (case k5 => k_asm); (case h1 => assumption); (case h2 => assumption); (case q1 => with_unfolding_all rfl); (case q2 => with_unfolding_all rfl); (case k6 => k_is); (case k7 => k_is); (case k8 => exact (by show dp + 1 < recursionLimit; omega)); (case k9 => exact BindsTo.of_eq rfl); (case c5 => decide); (case kB => exact locs rfl); (case c2 => exact rfl); (case c3 => exact rfl); (case c4 => exact rfl); k_whole; intro L' h' X' T' F' N' kp'; (try dsimp only); (try k_fold))
  have hl' : (hid2 s.heap).IsList l vs.toArray := by
    obtain ⟨o, e, r⟩ := hl
    exact ⟨o, hid2_get e (fun q => by rw [q, h76] at e; cases e; exact absurd r.1 (by simp)) (fun q => by rw [q, h99] at e; cases e; exact absurd r.1 (by simp)), r⟩
  k_steps
  rename GenReady _ _ _ _ _ _ _ _ _ => G9
  rename Heap.ExtBut 99 _ _ => hx99
  rw [hi.length] at G9
  refine join_gen_kt rfl (by show dp + 1 < recursionLimit; omega) (by show dp + 1 + 1 ≤ recursionLimit - 3; omega) (by show un + 3 + 1 + 1 + 4 ≤ cLine - 31; omega) G9 (by assumption) (by omega) ?_
  intro h9 gs9 tk9 t9 kk9 bb9
  have fg := fin_G (hid := [((76 : Addr), tabObj p1), (99, tabObj p2)]) F' N' (by
    intro p hp
    simp only [List.mem_cons, List.not_mem_nil, or_false] at hp
    rcases hp with rfl | rfl
    · exact .inl rfl
    · exact .inr (.inl rfl)) (by k_mem) (by k_mem) hx99 (by assumption) (by assumption) kk9
  refine ret _ _ _ gs9 tk9 t9 fg.1 fg.2.1 (by assumption) fg.2.2.1 (by assumption) bb9

end Mine
end
section
open PySem PySem.W PyProof.Rows PySem.Calls
namespace Mine
theorem str_eta (w : PySem.Str) : (⟨w.cps.toList.toArray⟩ : PySem.Str) = w := by cases w; simp
theorem str_app_nil (r : PySem.Str) : r ++ (⟨#[]⟩ : PySem.Str) = r := PySem.Str.ext' (by rw [PySem.Str.cps_append]; exact Array.append_empty)
theorem str_nil_app (r : PySem.Str) : PySem.Str.empty ++ r = r := PySem.Str.ext' (by rw [PySem.Str.cps_append]; exact Array.empty_append)
theorem scan_letters (acc : List PySem.Str) : ∀ (l : List Nat), (∀ c ∈ l, Unicode.isSpace c = false) → ∀ r : PySem.Str, l.foldl KWd.step (acc, r) = (acc, r ++ (⟨l.toArray⟩ : PySem.Str))
  | [], _, r => by
    show (acc, r) = _
    rw [show (⟨([] : List Nat).toArray⟩ : PySem.Str) = ⟨#[]⟩ from rfl, str_app_nil]
  | c :: l, h, r => by
    rw [List.foldl_cons]
    have e : KWd.step (acc, r) c = (acc, r ++ (⟨#[c]⟩ : PySem.Str)) := by
      unfold KWd.step
      rw [if_neg (by rw [h c List.mem_cons_self]; exact Bool.false_ne_true)]
    rw [e, scan_letters acc l (fun c' h' => h c' (List.mem_cons_of_mem _ h'))]
    congr 1
    refine PySem.Str.ext' ?_
    simp only [PySem.Str.cps_append]
    apply Array.toList_inj.mp
    simp
theorem scan_word (acc : List PySem.Str) (w : PySem.Str) (h : ∀ c ∈ w.cps.toList, Unicode.isSpace c = false) (r : PySem.Str) : w.cps.toList.foldl KWd.step (acc, r) = (acc, r ++ w) := by
  rw [scan_letters acc _ h r, str_eta]
theorem space_fold (acc : List PySem.Str) (r : PySem.Str) (hr : r.length ≠ 0) : (PySem.Str.ofString " ").cps.toList.foldl KWd.step (acc, r) = (acc ++ [r], PySem.Str.empty) := by
  have e : (PySem.Str.ofString " ").cps.toList = [32] := by decide
  rw [e, List.foldl_cons, List.foldl_nil]
  unfold KWd.step
  rw [if_pos (by decide), if_neg hr]
theorem scan_join : ∀ (ws : List PySem.Str), (∀ w ∈ ws, w.length ≠ 0 ∧ ∀ c ∈ w.cps.toList, Unicode.isSpace c = false) → ∀ acc, KWd.fin ((PySem.Str.join (PySem.Str.ofString " ") ws).cps.toList.foldl KWd.step (acc, PySem.Str.empty)) = acc ++ ws
  | [], _, acc => by
    show KWd.fin (acc, PySem.Str.empty) = _
    unfold KWd.fin
    have e : (PySem.Str.empty).length = 0 := rfl
    simp [e]
  | [x], h, acc => by
    have hx := h x (by simp)
    show KWd.fin (x.cps.toList.foldl KWd.step (acc, PySem.Str.empty)) = _
    rw [scan_word acc x hx.2, str_nil_app]
    unfold KWd.fin
    rw [if_neg hx.1]
  | x :: y :: r, h, acc => by
    have hx := h x (by simp)
    show KWd.fin ((x ++ PySem.Str.ofString " " ++ PySem.Str.join (PySem.Str.ofString " ") (y :: r)).cps.toList.foldl KWd.step (acc, PySem.Str.empty)) = _
    rw [PySem.Str.cps_append, PySem.Str.cps_append, Array.toList_append, Array.toList_append, List.foldl_append, List.foldl_append, scan_word acc x hx.2, str_nil_app, space_fold acc x hx.1,
      scan_join (y :: r) (fun w hw => h w (List.mem_cons_of_mem _ hw))]
    simp
theorem words_join (ws : List PySem.Str) (h : ∀ w ∈ ws, w.length ≠ 0 ∧ ∀ c ∈ w.cps.toList, Unicode.isSpace c = false) : Txt.words (Txt.join (PySem.Str.ofString " ") ws) = ws := by
  rw [KWd.words_scan]
  show KWd.fin (KWd.scan (Builtin.Str.glued _ ws)) = ws
  rw [StrLaws.glued_eq_join]
  exact (scan_join ws h []).trans (List.nil_append _)
end Mine
end
section
open PySem PySem.W PyProof.Rows PySem.Calls
namespace Mine
local macro_rules | `(tactic| walk_at "pad 0") => `(tactic| skip)
local macro_rules | `(tactic| walk_at "pad 1") => `(tactic| skip)
local macro_rules | `(tactic| walk_at "pad 2") => `(tactic| skip)
local macro_rules | `(tactic| walk_at "pad 3") => `(tactic| skip)
local macro_rules | `(tactic| walk_at "pad 4") => `(tactic| skip)
local macro_rules | `(tactic| walk_at "pad 5") => `(tactic| skip)
local macro_rules | `(tactic| walk_at "pad 6") => `(tactic| skip)
local macro_rules | `(tactic| walk_at "pad 7") => `(tactic| skip)
local macro_rules | `(tactic| walk_at "pad 8") => `(tactic| skip)
local macro_rules | `(tactic| walk_at "pad 9") => `(tactic| skip)
local macro_rules | `(tactic| walk_at "pad 10") => `(tactic| skip)
local macro_rules | `(tactic| walk_at "pad 11") => `(tactic| skip)
local macro_rules | `(tactic| walk_at "pad 12") => `(tactic| skip)
local macro_rules | `(tactic| walk_at "pad 13") => `(tactic| skip)
local macro_rules | `(tactic| walk_at "pad 14") => `(tactic| skip)
local macro_rules | `(tactic| walk_at "pad 15") => `(tactic| skip)
local macro_rules | `(tactic| walk_at "pad 16") => `(tactic| skip)
local macro_rules | `(tactic| walk_at "pad 17") => `(tactic| skip)
local macro_rules | `(tactic| walk_at "pad 18") => `(tactic| skip)
local macro_rules | `(tactic| walk_at "pad 19") => `(tactic| skip)
local macro_rules | `(tactic| walk_at "pad 20") => `(tactic| skip)
local macro_rules | `(tactic| walk_at "pad 21") => `(tactic| skip)
local macro_rules | `(tactic| walk_at "pad 22") => `(tactic| skip)
local macro_rules | `(tactic| walk_at "pad 23") => `(tactic| skip)
local macro_rules | `(tactic| walk_at "pad 24") => `(tactic| skip)
local macro_rules | `(tactic| walk_at "pad 25") => `(tactic| skip)
local macro_rules | `(tactic| walk_at "pad 26") => `(tactic| skip)
local macro_rules | `(tactic| walk_at "pad 27") => `(tactic| skip)
local macro_rules | `(tactic| walk_at "pad 28") => `(tactic| skip)
local macro_rules | `(tactic| walk_at "pad 29") => `(tactic| skip)
local macro_rules | `(tactic| walk_at "pad 30") => `(tactic| skip)
local macro_rules | `(tactic| walk_at "pad 31") => `(tactic| skip)
local macro_rules | `(tactic| walk_at "pad 32") => `(tactic| skip)
local macro_rules | `(tactic| walk_at "pad 33") => `(tactic| skip)
local macro_rules | `(tactic| walk_at "pad 34") => `(tactic| skip)
local macro_rules | `(tactic| walk_at "pad 35") => `(tactic| skip)
local macro_rules | `(tactic| walk_at "pad 36") => `(tactic| skip)
local macro_rules | `(tactic| walk_at "pad 37") => `(tactic| skip)
local macro_rules | `(tactic| walk_at "pad 38") => `(tactic| skip)
local macro_rules | `(tactic| walk_at "pad 39") => `(tactic| skip)
local macro_rules | `(tactic| walk_at "pad 40") => `(tactic| skip)
local macro_rules | `(tactic| walk_at "pad 41") => `(tactic| skip)
local macro_rules | `(tactic| walk_at "pad 42") => `(tactic| skip)
local macro_rules | `(tactic| walk_at "pad 43") => `(tactic| skip)
local macro_rules | `(tactic| walk_at "pad 44") => `(tactic| skip)
local macro_rules | `(tactic| walk_at "pad 45") => `(tactic| skip)
local macro_rules | `(tactic| walk_at "pad 46") => `(tactic| skip)
local macro_rules | `(tactic| walk_at "pad 47") => `(tactic| skip)
local macro_rules | `(tactic| walk_at "pad 48") => `(tactic| skip)
local macro_rules | `(tactic| walk_at "pad 49") => `(tactic| skip)
local macro_rules | `(tactic| walk_at "pad 50") => `(tactic| skip)
local macro_rules | `(tactic| walk_at "pad 51") => `(tactic| skip)
local macro_rules | `(tactic| walk_at "pad 52") => `(tactic| skip)
local macro_rules | `(tactic| walk_at "pad 53") => `(tactic| skip)
local macro_rules | `(tactic| walk_at "pad 54") => `(tactic| skip)
local macro_rules | `(tactic| walk_at "pad 55") => `(tactic| skip)
local macro_rules | `(tactic| walk_at "pad 56") => `(tactic| skip)
local macro_rules | `(tactic| walk_at "pad 57") => `(tactic| skip)
local macro_rules | `(tactic| walk_at "pad 58") => `(tactic| skip)
local macro_rules | `(tactic| walk_at "pad 59") => `(tactic| skip)
local macro_rules | `(tactic| walk_at "pad 60") => `(tactic| skip)
local macro_rules | `(tactic| walk_at "pad 61") => `(tactic| skip)
local macro_rules | `(tactic| walk_at "pad 62") => `(tactic| skip)
local macro_rules | `(tactic| walk_at "pad 63") => `(tactic| skip)
theorem fill_X1 : (fun (_ : OpenLaw) (_ : Params → Frag) => True) PySem.Challenge.rw_wx0012_02 hd.heap_39 := by
  w_top off
  k_fill
  trivial
theorem sl1 (i : Int) : Txt.slice (wordStr i) none (some 1) = Txt.item cons16 (i / 64) := by
  unfold wordStr Txt.item; rfl
theorem sl2 (i : Int) : Txt.slice (wordStr i) (some 1) (some 2) = Txt.item vow4 (i / 16 % 4) := by
  unfold wordStr Txt.item; rfl
theorem sl3 (i : Int) : Txt.slice (wordStr i) (some 2) none = Txt.item cons16 (i % 16) := by
  unfold wordStr Txt.item; first | kernel_rfl | with_unfolding_all rfl
theorem each16 {h : Heap} {P : Value → Prop} {els : Prop} {k : Int} (hk : 0 ≤ k ∧ k < 16) (x : ∀ t, P (.int k t)) :
    KTD.Each h (Txt.item cons16 k) P els [("b", .flat (.int 0)), ("d", .flat (.int 1)), ("f", .flat (.int 2)), ("g", .flat (.int 3)), ("h", .flat (.int 4)), ("j", .flat (.int 5)), ("k", .flat (.int 6)), ("l", .flat (.int 7)), ("m", .flat (.int 8)), ("n", .flat (.int 9)), ("p", .flat (.int 10)), ("r", .flat (.int 11)), ("s", .flat (.int 12)), ("t", .flat (.int 13)), ("v", .flat (.int 14)), ("z", .flat (.int 15)), ("Aa", .flat (.int 0)), ("Ai", .flat (.int 1)), ("Ao", .flat (.int 2)), ("Au", .flat (.int 3))] := by
  have hc : k = 0 ∨ k = 1 ∨ k = 2 ∨ k = 3 ∨ k = 4 ∨ k = 5 ∨ k = 6 ∨ k = 7 ∨ k = 8 ∨ k = 9 ∨ k = 10 ∨ k = 11 ∨ k = 12 ∨ k = 13 ∨ k = 14 ∨ k = 15 := by omega
  rcases hc with rfl | rfl | rfl | rfl | rfl | rfl | rfl | rfl | rfl | rfl | rfl | rfl | rfl | rfl | rfl | rfl <;>
    (repeat (first | exact KTD.each_hit (by decide) (KTD.opened_int x) | refine KTD.each_miss (by decide) ?_))
theorem each4 {h : Heap} {P : Value → Prop} {els : Prop} {k : Int} (hk : 0 ≤ k ∧ k < 4) (x : ∀ t, P (.int k t)) :
    KTD.Each h (PySem.Str.ofString "A" ++ Txt.item vow4 k) P els [("b", .flat (.int 0)), ("d", .flat (.int 1)), ("f", .flat (.int 2)), ("g", .flat (.int 3)), ("h", .flat (.int 4)), ("j", .flat (.int 5)), ("k", .flat (.int 6)), ("l", .flat (.int 7)), ("m", .flat (.int 8)), ("n", .flat (.int 9)), ("p", .flat (.int 10)), ("r", .flat (.int 11)), ("s", .flat (.int 12)), ("t", .flat (.int 13)), ("v", .flat (.int 14)), ("z", .flat (.int 15)), ("Aa", .flat (.int 0)), ("Ai", .flat (.int 1)), ("Ao", .flat (.int 2)), ("Au", .flat (.int 3))] := by
  have hc : k = 0 ∨ k = 1 ∨ k = 2 ∨ k = 3 := by omega
  rcases hc with rfl | rfl | rfl | rfl <;>
    (repeat (first | exact KTD.each_hit (by decide) (KTD.opened_int x) | refine KTD.each_miss (by decide) ?_))
theorem dv1 {i : Int} (hi : 0 ≤ i ∧ i < 1024) : 0 ≤ i / 64 ∧ i / 64 < 16 := by omega
theorem dv2 (i : Int) : 0 ≤ i / 16 % 4 ∧ i / 16 % 4 < 4 := by omega
theorem dv3 (i : Int) : 0 ≤ i % 16 ∧ i % 16 < 16 := by omega
theorem eachA {h : Heap} {P : Value → Prop} {els : Prop} {key : PySem.Str} {i : Int} (q : key = Txt.item cons16 (i / 64)) (hi : 0 ≤ i ∧ i < 1024) (x : ∀ t, P (.int (i / 64) t)) :
    KTD.Each h key P els [("b", .flat (.int 0)), ("d", .flat (.int 1)), ("f", .flat (.int 2)), ("g", .flat (.int 3)), ("h", .flat (.int 4)), ("j", .flat (.int 5)), ("k", .flat (.int 6)), ("l", .flat (.int 7)), ("m", .flat (.int 8)), ("n", .flat (.int 9)), ("p", .flat (.int 10)), ("r", .flat (.int 11)), ("s", .flat (.int 12)), ("t", .flat (.int 13)), ("v", .flat (.int 14)), ("z", .flat (.int 15)), ("Aa", .flat (.int 0)), ("Ai", .flat (.int 1)), ("Ao", .flat (.int 2)), ("Au", .flat (.int 3))] := by
  subst q; exact each16 (dv1 hi) x
theorem eachB {h : Heap} {P : Value → Prop} {els : Prop} {key : PySem.Str} {i : Int} (q : key = Txt.item vow4 (i / 16 % 4)) (x : ∀ t, P (.int (i / 16 % 4) t)) :
    KTD.Each h (PySem.Str.ofString "A" ++ key) P els [("b", .flat (.int 0)), ("d", .flat (.int 1)), ("f", .flat (.int 2)), ("g", .flat (.int 3)), ("h", .flat (.int 4)), ("j", .flat (.int 5)), ("k", .flat (.int 6)), ("l", .flat (.int 7)), ("m", .flat (.int 8)), ("n", .flat (.int 9)), ("p", .flat (.int 10)), ("r", .flat (.int 11)), ("s", .flat (.int 12)), ("t", .flat (.int 13)), ("v", .flat (.int 14)), ("z", .flat (.int 15)), ("Aa", .flat (.int 0)), ("Ai", .flat (.int 1)), ("Ao", .flat (.int 2)), ("Au", .flat (.int 3))] := by
  subst q; exact each4 (dv2 _) x
theorem eachC {h : Heap} {P : Value → Prop} {els : Prop} {key : PySem.Str} {i : Int} (q : key = Txt.item cons16 (i % 16)) (x : ∀ t, P (.int (i % 16) t)) :
    KTD.Each h key P els [("b", .flat (.int 0)), ("d", .flat (.int 1)), ("f", .flat (.int 2)), ("g", .flat (.int 3)), ("h", .flat (.int 4)), ("j", .flat (.int 5)), ("k", .flat (.int 6)), ("l", .flat (.int 7)), ("m", .flat (.int 8)), ("n", .flat (.int 9)), ("p", .flat (.int 10)), ("r", .flat (.int 11)), ("s", .flat (.int 12)), ("t", .flat (.int 13)), ("v", .flat (.int 14)), ("z", .flat (.int 15)), ("Aa", .flat (.int 0)), ("Ai", .flat (.int 1)), ("Ao", .flat (.int 2)), ("Au", .flat (.int 3))] := by
  subst q; exact each16 (dv3 _) x
local macro_rules | `(tactic| walk_at "Each") => `(tactic| (k_dflt (first
  | (refine eachA (by with_reducible assumption) (by assumption) ?_; intro t')
  | (refine eachC (by with_reducible assumption) ?_; intro t')
  | (refine eachB (by with_reducible assumption) ?_; intro t'))))
theorem sm64 {i : Int} (h : 0 ≤ i ∧ i < 1024) : (i / 64).natAbs < 2 ^ 64 := by omega
theorem sm16 (i : Int) : (i / 16 % 4).natAbs < 2 ^ 64 := by omega
local macro_rules | `(tactic| walk_at "binaryOp LShift int int") => `(tactic| (k_here; k_dflt (first
  | (with_reducible refine lshift_int_small (by decide) (by decide) (sm64 (by assumption)) ?_)
  | (with_reducible refine lshift_int_small (by decide) (by decide) (sm16 _) ?_))))
theorem index_specX {w : World} {dp un : Nat} {fr : Option (List Env)} {gd : Option (List Code)} {s : Shared} {Q E : Value → Shared → Prop} {loose : List Str} {mean : ExcName → Option Value} {mg mb : Str → Option Value}
    (hdp : dp + 1 < recursionLimit) (hun : un + 16 < cLine)
    (X : (hd.heap_39 w.params).In s.heap) (T : Top topProg loose mean mg mb s.heap) (x : PySem.Str) (i : Int) (t : Tok) (hi : 0 ≤ i ∧ i < 1024) (e1 : Txt.slice x none (some 1) = Txt.item cons16 (i / 64)) (e2 : Txt.slice x (some 1) (some 2) = Txt.item vow4 (i / 16 % 4)) (e3 : Txt.slice x (some 2) none = Txt.item cons16 (i % 16)) (hx : x.length = 3)
    (ret : ∀ h' tk t, Kp s.heap h' → Q (.int i t) { s with heap := h', toks := tk }) :
    wpAny (model Pg w) (Ar dp un fr gd) (call (.ref 97) [.str x t]) Q E s := by
  k_dflt (refine' enter ?k3 ?k5 ?k8 ?k6 ?k7 ?k9 ?kB ?_ ?c2 ?c3 ?c4 ?c5; (case k3 => k_asm); (case k5 => k_asm); (case k6 => k_is); (case k7 => k_is); (case k8 => exact (by show dp + 1 < recursionLimit; omega)); (case k9 => exact BindsTo.of_eq rfl); (case c5 => decide); (case kB => exact locs rfl); (case c2 => exact rfl); (case c3 => exact rfl); (case c4 => exact rfl); k_whole; intro L' h' F' N'; (try dsimp only); (try k_fold))
  k_steps
  refine fin_int ret ?_ (Fr.keep (by assumption))
  have h6 : (2 : Int) ^ Int.toNat 6 = 64 := by decide
  have h4 : (2 : Int) ^ Int.toNat 4 = 16 := by decide
  rw [h6, h4]; omega

end Mine
end
section
open PySem PySem.W PyProof.Rows PySem.Calls
namespace Mine
local macro_rules | `(tactic| walk_at "pad 0") => `(tactic| skip)
local macro_rules | `(tactic| walk_at "pad 1") => `(tactic| skip)
local macro_rules | `(tactic| walk_at "pad 2") => `(tactic| skip)
local macro_rules | `(tactic| walk_at "pad 3") => `(tactic| skip)
local macro_rules | `(tactic| walk_at "pad 4") => `(tactic| skip)
local macro_rules | `(tactic| walk_at "pad 5") => `(tactic| skip)
local macro_rules | `(tactic| walk_at "pad 6") => `(tactic| skip)
local macro_rules | `(tactic| walk_at "pad 7") => `(tactic| skip)
local macro_rules | `(tactic| walk_at "pad 8") => `(tactic| skip)
local macro_rules | `(tactic| walk_at "pad 9") => `(tactic| skip)
local macro_rules | `(tactic| walk_at "pad 10") => `(tactic| skip)
local macro_rules | `(tactic| walk_at "pad 11") => `(tactic| skip)
local macro_rules | `(tactic| walk_at "pad 12") => `(tactic| skip)
local macro_rules | `(tactic| walk_at "pad 13") => `(tactic| skip)
local macro_rules | `(tactic| walk_at "pad 14") => `(tactic| skip)
local macro_rules | `(tactic| walk_at "pad 15") => `(tactic| skip)
local macro_rules | `(tactic| walk_at "pad 16") => `(tactic| skip)
local macro_rules | `(tactic| walk_at "pad 17") => `(tactic| skip)
local macro_rules | `(tactic| walk_at "pad 18") => `(tactic| skip)
local macro_rules | `(tactic| walk_at "pad 19") => `(tactic| skip)
local macro_rules | `(tactic| walk_at "pad 20") => `(tactic| skip)
local macro_rules | `(tactic| walk_at "pad 21") => `(tactic| skip)
local macro_rules | `(tactic| walk_at "pad 22") => `(tactic| skip)
local macro_rules | `(tactic| walk_at "pad 23") => `(tactic| skip)
local macro_rules | `(tactic| walk_at "pad 24") => `(tactic| skip)
local macro_rules | `(tactic| walk_at "pad 25") => `(tactic| skip)
local macro_rules | `(tactic| walk_at "pad 26") => `(tactic| skip)
local macro_rules | `(tactic| walk_at "pad 27") => `(tactic| skip)
local macro_rules | `(tactic| walk_at "pad 28") => `(tactic| skip)
local macro_rules | `(tactic| walk_at "pad 29") => `(tactic| skip)
local macro_rules | `(tactic| walk_at "pad 30") => `(tactic| skip)
local macro_rules | `(tactic| walk_at "pad 31") => `(tactic| skip)
local macro_rules | `(tactic| walk_at "pad 32") => `(tactic| skip)
local macro_rules | `(tactic| walk_at "pad 33") => `(tactic| skip)
local macro_rules | `(tactic| walk_at "pad 34") => `(tactic| skip)
local macro_rules | `(tactic| walk_at "pad 35") => `(tactic| skip)
local macro_rules | `(tactic| walk_at "pad 36") => `(tactic| skip)
local macro_rules | `(tactic| walk_at "pad 37") => `(tactic| skip)
local macro_rules | `(tactic| walk_at "pad 38") => `(tactic| skip)
local macro_rules | `(tactic| walk_at "pad 39") => `(tactic| skip)
local macro_rules | `(tactic| walk_at "pad 40") => `(tactic| skip)
local macro_rules | `(tactic| walk_at "pad 41") => `(tactic| skip)
local macro_rules | `(tactic| walk_at "pad 42") => `(tactic| skip)
local macro_rules | `(tactic| walk_at "pad 43") => `(tactic| skip)
local macro_rules | `(tactic| walk_at "pad 44") => `(tactic| skip)
local macro_rules | `(tactic| walk_at "pad 45") => `(tactic| skip)
local macro_rules | `(tactic| walk_at "pad 46") => `(tactic| skip)
local macro_rules | `(tactic| walk_at "pad 47") => `(tactic| skip)
local macro_rules | `(tactic| walk_at "pad 48") => `(tactic| skip)
local macro_rules | `(tactic| walk_at "pad 49") => `(tactic| skip)
local macro_rules | `(tactic| walk_at "pad 50") => `(tactic| skip)
local macro_rules | `(tactic| walk_at "pad 51") => `(tactic| skip)
local macro_rules | `(tactic| walk_at "pad 52") => `(tactic| skip)
local macro_rules | `(tactic| walk_at "pad 53") => `(tactic| skip)
local macro_rules | `(tactic| walk_at "pad 54") => `(tactic| skip)
local macro_rules | `(tactic| walk_at "pad 55") => `(tactic| skip)
local macro_rules | `(tactic| walk_at "pad 56") => `(tactic| skip)
local macro_rules | `(tactic| walk_at "pad 57") => `(tactic| skip)
local macro_rules | `(tactic| walk_at "pad 58") => `(tactic| skip)
local macro_rules | `(tactic| walk_at "pad 59") => `(tactic| skip)
local macro_rules | `(tactic| walk_at "pad 60") => `(tactic| skip)
local macro_rules | `(tactic| walk_at "pad 61") => `(tactic| skip)
local macro_rules | `(tactic| walk_at "pad 62") => `(tactic| skip)
local macro_rules | `(tactic| walk_at "pad 63") => `(tactic| skip)
local macro_rules | `(tactic| walk_at "pad 64") => `(tactic| skip)
local macro_rules | `(tactic| walk_at "pad 65") => `(tactic| skip)
theorem fill_X2 : (fun (_ : OpenLaw) (_ : Params → Frag) => True) PySem.Challenge.rw_wx0012_02 hd.heap_39 := by
  w_top off
  k_fill
  trivial
theorem charItem16 {k : Int} (hk : 0 ≤ k ∧ k < 16) : ∀ c ∈ (Txt.item cons16 k).cps.toList, 97 ≤ c ∧ c < 123 := by
  have hc : k = 0 ∨ k = 1 ∨ k = 2 ∨ k = 3 ∨ k = 4 ∨ k = 5 ∨ k = 6 ∨ k = 7 ∨ k = 8 ∨ k = 9 ∨ k = 10 ∨ k = 11 ∨ k = 12 ∨ k = 13 ∨ k = 14 ∨ k = 15 := by omega
  rcases hc with rfl | rfl | rfl | rfl | rfl | rfl | rfl | rfl | rfl | rfl | rfl | rfl | rfl | rfl | rfl | rfl <;> decide
theorem charItem4 {k : Int} (hk : 0 ≤ k ∧ k < 4) : ∀ c ∈ (Txt.item vow4 k).cps.toList, 97 ≤ c ∧ c < 123 := by
  have hc : k = 0 ∨ k = 1 ∨ k = 2 ∨ k = 3 := by omega
  rcases hc with rfl | rfl | rfl | rfl <;> decide
theorem wordStr_cps (i : Int) (h : 0 ≤ i ∧ i < 1024) : ∀ c ∈ (wordStr i).cps.toList, 97 ≤ c ∧ c < 123 := by
  intro c hc
  unfold wordStr at hc
  rw [PySem.Str.cps_append, PySem.Str.cps_append, Array.toList_append, Array.toList_append, List.mem_append, List.mem_append] at hc
  rcases hc with (hc | hc) | hc
  · exact charItem16 (dv1 h) c hc
  · exact charItem4 (dv2 i) c hc
  · exact charItem16 (dv3 i) c hc
theorem wordStr_still (i : Int) (h : 0 ≤ i ∧ i < 1024) : KXs.Still (wordStr i) := fun c hc => by
  have := wordStr_cps i h c hc; omega
theorem wordStr_lower (i : Int) (h : 0 ≤ i ∧ i < 1024) : Txt.lower (wordStr i) = wordStr i := KXs.lower_still (wordStr_still i h)
theorem wordStr_nospace (i : Int) (h : 0 ≤ i ∧ i < 1024) : ∀ c ∈ (wordStr i).cps.toList, Unicode.isSpace c = false := fun c hc => by
  have := wordStr_cps i h c hc; exact KXs.no_space c (by omega) (by omega)
theorem wordStr_size (i : Int) : (wordStr i).length = 3 := by unfold wordStr; rfl
theorem slc1 (i : Int) : Txt.slice (wordStr i) none (some 1) = Txt.item cons16 (i / 64) := by
  unfold wordStr Txt.item; rfl
theorem slc2 (i : Int) : Txt.slice (wordStr i) (some 1) (some 2) = Txt.item vow4 (i / 16 % 4) := by
  unfold wordStr Txt.item; rfl
theorem slc3 (i : Int) : Txt.slice (wordStr i) (some 2) none = Txt.item cons16 (i % 16) := by
  unfold wordStr Txt.item; first | kernel_rfl | with_unfolding_all rfl
def textOf (ns : List Int) : PySem.Str := Txt.join (PySem.Str.ofString " ") (ns.map wordStr)
theorem textOf_words (ns : List Int) (hb : ∀ n ∈ ns, 0 ≤ n ∧ n < 1024) : (Txt.words (textOf ns)).map Txt.lower = ns.map wordStr := by
  unfold textOf
  rw [words_join _ (fun w hw => by
    obtain ⟨n, hn, rfl⟩ := List.mem_map.mp hw
    exact ⟨by rw [wordStr_size]; decide, wordStr_nospace n (hb n hn)⟩), List.map_map]
  exact List.map_congr_left fun n hn => wordStr_lower n (hb n hn)
theorem index_spec2 {w : World} {dp un : Nat} {fr : Option (List Env)} {gd : Option (List Code)} {s : Shared} {Q E : Value → Shared → Prop} {loose : List Str} {mean : ExcName → Option Value} {mg mb : Str → Option Value}
    (hdp : dp + 1 < recursionLimit) (hun : un + 16 < cLine)
    (X : (hd.heap_39 w.params).In s.heap) (T : Top topProg loose mean mg mb s.heap) (x : PySem.Str) (i : Int) (t : Tok) (hx : x = wordStr i) (ns : List Int) (hk : i ∈ ns) (hb : ∀ n ∈ ns, 0 ≤ n ∧ n < 1024)
    (ret : ∀ h' tk t, Kp s.heap h' → Q (.int i t) { s with heap := h', toks := tk }) :
    wpAny (model Pg w) (Ar dp un fr gd) (call (.ref 97) [.str x t]) Q E s := by
  subst hx
  exact index_specX hdp hun X T _ i t (hb i hk) (slc1 i) (slc2 i) (slc3 i) (wordStr_size i) ret
def IxEl (news : List (Addr × Obj)) (k : Int) (y : Value) (news' : List (Addr × Obj)) : Prop := news' = news ∧ ∃ t : Tok, y = .int k t
section
variable {prog : Program} {w : World} {A : Around} {h₀ : Heap} {L : Addr} {m : PySem.Str → Option Value} {env : Env} {elt : Expr} {x : PySem.Str} {scope : Scope} {cl : List (PySem.Str × Addr)} {s : Shared} {S : List (Addr × Obj) → Prop} {Fin : List Value → List (Addr × Obj) → Prop} {news : List (Addr × Obj)}
theorem snoc_int {y : Int} {t : Tok} : ∀ {vs : List Value} {ys : List Int}, IntsAre vs ys → IntsAre (vs ++ [.int y t]) (ys ++ [y])
  | _, _, .nil => .cons y t .nil
  | _, _, .cons z u r => .cons z u (snoc_int r)
theorem wl_rest {l : List (PySem.Str × Tok)} {ns : List Int} (e : (l.map (·.1)).map Txt.lower = ns.map wordStr)
    (turn : ∀ (k : Int) (v : PySem.Str) t I oI C oC D m₂ ys h tk (E' : Value → Shared → Prop), v ∈ l.map (·.1) → k ∈ ns → Txt.lower v = wordStr k → LCg.NsObj oC m₂ → m₂ x = some (.str v t) → Fr h₀ L h m → News h₀ L h ((I, oI) :: (C, oC) :: (D, LCg.lst ys) :: news) → LCg.Off3 I C D news → ((@Ne Nat I C) ∧ (@Ne Nat I D) ∧ (@Ne Nat C D)) →
      wpAny (model prog w) A (eval elt (compEnvC scope cl C env)) (LCg.CompEnd h₀ L m { s with heap := h, toks := tk } I oI C oC D (LCg.lst ys) S (fun y news' => IxEl news k y news')) E' { s with heap := h, toks := tk })
    (fin : ∀ ys, IntsAre ys ns → Fin ys news) : LCg.CompRest prog w A h₀ L m env elt x scope cl s S (fun i v => (strValues l).toArray[i]? = some v) Fin (strValues l).toArray.size 0 [] news := by
  have hlen : ns.length = l.length := by have := congrArg List.length e; simpa using this.symm
  have hsz : (strValues l).toArray.size = l.length := by simp [strValues]
  rw [hsz]
  have key : ∀ (j i : Nat) (ys : List Value), i + j = l.length → IntsAre ys (ns.take i) → LCg.CompRest prog w A h₀ L m env elt x scope cl s S (fun i v => (strValues l).toArray[i]? = some v) Fin j i ys news := by
    intro j
    induction j with
    | zero =>
      intro i ys hi hy
      have e : i = ns.length := by omega
      subst e
      rw [List.take_length] at hy
      exact LCg.CompRest.zero (fin ys hy)
    | succ j ih =>
      intro i ys hi hy
      refine LCg.CompRest.succ ?_
      intro v I oI C oC D m₂ h tk E' hv hC hx F N off ne
      have hil : i < l.length := by omega
      have hin : i < ns.length := by omega
      have hv1 : v = .str l[i].1 l[i].2 := by
        have : (strValues l).toArray[i]? = some (.str l[i].1 l[i].2) := by simp [strValues, hil]
        have h2 : (strValues l).toArray[i]? = some v := hv
        rw [this] at h2; exact (Option.some.inj h2).symm
      have hlow : Txt.lower l[i].1 = wordStr ns[i] := by
        have h1 := congrArg (fun z => z[i]?) e
        simpa [hil, hin] using h1
      rw [hv1] at hx
      refine wpAny_mono (turn ns[i] l[i].1 _ I oI C oC D m₂ ys h tk E' (List.mem_map.mpr ⟨l[i], List.getElem_mem hil, rfl⟩) (List.getElem_mem hin) hlow hC hx F N off ne) (fun y s₂ hq => ?_) fun _ _ e => e
      obtain ⟨h', tk', nw, e, F', N', off', hS, hn, t', hy'⟩ := hq
      subst hn
      refine ⟨h', tk', nw, e, F', N', off', hS, ?_⟩
      rw [hy']
      refine ih (i + 1) _ (by omega) ?_
      have e2 : List.take (i + 1) ns = List.take i ns ++ [ns[i]] := by rw [List.take_add_one, List.getElem?_eq_getElem hin]; rfl
      rw [e2]; exact snoc_int hy
  exact key l.length 0 [] (by omega) (by simp only [List.take_zero]; exact .nil)
theorem lower_to {E : Value → Shared → Prop} {s : Shared} {x y : PySem.Str} {t : Tok} {Q : Value → Shared → Prop} (e : Txt.lower x = y) (hL : x.length ≤ 5592405) (h : ∀ t' k, Q (.str y t') { s with toks := k }) : wpAny (model prog w) A (call (.builtin "str.lower") [.str x t]) Q E s :=
  SCL.lower hL fun _ => by
    rw [e]
    exact h _ _
end
local macro_rules | `(tactic| walk_at "call builtin:str.split") => `(tactic| (k_here; (with_reducible show wpAny _ _ (call (Value.builtin "str.split") [Value.str _ _]) _ _ _); k_dflt (refine KSpl.split0 (by k_asm) (by k_asm) ?_ (by rw [sizeLine_eq]; omega)); intro D' l' h' k' e' a' F' N' l1; (try k_lt l1); (try dsimp only)))
local macro_rules | `(tactic| walk_at "eval ListComp") => `(tactic| (k_here; k_dflt (refine LCg.ListComp_U (F₀ := by k_asm) (by with_unfolding_all rfl) (by decide) (by rfl) (by decide) (by rfl) ?_)))
theorem wl_eq {l : List (PySem.Str × Tok)} {x : PySem.Str} {ns : List Int} (e : l.map (·.1) = Txt.words x) (hw : (Txt.words x).map Txt.lower = ns.map wordStr) : (l.map (·.1)).map Txt.lower = ns.map wordStr := e ▸ hw
theorem words_fit {l : List (PySem.Str × Tok)} {x : PySem.Str} (e : l.map (·.1) = Txt.words x) (hx : x.length ≤ 5000) : (strValues l).toArray.size ≤ sizeLine := by
  have h := len_le_of_words e
  rw [sizeLine_eq]
  simp only [strValues, List.size_toArray, List.length_map]
  omega
theorem word_fit {l : List (PySem.Str × Tok)} {x v : PySem.Str} (e : l.map (·.1) = Txt.words x) (hx : x.length ≤ 5000) (hv : v ∈ l.map (·.1)) : v.length ≤ 5592405 := by
  have h := word_short (e ▸ hv)
  omega
local macro_rules | `(tactic| walk_at "CompSrc") => `(tactic| (k_here; k_dflt (refine LCg.CompSrc.ledger (by rfl) (by k_asm) (by k_asm) (by k_mem) (words_fit (by assumption) (by assumption)) ?_; intro g'; refine wl_rest (wl_eq (by assumption) (by assumption)) ?_ ?_; intro k' v' t' I' oI' C' oC' D' m' ys' h' tk' E' hv' hk' hlo' hC' hx' F' N' off' ne'; (try simp only [LCg.Off3, and_true] at off'))))
local macro_rules | `(tactic| walk_at "call builtin:str.lower") => `(tactic| (k_here; (with_reducible show wpAny _ _ (call (Value.builtin "str.lower") [Value.str _ _]) _ _ _); k_dflt (refine lower_to (by assumption) (word_fit (by assumption) (by assumption) (by assumption)) ?_; intro t' k')))
local macro_rules | `(tactic| walk_at "eval Call") => `(tactic| (k_here; (with_reducible show wpAny _ _ (eval (Expr.Call (Expr.Name _ _) _ [] _) _) _ _ _); k_dflt (refine Call_ ?_)))
local macro_rules | `(tactic| walk_at "mine use_ln1") => `(tactic| (k_here; (with_reducible show wpAny _ _ (call (Value.ref 97) [Value.str _ _]) _ _ _); k_dflt (refine' index_spec2 ?hdp ?hun ?hX ?hT _ _ _ ?hx9 _ ?hk9 ?hb9 ?hr; (case hdp => ((try simp only [depth_in1, depth_deeper, depth_caller]); (try dsimp only [Ar, Around.deeper]); omega)); (case hun => ((try simp only [units_in1, units_deeper, Around.mark_units, units_caller]); (try dsimp only [Ar, Around.deeper]); omega)); (case hX => exact Frag.In.keeps (by k_asm) (Fr.keep (by k_asm))); (case hT => exact Top.keeps (by k_asm) (Fr.keep (by k_asm))); (case hx9 => rfl); (case hk9 => assumption); (case hb9 => assumption); intro h' tk' t' hk'; (have F' := kp_fr (by k_asm) hk'); (have N' := News.grown (by k_asm) hk'); clear hk'; (try k_sweep); (try dsimp only); (try k_fold))))
local macro_rules | `(tactic| walk_at "call ref") => `(tactic| (walk_at "mine use_ln1"))
theorem fin_lst {h h' : Heap} {s : Shared} {Q : Value → Shared → Prop} {L D : Addr} {m : PySem.Str → Option Value} {xs : List Int} {ys : List Value} {tk : Nat} {news : List (Addr × Obj)}
    (ret : ∀ D ys c h' tk, Kp h h' → h.get? D = none → h'.get? D = some (W.listOf ys.toArray c) → IntsAre ys xs → Q (.ref D) { s with heap := h', toks := tk })
    (F : Fr h L h' m) (N : News h L h' news) (hm : (D, LCg.lst ys) ∈ news) (hi : IntsAre ys xs) : Q (.ref D) { s with heap := h', toks := tk } :=
  ret D ys ys.length h' tk F.keep (N.fresh hm) (N.get hm) hi
theorem m2i_spec {w : World} {dp un : Nat} {fr : Option (List Env)} {gd : Option (List Code)} {s : Shared} {Q E : Value → Shared → Prop} {loose : List Str} {mean : ExcName → Option Value} {mg mb : Str → Option Value}
    (hdp : dp + 6 < recursionLimit) (hun : un + 60 < cLine)
    (X : (hd.heap_39 w.params).In s.heap) (T : Top topProg loose mean mg mb s.heap) (x : PySem.Str) (t : Tok) (ns : List Int) (hw : (Txt.words x).map Txt.lower = ns.map wordStr) (hb : ∀ n ∈ ns, 0 ≤ n ∧ n < 1024) (hlen : x.length ≤ 5000)
    (ret : ∀ D ys c h' tk, Kp s.heap h' → s.heap.get? D = none → h'.get? D = some (W.listOf ys.toArray c) → IntsAre ys ns → Q (.ref D) { s with heap := h', toks := tk }) :
    wpAny (model Pg w) (Ar dp un fr gd) (call (.ref 116) [.str x t]) Q E s := by
  k_dflt (refine' enter ?k3 ?k5 ?k8 ?k6 ?k7 ?k9 ?kB ?_ ?c2 ?c3 ?c4 ?c5; (case k3 => k_asm); (case k5 => k_asm); (case k6 => k_is); (case k7 => k_is); (case k8 => exact (by show dp + 1 < recursionLimit; omega)); (case k9 => exact BindsTo.of_eq rfl); (case c5 => decide); (case kB => exact locs rfl); (case c2 => exact rfl); (case c3 => exact rfl); (case c4 => exact rfl); k_whole; intro L' h' F' N'; (try dsimp only); (try k_fold))
  k_steps
  · exact ⟨rfl, _, rfl⟩
  · exact fin_lst ret (by k_asm) (by k_asm) (by k_mem) (by assumption)

end Mine
end
section
open PySem PySem.W PyProof.Rows PySem.Calls
namespace Mine
theorem fill_GU : (fun (_ : OpenLaw) (_ : Params → Frag) => True) PySem.Challenge.rw_wx0012_02 hd.heap_39 := by
  w_top off
  k_fill
  trivial
section
variable {w : World} {A : Around} {E : Value → Shared → Prop} {a : Addr}
theorem gen_draw {fp wr : List Addr} {g n : Nat} {P : Nat → Value → Prop} {St : Nat → Shared → Prop} (W : WalksS Pg w A a fp wr (GenOnlyQ g) n P St) : ∀ (k i : Nat) (s : Shared) (Q : List Value → Shared → Prop), St i s → i + k ≤ n →
    (∀ s' vs, St (i + k) s' → Moved wr (GenOnlyQ g) s s' → vs.length = k → (∀ j y, vs[j]? = some y → P (i + j) y) → Q vs s') → wpAny (model Pg w) A (draw (.ref a) k) Q E s
  | 0, i, s, Q, st, _, hQ => by
    show wpAny _ _ (pure []) Q E s
    exact wpAny_pure (hQ s [] st (Moved.refl W.grefl) rfl (fun j y h => by simp at h))
  | k + 1, i, s, Q, st, hle, hQ => by
    show wpAny _ _ (pyNext (.ref a) >>= _) Q E s
    refine wpAny_bind (W.item i s _ _ (by omega) st fun v s1 hP st1 m1 => ?_)
    refine wpAny_bind (wpAny_holding (gen_draw W k (i + 1) s1 _ st1 (by omega) fun s2 vs st2 m2 hl hp => wpAny_pure ?_))
    refine hQ s2 (v :: vs) (by rw [show i + (k + 1) = i + 1 + k by omega]; exact st2) (m1.trans W.gtrans m2) (by simp [hl]) fun j y hj => ?_
    cases j with
    | zero => simp at hj; subst hj; exact hP
    | succ j => have := hp j y (by simpa using hj); rw [show i + (j + 1) = i + 1 + j by omega]; exact this
variable {s : Shared} {D U n : Nat} {Z : Addr → Prop} {h0 : Heap} {P : Nat → Value → Prop}
theorem gen_unpack {Q : List Value → Shared → Prop} (hh : A.handled = none) (hd : A.depth < recursionLimit) (hD : A.depth + 1 ≤ D) (hU : A.units + 4 ≤ U) (G : GenReady w D U a Z h0 n P s) (hb : AllBare s.gens)
    (hQ : ∀ (h' : Heap) (gs : Array GenState) (tk : Nat) (vs : List Value), (∀ b o o', h0.get? b = some o' → s.heap.get? b = some o → h'.get? b = some o) → AllBare gs → vs.length = n → (∀ j y, vs[j]? = some y → P j y) → Q vs { s with heap := h', gens := gs, toks := tk }) :
    wpAny (model Pg w) A (unpackItems (.ref a) n none) Q E s := by
  obtain ⟨g, fp, wr, h1, h2, h3, h4, h5⟩ := G.ex
  obtain ⟨St, W, st, hT, _⟩ := h5 A hh hd hD hU
  unfold unpackItems
  refine wpAny_bind ?_
  unfold notIterableAtAll
  refine wpAny_bind (wpAny_specialOf (hT 0 s st) slot_gen_iter.lookup ?_)
  refine wpAny_pure ?_
  simp only [Bool.false_eq_true, if_false]
  refine wpAny_bind (wpAny_holding (W.self 0 s _ _ st ?_))
  refine wpAny_bind (wpAny_holding (gen_draw W n 0 s _ st (by omega) fun s1 vs st1 m1 hl hp => ?_))
  rw [if_neg (by rw [hl]; omega)]
  refine wpAny_bind (wpAny_holding (W.done s1 _ _ (by rw [show 0 + n = n by omega] at st1; exact st1) fun s2 m2 => ?_))
  simp only [Option.isSome_none, Bool.false_eq_true, if_false]
  refine wpAny_pure ?_
  have hm := m1.trans W.gtrans m2
  have e : s2 = { s with heap := s2.heap, gens := s2.gens, toks := s2.toks } := by
    obtain ⟨x1, x2, x3, x4, x5⟩ := s2
    have q1 : x3 = s.drawn := hm.drawn
    have q2 : x5 = s.os := hm.os
    subst q1; subst q2; rfl
  rw [e]
  exact hQ _ _ _ vs (fun b o o' e0 e1 => hm.heap b o (fun hmem => by rw [h4 b hmem] at e0; cases e0) e1) (AllBare.movedS hb hm) hl (fun j y hj => by have := hp j y hj; rwa [Nat.zero_add] at this)
theorem gen_assign {Q : Unit → Shared → Prop} {elts : List PySem.Expr} {k : Nat} {pos : Pos} {env : Env} (hh : A.handled = none) (hd : A.depth < recursionLimit) (hD : A.depth + 1 ≤ D) (hU : A.units + 4 ≤ U) (G : GenReady w D U a Z h0 n P s) (hb : AllBare s.gens)
    (hn : (assignEach elts env).length = n) (hstar : (assignEach elts env).findIdx? (·.1) = none)
    (hQ : ∀ (h' : Heap) (gs : Array GenState) (tk : Nat) (vs : List Value), (∀ b o o', h0.get? b = some o' → s.heap.get? b = some o → h'.get? b = some o) → AllBare gs → vs.length = n → (∀ j y, vs[j]? = some y → P j y) → wpAny (model Pg w) A (assignInOrder ((assignEach elts env).map (·.2)) vs) Q E { s with heap := h', gens := gs, toks := tk }) :
    wpAny (model Pg w) A (assign (.Tuple elts k pos) env (.ref a)) Q E s := by
  rw [assign_Tuple]
  refine wpAny_bind (wpAny_standAt ?_)
  unfold unpack
  rw [hn, hstar]
  exact wpAny_bind (wpAny_holding (gen_unpack hh hd hD hU G hb hQ))
end
/-- a raise that leaves its def, with objects of the callers' told of beside the own ones -/
theorem leave_raiseX {M : Model} {A : Around} {E : Value → Shared → Prop} {s' : Shared} {base g h : Heap} {outer : List Env} {L a e : Addr} {m : PySem.Str → Option Value} {name : PySem.Str} {scope : Scope} {cd : Value} {Q : Unit → Shared → Prop} {news : List (Addr × Obj)} {cls : Value} {vs : List Value} (extra : List (Addr × Obj)) (K : Below A base outer g) (hx : Heap.MadeExcOf h s'.heap e cls vs) (F : Fr g L h m) (N : News g L h news)
    (hex : ∀ q ∈ extra, g.get? q.1 = some q.2 ∧ base.get? q.1 = none ∧ q.1 ∉ outer.filterMap (·.frame))
    (hQ : ∀ h' t, RaisedK base outer e cls t vs (news ++ extra) h' → g.UpToSlots h' → Q () { s' with heap := h' }) (hk : scope.kind = .function := by rfl) :
    wpAny M (A.deeper (envOf name scope L a cd)) (leaving (envOf name scope L a cd) (.ref e)) Q E s' := by
  have K' := K.push (name := name) (a := a) (cd := cd) F hk
  have hin : ∀ env ∈ (envOf name scope L a cd :: outer), ∀ b, env.frame = some b → b ∈ (envOf name scope L a cd :: outer).filterMap (·.frame) := fun env he b hb => List.mem_filterMap.mpr ⟨env, he, hb⟩
  have st : base.StaysIn (hideAll h ((envOf name scope L a cd :: outer).filterMap (·.frame))) := fun b o q => hideAll_get _ (K'.stays b o q) fun hm => by
    rw [(K'.frames.mem hm).1] at q; cases q
  have hl : ∀ q ∈ news ++ extra, (hideAll h ((envOf name scope L a cd :: outer).filterMap (·.frame))).get? q.1 = some q.2 ∧ base.get? q.1 = none := fun q hq => by
    rcases List.mem_append.mp hq with hq | hq
    · refine ⟨hideAll_get _ (N q hq).1 fun hm => ?_, fresh_of_stays K.stays (N q hq).2.2⟩
      obtain ⟨env, he, hf⟩ := List.mem_filterMap.mp hm
      rcases List.mem_cons.mp he with rfl | he
      · exact (N q hq).2.1 (Option.some.inj hf).symm
      · obtain ⟨o, ho, _⟩ := (K.frames.mem (List.mem_filterMap.mpr ⟨env, he, hf⟩)).2
        rw [(N q hq).2.2] at ho; cases ho
    · obtain ⟨x1, x2, x3⟩ := hex q hq
      refine ⟨hideAll_get _ (F.keep _ _ x1) fun hm => ?_, x2⟩
      obtain ⟨env, he, hf⟩ := List.mem_filterMap.mp hm
      rcases List.mem_cons.mp he with rfl | he
      · have e1 : L = q.1 := Option.some.inj hf
        have e2 : g.get? L = none := Heap.get?_none_of_le F.above
        rw [e1, x1] at e2; cases e2
      · exact x3 (List.mem_filterMap.mpr ⟨env, he, hf⟩)
  exact wpAny_leaves_madeW K'.stack rfl (fun b o q => of_hideAll _ q) (funFrames_hide K'.frames hin) hx fun h' t x1 x2 x3 x4 =>
    hQ h' t ⟨⟨_, st, hl, x1, x3⟩, x2⟩ (((Heap.UpToSlots.of_keeps F.keep).trans (Heap.UpToSlots.of_keeps hx.keeps)).trans x4)
theorem raised_sub {base h : Heap} {l : List Env} {e t : Addr} {cls : Value} {vs : List Value} {n1 n2 : List (Addr × Obj)} (R : RaisedK base l e cls t vs n1 h) (hs : ∀ q ∈ n2, q ∈ n1) : RaisedK base l e cls t vs n2 h := by
  obtain ⟨⟨B, x1, x2, x3, x4⟩, x5⟩ := R
  exact ⟨⟨B, x1, fun q hq => x2 q (hs q hq), x3, x4⟩, x5⟩

end Mine
end
section
open PySem PySem.W PyProof.Rows PySem.Calls
namespace Mine
local macro_rules | `(tactic| walk_at "pad 0") => `(tactic| skip)
local macro_rules | `(tactic| walk_at "pad 1") => `(tactic| skip)
local macro_rules | `(tactic| walk_at "pad 2") => `(tactic| skip)
local macro_rules | `(tactic| walk_at "pad 3") => `(tactic| skip)
local macro_rules | `(tactic| walk_at "pad 4") => `(tactic| skip)
local macro_rules | `(tactic| walk_at "pad 5") => `(tactic| skip)
local macro_rules | `(tactic| walk_at "pad 6") => `(tactic| skip)
local macro_rules | `(tactic| walk_at "pad 7") => `(tactic| skip)
local macro_rules | `(tactic| walk_at "pad 8") => `(tactic| skip)
local macro_rules | `(tactic| walk_at "pad 9") => `(tactic| skip)
local macro_rules | `(tactic| walk_at "pad 10") => `(tactic| skip)
local macro_rules | `(tactic| walk_at "pad 11") => `(tactic| skip)
local macro_rules | `(tactic| walk_at "pad 12") => `(tactic| skip)
local macro_rules | `(tactic| walk_at "pad 13") => `(tactic| skip)
local macro_rules | `(tactic| walk_at "pad 14") => `(tactic| skip)
local macro_rules | `(tactic| walk_at "pad 15") => `(tactic| skip)
local macro_rules | `(tactic| walk_at "pad 16") => `(tactic| skip)
local macro_rules | `(tactic| walk_at "pad 17") => `(tactic| skip)
local macro_rules | `(tactic| walk_at "pad 18") => `(tactic| skip)
local macro_rules | `(tactic| walk_at "pad 19") => `(tactic| skip)
local macro_rules | `(tactic| walk_at "pad 20") => `(tactic| skip)
local macro_rules | `(tactic| walk_at "pad 21") => `(tactic| skip)
local macro_rules | `(tactic| walk_at "pad 22") => `(tactic| skip)
local macro_rules | `(tactic| walk_at "pad 23") => `(tactic| skip)
local macro_rules | `(tactic| walk_at "pad 24") => `(tactic| skip)
local macro_rules | `(tactic| walk_at "pad 25") => `(tactic| skip)
local macro_rules | `(tactic| walk_at "pad 26") => `(tactic| skip)
local macro_rules | `(tactic| walk_at "pad 27") => `(tactic| skip)
local macro_rules | `(tactic| walk_at "pad 28") => `(tactic| skip)
local macro_rules | `(tactic| walk_at "pad 29") => `(tactic| skip)
local macro_rules | `(tactic| walk_at "pad 30") => `(tactic| skip)
local macro_rules | `(tactic| walk_at "pad 31") => `(tactic| skip)
local macro_rules | `(tactic| walk_at "pad 32") => `(tactic| skip)
local macro_rules | `(tactic| walk_at "pad 33") => `(tactic| skip)
local macro_rules | `(tactic| walk_at "pad 34") => `(tactic| skip)
local macro_rules | `(tactic| walk_at "pad 35") => `(tactic| skip)
local macro_rules | `(tactic| walk_at "pad 36") => `(tactic| skip)
local macro_rules | `(tactic| walk_at "pad 37") => `(tactic| skip)
local macro_rules | `(tactic| walk_at "pad 38") => `(tactic| skip)
local macro_rules | `(tactic| walk_at "pad 39") => `(tactic| skip)
local macro_rules | `(tactic| walk_at "pad 40") => `(tactic| skip)
local macro_rules | `(tactic| walk_at "pad 41") => `(tactic| skip)
local macro_rules | `(tactic| walk_at "pad 42") => `(tactic| skip)
local macro_rules | `(tactic| walk_at "pad 43") => `(tactic| skip)
local macro_rules | `(tactic| walk_at "pad 44") => `(tactic| skip)
local macro_rules | `(tactic| walk_at "pad 45") => `(tactic| skip)
local macro_rules | `(tactic| walk_at "pad 46") => `(tactic| skip)
local macro_rules | `(tactic| walk_at "pad 47") => `(tactic| skip)
local macro_rules | `(tactic| walk_at "pad 48") => `(tactic| skip)
local macro_rules | `(tactic| walk_at "pad 49") => `(tactic| skip)
local macro_rules | `(tactic| walk_at "pad 50") => `(tactic| skip)
local macro_rules | `(tactic| walk_at "pad 51") => `(tactic| skip)
local macro_rules | `(tactic| walk_at "pad 52") => `(tactic| skip)
local macro_rules | `(tactic| walk_at "pad 53") => `(tactic| skip)
local macro_rules | `(tactic| walk_at "pad 54") => `(tactic| skip)
local macro_rules | `(tactic| walk_at "pad 55") => `(tactic| skip)
local macro_rules | `(tactic| walk_at "pad 56") => `(tactic| skip)
local macro_rules | `(tactic| walk_at "pad 57") => `(tactic| skip)
local macro_rules | `(tactic| walk_at "pad 58") => `(tactic| skip)
local macro_rules | `(tactic| walk_at "pad 59") => `(tactic| skip)
local macro_rules | `(tactic| walk_at "pad 60") => `(tactic| skip)
local macro_rules | `(tactic| walk_at "pad 61") => `(tactic| skip)
local macro_rules | `(tactic| walk_at "pad 62") => `(tactic| skip)
local macro_rules | `(tactic| walk_at "pad 63") => `(tactic| skip)
local macro_rules | `(tactic| walk_at "pad 64") => `(tactic| skip)
local macro_rules | `(tactic| walk_at "pad 65") => `(tactic| skip)
local macro_rules | `(tactic| walk_at "pad 66") => `(tactic| skip)
local macro_rules | `(tactic| walk_at "pad 67") => `(tactic| skip)
local macro_rules | `(tactic| walk_at "pad 68") => `(tactic| skip)
local macro_rules | `(tactic| walk_at "pad 69") => `(tactic| skip)
local macro_rules | `(tactic| walk_at "pad 70") => `(tactic| skip)
local macro_rules | `(tactic| walk_at "pad 71") => `(tactic| skip)
local macro_rules | `(tactic| walk_at "pad 72") => `(tactic| skip)
local macro_rules | `(tactic| walk_at "mine my_ne") => `(tactic| (refine neN ?_; (try dsimp only); first | assumption | exact Ne.symm (by assumption) | exact Nat.ne_of_lt (by assumption) | exact Nat.ne_of_gt (by assumption) | decide | ((with_reducible (repeat (rename (_ ≠ _) => q9; clear q9))); omega) | omega))
local macro_rules | `(tactic| walk_at "mine my_all") => `(tactic| first | exact List.forall_mem_nil _ | (refine' List.forall_mem_cons.mpr ⟨?a, ?b⟩; (case a => (walk_at "mine my_ne")); (case b => (walk_at "mine my_all"))))
local macro_rules | `(tactic| walk_at "mine my_updF") => `(tactic| first | (refine' UpdF.head ?a; (case a => (walk_at "mine my_all"))) | (refine' UpdF.tail ?a ?b; (case a => (walk_at "mine my_ne")); (case b => (walk_at "mine my_updF"))))
local macro_rules | `(tactic| walk_at "mine my_om") => `(tactic| ((with_reducible (repeat (rename (_ ≠ _) => q9; clear q9))); first | omega | (constructor <;> omega)))
theorem fill_FM : (fun (_ : OpenLaw) (_ : Params → Frag) => True) PySem.Challenge.rw_wx0012_02 hd.heap_39 := by
  w_top off
  k_fill
  trivial
theorem strsAre_take {vs : List Value} {ys : List PySem.Str} (h : StrsAre vs ys) : ∀ k, StrsAre (vs.take k) (ys.take k) := by
  induction h with
  | nil => intro k; simp only [List.take_nil]; exact .nil
  | cons y t _ ih =>
    intro k
    cases k with
    | zero => exact .nil
    | succ k => exact .cons y t (ih k)
theorem take_weight : ∀ (l : List PySem.Str) (k : Nat), ((l.take k).map (·.length)).sum + (l.take k).length ≤ (l.map (·.length)).sum + l.length
  | [], k => by simp
  | a :: l, 0 => by simp
  | a :: l, k + 1 => by
    have := take_weight l k
    simp only [List.take_succ_cons, List.map_cons, List.sum_cons, List.length_cons]
    omega
theorem pick4 {vs : List Value} {ys : List PySem.Str} (h : StrsAre vs ys) : StrsAre (slicePick vs.toArray none (some (2 + 2)) none).toList (ys.take 4) := by
  have e : sliceBounds none (some (2 + 2)) none vs.toArray.size = (((0 : Nat) : Int), ((min 4 vs.toArray.size : Nat) : Int), 1) := by
    simp only [sliceBounds, Option.getD_none, show (1 : Int) > 0 by decide, if_true, if_neg (show ¬ ((2 + 2 : Int) < 0) by decide)]
    congr 1
    congr 1
    omega
  rw [kmk_pick_nat _ e]
  show StrsAre ((vs.drop 0).take (min 4 vs.toArray.size - 0)) _
  rw [List.drop_zero, Nat.sub_zero, List.size_toArray, kmk_take_min]
  exact strsAre_take h 4
section
variable {prog : Program} {w : World} {A : Around} {E : Value → Shared → Prop} {s : Shared} {x : PySem.Str} {t : Tok} {Q : Value → Shared → Prop} {D : Addr} {l : List (PySem.Str × Tok)}
theorem join4 (hl : s.heap.IsList D (slicePick (strValues l).toArray none (some (2 + 2)) none)) (a : StrsAre (strValues l) (l.map (·.1))) (e : l.map (·.1) = Txt.words x) (hx : x.length ≤ 5000)
    (h : ∀ y t' k, PySem.Str.length y ≤ 5001 → Q (.str y t') { s with toks := k }) : wpAny (model prog w) A (call (.builtin "str.join") [.str (PySem.Str.ofString " ") t, .ref D]) Q E s := by
  have w1 := StrLaws.words_weight x
  have w2 := take_weight (Txt.words x) 4
  have e1 : (PySem.Str.ofString " ").length = 1 := by decide
  rw [e] at a
  refine join_list hl (pick4 a) (by rw [e1]; omega) fun t' k => h _ t' k ?_
  show (Builtin.Str.glued _ _).length ≤ 5001
  rw [StrLaws.glued_eq_join]
  have := StrLaws.join_length_le (PySem.Str.ofString " ") ((Txt.words x).take 4)
  rw [e1] at this
  omega
end
local macro_rules | `(tactic| walk_at "call builtin:str.join") => `(tactic| (k_here; (with_reducible show wpAny _ _ (call (Value.builtin "str.join") [Value.str _ _, Value.ref _]) _ _ _); (rename News _ _ _ _ => N9); (dsimp only at N9); k_dflt (refine join4 (News.isList N9 (by k_mem)) (by assumption) (by assumption) (by assumption) ?_; intro y' t' k' hy')))
local macro_rules | `(tactic| walk_at "call builtin:str.split") => `(tactic| (k_here; (with_reducible show wpAny _ _ (call (Value.builtin "str.split") [Value.str _ _]) _ _ _); k_dflt (refine KSpl.split0 (by k_asm) (by k_asm) ?_ (by rw [sizeLine_eq]; omega)); intro D' l' h' k' e' a' F' N' l1; (try k_lt l1); (try k_sweep); (try dsimp only)))
theorem bnd_take {ns : List Int} {k : Nat} (h : ∀ x ∈ ns, 0 ≤ x ∧ x < 1024) : ∀ x ∈ ns.take k, 0 ≤ x ∧ x < 1024 := fun x hx => h x (List.mem_of_mem_take hx)
theorem bnd_drop {ns : List Int} {k : Nat} (h : ∀ x ∈ ns, 0 ≤ x ∧ x < 1024) : ∀ x ∈ ns.drop k, 0 ≤ x ∧ x < 1024 := fun x hx => h x (List.mem_of_mem_drop hx)
local macro_rules | `(tactic| walk_at "mine use_ln1") => `(tactic| (k_here; (with_reducible show wpAny _ _ (call (Value.ref 116) [Value.str _ _]) _ _ _); k_dflt (refine' m2i_spec ?hdp ?hun ?hX ?hT _ _ _ ?hw9 ?hb9 ?hl9 ?hr; (case hdp => ((try simp only [depth_in1, depth_deeper, depth_caller]); (try dsimp only [Ar, Around.deeper]); omega)); (case hun => ((try simp only [units_in1, units_deeper, Around.mark_units, units_caller]); (try dsimp only [Ar, Around.deeper]); omega)); (case hX => exact Frag.In.keeps (by k_asm) (Fr.keep (by k_asm))); (case hT => exact Top.keeps (by k_asm) (Fr.keep (by k_asm))); (case hw9 => assumption); (case hb9 => assumption); (case hl9 => assumption); intro D' ys' c' h' tk' hk' hD' ho' hi'; (have N' := kp_newN (by k_asm) (by k_asm) hk' hD' ho'); (have off' := kt_off (by k_asm) hD'); (have F' := kp_fr (by k_asm) hk'); clear hk'; (try simp only [LCg.Off1, and_true] at off'); (repeat (rcases off' with ⟨o9, off'⟩)); (try k_sweep); (try dsimp only); (try k_fold))))
local macro_rules | `(tactic| walk_at "call ref") => `(tactic| (walk_at "mine use_ln1"))
local macro_rules | `(tactic| walk_at "mine use_ln2") => `(tactic| (k_here; (with_reducible show wpAny _ _ (call (Value.ref 130) [Value.ref _]) _ _ _); k_dflt (refine' fromwords_spec ?hdp ?hun ?hX ?hT _ _ _ ?hl9 ?hi9 ?hn9 ?hb9 ?hr; (case hdp => ((try simp only [depth_in1, depth_deeper, depth_caller]); (try dsimp only [Ar, Around.deeper]); omega)); (case hun => ((try simp only [units_in1, units_deeper, Around.mark_units, units_caller]); (try dsimp only [Ar, Around.deeper]); omega)); (case hX => exact Frag.In.keeps (by k_asm) (Fr.keep (by k_asm))); (case hT => exact Top.keeps (by k_asm) (Fr.keep (by k_asm))); (case hl9 => exact News.isList (by k_asm) (by k_mem)); (case hi9 => l_ints); (case hn9 => (walk_at "mine my_om")); (case hb9 => first | assumption | exact bnd_take (by assumption) | exact bnd_drop (by assumption) | exact bnd_take (bnd_drop (by assumption)) | exact bnd_drop (bnd_take (by assumption))); intro h' tk' t' hk'; (have F' := kp_fr (by k_asm) hk'); (have N' := News.grown (by k_asm) hk'); clear hk'; (try k_sweep); (try dsimp only); (try k_fold))))
local macro_rules | `(tactic| walk_at "call ref") => `(tactic| (walk_at "mine use_ln2"))
local macro_rules | `(tactic| walk_at "mine use_ln3") => `(tactic| (k_here; (with_reducible show wpAny _ _ (call (Value.ref 137) [Value.bool _]) _ _ _); k_dflt (refine' custom_spec ?hdp ?hun ?hX ?hT _ ?hr; (case hdp => ((try simp only [depth_in1, depth_deeper, depth_caller]); (try dsimp only [Ar, Around.deeper]); omega)); (case hun => ((try simp only [units_in1, units_deeper, Around.mark_units, units_caller]); (try dsimp only [Ar, Around.deeper]); omega)); (case hX => exact Frag.In.keeps (by k_asm) (Fr.keep (by k_asm))); (case hT => exact Top.keeps (by k_asm) (Fr.keep (by k_asm))); intro h' tk' t' hk'; (have F' := kp_fr (by k_asm) hk'); (have N' := News.grown (by k_asm) hk'); clear hk'; (try k_sweep); (try dsimp only); (try k_fold))))
local macro_rules | `(tactic| walk_at "call ref") => `(tactic| (walk_at "mine use_ln3"))
local macro_rules | `(tactic| walk_at "mine use_ln4") => `(tactic| (k_here; (with_reducible show wpAny _ _ (call (Value.ref 40) [Value.ref _, Value.bytes _ _]) _ _ _); k_dflt (refine' verify_spec ?hdp ?hun ?hX ?hT _ _ _ _ _ ?hl9 ?hi9 ?hn9 ?hb9 ?hc9 ?hr; (case hdp => ((try simp only [depth_in1, depth_deeper, depth_caller]); (try dsimp only [Ar, Around.deeper]); omega)); (case hun => ((try simp only [units_in1, units_deeper, Around.mark_units, units_caller]); (try dsimp only [Ar, Around.deeper]); omega)); (case hX => exact Frag.In.keeps (by k_asm) (Fr.keep (by k_asm))); (case hT => exact Top.keeps (by k_asm) (Fr.keep (by k_asm))); (case hl9 => exact News.isList (by k_asm) (by k_mem)); (case hi9 => l_ints); (case hn9 => (walk_at "mine my_om")); (case hb9 => assumption); (case hc9 => exact cust_size _); intro h' tk' hk'; (have F' := kp_fr (by k_asm) hk'); (have N' := News.grown (by k_asm) hk'); clear hk'; (try k_sweep); (try dsimp only); (try k_fold))))
local macro_rules | `(tactic| walk_at "call ref") => `(tactic| (walk_at "mine use_ln4"))
local macro_rules | `(tactic| walk_at "leaving ref") => `(tactic| (k_here; (refine' leave_raiseX _ ?k1 ?k0 ?k2 ?k3 ?k4 ?_; (case k0 => assumption); (case k1 => assumption); (case k2 => assumption); (case k3 => k_asm); (case k4 => assumption); k_whole; intro h' t' R' U'; (try dsimp only at R' U' ⊢))))
theorem gen_kept {g h0 cur h2 : Heap} {L : Addr} {m0 m : PySem.Str → Option Value} {n0 news : List (Addr × Obj)} (F0 : Fr g L h0 m0) (N0 : News g L h0 n0) (F : Fr g L cur m) (N : News g L cur news) (hs : ∀ q ∈ news, ∃ o, (q.1, o) ∈ n0)
    (k3 : ∀ b o o', h0.get? b = some o' → cur.get? b = some o → h2.get? b = some o) : Fr g L h2 m ∧ News g L h2 news := by
  refine ⟨⟨F.ns.at' fun o e => ?_, fun b o e => k3 b o o (F0.keep b o e) (F.keep b o e), F.above⟩, fun q hq => ⟨?_, (N q hq).2⟩⟩
  · obtain ⟨oL, _, _, hL, _⟩ := F0.ns
    exact k3 _ _ _ hL e
  · obtain ⟨o, ho⟩ := hs q hq
    exact k3 _ _ _ (N0 _ ho).1 (N q hq).1
theorem gen_store {w : World} {A : Around} {E : Value → Shared → Prop} {s : Shared} {g : Heap} {L a : Addr} {c : Value} {m : PySem.Str → Option Value} {news : List (Addr × Obj)} {name x : PySem.Str} {scope : Scope} {D U n : Nat} {b : Addr} {Z : Addr → Prop} {h0 : Heap} {P : Nat → Value → Prop} {v : Value} {Q : Unit → Shared → Prop} (F : Fr g L s.heap m) (N : News g L s.heap news) (G : GenReady w D U b Z h0 n P s) (hZ : ¬ Z L)
    (hQ : ∀ h', Fr g L h' (fun y => if y = x then some v else m y) → News g L h' news → GenReady w D U b Z h0 n P { s with heap := h', toks := s.toks + 1 } → Q () { s with heap := h', toks := s.toks + 1 })
    (hk : scope.kind = .function := by rfl) (hl : (envOf name scope L a c).kindOf x = some .local := by rfl) :
    wpAny (model Pg w) A (storeName (envOf name scope L a c) x v) Q E s :=
  stNK F N (fun h' F' N' hs _ => hQ h' F' N' (G.frame (fun q hq o e => hs.extBut q o (fun z => hZ (z ▸ hq)) e) (by
    obtain ⟨oL, _, _, hL, _⟩ := F.ns
    exact Nat.le_of_eq hs.1.symm)) ) hk hl
theorem list5 {α : Type} {l : List α} {n : Nat} (h : l.length = n) (e : n = 5 := by rfl) : ∃ a b c d f, l = [a, b, c, d, f] := by
  subst e
  match l, h with
  | [a, b, c, d, f], _ => exact ⟨a, b, c, d, f, rfl⟩
local macro_rules | `(tactic| walk_at "mine use_ln5") => `(tactic| (k_here; (with_reducible show wpAny _ _ (call (Value.ref 67) [Value.int _ _]) _ _ _); k_dflt (refine' b2b_spec ?hdp ?hun ?hX ?hT _ _ ?hn9 ?hr; (case hdp => ((try simp only [depth_in1, depth_deeper, depth_caller]); (try dsimp only [Ar, Around.deeper]); omega)); (case hun => ((try simp only [units_in1, units_deeper, Around.mark_units, units_caller]); (try dsimp only [Ar, Around.deeper]); omega)); (case hX => exact Frag.In.keeps (by k_asm) (Fr.keep (by k_asm))); (case hT => exact Top.keeps (by k_asm) (Fr.keep (by k_asm))); (case hn9 => assumption); intro h' tk' t' hk'; (have F' := kp_fr (by k_asm) hk'); (have N' := News.grown (by k_asm) hk'); clear hk'; (try k_sweep); (try dsimp only); (try k_fold))))
local macro_rules | `(tactic| walk_at "call ref") => `(tactic| (walk_at "mine use_ln5"))
local macro_rules | `(tactic| walk_at "mine use_ln6") => `(tactic| (k_here; (with_reducible show wpAny _ _ (call (Value.ref 275) [Value.int _ _, Value.bool _, Value.int _ _, Value.int _ _, Value.int _ _, Value.int _ _, Value.int _ _, Value.int _ _, Value.bytes _ _]) _ _ _); k_dflt (refine' share_spec ?hdp ?hun ?hX ?hT _ _ _ _ _ _ _ _ _ _ _ _ _ _ _ _ _ ?hr; (case hdp => ((try simp only [depth_in1, depth_deeper, depth_caller]); (try dsimp only [Ar, Around.deeper]); omega)); (case hun => ((try simp only [units_in1, units_deeper, Around.mark_units, units_caller]); (try dsimp only [Ar, Around.deeper]); omega)); (case hX => exact Frag.In.keeps (by k_asm) (Fr.keep (by k_asm))); (case hT => exact Top.keeps (by k_asm) (Fr.keep (by k_asm))); intro x' dx' h' tk' k1' k2' k3' k4' k5' k6' k7' k8' k9' hk' hs1' hs2' hx' hd'; (have lt9' := Nat.lt_of_lt_of_le (Fr.ns (by k_asm)).lt hs1'); (have F' := kp_fr (by k_asm) hk'); (have N' := News.grown (by k_asm) hk'); (try dsimp only); (try k_fold))))
local macro_rules | `(tactic| walk_at "call ref") => `(tactic| (walk_at "mine use_ln6"))
local macro_rules | `(tactic| walk_at "call builtin:int.to_bytes") => `(tactic| (k_here; (with_reducible show wpAny _ _ (call (Value.builtin "int.to_bytes") _) _ _ _); k_dflt (refine' to_bigI ?n9 (Int.natCast_nonneg _) ?x9 ?_; (case n9 => assumption); (case x9 => assumption); intro b' t' k' hb' hz')))
abbrev frW (ns : List Int) : Nat := ofWords ((ns.take 2).map Int.toNat)
abbrev frX (ns : List Int) : Bool := frW ns / 16 % 2 == 1
abbrev frV (ns : List Int) : Nat := ofWords (((ns.drop 4).take (ns.length - 7)).map Int.toNat)
abbrev frN (ns : List Int) : Nat := ((10 * ((ns.length : Int) - 7) - (10 * ((ns.length : Int) - 7)).fmod 16 + 8 - 1) / 8).toNat
theorem fr_c1 (W : Nat) : (W : Int).fdiv (2 ^ (1 + 4 : Int).toNat) = ((W / 32 : Nat) : Int) := by
  rw [show (2 : Int) ^ (1 + 4 : Int).toNat = 32 from rfl, Int.fdiv_eq_ediv_of_nonneg _ (by decide)]; rfl
theorem fr_c2 (W : Nat) : (Builtin.bitAnd ((W : Int).fdiv (2 ^ Int.toNat 4)) 1 != 0) = (W / 16 % 2 == 1) := by
  have e : (W : Int).fdiv (2 ^ Int.toNat 4) = ((W / 16 : Nat) : Int) := by
    rw [show (2 : Int) ^ Int.toNat 4 = 16 from rfl, Int.fdiv_eq_ediv_of_nonneg _ (by decide)]; rfl
  rw [e, ba' (Int.natCast_nonneg _) (by decide), Int.toNat_natCast, show (1 : Int).toNat = 2 ^ 1 - 1 by decide, Nat.and_two_pow_sub_one_eq_mod]
  have h : W / 16 % 2 = 0 ∨ W / 16 % 2 = 1 := by omega
  rcases h with h | h <;> rw [show (2 : Nat) ^ 1 = 2 from rfl, h] <;> decide
theorem fr_c3 (W : Nat) : Builtin.bitAnd (W : Int) (1 * 2 ^ Int.toNat 4 - 1) = ((W % 16 : Nat) : Int) := by
  rw [show (1 * 2 ^ Int.toNat 4 - 1 : Int) = 15 from rfl, ba' (Int.natCast_nonneg _) (by decide), Int.toNat_natCast, show (15 : Int).toNat = 2 ^ 4 - 1 by decide, Nat.and_two_pow_sub_one_eq_mod]
def frP (ns : List Int) : Nat := ofWords (((ns.drop 2).take 2).map Int.toNat)
abbrev frG (ns : List Int) (j : Nat) : Nat := frP ns / 2 ^ ((4 - j) * 4) % 16
theorem enterTc {K : Frag} {w : World} {A : Around} {s : Shared} {Q E : Value → Shared → Prop} {name qual : PySem.Str} {params : Arguments} {body : List Stmt} {scope : Scope} {dV kV doc pm cdv ct oc : Value} {an od : Option Addr} {osl : Array (Option Value)} {f : Addr} {pos : List Value} {kws : List (PySem.Str × Value)} {binds : List (PySem.Str × Value)}
    {loose : List PySem.Str} {mean : ExcName → Option Value} {mg mb : PySem.Str → Option Value} {p1 p2 : Array Value}
    (X : K.In s.heap) (T : Top topProg loose mean mg mb s.heap) (h1 : s.heap.get? 76 = some (tabObj p1)) (h2 : s.heap.get? 99 = some (tabObj p2)) (k1 : K.lookup 76 = none) (k2 : K.lookup 99 = none) (hroom : A.depth + 1 < recursionLimit)
    (ho : K.lookup f = some ⟨oc, od, .func (fnOf name qual params body scope dV kV doc pm an cdv ct), osl⟩) (hcd : codeIn K cdv qual = true)
    (hbind : BindsTo s (fnOf name qual params body scope dV kV doc pm an cdv ct) ⟨pos, kws⟩ binds) (hloc : ∀ y ∈ binds, scope.names.lookup y.1 = some .local)
    (h : ∀ L' h₁, K.In (hid2 s.heap) → Top topProg loose mean mg mb (hid2 s.heap) → Fr (hid2 s.heap) L' h₁ (fun y => binds.reverse.lookup y) → News (hid2 s.heap) L' h₁ [(76, tabObj p1), (99, tabObj p2)] → Kp s.heap h₁ →
      wpAny (model Pg w) (A.deeper (envOf qual scope L' f cdv)) (execs body (envOf qual scope L' f cdv))
        (fun fl s' => Q (match fl with | .ret v => v | _ => .none) s')
        (fun e s' => wpAny (model Pg w) (A.deeper (envOf qual scope L' f cdv)) (leaving (envOf qual scope L' f cdv) e) (fun _ s'' => E e s'') (fun e' s'' => E e' s'') s')
        { s with heap := h₁, toks := s.toks + binds.length })
    (hco : scope.isCoroutine = false) (hgen : scope.isGenerator = false) (hk : scope.kind = .function)
    (hcell : ∀ x ∈ scope.names, x.2 ≠ .cell) : codeAny (model Pg w) A (.call (.ref f) ⟨pos, kws⟩) (fun r s' => match r with | .ok (.ret v) => Q v s' | .ok _ => False | .error e => E e s') s := by
  refine (codeAny_call_def (fd := fnOf name qual params body scope dV kV doc pm an cdv ct) (body := body) (binds := binds) (by omega) (X _ _ ho) rfl T.nolimit (codeRec_of X hcd) rfl hbind hcell hloc (fun h₁ hns hk₁ => ?_) hco hgen hk)
  have lt1 := Heap.lt_size h1
  have lt2 := Heap.lt_size h2
  refine h s.heap.objs.size h₁ (hid2_X X k1 k2) (hid2_top T h1 h2) ⟨hns, fun b o e => hk₁ b o (of_hideAll _ e), Nat.le_of_eq (hideAll_size _ _)⟩ (fun p hp => ?_) hk₁
  rcases List.mem_cons.mp hp with rfl | hp
  · exact ⟨hk₁ _ _ h1, Nat.ne_of_lt lt1, hideAll_none _ (by simp)⟩
  · rw [List.mem_singleton.mp hp]
    exact ⟨hk₁ _ _ h2, Nat.ne_of_lt lt2, hideAll_none _ (by simp)⟩
theorem frm_spec {w : World} {dp un : Nat} {fr : Option (List Env)} {gd : Option (List Code)} {s : Shared} {Q E : Value → Shared → Prop} {loose : List Str} {mean : ExcName → Option Value} {mg mb : Str → Option Value}
    (hdp : dp + 12 < recursionLimit) (hun : un + 100 < cLine)
    (X : (hd.heap_39 w.params).In s.heap) (T : Top topProg loose mean mg mb s.heap) {p1 p2 : Array Value} (h76 : s.heap.get? 76 = some (tabObj p1)) (t76 : TriplesOk p1.toList) (h99 : s.heap.get? 99 = some (tabObj p2)) (t99 : TriplesOk p2.toList) (hbare : AllBare s.gens) {base : Heap} {outer : List Env} (Kg : Below (Ar dp un fr gd) base outer (hid2 s.heap)) (extra : List (Addr × Obj)) (hex : ∀ q ∈ extra, (hid2 s.heap).get? q.1 = some q.2 ∧ base.get? q.1 = none ∧ q.1 ∉ outer.filterMap (·.frame))
    (x : PySem.Str) (t : Tok) (ns : List Int) (hw : (Txt.words x).map Txt.lower = ns.map wordStr) (hb : ∀ n ∈ ns, 0 ≤ n ∧ n < 1024) (hlen : x.length ≤ 5000) (hn1 : 20 ≤ ns.length) (hn2 : ns.length ≤ 200) (hpad : ¬ 8 < (10 * ((ns.length : Int) - 7)).fmod 16)
    (hval : polymod ((KBw.bInts (cust (frX ns)) ++ ns).map Int.toNat) = 1 → ((ofWords (List.map Int.toNat (List.take (ns.length - 3 - (2 + 2 : Int).toNat) (List.drop (2 + 2 : Int).toNat ns))) : Nat) : Int) < 256 ^ ((10 * ((List.take (ns.length - 3 - (2 + 2 : Int).toNat) (List.drop (2 + 2 : Int).toNat ns)).length : Int) - (10 * ((ns.length : Int) - 7)).fmod 16 + 8 - 1) / 8).toNat)
    (rai : (polymod ((KBw.bInts (cust (frX ns)) ++ ns).map Int.toNat) ≠ 1 ∨ frG ns 2 < frG ns 1) → ∀ h' e t' vs tk p1' gs, RaisedK base outer e (.ref 50) t' vs ((76, tabObj p1') :: (99, tabObj p2) :: extra) h' → TriplesOk p1'.toList → AllBare gs → (hid2 s.heap).UpToSlots h' → E (.ref e) { s with heap := h', gens := gs, toks := tk })
    (ret : polymod ((KBw.bInts (cust (frX ns)) ++ ns).map Int.toNat) = 1 → frG ns 1 ≤ frG ns 2 → ∀ x dx b h' p1' gs tk k1 k2 k3 k4 k5 k6 k7 k8 k9 t1 t2 t3 t4 t5 t6 t7 t8, KT s.heap h' → h'.get? 76 = some (tabObj p1') → TriplesOk p1'.toList → h'.get? 99 = some (tabObj p2) → AllBare gs → s.heap.objs.size ≤ dx → dx < x → h'.get? x = some (instObj 275 dx) →
      h'.get? dx = some (dictOf [{ hash := PyData.keyHash w.params (Str.ofString "identifier"), key := Value.str (Str.ofString "identifier") k1, val := .int ((frW ns / 32 : Nat) : Int) t1 }, { hash := PyData.keyHash w.params (Str.ofString "extendable"), key := Value.str (Str.ofString "extendable") k2, val := .bool (frX ns) }, { hash := PyData.keyHash w.params (Str.ofString "iteration_exponent"), key := Value.str (Str.ofString "iteration_exponent") k3, val := .int ((frW ns % 16 : Nat) : Int) t2 }, { hash := PyData.keyHash w.params (Str.ofString "group_index"), key := Value.str (Str.ofString "group_index") k4, val := .int ((frG ns 0 : Nat) : Int) t3 }, { hash := PyData.keyHash w.params (Str.ofString "group_threshold"), key := Value.str (Str.ofString "group_threshold") k5, val := .int (((frG ns 1 : Nat) : Int) + 1) t4 }, { hash := PyData.keyHash w.params (Str.ofString "group_count"), key := Value.str (Str.ofString "group_count") k6, val := .int (((frG ns 2 : Nat) : Int) + 1) t5 }, { hash := PyData.keyHash w.params (Str.ofString "index"), key := Value.str (Str.ofString "index") k7, val := .int ((frG ns 3 : Nat) : Int) t6 }, { hash := PyData.keyHash w.params (Str.ofString "member_threshold"), key := Value.str (Str.ofString "member_threshold") k8, val := .int (((frG ns 4 : Nat) : Int) + 1) t7 }, { hash := PyData.keyHash w.params (Str.ofString "value"), key := Value.str (Str.ofString "value") k9, val := .bytes b t8 }] 9) →
      KBw.bInts b = (KTBy.little (frN ns) ((frV ns : Nat) : Int)).reverse → b.size = frN ns → Q (.ref x) { s with heap := h', gens := gs, toks := tk }) :
    codeAny (model Pg w) (Ar dp un fr gd) (.call (.ref 207) ⟨[.ref 275, .str x t], []⟩) (fun r s' => match r with | .ok (.ret v) => Q v s' | .ok _ => False | .error e => E e s') s := by
  have hp0 : 0 ≤ (10 * ((ns.length : Int) - 7)).fmod 16 := Int.fmod_nonneg_of_pos _ (by decide)
  have hlV : (List.take (ns.length - 3 - (2 + 2 : Int).toNat) (List.drop (2 + 2 : Int).toNat ns)).length = ns.length - 7 := by
    rw [show (2 + 2 : Int).toNat = 4 from rfl, List.length_take, List.length_drop]; omega
  have hnb : 0 ≤ (10 * ((List.take (ns.length - 3 - (2 + 2 : Int).toNat) (List.drop (2 + 2 : Int).toNat ns)).length : Int) - (10 * ((ns.length : Int) - 7)).fmod 16) ∧ (10 * ((List.take (ns.length - 3 - (2 + 2 : Int).toNat) (List.drop (2 + 2 : Int).toNat ns)).length : Int) - (10 * ((ns.length : Int) - 7)).fmod 16) ≤ 100000 := by
    rw [hlV]; omega
  have hnc : 0 ≤ (10 * ((List.take (ns.length - 3 - (2 + 2 : Int).toNat) (List.drop (2 + 2 : Int).toNat ns)).length : Int) - (10 * ((ns.length : Int) - 7)).fmod 16 + 8 - 1) / 8 ∧ (10 * ((List.take (ns.length - 3 - (2 + 2 : Int).toNat) (List.drop (2 + 2 : Int).toNat ns)).length : Int) - (10 * ((ns.length : Int) - 7)).fmod 16 + 8 - 1) / 8 ≤ 1000 := by
    rw [hlV]; omega
  k_dflt (refine' enterTc ?k3 ?k5 ?h1 ?h2 ?q1 ?q2 ?k8 ?k6 ?k7 ?k9 ?kB ?_ ?c2 ?c3 ?c4 ?c5; (case k3 => k_asm); (case k5 => k_asm); (case h1 => assumption); (case h2 => assumption); (case q1 => with_unfolding_all rfl); (case q2 => with_unfolding_all rfl); (case k6 => k_is); (case k7 => k_is); (case k8 => exact (by show dp + 1 < recursionLimit; omega)); (case k9 => exact BindsTo.of_eq rfl); (case c5 => decide); (case kB => exact locs rfl); (case c2 => exact rfl); (case c3 => exact rfl); (case c4 => exact rfl); k_whole; intro L' h' X' T' F' N' kp'; (try dsimp only); (try k_fold))
  k_steps
  rotate_left
  · rename (polymod _ == 1) = _ => hv9
    rw [fr_c2] at hv9
    exact rai (.inl (fun q => by rw [q] at hv9; cases hv9)) _ _ _ _ _ p1 _ (raised_sub (by assumption) (fun q hq => by
      simp only [List.mem_cons, List.mem_append] at hq ⊢
      rcases hq with rfl | rfl | hq
      · simp
      · simp
      · simp [hq])) t76 hbare (by assumption)
  have hval' := (by
    rename (polymod _ == 1) = _ => hv9
    rw [fr_c2] at hv9
    exact hval (beq_iff_eq.mp hv9))
  clear hval
  rename Fr _ _ _ _ => F0
  rename News _ _ _ _ => N0
  have hP0 := News.get N0 (a := 76) (by k_mem)
  have g99 := News.get N0 (a := 99) (by k_mem)
  have hbd : ∀ p : Nat, 0 ≤ (p : Int) := fun p => Int.natCast_nonneg p
  with_unfolding_all refine' i2i_spec ?hdp ?hun ?hX ?hT _ 5 4 _ _ _ (hbd _) (by decide) (by decide) _ hP0 t76 hbare (recursionLimit - 3) (cLine - 31) ?hr
  case hdp => show dp + 1 + 2 < recursionLimit; omega
  case hun => show un + 3 + 16 < cLine; omega
  case hX => exact Frag.In.keeps (by k_asm) (Fr.keep F0)
  case hT => exact Top.keeps (by k_asm) (Fr.keep F0)
  intro a9 h9 ps9 gs9 tk9 hx9 hP9 htr9 hb9 hsz9 G9
  have kt9 : KT _ h9 := fun b o n1 _ e => hx9 b o n1 e
  have N1 := kt_news N0 kt9 (by (walk_at "mine my_updF")) (by (walk_at "mine my_updF")) hP9 (hx9 _ _ (by decide) g99)
  have F1 := kt_fr F0 N0 (by k_mem) (by k_mem) kt9
  have lt76 := Heap.lt_size h76
  have hL9 : ¬ (Heap.get? _ L' = none ∨ L' = cStatics) := fun q => by
    rcases q with q | q
    · obtain ⟨oL, _, _, hL, _⟩ := F0.ns
      rw [hL] at q; cases q
    · have := F0.above
      rw [hideAll_size] at this
      have q2 : L' = 2 := q
      exact absurd (Nat.lt_of_lt_of_le lt76 this) (by rw [q2]; decide)
  refine gen_store F1 N1 G9 hL9 ?_
  intro h10 F10 N10 G10
  clear F1 N1 G9
  k_steps
  refine gen_assign rfl (by show dp + 1 < recursionLimit; omega) (by show dp + 1 + 1 ≤ recursionLimit - 3; omega) (by show un + 3 + 4 ≤ cLine - 31; omega) (G10.frame (h' := h10) (fun _ _ _ e => e) (Nat.le_refl _)) hb9 (by rfl) (by rfl) ?_
  intro h11 gs11 tk11 vs11 k11 hb11 hl11 hp11
  obtain ⟨F11, N11⟩ := gen_kept F0 N0 F10 N10 (fun q hq => by
    simp only [List.mem_cons, List.not_mem_nil, or_false] at hq
    rcases hq with rfl | rfl | rfl | rfl | rfl <;> exact ⟨_, by k_mem⟩) k11
  obtain ⟨v0, v1, v2, v3, v4, rfl⟩ := list5 hl11
  have gp : ∀ (j : Nat) (y : Value), [v0, v1, v2, v3, v4][j]? = some y → ∃ (t : Tok) (g : Nat), y = .int (g : Int) t ∧ g < 16 ∧ g = frP ns / 2 ^ ((4 - j) * 4) % 16 := fun j y hj => by
    obtain ⟨t, e⟩ := hp11 j y hj
    refine ⟨t, _, e, ?_, ?_⟩
    · exact Nat.mod_lt _ (by decide)
    · rw [Int.toNat_natCast]
      show _ / 2 ^ ((5 - 1 - j) * 4) % 16 = _
      have e2 : List.take (min (Int.toNat (2 + 2)) ns.length - 2) (List.drop 2 ns) = (ns.drop 2).take 2 := by
        rw [show Int.toNat (2 + 2) = 4 from rfl, Nat.min_eq_left (by omega)]
      rw [e2]; rfl
  obtain ⟨u0, g0, rfl, l0, e0⟩ := gp 0 _ rfl
  obtain ⟨u1, g1, rfl, l1', e1⟩ := gp 1 _ rfl
  obtain ⟨u2, g2, rfl, l2', e2⟩ := gp 2 _ rfl
  obtain ⟨u3, g3, rfl, l3', e3⟩ := gp 3 _ rfl
  obtain ⟨u4, g4, rfl, l4', e4⟩ := gp 4 _ rfl
  clear gp hp11 hl11 k11 F0 N0 F10 N10 G10 hx9 hP9 kt9
  k_steps
  · exact rai (.inr (by show frP ns / 2 ^ ((4 - 2) * 4) % 16 < frP ns / 2 ^ ((4 - 1) * 4) % 16; rw [← e2, ← e1]; omega)) _ _ _ _ _ ps9 _ (raised_sub (by assumption) (fun q hq => by
      simp only [List.mem_cons, List.mem_append] at hq ⊢
      rcases hq with rfl | rfl | hq
      · simp
      · simp
      · simp [hq])) htr9 hb11 (by assumption)
  · rename (polymod _ == 1) = _ => hv9
    rw [fr_c2] at hv9
    rename Heap.get? _ _ = some (dictOf _ 9) => hd9
    rw [fr_c1, fr_c2, fr_c3] at hd9
    have hgg : frG ns 1 ≤ frG ns 2 := by show frP ns / 2 ^ ((4 - 1) * 4) % 16 ≤ frP ns / 2 ^ ((4 - 2) * 4) % 16; rw [← e2, ← e1]; omega
    subst e0; subst e1; subst e2; subst e3; subst e4
    have hV : ofWords (List.map Int.toNat (List.take (ns.length - 3 - (2 + 2 : Int).toNat) (List.drop (2 + 2 : Int).toNat ns))) = frV ns := by
      rw [show (2 + 2 : Int).toNat = 4 from rfl, show ns.length - 3 - 4 = ns.length - 7 by omega]
    rename KBw.bInts _ = _ => hb9'
    rename Array.size _ = _ => hz9'
    rw [hV, hlV, show ((ns.length - 7 : Nat) : Int) = (ns.length : Int) - 7 by omega] at hb9'
    rw [hlV, show ((ns.length - 7 : Nat) : Int) = (ns.length : Int) - 7 by omega] at hz9'
    rename News _ _ _ _ => NE
    rename Fr _ _ _ _ => FE
    refine ret (beq_iff_eq.mp hv9) hgg _ _ _ _ ps9 gs11 _ _ _ _ _ _ _ _ _ _ _ _ _ _ _ _ _ _ (fun b o n1 n2 e => FE.keep b o (hid2_get e n1 n2)) (NE.get (by k_mem)) htr9 (NE.get (by k_mem)) hb11 ?_ (by assumption) (by assumption) hd9 hb9' hz9'
    have := FE.above
    rw [hideAll_size] at this
    exact Nat.le_trans this (Nat.le_of_lt (by assumption))

end Mine
end
section
open PySem PySem.W PyProof.Rows PySem.Calls
namespace Mine
theorem fill_LW : (fun (_ : OpenLaw) (_ : Params → Frag) => True) PySem.Challenge.rw_wx0012_02 hd.heap_39 := by
  w_top off
  k_fill
  trivial
theorem lawNum_bits {ns : List Int} {p : Int} (hlay : PyData.layable0 (.list (ns.map PyData.int)) = true) (hp : 0 ≤ p ∧ p ≤ 1000) : Builtin.Int.intBits (lawNum ns p) ≤ 67108864 := by
  unfold lawNum
  refine Nat.le_trans (PyProof.Rows.bits_add (by bits_by_make) (n := 1000) ?_) ?_
  · have h1 : (7 * p).natAbs < 2 ^ 20 := by omega
    exact Nat.le_trans (intBits_le_iff.mpr h1) (by decide)
  · decide
theorem lawnum_specB {w : World} {dp un : Nat} {fr : Option (List Env)} {gd : Option (List Code)} {s : Shared} {Q E : Value → Shared → Prop} {loose : List Str} {mean : ExcName → Option Value} {mg mb : Str → Option Value}
    (hdp : dp + 1 < recursionLimit) (hun : un + 16 < cLine)
    (X : (hd.heap_39 w.params).In s.heap) (T : Top topProg loose mean mg mb s.heap) (l : Addr) (vs : List Value) (ns : List Int) (hl : s.heap.IsList l vs.toArray) (hi : IntsAre vs ns) (hlay : PyData.layable0 (.list (ns.map PyData.int)) = true) (hlen : ns.length ≤ 63) (p : Int) (tp : Tok) (hp : 0 ≤ p ∧ p ≤ 1000)
    (ret : ∀ x h' tk t, Builtin.Int.intBits x ≤ 67108864 → Kp s.heap h' → Q (.int x t) { s with heap := h', toks := tk }) :
    wpAny (model Pg w) (Ar dp un fr gd) (call (.ref 286) [.ref l, .int p tp]) Q E s :=
  lawnum_spec hdp hun X T l vs ns hl hi hlen p tp hp fun h' tk t k => ret _ h' tk t (lawNum_bits hlay hp) k
theorem mul_spread {prog : Program} {w : World} {A : Around} {E : Value → Shared → Prop} {s : Shared} {x y : Int} {t u : Tok} {Q : Value → Shared → Prop} (hx : Builtin.Int.intBits x ≤ 67108864) (hy : Builtin.Int.intBits y ≤ 300) (h : ∀ t', Q (.int (x * y) t') { s with toks := s.toks + 1 }) :
    wpAny (model prog w) A (binaryOp .Mult (.int x t) (.int y u)) Q E s := by
  refine mul_int (h _) (PyProof.Rows.mulOk_of_bits hx hy (by decide))

end Mine
end
section
open PySem PySem.W PyProof.Rows PySem.Calls
namespace Mine
theorem fill_PD : (fun (_ : OpenLaw) (_ : Params → Frag) => True) PySem.Challenge.rw_wx0012_02 hd.heap_39 := by
  w_top off
  k_fill
  trivial
structure RowOk (rr : List Int) (i1 i2 i3 i4 i5 i6 i7 : Int) (e1 : Bool) (b : Array UInt8) : Prop where
  bd : ∀ x ∈ rr, 0 ≤ x ∧ x < 1024
  lo : 20 ≤ rr.length
  hi : rr.length ≤ 33
  pad : ¬ 8 < (10 * ((rr.length : Int) - 7)).fmod 16
  chk : polymod ((KBw.bInts (cust e1) ++ rr).map Int.toNat) = 1
  ext : frX rr = e1
  id : ((frW rr / 32 : Nat) : Int) = i1
  ie : ((frW rr % 16 : Nat) : Int) = i2
  g0 : ((frG rr 0 : Nat) : Int) = i3
  g1 : ((frG rr 1 : Nat) : Int) + 1 = i4
  g2 : ((frG rr 2 : Nat) : Int) + 1 = i5
  g3 : ((frG rr 3 : Nat) : Int) = i6
  g4 : ((frG rr 4 : Nat) : Int) + 1 = i7
  vlt : ((ofWords (List.map Int.toNat (List.take (rr.length - 3 - (2 + 2 : Int).toNat) (List.drop (2 + 2 : Int).toNat rr))) : Nat) : Int) < 256 ^ ((10 * ((List.take (rr.length - 3 - (2 + 2 : Int).toNat) (List.drop (2 + 2 : Int).toNat rr)).length : Int) - (10 * ((rr.length : Int) - 7)).fmod 16 + 8 - 1) / 8).toNat
  vb : ∀ b' : Array UInt8, KBw.bInts b' = (KTBy.little (frN rr) ((frV rr : Nat) : Int)).reverse → b' = b
def diffs (a b : List Int) : Nat := ((a.zip b).filter fun p => p.1 != p.2).length
structure Near (n : Nat) (rr zs : List Int) : Prop where
  len : zs.length = rr.length
  bd : ∀ x ∈ zs, 0 ≤ x ∧ x < 1024
  df : diffs rr zs ≤ n
  fl : zs.getD 1 0 / 16 % 2 = rr.getD 1 0 / 16 % 2
theorem diffs_self (a : List Int) : diffs a a = 0 := by
  unfold diffs
  induction a with
  | nil => rfl
  | cons x r ih => simp only [List.zip_cons_cons, List.filter_cons, bne_self_eq_false, Bool.false_eq_true, if_false]; exact ih
theorem diffs_set : ∀ (a b : List Int) (k : Nat) (x : Int), diffs a (b.set k x) ≤ diffs a b + 1
  | [], b, k, x => by simp [diffs]
  | y :: a, [], k, x => by simp [diffs]
  | y :: a, z :: b, 0, x => by
    unfold diffs
    simp only [List.set_cons_zero, List.zip_cons_cons, List.filter_cons]
    split <;> split <;> simp <;> omega
  | y :: a, z :: b, k + 1, x => by
    have ih := diffs_set a b k x
    unfold diffs at ih ⊢
    simp only [List.set_cons_succ, List.zip_cons_cons, List.filter_cons]
    split <;> simp <;> omega
theorem near_self {rr : List Int} (hb : ∀ x ∈ rr, 0 ≤ x ∧ x < 1024) : Near 0 rr rr := ⟨rfl, hb, Nat.le_of_eq (diffs_self rr), rfl⟩
theorem near_mono {n m : Nat} {rr zs : List Int} (h : Near n rr zs) (hnm : n ≤ m) : Near m rr zs := ⟨h.len, h.bd, Nat.le_trans h.df hnm, h.fl⟩
theorem near_set {n : Nat} {rr zs : List Int} {k : Nat} {x : Int} (h : Near n rr zs) (hx : 0 ≤ x ∧ x < 1024) (hk : k = 1 → x / 16 % 2 = zs.getD 1 0 / 16 % 2) : Near (n + 1) rr (zs.set k x) := by
  refine ⟨by rw [List.length_set, h.len], ?_, Nat.le_trans (diffs_set _ _ _ _) (Nat.succ_le_succ h.df), ?_⟩
  · intro y hy
    rcases List.mem_or_eq_of_mem_set hy with q | q
    · exact h.bd y q
    · rw [q]; exact hx
  · rw [← h.fl]
    by_cases e : k = 1
    · subst e
      by_cases hl : 1 < zs.length
      · rw [List.getD_eq_getElem?_getD, List.getElem?_set_self hl]
        exact hk rfl
      · rw [List.set_eq_of_length_le (by omega)]
    · rw [List.getD_eq_getElem?_getD, List.getElem?_set_ne e, ← List.getD_eq_getElem?_getD]
theorem bd_getD {ns : List Int} {k : Nat} (h : ∀ y ∈ ns, 0 ≤ y ∧ y < 1024) : 0 ≤ ns.getD k 0 ∧ ns.getD k 0 < 1024 := by
  rw [List.getD_eq_getElem?_getD]
  cases e : ns[k]? with
  | none => exact ⟨by decide, by decide⟩
  | some x => exact h x (List.mem_of_getElem? e)
theorem near_swap {rr : List Int} {a b : Nat} (hb : ∀ x ∈ rr, 0 ≤ x ∧ x < 1024) (ha : 2 ≤ a) (hb' : 2 ≤ b) : Near 3 rr ((rr.set a (rr.getD b 0)).set b (rr.getD a 0)) :=
  near_mono (near_set (near_set (near_self hb) (bd_getD hb) (by omega)) (bd_getD hb) (by omega)) (by decide)
theorem near_swapI {rr : List Int} {p q : Int} (hb : ∀ x ∈ rr, 0 ≤ x ∧ x < 1024) (hp : 0 ≤ p) (hq : 0 ≤ q) : Near 3 rr ((rr.set (2 + p).toNat (rr.getD (2 + q).toNat 0)).set (2 + q).toNat (rr.getD (2 + p).toNat 0)) :=
  near_swap hb (by omega) (by omega)

end Mine
end
section
open PySem PyProof.Rows
namespace Mine
def xt (a : Nat) : Nat := (2 * a % 1024) ^^^ (a / 512 % 2 * 9)
def it : Nat → Nat → Nat
  | 0, a => a
  | n + 1, a => it n (xt a)
def gx (b : Nat) : Nat := pmInner b 10 0
theorem xeq {a b : Nat} (h : a ^^^ b = 0) : a = b := by
  have := congrArg (· ^^^ b) h
  simpa [Nat.xor_assoc] using this
theorem two_xor (a b : Nat) : 2 * (a ^^^ b) = (2 * a) ^^^ (2 * b) := by
  have h := Nat.shiftLeft_xor_distrib (a := a) (b := b) (i := 1)
  simpa [Nat.shiftLeft_eq, Nat.mul_comm] using h
theorem xt_xor (a b : Nat) : xt (a ^^^ b) = xt a ^^^ xt b := by
  unfold xt
  have e1 : 2 * (a ^^^ b) % 1024 = (2 * a % 1024) ^^^ (2 * b % 1024) := by
    rw [two_xor, show 1024 = 2 ^ 10 from rfl, Nat.xor_mod_two_pow]
  have e2 : (a ^^^ b) / 512 % 2 * 9 = (a / 512 % 2 * 9) ^^^ (b / 512 % 2 * 9) := by
    rw [show 512 = 2 ^ 9 from rfl, Nat.xor_div_two_pow]
    have h := Nat.xor_mod_two_pow (a := a / 2 ^ 9) (b := b / 2 ^ 9) (n := 1)
    rw [show 2 ^ 1 = 2 from rfl] at h
    rw [h]
    rcases Nat.mod_two_eq_zero_or_one (a / 2 ^ 9) with p | p <;> rcases Nat.mod_two_eq_zero_or_one (b / 2 ^ 9) with q | q <;> rw [p, q] <;> decide
  rw [e1, e2]
  ac_rfl
theorem it_xor : ∀ (n a b : Nat), it n (a ^^^ b) = it n a ^^^ it n b
  | 0, _, _ => rfl
  | n + 1, a, b => by show it n (xt (a ^^^ b)) = it n (xt a) ^^^ it n (xt b); rw [xt_xor, it_xor n]
theorem it_zero : ∀ n, it n 0 = 0
  | 0 => rfl
  | n + 1 => by show it n (xt 0) = 0; rw [show xt 0 = 0 by decide, it_zero n]
theorem it_it : ∀ (m n a : Nat), it n (it m a) = it (m + n) a
  | 0, n, a => by rw [Nat.zero_add]; rfl
  | m + 1, n, a => by
    show it n (it m (xt a)) = _
    rw [it_it m n, show m + 1 + n = (m + n) + 1 by omega]; rfl
theorem xt_lt (a : Nat) : xt a < 1024 := by
  unfold xt
  exact Nat.xor_lt_two_pow (n := 10) (Nat.mod_lt _ (by decide)) (by omega)
theorem it_lt : ∀ (n a : Nat), a < 1024 → it n a < 1024
  | 0, _, h => h
  | n + 1, a, _ => it_lt n (xt a) (xt_lt a)
theorem xt_ne {a : Nat} (ha : a < 1024) (h : xt a = 0) : a = 0 := by
  unfold xt at h
  have h1 : 2 * a % 1024 = a / 512 % 2 * 9 := by
    exact xeq h
  omega
theorem it_ne : ∀ {n a : Nat}, a < 1024 → it n a = 0 → a = 0
  | 0, _, _, h => h
  | n + 1, a, ha, h => xt_ne ha (it_ne (n := n) (xt_lt a) h)
def noFix : Nat → Nat → Nat → Bool
  | 0, _, _ => true
  | n + 1, w, a => (let b := xt a; b != w && noFix n w b)
theorem noFix_at : ∀ (n w a : Nat), noFix n w a = true → ∀ k, 1 ≤ k → k ≤ n → it k a ≠ w
  | 0, _, _, _, k, h1, h2 => by omega
  | n + 1, w, a, h, k, h1, h2 => by
    unfold noFix at h
    simp only [Bool.and_eq_true, bne_iff_ne, ne_eq] at h
    obtain ⟨j, rfl⟩ : ∃ j, k = j + 1 := ⟨k - 1, by omega⟩
    show it j (xt a) ≠ w
    by_cases hj : j = 0
    · subst hj; exact h.1
    · exact noFix_at n w (xt a) h.2 j (by omega) (by omega)
theorem noFix_all : ((List.range 16).all fun j => (List.range 64).all fun w => noFix 49 (64 * j + w + 1) (64 * j + w + 1) || 64 * j + w + 1 == 1024) = true := by decide +kernel
theorem no_fix {k w : Nat} (hk : 1 ≤ k) (hk2 : k ≤ 49) (hw : w < 1024) (h : it k w ^^^ w = 0) : w = 0 := by
  by_cases h0 : w = 0
  · exact h0
  · exfalso
    have hall := noFix_all
    rw [List.all_eq_true] at hall
    have h1 := hall ((w - 1) / 64) (List.mem_range.mpr (by omega))
    rw [List.all_eq_true] at h1
    have h2 := h1 ((w - 1) % 64) (List.mem_range.mpr (Nat.mod_lt _ (by decide)))
    rw [show 64 * ((w - 1) / 64) + (w - 1) % 64 + 1 = w by omega] at h2
    rcases Bool.or_eq_true_iff.mp h2 with h3 | h3
    · exact noFix_at 49 w w h3 k hk hk2 (xeq h)
    · rw [beq_iff_eq] at h3; omega
def chkG (i : Nat) (lo : Nat) : Bool := (List.range 64).all fun k => it (3 * i) (lo + k) == ((it (2 * i) (gx (lo + k) / 1048576) ^^^ it i (gx (lo + k) / 1024 % 1024)) ^^^ (gx (lo + k) % 1024))
theorem chk1 : ((List.range 16).all fun j => chkG 1 (64 * j)) = true := by decide +kernel
theorem chk2 : ((List.range 16).all fun j => chkG 2 (64 * j)) = true := by decide +kernel
theorem chk3 : ((List.range 16).all fun j => chkG 3 (64 * j)) = true := by decide +kernel
theorem chk_at {i : Nat} (h : ((List.range 16).all fun j => chkG i (64 * j)) = true) {b : Nat} (hb : b < 1024) : it (3 * i) b = (it (2 * i) (gx b / 1048576) ^^^ it i (gx b / 1024 % 1024)) ^^^ (gx b % 1024) := by
  rw [List.all_eq_true] at h
  have h1 := h (b / 64) (List.mem_range.mpr (by omega))
  unfold chkG at h1
  rw [List.all_eq_true] at h1
  have h2 := h1 (b % 64) (List.mem_range.mpr (Nat.mod_lt _ (by decide)))
  rw [show 64 * (b / 64) + b % 64 = b by omega, beq_iff_eq] at h2
  exact h2
theorem pmInner_gx (b : Nat) : ∀ k c, pmInner b k c = pmInner b k 0 ^^^ c
  | 0, c => by show c = 0 ^^^ c; simp
  | k + 1, c => by
    show pmInner b k c ^^^ _ = (pmInner b k 0 ^^^ _) ^^^ c
    rw [pmInner_gx b k c]
    ac_rfl
def ev (i c : Nat) : Nat := (it (2 * i) (c / 1048576) ^^^ it i (c / 1024 % 1024)) ^^^ (c % 1024)
theorem gx_lt (b : Nat) : gx b < 1073741824 := pmInner_lt b 10 0 (by decide)
theorem ev_step {i : Nat} (hi : ((List.range 16).all fun j => chkG i (64 * j)) = true) {c v : Nat} (hc : c < 1073741824) (hv : v < 1024) : ev i (pmStep c v) = it i (ev i c) ^^^ v := by
  have e : pmStep c v = gx (c / 1048576) ^^^ ((c % 1048576 * 1024) ^^^ v) := pmInner_gx _ 10 _
  have hb : c / 1048576 < 1024 := by omega
  have hG := chk_at hi hb
  generalize hg : gx (c / 1048576) = g at e hG
  generalize hbb : c / 1048576 = b at hG
  have a1 : pmStep c v / 1048576 = g / 1048576 ^^^ c / 1024 % 1024 := by
    rw [e, show 1048576 = 2 ^ 20 from rfl, Nat.xor_div_two_pow, Nat.xor_div_two_pow, show v / 2 ^ 20 = 0 by omega, Nat.xor_zero]
    congr 1
    omega
  have a2 : pmStep c v / 1024 % 1024 = (g / 1024 % 1024) ^^^ (c % 1024) := by
    rw [e]
    have h1 : (g ^^^ ((c % 1048576 * 1024) ^^^ v)) / 1024 = g / 1024 ^^^ ((c % 1048576 * 1024) / 1024 ^^^ v / 1024) := by
      rw [show 1024 = 2 ^ 10 from rfl, Nat.xor_div_two_pow, Nat.xor_div_two_pow]
    rw [h1, show v / 1024 = 0 by omega, Nat.xor_zero, show 1024 = 2 ^ 10 from rfl, Nat.xor_mod_two_pow]
    congr 1
    omega
  have a3 : pmStep c v % 1024 = (g % 1024) ^^^ v := by
    rw [e, show 1024 = 2 ^ 10 from rfl, Nat.xor_mod_two_pow, Nat.xor_mod_two_pow]
    congr 1
    rw [show c % 1048576 * 2 ^ 10 % 2 ^ 10 = 0 by omega, Nat.zero_xor]
    omega
  unfold ev
  rw [a1, a2, a3, hbb, it_xor, it_xor, it_xor, it_xor, it_it, it_it, show 2 * i + i = 3 * i by omega, hG, show i + i = 2 * i by omega]
  ac_rfl
def syn (i : Nat) (s : Nat) (vs : List Nat) : Nat := vs.foldl (fun s v => it i s ^^^ v) s
theorem ev_fold {i : Nat} (hi : ((List.range 16).all fun j => chkG i (64 * j)) = true) : ∀ (vs : List Nat) (c : Nat), c < 1073741824 → (∀ v ∈ vs, v < 1024) → ev i (vs.foldl pmStep c) = syn i (ev i c) vs
  | [], _, _, _ => rfl
  | v :: vs, c, hc, h => by
    show ev i (vs.foldl pmStep (pmStep c v)) = syn i (it i (ev i c) ^^^ v) vs
    rw [ev_fold hi vs _ (pmStep_lt (h v (by simp))) (fun w hw => h w (by simp [hw])), ev_step hi hc (h v (by simp))]
theorem syn_xor (i : Nat) : ∀ (as bs : List Nat) (s t : Nat), as.length = bs.length → syn i s as ^^^ syn i t bs = syn i (s ^^^ t) (List.zipWith (· ^^^ ·) as bs)
  | [], [], _, _, _ => rfl
  | [], _ :: _, _, _, h => by simp at h
  | _ :: _, [], _, _, h => by simp at h
  | a :: as, b :: bs, s, t, h => by
    show syn i (it i s ^^^ a) as ^^^ syn i (it i t ^^^ b) bs = syn i (it i (s ^^^ t) ^^^ (a ^^^ b)) (List.zipWith (· ^^^ ·) as bs)
    rw [syn_xor i as bs _ _ (by simpa using h), it_xor]
    congr 1
    ac_rfl
def terms : List Nat → List (Nat × Nat)
  | [] => []
  | d :: ds => if d = 0 then terms ds else (ds.length, d) :: terms ds
def sumT (i : Nat) : List (Nat × Nat) → Nat
  | [] => 0
  | p :: r => it (i * p.1) p.2 ^^^ sumT i r
theorem syn_split (i : Nat) : ∀ (ds : List Nat) (s : Nat), syn i s ds = it (i * ds.length) s ^^^ syn i 0 ds
  | [], s => by show s = it (i * 0) s ^^^ 0; rw [Nat.mul_zero, Nat.xor_zero]; rfl
  | d :: ds, s => by
    show syn i (it i s ^^^ d) ds = _ ^^^ syn i (it i 0 ^^^ d) ds
    rw [syn_split i ds (it i s ^^^ d), syn_split i ds (it i 0 ^^^ d), it_zero, Nat.zero_xor, it_xor, it_it, List.length_cons, show i + i * ds.length = i * (ds.length + 1) by rw [Nat.mul_succ]; omega]
    ac_rfl
theorem syn_terms (i : Nat) : ∀ ds : List Nat, syn i 0 ds = sumT i (terms ds)
  | [] => rfl
  | d :: ds => by
    show syn i (it i 0 ^^^ d) ds = _
    rw [it_zero, Nat.zero_xor, syn_split i ds d, syn_terms i ds]
    show _ = sumT i (if d = 0 then terms ds else (ds.length, d) :: terms ds)
    by_cases h : d = 0
    · rw [if_pos h, h, it_zero, Nat.zero_xor]
    · rw [if_neg h]; rfl
theorem two_far {i p q x y : Nat} (hpq : q < p) (hp : p ≤ q + 49) (hx : x < 1024) (hy : y < 1024) (h1 : it (i * p) x ^^^ it (i * q) y = 0) (h2 : it ((i + 1) * p) x ^^^ it ((i + 1) * q) y = 0) : x = 0 ∧ y = 0 := by
  have a1 : it (i * p + p) x ^^^ it (i * q + p) y = 0 := by
    have := congrArg (it p) h1
    rwa [it_zero, it_xor, it_it, it_it] at this
  have a2 : it ((i + 1) * q) (it (p - q) y ^^^ y) = 0 := by
    rw [it_xor, it_it, show p - q + (i + 1) * q = i * q + p by rw [Nat.succ_mul]; omega]
    rw [show (i + 1) * p = i * p + p by rw [Nat.succ_mul]] at h2
    rw [← xeq a1, xeq h2, Nat.xor_self]
  have hy0 : y = 0 := no_fix (k := p - q) (by omega) (by omega) hy (it_ne (Nat.xor_lt_two_pow (n := 10) (it_lt _ _ hy) hy) a2)
  subst hy0
  rw [it_zero, Nat.xor_zero] at h1
  exact ⟨it_ne hx h1, rfl⟩
theorem three_far {p q r x y z : Nat} (hpq : q < p) (hqr : r < q) (hp : p ≤ r + 49) (hx : x < 1024) (hy : y < 1024) (hz : z < 1024) (h1 : it (1 * p) x ^^^ (it (1 * q) y ^^^ it (1 * r) z) = 0) (h2 : it (2 * p) x ^^^ (it (2 * q) y ^^^ it (2 * r) z) = 0) (h3 : it (3 * p) x ^^^ (it (3 * q) y ^^^ it (3 * r) z) = 0) : y = 0 ∧ z = 0 := by
  have hy' : it (p - q) y ^^^ y < 1024 := Nat.xor_lt_two_pow (n := 10) (it_lt _ _ hy) hy
  have hz' : it (p - r) z ^^^ z < 1024 := Nat.xor_lt_two_pow (n := 10) (it_lt _ _ hz) hz
  have g : ∀ i, it (i * p) x ^^^ (it (i * q) y ^^^ it (i * r) z) = 0 → it ((i + 1) * p) x ^^^ (it ((i + 1) * q) y ^^^ it ((i + 1) * r) z) = 0 → it ((i + 1) * q) (it (p - q) y ^^^ y) ^^^ it ((i + 1) * r) (it (p - r) z ^^^ z) = 0 := by
    intro i e1 e2
    have a1 : it (i * p + p) x ^^^ (it (i * q + p) y ^^^ it (i * r + p) z) = 0 := by
      have := congrArg (it p) e1
      rwa [it_zero, it_xor, it_xor, it_it, it_it, it_it] at this
    rw [show (i + 1) * p = i * p + p by rw [Nat.succ_mul]] at e2
    have e3 := (xeq a1).symm.trans (xeq e2)
    rw [it_xor, it_xor, it_it, it_it, show p - q + (i + 1) * q = i * q + p by rw [Nat.succ_mul]; omega, show p - r + (i + 1) * r = i * r + p by rw [Nat.succ_mul]; omega]
    have e4 : (it (i * q + p) y ^^^ it ((i + 1) * q) y) ^^^ (it (i * r + p) z ^^^ it ((i + 1) * r) z) = (it (i * q + p) y ^^^ it (i * r + p) z) ^^^ (it ((i + 1) * q) y ^^^ it ((i + 1) * r) z) := by ac_rfl
    rw [e4, e3, Nat.xor_self]
  have := two_far (i := 2) hqr (by omega) hy' hz' (g 1 h1 h2) (g 2 h2 h3)
  exact ⟨no_fix (by omega) (by omega) hy this.1, no_fix (by omega) (by omega) hz this.2⟩
theorem terms_mem : ∀ {ds : List Nat}, (∀ d ∈ ds, d < 1024) → ∀ p ∈ terms ds, p.1 < ds.length ∧ p.2 ≠ 0 ∧ p.2 < 1024
  | [], _, p, hp => nomatch hp
  | d :: ds, h, p, hp => by
    have ih := terms_mem (ds := ds) (fun x hx => h x (by simp [hx])) p
    unfold terms at hp
    split at hp
    · have := ih hp; exact ⟨by simp; omega, this.2⟩
    · rename_i hd
      rcases List.mem_cons.mp hp with rfl | hp
      · exact ⟨by simp, hd, h _ (by simp)⟩
      · have := ih hp; exact ⟨by simp; omega, this.2⟩
theorem terms_desc : ∀ {ds : List Nat} {p q : Nat × Nat} {r : List (Nat × Nat)} {a : List (Nat × Nat)}, terms ds = a ++ p :: q :: r → q.1 < p.1
  | [], p, q, r, a, h => by simp [terms] at h
  | d :: ds, p, q, r, a, h => by
    unfold terms at h
    split at h
    · exact terms_desc h
    · cases a with
      | nil =>
        simp only [List.nil_append, List.cons.injEq] at h
        obtain ⟨h1, h2⟩ := h
        subst h1
        have hm : ∀ {ds : List Nat}, ∀ z ∈ terms ds, z.1 < ds.length := by
          intro ds
          induction ds with
          | nil => intro z hz; cases hz
          | cons d ds ih =>
            intro z hz
            unfold terms at hz
            split at hz
            · have := ih z hz; simp; omega
            · rcases List.mem_cons.mp hz with rfl | hz
              · simp
              · have := ih z hz; simp; omega
        exact hm q (by rw [h2]; simp)
      | cons b a =>
        simp only [List.cons_append, List.cons.injEq] at h
        exact terms_desc h.2
theorem terms_len : ∀ ds : List Nat, (terms ds).length = (ds.filter (· != 0)).length
  | [] => rfl
  | d :: ds => by
    unfold terms
    rw [List.filter_cons]
    by_cases h : d = 0
    · rw [if_pos h, if_neg (by simp [h]), terms_len ds]
    · rw [if_neg h, if_pos (by simp [h]), List.length_cons, List.length_cons, terms_len ds]
theorem far_zero {ds : List Nat} (hb : ∀ d ∈ ds, d < 1024) (hl : ds.length ≤ 50) (hn : (ds.filter (· != 0)).length ≤ 3) (h1 : syn 1 0 ds = 0) (h2 : syn 2 0 ds = 0) (h3 : syn 3 0 ds = 0) : terms ds = [] := by
  rw [syn_terms] at h1 h2 h3
  have hm := terms_mem hb
  have hlen := terms_len ds
  rw [← hlen] at hn
  have hd := @terms_desc ds
  generalize terms ds = T at h1 h2 h3 hm hn hd
  match T with
  | [] => rfl
  | [a] =>
    exfalso
    have m := hm a (by simp)
    simp only [sumT, Nat.xor_zero] at h1
    exact m.2.1 (it_ne m.2.2 h1)
  | [a, b] =>
    exfalso
    have m := hm a (by simp)
    have n := hm b (by simp)
    have d := hd (p := a) (q := b) (r := []) (a := []) rfl
    simp only [sumT, Nat.xor_zero] at h1 h2
    exact m.2.1 (two_far (i := 1) d (by omega) m.2.2 n.2.2 h1 h2).1
  | [a, b, c] =>
    exfalso
    have m := hm a (by simp)
    have n := hm b (by simp)
    have o := hm c (by simp)
    have d := hd (p := a) (q := b) (r := [c]) (a := []) rfl
    have d' := hd (p := b) (q := c) (r := []) (a := [a]) rfl
    simp only [sumT, Nat.xor_zero] at h1 h2 h3
    exact n.2.1 (three_far d d' (by omega) m.2.2 n.2.2 o.2.2 h1 h2 h3).1
  | a :: b :: c :: d :: r => simp at hn
theorem terms_nil : ∀ {ds : List Nat}, terms ds = [] → ∀ d ∈ ds, d = 0
  | [], _, d, hd => nomatch hd
  | x :: ds, h, d, hd => by
    unfold terms at h
    split at h
    · rename_i hx
      rcases List.mem_cons.mp hd with rfl | hd
      · exact hx
      · exact terms_nil h d hd
    · cases h
/-- two rows behind the same opening that both hold, of the same length and unlike at three places at most, are the same -/
theorem rs_far {pre as bs : List Nat} (hp : ∀ v ∈ pre, v < 1024) (ha : ∀ v ∈ as, v < 1024) (hb : ∀ v ∈ bs, v < 1024) (hl : as.length = bs.length) (h50 : as.length ≤ 50) (hn : ((List.zipWith (· ^^^ ·) as bs).filter (· != 0)).length ≤ 3)
    (e1 : polymod (pre ++ as) = 1) (e2 : polymod (pre ++ bs) = 1) : as = bs := by
  have hs : polymod pre < 1073741824 := polymod_lt hp
  have key : ∀ i, ((List.range 16).all fun j => chkG i (64 * j)) = true → syn i 0 (List.zipWith (· ^^^ ·) as bs) = 0 := by
    intro i hi
    have a1 : ev i 1 = syn i (ev i (polymod pre)) as := by
      rw [← ev_fold hi as _ hs ha, ← e1]; unfold polymod; rw [List.foldl_append]
    have a2 : ev i 1 = syn i (ev i (polymod pre)) bs := by
      rw [← ev_fold hi bs _ hs hb, ← e2]; unfold polymod; rw [List.foldl_append]
    have a3 := syn_xor i as bs (ev i (polymod pre)) (ev i (polymod pre)) hl
    rw [← a1, ← a2, Nat.xor_self, Nat.xor_self] at a3
    exact a3.symm
  have hz := terms_nil (far_zero (ds := List.zipWith (· ^^^ ·) as bs) (fun d hd => by
    obtain ⟨k, hk, rfl⟩ := List.mem_iff_getElem.mp hd
    rw [List.getElem_zipWith]
    exact Nat.xor_lt_two_pow (n := 10) (ha _ (List.getElem_mem _)) (hb _ (List.getElem_mem _))) (by simp; omega) hn (key 1 chk1) (key 2 chk2) (key 3 chk3))
  refine List.ext_getElem hl fun k h1 h2 => ?_
  have h := hz (as[k] ^^^ bs[k]) (by
    rw [List.mem_iff_getElem]
    exact ⟨k, by simp; omega, by simp⟩)
  exact xeq h
end Mine
end
section
open PySem PySem.W PyProof.Rows PySem.Calls
namespace Mine
theorem fill_PE : (fun (_ : OpenLaw) (_ : Params → Frag) => True) PySem.Challenge.rw_wx0012_02 hd.heap_39 := by
  w_top off
  k_fill
  trivial
theorem ofw_snoc (l : List Nat) (x : Nat) : ofWords (l ++ [x]) = ofWords l * 1024 + x := by simp [ofWords]
theorem tw_succ (v n : Nat) : toWords v (n + 1) = toWords (v / 1024) n ++ [v % 1024] := by
  unfold toWords
  rw [List.range_succ, List.map_append]
  congr 1
  · apply List.map_congr_left
    intro j hj
    have hj' := List.mem_range.mp hj
    obtain ⟨k, hk⟩ : ∃ k, n - 1 - j = k := ⟨_, rfl⟩
    rw [show n + 1 - 1 - j = k + 1 by omega, hk, Nat.div_div_eq_div_mul, Nat.succ_mul, Nat.pow_add, Nat.mul_comm 1024]
  · simp
theorem ofw_tw : ∀ (n v : Nat), ofWords (toWords v n) = v % 1024 ^ n
  | 0, v => by simp [toWords, ofWords, Nat.mod_one]
  | n + 1, v => by
    rw [tw_succ, ofw_snoc, ofw_tw n, Nat.pow_succ, Nat.mul_comm (1024 ^ n), Nat.mod_mul, Nat.mul_comm]
    omega
theorem mul_xor (a b : Nat) : (a ^^^ b) * 1024 = (a * 1024) ^^^ (b * 1024) := by
  have h := Nat.shiftLeft_xor_distrib (a := a) (b := b) (i := 10)
  simpa [Nat.shiftLeft_eq] using h
theorem glue10 (x : Nat) {y : Nat} (hy : y < 1024) : (x * 1024) ^^^ y = x * 1024 + y := by
  have h1 : ((x * 1024) ^^^ y) / 1024 = x := by
    rw [show (1024 : Nat) = 2 ^ 10 from rfl, Nat.xor_div_two_pow, show y / 2 ^ 10 = 0 by omega, Nat.xor_zero]; omega
  have h2 : ((x * 1024) ^^^ y) % 1024 = y := by
    rw [show (1024 : Nat) = 2 ^ 10 from rfl, Nat.xor_mod_two_pow, show x * 2 ^ 10 % 2 ^ 10 = 0 by omega, Nat.zero_xor]; omega
  omega
theorem pm_u (c u v : Nat) (hu : u < 1048576) : pmStep (c ^^^ u) v = pmStep c 0 ^^^ ((u * 1024) ^^^ v) := by
  have e1 : pmStep (c ^^^ u) v = gx ((c ^^^ u) / 1048576) ^^^ (((c ^^^ u) % 1048576 * 1024) ^^^ v) := pmInner_gx _ 10 _
  have e2 : pmStep c 0 = gx (c / 1048576) ^^^ ((c % 1048576 * 1024) ^^^ 0) := pmInner_gx _ 10 _
  have a1 : (c ^^^ u) / 1048576 = c / 1048576 := by
    rw [show (1048576 : Nat) = 2 ^ 20 from rfl, Nat.xor_div_two_pow, show u / 2 ^ 20 = 0 by omega, Nat.xor_zero]
  have a2 : (c ^^^ u) % 1048576 = (c % 1048576) ^^^ u := by
    rw [show (1048576 : Nat) = 2 ^ 20 from rfl, Nat.xor_mod_two_pow]
    congr 1; omega
  rw [e1, e2, a1, a2, mul_xor, Nat.xor_zero]
  ac_rfl
theorem chk_ok {xs : List Nat} (hb : ∀ v ∈ xs, v < 1024) : polymod (xs ++ chk xs) = 1 := by
  have hz : polymod (xs ++ [0, 0, 0]) = pmStep (pmStep (pmStep (polymod xs) 0) 0) 0 := by simp [polymod]
  have hP : polymod (xs ++ [0, 0, 0]) < 1073741824 := polymod_lt (fun v hv => by
    rcases List.mem_append.mp hv with h | h
    · exact hb v h
    · simp at h; omega)
  generalize hq : polymod xs = q at hz
  unfold chk
  generalize polymod (xs ++ [0, 0, 0]) = P at hz hP
  have hp : P ^^^ 1 < 1073741824 := xor_lt30 hP (by decide)
  simp only
  generalize hpp : P ^^^ 1 = p at hp
  have e : polymod (xs ++ [p / 2 ^ 20 % 1024, p / 2 ^ 10 % 1024, p % 1024]) = pmStep (pmStep (pmStep q (p / 2 ^ 20 % 1024)) (p / 2 ^ 10 % 1024)) (p % 1024) := by
    rw [← hq]; simp [polymod]
  rw [e]
  have s1 : pmStep q (p / 2 ^ 20 % 1024) = pmStep q 0 ^^^ (p / 2 ^ 20 % 1024) := by
    have := pm_u q 0 (p / 2 ^ 20 % 1024) (by decide)
    simpa using this
  have l1 : p / 2 ^ 20 % 1024 < 1024 := Nat.mod_lt _ (by decide)
  have l2 : p / 2 ^ 10 % 1024 < 1024 := Nat.mod_lt _ (by decide)
  have l3 : p % 1024 < 1024 := Nat.mod_lt _ (by decide)
  rw [s1, pm_u _ _ _ (by omega), glue10 _ l2, pm_u _ _ _ (by omega), glue10 _ l3, ← hz]
  have hpe : (p / 2 ^ 20 % 1024 * 1024 + p / 2 ^ 10 % 1024) * 1024 + p % 1024 = p := by
    rw [show (2 : Nat) ^ 20 = 1048576 from rfl, show (2 : Nat) ^ 10 = 1024 from rfl]; omega
  rw [hpe, ← hpp, ← Nat.xor_assoc, Nat.xor_self, Nat.zero_xor]
theorem value_snoc (l : List Int) (k : Int) : KFB.value (l ++ [k]) = KFB.value l * 256 + k := by simp [KFB.value]
theorem little_value : ∀ (n : Nat) (l : List Int), l.length = n → (∀ k ∈ l, 0 ≤ k ∧ k < 256) → (KTBy.little n (KFB.value l)).reverse = l ∧ 0 ≤ KFB.value l ∧ KFB.value l < 256 ^ n
  | 0, l, h, _ => by
    have := List.eq_nil_of_length_eq_zero h
    subst this
    exact ⟨rfl, by decide, by decide⟩
  | n + 1, l, h, hb => by
    obtain ⟨l', k, rfl⟩ : ∃ l' k, l = l' ++ [k] := by
      rcases List.eq_nil_or_concat l with e | ⟨l', k, e⟩
      · subst e; simp at h
      · exact ⟨l', k, by simpa using e⟩
    have hl' : l'.length = n := by simpa using h
    have hk := hb k (by simp)
    obtain ⟨i1, i2, i3⟩ := little_value n l' hl' (fun x hx => hb x (by simp [hx]))
    rw [value_snoc]
    refine ⟨?_, by omega, ?_⟩
    · show ((KFB.value l' * 256 + k) % 256 :: KTBy.little n ((KFB.value l' * 256 + k) / 256)).reverse = _
      rw [show (KFB.value l' * 256 + k) % 256 = k by omega, show (KFB.value l' * 256 + k) / 256 = KFB.value l' by omega, List.reverse_cons, i1]
    · rw [Int.pow_succ]; omega
theorem bInts_inj {a b : Array UInt8} (h : KBw.bInts a = KBw.bInts b) : a = b := by
  have key : ∀ (x y : List UInt8), x.map (fun c => (c.toNat : Int)) = y.map (fun c => (c.toNat : Int)) → x = y := by
    intro x
    induction x with
    | nil => intro y hy; cases y with
      | nil => rfl
      | cons _ _ => simp at hy
    | cons c x ih =>
      intro y hy
      cases y with
      | nil => simp at hy
      | cons d y =>
        simp only [List.map_cons, List.cons.injEq] at hy
        have e : c = d := UInt8.toNat_inj.mp (by have := hy.1; omega)
        rw [e, ih y hy.2]
  exact Array.toList_inj.mp (key _ _ h)
theorem toNat_ofNat_map (l : List Nat) : (l.map Int.ofNat).map Int.toNat = l := by
  rw [List.map_map]
  conv => rhs; rw [← List.map_id l]
  rfl
theorem nz_le : ∀ (rr zs : List Int), (∀ x ∈ rr, 0 ≤ x ∧ x < 1024) → (∀ x ∈ zs, 0 ≤ x ∧ x < 1024) → ((List.zipWith (· ^^^ ·) (zs.map Int.toNat) (rr.map Int.toNat)).filter (· != 0)).length ≤ diffs rr zs
  | [], zs, _, _ => by simp [diffs]
  | r :: rr, [], _, _ => by simp [diffs]
  | r :: rr, z :: zs, h1, h2 => by
    have ih := nz_le rr zs (fun x hx => h1 x (by simp [hx])) (fun x hx => h2 x (by simp [hx]))
    unfold diffs at ih ⊢
    simp only [List.map_cons, List.zipWith_cons_cons, List.zip_cons_cons, List.filter_cons]
    by_cases e : r = z
    · subst e
      rw [Nat.xor_self, if_neg (by decide), if_neg (by simp)]
      exact ih
    · rw [if_pos (show (r != z) = true by simpa using e)]
      split
      · simp only [List.length_cons]; omega
      · simp only [List.length_cons]; omega
theorem frX_eq {ns : List Int} (hb : ∀ x ∈ ns, 0 ≤ x ∧ x < 1024) (hl : 2 ≤ ns.length) : frX ns = ((ns.getD 1 0 / 16 % 2).toNat == 1) := by
  match ns, hl with
  | a :: b :: r, _ =>
    have h1 := hb a (by simp)
    have h2 := hb b (by simp)
    show (ofWords [a.toNat, b.toNat] / 16 % 2 == 1) = ((b / 16 % 2).toNat == 1)
    have e : ofWords [a.toNat, b.toNat] / 16 % 2 = (b / 16 % 2).toNat := by
      show ((0 * 1024 + a.toNat) * 1024 + b.toNat) / 16 % 2 = _
      omega
    rw [e]
theorem near_far {rr zs : List Int} {i1 i2 i3 i4 i5 i6 i7 : Int} {e1 : Bool} {b : Array UInt8} (R : RowOk rr i1 i2 i3 i4 i5 i6 i7 e1 b) (h : Near 3 rr zs) (hp : polymod ((KBw.bInts (cust (frX zs)) ++ zs).map Int.toNat) = 1) : zs = rr := by
  have hx : frX zs = e1 := by
    rw [← R.ext, frX_eq h.bd (by have := h.len; have := R.lo; omega), frX_eq R.bd (by have := R.lo; omega), h.fl]
  rw [hx, List.map_append] at hp
  have hr := R.chk
  rw [List.map_append] at hr
  have e := rs_far (pre := (KBw.bInts (cust e1)).map Int.toNat) (as := zs.map Int.toNat) (bs := rr.map Int.toNat) (fun v hv => by
    obtain ⟨x, hx, rfl⟩ := List.mem_map.mp hv
    have := KBw.ints_in hx; omega) (map_nn zs h.bd) (map_nn rr R.bd) (by simp [h.len]) (by rw [List.length_map, h.len]; have := R.hi; omega)
    (Nat.le_trans (nz_le rr zs R.bd h.bd) h.df) hp hr
  refine List.ext_getElem h.len fun k h1 h2 => ?_
  have e2 : (zs.map Int.toNat)[k]? = (rr.map Int.toNat)[k]? := by rw [e]
  simp [h1, h2] at e2
  have a1 := h.bd _ (List.getElem_mem h1)
  have a2 := R.bd _ (List.getElem_mem h2)
  omega
theorem take_app2 {α : Type} {A B : List α} (h : A.length = 2) : (A ++ B).take 2 = A := by rw [← h]; exact List.take_left
theorem row_ok {i1 i2 i3 i4 i5 i6 i7 : Int} {e1 : Bool} {b : Array UInt8} {rr : List Int} (h : shareRow i1 i2 i3 i4 i5 i6 i7 e1 b = rr) (hi1 : 0 ≤ i1 ∧ i1 < 32768) (hi2 : 0 ≤ i2 ∧ i2 < 16) (hi3 : 0 ≤ i3 ∧ i3 < 16) (hi4 : 1 ≤ i4 ∧ i4 ≤ 16) (hi5 : 1 ≤ i5 ∧ i5 ≤ 16) (hi6 : 0 ≤ i6 ∧ i6 < 16) (hi7 : 1 ≤ i7 ∧ i7 ≤ 16)
    {r : Int} (hz : b.size = (16 + r * 2).toNat) (hr : 0 ≤ r ∧ r < 9) : RowOk rr i1 i2 i3 i4 i5 i6 i7 e1 b := by
  obtain ⟨v1, v2, v3⟩ := little_value b.size (KBw.bInts b) (KBw.ints_length b) (fun k hk => KBw.ints_in hk)
  have hA : ∃ A, A = List.map Int.ofNat (toWords (i1.toNat * 32 + (if e1 then 1 else 0) * 16 + i2.toNat) 2) := ⟨_, rfl⟩
  have hB : ∃ B, B = List.map Int.ofNat (toWords (((((i3 * 16 + (i4 - 1)) * 16 + (i5 - 1)) * 16 + i6) * 16 + (i7 - 1)).toNat) 2) := ⟨_, rfl⟩
  have hC : ∃ C, C = List.map Int.ofNat (toWords (KFB.value (KBw.bInts b)).toNat (((b.size : Int) * 8 + 10 - 1) / 10).toNat) := ⟨_, rfl⟩
  obtain ⟨A, hA⟩ := hA
  obtain ⟨B, hB⟩ := hB
  obtain ⟨C, hC⟩ := hC
  have lA : A.length = 2 := tw_len hA.symm
  have lB : B.length = 2 := tw_len hB.symm
  have lC : C.length = (((b.size : Int) * 8 + 10 - 1) / 10).toNat := tw_len hC.symm
  have bA := tw_bd hA.symm
  have bB := tw_bd hB.symm
  have bC := tw_bd hC.symm
  have hD : shareData i1 i2 i3 i4 i5 i6 i7 e1 b = A ++ B ++ C := by rw [hA, hB, hC]; rfl
  have bD := bnd_app (bnd_app bA bB) bC
  have hrow : rr = A ++ B ++ C ++ List.map Int.ofNat (chk (List.map Int.toNat (KBw.bInts (cust e1) ++ (A ++ B ++ C)))) := by
    rw [← h, ← hD]; rfl
  have hK : ∃ K, K = List.map Int.ofNat (chk (List.map Int.toNat (KBw.bInts (cust e1) ++ (A ++ B ++ C)))) := ⟨_, rfl⟩
  obtain ⟨K, hK⟩ := hK
  have lK : K.length = 3 := ck_len hK.symm
  have bK := ck_bd hK.symm
  have eA : ofWords (A.map Int.toNat) = i1.toNat * 32 + (if e1 then 1 else 0) * 16 + i2.toNat := by
    rw [hA, toNat_ofNat_map, ofw_tw]
    apply Nat.mod_eq_of_lt
    split <;> omega
  have eB : ofWords (B.map Int.toNat) = (((((i3 * 16 + (i4 - 1)) * 16 + (i5 - 1)) * 16 + i6) * 16 + (i7 - 1)).toNat) := by
    rw [hB, toNat_ofNat_map, ofw_tw]
    apply Nat.mod_eq_of_lt
    omega
  have hm : b.size * 8 ≤ 10 * (((b.size : Int) * 8 + 10 - 1) / 10).toNat := by omega
  have eC : ofWords (C.map Int.toNat) = (KFB.value (KBw.bInts b)).toNat := by
    rw [hC, toNat_ofNat_map, ofw_tw]
    apply Nat.mod_eq_of_lt
    have h1 : (KFB.value (KBw.bInts b)).toNat < 256 ^ b.size := by
      have : ((KFB.value (KBw.bInts b)).toNat : Int) < ((256 ^ b.size : Nat) : Int) := by
        rw [Int.toNat_of_nonneg v2]; push_cast; exact v3
      exact_mod_cast this
    refine Nat.lt_of_lt_of_le h1 ?_
    rw [show (256 : Nat) = 2 ^ 8 from rfl, show (1024 : Nat) = 2 ^ 10 from rfl, ← Nat.pow_mul, ← Nat.pow_mul]
    exact Nat.pow_le_pow_right (by decide) (by omega)
  rw [← hK] at hrow
  have lrr : rr.length = 7 + C.length := by rw [hrow]; simp [lA, lB, lK]; omega
  have hW : frW rr = i1.toNat * 32 + (if e1 then 1 else 0) * 16 + i2.toNat := by
    unfold frW
    rw [hrow, List.append_assoc, List.append_assoc, take_app2 lA, eA]
  have hP : frP rr = (((((i3 * 16 + (i4 - 1)) * 16 + (i5 - 1)) * 16 + i6) * 16 + (i7 - 1)).toNat) := by
    unfold frP
    have e : rr.drop 2 = B ++ (C ++ K) := by
      rw [hrow, List.append_assoc, List.append_assoc, ← lA, List.drop_left]
    rw [e, take_app2 lB, eB]
  have hV4 : (rr.drop 4).take (rr.length - 7) = C := by
    have e : rr.drop 4 = C ++ K := by
      rw [hrow, List.append_assoc, show 4 = (A ++ B).length by simp [lA, lB], List.drop_left]
    rw [e, lrr, show 7 + C.length - 7 = C.length by omega, List.take_left]
  have hV : frV rr = (KFB.value (KBw.bInts b)).toNat := by
    unfold frV
    rw [hV4, eC]
  have hN : frN rr = b.size := by
    unfold frN
    rw [lrr, lC]
    have hs : b.size = 16 ∨ b.size = 18 ∨ b.size = 20 ∨ b.size = 22 ∨ b.size = 24 ∨ b.size = 26 ∨ b.size = 28 ∨ b.size = 30 ∨ b.size = 32 := by omega
    rcases hs with q | q | q | q | q | q | q | q | q <;> rw [q] <;> decide
  have hpad : (10 * ((rr.length : Int) - 7)).fmod 16 ≤ 8 := by
    rw [lrr, lC]
    have hs : b.size = 16 ∨ b.size = 18 ∨ b.size = 20 ∨ b.size = 22 ∨ b.size = 24 ∨ b.size = 26 ∨ b.size = 28 ∨ b.size = 30 ∨ b.size = 32 := by omega
    rcases hs with q | q | q | q | q | q | q | q | q <;> rw [q] <;> decide
  refine ⟨?_, by omega, by omega, by omega, ?_, ?_, ?_, ?_, ?_, ?_, ?_, ?_, ?_, ?_, ?_⟩
  · rw [hrow]; exact bnd_app bD bK
  · have e : (KBw.bInts (cust e1) ++ rr).map Int.toNat = (KBw.bInts (cust e1) ++ (A ++ B ++ C)).map Int.toNat ++ chk ((KBw.bInts (cust e1) ++ (A ++ B ++ C)).map Int.toNat) := by
      rw [hrow, ← List.append_assoc, List.map_append, hK, toNat_ofNat_map]
    rw [e]
    exact chk_ok (map_nn _ (bnd_app (bnd_bytes _) bD))
  · show (frW rr / 16 % 2 == 1) = e1
    rw [hW]
    cases e1
    · rw [show (i1.toNat * 32 + (if false = true then 1 else 0) * 16 + i2.toNat) / 16 % 2 = 0 by simp; omega]; rfl
    · rw [show (i1.toNat * 32 + (if true = true then 1 else 0) * 16 + i2.toNat) / 16 % 2 = 1 by simp; omega]; rfl
  · rw [hW]; split <;> omega
  · rw [hW]; split <;> omega
  · show ((frP rr / 2 ^ ((4 - 0) * 4) % 16 : Nat) : Int) = i3
    rw [hP, show 2 ^ ((4 - 0) * 4) = 65536 from rfl]; omega
  · show ((frP rr / 2 ^ ((4 - 1) * 4) % 16 : Nat) : Int) + 1 = i4
    rw [hP, show 2 ^ ((4 - 1) * 4) = 4096 from rfl]; omega
  · show ((frP rr / 2 ^ ((4 - 2) * 4) % 16 : Nat) : Int) + 1 = i5
    rw [hP, show 2 ^ ((4 - 2) * 4) = 256 from rfl]; omega
  · show ((frP rr / 2 ^ ((4 - 3) * 4) % 16 : Nat) : Int) = i6
    rw [hP, show 2 ^ ((4 - 3) * 4) = 16 from rfl]; omega
  · show ((frP rr / 2 ^ ((4 - 4) * 4) % 16 : Nat) : Int) + 1 = i7
    rw [hP, show 2 ^ ((4 - 4) * 4) = 1 from rfl]; omega
  · have e4 : List.take (rr.length - 3 - (2 + 2 : Int).toNat) (List.drop (2 + 2 : Int).toNat rr) = C := by
      rw [show (2 + 2 : Int).toNat = 4 from rfl, show rr.length - 3 - 4 = rr.length - 7 by omega, hV4]
    rw [e4, eC]
    have e5 : ((10 * (C.length : Int) - (10 * ((rr.length : Int) - 7)).fmod 16 + 8 - 1) / 8).toNat = b.size := by
      have := hN
      unfold frN at this
      rw [← this, lrr]
      congr 2
      omega
    rw [e5, Int.toNat_of_nonneg v2]
    exact v3
  · intro b' hb'
    rw [hN, hV, Int.toNat_of_nonneg v2, v1] at hb'
    exact bInts_inj hb'

end Mine
end
section
open PySem PySem.W PyProof.Rows PySem.Calls
namespace Mine
local macro_rules | `(tactic| walk_at "pad 0") => `(tactic| skip)
local macro_rules | `(tactic| walk_at "pad 1") => `(tactic| skip)
local macro_rules | `(tactic| walk_at "pad 2") => `(tactic| skip)
local macro_rules | `(tactic| walk_at "pad 3") => `(tactic| skip)
local macro_rules | `(tactic| walk_at "pad 4") => `(tactic| skip)
local macro_rules | `(tactic| walk_at "pad 5") => `(tactic| skip)
local macro_rules | `(tactic| walk_at "pad 6") => `(tactic| skip)
local macro_rules | `(tactic| walk_at "pad 7") => `(tactic| skip)
local macro_rules | `(tactic| walk_at "pad 8") => `(tactic| skip)
local macro_rules | `(tactic| walk_at "pad 9") => `(tactic| skip)
local macro_rules | `(tactic| walk_at "pad 10") => `(tactic| skip)
local macro_rules | `(tactic| walk_at "pad 11") => `(tactic| skip)
local macro_rules | `(tactic| walk_at "pad 12") => `(tactic| skip)
local macro_rules | `(tactic| walk_at "pad 13") => `(tactic| skip)
local macro_rules | `(tactic| walk_at "pad 14") => `(tactic| skip)
local macro_rules | `(tactic| walk_at "pad 15") => `(tactic| skip)
local macro_rules | `(tactic| walk_at "pad 16") => `(tactic| skip)
local macro_rules | `(tactic| walk_at "pad 17") => `(tactic| skip)
local macro_rules | `(tactic| walk_at "pad 18") => `(tactic| skip)
local macro_rules | `(tactic| walk_at "pad 19") => `(tactic| skip)
local macro_rules | `(tactic| walk_at "pad 20") => `(tactic| skip)
local macro_rules | `(tactic| walk_at "pad 21") => `(tactic| skip)
local macro_rules | `(tactic| walk_at "pad 22") => `(tactic| skip)
local macro_rules | `(tactic| walk_at "pad 23") => `(tactic| skip)
local macro_rules | `(tactic| walk_at "pad 24") => `(tactic| skip)
local macro_rules | `(tactic| walk_at "pad 25") => `(tactic| skip)
local macro_rules | `(tactic| walk_at "pad 26") => `(tactic| skip)
local macro_rules | `(tactic| walk_at "pad 27") => `(tactic| skip)
local macro_rules | `(tactic| walk_at "pad 28") => `(tactic| skip)
local macro_rules | `(tactic| walk_at "pad 29") => `(tactic| skip)
local macro_rules | `(tactic| walk_at "pad 30") => `(tactic| skip)
local macro_rules | `(tactic| walk_at "pad 31") => `(tactic| skip)
local macro_rules | `(tactic| walk_at "pad 32") => `(tactic| skip)
local macro_rules | `(tactic| walk_at "pad 33") => `(tactic| skip)
local macro_rules | `(tactic| walk_at "pad 34") => `(tactic| skip)
local macro_rules | `(tactic| walk_at "pad 35") => `(tactic| skip)
local macro_rules | `(tactic| walk_at "pad 36") => `(tactic| skip)
local macro_rules | `(tactic| walk_at "pad 37") => `(tactic| skip)
local macro_rules | `(tactic| walk_at "pad 38") => `(tactic| skip)
local macro_rules | `(tactic| walk_at "pad 39") => `(tactic| skip)
local macro_rules | `(tactic| walk_at "pad 40") => `(tactic| skip)
local macro_rules | `(tactic| walk_at "pad 41") => `(tactic| skip)
local macro_rules | `(tactic| walk_at "pad 42") => `(tactic| skip)
local macro_rules | `(tactic| walk_at "pad 43") => `(tactic| skip)
local macro_rules | `(tactic| walk_at "pad 44") => `(tactic| skip)
local macro_rules | `(tactic| walk_at "pad 45") => `(tactic| skip)
local macro_rules | `(tactic| walk_at "pad 46") => `(tactic| skip)
local macro_rules | `(tactic| walk_at "pad 47") => `(tactic| skip)
local macro_rules | `(tactic| walk_at "pad 48") => `(tactic| skip)
local macro_rules | `(tactic| walk_at "pad 49") => `(tactic| skip)
local macro_rules | `(tactic| walk_at "pad 50") => `(tactic| skip)
local macro_rules | `(tactic| walk_at "pad 51") => `(tactic| skip)
local macro_rules | `(tactic| walk_at "pad 52") => `(tactic| skip)
local macro_rules | `(tactic| walk_at "pad 53") => `(tactic| skip)
local macro_rules | `(tactic| walk_at "pad 54") => `(tactic| skip)
local macro_rules | `(tactic| walk_at "pad 55") => `(tactic| skip)
local macro_rules | `(tactic| walk_at "pad 56") => `(tactic| skip)
local macro_rules | `(tactic| walk_at "pad 57") => `(tactic| skip)
local macro_rules | `(tactic| walk_at "pad 58") => `(tactic| skip)
local macro_rules | `(tactic| walk_at "pad 59") => `(tactic| skip)
local macro_rules | `(tactic| walk_at "pad 60") => `(tactic| skip)
local macro_rules | `(tactic| walk_at "pad 61") => `(tactic| skip)
local macro_rules | `(tactic| walk_at "pad 62") => `(tactic| skip)
local macro_rules | `(tactic| walk_at "pad 63") => `(tactic| skip)
local macro_rules | `(tactic| walk_at "pad 64") => `(tactic| skip)
local macro_rules | `(tactic| walk_at "pad 65") => `(tactic| skip)
local macro_rules | `(tactic| walk_at "pad 66") => `(tactic| skip)
local macro_rules | `(tactic| walk_at "pad 67") => `(tactic| skip)
local macro_rules | `(tactic| walk_at "pad 68") => `(tactic| skip)
local macro_rules | `(tactic| walk_at "pad 69") => `(tactic| skip)
local macro_rules | `(tactic| walk_at "pad 70") => `(tactic| skip)
local macro_rules | `(tactic| walk_at "pad 71") => `(tactic| skip)
local macro_rules | `(tactic| walk_at "pad 72") => `(tactic| skip)
local macro_rules | `(tactic| walk_at "pad 73") => `(tactic| skip)
local macro_rules | `(tactic| walk_at "pad 74") => `(tactic| skip)
local macro_rules | `(tactic| walk_at "pad 75") => `(tactic| skip)
local macro_rules | `(tactic| walk_at "pad 76") => `(tactic| skip)
local macro_rules | `(tactic| walk_at "pad 77") => `(tactic| skip)
local macro_rules | `(tactic| walk_at "pad 78") => `(tactic| skip)
local macro_rules | `(tactic| walk_at "pad 79") => `(tactic| skip)
local macro_rules | `(tactic| walk_at "pad 80") => `(tactic| skip)
local macro_rules | `(tactic| walk_at "pad 81") => `(tactic| skip)
local macro_rules | `(tactic| walk_at "pad 82") => `(tactic| skip)
local macro_rules | `(tactic| walk_at "pad 83") => `(tactic| skip)
local macro_rules | `(tactic| walk_at "pad 84") => `(tactic| skip)
local macro_rules | `(tactic| walk_at "pad 85") => `(tactic| skip)
local macro_rules | `(tactic| walk_at "pad 86") => `(tactic| skip)
local macro_rules | `(tactic| walk_at "pad 87") => `(tactic| skip)
local macro_rules | `(tactic| walk_at "pad 88") => `(tactic| skip)
local macro_rules | `(tactic| walk_at "pad 89") => `(tactic| skip)
local macro_rules | `(tactic| walk_at "pad 90") => `(tactic| skip)
local macro_rules | `(tactic| walk_at "pad 91") => `(tactic| skip)
local macro_rules | `(tactic| walk_at "pad 92") => `(tactic| skip)
local macro_rules | `(tactic| walk_at "mine my_ne") => `(tactic| (refine neN ?_; (try dsimp only); first | assumption | exact Ne.symm (by assumption) | exact Nat.ne_of_lt (by assumption) | exact Nat.ne_of_gt (by assumption) | decide | ((with_reducible (repeat (rename (_ ≠ _) => q9; clear q9))); omega) | omega))
theorem fill_LF : (fun (_ : OpenLaw) (_ : Params → Frag) => True) PySem.Challenge.rw_wx0012_02 hd.heap_39 := by
  w_top off
  k_fill
  trivial
theorem lf_keep {s h' : Heap} {L : Addr} {m : PySem.Str → Option Value} {hid news : List (Addr × Obj)} (F : Fr (hideAll s (hid.map (·.1))) L h' m) (N : News (hideAll s (hid.map (·.1))) L h' news) (hh : ∀ p ∈ hid, s.get? p.1 = some p.2) (hs : ∀ p ∈ hid, p ∈ news) : Kp s h' := fun b o e => by
  by_cases hm : b ∈ hid.map (·.1)
  · obtain ⟨p, hp, rfl⟩ := List.mem_map.mp hm
    rw [hh p hp] at e; cases e; exact (N p (hs p hp)).1
  · exact F.keep b o (hideAll_get _ e hm)
theorem lf_spec {w : World} {dp un : Nat} {fr : Option (List Env)} {gd : Option (List Code)} {s : Shared} {Q E : Value → Shared → Prop} {loose : List PySem.Str} {mean : ExcName → Option Value} {mg mb : PySem.Str → Option Value}
    (hdp : dp + 4 < recursionLimit) (hun : un + 80 < cLine) {hB : Heap} (X : (hd.heap_39 w.params).In hB) (T : Top topProg loose mean mg mb hB) (kB : Kp hB s.heap)
    {p1 p2 : Array Value} (h76 : s.heap.get? 76 = some (tabObj p1)) (f76 : hB.get? 76 = none) (t76 : TriplesOk p1.toList) (h99 : s.heap.get? 99 = some (tabObj p2)) (f99 : hB.get? 99 = none) (t99 : TriplesOk p2.toList) (hbare : AllBare s.gens) (a dx : Addr) (k1 k2 k3 k4 k5 k6 k7 k8 k9 : Nat) (i1 i2 i3 i4 i5 i6 i7 : Int) (e1 : Bool) (b : Array UInt8) (t1 t2 t3 t4 t5 t6 t7 t8 : Tok) (ha : s.heap.get? a = some (instObj 275 dx)) (fa : hB.get? a = none) (hd' : s.heap.get? dx = some (dictOf [{ hash := PyData.keyHash w.params (Str.ofString "identifier"), key := Value.str (Str.ofString "identifier") k1, val := .int i1 t1 }, { hash := PyData.keyHash w.params (Str.ofString "extendable"), key := Value.str (Str.ofString "extendable") k2, val := .bool e1 }, { hash := PyData.keyHash w.params (Str.ofString "iteration_exponent"), key := Value.str (Str.ofString "iteration_exponent") k3, val := .int i2 t2 }, { hash := PyData.keyHash w.params (Str.ofString "group_index"), key := Value.str (Str.ofString "group_index") k4, val := .int i3 t3 }, { hash := PyData.keyHash w.params (Str.ofString "group_threshold"), key := Value.str (Str.ofString "group_threshold") k5, val := .int i4 t4 }, { hash := PyData.keyHash w.params (Str.ofString "group_count"), key := Value.str (Str.ofString "group_count") k6, val := .int i5 t5 }, { hash := PyData.keyHash w.params (Str.ofString "index"), key := Value.str (Str.ofString "index") k7, val := .int i6 t6 }, { hash := PyData.keyHash w.params (Str.ofString "member_threshold"), key := Value.str (Str.ofString "member_threshold") k8, val := .int i7 t7 }, { hash := PyData.keyHash w.params (Str.ofString "value"), key := Value.str (Str.ofString "value") k9, val := .bytes b t8 }] 9)) (fd : hB.get? dx = none)
    (ret : ∀ D c h' tk, Kp s.heap h' → s.heap.get? D = none → h'.get? D = some { cls := .type "tuple", data := .seq #[.int i1 t1, .bool e1, .int i2 t2, .int i3 t3, .int i4 t4, .int i5 t5, .int i6 t6, .int i7 t7, .bytes b t8] c } → Q (.ref D) { s with heap := h', toks := tk }) :
    wpAny (model Pg w) (Ar dp un fr gd) (call (.ref 293) [.ref a]) Q E s := by
  have na76 : a ≠ 76 := by rintro rfl; rw [h76] at ha; cases ha
  have na99 : a ≠ 99 := by rintro rfl; rw [h99] at ha; cases ha
  have nd76 : dx ≠ 76 := by rintro rfl; rw [h76] at hd'; cases hd'
  have nd99 : dx ≠ 99 := by rintro rfl; rw [h99] at hd'; cases hd'
  have nad : a ≠ dx := by rintro rfl; rw [ha] at hd'; cases hd'
  have hN : ∀ p ∈ [((76 : Addr), tabObj p1), (99, tabObj p2), (a, instObj 275 dx), (dx, (dictOf [{ hash := PyData.keyHash w.params (Str.ofString "identifier"), key := Value.str (Str.ofString "identifier") k1, val := .int i1 t1 }, { hash := PyData.keyHash w.params (Str.ofString "extendable"), key := Value.str (Str.ofString "extendable") k2, val := .bool e1 }, { hash := PyData.keyHash w.params (Str.ofString "iteration_exponent"), key := Value.str (Str.ofString "iteration_exponent") k3, val := .int i2 t2 }, { hash := PyData.keyHash w.params (Str.ofString "group_index"), key := Value.str (Str.ofString "group_index") k4, val := .int i3 t3 }, { hash := PyData.keyHash w.params (Str.ofString "group_threshold"), key := Value.str (Str.ofString "group_threshold") k5, val := .int i4 t4 }, { hash := PyData.keyHash w.params (Str.ofString "group_count"), key := Value.str (Str.ofString "group_count") k6, val := .int i5 t5 }, { hash := PyData.keyHash w.params (Str.ofString "index"), key := Value.str (Str.ofString "index") k7, val := .int i6 t6 }, { hash := PyData.keyHash w.params (Str.ofString "member_threshold"), key := Value.str (Str.ofString "member_threshold") k8, val := .int i7 t7 }, { hash := PyData.keyHash w.params (Str.ofString "value"), key := Value.str (Str.ofString "value") k9, val := .bytes b t8 }] 9))], s.heap.get? p.1 = some p.2 ∧ hB.get? p.1 = none := by
    intro p hp
    simp only [List.mem_cons, List.not_mem_nil, or_false] at hp
    rcases hp with rfl | rfl | rfl | rfl
    · exact ⟨h76, f76⟩
    · exact ⟨h99, f99⟩
    · exact ⟨ha, fa⟩
    · exact ⟨hd', fd⟩
  k_dflt (refine' enterH _ ?k3 ?k5 ?kb ?kn ?k8 ?k6 ?k7 ?k9 ?kB ?_ ?c2 ?c3 ?c4 ?c5; (case kn => exact hN); (case k3 => exact X); (case k5 => exact T); (case kb => exact kB); (case k6 => k_is); (case k7 => k_is); (case k8 => first | exact (by show dp + 1 < recursionLimit; omega) | exact (by show dp + 1 + 1 < recursionLimit; omega) | k_room); (case k9 => exact BindsTo.of_eq rfl); (case c5 => decide); (case kB => exact locs rfl); (case c2 => exact rfl); (case c3 => exact rfl); (case c4 => exact rfl); k_whole; intro L' h' X' T' F' N'; (try dsimp only); (try k_fold))
  k_steps
  rename Fr _ _ _ _ => FZ
  rename News _ _ _ _ => NZ
  refine ret _ _ _ _ (lf_keep FZ NZ (fun p hp => (hN p hp).1) ?_) (hid_fresh (NZ.fresh (by k_mem)) ?_) (NZ.get (by k_mem))
  · intro p hp
    simp only [List.mem_cons, List.not_mem_nil, or_false] at hp
    rcases hp with rfl | rfl | rfl | rfl <;> k_mem
  · simp only [List.map_cons, List.map_nil, List.mem_cons, List.not_mem_nil, or_false, not_or]
    exact ⟨by (walk_at "mine my_ne"), by (walk_at "mine my_ne"), by (walk_at "mine my_ne"), by (walk_at "mine my_ne")⟩

end Mine
end
section
open PySem PySem.W PyProof.Rows PySem.Calls
namespace Mine
theorem fill_LQ : (fun (_ : OpenLaw) (_ : Params → Frag) => True) PySem.Challenge.rw_wx0012_02 hd.heap_39 := by
  w_top off
  k_fill
  trivial
section
variable {A : Around} {s : Shared}
theorem int_same (i : Int) (t u : Tok) : SeqAt.EqAt A s (.int i t) (.int i u) true := by
  have h := SeqAt.EqAt.int_int (A := A) (s := s) i t i u
  rwa [beq_self_eq_true] at h
theorem bool_same (i : Bool) : SeqAt.EqAt A s (.bool i) (.bool i) true := by
  have h := SeqAt.EqAt.bool_bool (A := A) (s := s) i i
  rwa [beq_self_eq_true] at h
theorem bytes_same (b : Array UInt8) (t u : Tok) : SeqAt.EqAt A s (.bytes b t) (.bytes b u) true := fun prog w E Q h => by
  unfold eqBool
  refine wpAny_holding ?_
  refine wpAny_ite_split (fun _ => ?_) (fun _ => ?_)
  · exact wpAny_bind (wpAny_rule (wpAny_pure h))
  · exact wpAny_bind (eq_bytes (wpAny_truthy_bool (by simpa using h)))
theorem fields_eq {w : World} {E Q : Value → Shared → Prop} {a b : Addr} {i1 i2 i3 i4 i5 i6 i7 : Int} {e1 : Bool} {bb : Array UInt8} {t1 t2 t3 t4 t5 t6 t7 t8 u1 u2 u3 u4 u5 u6 u7 u8 : Tok}
    (ha : s.heap.IsTuple a #[.int i1 t1, .bool e1, .int i2 t2, .int i3 t3, .int i4 t4, .int i5 t5, .int i6 t6, .int i7 t7, .bytes bb t8])
    (hb : s.heap.IsTuple b #[.int i1 u1, .bool e1, .int i2 u2, .int i3 u3, .int i4 u4, .int i5 u5, .int i6 u6, .int i7 u7, .bytes bb u8]) (hu : A.units < cLine) (h : Q (.bool true) s) :
    wpAny (model Pg w) A (compareOp .Eq (.ref a) (.ref b)) Q E s := by
  refine SeqAt.eq_tupleAt (e := fun _ => true) ha hb hu (fun j h1 h2 => ?_) ?_
  · have hj : j = 0 ∨ j = 1 ∨ j = 2 ∨ j = 3 ∨ j = 4 ∨ j = 5 ∨ j = 6 ∨ j = 7 ∨ j = 8 := by
      have : j < 9 := h1
      omega
    rcases hj with rfl | rfl | rfl | rfl | rfl | rfl | rfl | rfl | rfl
    · exact int_same _ _ _
    · exact bool_same _
    · exact int_same _ _ _
    · exact int_same _ _ _
    · exact int_same _ _ _
    · exact int_same _ _ _
    · exact int_same _ _ _
    · exact int_same _ _ _
    · exact bytes_same _ _ _
  · exact h
theorem news_tup {h0 h : Heap} {L a : Addr} {news : List (Addr × Obj)} {items : Array Value} {n : Nat} (N : News h0 L h news) (hm : (a, ({ cls := .type "tuple", data := .seq items n } : Obj)) ∈ news) : h.IsTuple a items := ⟨_, (N _ hm).1, rfl, n, rfl⟩
end

end Mine
end
section
open PySem PySem.W PyProof.Rows PySem.Calls
namespace Mine
local macro_rules | `(tactic| walk_at "pad 0") => `(tactic| skip)
local macro_rules | `(tactic| walk_at "pad 1") => `(tactic| skip)
local macro_rules | `(tactic| walk_at "pad 2") => `(tactic| skip)
local macro_rules | `(tactic| walk_at "pad 3") => `(tactic| skip)
local macro_rules | `(tactic| walk_at "pad 4") => `(tactic| skip)
local macro_rules | `(tactic| walk_at "pad 5") => `(tactic| skip)
local macro_rules | `(tactic| walk_at "pad 6") => `(tactic| skip)
local macro_rules | `(tactic| walk_at "pad 7") => `(tactic| skip)
local macro_rules | `(tactic| walk_at "pad 8") => `(tactic| skip)
local macro_rules | `(tactic| walk_at "pad 9") => `(tactic| skip)
local macro_rules | `(tactic| walk_at "pad 10") => `(tactic| skip)
local macro_rules | `(tactic| walk_at "pad 11") => `(tactic| skip)
local macro_rules | `(tactic| walk_at "pad 12") => `(tactic| skip)
local macro_rules | `(tactic| walk_at "pad 13") => `(tactic| skip)
local macro_rules | `(tactic| walk_at "pad 14") => `(tactic| skip)
local macro_rules | `(tactic| walk_at "pad 15") => `(tactic| skip)
local macro_rules | `(tactic| walk_at "pad 16") => `(tactic| skip)
local macro_rules | `(tactic| walk_at "pad 17") => `(tactic| skip)
local macro_rules | `(tactic| walk_at "pad 18") => `(tactic| skip)
local macro_rules | `(tactic| walk_at "pad 19") => `(tactic| skip)
local macro_rules | `(tactic| walk_at "pad 20") => `(tactic| skip)
local macro_rules | `(tactic| walk_at "pad 21") => `(tactic| skip)
local macro_rules | `(tactic| walk_at "pad 22") => `(tactic| skip)
local macro_rules | `(tactic| walk_at "pad 23") => `(tactic| skip)
local macro_rules | `(tactic| walk_at "pad 24") => `(tactic| skip)
local macro_rules | `(tactic| walk_at "pad 25") => `(tactic| skip)
local macro_rules | `(tactic| walk_at "pad 26") => `(tactic| skip)
local macro_rules | `(tactic| walk_at "pad 27") => `(tactic| skip)
local macro_rules | `(tactic| walk_at "pad 28") => `(tactic| skip)
local macro_rules | `(tactic| walk_at "pad 29") => `(tactic| skip)
local macro_rules | `(tactic| walk_at "pad 30") => `(tactic| skip)
local macro_rules | `(tactic| walk_at "pad 31") => `(tactic| skip)
local macro_rules | `(tactic| walk_at "pad 32") => `(tactic| skip)
local macro_rules | `(tactic| walk_at "pad 33") => `(tactic| skip)
local macro_rules | `(tactic| walk_at "pad 34") => `(tactic| skip)
local macro_rules | `(tactic| walk_at "pad 35") => `(tactic| skip)
local macro_rules | `(tactic| walk_at "pad 36") => `(tactic| skip)
local macro_rules | `(tactic| walk_at "pad 37") => `(tactic| skip)
local macro_rules | `(tactic| walk_at "pad 38") => `(tactic| skip)
local macro_rules | `(tactic| walk_at "pad 39") => `(tactic| skip)
local macro_rules | `(tactic| walk_at "pad 40") => `(tactic| skip)
local macro_rules | `(tactic| walk_at "pad 41") => `(tactic| skip)
local macro_rules | `(tactic| walk_at "pad 42") => `(tactic| skip)
local macro_rules | `(tactic| walk_at "pad 43") => `(tactic| skip)
local macro_rules | `(tactic| walk_at "pad 44") => `(tactic| skip)
local macro_rules | `(tactic| walk_at "pad 45") => `(tactic| skip)
local macro_rules | `(tactic| walk_at "pad 46") => `(tactic| skip)
local macro_rules | `(tactic| walk_at "pad 47") => `(tactic| skip)
local macro_rules | `(tactic| walk_at "pad 48") => `(tactic| skip)
local macro_rules | `(tactic| walk_at "pad 49") => `(tactic| skip)
local macro_rules | `(tactic| walk_at "pad 50") => `(tactic| skip)
local macro_rules | `(tactic| walk_at "pad 51") => `(tactic| skip)
local macro_rules | `(tactic| walk_at "pad 52") => `(tactic| skip)
local macro_rules | `(tactic| walk_at "pad 53") => `(tactic| skip)
local macro_rules | `(tactic| walk_at "pad 54") => `(tactic| skip)
local macro_rules | `(tactic| walk_at "pad 55") => `(tactic| skip)
local macro_rules | `(tactic| walk_at "pad 56") => `(tactic| skip)
local macro_rules | `(tactic| walk_at "pad 57") => `(tactic| skip)
local macro_rules | `(tactic| walk_at "pad 58") => `(tactic| skip)
local macro_rules | `(tactic| walk_at "pad 59") => `(tactic| skip)
local macro_rules | `(tactic| walk_at "pad 60") => `(tactic| skip)
local macro_rules | `(tactic| walk_at "pad 61") => `(tactic| skip)
local macro_rules | `(tactic| walk_at "pad 62") => `(tactic| skip)
local macro_rules | `(tactic| walk_at "pad 63") => `(tactic| skip)
local macro_rules | `(tactic| walk_at "pad 64") => `(tactic| skip)
local macro_rules | `(tactic| walk_at "pad 65") => `(tactic| skip)
local macro_rules | `(tactic| walk_at "pad 66") => `(tactic| skip)
local macro_rules | `(tactic| walk_at "pad 67") => `(tactic| skip)
local macro_rules | `(tactic| walk_at "pad 68") => `(tactic| skip)
local macro_rules | `(tactic| walk_at "pad 69") => `(tactic| skip)
local macro_rules | `(tactic| walk_at "pad 70") => `(tactic| skip)
local macro_rules | `(tactic| walk_at "pad 71") => `(tactic| skip)
local macro_rules | `(tactic| walk_at "pad 72") => `(tactic| skip)
local macro_rules | `(tactic| walk_at "pad 73") => `(tactic| skip)
local macro_rules | `(tactic| walk_at "pad 74") => `(tactic| skip)
local macro_rules | `(tactic| walk_at "pad 75") => `(tactic| skip)
local macro_rules | `(tactic| walk_at "pad 76") => `(tactic| skip)
local macro_rules | `(tactic| walk_at "pad 77") => `(tactic| skip)
local macro_rules | `(tactic| walk_at "pad 78") => `(tactic| skip)
local macro_rules | `(tactic| walk_at "pad 79") => `(tactic| skip)
local macro_rules | `(tactic| walk_at "pad 80") => `(tactic| skip)
local macro_rules | `(tactic| walk_at "pad 81") => `(tactic| skip)
local macro_rules | `(tactic| walk_at "pad 82") => `(tactic| skip)
local macro_rules | `(tactic| walk_at "pad 83") => `(tactic| skip)
local macro_rules | `(tactic| walk_at "pad 84") => `(tactic| skip)
local macro_rules | `(tactic| walk_at "pad 85") => `(tactic| skip)
local macro_rules | `(tactic| walk_at "pad 86") => `(tactic| skip)
local macro_rules | `(tactic| walk_at "pad 87") => `(tactic| skip)
local macro_rules | `(tactic| walk_at "pad 88") => `(tactic| skip)
local macro_rules | `(tactic| walk_at "pad 89") => `(tactic| skip)
local macro_rules | `(tactic| walk_at "pad 90") => `(tactic| skip)
local macro_rules | `(tactic| walk_at "pad 91") => `(tactic| skip)
local macro_rules | `(tactic| walk_at "pad 92") => `(tactic| skip)
local macro_rules | `(tactic| walk_at "pad 93") => `(tactic| skip)
local macro_rules | `(tactic| walk_at "mine my_ne") => `(tactic| (refine neN ?_; (try dsimp only); first | assumption | exact Ne.symm (by assumption) | exact Nat.ne_of_lt (by assumption) | exact Nat.ne_of_gt (by assumption) | decide | ((with_reducible (repeat (rename (_ ≠ _) => q9; clear q9))); omega) | omega))
local macro_rules | `(tactic| walk_at "mine my_all") => `(tactic| first | exact List.forall_mem_nil _ | (refine' List.forall_mem_cons.mpr ⟨?a, ?b⟩; (case a => (walk_at "mine my_ne")); (case b => (walk_at "mine my_all"))))
local macro_rules | `(tactic| walk_at "mine my_updF") => `(tactic| first | (refine' UpdF.head ?a; (case a => (walk_at "mine my_all"))) | (refine' UpdF.tail ?a ?b; (case a => (walk_at "mine my_ne")); (case b => (walk_at "mine my_updF"))))
local macro_rules | `(tactic| walk_at "mine my_om") => `(tactic| ((with_reducible (repeat (rename (_ ≠ _) => q9; clear q9))); first | omega | (constructor <;> omega)))
theorem fill_L5 : (fun (_ : OpenLaw) (_ : Params → Frag) => True) PySem.Challenge.rw_wx0012_02 hd.heap_39 := by
  w_top off
  k_fill
  trivial
theorem mod_gen {prog : Program} {w : World} {A : Around} {E : Value → Shared → Prop} {s : Shared} {x y : Int} {t u : Tok} {Q : Value → Shared → Prop} (hy : 0 < y) (h : ∀ r t', 0 ≤ r → r < y → Q (.int r t') { s with toks := s.toks + 1 }) :
    wpAny (model prog w) A (binaryOp .Mod (.int x t) (.int y u)) Q E s :=
  mod_int (by omega) (h _ _ (Int.fmod_nonneg_of_pos _ hy) (Int.fmod_lt_of_pos _ hy))
section
variable {prog : Program} {w : World} {A : Around} {E : Value → Shared → Prop} {s : Shared} {x y : Int} {t u : Tok} {Q : Value → Shared → Prop}
theorem mod_keep (hy : 0 < y) (h : Q (.int (x.fmod y) s.toks) { s with toks := s.toks + 1 }) : wpAny (model prog w) A (binaryOp .Mod (.int x t) (.int y u)) Q E s := mod_int (by omega) h
theorem fdiv_id (h0 : 0 ≤ x) (h1 : x < 2 ^ Int.toNat 40) (h : ∀ q t', 0 ≤ q → q < 32768 → Q (.int q t') { s with toks := s.toks + 1 }) : wpAny (model prog w) A (binaryOp .FloorDiv (.int x t) (.int (2 ^ Int.toNat 25) u)) Q E s :=
  floordiv_int (by decide) (h _ _ (by
    rw [show (2 : Int) ^ Int.toNat 25 = 33554432 by decide, Int.fdiv_eq_ediv_of_nonneg _ (by decide)]; omega) (by
    rw [show (2 : Int) ^ Int.toNat 25 = 33554432 by decide, Int.fdiv_eq_ediv_of_nonneg _ (by decide)]
    rw [show (2 : Int) ^ Int.toNat 40 = 1099511627776 by decide] at h1; omega)) (Or.inl (PyProof.noPylong_small (by decide)))
theorem fdiv_any (hy : y ≠ 0) (hs : y.natAbs < 1073741824) (h : ∀ q t', Q (.int q t') { s with toks := s.toks + 1 }) : wpAny (model prog w) A (binaryOp .FloorDiv (.int x t) (.int y u)) Q E s :=
  floordiv_int hy (h _ _) (Or.inl (PyProof.noPylong_small hs))
theorem fdiv_keep (hy : y ≠ 0) (hs : y.natAbs < 1073741824) (h : Q (.int (x.fdiv y) s.toks) { s with toks := s.toks + 1 }) : wpAny (model prog w) A (binaryOp .FloorDiv (.int x t) (.int y u)) Q E s :=
  floordiv_int hy h (Or.inl (PyProof.noPylong_small hs))
theorem pow_gen {b : Int} (h0 : 0 ≤ y) (h1 : y ≤ 1000) (hb : 0 ≤ b ∧ b ≤ 256) (h : Q (.int (b ^ y.toNat) s.toks) { s with toks := s.toks + 1 }) : wpAny (model prog w) A (binaryOp .Pow (.int b t) (.int y u)) Q E s :=
  pow_int_small h0 (by omega) (by omega) h
end
local macro_rules | `(tactic| walk_at "binaryOp Pow int int") => `(tactic| (k_here; k_dflt (first
  | (with_reducible refine pow_gen (by decide) (by decide) (by decide) ?_)
  | (with_reducible refine' pow_gen ?a9 ?b9 (by decide) ?_; (case a9 => (walk_at "mine my_om")); (case b9 => (walk_at "mine my_om"))))))
local macro_rules | `(tactic| walk_at "binaryOp FloorDiv int int") => `(tactic| (k_here; k_dflt (first
  | (with_reducible refine fdiv_id (by assumption) (by assumption) ?_; intro q' t' hq1' hq2')
  | (with_reducible refine fdiv_keep (y := 16) (by decide) (by decide) ?_)
  | (with_reducible refine fdiv_any (by decide) (by decide) ?_; intro q' t'))))
local macro_rules | `(tactic| walk_at "binaryOp Mod int int") => `(tactic| (k_here; k_dflt (first
  | (with_reducible refine mod_gen (y := 9) (by decide) ?_; intro r' t' hr1' hr2')
  | (with_reducible refine mod_gen (y := 4) (by decide) ?_; intro r' t' hr1' hr2')
  | (with_reducible refine mod_gen (y := 16) (by decide) ?_; intro r' t' hr1' hr2')
  | (with_reducible refine mod_gen (y := 1024) (by decide) ?_; intro r' t' hr1' hr2')
  | (with_reducible refine mod_keep (y := 2) (by decide) ?_)
  | (with_reducible refine mod_gen (y := 2 ^ Int.toNat 40) (by decide) ?_; intro r' t' hr1' hr2')
  | (with_reducible refine mod_gen (y := 256 ^ _) (Int.pow_pos (by decide)) ?_; intro r' t' hr1' hr2')
  | (with_reducible refine' mod_gen ?p9 ?_; (case p9 => (walk_at "mine my_om")); intro r' t' hr1' hr2'))))
local macro_rules | `(tactic| walk_at "call builtin:int.to_bytes") => `(tactic| (k_here; (with_reducible show wpAny _ _ (call (Value.builtin "int.to_bytes") _) _ _ _); k_dflt (refine' to_bigI ?n9 ?a9 ?b9 ?_; (case n9 => (walk_at "mine my_om")); (case a9 => assumption); (case b9 => assumption); intro b' t' k' hb' hz')))
local macro_rules | `(tactic| walk_at "binaryOp Mult int int") => `(tactic| (k_here; k_dflt (refine mul_spread (by assumption) (by decide +kernel) ?_; intro t')))
local macro_rules | `(tactic| walk_at "eval Call") => `(tactic| (k_here; (with_reducible show wpAny _ _ (eval (Expr.Call (Expr.Name _ _) _ [] _) _) _ _ _); k_dflt (refine Call_ ?_)))
local macro_rules | `(tactic| walk_at "mine use_ln4") => `(tactic| (k_here; (with_reducible show wpAny _ _ (call (Value.ref 286) [Value.ref _, Value.int _ _]) _ _ _); k_dflt (refine' lawnum_specB ?hdp ?hun ?hX ?hT _ _ _ ?hl ?hi ?hlay ?hlen _ _ ?hp ?hr; (case hdp => ((try simp only [depth_in1, depth_deeper, depth_caller]); (try dsimp only [Ar, Around.deeper]); omega)); (case hun => ((try simp only [units_in1, units_deeper, Around.mark_units, units_caller]); (try dsimp only [Ar, Around.deeper]); omega)); (case hX => exact Frag.In.keeps (by k_asm) (Fr.keep (by k_asm))); (case hT => exact Top.keeps (by k_asm) (Fr.keep (by k_asm))); (case hl => is_list); (case hi => k_asm); (case hlay => assumption); (case hlen => assumption); (case hp => first | decide | (walk_at "mine my_om")); intro x' h' tk' t' hbx' hk'; (have F' := kp_fr (by k_asm) hk'); (have N' := News.grown (by k_asm) hk'); clear hk'; (try k_sweep); (try dsimp only); (try k_fold))))
local macro_rules | `(tactic| walk_at "call ref") => `(tactic| (walk_at "mine use_ln4"))
theorem shareRow_bd {i1 i2 i3 i4 i5 i6 i7 : Int} {e1 : Bool} {b : Array UInt8} : ∀ x ∈ shareRow i1 i2 i3 i4 i5 i6 i7 e1 b, 0 ≤ x ∧ x < 1024 := by
  unfold shareRow shareData
  exact bnd_app (bnd_app (bnd_app (tw_bd rfl) (tw_bd rfl)) (tw_bd rfl)) (ck_bd rfl)
theorem row_facts {i1 i2 i3 i4 i5 i6 i7 : Int} {e1 : Bool} {b : Array UInt8} {rr : List Int} (h : shareRow i1 i2 i3 i4 i5 i6 i7 e1 b = rr) (h1 : 16 ≤ b.size) (h2 : b.size ≤ 32) : (∀ x ∈ rr, 0 ≤ x ∧ x < 1024) ∧ 20 ≤ rr.length ∧ rr.length ≤ 33 := by
  subst h
  refine ⟨shareRow_bd, ?_⟩
  rw [shareRow_len]
  omega
theorem rowText_short {ns : List Int} (h : ns.length ≤ 200) : (rowText ns).length ≤ 5000 := by
  show (Builtin.Str.glued _ _).length ≤ 5000
  rw [StrLaws.glued_eq_join]
  have h1 := StrLaws.join_length_le (PySem.Str.ofString " ") (ns.map wordStr)
  have h2 := words_sum ns
  omega
theorem bnd_set {ns : List Int} {k : Nat} {x : Int} (h : ∀ y ∈ ns, 0 ≤ y ∧ y < 1024) (hx : 0 ≤ x ∧ x < 1024) : ∀ y ∈ ns.set k x, 0 ≤ y ∧ y < 1024 := fun y hy => by
  rcases List.mem_or_eq_of_mem_set hy with q | q
  · exact h y q
  · rw [q]; exact hx
theorem bnd_get {ns : List Int} {k : Nat} (h : ∀ y ∈ ns, 0 ≤ y ∧ y < 1024) : 0 ≤ ns.getD k 0 ∧ ns.getD k 0 < 1024 := by
  rw [List.getD_eq_getElem?_getD]
  cases e : ns[k]? with
  | none => exact ⟨by decide, by decide⟩
  | some x => exact h x (List.mem_of_getElem? e)
local macro_rules | `(tactic| walk_at "mine use_ln5") => `(tactic| (k_here; (with_reducible show wpAny _ _ (call (Value.ref 275) [Value.int _ _, Value.bool _, Value.int _ _, Value.int _ _, Value.int _ _, Value.int _ _, Value.int _ _, Value.int _ _, Value.bytes _ _]) _ _ _); k_dflt (refine' share_spec ?hdp ?hun ?hX ?hT _ _ _ _ _ _ _ _ _ _ _ _ _ _ _ _ _ ?hr; (case hdp => ((try simp only [depth_in1, depth_deeper, depth_caller]); (try dsimp only [Ar, Around.deeper]); omega)); (case hun => ((try simp only [units_in1, units_deeper, Around.mark_units, units_caller]); (try dsimp only [Ar, Around.deeper]); omega)); (case hX => exact Frag.In.keeps (by k_asm) (Fr.keep (by k_asm))); (case hT => exact Top.keeps (by k_asm) (Fr.keep (by k_asm))); intro x' dx' h' tk' k1' k2' k3' k4' k5' k6' k7' k8' k9' hk' hs1' hs2' hx' hd'; (have n1' := Heap.get?_none_of_le hs1'); (have n2' := Heap.get?_none_of_le (Nat.le_of_lt (Nat.lt_of_le_of_lt hs1' hs2'))); (have N1' := kp_newN (by k_asm) (by k_asm) hk' n1' hd'); (have N' := kt_cons (by k_asm) (by k_asm) n2' hx' N1'); (have off1' := kt_off (by k_asm) n1'); (have off2' := kt_off (by k_asm) n2'); (have F' := kp_fr (by k_asm) hk'); (clear hk' N1' n1' n2' hs1' hx' hd'); (try simp only [LCg.Off1, and_true] at off1' off2'); (repeat (rcases off1' with ⟨o9, off1'⟩)); (repeat (rcases off2' with ⟨o9, off2'⟩)); (try k_sweep); (try dsimp only); (try k_fold))))
local macro_rules | `(tactic| walk_at "call ref") => `(tactic| (walk_at "mine use_ln5"))
local macro_rules | `(tactic| walk_at "mine use_ln2") => `(tactic| (k_here; (with_reducible show wpAny _ _ (call (Value.ref 200) _) _ _ _); k_dflt (refine' mnem_spec ?hdp ?hun ?hX ?hT ?kB ?h76 ?f76 ?t76 ?h99 ?f99 ?t99 ?hb _ _ _ _ _ _ _ _ _ _ _ _ _ _ _ _ _ _ _ _ _ _ _ _ _ _ _ _ ?ha ?fa ?hd9 ?fd ?hi1 ?hi2 ?hi3 ?hi4 ?hi5 ?hi6 ?hi7 ?hbs ?hr; (case hdp => ((try simp only [depth_in1, depth_deeper, depth_caller]); (try dsimp only [Ar, Around.deeper]); omega)); (case hun => ((try simp only [units_in1, units_deeper, Around.mark_units, units_caller]); (try dsimp only [Ar, Around.deeper]); omega)); (case hX => k_asm); (case hT => k_asm); (case kB => exact Fr.keep (by k_asm)); (case h76 => exact News.get (by k_asm) (by k_mem)); (case f76 => exact News.fresh (by k_asm) (by k_mem)); (case t76 => assumption); (case h99 => exact News.get (by k_asm) (by k_mem)); (case f99 => exact News.fresh (by k_asm) (by k_mem)); (case t99 => assumption); (case hb => assumption); (case ha => exact News.get (by k_asm) (by k_mem)); (case fa => exact News.fresh (by k_asm) (by k_mem)); (case hd9 => exact News.get (by k_asm) (by k_mem)); (case fd => exact News.fresh (by k_asm) (by k_mem)); (case hi1 => (walk_at "mine my_om")); (case hi2 => (walk_at "mine my_om")); (case hi3 => (walk_at "mine my_om")); (case hi4 => (walk_at "mine my_om")); (case hi5 => (walk_at "mine my_om")); (case hi6 => (walk_at "mine my_om")); (case hi7 => (walk_at "mine my_om")); (case hbs => (walk_at "mine my_om")); intro h' q1' q2' gs' tk' t' hk' g1' u1' g2' u2' hb'; (generalize hR9 : shareRow _ _ _ _ _ _ _ _ _ = rr9); (obtain ⟨rb9, rl9, ru9⟩ := row_facts hR9 (by (walk_at "mine my_om")) (by (walk_at "mine my_om"))); (have RK9 := row_ok hR9 (by (walk_at "mine my_om")) (by (walk_at "mine my_om")) (by (walk_at "mine my_om")) (by (walk_at "mine my_om")) (by (walk_at "mine my_om")) (by (walk_at "mine my_om")) (by (walk_at "mine my_om")) (by assumption) (by (walk_at "mine my_om"))); clear hR9; (have N' := kt_news (by k_asm) hk' (by (walk_at "mine my_updF")) (by (walk_at "mine my_updF")) g1' g2'); (have F' := kt_fr (by k_asm) (by k_asm) (by k_mem) (by k_mem) hk'); clear hk'; (try k_sweep); (try dsimp only); (try k_fold))))
local macro_rules | `(tactic| walk_at "call ref") => `(tactic| (walk_at "mine use_ln2"))
local macro_rules | `(tactic| walk_at "mine use_ln6") => `(tactic| (k_here; (with_reducible show wpAny _ _ (call (Value.ref 116) [Value.str _ _]) _ _ _); k_dflt (refine' m2i_spec ?hdp ?hun ?hX ?hT _ _ _ ?hw9 ?hb9 ?hl9 ?hr; (case hdp => ((try simp only [depth_in1, depth_deeper, depth_caller]); (try dsimp only [Ar, Around.deeper]); omega)); (case hun => ((try simp only [units_in1, units_deeper, Around.mark_units, units_caller]); (try dsimp only [Ar, Around.deeper]); omega)); (case hX => exact Frag.In.keeps (by k_asm) (Fr.keep (by k_asm))); (case hT => exact Top.keeps (by k_asm) (Fr.keep (by k_asm))); (case hw9 => exact textOf_words _ (by assumption)); (case hb9 => assumption); (case hl9 => exact rowText_short (by (walk_at "mine my_om"))); intro D' ys' c' h' tk' hk' hD' ho' hi'; (have N' := kp_newN (by k_asm) (by k_asm) hk' hD' ho'); (have off' := kt_off (by k_asm) hD'); (have F' := kp_fr (by k_asm) hk'); clear hk'; (try simp only [LCg.Off1, and_true] at off'); (repeat (rcases off' with ⟨o9, off'⟩)); (try k_sweep); (try dsimp only); (try k_fold))))
local macro_rules | `(tactic| walk_at "call ref") => `(tactic| (walk_at "mine use_ln6"))
theorem near_idx {n : Nat} {rr zs : List Int} {r : Int} (h : Near n rr zs) (hr : r < rr.length) : r < zs.length := by rw [h.len]; exact hr
theorem near_63 {rr : List Int} {r : Int} (hr : r < rr.length) (hl : rr.length ≤ 33) : r < 2 ^ 63 := by omega
theorem near_short {n : Nat} {rr zs : List Int} (h : Near n rr zs) (hl : rr.length ≤ 33) : zs.length ≤ 1000 := by rw [h.len]; omega
local macro_rules | `(tactic| walk_at "mine use_ln1") => `(tactic| (k_here; (with_reducible show wpAny _ _ (call (Value.ref 111) [Value.ref _]) _ _ _); k_dflt (refine' mfi_spec ?hdp ?hun ?hX ?hT ?h76 ?t76 ?h99 ?t99 ?hb _ _ _ ?hl9 ?hi9 ?hb9 ?hn9 ?hr; (case hdp => ((try simp only [depth_in1, depth_deeper, depth_caller]); (try dsimp only [Ar, Around.deeper]); omega)); (case hun => ((try simp only [units_in1, units_deeper, Around.mark_units, units_caller]); (try dsimp only [Ar, Around.deeper]); omega)); (case hX => exact Frag.In.keeps (by k_asm) (Fr.keep (by k_asm))); (case hT => exact Top.keeps (by k_asm) (Fr.keep (by k_asm))); (case h76 => exact News.get (by k_asm) (by k_mem)); (case t76 => assumption); (case h99 => exact News.get (by k_asm) (by k_mem)); (case t99 => assumption); (case hb => assumption); (case hl9 => exact News.isList (by k_asm) (by k_mem)); (case hi9 => l_ints); (case hb9 => first | assumption | exact Near.bd (by assumption) | exact bnd_set (bnd_set (by assumption) (bnd_get (by assumption))) (bnd_get (by assumption))); (case hn9 => first | exact near_short (by assumption) (by assumption) | ((try simp only [List.length_set]); (walk_at "mine my_om"))); intro h' q1' q2' gs' tk' t' hk' g1' u1' g2' u2' hb'; (have N' := kt_news (by k_asm) hk' (by (walk_at "mine my_updF")) (by (walk_at "mine my_updF")) g1' g2'); (have F' := kt_fr (by k_asm) (by k_asm) (by k_mem) (by k_mem) hk'); clear hk'; (try k_sweep); (try dsimp only); (try k_fold))))
local macro_rules | `(tactic| walk_at "call ref") => `(tactic| (walk_at "mine use_ln1"))
theorem fr_hid {g h : Heap} {L : Addr} {m : PySem.Str → Option Value} {news : List (Addr × Obj)} {p1 p2 : Array Value} (F : Fr g L h m) (N : News g L h news) (m1 : ((76 : Addr), tabObj p1) ∈ news) (m2 : ((99 : Addr), tabObj p2) ∈ news) : Fr g L (hid2 h) m :=
  ⟨F.ns.at' fun o e => hid2_get e (fun q => (N _ m1).2.1 q.symm) (fun q => (N _ m2).2.1 q.symm), fun b o e => hid2_get (F.keep b o e) (fun q => by rw [q, (N _ m1).2.2] at e; cases e) (fun q => by rw [q, (N _ m2).2.2] at e; cases e), F.above⟩
theorem frm_meth {w : World} {dp un : Nat} {fr : Option (List Env)} {gd : Option (List Code)} {s : Shared} {Q E : Value → Shared → Prop} {loose : List Str} {mean : ExcName → Option Value} {mg mb : Str → Option Value}
    (hdp : dp + 12 < recursionLimit) (hun : un + 100 < cLine)
    (X : (hd.heap_39 w.params).In s.heap) (T : Top topProg loose mean mg mb s.heap) {p1 p2 : Array Value} (h76 : s.heap.get? 76 = some (tabObj p1)) (t76 : TriplesOk p1.toList) (h99 : s.heap.get? 99 = some (tabObj p2)) (t99 : TriplesOk p2.toList) (hbare : AllBare s.gens) {gN : Heap} {LN q : Addr} {news : List (Addr × Obj)} (NN : News gN LN s.heap news) (hq : (q, methodObj (.ref 207) (.ref 275)) ∈ news) {base : Heap} {outer : List Env} (Kg : Below (Ar dp un fr gd) base outer (hid2 s.heap)) (extra : List (Addr × Obj)) (hex : ∀ q ∈ extra, (hid2 s.heap).get? q.1 = some q.2 ∧ base.get? q.1 = none ∧ q.1 ∉ outer.filterMap (·.frame))
    (x : PySem.Str) (t : Tok) (ns : List Int) (hw : (Txt.words x).map Txt.lower = ns.map wordStr) (hb : ∀ n ∈ ns, 0 ≤ n ∧ n < 1024) (hlen : x.length ≤ 5000) (hn1 : 20 ≤ ns.length) (hn2 : ns.length ≤ 200) (hpad : ¬ 8 < (10 * ((ns.length : Int) - 7)).fmod 16)
    (hval : polymod ((KBw.bInts (cust (frX ns)) ++ ns).map Int.toNat) = 1 → ((ofWords (List.map Int.toNat (List.take (ns.length - 3 - (2 + 2 : Int).toNat) (List.drop (2 + 2 : Int).toNat ns))) : Nat) : Int) < 256 ^ ((10 * ((List.take (ns.length - 3 - (2 + 2 : Int).toNat) (List.drop (2 + 2 : Int).toNat ns)).length : Int) - (10 * ((ns.length : Int) - 7)).fmod 16 + 8 - 1) / 8).toNat)
    (rai : (polymod ((KBw.bInts (cust (frX ns)) ++ ns).map Int.toNat) ≠ 1 ∨ frG ns 2 < frG ns 1) → ∀ h' e t' vs tk p1' gs, RaisedK base outer e (.ref 50) t' vs ((76, tabObj p1') :: (99, tabObj p2) :: extra) h' → TriplesOk p1'.toList → AllBare gs → (hid2 s.heap).UpToSlots h' → E (.ref e) { s with heap := h', gens := gs, toks := tk })
    (ret : polymod ((KBw.bInts (cust (frX ns)) ++ ns).map Int.toNat) = 1 → frG ns 1 ≤ frG ns 2 → ∀ x dx b h' p1' gs tk k1 k2 k3 k4 k5 k6 k7 k8 k9 t1 t2 t3 t4 t5 t6 t7 t8, KT s.heap h' → h'.get? 76 = some (tabObj p1') → TriplesOk p1'.toList → h'.get? 99 = some (tabObj p2) → AllBare gs → s.heap.objs.size ≤ dx → dx < x → h'.get? x = some (instObj 275 dx) →
      h'.get? dx = some (dictOf [{ hash := PyData.keyHash w.params (Str.ofString "identifier"), key := Value.str (Str.ofString "identifier") k1, val := .int ((frW ns / 32 : Nat) : Int) t1 }, { hash := PyData.keyHash w.params (Str.ofString "extendable"), key := Value.str (Str.ofString "extendable") k2, val := .bool (frX ns) }, { hash := PyData.keyHash w.params (Str.ofString "iteration_exponent"), key := Value.str (Str.ofString "iteration_exponent") k3, val := .int ((frW ns % 16 : Nat) : Int) t2 }, { hash := PyData.keyHash w.params (Str.ofString "group_index"), key := Value.str (Str.ofString "group_index") k4, val := .int ((frG ns 0 : Nat) : Int) t3 }, { hash := PyData.keyHash w.params (Str.ofString "group_threshold"), key := Value.str (Str.ofString "group_threshold") k5, val := .int (((frG ns 1 : Nat) : Int) + 1) t4 }, { hash := PyData.keyHash w.params (Str.ofString "group_count"), key := Value.str (Str.ofString "group_count") k6, val := .int (((frG ns 2 : Nat) : Int) + 1) t5 }, { hash := PyData.keyHash w.params (Str.ofString "index"), key := Value.str (Str.ofString "index") k7, val := .int ((frG ns 3 : Nat) : Int) t6 }, { hash := PyData.keyHash w.params (Str.ofString "member_threshold"), key := Value.str (Str.ofString "member_threshold") k8, val := .int (((frG ns 4 : Nat) : Int) + 1) t7 }, { hash := PyData.keyHash w.params (Str.ofString "value"), key := Value.str (Str.ofString "value") k9, val := .bytes b t8 }] 9) →
      KBw.bInts b = (KTBy.little (frN ns) ((frV ns : Nat) : Int)).reverse → b.size = frN ns → Q (.ref x) { s with heap := h', gens := gs, toks := tk }) :
    wpAny (model Pg w) (Ar dp un fr gd) (call (.ref q) [.str x t]) Q E s :=
  call_meth NN hq (frm_spec hdp hun X T h76 t76 h99 t99 hbare Kg extra hex x t ns hw hb hlen hn1 hn2 hpad hval rai ret)
theorem hex_nil {g h : Heap} {fs : List Addr} : ∀ q ∈ ([] : List (Addr × Obj)), (hid2 h).get? q.1 = some q.2 ∧ g.get? q.1 = none ∧ q.1 ∉ fs := fun q hq => nomatch hq
theorem list_not_tab {xs : Array Value} {c : Nat} {p : Array Value} : W.listOf xs c ≠ tabObj p := fun e => by
  have := congrArg (·.data) e
  cases this
theorem hex_cons {g h : Heap} {L : Addr} {news : List (Addr × Obj)} {fs : List Addr} {p1 p2 : Array Value} (N : News g L h news) (g1 : h.get? 76 = some (tabObj p1)) (g2 : h.get? 99 = some (tabObj p2)) {a : Addr} {xs : Array Value} {c : Nat} (hm : (a, W.listOf xs c) ∈ news) (hf : fs = [L]) {ex : List (Addr × Obj)}
    (r : ∀ q ∈ ex, (hid2 h).get? q.1 = some q.2 ∧ g.get? q.1 = none ∧ q.1 ∉ fs) : ∀ q ∈ (a, W.listOf xs c) :: ex, (hid2 h).get? q.1 = some q.2 ∧ g.get? q.1 = none ∧ q.1 ∉ fs := fun q hq => by
  rcases List.mem_cons.mp hq with rfl | hq
  · exact ⟨hid2_get (N _ hm).1 (fun e => by
      have := (N _ hm).1; rw [show ((a, W.listOf xs c) : Addr × Obj).1 = 76 from e, g1] at this; exact list_not_tab (Option.some.inj this).symm) (fun e => by
      have := (N _ hm).1; rw [show ((a, W.listOf xs c) : Addr × Obj).1 = 99 from e, g2] at this; exact list_not_tab (Option.some.inj this).symm), (N _ hm).2.2, by rw [hf]; simpa using (N _ hm).2.1⟩
  · exact r q hq
theorem hexI {g h : Heap} {L : Addr} {news : List (Addr × Obj)} {fs : List Addr} {p1 p2 : Array Value} {vs : List Value} {zs : List Int} (_hi : IntsAre vs zs) (N : News g L h news) (g1 : h.get? 76 = some (tabObj p1)) (g2 : h.get? 99 = some (tabObj p2)) {a : Addr} {c : Nat} (hm : (a, W.listOf vs.toArray c) ∈ news) (hf : fs = [L]) {ex : List (Addr × Obj)}
    (r : ∀ q ∈ ex, (hid2 h).get? q.1 = some q.2 ∧ g.get? q.1 = none ∧ q.1 ∉ fs) : ∀ q ∈ (a, W.listOf vs.toArray c) :: ex, (hid2 h).get? q.1 = some q.2 ∧ g.get? q.1 = none ∧ q.1 ∉ fs :=
  hex_cons N g1 g2 hm hf r
local macro_rules | `(tactic| walk_at "getItem ref int") => `(tactic| (k_here; (with_reducible show wpAny _ _ (getItem (Value.ref _) (Value.int _ _)) _ _ _); k_dflt (refine' ksa_get ?k1 ?k2 ?k3 ?k4 ?k5 ?k6 ?_; (case k1 => k_asm); (case k2 => k_mem); (case k3 => with_reducible assumption); (case k4 => assumption); (case k5 => exact near_idx (by assumption) (by assumption)); (case k6 => exact near_63 (by assumption) (by assumption))); intro _))
local macro_rules | `(tactic| walk_at "setItem ref int") => `(tactic| (k_here; (with_reducible show wpAny _ _ (setItem (Value.ref _) (Value.int _ _) (Value.int _ _)) _ _ _); k_dflt (refine' ksa_set ?k1 ?k2 ?k3 ?k4 ?k5 ?k6 ?k7 ?_; (case k1 => k_asm); (case k2 => k_asm); (case k3 => k_upd); (case k4 => with_reducible assumption); (case k5 => assumption); (case k6 => exact near_idx (by assumption) (by assumption)); (case k7 => exact near_63 (by assumption) (by assumption))); intro h' F' N' hi' hl' hs'; (try k_sweep)))
theorem near_start {rr : List Int} (hb : ∀ x ∈ rr, 0 ≤ x ∧ x < 1024) : Near ([] : List Int).length rr rr := near_self hb
theorem bx_lt {a t : Int} (ha : 0 ≤ a ∧ a < 1024) (ht : 0 ≤ t ∧ t < 1024) : 0 ≤ Builtin.bitXor a t ∧ Builtin.bitXor a t < 1024 := by
  rw [bx' ha.1 ht.1]
  have : a.toNat ^^^ t.toNat < 1024 := Nat.xor_lt_two_pow (n := 10) (by omega) (by omega)
  omega
theorem near_turnA {n : Nat} {rr zs : List Int} {p t : Int} (h : Near n rr zs) (hp : 0 ≤ p) (ht : 0 ≤ t ∧ t < 1024) (hne : p ≠ 1) : Near (n + 1) rr (zs.set p.toNat (Builtin.bitXor (zs.getD p.toNat 0) t)) :=
  near_set h (bx_lt (bd_getD h.bd) ht) (fun e => absurd e (by omega))
theorem near_turnB {n : Nat} {rr zs : List Int} {p t : Int} (h : Near n rr zs) (ht : 0 ≤ t ∧ t < 1024) (hne : p = 1) : Near (n + 1) rr (zs.set p.toNat (Builtin.bitXor (zs.getD p.toNat 0) (t - (t.fdiv 16).fmod 2 * 16))) := by
  have e1 : t.fdiv 16 = t / 16 := Int.fdiv_eq_ediv_of_nonneg _ (by decide)
  have e2 : (t / 16).fmod 2 = t / 16 % 2 := Int.fmod_eq_emod_of_nonneg _ (by decide)
  rw [e1, e2]
  have ha := bd_getD (k := p.toNat) h.bd
  have ht2 : 0 ≤ t - t / 16 % 2 * 16 ∧ t - t / 16 % 2 * 16 < 1024 := by omega
  refine near_set h (bx_lt ha ht2) (fun e => ?_)
  rw [e, bx' (by rw [e] at ha; exact ha.1) ht2.1]
  rw [e] at ha
  generalize zs.getD 1 0 = a at ha
  generalize hu : t - t / 16 % 2 * 16 = u at ht2
  have hu2 : u.toNat / 16 % 2 = 0 := by omega
  have hx : (a.toNat ^^^ u.toNat) / 16 % 2 = a.toNat / 16 % 2 := by
    rw [show (16 : Nat) = 2 ^ 4 from rfl, Nat.xor_div_two_pow]
    have h2 := Nat.xor_mod_two_pow (a := a.toNat / 2 ^ 4) (b := u.toNat / 2 ^ 4) (n := 1)
    rw [show (2 : Nat) ^ 1 = 2 from rfl] at h2
    rw [h2, show u.toNat / 2 ^ 4 % 2 = 0 from hu2, Nat.xor_zero]
  omega
local macro_rules | `(tactic| walk_at "mine use_ln3") => `(tactic| (k_here; (with_reducible show wpAny _ _ (call (Value.ref 293) [Value.ref _]) _ _ _); k_dflt (refine' lf_spec ?hdp ?hun ?hX ?hT ?kB ?h76 ?f76 ?t76 ?h99 ?f99 ?t99 ?hb _ _ _ _ _ _ _ _ _ _ _ _ _ _ _ _ _ _ _ _ _ _ _ _ _ _ _ _ ?ha ?fa ?hd9 ?fd ?hr; (case hdp => ((try simp only [depth_in1, depth_deeper, depth_caller]); (try dsimp only [Ar, Around.deeper]); omega)); (case hun => ((try simp only [units_in1, units_deeper, Around.mark_units, units_caller]); (try dsimp only [Ar, Around.deeper]); omega)); (case hX => k_asm); (case hT => k_asm); (case kB => exact Fr.keep (by k_asm)); (case h76 => exact News.get (by k_asm) (by k_mem)); (case f76 => exact News.fresh (by k_asm) (by k_mem)); (case t76 => assumption); (case h99 => exact News.get (by k_asm) (by k_mem)); (case f99 => exact News.fresh (by k_asm) (by k_mem)); (case t99 => assumption); (case hb => assumption); (case ha => exact News.get (by k_asm) (by k_mem)); (case fa => exact News.fresh (by k_asm) (by k_mem)); (case hd9 => exact News.get (by k_asm) (by k_mem)); (case fd => exact News.fresh (by k_asm) (by k_mem)); intro D' c' h' tk' hk' hD' ho'; (have N' := kp_newN (by k_asm) (by k_asm) hk' hD' ho'); (have off' := kt_off (by k_asm) hD'); (have F' := kp_fr (by k_asm) hk'); clear hk'; (try simp only [LCg.Off1, and_true] at off'); (repeat (rcases off' with ⟨o9, off'⟩)); (try k_sweep); (try dsimp only); (try k_fold))))
local macro_rules | `(tactic| walk_at "call ref") => `(tactic| (walk_at "mine use_ln3"))
local macro_rules | `(tactic| walk_at "compareOp Eq ref ref") => `(tactic| (k_here; (with_reducible show wpAny _ _ (compareOp CmpOp.Eq (Value.ref _) (Value.ref _)) _ _ _); k_dflt (refine' fields_eq ?a9 ?b9 ?u9 ?_; (case a9 => exact news_tup (by k_asm) (by k_mem)); (case b9 => exact news_tup (by k_asm) (by k_mem)); (case u9 => ((try simp only [units_in1, units_deeper, Around.mark_units, units_caller]); (try dsimp only [Ar, Around.deeper]); omega)))))
theorem law_walk {w : World} {dp un : Nat} {fr : Option (List Env)} {gd : Option (List Code)} {s : Shared} {Q E : Value → Shared → Prop} {loose : List Str} {mean : ExcName → Option Value} {mg mb : Str → Option Value}
    (hdp : dp + 40 < recursionLimit) (hun : un + 400 < cLine)
    (X : (hd.heap_39 w.params).In s.heap) (T : Top topProg loose mean mg mb s.heap) {p1 p2 : Array Value} (h76 : s.heap.get? 76 = some (tabObj p1)) (t76 : TriplesOk p1.toList) (h99 : s.heap.get? 99 = some (tabObj p2)) (t99 : TriplesOk p2.toList) (hbare : AllBare s.gens) (l : Addr) (vs : List Value) (ns : List Int) (hl : s.heap.IsList l vs.toArray) (hi : IntsAre vs ns) (hlay : PyData.layable0 (.list (ns.map PyData.int)) = true) (hlen : ns.length ≤ 63)
    (Kl : Below (Ar dp un fr gd) (hid2 s.heap) [] (hid2 s.heap))
    (ret : ∀ h' p1' p2' gs tk, KT s.heap h' → h'.get? 76 = some (tabObj p1') → TriplesOk p1'.toList → h'.get? 99 = some (tabObj p2') → TriplesOk p2'.toList → AllBare gs → Q (.bool true) { s with heap := h', gens := gs, toks := tk }) :
    codeAny (model Pg w) (Ar dp un fr gd) (.call (.ref 300) ⟨[.ref l], []⟩) (fun r s' => match r with | .ok (.ret v) => Q v s' | .ok _ => False | .error e => E e s') s := by
  k_dflt (refine' enterTc ?k3 ?k5 ?h1 ?h2 ?q1 ?q2 ?k8 ?k6 ?k7 ?k9 ?kB ?_ ?c2 ?c3 ?c4 ?c5; (case k3 => k_asm); (case k5 => k_asm); (case h1 => assumption); (case h2 => assumption); (case q1 => with_unfolding_all rfl); (case q2 => with_unfolding_all rfl); (case k6 => k_is); (case k7 => k_is); (case k8 => exact (by show dp + 1 < recursionLimit; omega)); (case k9 => exact BindsTo.of_eq rfl); (case c5 => decide); (case kB => exact locs rfl); (case c2 => exact rfl); (case c3 => exact rfl); (case c4 => exact rfl); k_whole; intro L' h' X' T' F' N' kp'; (try dsimp only); (try k_fold))
  have hl' : (hid2 s.heap).IsList l vs.toArray := by
    obtain ⟨o, e, r⟩ := hl
    exact ⟨o, hid2_get e (fun q => by rw [q, h76] at e; cases e; exact absurd r.1 (by simp)) (fun q => by rw [q, h99] at e; cases e; exact absurd r.1 (by simp)), r⟩
  clear hl h76 h99
  iterate 322 (first | (k_unfold; (try dsimp only)) | walk1 | (dsimp only; walk1))
  · k_steps
    rename RowOk _ _ _ _ _ _ _ _ _ _ => RK
    rename List Int => rr
    rename IntsAre _ rr => hIr
    rename IntsAre _ (List.set (List.set _ _ _) _ _) => hI9
    generalize hZ : List.set (List.set rr _ _) _ _ = zs at hI9 ⊢
    have NR : Near 3 rr zs := hZ ▸ near_swapI RK.bd (by assumption) (by assumption)
    rename IntsAre _ zs => hI9
    clear hZ
    rename Fr _ _ _ _ => FA
    rename News _ _ _ _ => NA
    have FH := fr_hid FA NA (by k_mem) (by k_mem)
    have gA76 := NA.get (a := 76) (by k_mem)
    have gA99 := NA.get (a := 99) (by k_mem)
    have HX9 := hexI (fs := [L']) hI9 NA gA76 gA99 (by k_mem) rfl (hexI (fs := [L']) hIr NA gA76 gA99 (by k_mem) rfl hex_nil)
    refine' frm_meth (loose := loose) (mean := mean) (mg := mg) (mb := mb) ?hdp ?hun ?hX ?hT gA76 ?q1 gA99 ?q2 ?q3 NA ?q4 ?q5 _ ?q6 _ _ _ ?q7 ?q8 ?q9 ?hn1 ?hn2 ?hpad ?hval ?rai ?ret
    case q5 => exact Kl.push FH
    case q6 => exact HX9
    case q7 => exact textOf_words _ NR.bd
    case q8 => exact NR.bd
    case q9 => exact rowText_short (by rw [NR.len]; exact Nat.le_trans RK.hi (by decide))
    case q1 => assumption
    case q2 => assumption
    case q3 => assumption
    case q4 => k_mem
    case hdp => show dp + 1 + 12 < recursionLimit; omega
    case hun => show un + 3 + 100 < cLine; omega
    case hX => exact Frag.In.keeps X' (Fr.keep FA)
    case hT => exact Top.keeps T' (Fr.keep FA)
    case hn1 => rw [NR.len]; exact RK.lo
    case hn2 => rw [NR.len]; exact Nat.le_trans RK.hi (by decide)
    case hpad => rw [NR.len]; exact RK.pad
    case hval => intro hp9; rw [near_far RK NR hp9]; exact RK.vlt
    case rai =>
      intro hwhy h9 e9 t9 vs9 tk9 p9 gs9 R9 ht9 hg9 U9
      have hne9 : zs ≠ rr := by
        rintro rfl
        rcases hwhy with q | q
        · rw [RK.ext] at q; exact q RK.chk
        · have a1 := RK.g1; have a2 := RK.g2; omega
      clear FA NA hwhy
      k_steps
      rename Fr _ _ _ _ => FZ
      rename News _ _ _ _ => NZ
      have hdec : (!decide (zs = rr)) = true := by simp [hne9]
      rw [hdec]
      exact ret _ _ _ _ _ (fun b o n1 n2 e => FZ.keep b o (hid2_get e n1 n2)) (NZ.get (by k_mem)) ht9 (NZ.get (by k_mem)) (by assumption) hg9
    case ret =>
      intro hp9 hg9 x9 dx9 b9 h9 p9 gs9 tk9 k1 k2 k3 k4 k5 k6 k7 k8 k9 t1 t2 t3 t4 t5 t6 t7 t8 K9 g76 q76 g99 hb9 hs9 hs10 hx9 hd9 hbb hbs
      have hzr := near_far RK NR hp9
      subst hzr
      have hbe := RK.vb b9 hbb
      subst hbe
      rw [RK.ext, RK.id, RK.ie, RK.g0, RK.g1, RK.g2, RK.g3, RK.g4] at hd9
      have n1 := Heap.get?_none_of_le hs9
      have n2 := Heap.get?_none_of_le (Nat.le_of_lt (Nat.lt_of_le_of_lt hs9 hs10))
      have N9 := kt_news NA K9 (by (walk_at "mine my_updF")) (by (walk_at "mine my_updF")) g76 g99
      have F9 := kt_fr FA NA (by k_mem) (by k_mem) K9
      have N10 := kt_cons FA NA n1 hd9 N9
      have N11 := kt_cons FA NA n2 hx9 N10
      have off1 := kt_off NA n1
      have off2 := kt_off NA n2
      simp only [LCg.Off1, and_true] at off1 off2
      clear FA FH NA N9 N10 HX9 gA76 gA99 hd9 hx9 n1 n2 K9 hbb hbs hp9 hg9 NR hs9
      (repeat (rcases off1 with ⟨o9, off1⟩))
      (repeat (rcases off2 with ⟨o9, off2⟩))
      k_steps
      rename Fr _ _ _ _ => FZ
      rename News _ _ _ _ => NZ
      exact ret _ _ _ _ _ (fun b o n1 n2 e => FZ.keep b o (hid2_get e n1 n2)) (NZ.get (by k_mem)) q76 (NZ.get (by k_mem)) (by assumption) hb9
  · rename List Int => rr
    rename IntsAre _ rr => hIr
    rename RowOk _ _ _ _ _ _ _ _ _ _ => RK
    (k_with "pyIter ref" => k_state_given ["row"] (fun row pre turned => Near pre.length row turned) "turned")
    (k_with "state" => first
      | exact near_start (by assumption)
      | (rw [List.length_append, List.length_singleton]; first | exact near_turnA (by assumption) (by assumption) ⟨by assumption, by assumption⟩ (by assumption) | exact near_turnB (by assumption) ⟨by assumption, by assumption⟩ (by assumption)))
    k_steps
    rename List Int => zs
    rename IntsAre _ zs => hI9
    rename Near _ rr zs => NR0
    have NR : Near 3 rr zs := near_mono NR0 (by rw [rangeKs_length]; (walk_at "mine my_om"))
    rename Fr _ _ _ _ => FA
    rename News _ _ _ _ => NA
    have FH := fr_hid FA NA (by k_mem) (by k_mem)
    have gA76 := NA.get (a := 76) (by k_mem)
    have gA99 := NA.get (a := 99) (by k_mem)
    have HX9 := hexI (fs := [L']) hI9 NA gA76 gA99 (by k_mem) rfl (hexI (fs := [L']) hIr NA gA76 gA99 (by k_mem) rfl hex_nil)
    refine' frm_meth (loose := loose) (mean := mean) (mg := mg) (mb := mb) ?hdp ?hun ?hX ?hT gA76 ?q1 gA99 ?q2 ?q3 NA ?q4 ?q5 _ ?q6 _ _ _ ?q7 ?q8 ?q9 ?hn1 ?hn2 ?hpad ?hval ?rai ?ret
    case q5 => exact Kl.push FH
    case q6 => exact HX9
    case q7 => exact textOf_words _ NR.bd
    case q8 => exact NR.bd
    case q9 => exact rowText_short (by rw [NR.len]; exact Nat.le_trans RK.hi (by decide))
    case q1 => assumption
    case q2 => assumption
    case q3 => assumption
    case q4 => k_mem
    case hdp => show dp + 1 + 12 < recursionLimit; omega
    case hun => show un + 3 + 100 < cLine; omega
    case hX => exact Frag.In.keeps X' (Fr.keep FA)
    case hT => exact Top.keeps T' (Fr.keep FA)
    case hn1 => rw [NR.len]; exact RK.lo
    case hn2 => rw [NR.len]; exact Nat.le_trans RK.hi (by decide)
    case hpad => rw [NR.len]; exact RK.pad
    case hval => intro hp9; rw [near_far RK NR hp9]; exact RK.vlt
    case rai =>
      intro hwhy h9 e9 t9 vs9 tk9 p9 gs9 R9 ht9 hg9 U9
      have hne9 : zs ≠ rr := by
        rintro rfl
        rcases hwhy with q | q
        · rw [RK.ext] at q; exact q RK.chk
        · have a1 := RK.g1; have a2 := RK.g2; omega
      clear FA NA hwhy
      k_steps
      rename Fr _ _ _ _ => FZ
      rename News _ _ _ _ => NZ
      have hdec : (!decide (zs = rr)) = true := by simp [hne9]
      rw [hdec]
      exact ret _ _ _ _ _ (fun b o n1 n2 e => FZ.keep b o (hid2_get e n1 n2)) (NZ.get (by k_mem)) ht9 (NZ.get (by k_mem)) (by assumption) hg9
    case ret =>
      intro hp9 hg9 x9 dx9 b9 h9 p9 gs9 tk9 k1 k2 k3 k4 k5 k6 k7 k8 k9 t1 t2 t3 t4 t5 t6 t7 t8 K9 g76 q76 g99 hb9 hs9 hs10 hx9 hd9 hbb hbs
      have hzr := near_far RK NR hp9
      subst hzr
      have hbe := RK.vb b9 hbb
      subst hbe
      rw [RK.ext, RK.id, RK.ie, RK.g0, RK.g1, RK.g2, RK.g3, RK.g4] at hd9
      have n1 := Heap.get?_none_of_le hs9
      have n2 := Heap.get?_none_of_le (Nat.le_of_lt (Nat.lt_of_le_of_lt hs9 hs10))
      have N9 := kt_news NA K9 (by (walk_at "mine my_updF")) (by (walk_at "mine my_updF")) g76 g99
      have F9 := kt_fr FA NA (by k_mem) (by k_mem) K9
      have N10 := kt_cons FA NA n1 hd9 N9
      have N11 := kt_cons FA NA n2 hx9 N10
      have off1 := kt_off NA n1
      have off2 := kt_off NA n2
      simp only [LCg.Off1, and_true] at off1 off2
      clear FA FH NA N9 N10 HX9 gA76 gA99 hd9 hx9 n1 n2 K9 hbb hbs hp9 hg9 NR hs9
      (repeat (rcases off1 with ⟨o9, off1⟩))
      (repeat (rcases off2 with ⟨o9, off2⟩))
      k_steps
      rename Fr _ _ _ _ => FZ
      rename News _ _ _ _ => NZ
      exact ret _ _ _ _ _ (fun b o n1 n2 e => FZ.keep b o (hid2_get e n1 n2)) (NZ.get (by k_mem)) q76 (NZ.get (by k_mem)) (by assumption) hb9

end Mine
end
section
open PySem PySem.W PyProof.Rows PySem.Calls
namespace Mine
theorem fill_FB : (fun (_ : OpenLaw) (_ : Params → Frag) => True) PySem.Challenge.rw_wx0012_02 hd.heap_39 := by
  w_top off
  k_fill
  trivial
theorem to_goodG {c : ClaimW} {cl : PySem.Str → Option Addr} {mean : ExcName → Option Value} {args : List WData} {s₁ s' : Shared} {r : Result} {p1 p2 : Array Value} (hT : TabsAt [((80 : Addr), (76 : Addr)), (103, 99)] s₁.heap) (hk : KT s₁.heap s'.heap)
    (g1 : s'.heap.get? 76 = some (tabObj p1)) (g2 : s'.heap.get? 99 = some (tabObj p2)) (hos : s'.os = s₁.os) (hb : AllBare s'.gens)
    (hc : ∃ v d as, r = .ok (.ret v) ∧ (∀ cls, c.raises args cls = false) ∧ ReadsW c.records cl s'.heap v d as ∧ c.post args d args = true ∧ (c.unshared = true → as.Nodup ∧ ∀ a ∈ as, s₁.heap.get? a = none)) : GoodWG c cl mean args s₁ r s' := by
  have t1 := hT (80, 76) (by simp)
  have t2 := hT (103, 99) (by simp)
  refine ⟨.inl hc, ⟨fun b o e => ?_, fun b o e => ?_⟩, hos, hb⟩
  · by_cases h1 : b = 76
    · subst h1
      have e2 := t1.2
      have : o = tabObj #[] := Option.some.inj (e.symm.trans e2)
      subst this; exact .inr (.inl ⟨(t1.1.tab t1.2).isCodeTable, rfl, #[], p1, rfl, by rw [Array.empty_append]; exact g1⟩)
    · by_cases h2 : b = 99
      · subst h2
        have e2 := t2.2
        have : o = tabObj #[] := Option.some.inj (e.symm.trans e2)
        subst this; exact .inr (.inl ⟨(t2.1.tab t2.2).isCodeTable, rfl, #[], p2, rfl, by rw [Array.empty_append]; exact g2⟩)
      · exact .inl (hk b o h1 h2 e)
  · by_cases h1 : b = 76
    · subst h1; exact ⟨_, g1⟩
    · by_cases h2 : b = 99
      · subst h2; exact ⟨_, g2⟩
      · exact ⟨o, hk b o h1 h2 e⟩
theorem hid2_ghost {s₁ : Heap} : hid2 s₁ = ghostOf s₁ [((80 : Addr), (76 : Addr)), (103, 99)] := rfl

end Mine
end
open Mine PySem.Calls
theorem PySem.Challenge.cw_wx0012_02_holds : PySem.Challenge.rw_wx0012_02.Holds := by
  w_on
  o_law
  o_head (kmHook hd.heap_39 [2, 3, 15, 17, 18, 20, 21, 22, 24, 25, 27, 28, 29, 32, 33, 34, 36, 37, 39, 40, 41, 48, 49, 50, 51, 54, 56, 57, 59, 60, 61, 63, 64, 66, 67, 68, 70, 71, 73, 74, 75, 77, 78, 80, 81, 82, 84, 86, 87, 89, 90, 91, 93, 94, 96, 97, 98, 100, 101, 103, 104, 105, 107, 108, 110, 111, 112, 115, 116, 117, 119, 120, 122, 123, 124, 126, 127, 129, 130, 131, 133, 134, 136, 137, 138, 145, 146, 147, 148, 154, 159, 161, 162, 164, 165, 166, 168, 169, 171, 172, 173, 175, 176, 178, 179, 180, 182, 183, 185, 186, 187, 189, 190, 192, 193, 194, 196, 197, 199, 200, 201, 203, 204, 206, 207, 208, 209, 210, 211, 213, 214, 216, 217, 218, 219, 221, 222, 224, 225, 226, 227, 229, 230, 232, 233, 234, 236, 237, 239, 240, 241, 242, 244, 245, 247, 248, 249, 250, 252, 253, 255, 256, 257, 259, 260, 262, 263, 264, 265, 266, 268, 269, 271, 272, 273, 274, 275, 276, 277, 280, 282, 283, 285, 286, 287, 289, 290, 292, 293, 294, 296, 297, 299, 300] (fun _ => by kernel_rfl) [76, 99])
  case hw => w_witness2
  k_fill
  intro w s₀ s₁ mg mb G Y fa o pm cd doc dV kV ho hd hcd hD hmg hg args vals as hpre hlay hrd hwl hlo
  have KX := km_in_of Y
  have hT8 := km_tabs_of Y
  have X := (Ground.X G).1
  have V := (Ground.X G).2
  refine Ground.open G ?_
  intro T B D TE TW
  try (refine guard_noD D (by decide +kernel) ?_; clear D)
  have hT9 : TabsAt [((80 : Addr), (76 : Addr)), (103, 99)] _ := List.forall_mem_cons.mpr ⟨⟨codeHd_of_K (c := 80) (P := 76) KX (by kernel_rfl), hT8 76 (by k_mem)⟩, List.forall_mem_cons.mpr ⟨⟨codeHd_of_K (c := 103) (P := 99) KX (by kernel_rfl), hT8 99 (by k_mem)⟩, fun _ h => nomatch h⟩⟩
  wrow_args hpre hlay hrd hwl hlo
  all_goals (first | refine callC_kw (enter_call ?_) | refine enter_call ?_)
  w_top on
  have hfa : mg (PySem.Str.ofString "law") = some (.ref 300) := mg_of KX (Top.g T) (by k_is)
  have hfa2 : Value.ref fa = Value.ref 300 := Option.some.inj (hmg.symm.trans hfa)
  injection hfa2 with hfa3
  subst hfa3
  have h76 := hT8 76 (by k_mem)
  have h99 := hT8 99 (by k_mem)
  have hnt : TriplesOk (#[] : Array Value).toList := by first | exact TriplesOk.nil | exact trivial | decide
  rename Heap.IsList _ _ _ => hl9
  rename IntsAre _ _ => hi9
  rename PyData.layable0 _ = true => hla9
  rename ¬ _ < _ => hle9
  refine codeAny_mono (law_walk (dp := callerA.depth) (un := callerA.units) (fr := some []) (gd := some []) (s := s₁) (Q := fun v s' => v = .bool true ∧ KT s₁.heap s'.heap ∧ (∃ p, s'.heap.get? 76 = some (tabObj p)) ∧ (∃ p, s'.heap.get? 99 = some (tabObj p)) ∧ s'.os = s₁.os ∧ AllBare s'.gens) (E := fun _ _ => False) (by decide) (by decide) KX (Top.keeps (ghost_top hT9 T) (fun b o e => of_hideAll _ e)) h76 hnt h99 hnt (AllBare.of_eq hg) _ _ _ hl9 hi9 hla9 (by omega) (below_caller _) (fun h' p1' p2' gs tk k g1 u1 g2 u2 hb => ⟨rfl, k, ⟨_, g1⟩, ⟨_, g2⟩, rfl, hb⟩)) (fun r s' hr => ?_)
  rcases r with e | f
  · exact hr.elim
  · cases f with
    | ret v =>
      obtain ⟨rfl, hk, ⟨q1, g1⟩, ⟨q2, g2⟩, hos, hb⟩ := hr
      exact to_goodG hT9 hk g1 g2 hos hb ⟨_, .bool true, [], rfl, fun _ => rfl, .bool true, (by wrow_post), fun _ => ⟨List.nodup_nil, fun _ h => nomatch h⟩⟩
    | _ => exact hr.elim
