import PyProof.Rows.All
import Wide.All
import OpenK.AllK
import Wide.FinOn
import PySem.Challenge.RW_et5001_01
set_option Elab.async false
set_option rowWalk.seconds 0

section Part_HD_et
open PySem PySem.W PyProof.Rows
namespace Mine

set_option maxRecDepth 100000 in
set_option maxHeartbeats 8000000 in
open_top hd for PySem.Challenge.rw_et5001_01
end Mine
end Part_HD_et

section Part_DR
open PySem PySem.W PyProof.Rows
namespace Mine
local macro_rules | `(tactic| walk_at "m_pad_0") => `(tactic| fail)
local macro_rules | `(tactic| walk_at "m_pad_1") => `(tactic| fail)
local macro_rules | `(tactic| walk_at "m_pad_2") => `(tactic| fail)
local macro_rules | `(tactic| walk_at "m_pad_3") => `(tactic| fail)
local macro_rules | `(tactic| walk_at "m_pad_4") => `(tactic| fail)
local macro_rules | `(tactic| walk_at "m_pad_5") => `(tactic| fail)
local macro_rules | `(tactic| walk_at "m_pad_6") => `(tactic| fail)
local macro_rules | `(tactic| walk_at "m_pad_7") => `(tactic| fail)
local macro_rules | `(tactic| walk_at "m_pad_8") => `(tactic| fail)
local macro_rules | `(tactic| walk_at "m_pad_9") => `(tactic| fail)
local macro_rules | `(tactic| walk_at "m_pad_10") => `(tactic| fail)
local macro_rules | `(tactic| walk_at "m_pad_11") => `(tactic| fail)
local macro_rules | `(tactic| walk_at "m_pad_12") => `(tactic| fail)
local macro_rules | `(tactic| walk_at "m_pad_13") => `(tactic| fail)
local macro_rules | `(tactic| walk_at "m_pad_14") => `(tactic| fail)
local macro_rules | `(tactic| walk_at "m_pad_15") => `(tactic| fail)
set_option maxRecDepth 100000
set_option maxHeartbeats 8000000 

theorem draw_spec : ∀ {w : World} {mean : ExcName → Option Value} {mg mb : Str → Option Value}
    (dp un : Nat) (gd : Option (List Code)) (cn : Str) (cs : Scope) (a : Addr) (ccd : Value) (cl : List (Str × Addr)) (outer : List Env) (A₀ : Around) (base h₀ : Heap) (L : Addr) (m : Str → Option Value) (s : Shared) (Q E : Value → Shared → Prop)
    (b l : Addr) (vs : List Value) (ns : List Int) (k sd : Int) (t1 t2 : Tok) (n n2 : Nat) (rest : List (Addr × Obj)) (many : Int) (tm : Tok)
    (B : Below A₀ base outer h₀) (F : Fr h₀ L s.heap m) (X : (hd.heap_39 w.params).In h₀)
    (N : News h₀ L s.heap ((b, listOf #[.ref l, .int k t1, .int sd t2] n) :: (l, listOf vs.toArray n2) :: rest))
    (T : Top hd.view_39 (looseW hd.view_39 [Str.ofString "Parameters"]) mean mg mb h₀) (hk : cs.kind = .function) (hoff : OwnOff rest [b]) (hbl : l ≠ b)
    (hI : IntsAre vs ns) (hlen : ns.length ≤ 12) (hk0 : 0 ≤ k) (hk1 : k < 100) (hs0 : 0 ≤ sd) (hs1 : sd < 1009) (hm : 0 < many) (hm2 : many < 1000)
    (hd : dp + 1 < recursionLimit) (hu : un + 8 < cLine)
    (ret : ∀ (r : Int) (t : Tok) (sd' : Int) (t1' t2' : Tok) (n' : Nat) (h' : Heap) (tk' : Nat), 0 ≤ r → r < many → 0 ≤ sd' → sd' < 1009 → Fr h₀ L h' m →
      News h₀ L h' ((b, listOf #[.ref l, .int (k + 1) t1', .int sd' t2'] n') :: (l, listOf vs.toArray n2) :: rest) → Q (.int r t) { s with heap := h', toks := tk' }),
    wpAny (model PySem.Challenge.rw_et5001_01.row.prog w) (ktrTop dp un gd cn cs L a ccd cl outer) (call (.ref 148) [.ref b, .int many tm]) Q E s := by
  w_on
  w_top off
  k_with_none
  k_fill
  intro w mean mg mb dp un gd cn cs a ccd cl outer A₀ base h₀ L m s Q E b l vs ns k sd t1 t2 n n2 rest many tm B F X N T hk hoff hbl hI hlen hk0 hk1 hs0 hs1 hm hm2 hd hu ret
  have hl9 := hI.length
  refine wpAny_call ?_
  k_dflt cell_enter
  k_steps
  all_goals (refine ret _ _ _ _ _ _ _ _ ?_ ?_ ?_ ?_ (by k_asm) (by k_asm))
  all_goals first | assumption | exact Int.fmod_nonneg_of_pos _ (by first | assumption | decide) | exact Int.fmod_lt_of_pos _ (by first | assumption | decide)
end Mine
end Part_DR

section Part_IX
open PySem PySem.W PyProof.Rows PySem.Calls
namespace Mine

theorem entry_op_index : entryFor table "_operator.index" = some Builtin.«_operator.index» := entryFor_of_fast (by kernel_rfl)
theorem args_op_index (a : Value) : argsOk "_operator.index" ⟨[a], []⟩ := by unfold argsOk; kernel_rfl
theorem op_index {prog : Program} {w : World} {A : Around} {E : Value → Shared → Prop} {s : Shared} {Q : Value → Shared → Prop} {k : Int} {t : Tok} (h : Q (.int k t) s) :
    wpAny (model prog w) A (call (.builtin "_operator.index") [.int k t]) Q E s := by
  refine call_function_entry (by decide +kernel) (by decide +kernel) entry_op_index (args_op_index _) ?_
  unfold Builtin.«_operator.index»
  refine wpAny_bind (wpAny_of_eq (a := Value.int k t) (by first | rfl | kernel_rfl!) ?_)
  exact wpAny_pure ⟨_, rfl, h⟩
end Mine
end Part_IX

section Part_NR
open PySem PySem.W PyProof.Rows PySem.Calls
namespace Mine

theorem notIn_range {prog : Program} {w : World} {A : Around} {E : Value → Shared → Prop} {s : Shared} {Q : Value → Shared → Prop} {r : Addr} {k b : Int} {tk t u v : Tok}
    (hr : IsRange s.heap r 0 b 1 t u v) (h0 : 0 ≤ k) (h1 : k < b) (h : Q (.bool false) s) :
    wpAny (model prog w) A (compareOp .NotIn (.int k tk) (.ref r)) Q E s := by
  have hT : s.TypeIs (.ref r) "range" := ⟨_, hr, rfl⟩
  have hp : (Builtin.Range.rangePlace? 0 b 1 k).isSome = true := by
    unfold Builtin.Range.rangePlace?
    simp [h0, h1]
  show wpAny _ _ (do return .bool (!(← contains (.ref r) (.int k tk)))) Q E s
  refine wpAny_bind (wpAny_contains_slot hT F.slot_range_contains (wpAny_call_entry F.slot_range_contains hT F.entry_range_contains ?_ (F.args_range_contains_2 _ _)))
  show wpAny _ _ (Builtin.Range.rangeFields (.ref r) >>= fun x => pure (Fin.done (.ret (.bool (Builtin.Range.rangePlace? x.1 x.2.1 x.2.2 k).isSome)))) _ _ s
  refine wpAny_bind ?_
  unfold Builtin.Range.rangeFields
  refine wpAny_bind (wpAny_field hr rfl (x := Value.int 0 t) rfl ?_)
  refine wpAny_bind (wpAny_pure ?_)
  refine wpAny_bind (wpAny_field hr rfl (x := Value.int b u) rfl ?_)
  refine wpAny_bind (wpAny_pure ?_)
  refine wpAny_bind (wpAny_field hr rfl (x := Value.int 1 v) rfl ?_)
  refine wpAny_bind (wpAny_pure ?_)
  refine wpAny_pure (wpAny_pure ⟨_, rfl, ?_⟩)
  dsimp only
  rw [hp]
  exact wpAny_pure (wpAny_pure h)
end Mine
end Part_NR

section Part_FRM
open PySem PySem.W PyProof.Rows PySem.Calls
namespace Mine


/-- g holds all that h holds, but for the objects of the ledger -/
def KeptBut (h : Heap) (news : List (Addr × Obj)) (g : Heap) : Prop := ∀ b o, h.get? b = some o → (∀ q ∈ news, b ≠ q.1) → g.get? b = some o
/-- what stands apart from the ledger -/
def Apart (rest news : List (Addr × Obj)) : Prop := ∀ p ∈ rest, ∀ q ∈ news, p.1 ≠ q.1
def RestR (h₀ : Heap) (L : Addr) (rest : List (Addr × Obj)) (R : Result → Shared → Prop) (r : Result) (s : Shared) : Prop :=
  match r with
  | .error e => R (.error e) s
  | r => News h₀ L s.heap rest → R r s

section
variable {prog : Program} {w : World} {A A₀ : Around} {s : Shared} {K : Frag} {L : Addr} {h₀ base : Heap} {m mg mb : Str → Option Value} {news rest : List (Addr × Obj)} {p : Program} {loose : List Str} {mean : ExcName → Option Value}
theorem code_defR {env : Env} {outer : List Env} {R : Result → Shared → Prop} {name qual : Str} {params : Arguments} {body : List Stmt} {scope : Scope} {dV kV doc pm cdv ct oc : Value} {an od : Option Addr} {osl : Array (Option Value)} {f : Addr} {args : Args} {binds : List (Str × Value)}
    (B : Below A₀ base outer h₀) (F : Fr h₀ L s.heap m) (X₀ : K.In h₀) (N : News h₀ L s.heap news) (T : Top p loose mean mg mb h₀) (Nr : News h₀ L s.heap rest) (ap : Apart rest news) (hA : A.frames = some (env :: outer)) (hf : env.frame = some L) (hke : env.scope.kind = .function)
    (ho : K.lookup f = some ⟨oc, od, .func (fnOf name qual params body scope dV kV doc pm an cdv ct), osl⟩) (hcd : codeIn K cdv qual = true) (hroom : A.depth < recursionLimit)
    (hbind : BindsTo s (fnOf name qual params body scope dV kV doc pm an cdv ct) args binds) (hloc : ∀ y ∈ binds, scope.names.lookup y.1 = some .local)
    (h : ∀ g L' h₁, Fr h₀ L g m → Fr g L' h₁ (fun y => binds.reverse.lookup y) → News g L' h₁ news → Below A base (env :: outer) g → K.In g → Top p loose mean mg mb g → KeptBut s.heap news g →
      wpAny (model prog w) (A.deeper (envOf qual scope L' f cdv)) (execs body (envOf qual scope L' f cdv))
        (fun fl s' => LeaveK h₀ L m g (RestR h₀ L rest R) (match fl with | .ret v => v | _ => .none) s')
        (fun e s' => wpAny (model prog w) (A.deeper (envOf qual scope L' f cdv)) (leaving (envOf qual scope L' f cdv) e) (fun _ s'' => R (.error e) s'') (fun e' s'' => R (.error e') s'') s')
        { s with heap := h₁, toks := s.toks + binds.length })
    (hco : scope.isCoroutine = false) (hgen : scope.isGenerator = false) (hk : scope.kind = .function)
    (hcell : ∀ x ∈ scope.names, x.2 ≠ .cell) : codeAny (model prog w) A (.call (.ref f) args) R s := by
  obtain ⟨FG, BG, st, lv⟩ := groundX (R := R) B F N hA hf hke
  refine codeAny_call_def (fd := fnX name qual params body scope [] dV kV doc pm an cdv ct) (body := body) (binds := binds) hroom ((X₀.keeps F.keep) _ _ ho) rfl (T.nolimit.keeps F.keep) (codeRec_of (X₀.keeps F.keep) hcd) rfl hbind hcell hloc (fun h₁ hns hk₁ => ?_) hco hgen hk
  have kb : KeptBut s.heap news (hideAll s.heap (news.map (·.1))) := fun b o e n => hideAll_get _ e (fun q => by
    obtain ⟨p, hp, rfl⟩ := List.mem_map.mp q
    exact n p hp rfl)
  refine wpAny_mono (h _ s.heap.objs.size h₁ FG ⟨hns, fun b o e => hk₁ b o (of_hideAll _ e), Nat.le_of_eq (hideAll_size _ _)⟩
    (fun p hp => ⟨hk₁ _ _ (N p hp).1, Nat.ne_of_lt (Heap.lt_size (N p hp).1), hideAll_none _ (List.mem_map_of_mem hp)⟩) BG (X₀.keeps st) (T.keeps st) kb) (fun fl s' hl => lv _ _ ?_) fun _ _ y => y
  obtain ⟨L', m', news', F', N', k⟩ := hl
  refine ⟨L', m', news', F', N', fun a b => ?_⟩
  have := k a b
  exact this fun q hq => ⟨F'.keep _ _ (kb _ _ (Nr q hq).1 (ap q hq)), (Nr q hq).2⟩
end
end Mine
end Part_FRM

section Part_PL
open PySem PySem.W PyProof.Rows
namespace Mine


theorem and_nat (a b : Nat) : Builtin.bitAnd (a : Int) (b : Int) = ((a &&& b : Nat) : Int) := by
  rw [bitAnd_pp (Int.natCast_nonneg _) (Int.natCast_nonneg _)]; simp
theorem add_xor (a b : Nat) : a + b = (a ^^^ b) + 2 * (a &&& b) := by
  induction a using Nat.div2Induction generalizing b with
  | ind n ih =>
    by_cases hn : n = 0
    · subst hn; simp
    · have h := ih (by omega) (b / 2)
      have e1 : (n ^^^ b) / 2 = (n / 2) ^^^ (b / 2) := by
        apply Nat.eq_of_testBit_eq; intro i; simp [Nat.testBit_div_two]
      have e2 : (n &&& b) / 2 = (n / 2) &&& (b / 2) := by
        apply Nat.eq_of_testBit_eq; intro i; simp [Nat.testBit_div_two]
      have m1 := Nat.xor_mod_two_eq_one (a := n) (b := b)
      have m2 := Nat.and_mod_two_eq_one (a := n) (b := b)
      rw [← e1, ← e2] at h
      have k1 := Nat.div_add_mod (n ^^^ b) 2
      have k2 := Nat.div_add_mod (n &&& b) 2
      have k3 := Nat.div_add_mod n 2
      have k4 := Nat.div_add_mod b 2
      have j1 := Nat.mod_two_eq_zero_or_one (n ^^^ b)
      have j2 := Nat.mod_two_eq_zero_or_one (n &&& b)
      generalize (n ^^^ b) / 2 = X at *
      generalize (n &&& b) / 2 = Y at *
      generalize (n ^^^ b) % 2 = x at *
      generalize (n &&& b) % 2 = y at *
      rcases Nat.mod_two_eq_zero_or_one n with h1 | h1 <;> rcases Nat.mod_two_eq_zero_or_one b with h2 | h2 <;> simp [h1, h2] at m1 m2 k3 k4 <;> omega
theorem xor_nat (a b : Nat) : Builtin.bitXor (a : Int) (b : Int) = ((a ^^^ b : Nat) : Int) := by
  rw [bitXor_and, and_nat]
  have := add_xor a b
  omega
def stepN (tb ps c : Nat) : Nat := if c &&& tb = 0 then c * 2 else (c * 2) ^^^ ps
def itN (tb ps : Nat) : Nat → Nat → Nat
  | 0, c => c
  | n + 1, c => stepN tb ps (itN tb ps n c)
theorem itN_lt {tb ps c : Nat} (hp : ps < 131072) (hc : c < 131072) : ∀ n, itN tb ps n c < 2 ^ (17 + n)
  | 0 => by show c < 2 ^ 17; exact hc
  | n + 1 => by
    have ih := itN_lt (tb := tb) hp hc n
    have h2 : itN tb ps n c * 2 < 2 ^ (17 + (n + 1)) := by rw [show 17 + (n + 1) = (17 + n) + 1 from rfl, Nat.pow_succ]; omega
    have h3 : ps < 2 ^ (17 + (n + 1)) := Nat.lt_of_lt_of_le (show ps < 2 ^ 17 from hp) (Nat.pow_le_pow_right (by decide) (by omega))
    show stepN tb ps (itN tb ps n c) < _
    unfold stepN
    split
    · exact h2
    · exact Nat.xor_lt_two_pow h2 h3
def crcN (n w P c0 k : Nat) : Nat := (itN (2 ^ (n + w - 1)) (P * 2 ^ w) w ((c0 * 2 ^ w) ^^^ (k * 2 ^ n)) &&& (2 ^ (n + w) - 1)) / 2 ^ w
theorem pow_nat (n : Nat) (k : Int) : (n : Int) * 2 ^ k.toNat = ((n * 2 ^ k.toNat : Nat) : Int) := by push_cast; rfl
theorem start_ok {c0 k n dw : Int} (hc0 : 0 ≤ c0) (hc1 : c0 < 128) (hk0 : 0 ≤ k) (hk2 : k < 1024) (hn0 : 0 < n) (hn1 : n ≤ 7) (hw0 : 0 < dw) (hw1 : dw ≤ 10) :
    0 ≤ Builtin.bitXor (c0 * 2 ^ dw.toNat) (k * 2 ^ n.toNat) ∧ Builtin.bitXor (c0 * 2 ^ dw.toNat) (k * 2 ^ n.toNat) < 131072 := by
  obtain ⟨c, rfl⟩ := Int.eq_ofNat_of_zero_le hc0
  obtain ⟨q, rfl⟩ := Int.eq_ofNat_of_zero_le hk0
  rw [pow_nat, pow_nat, xor_nat]
  have h1 : 2 ^ dw.toNat ≤ 2 ^ 10 := Nat.pow_le_pow_right (by decide) (by omega)
  have h2 : 2 ^ n.toNat ≤ 2 ^ 7 := Nat.pow_le_pow_right (by decide) (by omega)
  have h3 : c * 2 ^ dw.toNat < 2 ^ 17 := Nat.lt_of_lt_of_le (Nat.mul_lt_mul_of_pos_right (show c < 128 by omega) (Nat.pow_pos (by decide))) (by omega)
  have h4 : q * 2 ^ n.toNat < 2 ^ 17 := Nat.lt_of_lt_of_le (Nat.mul_lt_mul_of_pos_right (show q < 1024 by omega) (Nat.pow_pos (by decide))) (by omega)
  have h5 := Nat.xor_lt_two_pow h3 h4
  exact ⟨Int.natCast_nonneg _, Int.ofNat_lt.mpr (Nat.lt_of_lt_of_le h5 (by decide : 2 ^ 17 ≤ 131072))⟩
theorem st_start {x : Int} {tb ps : Nat} (h : 0 ≤ x ∧ x < 131072) : x = ((itN tb ps ([] : List Int).length x.toNat : Nat) : Int) ∧ 0 ≤ x ∧ x < 1099511627776 := by
  refine ⟨?_, h.1, Int.lt_trans h.2 (by decide)⟩
  show x = ((x.toNat : Nat) : Int)
  omega
theorem st_bound {tb ps x l : Nat} (hp : ps < 131072) (hx : x < 131072) (hl : l ≤ 10) : 0 ≤ ((itN tb ps l x : Nat) : Int) ∧ ((itN tb ps l x : Nat) : Int) < 1099511627776 := by
  refine ⟨Int.natCast_nonneg _, ?_⟩
  have h := itN_lt (tb := tb) hp hx l
  have h2 : 2 ^ (17 + l) ≤ 2 ^ 40 := Nat.pow_le_pow_right (by decide) (by omega)
  exact Int.ofNat_lt.mpr (Nat.lt_of_lt_of_le h (Nat.le_trans h2 (by decide : 2 ^ 40 ≤ 1099511627776)))
theorem st_turn {c TB PS x : Int} {pre : List Int} {i : Int} (hc : c = ((itN TB.toNat PS.toNat pre.length x.toNat : Nat) : Int)) (hT : 0 ≤ TB) (hP : 0 ≤ PS) (hP2 : PS < 131072) (hx : 0 ≤ x ∧ x < 131072) (hl : pre.length < 10)
    {c' : Int} (h : c' = if Builtin.bitAnd c TB = 0 then c * 2 else Builtin.bitXor (c * 2) PS) :
    c' = ((itN TB.toNat PS.toNat (pre ++ [i]).length x.toNat : Nat) : Int) ∧ 0 ≤ c' ∧ c' < 1099511627776 := by
  have e : c' = ((itN TB.toNat PS.toNat (pre.length + 1) x.toNat : Nat) : Int) := by
    rw [h]
    obtain ⟨T, rfl⟩ := Int.eq_ofNat_of_zero_le hT
    obtain ⟨P, rfl⟩ := Int.eq_ofNat_of_zero_le hP
    show _ = ((stepN _ _ (itN _ _ pre.length _) : Nat) : Int)
    rw [hc]
    generalize itN _ _ pre.length _ = N
    simp only [Int.toNat_natCast]
    unfold stepN
    rw [and_nat, show ((N : Int) * 2) = ((N * 2 : Nat) : Int) by push_cast; rfl, xor_nat]
    by_cases q : N &&& T = 0
    · rw [if_pos (by rw [q]; rfl), if_pos q]
    · rw [if_neg (by intro z; exact q (by exact_mod_cast z)), if_neg q]
  rw [List.length_append, List.length_singleton, e]
  exact ⟨rfl, st_bound (by omega) (by omega) (by omega)⟩
theorem st_ifN {c TB PS : Int} (h : Builtin.bitAnd c TB ≠ 0) : Builtin.bitXor (c * 2 ^ Int.toNat 1) PS = if Builtin.bitAnd c TB = 0 then c * 2 else Builtin.bitXor (c * 2) PS := by rw [if_neg h]; rfl
theorem st_ifP {c TB PS : Int} (h : Builtin.bitAnd c TB = 0) : c * 2 ^ Int.toNat 1 = if Builtin.bitAnd c TB = 0 then c * 2 else Builtin.bitXor (c * 2) PS := by rw [if_pos h]; rfl
theorem ps_ok {P dw : Int} (hP0 : 0 ≤ P) (hP1 : P < 128) (hw0 : 0 < dw) (hw1 : dw ≤ 10) : 0 ≤ P * 2 ^ dw.toNat ∧ P * 2 ^ dw.toNat < 131072 := by
  obtain ⟨c, rfl⟩ := Int.eq_ofNat_of_zero_le hP0
  rw [pow_nat]
  have h1 : 2 ^ dw.toNat ≤ 2 ^ 10 := Nat.pow_le_pow_right (by decide) (by omega)
  have h3 : c * 2 ^ dw.toNat < 2 ^ 17 := Nat.lt_of_lt_of_le (Nat.mul_lt_mul_of_pos_right (show c < 128 by omega) (Nat.pow_pos (by decide))) (by omega)
  exact ⟨Int.natCast_nonneg _, Int.ofNat_lt.mpr (Nat.lt_of_lt_of_le h3 (by decide : 2 ^ 17 ≤ 131072))⟩
theorem crc_end {c n dw P c0 k : Int} {pre : List Int} (hc : c = ((itN ((1 : Int) * 2 ^ (n + dw - 1).toNat).toNat (P * 2 ^ dw.toNat).toNat pre.length (Builtin.bitXor (c0 * 2 ^ dw.toNat) (k * 2 ^ n.toNat)).toNat : Nat) : Int))
    (hl : pre.length = dw.toNat) (hn : 0 < n) (hw : 0 < dw) (hP : 0 ≤ P) (hc0 : 0 ≤ c0) (hk : 0 ≤ k) :
    Builtin.bitXor ((Builtin.bitAnd c (1 * 2 ^ (n + dw).toNat - 1)).fdiv (2 ^ dw.toNat)) 0 = ((crcN n.toNat dw.toNat P.toNat c0.toNat k.toNat : Nat) : Int) := by
  obtain ⟨n, rfl⟩ := Int.eq_ofNat_of_zero_le (Int.le_of_lt hn)
  obtain ⟨dw, rfl⟩ := Int.eq_ofNat_of_zero_le (Int.le_of_lt hw)
  obtain ⟨P, rfl⟩ := Int.eq_ofNat_of_zero_le hP
  obtain ⟨c0, rfl⟩ := Int.eq_ofNat_of_zero_le hc0
  obtain ⟨k, rfl⟩ := Int.eq_ofNat_of_zero_le hk
  have e1 : ((n : Int) + (dw : Int) - 1).toNat = n + dw - 1 := by omega
  have e2 : ((n : Int) + (dw : Int)).toNat = n + dw := by omega
  rw [hc, hl, e1, e2, bitXor_zero, Int.one_mul, Int.one_mul]
  simp only [Int.toNat_natCast]
  have e3 : ((2 : Int) ^ (n + dw) - 1) = ((2 ^ (n + dw) - 1 : Nat) : Int) := by
    have h9 : 0 < 2 ^ (n + dw) := Nat.pow_pos (show 0 < 2 by decide)
    rw [show ((2 : Int) ^ (n + dw)) = ((2 ^ (n + dw) : Nat) : Int) by push_cast; rfl]
    generalize 2 ^ (n + dw) = z at h9
    omega
  have e4 : ((2 : Int) ^ (n + dw - 1)).toNat = 2 ^ (n + dw - 1) := by
    rw [show ((2 : Int) ^ (n + dw - 1)) = ((2 ^ (n + dw - 1) : Nat) : Int) by push_cast; rfl]; rfl
  have e5 : ((P : Int) * 2 ^ dw) = ((P * 2 ^ dw : Nat) : Int) := by push_cast; rfl
  have e6 : ((c0 : Int) * 2 ^ dw) = ((c0 * 2 ^ dw : Nat) : Int) := by push_cast; rfl
  have e7 : ((k : Int) * 2 ^ n) = ((k * 2 ^ n : Nat) : Int) := by push_cast; rfl
  rw [e3, e4, e5, e6, e7, xor_nat, and_nat]
  simp only [Int.toNat_natCast]
  rw [show ((2 : Int) ^ dw) = ((2 ^ dw : Nat) : Int) by push_cast; rfl]
  unfold crcN
  rw [Int.fdiv_eq_ediv_of_nonneg _ (Int.natCast_nonneg _)]
  rfl
end Mine
end Part_PL

section Part_CP
open PySem PySem.W PyProof.Rows
namespace Mine
local macro_rules | `(tactic| walk_at "m_pad_0") => `(tactic| fail)
local macro_rules | `(tactic| walk_at "m_pad_1") => `(tactic| fail)
local macro_rules | `(tactic| walk_at "m_pad_2") => `(tactic| fail)
local macro_rules | `(tactic| walk_at "m_pad_3") => `(tactic| fail)
local macro_rules | `(tactic| walk_at "m_pad_4") => `(tactic| fail)
local macro_rules | `(tactic| walk_at "m_pad_5") => `(tactic| fail)
local macro_rules | `(tactic| walk_at "m_pad_6") => `(tactic| fail)
local macro_rules | `(tactic| walk_at "m_pad_7") => `(tactic| fail)
local macro_rules | `(tactic| walk_at "m_pad_8") => `(tactic| fail)
local macro_rules | `(tactic| walk_at "m_pad_9") => `(tactic| fail)
local macro_rules | `(tactic| walk_at "m_pad_10") => `(tactic| fail)
local macro_rules | `(tactic| walk_at "m_pad_11") => `(tactic| fail)
local macro_rules | `(tactic| walk_at "m_pad_12") => `(tactic| fail)
local macro_rules | `(tactic| walk_at "m_pad_13") => `(tactic| fail)
local macro_rules | `(tactic| walk_at "m_pad_14") => `(tactic| fail)
local macro_rules | `(tactic| walk_at "m_pad_15") => `(tactic| fail)
set_option maxRecDepth 100000
set_option maxHeartbeats 2000000 

def parD (g : Nat → Int) (u : Nat → Nat) (n P c0 dw : Int) (t : Nat → Nat) (k : Nat) : Obj :=
  dictOf [⟨g 0, .str (Str.ofString "_crc_width") (u 0), .int n (t 0)⟩, ⟨g 1, .str (Str.ofString "_polynomial") (u 1), .int P (t 1)⟩, ⟨g 2, .str (Str.ofString "_initial_crc") (u 2), .int c0 (t 2)⟩,
    ⟨g 3, .str (Str.ofString "_reflect_input") (u 3), .bool false⟩, ⟨g 4, .str (Str.ofString "_reflect_output") (u 4), .bool false⟩, ⟨g 5, .str (Str.ofString "_xor_output") (u 5), .int 0 (t 5)⟩, ⟨g 6, .str (Str.ofString "data_width") (u 6), .int dw (t 6)⟩] k

local macro_rules | `(tactic| walk_at "m_enterR") => `(tactic| (refine' code_defR ?k1 ?k2 ?k3 ?k4 ?k5 ?kr ?ka ?kA ?kF ?kK ?k6 ?k7 ?k8 ?k9 ?kB ?_ ?c2 ?c3 ?c4 ?c5; (case ka => assumption); (case kA => exact rfl); (case kF => exact rfl); (case kK => assumption); (case k1 => k_asm); (case k2 => k_asm); (case k3 => k_asm); (case k4 => assumption); (case k5 => k_asm); (case kr => assumption); (case k6 => k_is); (case k7 => k_is); (case k8 => ktr_room); (case k9 => exact BindsTo.of_eq rfl); (case c5 => decide); (case kB => exact locs rfl); (case c2 => exact rfl); (case c3 => exact rfl); (case c4 => exact rfl); k_whole; intro g' L' h' FG' F' N' B' X' T' KB'; (try dsimp only); (try k_lift B'); (try k_fold)))
theorem compute_spec : ∀ {w : World} {mean : ExcName → Option Value} {mg mb : Str → Option Value}
    (dp un : Nat) (gd : Option (List Code)) (cn : Str) (cs : Scope) (a : Addr) (ccd : Value) (cl : List (Str × Addr)) (outer : List Env) (A₀ : Around) (base h₀ : Heap) (L : Addr) (m : Str → Option Value) (s : Shared) (Q E : Value → Shared → Prop)
    (x dx dl : Addr) (g : Nat → Int) (u t : Nat → Nat) (n P c0 dw : Int) (kk nl : Nat) (k : Int) (tk : Tok) (rest : List (Addr × Obj))
    (B : Below A₀ base outer h₀) (F : Fr h₀ L s.heap m) (X : (hd.heap_39 w.params).In h₀)
    (N : News h₀ L s.heap ((x, instObj 137 dx) :: (dx, parD g u n P c0 dw t kk) :: (dl, listOf #[.int k tk] nl) :: []))
    (Nr : News h₀ L s.heap rest) (ap : Apart rest ((x, instObj 137 dx) :: (dx, parD g u n P c0 dw t kk) :: (dl, listOf #[.int k tk] nl) :: []))
    (T : Top hd.view_39 (looseW hd.view_39 [Str.ofString "Parameters"]) mean mg mb h₀) (hk : cs.kind = .function)
    (hn0 : 0 < n) (hn1 : n ≤ 7) (hw0 : 0 < dw) (hw1 : dw ≤ 10) (hP0 : 0 ≤ P) (hP1 : P < 128) (hc0 : 0 ≤ c0) (hc1 : c0 < 128) (hk0 : 0 ≤ k) (hk1 : k ≤ 1 * 2 ^ dw.toNat - 1) (hk2 : k < 1024)
    (hd : dp + 1 < recursionLimit) (hu : un + 8 < cLine)
    (ret : ∀ (t' : Tok) (h' : Heap) (tk' : Nat), Fr h₀ L h' m → News h₀ L h' rest →
      News h₀ L h' ((x, instObj 137 dx) :: (dx, parD g u n P c0 dw t kk) :: (dl, listOf #[.int k tk] nl) :: []) → Q (.int ((crcN n.toNat dw.toNat P.toNat c0.toNat k.toNat : Nat) : Int) t') { s with heap := h', toks := tk' }),
    wpAny (model PySem.Challenge.rw_et5001_01.row.prog w) (ktrTop dp un gd cn cs L a ccd cl outer) (call (.ref 112) [.ref x, .ref dl]) Q E s := by
  w_on
  w_top off
  k_with_none
  k_fill
  intro w mean mg mb dp un gd cn cs a ccd cl outer A₀ base h₀ L m s Q E x dx dl g u t n P c0 dw kk nl k tk rest B F X N Nr ap T hk hn0 hn1 hw0 hw1 hP0 hP1 hc0 hc1 hk0 hk1 hk2 hd hu ret
  unfold parD at N ap
  refine wpAny_call ?_
  k_dflt (walk_at "m_enterR")
  have hx := start_ok hc0 hc1 hk0 hk2 hn0 hn1 hw0 hw1
  k_with "pyIter ref" => k_state_given ["crc!", "top_bit", "poly_shifted"] (fun (crc0 tb ps : Int) (pre : List Int) (crc : Int) => crc = ((itN tb.toNat ps.toNat pre.length crc0.toNat : Nat) : Int) ∧ 0 ≤ crc ∧ crc < 1099511627776) "crc"
  have hT : 0 ≤ 1 * (2 : Int) ^ (n + dw - 1).toNat := by rw [Int.one_mul]; exact Int.le_of_lt (Int.pow_pos (by decide))
  have hPS := ps_ok hP0 hP1 hw0 hw1
  k_with "state" => (first | exact st_start (by assumption) | exact st_turn (by assumption) hT hPS.1 hPS.2 hx (by omega) (st_ifN (by assumption)) | exact st_turn (by assumption) hT hPS.1 hPS.2 hx (by omega) (st_ifP (by assumption)))
  k_steps
  dsimp only [RestR]
  intro kNr
  rw [crc_end (pre := rangeKs 0 (dw - 0).toNat) (by assumption) (by rw [rangeKs_length, Int.sub_zero]) hn0 hw0 hP0 hc0 hk0]
  exact ret _ _ _ (by assumption) kNr (by assumption)
end Mine
end Part_CP

section Part_CU
open PySem PySem.W PyProof.Rows
namespace Mine

set_option maxRecDepth 100000
inductive Pick (q : Addr × Obj) : List (Addr × Obj) → List (Addr × Obj) → Prop
  | head {r} : Pick q (q :: r) r
  | tail {p r r'} : Pick q r r' → Pick q (p :: r) (p :: r')
theorem Pick.mem {q : Addr × Obj} {l r : List (Addr × Obj)} (h : Pick q l r) : ∀ p ∈ q :: r, p ∈ l := by
  induction h with
  | head => exact fun p hp => hp
  | tail _ ih =>
    intro p hp
    rcases List.mem_cons.mp hp with rfl | hp
    · exact List.mem_cons_of_mem _ (ih _ (List.mem_cons_self))
    · rcases List.mem_cons.mp hp with rfl | hp
      · exact List.mem_cons_self
      · exact List.mem_cons_of_mem _ (ih _ (List.mem_cons_of_mem _ hp))
theorem Pick.all {q : Addr × Obj} {l r : List (Addr × Obj)} (h : Pick q l r) : ∀ p ∈ l, p ∈ q :: r := by
  induction h with
  | head => exact fun p hp => hp
  | tail _ ih =>
    intro p hp
    rcases List.mem_cons.mp hp with rfl | hp
    · exact List.mem_cons_of_mem _ List.mem_cons_self
    · rcases List.mem_cons.mp (ih _ hp) with rfl | hp
      · exact List.mem_cons_self
      · exact List.mem_cons_of_mem _ (List.mem_cons_of_mem _ hp)
theorem allLt_mem {d : Addr} : ∀ {l : List (Addr × Obj)}, AllLt d l → ∀ p ∈ l, p.1 ≠ d
  | [], _, _, h => nomatch h
  | _ :: _, h, p, hp => by
    rcases List.mem_cons.mp hp with rfl | hp
    · exact Nat.ne_of_lt h.1
    · exact allLt_mem h.2 p hp

def pick7 (a b c d e f g : Nat) : Nat → Nat
  | 0 => a | 1 => b | 2 => c | 3 => d | 4 => e | 5 => f | _ => g
def pick7I (a b c d e f g : Int) : Nat → Int
  | 0 => a | 1 => b | 2 => c | 3 => d | 4 => e | 5 => f | _ => g

theorem compute_use {w : World} {mean : ExcName → Option Value} {mg mb : Str → Option Value}
    {dp un : Nat} {gd : Option (List Code)} {cn : Str} {cs : Scope} {a : Addr} {ccd : Value} {cl : List (Str × Addr)} {outer : List Env} {A₀ : Around} {base h₀ : Heap} {L : Addr} {m : Str → Option Value} {s : Shared} {Q E : Value → Shared → Prop}
    {x dx dl : Addr} {g0 g1 g2 g3 g4 g5 g6 : Int} {u0 u1 u2 u3 u4 u5 u6 t0 t1 t2 t5 t6 : Nat} {n P c0 dw : Int} {kk nl : Nat} {k : Int} {tk : Tok} {news r1 r2 rest : List (Addr × Obj)}
    (B : Below A₀ base outer h₀) (F : Fr h₀ L s.heap m) (X : (hd.heap_39 w.params).In h₀)
    (N : News h₀ L s.heap news)
    (T : Top hd.view_39 (looseW hd.view_39 [Str.ofString "Parameters"]) mean mg mb h₀) (hk : cs.kind = .function)
    (p1 : Pick (x, instObj 137 dx) news r1)
    (p2 : Pick (dx, dictOf [⟨g0, .str (Str.ofString "_crc_width") u0, .int n t0⟩, ⟨g1, .str (Str.ofString "_polynomial") u1, .int P t1⟩, ⟨g2, .str (Str.ofString "_initial_crc") u2, .int c0 t2⟩,
      ⟨g3, .str (Str.ofString "_reflect_input") u3, .bool false⟩, ⟨g4, .str (Str.ofString "_reflect_output") u4, .bool false⟩, ⟨g5, .str (Str.ofString "_xor_output") u5, .int 0 t5⟩, ⟨g6, .str (Str.ofString "data_width") u6, .int dw t6⟩] kk) r1 r2)
    (p3 : Pick (dl, listOf #[.int k tk] nl) r2 rest)
    (a1 : ∀ p ∈ rest, p.1 ≠ x) (a2 : ∀ p ∈ rest, p.1 ≠ dx) (a3 : ∀ p ∈ rest, p.1 ≠ dl)
    (hn0 : 0 < n) (hn1 : n ≤ 7) (hw0 : 0 < dw) (hw1 : dw ≤ 10) (hP0 : 0 ≤ P) (hP1 : P < 128) (hc0 : 0 ≤ c0) (hc1 : c0 < 128) (hk0 : 0 ≤ k) (hk1 : k ≤ 1 * 2 ^ dw.toNat - 1) (hk2 : k < 1024)
    (hd : dp + 1 < recursionLimit) (hu : un + 8 < cLine)
    (ret : ∀ (t' : Tok) (h' : Heap) (tk' : Nat), Fr h₀ L h' m → News h₀ L h' news → Q (.int ((crcN n.toNat dw.toNat P.toNat c0.toNat k.toNat : Nat) : Int) t') { s with heap := h', toks := tk' }) :
    wpAny (model PySem.Challenge.rw_et5001_01.row.prog w) (ktrTop dp un gd cn cs L a ccd cl outer) (call (.ref 112) [.ref x, .ref dl]) Q E s := by
  have hm1 : ∀ p ∈ (x, instObj 137 dx) :: r1, p ∈ news := p1.mem
  have hm2 := p2.mem
  have hm3 := p3.mem
  refine compute_spec _ _ _ _ _ _ _ _ _ _ _ _ _ _ s Q E x dx dl (pick7I g0 g1 g2 g3 g4 g5 g6) (pick7 u0 u1 u2 u3 u4 u5 u6) (pick7 t0 t1 t2 0 0 t5 t6) n P c0 dw kk nl k tk rest B F X ?_ ?_ ?_ T hk hn0 hn1 hw0 hw1 hP0 hP1 hc0 hc1 hk0 hk1 hk2 hd hu ?_
  · intro p hp
    rcases List.mem_cons.mp hp with rfl | hp
    · exact N _ (hm1 _ List.mem_cons_self)
    · rcases List.mem_cons.mp hp with rfl | hp
      · exact N _ (hm1 _ (List.mem_cons_of_mem _ (hm2 _ List.mem_cons_self)))
      · rw [List.mem_singleton.mp hp]
        exact N _ (hm1 _ (List.mem_cons_of_mem _ (hm2 _ (List.mem_cons_of_mem _ (hm3 _ List.mem_cons_self)))))
  · exact fun p hp => N _ (hm1 _ (List.mem_cons_of_mem _ (hm2 _ (List.mem_cons_of_mem _ (hm3 _ (List.mem_cons_of_mem _ hp))))))
  · intro p hp q hq
    rcases List.mem_cons.mp hq with rfl | hq
    · exact a1 p hp
    · rcases List.mem_cons.mp hq with rfl | hq
      · exact a2 p hp
      · rw [List.mem_singleton.mp hq]; exact a3 p hp
  · intro t' h' tk' F' Nr N'
    refine ret t' h' tk' F' fun p hp => ?_
    rcases List.mem_cons.mp (p1.all p hp) with rfl | hp
    · exact N' _ List.mem_cons_self
    · rcases List.mem_cons.mp (p2.all p hp) with rfl | hp
      · exact N' _ (List.mem_cons_of_mem _ List.mem_cons_self)
      · rcases List.mem_cons.mp (p3.all p hp) with rfl | hp
        · exact N' _ (List.mem_cons_of_mem _ (List.mem_cons_of_mem _ List.mem_cons_self))
        · exact Nr p hp
end Mine
end Part_CU

section Part_RV
open PySem PySem.W PyProof.Rows PySem.Calls
set_option maxRecDepth 100000
namespace Mine

theorem slot_rv_next : Slot "reversed" "__next__" "reversed.__next__" :=
  .of (owner := "reversed") (n := "__next__") (by rw [typeLookup_type, builtinLookup_eq_fast]; kernel_rfl) (by decide +kernel) (by decide +kernel) (by decide +kernel)
    (by first | exact .inl (by decide +kernel) | exact .inr (by decide +kernel)) (by rw [isSubtype_type]; kernel_rfl)
theorem entry_rv_next : entryFor table "reversed.__next__" = some Builtin.«reversed.__next__» := entryFor_of_tree (by kernel_rfl)
theorem args_rv_next (a : Value) : argsOk "reversed.__next__" ⟨[a], []⟩ := by unfold argsOk; kernel_rfl
theorem slot_rv_iter : Slot "reversed" "__iter__" "reversed.__iter__" :=
  .of (owner := "reversed") (n := "__iter__") (by rw [typeLookup_type, builtinLookup_eq_fast]; kernel_rfl) (by decide +kernel) (by decide +kernel) (by decide +kernel)
    (by first | exact .inl (by decide +kernel) | exact .inr (by decide +kernel)) (by rw [isSubtype_type]; kernel_rfl)
theorem args_rv_iter (a : Value) : argsOk "reversed.__iter__" ⟨[a], []⟩ := by unfold argsOk; kernel_rfl
theorem entry_rv_iter : entryFor table "reversed.__iter__" = some Builtin.«dict_keyiterator.__iter__» :=
  entryFor_alias (id' := "dict_keyiterator.__iter__") (by kernel_rfl) (by first | rfl | decide +kernel | (unfold String.splitOn; simp +decide [String.splitOnAux])) (by decide +kernel) (by kernel_rfl)
theorem slot_rv_init : Slot "reversed" "__init__" "object.__init__" :=
  .of (owner := "object") (n := "__init__") (by rw [typeLookup_type, builtinLookup_eq_fast]; kernel_rfl) (by decide +kernel) (by decide +kernel) (by decide +kernel)
    (by first | exact .inl (by decide +kernel) | exact .inr (by decide +kernel)) (by rw [isSubtype_type]; kernel_rfl)
theorem called_reversed : TypeCalled "reversed" "reversed.__new__" "object.__init__" :=
  ⟨by decide +kernel, by decide +kernel, ⟨_, _, F.mro_reversed⟩, F.made_reversed, by decide +kernel, F.sub_reversed_self, slot_rv_init⟩
theorem no_rv_str : typeLookup (.type "str") "__reversed__" = pure none := by rw [typeLookup_type, builtinLookup_eq_fast]; kernel_rfl
abbrev rvObj (x : Str) (t : Tok) (i : Int) : Obj := { cls := .type "reversed", data := .fields #[.str x t, rawInt i] }
theorem meets_reversed_newS (x : Str) (t : Tok) (hx : ¬ (x.length : Int) ≥ 2 ^ 63) :
    Meets (Builtin.«reversed.__new__» ⟨[.type "reversed", .str x t], []⟩) (fun _ R s =>
      R (.ok (.ret (.ref s.heap.objs.size))) { s with heap := s.heap.push (rvObj x t ((x.length : Int) - 1)), toks := s.toks + 1 + 1 }) :=
  .of_wp fun prog w A R s h => by
    have hsub := F.sub_reversed_self
    have hno := no_rv_str
    unfold Builtin.«reversed.__new__»
    refine wpAny_bind (wpAny_of_eq (newClass_reversed _) ?_)
    try dsimp only
    refine wpAny_bind (wpAny_of_eq (a := ()) (by first | rfl | kernel_rfl) ?_)
    refine wpAny_bind (wpAny_of_eq (a := ()) (by first | rfl | kernel_rfl) ?_)
    try dsimp only
    refine wpAny_bind (wpAny_of_eq (a := none) (by first | rfl | kernel_rfl!) ?_)
    dsimp only
    refine wpAny_bind (wpAny_of_eq (a := true) (by first | rfl | kernel_rfl!) ?_)
    simp only [Bool.not_true, Bool.false_eq_true, if_false]
    refine wpAny_bind (len_str hx ?_)
    refine wpAny_bind (wpAny_of_eq (a := some (x.length : Int)) rfl ?_)
    dsimp only
    refine wpAny_bind (m := Builtin.SmallTypes.newRecord _ _) (show wpAny _ _ (newObj (.type "reversed") (.fields #[.str x t, rawInt ((x.length : Int) - 1)])) _ _ _ from wpAny_newObj_type ?_)
    exact wpAny_pure ⟨_, rfl, h⟩
theorem typeCall_rv (a : Value) : checkTypeCall "reversed" ⟨[a], []⟩ = pure () := by kernel_rfl
theorem call_reversed_str {prog : Program} {w : World} {A : Around} {E : Value → Shared → Prop} {s : Shared} {x : Str} {t : Tok} {Q : Value → Shared → Prop} (hx : ¬ (x.length : Int) ≥ 2 ^ 63)
    (h : Q (.ref s.heap.objs.size) { s with heap := s.heap.push (rvObj x t ((x.length : Int) - 1)), toks := s.toks + 1 + 1 }) :
    wpAny (model prog w) A (call (.type "reversed") [.str x t]) Q E s := by
  refine callType_new called_reversed (by decide) (typeCall_rv _) (F.newCall_reversed_1 _) (fun obj => F.args_object_init_2 obj _) F.entry_reversed_new (meets_reversed_newS x t hx) ?_
  exact ⟨⟨_, Heap.get?_push_size _ rfl, rfl⟩, h⟩
def IsRv (h : Heap) (a : Addr) (x : Str) (t : Tok) (i : Int) : Prop := ∃ o, h.get? a = some o ∧ o.cls = .type "reversed" ∧ o.data = .fields #[.str x t, rawInt i]
theorem IsRv.typeIs {s : Shared} {a : Addr} {x : Str} {t : Tok} {i : Int} (h : IsRv s.heap a x t i) : s.TypeIs (.ref a) "reversed" := let ⟨o, ho, hc, _⟩ := h; ⟨o, ho, hc⟩
theorem IsRv.at {h h' : Heap} {a : Addr} {x : Str} {t : Tok} {i : Int} (k : IsRv h a x t i) (e : ∀ o, h.get? a = some o → h'.get? a = some o) : IsRv h' a x t i := let ⟨o, ho, r⟩ := k; ⟨o, e _ ho, r⟩
theorem rv_item {prog : Program} {w : World} {A : Around} {E : Value → Shared → Prop} {s : Shared} {it : Addr} {x : Str} {t : Tok} {i : Nat} {c : Nat} {Q : Option Value → Shared → Prop} (hit : IsRv s.heap it x t (i : Int)) (hx : x.cps[i]? = some c) (hsz : x.length < 1000000)
    (hQ : ∀ h' tk tk', IsRv h' it x t ((i : Int) - 1) → Heap.SameBut it s.heap h' → Q (some (.str ⟨#[c]⟩ tk)) { s with heap := h', toks := tk' }) : wpAny (model prog w) A (pyNext (.ref it)) Q E s := by
  obtain ⟨o, ho, hc, hd⟩ := id hit
  unfold pyNext
  refine wpAny_bind (wpAny_attempt (wpAny_callSpecial?_slot (name := Str.ofString "__next__") hit.typeIs slot_rv_next
    (wpAny_call_entry slot_rv_next hit.typeIs entry_rv_next ?_ (args_rv_next _))))
  unfold Builtin.«reversed.__next__»
  refine wpAny_bind (wpAny_of_eq (a := (Value.ref it, [])) rfl ?_)
  try dsimp only
  refine wpAny_bind (wpAny_field ho hd (x := .str x t) rfl ?_)
  refine wpAny_bind (wpAny_field ho hd (x := rawInt (i : Int)) rfl ?_)
  show wpAny _ _ (if (i : Int) < 0 then _ else _) _ _ s
  rw [if_neg (by omega)]
  refine wpAny_bind (wpAny_of_eq (a := some (Value.builtin "str.__getitem__")) (by first | rfl | kernel_rfl!) ?_)
  simp only [Option.isNone_some, Bool.false_eq_true, if_false]
  refine wpAny_bind (wpAny_mkInt ?_)
  have hlt : i < x.cps.size := (Array.getElem?_eq_some_iff.mp hx).1
  have hsi : (seqIndex? (i : Int) x.length).bind (x.cps[·]?) = some c := by
    have e : seqIndex? (i : Int) x.length = some i := by
      unfold seqIndex?
      simp [show ¬ ((i : Int) < 0) by omega, show i < x.length from hlt]
    rw [e]; exact hx
  have hi : i < 1000000 := Nat.lt_trans (show i < x.length from hlt) hsz
  refine wpAny_bind (wpAny_attempt (P.getItem_str (by simp; omega) hsi ?_))
  try dsimp only
  refine wpAny_bind (wpAny_field (s := { s with toks := s.toks + 1 + 1 }) ho hd (x := rawInt (i : Int)) rfl ?_)
  try dsimp only [rawInt]
  refine wpAny_bind (wpAny_setField (s := { s with toks := s.toks + 1 + 1 }) ho hd (by simp) ?_)
  refine wpAny_pure ⟨_, rfl, wpAny_pure (hQ _ _ _ ?_ (Heap.SameBut.update ..))⟩
  exact ⟨_, Heap.get?_update_self _ ho (Obj.isFreed_of_fields (Obj.data_mapFields hd _)), (Obj.cls_mapFields ..).trans hc, by
    rw [Obj.data_mapFields hd]; simp [rawInt]⟩
theorem rv_end {prog : Program} {w : World} {A : Around} {E : Value → Shared → Prop} {s : Shared} {it : Addr} {x : Str} {t : Tok} {Q : Option Value → Shared → Prop} (hh : A.handled = none) (hit : IsRv s.heap it x t (-1))
    (hQ : ∀ h', Heap.ExtBut it s.heap h' → Q none { s with heap := h' }) : wpAny (model prog w) A (pyNext (.ref it)) Q E s := by
  obtain ⟨o, ho, hc, hd⟩ := id hit
  unfold pyNext
  refine wpAny_bind (wpAny_attempt (wpAny_callSpecial?_slot (name := Str.ofString "__next__") hit.typeIs slot_rv_next
    (wpAny_call_entry slot_rv_next hit.typeIs entry_rv_next ?_ (args_rv_next _))))
  unfold Builtin.«reversed.__next__»
  refine wpAny_bind (wpAny_of_eq (a := (Value.ref it, [])) rfl ?_)
  try dsimp only
  refine wpAny_bind (wpAny_field ho hd (x := .str x t) rfl ?_)
  refine wpAny_bind (wpAny_field ho hd (x := rawInt (-1)) rfl ?_)
  show wpAny _ _ (if (-1 : Int) < 0 then _ else _) _ _ s
  rw [if_pos (by decide)]
  refine wpAny_bind (wpAny_rule ?_)
  refine wpAny_bind (show wpAny _ _ (do setField (.ref it) 1 (rawInt (-1)); setField (.ref it) 0 .none) _ _ _ from wpAny_bind (wpAny_setField ho hd (by simp) ?_))
  refine wpAny_setField (Heap.get?_update_self _ ho (Obj.isFreed_of_fields (Obj.data_mapFields hd _))) (Obj.data_mapFields hd _) (by simp) ?_
  refine wpAny_bind ?_
  show wpAny _ _ (newExc (.type "StopIteration") [] >>= _) _ _ _
  refine wpAny_bind ?_
  simp only [newExc, newTuple]
  refine wpAny_bind (wpAny_newObj_type ?_ (by size_fits))
  refine wpAny_bind (m := firstArgMember _ _) (wpAny_of_eq (a := Value.none) (by first | rfl | (simp only [firstArgMember]; rfl)) ?_)
  refine wpAny_newObj_type ?_ (by size_fits)
  simp only [raiseNew]
  refine wpAny_bind (wpAny_handled ?_)
  first | rw [show A.in1.handled = none from hh] | rw [hh]
  refine wpAny_bind (wpAny_pure (wpAny_throw ?_))
  refine wpAny_bind (wpAny_isInstance (T := "StopIteration") (b := true) ⟨_, Heap.get?_push_size _ rfl, rfl⟩ isSubtype_stop ?_)
  exact wpAny_pure (hQ _ ((((Heap.SameBut.update ..).trans (Heap.SameBut.update ..)).extBut).push _ |>.push _))
end Mine
end Part_RV

section Part_LC
open PySem PySem.W PyProof.Rows PySem.Calls PySem.Spec
set_option maxRecDepth 100000
namespace Mine

theorem rv_self {prog : Program} {w : World} {A : Around} {E : Value → Shared → Prop} {s : Shared} {it : Addr} {x : Str} {t : Tok} {i : Int} {Q : Value → Shared → Prop} (hit : IsRv s.heap it x t i) (h : Q (.ref it) s) : wpAny (model prog w) A (pyIter (.ref it)) Q E s := by
  refine wpAny_pyIter_slot hit.typeIs slot_rv_iter (wpAny_call_entry slot_rv_iter hit.typeIs entry_rv_iter ?_ (args_rv_iter _))
  show wpAny _ _ (ret (.ref it)) _ _ s
  exact wpAny_pure ⟨_, rfl, "reversed", _, hit.typeIs, slot_rv_next.lookup, h⟩
theorem walks_rv {prog : Program} {w : World} {A : Around} (hh : A.handled = none) (I : Addr) (x : Str) (t : Tok) (hsz : x.length < 1000000) :
    Walks prog w A I [I] [I] x.length (fun i v => ∃ c tk, x.cps[x.length - 1 - i]? = some c ∧ v = .str ⟨#[c]⟩ tk) (fun i h => i ≤ x.length ∧ IsRv h I x t ((x.length : Int) - 1 - (i : Int))) where
  sub := fun b hb => hb
  frame := fun _ _ _ st hk => ⟨st.1, st.2.at fun o e => hk I (by simp) o e⟩
  item := fun i s Q E hi st hQ => by
    have e : (x.length : Int) - 1 - (i : Int) = ((x.length - 1 - i : Nat) : Int) := by omega
    have hit := st.2
    rw [e] at hit
    have hlt : x.length - 1 - i < x.cps.size := by show x.length - 1 - i < x.length; omega
    refine rv_item hit (Array.getElem?_eq_getElem hlt) hsz fun h' tk tk' hit' hs' => ?_
    have e2 : ((x.length - 1 - i : Nat) : Int) - 1 = (x.length : Int) - 1 - ((i + 1 : Nat) : Int) := by omega
    rw [e2] at hit'
    exact hQ _ h' tk' ⟨_, tk, Array.getElem?_eq_getElem hlt, rfl⟩ ⟨hi, hit'⟩ fun b o hb eo => hs'.extBut b o (fun h => hb (by simp [h])) eo
  done := fun s Q E st hQ => by
    have e : (x.length : Int) - 1 - (x.length : Int) = -1 := by omega
    have hit := st.2
    rw [e] at hit
    exact rv_end hh hit fun h' he' => hQ h' s.toks fun b o hb eo => he' b o (fun h => hb (by simp [h])) eo
  self := fun _ _ _ _ st hQ => rv_self st.2 hQ
open LCg in
def RvSrc (prog : Program) (w : World) (A : Around) (h₀ : Heap) (L : Addr) (m : Str → Option Value) (env : Env) (elt : Expr) (x : Str) (scope : Scope) (cl : List (Str × Addr)) (Q : Value → Shared → Prop) (xv : Value) (s₁ : Shared) : Prop :=
  ∃ I tx t news, xv = .ref I ∧ A.handled = none ∧ Fr h₀ L s₁.heap m ∧ News h₀ L s₁.heap news ∧ IsRv s₁.heap I tx t ((tx.length : Int) - 1) ∧ tx.length < 1000000 ∧ L ≠ I ∧ h₀.get? I = none ∧ (∀ p ∈ news, p.1 ≠ I) ∧
      ∀ s₂ : Shared, (∃ h, s₂ = { s₁ with heap := h }) → CompRest prog w A h₀ L m env elt x scope cl s₂ (fun _ => True) (fun i v => ∃ c tk, tx.cps[tx.length - 1 - i]? = some c ∧ v = .str ⟨#[c]⟩ tk) (FinE h₀ L m s₂ Q) tx.length 0 [] news
open LCg in
theorem ListComp_R {prog : Program} {w : World} {A : Around} {E : Value → Shared → Prop} {s : Shared} {h₀ : Heap} {L : Addr} {m : Str → Option Value} {env : Env}
    {elt iter : Expr} {x : Str} {px : Pos} {scope : Scope} {cl : List (Str × Addr)} {pos : Pos} {Q : Value → Shared → Prop} (F₀ : Fr h₀ L s.heap m)
    (hclos : closureFor scope env = pure cl) (hcell : ∀ y ∈ scope.names, y.2 ≠ .cell) (hkind : scope.kind = .function)
    (hnames : ∀ y ∈ scope.names, y.2 = .local → scope.names.lookup y.1 = some .local) (hx : scope.names.lookup x = some .local)
    (h : wpAny (model prog w) A (eval iter env) (RvSrc prog w A h₀ L m env elt x scope cl Q) E s)
    (hs : ∀ x, foldedSetIterable iter env x = pure x := by intro _; rfl) :
    wpAny (model prog w) A (eval (.ListComp elt [⟨.Name x px, iter, [], 0⟩] scope pos) env) Q E s := by
  rw [eval_ListComp]
  refine wpAny_comprehension_free (use := none) rfl hs hclos hkind hnames (wpAny_mono h (fun xv s₁ h₁ => ?_) fun _ _ e => e)
  obtain ⟨I, tx, t, news, rfl, hh, F, N, hr, hsz, hLI, hI0, off, R⟩ := h₁
  refine rv_self hr ?_
  refine block_U (walks_rv hh I tx t hsz) (by rw [sizeLine_eq]; omega) (fun i h st => by obtain ⟨o, e, _⟩ := st.2; exact ⟨o, e⟩) (fun i h h' o nw st e e' _ _ _ => ⟨st.1, by obtain ⟨o', q, r⟩ := st.2; rw [e] at q; cases q; exact ⟨o, e', r⟩⟩) hcell hkind hx
    ⟨Nat.zero_le _, by simpa using hr⟩ (fun b hb => ?_) F N hLI hI0 off trivial (R s₁ ⟨s₁.heap, rfl⟩) ?_
  · rw [List.mem_singleton.mp hb]
    obtain ⟨o, e, _⟩ := hr
    exact Heap.lt_size e
  · intro D C h tk m' ys news' F' N' o1 hn hC₀ hD₀ hCL hDL hCD offC fin
    refine ⟨m', hn, fun h'' hs'' => fin D h'' tk (F'.change hs'' hCL hC₀) (fun p hp => ?_) o1⟩
    refine ⟨hs''.extBut _ _ ?_ (N' p hp).1, (N' p hp).2⟩
    rcases List.mem_cons.mp hp with rfl | hp
    · exact Ne.symm hCD
    · exact offC p hp
open LCg in
theorem rest_ints {prog : Program} {w : World} {A : Around} {s : Shared} {h₀ : Heap} {L : Addr} {m : Str → Option Value} {env : Env} {elt : Expr} {x : Str} {scope : Scope} {cl : List (Str × Addr)} {S : List (Addr × Obj) → Prop} {P : Nat → Value → Prop} {Fin : List Value → List (Addr × Obj) → Prop} {news : List (Addr × Obj)}
    {n : Nat} (g : Nat → Int)
    (turn : ∀ i v I oI C oC D m₂ ys h tk (E' : Value → Shared → Prop), i < n → P i v → NsObj oC m₂ → m₂ x = some v → Fr h₀ L h m → News h₀ L h ((I, oI) :: (C, oC) :: (D, lst ys) :: news) → Off3 I C D news → ((@Ne Nat I C) ∧ (@Ne Nat I D) ∧ (@Ne Nat C D)) →
      wpAny (model prog w) A (eval elt (compEnvC scope cl C env)) (CompEnd h₀ L m { s with heap := h, toks := tk } I oI C oC D (lst ys) S (fun y news' => KCfEl news (g i) y news')) E' { s with heap := h, toks := tk })
    (fin : ∀ ys, IntsAre ys ((List.range n).map g) → Fin ys news) : CompRest prog w A h₀ L m env elt x scope cl s S P Fin n 0 [] news := by
  have key : ∀ (j i : Nat) (ys : List Value), i + j = n → IntsAre ys ((List.range i).map g) → CompRest prog w A h₀ L m env elt x scope cl s S P Fin j i ys news := by
    intro j
    induction j with
    | zero =>
      intro i ys hi hy
      have e : i = n := by omega
      subst e
      exact CompRest.zero (fin ys hy)
    | succ j ih =>
      intro i ys hi hy
      refine CompRest.succ ?_
      intro v I oI C oC D m₂ h tk E' hv hC hx F N off ne
      refine wpAny_mono (turn i v I oI C oC D m₂ ys h tk E' (by omega) hv hC hx F N off ne) (fun y s₂ hq => ?_) fun _ _ e => e
      obtain ⟨h', tk', nw, e, F', N', off', hS, hn, t', hy'⟩ := hq
      rw [hn] at N' off' hS
      refine ⟨h', tk', news, e, F', N', off', hS, ?_⟩
      rw [hy']
      refine ih (i + 1) _ (by omega) ?_
      rw [List.range_succ, List.map_append]
      exact IntsAre.append hy (.cons (g i) t' .nil)
  exact key n 0 [] (by omega) (by simp only [List.range_zero, List.map_nil]; exact .nil)
end Mine
end Part_LC

section Part_FT
open PySem PySem.W PyProof.Rows PySem.Calls PySem.Spec
set_option maxRecDepth 100000
namespace Mine

def tx (n N : Nat) : Str := ⟨((List.range n).reverse.map fun i => 48 + N / 2 ^ i % 2).toArray⟩
theorem subst_text {Q : Value → Shared → Prop} {x y : Str} {t : Tok} {s : Shared} (e : y = x) (h : Q (.str x t) s) : Q (.str y t) s := by rw [e]; exact h
theorem parse_ok {n : Nat} (h1 : 1 ≤ n) (h7 : n ≤ 7) : Builtin.Float.parseFormatSpec [48, 48 + n, 98] "int" 62 = .ok { fill := 48, align := 61, width := some n, type := some 98 } := by
  have : n = 1 ∨ n = 2 ∨ n = 3 ∨ n = 4 ∨ n = 5 ∨ n = 6 ∨ n = 7 := by omega
  rcases this with rfl | rfl | rfl | rfl | rfl | rfl | rfl <;> kernel_rfl
set_option maxHeartbeats 8000000 in
theorem fmt_n {prog : Program} {w : World} {A : Around} {E : Value → Shared → Prop} {s : Shared} {Q : Value → Shared → Prop} {n N : Nat} {t : Tok} (h1 : 1 ≤ n) (h7 : n ≤ 7) (hN : N < 2 ^ n)
    (h : ∀ t' tk', Q (.str (tx n N) t') { s with toks := tk' }) : wpAny (model prog w) A (formatField (.int (N : Int) t) ⟨#[48, 48 + n, 98]⟩) Q E s := by
  have hp := parse_ok h1 h7
  unfold formatField
  refine wpAny_holding ?_
  unfold pyFormat
  refine wpAny_bind (wpAny_mkStr ?_)
  refine wpAny_bind (wpAny_callSpecial?_slot (name := Str.ofString "__format__") (typeIs_int _ _ _) F.slot_int_format
    (wpAny_call_entry F.slot_int_format (typeIs_int _ _ _) F.entry_int_format ?_ (F.args_int_format_2 _ _)))
  unfold Builtin.«int.__format__»
  refine wpAny_bind (wpAny_of_eq (a := (Value.int (N : Int) t, Value.str ⟨#[48, 48 + n, 98]⟩ s.toks)) rfl ?_)
  dsimp only
  refine wpAny_bind (wpAny_of_eq (a := (N : Int)) rfl ?_)
  refine wpAny_bind (wpAny_of_eq (a := "str") (by first | rfl | kernel_rfl!) ?_)
  refine wpAny_bind (wpAny_of_eq (a := some (⟨#[48, 48 + n, 98]⟩ : Str)) rfl ?_)
  dsimp only
  have hn : n = 1 ∨ n = 2 ∨ n = 3 ∨ n = 4 ∨ n = 5 ∨ n = 6 ∨ n = 7 := by omega
  rcases hn with rfl | rfl | rfl | rfl | rfl | rfl | rfl
  all_goals (
    rw [if_neg (by decide +kernel), if_neg (by decide +kernel)]
    refine wpAny_bind (wpAny_of_eq (a := "int") (by first | rfl | kernel_rfl!) ?_)
    rw [hp]
    dsimp only
    rw [if_pos (by decide +kernel)]
    show wpAny _ _ (retStr _) _ _ _
    refine wpAny_bind (wpAny_mkStr ?_ ?_)
    · refine wpAny_pure ⟨_, rfl, ?_⟩
      refine wpAny_bind (wpAny_isInstance (T := "str") (b := true) (typeIs_str _ _ _) (by rw [isSubtype_type]; kernel_rfl) ?_)
      simp only [if_true]
      refine wpAny_pure ?_
      refine subst_text ?_ (h _ _)
      clear h hp
      revert N
      decide +kernel
    · clear h hp
      revert N
      decide +kernel)
end Mine
end Part_FT

section Part_FU
open PySem PySem.W PyProof.Rows PySem.Calls PySem.Spec
set_option maxRecDepth 100000
namespace Mine

theorem spec_text {n : Int} (h0 : 0 < n) (h7 : n ≤ 7) : Str.empty ++ Str.ofString "0" ++ Str.ofString (toString n) ++ Str.ofString "b" = ⟨#[48, 48 + n.toNat, 98]⟩ := by
  have hn : n = 1 ∨ n = 2 ∨ n = 3 ∨ n = 4 ∨ n = 5 ∨ n = 6 ∨ n = 7 := by omega
  rcases hn with rfl | rfl | rfl | rfl | rfl | rfl | rfl <;> decide +kernel
theorem crcN_lt (n w P c0 k : Nat) : crcN n w P c0 k < 2 ^ n := by
  unfold crcN
  rw [Nat.div_lt_iff_lt_mul (Nat.pow_pos (by decide)), ← Nat.pow_add]
  have h : ∀ x : Nat, x &&& (2 ^ (n + w) - 1) < 2 ^ (n + w) := fun x => by
    rw [Nat.and_two_pow_sub_one_eq_mod]; exact Nat.mod_lt _ (Nat.pow_pos (by decide))
  exact h _
theorem fmt_field {prog : Program} {w : World} {A : Around} {E : Value → Shared → Prop} {s : Shared} {Q : Value → Shared → Prop} {n : Int} {dw P c0 k : Nat} {t : Tok} (h0 : 0 < n) (h7 : n ≤ 7)
    (h : ∀ t' tk', Q (.str (tx n.toNat (crcN n.toNat dw P c0 k)) t') { s with toks := tk' }) :
    wpAny (model prog w) A (formatField (.int ((crcN n.toNat dw P c0 k : Nat) : Int) t) (Str.empty ++ Str.ofString "0" ++ Str.ofString (toString n) ++ Str.ofString "b")) Q E s := by
  rw [spec_text h0 h7]
  exact fmt_n (by omega) (by omega) (crcN_lt _ _ _ _ _) h
theorem tx_length (n N : Nat) : (tx n N).length = n := by simp [tx, Str.length]
theorem tx_at {n N i : Nat} (hi : i < n) : (tx n N).cps[n - 1 - i]? = some (48 + N / 2 ^ i % 2) := by
  have e : n - 1 - (n - 1 - i) = i := by omega
  show ((List.range n).reverse.map fun i => 48 + N / 2 ^ i % 2).toArray[n - 1 - i]? = _
  rw [List.getElem?_toArray, List.getElem?_map, List.getElem?_reverse (by rw [List.length_range]; omega), List.length_range, e, List.getElem?_range hi]
  rfl
theorem rv_made {prog : Program} {w : World} {A : Around} {E : Value → Shared → Prop} {s : Shared} {Q : Value → Shared → Prop} {h₀ : Heap} {L : Addr} {m : Str → Option Value} {news : List (Addr × Obj)} {n N : Nat} {t : Tok}
    (F : Fr h₀ L s.heap m) (N' : News h₀ L s.heap news) (hn : n ≤ 7)
    (h : ∀ D h' tk', Fr h₀ L h' m → News h₀ L h' news → IsRv h' D (tx n N) t (((tx n N).length : Int) - 1) → (∀ p ∈ news, p.1 ≠ D) → L ≠ D → h₀.get? D = none → Q (.ref D) { s with heap := h', toks := tk' }) :
    wpAny (model prog w) A (call (.type "reversed") [.str (tx n N) t]) Q E s := by
  refine call_reversed_str (by rw [tx_length]; omega) ?_
  refine h _ _ _ (F.push _) (fun p hp => ⟨Heap.get?_push_of_some _ (N' p hp).1, (N' p hp).2⟩) ⟨_, Heap.get?_push_size _ rfl, rfl, rfl⟩ (fun p hp => Nat.ne_of_lt (Heap.lt_size (N' p hp).1)) (Nat.ne_of_lt F.ns.lt) (next_is_new F)
theorem datAll_ints {news : List (Addr × Obj)} {ys : List Value} {ns : List Int} (h : IntsAre ys ns) : DatAll news ys (ns.map Dat.int) := by
  induction h with
  | nil => exact .nil
  | cons n t _ ih => exact .cons (.int n t) ih
open LCg in
theorem rest_bits {prog : Program} {w : World} {A : Around} {s : Shared} {h₀ : Heap} {L : Addr} {m : Str → Option Value} {env : Env} {elt : Expr} {x : Str} {scope : Scope} {cl : List (Str × Addr)} {S : List (Addr × Obj) → Prop} {Fin : List Value → List (Addr × Obj) → Prop} {news : List (Addr × Obj)}
    {n N : Nat}
    (turn0 : ∀ tc I oI C oC D m₂ ys h tk (E' : Value → Shared → Prop), NsObj oC m₂ → m₂ x = some (.str ⟨#[48]⟩ tc) → Fr h₀ L h m → News h₀ L h ((I, oI) :: (C, oC) :: (D, lst ys) :: news) → Off3 I C D news → ((@Ne Nat I C) ∧ (@Ne Nat I D) ∧ (@Ne Nat C D)) →
      wpAny (model prog w) A (eval elt (compEnvC scope cl C env)) (CompEnd h₀ L m { s with heap := h, toks := tk } I oI C oC D (lst ys) S (fun y news' => KCfEl news 0 y news')) E' { s with heap := h, toks := tk })
    (turn1 : ∀ tc I oI C oC D m₂ ys h tk (E' : Value → Shared → Prop), NsObj oC m₂ → m₂ x = some (.str ⟨#[49]⟩ tc) → Fr h₀ L h m → News h₀ L h ((I, oI) :: (C, oC) :: (D, lst ys) :: news) → Off3 I C D news → ((@Ne Nat I C) ∧ (@Ne Nat I D) ∧ (@Ne Nat C D)) →
      wpAny (model prog w) A (eval elt (compEnvC scope cl C env)) (CompEnd h₀ L m { s with heap := h, toks := tk } I oI C oC D (lst ys) S (fun y news' => KCfEl news 1 y news')) E' { s with heap := h, toks := tk })
    (fin : ∀ ys, IntsAre ys ((List.range n).map fun i => ((N / 2 ^ i % 2 : Nat) : Int)) → DatAll [] ys ((List.range n).map fun i => Dat.int ((N / 2 ^ i % 2 : Nat) : Int)) → Fin ys news) :
    CompRest prog w A h₀ L m env elt x scope cl s S (fun i v => ∃ c tk, (tx n N).cps[(tx n N).length - 1 - i]? = some c ∧ v = .str ⟨#[c]⟩ tk) Fin (tx n N).length 0 [] news := by
  refine rest_ints (fun i => ((N / 2 ^ i % 2 : Nat) : Int)) ?_ (by rw [tx_length]; exact fun ys h => fin ys h (by have := datAll_ints (news := []) h; rw [List.map_map] at this; exact this))
  intro i v I oI C oC D m₂ ys h tk E' hi hv hC hx F N' off ne
  obtain ⟨c, tc, hc, rfl⟩ := hv
  rw [tx_length] at hi
  rw [tx_length, tx_at hi] at hc
  have hc := Option.some.inj hc
  subst hc
  rcases Nat.mod_two_eq_zero_or_one (N / 2 ^ i) with hb | hb
  · rw [hb] at hx ⊢
    exact turn0 tc I oI C oC D m₂ ys h tk E' hC hx F N' off ne
  · rw [hb] at hx ⊢
    exact turn1 tc I oI C oC D m₂ ys h tk E' hC hx F N' off ne
open LCg in
theorem rvsrc_bits {prog : Program} {w : World} {A : Around} {s₁ : Shared} {h₀ : Heap} {L D : Addr} {m : Str → Option Value} {env : Env} {elt : Expr} {x : Str} {scope : Scope} {cl : List (Str × Addr)} {Q : Value → Shared → Prop} {news : List (Addr × Obj)} {t : Tok}
    {n N : Nat} (hh : A.handled = none) (F : Fr h₀ L s₁.heap m) (N' : News h₀ L s₁.heap news) (hr : IsRv s₁.heap D (tx n N) t (((tx n N).length : Int) - 1)) (hn : n ≤ 7) (hL : L ≠ D) (h0 : h₀.get? D = none) (off : ∀ p ∈ news, p.1 ≠ D)
    (turn0 : ∀ (g : Heap) tc I oI C oC D m₂ ys h tk (E' : Value → Shared → Prop), NsObj oC m₂ → m₂ x = some (.str ⟨#[48]⟩ tc) → Fr h₀ L h m → News h₀ L h ((I, oI) :: (C, oC) :: (D, lst ys) :: news) → Off3 I C D news → ((@Ne Nat I C) ∧ (@Ne Nat I D) ∧ (@Ne Nat C D)) →
      wpAny (model prog w) A (eval elt (compEnvC scope cl C env)) (CompEnd h₀ L m { s₁ with heap := h, toks := tk } I oI C oC D (lst ys) (fun _ => True) (fun y news' => KCfEl news 0 y news')) E' { s₁ with heap := h, toks := tk })
    (turn1 : ∀ (g : Heap) tc I oI C oC D m₂ ys h tk (E' : Value → Shared → Prop), NsObj oC m₂ → m₂ x = some (.str ⟨#[49]⟩ tc) → Fr h₀ L h m → News h₀ L h ((I, oI) :: (C, oC) :: (D, lst ys) :: news) → Off3 I C D news → ((@Ne Nat I C) ∧ (@Ne Nat I D) ∧ (@Ne Nat C D)) →
      wpAny (model prog w) A (eval elt (compEnvC scope cl C env)) (CompEnd h₀ L m { s₁ with heap := h, toks := tk } I oI C oC D (lst ys) (fun _ => True) (fun y news' => KCfEl news 1 y news')) E' { s₁ with heap := h, toks := tk })
    (fin : ∀ (g : Heap) ys, IntsAre ys ((List.range n).map fun i => ((N / 2 ^ i % 2 : Nat) : Int)) → DatAll [] ys ((List.range n).map fun i => Dat.int ((N / 2 ^ i % 2 : Nat) : Int)) → FinE h₀ L m { s₁ with heap := g } Q ys news) :
    RvSrc prog w A h₀ L m env elt x scope cl Q (.ref D) s₁ := by
  refine ⟨D, tx n N, t, news, rfl, hh, F, N', hr, by rw [tx_length]; omega, hL, h0, off, ?_⟩
  rintro s₂ ⟨g, rfl⟩
  exact rest_bits (fun tc I oI C oC D m₂ ys h tk E' => turn0 g tc I oI C oC D m₂ ys h tk E') (fun tc I oI C oC D m₂ ys h tk E' => turn1 g tc I oI C oC D m₂ ys h tk E') (fun ys h1 h2 => fin g ys h1 h2)
end Mine
end Part_FU

section Part_MX
open PySem PySem.W PyProof.Rows
namespace Mine
local macro_rules | `(tactic| walk_at "m_pad_0") => `(tactic| fail)
local macro_rules | `(tactic| walk_at "m_pad_1") => `(tactic| fail)
local macro_rules | `(tactic| walk_at "m_pad_2") => `(tactic| fail)
local macro_rules | `(tactic| walk_at "m_pad_3") => `(tactic| fail)
local macro_rules | `(tactic| walk_at "m_pad_4") => `(tactic| fail)
local macro_rules | `(tactic| walk_at "m_pad_5") => `(tactic| fail)
local macro_rules | `(tactic| walk_at "m_pad_6") => `(tactic| fail)
local macro_rules | `(tactic| walk_at "m_pad_7") => `(tactic| fail)
local macro_rules | `(tactic| walk_at "m_pad_8") => `(tactic| fail)
local macro_rules | `(tactic| walk_at "m_pad_9") => `(tactic| fail)
set_option maxRecDepth 100000
set_option maxHeartbeats 8000000 

def rowD (n w : Nat) : Dat := .list ((List.range n).map fun i => .int ((w / 2 ^ i % 2 : Nat) : Int))
def fD (n dw P : Nat) (i : Int) : Dat := rowD n (crcN n dw P (2 ^ i.toNat) 0)
def gD (n dw P : Nat) (i : Int) : Dat := rowD n (crcN n dw P 0 (2 ^ i.toNat))

def HidLe (a b : Int) : Prop := a ≤ b
theorem HidLe.le {a b : Int} (h : HidLe a b) : a ≤ b := h
def parG (g : Nat → Int) (u : Nat → Nat) (n P c0 xo dw : Int) (ri ro : Bool) (t : Nat → Nat) (k : Nat) : Obj :=
  dictOf [⟨g 0, .str (Str.ofString "_crc_width") (u 0), .int n (t 0)⟩, ⟨g 1, .str (Str.ofString "_polynomial") (u 1), .int P (t 1)⟩, ⟨g 2, .str (Str.ofString "_initial_crc") (u 2), .int c0 (t 2)⟩,
    ⟨g 3, .str (Str.ofString "_reflect_input") (u 3), .bool ri⟩, ⟨g 4, .str (Str.ofString "_reflect_output") (u 4), .bool ro⟩, ⟨g 5, .str (Str.ofString "_xor_output") (u 5), .int xo (t 5)⟩, ⟨g 6, .str (Str.ofString "data_width") (u 6), .int dw (t 6)⟩] k

local macro_rules | `(tactic| walk_at "m_enterR") => `(tactic| (refine' code_defR ?k1 ?k2 ?k3 ?k4 ?k5 ?kr ?ka ?kA ?kF ?kK ?k6 ?k7 ?k8 ?k9 ?kB ?_ ?c2 ?c3 ?c4 ?c5; (case ka => assumption); (case kA => exact rfl); (case kF => exact rfl); (case kK => assumption); (case k1 => k_asm); (case k2 => k_asm); (case k3 => k_asm); (case k4 => assumption); (case k5 => k_asm); (case kr => assumption); (case k6 => k_is); (case k7 => k_is); (case k8 => ktr_room); (case k9 => exact BindsTo.of_eq rfl); (case c5 => decide); (case kB => exact locs rfl); (case c2 => exact rfl); (case c3 => exact rfl); (case c4 => exact rfl); k_whole; intro g' L' h' FG' F' N' B' X' T' KB'; (try dsimp only); (try k_lift B'); (try k_fold)))
local macro_rules | `(tactic| walk_at "call builtin:_operator.index") => `(tactic| (k_here; k_dflt (refine op_index ?_)))
local macro_rules | `(tactic| walk_at "compareOp NotIn int ref") => `(tactic| (k_here; k_dflt (refine notIn_range (by assumption) (by assumption) (by assumption) ?_)))

theorem toNat7 {n : Int} (h : HidLe n 7) : n.toNat ≤ 7 := by have h7 : n ≤ 7 := h; omega
theorem pow_pos2 (k : Int) : (0 : Int) ≤ 2 ^ k.toNat := Int.le_of_lt (Int.pow_pos (by decide))
theorem pow_lt128 {k n : Int} {l : Nat} (hk : k = 0 + (l : Int)) (hl : l < (n - 0).toNat) (hn : HidLe n 7) : (2 : Int) ^ k.toNat < 128 := by
  have h7 : n ≤ 7 := hn
  have e : k.toNat = l := by omega
  rw [e]
  have h : 2 ^ l < 2 ^ 7 := Nat.pow_lt_pow_right (by decide) (by omega)
  exact_mod_cast h
theorem P_lt128 {P n : Int} (hP : P < 2 ^ n.toNat) (hn : HidLe n 7) : P < 128 := by
  have h7 : n ≤ 7 := hn
  refine Int.lt_of_lt_of_le hP ?_
  have h : 2 ^ n.toNat ≤ 2 ^ 7 := Nat.pow_le_pow_right (by decide) (by omega)
  exact_mod_cast h
theorem pow_okB {k n : Int} {l : Nat} (hk : k = 0 + (l : Int)) (hl : l < (n - 0).toNat) : (2 : Int) ^ k.toNat ≤ 1 * 2 ^ n.toNat - 1 := by
  have e : k.toNat = l := by omega
  rw [e, Int.one_mul]
  have h : 2 ^ l < 2 ^ n.toNat := Nat.pow_lt_pow_right (by decide) (by omega)
  have h' : ((2 ^ l : Nat) : Int) < ((2 ^ n.toNat : Nat) : Int) := Int.ofNat_lt.mpr h
  push_cast at h'
  omega
theorem pow_lt1024 {k n : Int} {l : Nat} (hk : k = 0 + (l : Int)) (hl : l < (n - 0).toNat) (hn : n ≤ 10) : (2 : Int) ^ k.toNat < 1024 := by
  have e : k.toNat = l := by omega
  rw [e]
  have h : 2 ^ l < 2 ^ 10 := Nat.pow_lt_pow_right (by decide) (by omega)
  have h' : ((2 ^ l : Nat) : Int) < ((2 ^ 10 : Nat) : Int) := Int.ofNat_lt.mpr h
  push_cast at h'
  omega
theorem zero_ok (d : Int) : (0 : Int) ≤ 1 * 2 ^ d.toNat - 1 := by
  have : (0 : Int) < 2 ^ d.toNat := Int.pow_pos (by decide)
  omega
local macro_rules | `(tactic| walk_at "m_pick") => `(tactic| first | exact Pick.head | (apply Pick.tail; walk_at "m_pick"))
local macro_rules | `(tactic| k_all) => `(tactic| exact allLt_mem (by assumption))
local macro_rules | `(tactic| walk_at "call ref") => `(tactic| (k_here; (with_reducible show wpAny _ _ (PySem.call (Value.ref 112) _ _) _ _ _); k_dflt (
  refine' compute_use ?k1 ?k2 ?k3 ?k4 ?k5 ?kK ?p1 ?p2 ?p3 ?o1 ?o2 ?o3 ?b1 ?b2 ?b3 ?b4 ?b5 ?b6 ?b7 ?b8 ?b9 ?b10 ?b11 ?kd ?ku ?_
  (case k1 => k_asm)
  (case k2 => k_asm)
  (case k3 => k_asm)
  (case k4 => k_asm)
  (case k5 => k_asm)
  (case kK => first | exact rfl | assumption)
  (case p1 => walk_at "m_pick")
  (case p2 => walk_at "m_pick")
  (case p3 => walk_at "m_pick")
  (case o1 => k_all)
  (case o2 => k_all)
  (case o3 => k_all)
  (case b1 => assumption)
  (case b2 => exact HidLe.le (by assumption))
  (case b3 => assumption)
  (case b4 => assumption)
  (case b5 => assumption)
  (case b6 => exact P_lt128 (by assumption) (by assumption))
  (case b7 => first | decide | exact pow_pos2 _)
  (case b8 => first | decide | exact pow_lt128 (by assumption) (by assumption) (by assumption))
  (case b9 => first | decide | exact pow_pos2 _)
  (case b10 => first | exact zero_ok _ | exact pow_okB (by assumption) (by assumption))
  (case b11 => first | decide | exact pow_lt1024 (by assumption) (by assumption) (by assumption))
  (case kd => ktr_room)
  (case ku => ktr_units)
  intro t9 h9 tk9 F9 N9
  (try dsimp only)
  (try k_sweep)
  (try k_fold))))
local macro_rules | `(tactic| k_room) => `(tactic| ktr_room)
local macro_rules | `(tactic| walk_at "formatField int") => `(tactic| (k_here; (with_reducible show wpAny _ _ (formatField (Value.int _ _) (_ ++ _)) _ _ _); k_dflt (refine fmt_field (by assumption) (HidLe.le (by assumption)) ?_); intro t8 tk8; (try dsimp only)))
local macro_rules | `(tactic| walk_at "eval ListComp") => `(tactic| (k_here; (with_reducible show wpAny _ _ (eval (Expr.ListComp _ [⟨_, Expr.Call (Expr.Name (Str.ofString "reversed") _) _ _ _, _, _⟩] _ _) _) _ _ _); k_dflt (refine ListComp_R (F₀ := by k_asm) (by with_unfolding_all rfl) (by decide) (by rfl) (by decide) (by rfl) ?_)))
local macro_rules | `(tactic| walk_at "call type:reversed") => `(tactic| (k_here; k_dflt (refine rv_made (by k_asm) (by k_asm) (toNat7 (by assumption)) ?_); intro D8 h8 tk8 F8 N8 R8 a8 b8 c8; (try k_sweep); (try dsimp only); (try k_unfold); (try dsimp only); k_dflt (refine rvsrc_bits rfl F8 N8 R8 (toNat7 (by assumption)) b8 c8 a8 (fun g8 tc' I' oI' C' oC' D' m' ys' h' tk' E' hC' hx' F' N' off' ne' => ?_) (fun g8 tc' I' oI' C' oC' D' m' ys' h' tk' E' hC' hx' F' N' off' ne' => ?_) (fun g8 ys hI8 hA8 => ?_)); (all_goals (try (simp only [LCg.Off3, and_true] at off'))); (all_goals (try dsimp only)); (all_goals (try k_fold))))
local macro_rules | `(tactic| kd_subs) => `(tactic| exact List.forall_mem_nil _)
theorem off1_mem {D : Addr} : ∀ {l : List (Addr × Obj)}, LCg.Off1 D l → ∀ p ∈ l, p.1 ≠ D
  | [], _, _, h => nomatch h
  | _ :: _, h, p, hp => by
    rcases List.mem_cons.mp hp with rfl | hp
    · exact h.1
    · exact off1_mem h.2 p hp
theorem adr_off {D : Addr} {l : List (Addr × Obj)} {adr : List Addr} (o : LCg.Off1 D l) (h : ∀ b ∈ adr, b ∈ l.map (·.1)) : ∀ b ∈ adr, b ≠ D := fun b hb => by
  obtain ⟨p, hp, rfl⟩ := List.mem_map.mp (h b hb)
  exact off1_mem o p hp
theorem turn_f {pre : List Int} {k : Int} {n dw P : Nat} : pre.map (fD n dw P) ++ [Dat.list ((List.range n).map fun i => Dat.int ((crcN n dw P (2 ^ k.toNat : Int).toNat (Int.toNat 0) / 2 ^ i % 2 : Nat) : Int))] = (pre ++ [k]).map (fD n dw P) := by
  rw [List.map_append, List.map_singleton]
  have e : ((2 : Int) ^ k.toNat).toNat = 2 ^ k.toNat := by
    rw [show ((2 : Int) ^ k.toNat) = ((2 ^ k.toNat : Nat) : Int) by push_cast; rfl]; rfl
  rw [e]; rfl
theorem turn_g {pre : List Int} {k : Int} {n dw P : Nat} : pre.map (gD n dw P) ++ [Dat.list ((List.range n).map fun i => Dat.int ((crcN n dw P (Int.toNat 0) (2 ^ k.toNat : Int).toNat / 2 ^ i % 2 : Nat) : Int))] = (pre ++ [k]).map (gD n dw P) := by
  rw [List.map_append, List.map_singleton]
  have e : ((2 : Int) ^ k.toNat).toNat = 2 ^ k.toNat := by
    rw [show ((2 : Int) ^ k.toNat) = ((2 ^ k.toNat : Nat) : Int) by push_cast; rfl]; rfl
  rw [e]; rfl
theorem matrices_spec : ∀ {w : World} {mean : ExcName → Option Value} {mg mb : Str → Option Value}
    (dp un : Nat) (gd : Option (List Code)) (cn : Str) (cs : Scope) (a : Addr) (ccd : Value) (cl : List (Str × Addr)) (outer : List Env) (A₀ : Around) (base h₀ : Heap) (L : Addr) (m : Str → Option Value) (s : Shared) (Q E : Value → Shared → Prop)
    (x dx : Addr) (g : Nat → Int) (u t : Nat → Nat) (n P c0 xo dw : Int) (ri ro : Bool) (kk : Nat) (rest : List (Addr × Obj))
    (B : Below A₀ base outer h₀) (F : Fr h₀ L s.heap m) (X : (hd.heap_39 w.params).In h₀)
    (N : News h₀ L s.heap ((x, instObj 137 dx) :: (dx, parG g u n P c0 xo dw ri ro t kk) :: []))
    (Nr : News h₀ L s.heap rest) (ap : Apart rest ((x, instObj 137 dx) :: (dx, parG g u n P c0 xo dw ri ro t kk) :: []))
    (T : Top hd.view_39 (looseW hd.view_39 [Str.ofString "Parameters"]) mean mg mb h₀) (hk : cs.kind = .function)
    (hn0 : 0 < n) (hn1 : n ≤ 100) (hn2 : HidLe n 7) (hw0 : 0 < dw) (hw1 : dw ≤ 10) (hP0 : 0 ≤ P) (hP1 : P < 2 ^ n.toNat) (hc0 : 0 ≤ c0) (hc1 : c0 < 2 ^ n.toNat) (hx0 : 0 ≤ xo) (hx1 : xo < 2 ^ n.toNat)
    (hd : dp + 20 < recursionLimit) (hu : un + 80 < cLine)
    (ret : ∀ (v : Value) (tl : List (Addr × Obj)) (h' : Heap) (tk' : Nat), Fr h₀ L h' m → News h₀ L h' rest → News h₀ L h' tl → DatIn tl v (.tuple [.list ((rangeKs 0 n.toNat).map (fD n.toNat dw.toNat P.toNat)), .list ((rangeKs 0 dw.toNat).map (gD n.toNat dw.toNat P.toNat))]) → Q v { s with heap := h', toks := tk' }),
    wpAny (model PySem.Challenge.rw_et5001_01.row.prog w) (ktrTop dp un gd cn cs L a ccd cl outer) (call (.ref 127) [.ref x]) Q E s := by
  w_on
  w_top off
  k_with_none
  k_fill
  intro w mean mg mb dp un gd cn cs a ccd cl outer A₀ base h₀ L m s Q E x dx g u t n P c0 xo dw ri ro kk rest B F X N Nr ap T hk hn0 hn1 hn2 hw0 hw1 hP0 hP1 hc0 hc1 hx0 hx1 hd hu ret
  unfold parG at N ap
  refine wpAny_call ?_
  k_dflt (walk_at "m_enterR")
  have hn7 : HidLe n 7 := hn2
  k_with "state" => (first | exact ⟨rfl, rfl⟩ | exact ⟨turn_f, rfl⟩ | exact turn_g)
  k_with "pyIter ref" => ((with_reducible show wpAny _ _ (pyIter (Value.ref _)) (fun it s₂ => LoopAtV _ _ _ _ _ _ (Stmt.Assign _ (Expr.Constant _ _ _) _ :: _) _ _ it s₂) _ _); k_dat (fun (pre : List Int) (c0 : Int) (g : List Dat) => g = pre.map (gD n.toNat dw.toNat P.toNat)) "crc._initial_crc" "g*")
  k_with "pyIter ref" => ((with_reducible show wpAny _ _ (pyIter (Value.ref _)) (fun it s₂ => LoopAtV _ _ _ _ _ _ (Stmt.Assign _ (Expr.BinOp _ _ _ _) _ :: _) _ _ it s₂) _ _); k_dat (fun (pre : List Int) (c0 : Int) (f g : List Dat) => f = pre.map (fD n.toNat dw.toNat P.toNat) ∧ g = []) "crc._initial_crc" "f*" "g*")
  k_with "FinE cons" => (intro D9 h9 tk9 F9 N9 o8; (have o9 := o8); (dsimp only [LCg.Off1] at o9); (try k_unfold); (try dsimp only))
  k_with "InvEndG" => ((rename News _ _ _ _ => kEndNews); (simp only [List.push_toArray] at kEndNews); (refine' kd_end (tl := kTl) ⟨_, _, _, _, _, _, _, _⟩ [(D9, LCg.lst _)] ?kdS ?kdF ?kdN ?kdn ?kdo ?kda ?kdb ?kdw ?kdk ?kdr ?kdf ?kdp); (case kdS => assumption); (case kdF => assumption); (case kdN => exact kEndNews); (case kdn => kd_inAll); (case kdo => (intro p hp; kst_mem)); (case kda => kd_rfl); (case kdb => (intro q hq; (rw [List.mem_singleton.mp hq]); refine adr_off o8 ?_; intro b hb; (simp only [List.map_cons, List.map_nil, List.map_append, List.mem_cons, List.mem_append, List.not_mem_nil, or_false] at hb ⊢); grind)); (case kdw => (intro q hq p hp; (rw [List.mem_singleton.mp hq]); exact off1_mem o8 p (by kst_mem))); (case kdk => kst_all); (case kdr => kst_same); (case kdf => kd_facts); (case kdp => kd_p))
  k_with "InvEndG" => ((rename News _ _ _ _ => kEndNews); (simp only [List.push_toArray] at kEndNews); (refine' kd_end (tl := kTl) ⟨_, _, _, _, _⟩ [(D9, LCg.lst _)] ?kdS ?kdF ?kdN ?kdn ?kdo ?kda ?kdb ?kdw ?kdk ?kdr ?kdf ?kdp); (case kdS => assumption); (case kdF => assumption); (case kdN => exact kEndNews); (case kdn => kd_inAll); (case kdo => (intro p hp; kst_mem)); (case kda => kd_rfl); (case kdb => (intro q hq; (rw [List.mem_singleton.mp hq]); refine adr_off o8 ?_; intro b hb; (simp only [List.map_cons, List.map_nil, List.map_append, List.mem_cons, List.mem_append, List.not_mem_nil, or_false] at hb ⊢); grind)); (case kdw => (intro q hq p hp; (rw [List.mem_singleton.mp hq]); exact off1_mem o8 p (by kst_mem))); (case kdk => kst_all); (case kdr => kst_same); (case kdf => kd_facts); (case kdp => kd_p))
  k_steps
  dsimp only [RestR]
  intro kNr
  rename News _ _ _ (_ :: _) => kNl
  refine ret _ _ _ _ (by assumption) kNr kNl ?_
  simp only [Int.sub_zero] at *
  refine DatIn.tuple (vs := [_, _]) (List.Mem.head _) ?_
  kd_all
end Mine
end Part_MX

section Part_LZ
open PySem PySem.W PyProof.Rows PySem.Calls PySem.Spec
set_option maxRecDepth 100000
set_option maxHeartbeats 2000000
namespace Mine

open LCg LCp

/-- what stood ahead of a block, but for the iterators, stands -/
def Stood (s₂ : Shared) (wr : List Addr) (h : Heap) : Prop := ∀ b o, b ∉ wr → s₂.heap.get? b = some o → h.get? b = some o

theorem block_Z {prog : Program} {w : World} {A : Around} {E : Value → Shared → Prop} {env : Env} {elt iter : Expr} {x x₂ : Str} {px px₂ tp : Pos} {tk0} {scope : Scope} {cl : List (Str × Addr)} {pos : Pos} {s₂ : Shared} {I : Addr} {fp wr : List Addr} {n : Nat} {Pt : Nat → Array Value → Prop} {St : Nat → Heap → Prop} {Mid : Nat → Addr → Heap → Prop}
    {g : Nat → Int} {RR : Value → Addr → Result → Shared → Prop}
    (W : WalksU prog w A I fp wr n Pt St Mid) (hsz : n ≤ sizeLine) (hh : A.handled = none)
    (hcell : ∀ y ∈ scope.names, y.2 ≠ .cell) (hkind : scope.kind = .function) (hx : scope.names.lookup x = some .local) (hx₂ : scope.names.lookup x₂ = some .local) (hxx : x ≠ x₂) (hst : St 0 s₂.heap) (hfp : ∀ b ∈ fp, b < s₂.heap.objs.size)
    (turn : ∀ i vals, i < n → Pt i vals → ∃ v₁ v₂, vals = #[v₁, v₂] ∧ ∀ C m₂ h tk (Q' E' : Value → Shared → Prop), Heap.Ns h C m₂ → m₂ x = some v₁ → m₂ x₂ = some v₂ → (∀ t tk', Q' (.int (g i) t) { s₂ with heap := h, toks := tk' }) →
      wpAny (model prog w) A (eval elt (compEnvC scope cl C env)) Q' E' { s₂ with heap := h, toks := tk })
    (hRR : ∀ D C h tk m' ys, Stood s₂ wr h → h.get? D = some (lst ys) → s₂.heap.objs.size ≤ D → s₂.heap.objs.size ≤ C → D < C → h.Ns C m' → IntsAre ys ((List.range n).map g) → RR (.ref D) C (.ok .next) { s₂ with heap := h, toks := tk }) :
    wpAny (model prog w) A (newList []) (fun acc s₃ => wpAny (model prog w) A (newFunctionEnv scope env.globals cl [] env.qual none .none (some env)) (fun cenv s₄ =>
      codeAny (model prog w) A (.compStart (.ListComp elt [⟨.Tuple [.Name x px, .Name x₂ px₂] tk0 tp, iter, [], 0⟩] scope pos) 0 (.ref I) acc { cenv with scope := relabel scope env }) (RR acc cenv.locals) s₄) E s₃) E s₂ := by
  refine wpAny_newObj_type (wpAny_newFunctionEnv hcell (by intro y hy; simp at hy) (fun h₁ hns₁ hsb₁ => ?_) hkind)
  dsimp only at hns₁ hsb₁ ⊢
  generalize hH2 : s₂.heap.push { cls := .type "list", dict := none, data := .seq ([] : List Value).toArray } = H2 at hns₁ hsb₁ ⊢
  have hC : H2.objs.size = s₂.heap.objs.size + 1 := by rw [← hH2, Heap.size_push]
  have hDC : s₂.heap.objs.size ≠ H2.objs.size := by rw [hC]; exact Nat.ne_of_lt (Nat.lt_succ_self _)
  have below : ∀ b, b < s₂.heap.objs.size → b ≠ H2.objs.size ∧ b ≠ s₂.heap.objs.size := fun b hb => ⟨by rw [hC]; exact Nat.ne_of_lt (Nat.lt_succ_of_lt hb), Nat.ne_of_lt hb⟩
  have hDf : s₂.heap.objs.size ∉ fp := fun hm => Nat.lt_irrefl _ (hfp _ hm)
  have hCf : H2.objs.size ∉ fp := fun hm => by have := hfp _ hm; rw [hC] at this; exact Nat.lt_irrefl _ (Nat.lt_of_succ_lt this)
  have hDw : s₂.heap.objs.size ∉ wr := fun hm => hDf (W.sub _ hm)
  have hCw : H2.objs.size ∉ wr := fun hm => hCf (W.sub _ hm)
  have old : ∀ b o, s₂.heap.get? b = some o → h₁.get? b = some o := fun b o e => hsb₁.extBut b o (below b (Heap.lt_size e)).1 (Heap.get?_push_of_some _ (hH2 ▸ Heap.get?_push_of_some _ e))
  have hacc : h₁.get? s₂.heap.objs.size = some (lst []) := hsb₁.extBut _ _ hDC (Heap.get?_push_of_some _ (hH2 ▸ Heap.get?_push_size _ rfl))
  have hst₁ : St 0 h₁ := W.frame _ _ _ hst fun b _ o e => old b o e
  have loop : ∀ s₃ : Shared, s₃ = { s₂ with heap := h₁, toks := s₂.toks + ([] : List (Str × Value)).length } →
      codeAny (model prog w) A (.compLoop (.ListComp elt [⟨.Tuple [.Name x px, .Name x₂ px₂] tk0 tp, iter, [], 0⟩] scope pos) 0 (.ref I) (.ref s₂.heap.objs.size) (compEnvC scope cl H2.objs.size env))
        (RR (.ref s₂.heap.objs.size) H2.objs.size) s₃ := by
    rintro s₃ rfl
    refine codeAny_compLoop_pair
      (fun k s' => ∃ h' tk i ys m', s' = { s₂ with heap := h', toks := tk } ∧ i ≤ n ∧ k = n + 1 - i ∧ St i h' ∧ Stood s₂ wr h' ∧ h'.Ns H2.objs.size m' ∧ h'.get? s₂.heap.objs.size = some (lst ys) ∧ IntsAre ys ((List.range i).map g)) ?_ (n + 1)
      ⟨h₁, _, 0, [], _, rfl, Nat.zero_le _, rfl, hst₁, fun b o _ e => old b o e, hns₁, hacc, .nil⟩
    rintro k s' ⟨h', tk, i, ys, m', rfl, hi, rfl, hst', hS', hn', hD', hy'⟩
    have hyl : ys.length = i := by have := hy'.length; simpa using this
    by_cases hlt : i < n
    · refine W.item i _ _ _ hlt hst' fun T vals h₂ tk₂ hPt hT hMid hk₂ => ?_
      obtain ⟨v₁, v₂, rfl, ev⟩ := turn i vals hlt hPt
      refine W.go _ _ _ i T _ _ _ hMid fun h₃ hst₃ hk₃ => ?_
      have hTw : T ∉ wr := W.apart i T _ hMid
      have hT₃ : h₃.IsTuple T #[v₁, v₂] := hT.at fun o e => hk₃ T o hTw e
      refine assign_Tuple_tuple hh hT₃ rfl rfl fun h₅ he => ?_
      have he' : ∀ b o, h₃.get? b = some o → h₅.get? b = some o := fun b o e => he b o (Nat.ne_of_lt (Heap.lt_size e)) e
      have h35 : ∀ b o, b ∉ wr → h'.get? b = some o → h₅.get? b = some o := fun b o hb e => he' b o (hk₃ b o hb (hk₂ b o hb e))
      refine assignInOrder_cons (wpAny_assign_Name (wpAny_storeName_local (lookup_relabel_local hx) (hn'.at' fun o e => h35 _ o hCw e) (fun h₆ hn₆ hs₆ => ?_) (by simp [compEnvC, relabel, hkind])))
      refine assignInOrder_cons (wpAny_assign_Name (wpAny_storeName_local (lookup_relabel_local hx₂) hn₆ (fun h₇ hn₇ hs₇ => ?_) (by simp [compEnvC, relabel, hkind])))
      refine assignInOrder_nil ?_
      have h37 : ∀ b o, b ≠ H2.objs.size → h₃.get? b = some o → h₇.get? b = some o := fun b o hb e => hs₇.extBut b o hb (hs₆.extBut b o hb (he' b o e))
      have hst₇ : St (i + 1) h₇ := W.frame _ _ _ hst₃ fun b hb o e => h37 b o (fun q => hCf (by rw [← q]; exact hb)) e
      have hS₇ : Stood s₂ wr h₇ := fun b o hb e => h37 b o (below b (Heap.lt_size e)).1 (hk₃ b o hb (hk₂ b o hb (hS' b o hb e)))
      have hD₇ : h₇.get? s₂.heap.objs.size = some (lst ys) := h37 _ _ hDC (hk₃ _ _ hDw (hk₂ _ _ hDw hD'))
      refine ev _ _ _ _ _ _ hn₇ (by simp [hxx]) (by simp) fun t tk' => ?_
      refine append_at (hsz := by show ys.toArray.size ≤ sizeLine; rw [List.size_toArray, hyl]; exact Nat.le_trans hi hsz) hD₇ fun h₈ hs₈ hD₈ => ?_
      refine ⟨n + 1 - (i + 1), by omega, h₈, tk', i + 1, ys ++ [.int (g i) t], _, rfl, hlt, rfl, W.frame _ _ _ hst₇ fun b hb o e => hs₈.extBut b o (fun q => hDf (q ▸ hb)) e,
        fun b o hb e => hs₈.extBut b o (below b (Heap.lt_size e)).2 (hS₇ b o hb e), hn₇.sameBut hs₈ (Ne.symm hDC), hD₈.trans (congrArg some (lst_snoc ys _)), ?_⟩
      rw [List.range_succ, List.map_append]
      exact IntsAre.append hy' (.cons (g i) t .nil)
    · obtain rfl : i = n := Nat.le_antisymm hi (Nat.not_lt.mp hlt)
      refine W.done _ _ _ hst' fun h₂ tk₂ hk₂ => ?_
      exact hRR _ _ h₂ tk₂ _ ys (fun b o hb e => hk₂ b o hb (hS' b o hb e)) (hk₂ _ _ hDw hD') (Nat.le_refl _) (by rw [hC]; exact Nat.le_succ _) (by rw [hC]; exact Nat.lt_succ_self _) (hn'.at' fun o e => hk₂ _ o hCw e) hy'
  exact codeAny_compStart_list (loop _ rfl) (W.self 0 _ _ _ hst₁ (loop _ rfl))

def ZSrc (lo : Addr) (prog : Program) (w : World) (A : Around) (env : Env) (elt : Expr) (x x₂ : Str) (scope : Scope) (cl : List (Str × Addr)) (Q : Value → Shared → Prop) (it : Value) (s₂ : Shared) : Prop :=
  ∃ (I : Addr) (fp wr : List Addr) (n : Nat) (Pt : Nat → Array Value → Prop) (St : Nat → Heap → Prop) (Mid : Nat → Addr → Heap → Prop) (g : Nat → Int), lo < s₂.heap.objs.size ∧ it = .ref I ∧ WalksU prog w A I fp wr n Pt St Mid ∧ n ≤ sizeLine ∧ A.handled = none ∧ St 0 s₂.heap ∧ (∀ b ∈ fp, b < s₂.heap.objs.size) ∧
    (∀ i vals, i < n → Pt i vals → ∃ v₁ v₂, vals = #[v₁, v₂] ∧ ∀ C m₂ h tk (Q' E' : Value → Shared → Prop), Heap.Ns h C m₂ → m₂ x = some v₁ → m₂ x₂ = some v₂ → (∀ t tk', Q' (.int (g i) t) { s₂ with heap := h, toks := tk' }) →
      wpAny (model prog w) A (eval elt (compEnvC scope cl C env)) Q' E' { s₂ with heap := h, toks := tk }) ∧
    (∀ D h tk ys, Stood s₂ wr h → h.get? D = some (lst ys) → s₂.heap.objs.size ≤ D → IntsAre ys ((List.range n).map g) → Q (.ref D) { s₂ with heap := h, toks := tk })

theorem ListComp_Z {lo : Addr} {prog : Program} {w : World} {A : Around} {E : Value → Shared → Prop} {s : Shared} {env : Env} {elt iter : Expr} {x x₂ : Str} {px px₂ tp : Pos} {tk0} {scope : Scope} {cl : List (Str × Addr)} {pos : Pos} {Q : Value → Shared → Prop}
    (hclos : closureFor scope env = pure cl) (hcell : ∀ y ∈ scope.names, y.2 ≠ .cell) (hkind : scope.kind = .function)
    (hnames : ∀ y ∈ scope.names, y.2 = .local → scope.names.lookup y.1 = some .local) (hx : scope.names.lookup x = some .local) (hx₂ : scope.names.lookup x₂ = some .local) (hxx : x ≠ x₂)
    (h : wpAny (model prog w) A (eval iter env) (fun xv s₁ => wpAny (model prog w) A (pyIter xv) (ZSrc lo prog w A env elt x x₂ scope cl Q) E s₁) E s)
    (hs : ∀ x, foldedSetIterable iter env x = pure x := by intro _; rfl) :
    wpAny (model prog w) A (eval (.ListComp elt [⟨.Tuple [.Name x px, .Name x₂ px₂] tk0 tp, iter, [], 0⟩] scope pos) env) Q E s := by
  rw [eval_ListComp]
  refine wpAny_comprehension_free (use := none) rfl hs hclos hkind hnames (wpAny_mono h (fun xv s₁ h₁ => wpAny_mono h₁ (fun it s₂ h₂ => ?_) fun _ _ e => e) fun _ _ e => e)
  obtain ⟨I, fp, wr, n, Pt, St, Mid, g, hLs, rfl, W, hsz, hh, hst, hfp, turn, fin⟩ := h₂
  refine block_Z W hsz hh hcell hkind hx hx₂ hxx hst hfp turn ?_
  intro D C h tk m' ys hS hD hDs hCs hCD hn hy
  refine ⟨m', hn, fun h'' hs'' => fin D h'' tk ys (fun b o hb e => hs''.extBut b o (Nat.ne_of_lt (Nat.lt_of_lt_of_le (Heap.lt_size e) hCs)) (hS b o hb e)) (hs''.extBut _ _ (Nat.ne_of_lt hCD) hD) hDs hy⟩

def ZKeep (h₀ : Heap) (L : Addr) (m : Str → Option Value) (y : Str) (Q : Flow → Shared → Prop) (v : Value) (s : Shared) : Prop :=
  ∃ D news, v = .ref D ∧ Fr h₀ L s.heap m ∧ News h₀ L s.heap news ∧ (∀ p ∈ news, p.1 = D ∨ p.1 < D) ∧ (∀ h tk, Fr h₀ L h (fun z => if z = y then some (.ref D) else m z) → News h₀ L h news → Q .next { s with heap := h, toks := tk })
theorem Assign_ListComp_Z {prog : Program} {w : World} {A : Around} {E : Value → Shared → Prop} {s : Shared} {env : Env} {h₀ : Heap} {m : Str → Option Value} {elt iter : Expr} {x x₂ y : Str} {px px₂ tp py : Pos} {tk0} {scope : Scope} {cl : List (Str × Addr)} {pos spos : Pos} {Q : Flow → Shared → Prop}
    (hsw : swapsWith (.ListComp elt [⟨.Tuple [.Name x px, .Name x₂ px₂] tk0 tp, iter, [], 0⟩] scope pos) (some (.Name y py)) spos.line env = pure true)
    (hclos : closureFor scope env = pure cl) (hcell : ∀ z ∈ scope.names, z.2 ≠ .cell) (hkind : scope.kind = .function)
    (hnames : ∀ z ∈ scope.names, z.2 = .local → scope.names.lookup z.1 = some .local) (hx : scope.names.lookup x = some .local) (hx₂ : scope.names.lookup x₂ = some .local) (hxx : x ≠ x₂)
    (hy : env.kindOf y = some .local) (hp : (env.scope.kind == .class || (env.scope.kind == .module && env.locals != env.globals)) = false)
    (F₀ : Fr h₀ env.locals s.heap m)
    (h : wpAny (model prog w) A (eval iter env) (fun xv s₁ => wpAny (model prog w) A (pyIter xv) (ZSrc env.locals prog w A env elt x x₂ scope cl (ZKeep h₀ env.locals m y Q)) E s₁) E s)
    (hs : ∀ x, foldedSetIterable iter env x = pure x := by intro _; rfl) :
    wpAny (model prog w) A (exec (.Assign [.Name y py] (.ListComp elt [⟨.Tuple [.Name x px, .Name x₂ px₂] tk0 tp, iter, [], 0⟩] scope pos) spos) env) Q E s := by
  rw [exec_Assign_Name_used _ _ _ _ hsw]
  refine wpAny_bind (wpAny_standAt (wpAny_bind ?_))
  show wpAny _ A (do let _ ← comprehension (.ListComp elt [⟨.Tuple [.Name x px, .Name x₂ px₂] tk0 tp, iter, [], 0⟩] scope pos) scope env _ (newList []) false (eval iter env) (some (assign (.Name y py) env))) _ _ s
  refine wpAny_bind (wpAny_mono (wpAny_comprehension_free (use := some (assign (.Name y py) env)) (Q := fun _ s' => Q .next s') rfl hs hclos hkind hnames
    (wpAny_mono h (fun xv s₁ h₁ => wpAny_mono h₁ (fun it s₂ h₂ => ?_) fun _ _ e => e) fun _ _ e => e)) (fun _ s' hq => wpAny_pure (wpAny_pure hq)) fun _ _ e => e)
  obtain ⟨I, fp, wr, n, Pt, St, Mid, g, hLs, rfl, W, hsz, hh, hst, hfp, turn, fin⟩ := h₂
  refine block_Z W hsz hh hcell hkind hx hx₂ hxx hst hfp turn ?_
  intro D C h tk m' ys hS hD hDs hCs hCD hn hy'
  obtain ⟨D', news, e, F', N', hb, k⟩ := fin D h tk ys hS hD hDs hy'
  obtain rfl : D = D' := by simpa using e
  have hCL : C ≠ env.locals := fun q => Nat.lt_irrefl _ (Nat.lt_of_lt_of_le hLs (q ▸ hCs))
  have hL₀ : h₀.get? env.locals = none := Heap.get?_none_of_le F'.above
  have hC₀ : h₀.get? C = none := Heap.get?_none_of_le (Nat.le_trans F₀.above (Nat.le_trans (Nat.le_of_lt hLs) hCs))
  show wpAny _ A (assign (.Name y py) env (.ref D)) _ _ _
  refine wpAny_assign_Name (wpAny_storeName_local hy F'.ns (fun h₂ hn₂ hs₂ => ?_) hp)
  have F₂ : Fr h₀ env.locals h₂ (fun z => if z = y then some (.ref D) else m z) := ⟨hn₂, fun b o e => hs₂.extBut b o (fun q => by rw [q, hL₀] at e; cases e) (F'.keep b o e), F'.above⟩
  refine ⟨m', hn.sameBut hs₂ hCL, fun h'' hs'' => k h'' _ (F₂.change hs'' hCL hC₀) (fun p hp => ?_)⟩
  have z : h₂.get? p.1 = some p.2 := hs₂.extBut _ _ (N' p hp).2.1 (N' p hp).1
  have hpC : p.1 ≠ C := fun q => by
    rcases hb p hp with e | e
    · exact Nat.lt_irrefl _ (Nat.lt_of_lt_of_eq hCD (q.symm.trans e))
    · exact Nat.lt_irrefl _ (Nat.lt_trans hCD (q ▸ e))
  exact ⟨hs''.extBut _ _ hpC z, (N' p hp).2⟩
end Mine
end Part_LZ

section Part_ZS
open PySem PySem.W PyProof.Rows PySem.Calls PySem.Spec
set_option maxRecDepth 100000
namespace Mine

open LCg LCp
theorem ints_at {vs : List Value} {ns : List Int} (h : IntsAre vs ns) {i : Nat} {v : Value} (e : vs.toArray[i]? = some v) : ∃ t, v = .int (ns.getD i 0) t := by
  obtain ⟨k, t, e1, e2⟩ := IntsAre.at h i v (by simpa using e)
  exact ⟨t, by rw [e1, List.getD_eq_getElem?_getD, e2]; rfl⟩
theorem zip_src {prog : Program} {w : World} {A : Around} {E : Value → Shared → Prop} {s : Shared} {h₀ : Heap} {L : Addr} {m : Str → Option Value} {news : List (Addr × Obj)} {env : Env} {elt : Expr} {x x₂ : Str} {scope : Scope} {cl : List (Str × Addr)} {Q : Value → Shared → Prop}
    {l1 l2 : Addr} {vs1 vs2 : List Value} {ns1 ns2 : List Int} (op : Int → Int → Int) (hh : A.handled = none) (F : Fr h₀ L s.heap m) (N : News h₀ L s.heap news)
    (hl1 : s.heap.IsList l1 vs1.toArray) (i1 : IntsAre vs1 ns1) (hl2 : s.heap.IsList l2 vs2.toArray) (i2 : IntsAre vs2 ns2) (hlen : ns1.length = ns2.length) (hsz : ns1.length ≤ 1000)
    (turn : ∀ a b ta tb C m₂ h tk (Q' E' : Value → Shared → Prop), Heap.Ns h C m₂ → m₂ x = some (.int a ta) → m₂ x₂ = some (.int b tb) → (∀ t tk', Q' (.int (op a b) t) { s with heap := h, toks := tk' }) →
      wpAny (model prog w) A (eval elt (compEnvC scope cl C env)) Q' E' { s with heap := h, toks := tk })
    (fin : ∀ D h tk ys, Fr h₀ L h m → News h₀ L h ((D, lst ys) :: news) → IntsAre ys (List.zipWith op ns1 ns2) → (∀ p ∈ news, p.1 < D) → (∀ b o, s.heap.get? b = some o → h.get? b = some o) → Q (.ref D) { s with heap := h, toks := tk }) :
    wpAny (model prog w) A (call (.type "zip") [.ref l1, .ref l2]) (fun xv s₁ => wpAny (model prog w) A (pyIter xv) (ZSrc L prog w A env elt x x₂ scope cl Q) E s₁) E s := by
  have hlt1 : l1 < s.heap.objs.size := by obtain ⟨_, e, _⟩ := hl1; exact Heap.lt_size e
  have hlt2 : l2 < s.heap.objs.size := by obtain ⟨_, e, _⟩ := hl2; exact Heap.lt_size e
  refine call_zip_2 hl1 hl2 fun h' hz hTI hTO hi1 hi2 hsz' hk => ?_
  refine wpAny_pyIter_zip hz ?_
  have c1 : vs1.length = ns1.length := i1.length
  have c2 : vs2.length = ns2.length := i2.length
  have en : min vs1.toArray.size vs2.toArray.size = ns1.length := by rw [List.size_toArray, List.size_toArray, c1, c2, hlen, Nat.min_self]
  have W := (WalksT.zip2 (prog := prog) (w := w) hh (s.heap.objs.size + 4) (s.heap.objs.size + 2) (s.heap.objs.size + 3) s.heap.objs.size (s.heap.objs.size + 1) l1 l2 (ktu_apart _ _ _ hlt1 hlt2) vs1.toArray vs2.toArray).toU
  rw [en] at W
  have old : ∀ b, b < s.heap.objs.size → b ∉ [s.heap.objs.size + 4, s.heap.objs.size + 3, s.heap.objs.size, s.heap.objs.size + 1] := fun b hb hm => by
    simp only [List.mem_cons, List.not_mem_nil, or_false] at hm
    have hb' : @LT.lt Nat _ b s.heap.objs.size := hb
    rcases hm with e | e | e | e <;> (have e' : @Eq Nat b _ := e; omega)
  refine ⟨_, _, _, ns1.length, _, _, _, fun i => op (ns1.getD i 0) (ns2.getD i 0), (by show L < h'.objs.size; rw [hsz']; exact Nat.lt_of_lt_of_le F.ns.lt (Nat.le_add_right _ _)), rfl, W, by rw [sizeLine_eq]; omega, hh, ⟨hz, hTI, ⟨_, _, hTO⟩, hi1, hi2, hl1.at fun o e => hk _ o e, hl2.at fun o e => hk _ o e⟩, ?_, ?_, ?_⟩
  · intro b hb
    show b < h'.objs.size
    rw [hsz']
    have h1 : @LT.lt Nat _ l1 s.heap.objs.size := hlt1
    have h2 : @LT.lt Nat _ l2 s.heap.objs.size := hlt2
    simp only [List.mem_cons, List.not_mem_nil, or_false] at hb
    show @LT.lt Nat _ b _
    rcases hb with e | e | e | e | e | e | e <;> (have e' : @Eq Nat b _ := e; omega)
  · rintro i vals hi ⟨a, b, ha, hb, rfl⟩
    obtain ⟨ta, rfl⟩ := ints_at i1 ha
    obtain ⟨tb, rfl⟩ := ints_at i2 hb
    exact ⟨_, _, rfl, fun C m₂ h tk Q' E' hn h1 h2 hq => turn _ _ ta tb C m₂ h tk Q' E' hn h1 h2 hq⟩
  · intro D h tk ys hS hD hDs hy
    have kp : ∀ b o, s.heap.get? b = some o → h.get? b = some o := fun b o e => hS b o (old b (Heap.lt_size e)) (hk b o e)
    have hDs' : s.heap.objs.size ≤ D := Nat.le_trans (by show s.heap.objs.size ≤ h'.objs.size; rw [hsz']; exact Nat.le_add_right _ _) hDs
    have hLD : L ≠ D := Nat.ne_of_lt (Nat.lt_of_lt_of_le F.ns.lt hDs')
    refine fin D h tk ys (F.keeps kp) (fun p hp => ?_) ?_ (fun p hp => Nat.lt_of_lt_of_le (Heap.lt_size (N p hp).1) hDs') kp
    · rcases List.mem_cons.mp hp with rfl | hp
      · refine ⟨hD, Ne.symm hLD, ?_⟩
        cases q : h₀.get? D with
        | none => rfl
        | some o => exact absurd (Heap.lt_size (F.keep D o q)) (Nat.not_lt.mpr hDs')
      · exact ⟨kp _ _ (N p hp).1, (N p hp).2⟩
    · have e : (List.range ns1.length).map (fun i => op (ns1.getD i 0) (ns2.getD i 0)) = List.zipWith op ns1 ns2 := by
        apply List.ext_getElem?
        intro i
        rw [List.getElem?_map, List.getElem?_zipWith]
        by_cases hi : i < ns1.length
        · rw [List.getElem?_range hi, List.getElem?_eq_getElem hi, List.getElem?_eq_getElem (hlen ▸ hi)]
          simp [List.getD_eq_getElem?_getD, hi, show i < ns2.length from hlen ▸ hi]
        · rw [List.getElem?_eq_none (by simpa using hi), List.getElem?_eq_none (Nat.not_lt.mp hi)]; rfl
      rw [← e]; exact hy
theorem enum_src {prog : Program} {w : World} {A : Around} {E : Value → Shared → Prop} {s : Shared} {h₀ : Heap} {L : Addr} {m : Str → Option Value} {news : List (Addr × Obj)} {env : Env} {elt : Expr} {x x₂ : Str} {scope : Scope} {cl : List (Str × Addr)} {Q : Value → Shared → Prop}
    {l1 : Addr} {vs1 : List Value} {ns1 : List Int} (op : Nat → Int → Int) (hh : A.handled = none) (F : Fr h₀ L s.heap m) (N : News h₀ L s.heap news)
    (hl1 : s.heap.IsList l1 vs1.toArray) (i1 : IntsAre vs1 ns1) (hsz : ns1.length ≤ 1000)
    (turn : ∀ i b ta tb C m₂ h tk (Q' E' : Value → Shared → Prop), i < ns1.length → b ∈ ns1 → Heap.Ns h C m₂ → m₂ x = some (.int ((i : Nat) : Int) ta) → m₂ x₂ = some (.int b tb) → (∀ t tk', Q' (.int (op i b) t) { s with heap := h, toks := tk' }) →
      wpAny (model prog w) A (eval elt (compEnvC scope cl C env)) Q' E' { s with heap := h, toks := tk })
    (fin : ∀ D h tk ys, Fr h₀ L h m → News h₀ L h ((D, lst ys) :: news) → IntsAre ys ((List.range ns1.length).map fun i => op i (ns1.getD i 0)) → (∀ p ∈ news, p.1 < D) → (∀ b o, s.heap.get? b = some o → h.get? b = some o) → Q (.ref D) { s with heap := h, toks := tk }) :
    wpAny (model prog w) A (call (.type "enumerate") [.ref l1]) (fun xv s₁ => wpAny (model prog w) A (pyIter xv) (ZSrc L prog w A env elt x x₂ scope cl Q) E s₁) E s := by
  have hlt1 : l1 < s.heap.objs.size := by obtain ⟨_, e, _⟩ := hl1; exact Heap.lt_size e
  refine call_enumerate_list hl1 fun h' hE hI hsz' hk => ?_
  refine wpAny_pyIter_enum hE ?_
  have c1 : vs1.length = ns1.length := i1.length
  have en : vs1.toArray.size = ns1.length := by rw [List.size_toArray, c1]
  have W := (WalksT.enumerate (prog := prog) (w := w) hh (s.heap.objs.size + 1) s.heap.objs.size l1 (Nat.succ_ne_self _) (ktu_ne 1 hlt1) (Nat.ne_of_lt hlt1) vs1.toArray).toU
  rw [en] at W
  have old : ∀ b, b < s.heap.objs.size → b ∉ [s.heap.objs.size + 1, s.heap.objs.size] := fun b hb hm => by
    simp only [List.mem_cons, List.not_mem_nil, or_false] at hm
    have hb' : @LT.lt Nat _ b s.heap.objs.size := hb
    rcases hm with e | e <;> (have e' : @Eq Nat b _ := e; omega)
  refine ⟨_, _, _, ns1.length, _, _, _, fun i => op i (ns1.getD i 0), (by show L < h'.objs.size; rw [hsz']; exact Nat.lt_of_lt_of_le F.ns.lt (Nat.le_add_right _ _)), rfl, W, by rw [sizeLine_eq]; omega, hh, ⟨⟨_, hE⟩, hI, hl1.at fun o e => hk _ o e⟩, ?_, ?_, ?_⟩
  · intro b hb
    show b < h'.objs.size
    rw [hsz']
    have h1 : @LT.lt Nat _ l1 s.heap.objs.size := hlt1
    simp only [List.mem_cons, List.not_mem_nil, or_false] at hb
    show @LT.lt Nat _ b _
    rcases hb with e | e | e <;> (have e' : @Eq Nat b _ := e; omega)
  · rintro i vals hi ⟨ta, a, ha, rfl⟩
    obtain ⟨tb, rfl⟩ := ints_at i1 ha
    refine ⟨_, _, rfl, fun C m₂ h tk Q' E' hn h1 h2 hq => turn i _ ta tb C m₂ h tk Q' E' hi ?_ hn h1 h2 hq⟩
    rw [List.getD_eq_getElem?_getD, List.getElem?_eq_getElem hi]; exact List.getElem_mem hi
  · intro D h tk ys hS hD hDs hy
    have kp : ∀ b o, s.heap.get? b = some o → h.get? b = some o := fun b o e => hS b o (old b (Heap.lt_size e)) (hk b o e)
    have hDs' : s.heap.objs.size ≤ D := Nat.le_trans (by show s.heap.objs.size ≤ h'.objs.size; rw [hsz']; exact Nat.le_add_right _ _) hDs
    have hLD : L ≠ D := Nat.ne_of_lt (Nat.lt_of_lt_of_le F.ns.lt hDs')
    refine fin D h tk ys (F.keeps kp) (fun p hp => ?_) hy (fun p hp => Nat.lt_of_lt_of_le (Heap.lt_size (N p hp).1) hDs') kp
    rcases List.mem_cons.mp hp with rfl | hp
    · refine ⟨hD, Ne.symm hLD, ?_⟩
      cases q : h₀.get? D with
      | none => rfl
      | some o => exact absurd (Heap.lt_size (F.keep D o q)) (Nat.not_lt.mpr hDs')
    · exact ⟨kp _ _ (N p hp).1, (N p hp).2⟩
end Mine
end Part_ZS

section Part_EL
open PySem PySem.W PyProof.Rows PySem.Calls PySem.Spec
set_option maxRecDepth 100000
namespace Mine

open LCg LCp
/-- a loop over enumerate(l), l a list of ints that stood before the call: an invariant over the frame's map and the ledger -/
theorem enum_loop {prog : Program} {w : World} {A : Around} {E : Value → Shared → Prop} {s : Shared} {env : Env} {h₀ : Heap} {elts : List Expr} {k : Nat} {pos : Pos} {body : List Stmt} {Q : Flow → Shared → Prop} {m₀ : Str → Option Value} {news : List (Addr × Obj)}
    {l : Addr} {vs : List Value} {ns : List Int} (J : Nat → (Str → Option Value) → List (Addr × Obj) → Prop) (hh : A.handled = none) (F : Fr h₀ env.locals s.heap m₀) (N : News h₀ env.locals s.heap news)
    (hl : h₀.IsList l vs.toArray) (hi : IntsAre vs ns) (h0 : J 0 m₀ news)
    (turn : ∀ i a T ta tb m₁ nx h tk own, ns[i]? = some a → J i m₁ nx → IsTup h T #[.int ((i : Nat) : Int) ta, .int a tb] → Fr h₀ env.locals h m₁ → News h₀ env.locals h (nx ++ own) → OwnOff own (nx.map (·.1)) →
      wpAny (model prog w) A (assign (.Tuple elts k pos) env (.ref T)) (fun _ s₃ => wpAny (model prog w) A (execs body env) (InvPostG h₀ env.locals (J (i + 1)) own { s with heap := h, toks := tk } Q) E s₃) E { s with heap := h, toks := tk })
    (done : ∀ m₁ nx h tk, J ns.length m₁ nx → Fr h₀ env.locals h m₁ → News h₀ env.locals h nx → Q .next { s with heap := h, toks := tk }) :
    wpAny (model prog w) A (call (.type "enumerate") [.ref l]) (fun xv s₁ => wpAny (model prog w) A (pyIter xv) (fun it s₂ => TurnsAt prog w A h₀ env (.Tuple elts k pos) body Q E it s₂) E s₁) E s := by
  have hls : s.heap.IsList l vs.toArray := hl.at fun o e => F.keep l o e
  have hl0 : l < h₀.objs.size := by obtain ⟨_, e, _⟩ := hl; exact Heap.lt_size e
  have hlt : l < s.heap.objs.size := by obtain ⟨_, e, _⟩ := hls; exact Heap.lt_size e
  have hLs : env.locals < s.heap.objs.size := F.ns.lt
  have hlL : l < env.locals := Nat.lt_of_lt_of_le hl0 F.above
  refine call_enumerate_list hls fun h' hE hI hsz hk => ?_
  refine wpAny_pyIter_enum hE ?_
  have W := (WalksT.enumerate (prog := prog) (w := w) hh (s.heap.objs.size + 1) s.heap.objs.size l (Nat.succ_ne_self _) (ktu_ne 1 hlt) (Nat.ne_of_lt hlt) vs.toArray).toU
  have en : vs.toArray.size = ns.length := by rw [List.size_toArray, hi.length]
  rw [en] at W
  refine ⟨_, _, _, ns.length, _, _, _, m₀, news, J, rfl, KTurns.ofWalksU W, ?_, ?_, ?_, ⟨⟨_, hE⟩, hI, hls.at fun o e => hk _ o e⟩, F.keeps hk, N.grown hk, h0, ?_, ?_⟩
  · intro hm
    have hm' : env.locals = s.heap.objs.size + 1 ∨ env.locals = s.heap.objs.size ∨ env.locals = l := by simpa using hm
    rcases hm' with e | e | e
    · exact ktu_ne 1 hLs e
    · exact Nat.ne_of_lt hLs e
    · exact Nat.ne_of_lt hlL e.symm
  · intro b hb
    have hb' : b = s.heap.objs.size + 1 ∨ b = s.heap.objs.size := by simpa using hb
    rcases hb' with rfl | rfl
    · exact ktu_new F (Nat.le_add_right _ _)
    · exact ktu_new F (Nat.le_refl _)
  · intro p hp hb
    have hb' : p.1 = s.heap.objs.size + 1 ∨ p.1 = s.heap.objs.size := by simpa using hb
    have hlp := Heap.lt_size (N p hp).1
    rcases hb' with e | e
    · exact ktu_ne 1 hlp e
    · exact Nat.ne_of_lt hlp e
  · rintro i v m₁ nx h₁ tk₁ own hin ⟨T, vals, rfl, ⟨ta, xv, hx, rfl⟩, hT⟩ hJ hoff hown hget hall hst F₁ N₁
    obtain ⟨a, tb, hxa, rfl⟩ : ∃ a tb, ns[i]? = some a ∧ xv = .int a tb := by
      obtain ⟨a, tb, e1, e2⟩ := IntsAre.at hi i xv (by simpa using hx)
      exact ⟨a, tb, e2, e1⟩
    -- the iterators' own objects
    let own' := own.filter fun p => decide (p.1 ∈ [s.heap.objs.size + 1, s.heap.objs.size])
    have sub' : ∀ p ∈ own', p ∈ own ∧ p.1 ∈ [s.heap.objs.size + 1, s.heap.objs.size] := fun p hp => ⟨(List.mem_filter.mp hp).1, by simpa using (List.mem_filter.mp hp).2⟩
    have hsep : OwnOff own' (nx.map (·.1)) := by
      intro p hp b hb e
      obtain ⟨q, hq, rfl⟩ := List.mem_map.mp hb
      exact hoff q hq (e ▸ (sub' p hp).2)
    have N₂ : News h₀ env.locals h₁ (nx ++ own') := fun p hp => N₁ p ((List.mem_append.mp hp).elim (fun h => List.mem_append.mpr (.inr h)) fun h => List.mem_append.mpr (.inl (sub' p h).1))
    obtain ⟨⟨old, he⟩, hit, hlst⟩ := hst
    obtain ⟨oi, hoi, _⟩ := id hit
    have m1 : (s.heap.objs.size + 1, _) ∈ own' := List.mem_filter.mpr ⟨hall _ (by simp) (ktu_new F (Nat.le_add_right _ _)) _ he, by simp⟩
    have m2 : (s.heap.objs.size, oi) ∈ own' := List.mem_filter.mpr ⟨hall _ (by simp) (ktu_new F (Nat.le_refl _)) _ hoi, by simp⟩
    refine wpAny_mono (turn i a T ta tb m₁ nx h₁ tk₁ own' hxa hJ hT F₁ N₂ hsep) (fun _ s₃ p => wpAny_mono p (fun f s₂ q => ?_) fun _ _ e => e) fun _ _ e => e
    have fin : InvEndG h₀ env.locals (J (i + 1)) own' { s with heap := h₁, toks := tk₁ } s₂ → LoopStepU h₀ env.locals [s.heap.objs.size + 1, s.heap.objs.size] own (J (i + 1)) { s with heap := h₁, toks := tk₁ } .next s₂ := by
      rintro ⟨h₃, tk₃, m₃, news₃, nx₃, e, F₃, N₃, hn, ho, ha, hJ₃⟩
      refine ⟨rfl, h₃, tk₃, m₃, nx₃, e, F₃, fun p hp => ?_, fun p hp hq => ?_, hJ₃⟩
      · rcases List.mem_append.mp hp with hp | hp
        · by_cases hb : p.1 ∈ [s.heap.objs.size + 1, s.heap.objs.size]
          · exact N₃ p (ho p (List.mem_filter.mpr ⟨hp, by simpa using hb⟩))
          · -- the list itself: it is kept by the base
            have hpl : p.1 = l := by
              have := hown p hp
              have h3 : p.1 = s.heap.objs.size + 1 ∨ p.1 = s.heap.objs.size ∨ p.1 = l := by simpa using this
              rcases h3 with q | q | q
              · exact absurd (by rw [q]; simp) hb
              · exact absurd (by rw [q]; simp) hb
              · exact q
            have hno := (N₁ p (List.mem_append_left _ hp)).2.2
            obtain ⟨o, ho', _⟩ := hl
            rw [hpl, ho'] at hno
            cases hno
        · exact N₃ p (hn p hp)
      · have hq' : p.1 = s.heap.objs.size + 1 ∨ p.1 = s.heap.objs.size := by simpa using hq
        rcases hq' with q | q
        · exact ha _ m1 p.1 (List.mem_map.mpr ⟨p, hp, rfl⟩) q.symm
        · exact ha _ m2 p.1 (List.mem_map.mpr ⟨p, hp, rfl⟩) q.symm
    cases f with
    | ret v => exact q
    | brk => exact q
    | next => exact fin q
    | cont => exact fin q
  · intro h₃ tk₃ m₃ nx₃ F₃ N₃ _ hJ₃
    exact done m₃ nx₃ h₃ tk₃ hJ₃ F₃ N₃
end Mine
end Part_EL

section Part_TC
open PySem PySem.W PyProof.Rows PySem.Calls PySem.Spec
set_option maxRecDepth 100000
set_option maxHeartbeats 2000000
namespace Mine

open LCg LCp

/-- all objects of h stand in h' -/
def Ext (h h' : Heap) : Prop := ∀ b o, h.get? b = some o → h'.get? b = some o
/-- the objects of tl stand in h' and were not in h -/
def Fresh (h h' : Heap) (tl : List (Addr × Obj)) : Prop := ∀ p ∈ tl, h.get? p.1 = none ∧ h'.get? p.1 = some p.2
theorem Ext.refl (h : Heap) : Ext h h := fun _ _ e => e
theorem Ext.trans {h h' h'' : Heap} (a : Ext h h') (b : Ext h' h'') : Ext h h'' := fun c o e => b c o (a c o e)
theorem Ext.none {h h' : Heap} (a : Ext h h') {b : Addr} (e : h'.get? b = none) : h.get? b = none := by
  cases q : h.get? b with
  | none => rfl
  | some o => rw [a b o q] at e; cases e
theorem Fresh.nil {h h' : Heap} : Fresh h h' [] := fun _ hp => nomatch hp
theorem Fresh.up {h h' h'' : Heap} {tl : List (Addr × Obj)} (f : Fresh h h' tl) (e : Ext h' h'') : Fresh h h'' tl := fun p hp => ⟨(f p hp).1, e _ _ (f p hp).2⟩
theorem Fresh.down {h₀ h h' : Heap} {tl : List (Addr × Obj)} (e : Ext h₀ h) (f : Fresh h h' tl) : Fresh h₀ h' tl := fun p hp => ⟨e.none (f p hp).1, (f p hp).2⟩
theorem Fresh.app {h h' : Heap} {a b : List (Addr × Obj)} (x : Fresh h h' a) (y : Fresh h h' b) : Fresh h h' (a ++ b) := fun p hp => (List.mem_append.mp hp).elim (x p) (y p)
theorem Fresh.cons {h h' : Heap} {a : Addr} {o : Obj} {b : List (Addr × Obj)} (e : h.get? a = none) (e' : h'.get? a = some o) (y : Fresh h h' b) : Fresh h h' ((a, o) :: b) := fun p hp => (List.mem_cons.mp hp).elim (fun q => q ▸ ⟨e, e'⟩) (y p)
theorem Fresh.news {h₀ h h' : Heap} {L : Addr} {m : Str → Option Value} {tl : List (Addr × Obj)} (F : Fr h₀ L h m) (f : Fresh h h' tl) : News h₀ L h' tl := fun p hp => by
  refine ⟨(f p hp).2, fun q => ?_, ?_⟩
  · obtain ⟨o, _, _, e, _⟩ := F.ns
    rw [← q, (f p hp).1] at e; cases e
  · cases q : h₀.get? p.1 with
    | none => rfl
    | some o => have := F.keep _ _ q; rw [(f p hp).1] at this; cases this
theorem news_ext {h₀ h h' : Heap} {L : Addr} {news : List (Addr × Obj)} (N : News h₀ L h news) (e : Ext h h') : News h₀ L h' news := fun p hp => ⟨e _ _ (N p hp).1, (N p hp).2⟩
theorem news_app {h₀ h : Heap} {L : Addr} {a b : List (Addr × Obj)} (x : News h₀ L h a) (y : News h₀ L h b) : News h₀ L h (a ++ b) := fun p hp => (List.mem_append.mp hp).elim (x p) (y p)

/-- the tree gives the data d, and changes nothing that stood -/
def Gives (prog : Program) (w : World) (A : Around) (t : Sem Value) (d : Dat) (s : Shared) (h : Heap) (tk : Nat) : Prop :=
  ∀ (Q E : Value → Shared → Prop), (∀ y h' tk' tl, Ext h h' → Fresh h h' tl → DatIn tl y d → Q y { s with heap := h', toks := tk' }) → wpAny (model prog w) A t Q E { s with heap := h, toks := tk }

theorem datAll_snoc {tl : List (Addr × Obj)} : ∀ {ys : List Value} {ds : List Dat} {y : Value} {d : Dat}, DatAll tl ys ds → DatIn tl y d → DatAll tl (ys ++ [y]) (ds ++ [d])
  | _, _, _, _, .nil, q => .cons q .nil
  | _, _, _, _, .cons a r, q => .cons a (datAll_snoc r q)
theorem datAll_length {tl : List (Addr × Obj)} : ∀ {ys : List Value} {ds : List Dat}, DatAll tl ys ds → ys.length = ds.length
  | _, _, .nil => rfl
  | _, _, .cons _ r => by rw [List.length_cons, List.length_cons, datAll_length r]

structure Binder (prog : Program) (w : World) (A : Around) (cenv : Env) (x : Str) (px : Pos) (C own : Addr) (s : Shared) (Ok : Heap → Prop) (Has : Heap → Value → Prop) : Prop where
  store : ∀ h tk v (Q : Unit → Shared → Prop) (E : Value → Shared → Prop), Ok h → (∀ h' tk', Ok h' → Has h' v → Heap.SameBut own h h' → Q () { s with heap := h', toks := tk' }) → wpAny (model prog w) A (assign (.Name x px) cenv v) Q E { s with heap := h, toks := tk }
  ok : ∀ h h', Ok h → (∀ b o, (b = C ∨ b = own) → h.get? b = some o → h'.get? b = some o) → Ok h'
  ex : ∀ h, Ok h → (∃ o, h.get? C = some o) ∧ (∃ o, h.get? own = some o)

theorem loop_D {prog : Program} {w : World} {A : Around} {s : Shared} {cenv : Env} {elt iter : Expr} {ifs : List Expr} {x : Str} {px : Pos} {scope : Scope} {pos : Pos} {I D C own : Addr} {fp wr : List Addr} {n : Nat} {P : Nat → Value → Prop} {St : Nat → Heap → Prop}
    {g : Nat → Dat} {p : Nat → Bool} {Ok : Heap → Prop} {Has : Heap → Value → Prop} {R : Result → Shared → Prop}
    (W : Walks prog w A I fp wr n P St) (hsz : n ≤ sizeLine) (Bd : Binder prog w A cenv x px C own s Ok Has)
    (hex : ∀ i h, St i h → ∀ b ∈ fp, ∃ o, h.get? b = some o)
    (hDf : D ∉ fp) (hCf : C ∉ fp) (hof : own ∉ fp) (hDC : D ≠ C) (hDo : D ≠ own)
    (hst : St 0 s.heap) (hok : Ok s.heap) (hacc : s.heap.get? D = some (lst []))
    (tst : ∀ i v h tk (Q' : Bool → Shared → Prop) (E' : Value → Shared → Prop), i < n → P i v → Has h v → (∀ b o, b ∉ wr → b ≠ D → b ≠ own → s.heap.get? b = some o → h.get? b = some o) → (∀ tk', Q' (p i) { s with heap := h, toks := tk' }) →
      wpAny (model prog w) A (forIn ifs true fun c r => if r = true then do let ok ← isTrue c cenv (eval c cenv); pure (ForInStep.yield ok) else pure (ForInStep.yield r)) Q' E' { s with heap := h, toks := tk })
    (turn : ∀ i v h tk, i < n → P i v → p i = true → Has h v → (∀ b o, b ∉ wr → b ≠ D → b ≠ own → s.heap.get? b = some o → h.get? b = some o) → Gives prog w A (eval elt cenv) (g i) s h tk)
    (fin : ∀ h tk ys tl, Ok h → (∀ b o, b ∉ wr → b ≠ D → b ≠ own → s.heap.get? b = some o → h.get? b = some o) → h.get? D = some (lst ys) → Fresh s.heap h tl → DatAll tl ys (((List.range n).filter p).map g) → R (.ok .next) { s with heap := h, toks := tk }) :
    codeAny (model prog w) A (.compLoop (.ListComp elt [⟨.Name x px, iter, ifs, 0⟩] scope pos) 0 (.ref I) (.ref D) cenv) R s := by
  have hDw : D ∉ wr := fun h => hDf (W.sub _ h)
  have hCw : C ∉ wr := fun h => hCf (W.sub _ h)
  have how : own ∉ wr := fun h => hof (W.sub _ h)
  refine codeAny_compLoop_tests
    (fun k s' => ∃ h' tk i ys tl, s' = { s with heap := h', toks := tk } ∧ i ≤ n ∧ k = n + 1 - i ∧ St i h' ∧ Ok h' ∧ (∀ b o, b ∉ wr → b ≠ D → b ≠ own → s.heap.get? b = some o → h'.get? b = some o) ∧ h'.get? D = some (lst ys) ∧ Fresh s.heap h' tl ∧ DatAll tl ys (((List.range i).filter p).map g)) ?_ (n + 1)
    ⟨s.heap, s.toks, 0, [], [], rfl, Nat.zero_le _, rfl, hst, hok, fun _ _ _ _ _ e => e, hacc, Fresh.nil, .nil⟩
  rintro k s' ⟨h', tk, i, ys, tl, rfl, hi, rfl, hst', hok', hk', hD', hf', hy'⟩
  have hyl : ys.length ≤ i := by
    rw [datAll_length hy', List.length_map]
    exact Nat.le_trans (List.length_filter_le _ _) (by rw [List.length_range]; exact Nat.le_refl _)
  have hsC := (Bd.ex _ hok).1
  have hso := (Bd.ex _ hok).2
  have hsf := hex _ _ hst
  have tlne : ∀ q ∈ tl, q.1 ≠ D ∧ q.1 ≠ C ∧ q.1 ≠ own ∧ q.1 ∉ fp := fun q hq => by
    have z := (hf' q hq).1
    refine ⟨fun e => ?_, fun e => ?_, fun e => ?_, fun e => ?_⟩
    · rw [e, hacc] at z; cases z
    · obtain ⟨o, e2⟩ := hsC; rw [e, e2] at z; cases z
    · obtain ⟨o, e2⟩ := hso; rw [e, e2] at z; cases z
    · obtain ⟨o, e2⟩ := hsf _ e; rw [e2] at z; cases z
  by_cases hlt : i < n
  · refine W.item i _ _ _ hlt hst' fun v h₂ tk₂ hPv hst₂ hk₂ => ?_
    dsimp only at hk₂
    have hok₂ : Ok h₂ := Bd.ok _ _ hok' fun b o hb e => hk₂ b o (hb.elim (fun q => q ▸ hCw) (fun q => q ▸ how)) e
    refine Bd.store h₂ tk₂ v _ _ hok₂ fun h₃ tk₃ hok₃ hHas₃ hs₃ => ?_
    have hst₃ : St (i + 1) h₃ := W.frame _ _ _ hst₂ fun b hb o e => hs₃.extBut b o (fun q => hof (by rw [← q]; exact hb)) e
    have h23 : ∀ b o, b ∉ wr → b ≠ own → h'.get? b = some o → h₃.get? b = some o := fun b o hb hb' e => hs₃.extBut b o hb' (hk₂ b o hb e)
    have hk₃ : ∀ b o, b ∉ wr → b ≠ D → b ≠ own → s.heap.get? b = some o → h₃.get? b = some o := fun b o h1 h2 h3 e => h23 b o h1 h3 (hk' b o h1 h2 h3 e)
    have hD₃ : h₃.get? D = some (lst ys) := h23 _ _ hDw hDo hD'
    have hf₃ : Fresh s.heap h₃ tl := fun q hq => ⟨(hf' q hq).1, h23 _ _ (fun e => (tlne q hq).2.2.2 (W.sub _ e)) (tlne q hq).2.2.1 (hf' q hq).2⟩
    refine tst i v h₃ tk₃ _ _ hlt hPv hHas₃ hk₃ fun tk₄ => ?_
    by_cases hp : p i = true
    · rw [if_pos hp]
      refine turn i v h₃ tk₄ hlt hPv hp hHas₃ hk₃ _ _ fun y h₅ tk₅ tl₅ e₅ f₅ d₅ => ?_
      have hD₅ : h₅.get? D = some (lst ys) := e₅ _ _ hD₃
      refine append_at (hsz := by show ys.toArray.size ≤ sizeLine; rw [List.size_toArray]; exact Nat.le_trans hyl (Nat.le_trans hi hsz)) hD₅ fun h₆ hs₆ hD₆ => ?_
      have hne₅ : ∀ q ∈ tl₅, q.1 ≠ D := fun q hq e => by have z := (f₅ q hq).1; rw [e, hD₃] at z; cases z
      have hst₅ : St (i + 1) h₅ := W.frame _ _ _ hst₃ fun b _ o e => e₅ b o e
      refine ⟨n + 1 - (i + 1), by omega, h₆, tk₅, i + 1, ys ++ [y], tl ++ tl₅, rfl, hlt, rfl, W.frame _ _ _ hst₅ fun b hb o e => hs₆.extBut b o (fun q => hDf (q ▸ hb)) e,
        Bd.ok _ _ (Bd.ok _ _ hok₃ fun b o _ e => e₅ b o e) fun b o hb e => hs₆.extBut b o (hb.elim (fun q => q ▸ Ne.symm hDC) (fun q => q ▸ Ne.symm hDo)) e,
        fun b o h1 h2 h3 e => hs₆.extBut b o h2 (e₅ _ _ (hk₃ b o h1 h2 h3 e)), hD₆.trans (congrArg some (lst_snoc ys y)), ?_, ?_⟩
      · intro q hq
        rcases List.mem_append.mp hq with hq | hq
        · exact ⟨(hf₃ q hq).1, hs₆.extBut _ _ (tlne q hq).1 (e₅ _ _ (hf₃ q hq).2)⟩
        · refine ⟨?_, hs₆.extBut _ _ (hne₅ q hq) (f₅ q hq).2⟩
          have z := (f₅ q hq).1
          cases e : s.heap.get? q.1 with
          | none => rfl
          | some o =>
            by_cases h1 : q.1 ∈ wr
            · obtain ⟨o', e'⟩ := hex _ _ hst₃ _ (W.sub _ h1); rw [e'] at z; cases z
            · by_cases h3 : q.1 = own
              · obtain ⟨o', e'⟩ := (Bd.ex _ hok₃).2; rw [h3, e'] at z; cases z
              · rw [hk₃ _ o h1 (hne₅ q hq) h3 e] at z; cases z
      · have e1 : ((List.range (i + 1)).filter p).map g = ((List.range i).filter p).map g ++ [g i] := by
          rw [List.range_succ, List.filter_append, List.map_append]
          simp [hp]
        rw [e1]
        exact datAll_snoc (hy'.mono fun q hq => List.mem_append_left _ hq) (d₅.mono fun q hq => List.mem_append_right _ hq)
    · rw [if_neg hp]
      refine ⟨n + 1 - (i + 1), by omega, h₃, tk₄, i + 1, ys, tl, rfl, hlt, rfl, hst₃, hok₃, hk₃, hD₃, hf₃, ?_⟩
      have e1 : ((List.range (i + 1)).filter p).map g = ((List.range i).filter p).map g := by
        rw [List.range_succ, List.filter_append, List.map_append]
        simp [hp]
      rw [e1]; exact hy'
  · obtain rfl : i = n := Nat.le_antisymm hi (Nat.not_lt.mp hlt)
    refine W.done _ _ _ hst' fun h₂ tk₂ hk₂ => ?_
    dsimp only at hk₂
    exact fin h₂ tk₂ ys tl (Bd.ok _ _ hok' fun b o hb e => hk₂ b o (hb.elim (fun q => q ▸ hCw) (fun q => q ▸ how)) e)
      (fun b o h1 h2 h3 e => hk₂ b o h1 (hk' b o h1 h2 h3 e)) (hk₂ _ _ hDw hD') (fun q hq => ⟨(hf' q hq).1, hk₂ _ _ (fun e => (tlne q hq).2.2.2 (W.sub _ e)) (hf' q hq).2⟩) hy'

theorem binder_local {prog : Program} {w : World} {A : Around} {cenv : Env} {x : Str} {px : Pos} {s : Shared} (hk : cenv.scope.kind = .function) (hl : cenv.kindOf x = some .local) :
    Binder prog w A cenv x px cenv.locals cenv.locals s (fun h => ∃ m, h.Ns cenv.locals m) (fun h v => ∃ m, h.Ns cenv.locals m ∧ m x = some v) where
  store := fun h tk v Q E ⟨m, hn⟩ hq => wpAny_assign_Name (wpAny_storeName_local hl hn (fun h' hn' hs' => hq h' _ ⟨_, hn'⟩ ⟨_, hn', by simp⟩ hs') (by simp [hk]))
  ok := fun h h' ⟨m, hn⟩ e => ⟨m, hn.at' fun o eo => e _ _ (.inl rfl) eo⟩
  ex := fun h ⟨m, hn⟩ => ⟨by obtain ⟨o, _, _, e, _⟩ := hn; exact ⟨o, e⟩, by obtain ⟨o, _, _, e, _⟩ := hn; exact ⟨o, e⟩⟩

/-- a source for a comprehension over one local name -/
def DSrc (prog : Program) (w : World) (A : Around) (env : Env) (elt : Expr) (ifs : List Expr) (x : Str) (scope : Scope) (cl : List (Str × Addr)) (Q : Addr → Value → Shared → Prop) (it : Value) (s₂ : Shared) : Prop :=
  ∃ (I : Addr) (fp wr : List Addr) (n : Nat) (P : Nat → Value → Prop) (St : Nat → Heap → Prop) (g : Nat → Dat) (p : Nat → Bool), it = .ref I ∧ Walks prog w A I fp wr n P St ∧ n ≤ sizeLine ∧ (∀ i h, St i h → ∀ b ∈ fp, ∃ o, h.get? b = some o) ∧ St 0 s₂.heap ∧
    (∀ C i v h tk m₂ (Q' : Bool → Shared → Prop) (E' : Value → Shared → Prop), i < n → P i v → h.Ns C m₂ → m₂ x = some v → Stood s₂ wr h → s₂.heap.get? C = none → (∀ tk', Q' (p i) { s₂ with heap := h, toks := tk' }) →
      wpAny (model prog w) A (forIn ifs true fun c r => if r = true then do let ok ← isTrue c (compEnvC scope cl C env) (eval c (compEnvC scope cl C env)); pure (ForInStep.yield ok) else pure (ForInStep.yield r)) Q' E' { s₂ with heap := h, toks := tk }) ∧
    (∀ C i v h tk m₂, i < n → P i v → p i = true → h.Ns C m₂ → m₂ x = some v → Stood s₂ wr h → s₂.heap.get? C = none → Gives prog w A (eval elt (compEnvC scope cl C env)) (g i) s₂ h tk) ∧
    (∀ C D h tk tl, Stood s₂ wr h → Fresh s₂.heap h tl → s₂.heap.get? C = none → (∀ q ∈ tl, q.1 ≠ C) → DatIn tl (.ref D) (.list (((List.range n).filter p).map g)) → Q C (.ref D) { s₂ with heap := h, toks := tk })

theorem block_D {prog : Program} {w : World} {A : Around} {E : Value → Shared → Prop} {env : Env} {elt iter : Expr} {ifs : List Expr} {x : Str} {px : Pos} {scope : Scope} {cl : List (Str × Addr)} {pos : Pos} {s₂ : Shared} {I : Addr} {fp wr : List Addr} {n : Nat} {P : Nat → Value → Prop} {St : Nat → Heap → Prop}
    {g : Nat → Dat} {p : Nat → Bool} {RR : Value → Addr → Result → Shared → Prop}
    (W : Walks prog w A I fp wr n P St) (hsz : n ≤ sizeLine) (hex : ∀ i h, St i h → ∀ b ∈ fp, ∃ o, h.get? b = some o)
    (hcell : ∀ y ∈ scope.names, y.2 ≠ .cell) (hkind : scope.kind = .function) (hx : scope.names.lookup x = some .local) (hst : St 0 s₂.heap)
    (tst : ∀ C i v h tk m₂ (Q' : Bool → Shared → Prop) (E' : Value → Shared → Prop), i < n → P i v → h.Ns C m₂ → m₂ x = some v → Stood s₂ wr h → s₂.heap.get? C = none → (∀ tk', Q' (p i) { s₂ with heap := h, toks := tk' }) →
      wpAny (model prog w) A (forIn ifs true fun c r => if r = true then do let ok ← isTrue c (compEnvC scope cl C env) (eval c (compEnvC scope cl C env)); pure (ForInStep.yield ok) else pure (ForInStep.yield r)) Q' E' { s₂ with heap := h, toks := tk })
    (turn : ∀ C i v h tk m₂, i < n → P i v → p i = true → h.Ns C m₂ → m₂ x = some v → Stood s₂ wr h → s₂.heap.get? C = none → Gives prog w A (eval elt (compEnvC scope cl C env)) (g i) s₂ h tk)
    (hRR : ∀ D C h tk m' tl, Stood s₂ wr h → h.Ns C m' → s₂.heap.get? C = none → Fresh s₂.heap h tl → C ≠ D → (∀ q ∈ tl, q.1 ≠ C) → DatIn tl (.ref D) (.list (((List.range n).filter p).map g)) → RR (.ref D) C (.ok .next) { s₂ with heap := h, toks := tk }) :
    wpAny (model prog w) A (newList []) (fun acc s₃ => wpAny (model prog w) A (newFunctionEnv scope env.globals cl [] env.qual none .none (some env)) (fun cenv s₄ =>
      codeAny (model prog w) A (.compStart (.ListComp elt [⟨.Name x px, iter, ifs, 0⟩] scope pos) 0 (.ref I) acc { cenv with scope := relabel scope env }) (RR acc cenv.locals) s₄) E s₃) E s₂ := by
  refine wpAny_newObj_type (wpAny_newFunctionEnv hcell (by intro y hy; simp at hy) (fun h₁ hns₁ hsb₁ => ?_) hkind)
  dsimp only at hns₁ hsb₁ ⊢
  generalize hH2 : s₂.heap.push { cls := .type "list", dict := none, data := .seq ([] : List Value).toArray } = H2 at hns₁ hsb₁ ⊢
  have hC : H2.objs.size = s₂.heap.objs.size + 1 := by rw [← hH2, Heap.size_push]
  have hDC : s₂.heap.objs.size ≠ H2.objs.size := by rw [hC]; exact Nat.ne_of_lt (Nat.lt_succ_self _)
  have below : ∀ b, b < s₂.heap.objs.size → b ≠ H2.objs.size ∧ b ≠ s₂.heap.objs.size := fun b hb => ⟨by rw [hC]; exact Nat.ne_of_lt (Nat.lt_succ_of_lt hb), Nat.ne_of_lt hb⟩
  have fresh : ∀ a, s₂.heap.objs.size ≤ a → s₂.heap.get? a = none := fun a ha => by
    cases e : s₂.heap.get? a with
    | none => rfl
    | some o' => exact absurd (Heap.lt_size e) (Nat.not_lt.mpr ha)
  have hfp : ∀ b ∈ fp, b < s₂.heap.objs.size := fun b hb => by obtain ⟨o, e⟩ := hex _ _ hst b hb; exact Heap.lt_size e
  have hDf : s₂.heap.objs.size ∉ fp := fun hm => Nat.lt_irrefl _ (hfp _ hm)
  have hCf : H2.objs.size ∉ fp := fun hm => by have := hfp _ hm; rw [hC] at this; exact Nat.lt_irrefl _ (Nat.lt_of_succ_lt this)
  have old : ∀ b o, s₂.heap.get? b = some o → h₁.get? b = some o := fun b o e => hsb₁.extBut b o (below b (Heap.lt_size e)).1 (Heap.get?_push_of_some _ (hH2 ▸ Heap.get?_push_of_some _ e))
  have hacc : h₁.get? s₂.heap.objs.size = some (lst []) := hsb₁.extBut _ _ hDC (Heap.get?_push_of_some _ (hH2 ▸ Heap.get?_push_size _ rfl))
  have hst₁ : St 0 h₁ := W.frame _ _ _ hst fun b _ o e => old b o e
  have kp : ∀ h, (∀ b o, b ∉ wr → b ≠ s₂.heap.objs.size → b ≠ H2.objs.size → h₁.get? b = some o → h.get? b = some o) → Stood s₂ wr h := fun h k b o hb e => k b o hb (below b (Heap.lt_size e)).2 (below b (Heap.lt_size e)).1 (old b o e)
  have hl : (compEnvC scope cl H2.objs.size env).kindOf x = some .local := lookup_relabel_local hx
  have loop : ∀ s₃ : Shared, s₃ = { s₂ with heap := h₁, toks := s₂.toks + ([] : List (Str × Value)).length } →
      codeAny (model prog w) A (.compLoop (.ListComp elt [⟨.Name x px, iter, ifs, 0⟩] scope pos) 0 (.ref I) (.ref s₂.heap.objs.size) (compEnvC scope cl H2.objs.size env))
        (RR (.ref s₂.heap.objs.size) H2.objs.size) s₃ := by
    rintro s₃ rfl
    refine loop_D (g := g) (p := p) W hsz (binder_local (cenv := compEnvC scope cl H2.objs.size env) hkind hl) hex hDf hCf hCf hDC hDC hst₁ ⟨_, hns₁⟩ hacc
      (fun i v h tk Q' E' hi hv hh hk hq => by obtain ⟨m₂, hn, e⟩ := hh; exact tst _ i v h tk m₂ Q' E' hi hv hn e (kp h hk) (fresh _ (by rw [hC]; exact Nat.le_succ _)) hq)
      (fun i v h tk hi hv hp hh hk => by obtain ⟨m₂, hn, e⟩ := hh; exact turn _ i v h tk m₂ hi hv hp hn e (kp h hk) (fresh _ (by rw [hC]; exact Nat.le_succ _))) fun h tk ys tl hok hk hD hf hy => ?_
    obtain ⟨m', hn⟩ := hok
    have hC₁ : ∃ o, h₁.get? H2.objs.size = some o := by obtain ⟨o, _, _, e, _⟩ := hns₁; exact ⟨o, e⟩
    refine hRR _ _ h tk m' ((s₂.heap.objs.size, lst ys) :: tl) (kp h hk) hn (fresh _ (by rw [hC]; exact Nat.le_succ _)) (Fresh.cons (fresh _ (Nat.le_refl _)) hD (Fresh.down old hf)) (Ne.symm hDC) ?_ ?_
    · intro q hq
      rcases List.mem_cons.mp hq with rfl | hq
      · exact hDC
      · intro e
        obtain ⟨o, e'⟩ := hC₁
        have := (hf q hq).1
        rw [e, e'] at this; cases this
    · exact DatIn.list (n := ys.length) List.mem_cons_self (hy.mono fun q hq => List.mem_cons_of_mem _ hq)
  exact codeAny_compStart_list (loop _ rfl) (W.self 0 _ _ _ hst₁ (loop _ rfl))

theorem ListComp_D {prog : Program} {w : World} {A : Around} {E : Value → Shared → Prop} {s : Shared} {env : Env} {elt iter : Expr} {ifs : List Expr} {x : Str} {px : Pos} {scope : Scope} {cl : List (Str × Addr)} {pos : Pos} {Q : Value → Shared → Prop}
    (hclos : closureFor scope env = pure cl) (hcell : ∀ y ∈ scope.names, y.2 ≠ .cell) (hkind : scope.kind = .function)
    (hnames : ∀ y ∈ scope.names, y.2 = .local → scope.names.lookup y.1 = some .local) (hx : scope.names.lookup x = some .local)
    (h : wpAny (model prog w) A (eval iter env) (fun xv s₁ => wpAny (model prog w) A (pyIter xv) (DSrc prog w A env elt ifs x scope cl fun _ => Q) E s₁) E s)
    (hs : ∀ x, foldedSetIterable iter env x = pure x := by intro _; rfl) :
    wpAny (model prog w) A (eval (.ListComp elt [⟨.Name x px, iter, ifs, 0⟩] scope pos) env) Q E s := by
  rw [eval_ListComp]
  refine wpAny_comprehension_free (use := none) rfl hs hclos hkind hnames (wpAny_mono h (fun xv s₁ h₁ => wpAny_mono h₁ (fun it s₂ h₂ => ?_) fun _ _ e => e) fun _ _ e => e)
  obtain ⟨I, fp, wr, n, P, St, g, p, rfl, W, hsz, hex, hst, tst, turn, fin⟩ := h₂
  refine block_D W hsz hex hcell hkind hx hst tst turn ?_
  intro D C h tk m' tl hS hn hC hf hCD hne hd
  refine ⟨m', hn, fun h'' hs'' => fin C D h'' tk tl (fun b o hb e => hs''.extBut b o (fun q => by rw [q, hC] at e; cases e) (hS b o hb e)) (fun q hq => ⟨(hf q hq).1, hs''.extBut _ _ (hne q hq) (hf q hq).2⟩) hC hne hd⟩

/-- what an assigned comprehension asks behind its loop -/
def AKeep (h₀ : Heap) (L : Addr) (m : Str → Option Value) (y : Str) (Q : Flow → Shared → Prop) (C : Addr) (v : Value) (s : Shared) : Prop :=
  C ≠ L ∧ h₀.get? C = none ∧ ∃ news, Fr h₀ L s.heap m ∧ News h₀ L s.heap news ∧ (∀ p ∈ news, p.1 ≠ C) ∧ (∀ h tk, Fr h₀ L h (fun z => if z = y then some v else m z) → News h₀ L h news → Q .next { s with heap := h, toks := tk })

theorem Assign_ListComp_D {prog : Program} {w : World} {A : Around} {E : Value → Shared → Prop} {s : Shared} {env : Env} {h₀ : Heap} {m : Str → Option Value} {elt iter : Expr} {ifs : List Expr} {x y : Str} {px py : Pos} {scope : Scope} {cl : List (Str × Addr)} {pos spos : Pos} {Q : Flow → Shared → Prop}
    (hsw : swapsWith (.ListComp elt [⟨.Name x px, iter, ifs, 0⟩] scope pos) (some (.Name y py)) spos.line env = pure true)
    (hclos : closureFor scope env = pure cl) (hcell : ∀ z ∈ scope.names, z.2 ≠ .cell) (hkind : scope.kind = .function)
    (hnames : ∀ z ∈ scope.names, z.2 = .local → scope.names.lookup z.1 = some .local) (hx : scope.names.lookup x = some .local)
    (hy : env.kindOf y = some .local) (hp : (env.scope.kind == .class || (env.scope.kind == .module && env.locals != env.globals)) = false)
    (_F₀ : Fr h₀ env.locals s.heap m)
    (h : wpAny (model prog w) A (eval iter env) (fun xv s₁ => wpAny (model prog w) A (pyIter xv) (DSrc prog w A env elt ifs x scope cl (AKeep h₀ env.locals m y Q)) E s₁) E s)
    (hs : ∀ x, foldedSetIterable iter env x = pure x := by intro _; rfl) :
    wpAny (model prog w) A (exec (.Assign [.Name y py] (.ListComp elt [⟨.Name x px, iter, ifs, 0⟩] scope pos) spos) env) Q E s := by
  rw [exec_Assign_Name_used _ _ _ _ hsw]
  refine wpAny_bind (wpAny_standAt (wpAny_bind ?_))
  show wpAny _ A (do let _ ← comprehension (.ListComp elt [⟨.Name x px, iter, ifs, 0⟩] scope pos) scope env _ (newList []) false (eval iter env) (some (assign (.Name y py) env))) _ _ s
  refine wpAny_bind (wpAny_mono (wpAny_comprehension_free (use := some (assign (.Name y py) env)) (Q := fun _ s' => Q .next s') rfl hs hclos hkind hnames
    (wpAny_mono h (fun xv s₁ h₁ => wpAny_mono h₁ (fun it s₂ h₂ => ?_) fun _ _ e => e) fun _ _ e => e)) (fun _ s' hq => wpAny_pure (wpAny_pure hq)) fun _ _ e => e)
  obtain ⟨I, fp, wr, n, P, St, g, p, rfl, W, hsz, hex, hst, tst, turn, fin⟩ := h₂
  refine block_D W hsz hex hcell hkind hx hst tst turn ?_
  intro D C h tk m' tl hS hn hC hf hCD hne hd
  obtain ⟨hCL, hC₀, news, F', N', hnC, k⟩ := fin C D h tk tl hS hf hC hne hd
  dsimp only at F' N' k
  have hL₀ : h₀.get? env.locals = none := Heap.get?_none_of_le F'.above
  show wpAny _ A (assign (.Name y py) env (.ref D)) _ _ _
  refine wpAny_assign_Name (wpAny_storeName_local hy F'.ns (fun h₂ hn₂ hs₂ => ?_) hp)
  have F₂ : Fr h₀ env.locals h₂ (fun z => if z = y then some (.ref D) else m z) := ⟨hn₂, fun b o e => hs₂.extBut b o (fun q => by rw [q, hL₀] at e; cases e) (F'.keep b o e), F'.above⟩
  refine ⟨m', hn.sameBut hs₂ hCL, fun h'' hs'' => k h'' _ (F₂.change hs'' hCL hC₀) (fun p hp => ?_)⟩
  exact ⟨hs''.extBut _ _ (hnC p hp) (hs₂.extBut _ _ (N' p hp).2.1 (N' p hp).1), (N' p hp).2⟩

theorem akeep {h₀ : Heap} {L : Addr} {m : Str → Option Value} {y : Str} {Q : Flow → Shared → Prop} {C : Addr} {v : Value} {s : Shared} {h : Heap} {tk : Nat} {tl news : List (Addr × Obj)}
    (F : Fr h₀ L s.heap m) (N : News h₀ L s.heap news) (e : Ext s.heap h) (f : Fresh s.heap h tl) (hC : s.heap.get? C = none) (hne : ∀ q ∈ tl, q.1 ≠ C)
    (k : ∀ h' tk', Fr h₀ L h' (fun z => if z = y then some v else m z) → News h₀ L h' (tl ++ news) → Q .next { s with heap := h', toks := tk' }) :
    AKeep h₀ L m y Q C v { s with heap := h, toks := tk } := by
  refine ⟨fun q => ?_, ?_, tl ++ news, F.keeps e, news_app (f.news F) (news_ext N e), fun p hp => ?_, fun h' tk' F' N' => k h' tk' F' N'⟩
  · obtain ⟨o, _, _, e', _⟩ := F.ns
    rw [← q, hC] at e'; cases e'
  · cases q : h₀.get? C with
    | none => rfl
    | some o => have := F.keep _ _ q; rw [hC] at this; cases this
  · rcases List.mem_append.mp hp with hp | hp
    · exact hne p hp
    · intro q
      have := (N p hp).1
      rw [q, hC] at this; cases this

theorem newEnv_cell {M : Model} {A : Around} {E : Value → Shared → Prop} {s : Shared} {scope : Scope} {globals : Addr} {cl : List (Str × Addr)} {qual : Str} {env : Env} {x : Str} {Q : Env → Shared → Prop}
    (hp : ∀ H : Heap, pushCells H scope.names = H.push { cls := .type "cell", data := .cell none }) (hcf : ∀ k, cellsFrom k scope.names cl = (x, k) :: cl)
    (hQ : Q (newEnv scope s.heap.objs.size globals ((x, s.heap.objs.size + 1) :: cl) qual none .none (some env) builtinsNs) { s with heap := (s.heap.push { cls := .type "dict", data := .dict #[] }).push { cls := .type "cell", data := .cell none } }) :
    wpAny M A (newFunctionEnv scope globals cl [] qual none .none (some env)) Q E s := by
  simp only [newFunctionEnv, Option.isSome_some, if_true]
  refine wpAny_bind (wpAny_alloc ?_)
  refine wpAny_bind (wpAny_layCells _ (fun name kind cells => by cases hkc : kind == NameKind.cell <;> simp [hkc]) _ _ _ _ ?_)
  dsimp only
  rw [hp, hcf, Heap.size_push]
  exact wpAny_bind (wpAny_pure (wpAny_pure hQ))

theorem binder_cell {prog : Program} {w : World} {A : Around} {cenv : Env} {x : Str} {px : Pos} {s : Shared} {c : Addr} (hk : cenv.scope.kind = .function) (hl : cenv.kindOf x = some .cell) (hc : cenv.cells.lookup x = some c) (hcC : c ≠ cenv.locals) :
    Binder prog w A cenv x px cenv.locals c s (fun h => (∃ m, h.Ns cenv.locals m) ∧ ∃ v, h.IsCell c v) (fun h v => h.IsCell c (some v)) where
  store := fun h tk v Q E ⟨⟨m, hn⟩, ⟨v₀, hv⟩⟩ hq => wpAny_assign_Name (wpAny_storeName_cell hk hl hc hv fun h' hc' hs' => hq h' _ ⟨⟨m, hn.sameBut hs' (Ne.symm hcC)⟩, _, hc'⟩ hc' hs')
  ok := fun h h' ⟨⟨m, hn⟩, ⟨v, o, e1, e2⟩⟩ e => ⟨⟨m, hn.at' fun o eo => e _ _ (.inl rfl) eo⟩, v, o, e _ _ (.inr rfl) e1, e2⟩
  ex := fun h ⟨⟨m, hn⟩, ⟨v, o, e1, e2⟩⟩ => ⟨by obtain ⟨o, _, _, e, _⟩ := hn; exact ⟨o, e⟩, o, e1⟩

/-- a source for a comprehension whose name is a cell of its own -/
def CSrc (prog : Program) (w : World) (A : Around) (env : Env) (elt : Expr) (x : Str) (scope : Scope) (cl : List (Str × Addr)) (Q : Value → Shared → Prop) (it : Value) (s₂ : Shared) : Prop :=
  ∃ (I : Addr) (fp wr : List Addr) (n : Nat) (P : Nat → Value → Prop) (St : Nat → Heap → Prop) (g : Nat → Dat), it = .ref I ∧ Walks prog w A I fp wr n P St ∧ n ≤ sizeLine ∧ (∀ i h, St i h → ∀ b ∈ fp, ∃ o, h.get? b = some o) ∧ St 0 s₂.heap ∧
    (∀ C c i v h tk, i < n → P i v → h.IsCell c (some v) → Stood s₂ wr h → s₂.heap.get? c = none → Gives prog w A (eval elt (compEnvC scope ((x, c) :: cl) C env)) (g i) s₂ h tk) ∧
    (∀ D h tk tl, Stood s₂ wr h → Fresh s₂.heap h tl → DatIn tl (.ref D) (.list ((List.range n).map g)) → Q (.ref D) { s₂ with heap := h, toks := tk })

theorem block_C {prog : Program} {w : World} {A : Around} {E : Value → Shared → Prop} {env : Env} {elt iter : Expr} {x : Str} {px : Pos} {scope : Scope} {cl : List (Str × Addr)} {pos : Pos} {s₂ : Shared} {I : Addr} {fp wr : List Addr} {n : Nat} {P : Nat → Value → Prop} {St : Nat → Heap → Prop}
    {g : Nat → Dat} {RR : Value → Addr → Result → Shared → Prop}
    (W : Walks prog w A I fp wr n P St) (hsz : n ≤ sizeLine) (hex : ∀ i h, St i h → ∀ b ∈ fp, ∃ o, h.get? b = some o)
    (hp : ∀ H : Heap, pushCells H scope.names = H.push { cls := .type "cell", data := .cell none }) (hcf : ∀ k, cellsFrom k scope.names cl = (x, k) :: cl)
    (hkind : scope.kind = .function) (hx : ∀ c C, (compEnvC scope ((x, c) :: cl) C env).kindOf x = some .cell) (hst : St 0 s₂.heap)
    (turn : ∀ C c i v h tk, i < n → P i v → h.IsCell c (some v) → Stood s₂ wr h → s₂.heap.get? c = none → Gives prog w A (eval elt (compEnvC scope ((x, c) :: cl) C env)) (g i) s₂ h tk)
    (hRR : ∀ D C h tk m' tl, Stood s₂ wr h → h.Ns C m' → s₂.heap.get? C = none → Fresh s₂.heap h tl → C ≠ D → (∀ q ∈ tl, q.1 ≠ C) → DatIn tl (.ref D) (.list ((List.range n).map g)) → RR (.ref D) C (.ok .next) { s₂ with heap := h, toks := tk }) :
    wpAny (model prog w) A (newList []) (fun acc s₃ => wpAny (model prog w) A (newFunctionEnv scope env.globals cl [] env.qual none .none (some env)) (fun cenv s₄ =>
      codeAny (model prog w) A (.compStart (.ListComp elt [⟨.Name x px, iter, [], 0⟩] scope pos) 0 (.ref I) acc { cenv with scope := relabel scope env }) (RR acc cenv.locals) s₄) E s₃) E s₂ := by
  refine wpAny_newObj_type (newEnv_cell hp hcf ?_)
  dsimp only
  generalize hH2 : s₂.heap.push { cls := .type "list", dict := none, data := .seq ([] : List Value).toArray } = H2
  have hC : H2.objs.size = s₂.heap.objs.size + 1 := by rw [← hH2, Heap.size_push]
  generalize hH3 : H2.push { cls := .type "dict", data := .dict #[] } = H3
  have hC3 : H3.objs.size = H2.objs.size + 1 := by rw [← hH3, Heap.size_push]
  generalize hh₁ : H3.push { cls := .type "cell", data := .cell none } = h₁
  have ge : ∀ b o, H2.get? b = some o → h₁.get? b = some o := fun b o e => hh₁ ▸ Heap.get?_push_of_some _ (hH3 ▸ Heap.get?_push_of_some _ e)
  have hns₁ : h₁.Ns H2.objs.size (fun _ => none) := by
    have z := Heap.Ns.new H2 (.type "dict")
    refine z.keeps fun b o e => ?_
    rw [← hh₁]
    refine Heap.get?_push_of_some _ ?_
    rw [← hH3]; exact e
  have hcell₁ : h₁.IsCell (H2.objs.size + 1) none := ⟨_, by rw [← hh₁, ← hC3]; exact Heap.get?_push_size _ rfl, rfl⟩
  have hDC : s₂.heap.objs.size ≠ H2.objs.size := by rw [hC]; exact Nat.ne_of_lt (Nat.lt_succ_self _)
  have hDo : s₂.heap.objs.size ≠ H2.objs.size + 1 := by rw [hC]; exact Nat.ne_of_lt (Nat.lt_succ_of_lt (Nat.lt_succ_self _))
  have below : ∀ b, b < s₂.heap.objs.size → b ≠ H2.objs.size ∧ b ≠ s₂.heap.objs.size ∧ b ≠ H2.objs.size + 1 := fun b hb => ⟨by rw [hC]; exact Nat.ne_of_lt (Nat.lt_succ_of_lt hb), Nat.ne_of_lt hb, by rw [hC]; exact Nat.ne_of_lt (Nat.lt_succ_of_lt (Nat.lt_succ_of_lt hb))⟩
  have fresh : ∀ a, s₂.heap.objs.size ≤ a → s₂.heap.get? a = none := fun a ha => by
    cases e : s₂.heap.get? a with
    | none => rfl
    | some o' => exact absurd (Heap.lt_size e) (Nat.not_lt.mpr ha)
  have hfp : ∀ b ∈ fp, b < s₂.heap.objs.size := fun b hb => by obtain ⟨o, e⟩ := hex _ _ hst b hb; exact Heap.lt_size e
  have hDf : s₂.heap.objs.size ∉ fp := fun hm => (below _ (hfp _ hm)).2.1 rfl
  have hCf : H2.objs.size ∉ fp := fun hm => (below _ (hfp _ hm)).1 rfl
  have hof : H2.objs.size + 1 ∉ fp := fun hm => (below _ (hfp _ hm)).2.2 rfl
  have old : ∀ b o, s₂.heap.get? b = some o → h₁.get? b = some o := fun b o e => ge _ _ (hH2 ▸ Heap.get?_push_of_some _ e)
  have hacc : h₁.get? s₂.heap.objs.size = some (lst []) := ge _ _ (hH2 ▸ Heap.get?_push_size _ rfl)
  have hst₁ : St 0 h₁ := W.frame _ _ _ hst fun b _ o e => old b o e
  have kp : ∀ h, (∀ b o, b ∉ wr → b ≠ s₂.heap.objs.size → b ≠ H2.objs.size + 1 → h₁.get? b = some o → h.get? b = some o) → Stood s₂ wr h := fun h k b o hb e => k b o hb (below b (Heap.lt_size e)).2.1 (below b (Heap.lt_size e)).2.2 (old b o e)
  have loop : ∀ s₃ : Shared, s₃ = { s₂ with heap := h₁ } →
      codeAny (model prog w) A (.compLoop (.ListComp elt [⟨.Name x px, iter, [], 0⟩] scope pos) 0 (.ref I) (.ref s₂.heap.objs.size) (compEnvC scope ((x, H2.objs.size + 1) :: cl) H2.objs.size env))
        (RR (.ref s₂.heap.objs.size) H2.objs.size) s₃ := by
    rintro s₃ rfl
    refine loop_D (g := g) (p := fun _ => true) W hsz (binder_cell (cenv := compEnvC scope ((x, H2.objs.size + 1) :: cl) H2.objs.size env) (c := H2.objs.size + 1) hkind (hx _ _) (by show List.lookup x ((x, H2.objs.size + 1) :: cl) = _; simp [List.lookup_cons]) (by show H2.objs.size + 1 ≠ H2.objs.size; exact Nat.succ_ne_self _)) hex hDf hCf hof hDC hDo hst₁ ⟨⟨_, hns₁⟩, _, hcell₁⟩ hacc
      (fun i v h tk Q' E' hi hv hh hk hq => wpAny_tests_nil (hq _))
      (fun i v h tk hi hv hp hh hk => turn _ _ i v h tk hi hv hh (kp h hk) (fresh _ (by rw [hC]; exact Nat.le_succ_of_le (Nat.le_succ _)))) fun h tk ys tl hok hk hD hf hy => ?_
    obtain ⟨⟨m', hn⟩, _⟩ := hok
    have hC₁ : ∃ o, h₁.get? H2.objs.size = some o := by obtain ⟨o, _, _, e, _⟩ := hns₁; exact ⟨o, e⟩
    have e0 : ((List.range n).filter fun _ => true) = List.range n := List.filter_eq_self.mpr fun _ _ => rfl
    rw [e0] at hy
    refine hRR _ _ h tk m' ((s₂.heap.objs.size, lst ys) :: tl) (kp h hk) hn (fresh _ (by rw [hC]; exact Nat.le_succ _)) (Fresh.cons (fresh _ (Nat.le_refl _)) hD (Fresh.down old hf)) (Ne.symm hDC) ?_ ?_
    · intro q hq
      rcases List.mem_cons.mp hq with rfl | hq
      · exact hDC
      · intro e
        obtain ⟨o, e'⟩ := hC₁
        have := (hf q hq).1
        rw [e, e'] at this; cases this
    · exact DatIn.list (n := ys.length) List.mem_cons_self (hy.mono fun q hq => List.mem_cons_of_mem _ hq)
  exact codeAny_compStart_list (loop _ rfl) (W.self 0 _ _ _ hst₁ (loop _ rfl))

theorem ListComp_C {prog : Program} {w : World} {A : Around} {E : Value → Shared → Prop} {s : Shared} {env : Env} {elt iter : Expr} {x : Str} {px : Pos} {scope : Scope} {cl : List (Str × Addr)} {pos : Pos} {Q : Value → Shared → Prop}
    (hclos : closureFor scope env = pure cl) (hp : ∀ H : Heap, pushCells H scope.names = H.push { cls := .type "cell", data := .cell none }) (hcf : ∀ k, cellsFrom k scope.names cl = (x, k) :: cl)
    (hkind : scope.kind = .function)
    (hnames : ∀ y ∈ scope.names, y.2 = .local → scope.names.lookup y.1 = some .local) (hx : ∀ c C, (compEnvC scope ((x, c) :: cl) C env).kindOf x = some .cell)
    (h : wpAny (model prog w) A (eval iter env) (fun xv s₁ => wpAny (model prog w) A (pyIter xv) (CSrc prog w A env elt x scope cl Q) E s₁) E s)
    (hs : ∀ x, foldedSetIterable iter env x = pure x := by intro _; rfl) :
    wpAny (model prog w) A (eval (.ListComp elt [⟨.Name x px, iter, [], 0⟩] scope pos) env) Q E s := by
  rw [eval_ListComp]
  refine wpAny_comprehension_free (use := none) rfl hs hclos hkind hnames (wpAny_mono h (fun xv s₁ h₁ => wpAny_mono h₁ (fun it s₂ h₂ => ?_) fun _ _ e => e) fun _ _ e => e)
  obtain ⟨I, fp, wr, n, P, St, g, rfl, W, hsz, hex, hst, turn, fin⟩ := h₂
  refine block_C W hsz hex hp hcf hkind hx hst turn ?_
  intro D C h tk m' tl hS hn hC hf hCD hne hd
  refine ⟨m', hn, fun h'' hs'' => fin D h'' tk tl (fun b o hb e => hs''.extBut b o (fun q => by rw [q, hC] at e; cases e) (hS b o hb e)) (fun q hq => ⟨(hf q hq).1, hs''.extBut _ _ (hne q hq) (hf q hq).2⟩) hd⟩
end Mine
end Part_TC

section Part_TS
open PySem PySem.W PyProof.Rows PySem.Calls PySem.Spec
set_option maxRecDepth 100000
set_option maxHeartbeats 2000000
namespace Mine

open LCg LCp

theorem get_size_none (h : Heap) : h.get? h.objs.size = none := by
  cases e : h.get? h.objs.size with
  | none => rfl
  | some o => exact absurd (Heap.lt_size e) (Nat.lt_irrefl _)
theorem ext_push (h : Heap) (o : Obj) : Ext h (h.push o) := fun _ _ e => Heap.get?_push_of_some _ e

theorem range_iter {prog : Program} {w : World} {A : Around} {E : Value → Shared → Prop} {s : Shared} {Q : Value → Shared → Prop} {k : Int} {t : Tok} (hk0 : 0 ≤ k) (hk1 : k ≤ 1000)
    (h : ∀ I h' tk, Ext s.heap h' → s.heap.get? I = none → IsRangeIter h' I 0 k 1 → Q (.ref I) { s with heap := h', toks := tk }) :
    wpAny (model prog w) A (call (.type "range") [.int k t]) (fun xv s₁ => wpAny (model prog w) A (pyIter xv) Q E s₁) E s := by
  refine call_range_1 (wpAny_pyIter_range (IsRange.new _ _ _ _ _ _ _) (small_one (by decide) (by decide) (by omega) (by omega)) ?_)
  have e : Builtin.Range.rangeSize 0 k 1 = k := by rw [rangeSize_one]; split <;> omega
  rw [e]
  refine h _ _ _ (fun b o eo => Heap.get?_push_of_some _ (Heap.get?_push_of_some _ eo)) ?_ (Heap.get?_push_size _ rfl)
  dsimp only
  rw [Heap.size_push]
  cases q : s.heap.get? (s.heap.objs.size + 1) with
  | none => rfl
  | some o => exact absurd (Heap.lt_size q) (Nat.not_lt.mpr (Nat.le_succ _))

theorem range_D {prog : Program} {w : World} {A : Around} {E : Value → Shared → Prop} {s : Shared} {env : Env} {elt : Expr} {x : Str} {scope : Scope} {cl : List (Str × Addr)} {Q : Addr → Value → Shared → Prop} {k : Int} {t : Tok}
    (g : Int → Dat) (hh : A.handled = none) (hk0 : 0 ≤ k) (hk1 : k ≤ 1000)
    (turn : ∀ C (i : Int) tv h tk m₂, 0 ≤ i → i < k → h.Ns C m₂ → m₂ x = some (.int i tv) → Ext s.heap h → s.heap.get? C = none → Gives prog w A (eval elt (compEnvC scope cl C env)) (g i) s h tk)
    (fin : ∀ C D h tk tl, Ext s.heap h → Fresh s.heap h tl → s.heap.get? C = none → (∀ q ∈ tl, q.1 ≠ C) → DatIn tl (.ref D) (.list ((List.range k.toNat).map fun (i : Nat) => g (i : Int))) → Q C (.ref D) { s with heap := h, toks := tk }) :
    wpAny (model prog w) A (call (.type "range") [.int k t]) (fun xv s₁ => wpAny (model prog w) A (pyIter xv) (DSrc prog w A env elt [] x scope cl Q) E s₁) E s := by
  refine range_iter hk0 hk1 fun I h' tk e hI hit => ?_
  have hkn : ((k.toNat : Nat) : Int) = k := Int.toNat_of_nonneg hk0
  have st : ∀ h, Stood { s with heap := h', toks := tk } [I] h → Ext s.heap h := fun h hS b o eo => hS b o (fun hb => by rw [List.mem_singleton.mp hb, hI] at eo; cases eo) (e b o eo)
  refine ⟨I, [I], [I], k.toNat, _, _, fun i => g (i : Int), fun _ => true, rfl, Walks.range hh I 0 1 k.toNat, by rw [sizeLine_eq]; omega, fun i h hs b hb => by rw [List.mem_singleton.mp hb]; exact ⟨_, hs⟩, ?_, ?_, ?_, ?_⟩
  · show IsRangeIter h' I _ _ 1
    rw [hkn]; simpa using hit
  · intro C i v h tk' m₂ Q' E' _ _ _ _ _ _ hq
    exact wpAny_tests_nil (hq _)
  · rintro C i v h tk' m₂ hi ⟨tv, rfl⟩ _ hn hx hS hC
    have e1 : (0 : Int) + (i : Int) * 1 = (i : Int) := by omega
    rw [e1] at hx
    exact turn C (i : Int) tv h tk' m₂ (by omega) (by omega) hn hx (st h hS) (Ext.none e hC)
  · intro C D h tk' tl hS hf hC hne hd
    refine fin C D h tk' tl (st h hS) (hf.down e) (Ext.none e hC) hne ?_
    have e0 : ((List.range k.toNat).filter fun _ => true) = List.range k.toNat := List.filter_eq_self.mpr fun _ _ => rfl
    rw [e0] at hd; exact hd

theorem range_C {prog : Program} {w : World} {A : Around} {E : Value → Shared → Prop} {s : Shared} {env : Env} {elt : Expr} {x : Str} {scope : Scope} {cl : List (Str × Addr)} {Q : Value → Shared → Prop} {k : Int} {t : Tok}
    (g : Int → Dat) (hh : A.handled = none) (hk0 : 0 ≤ k) (hk1 : k ≤ 1000)
    (turn : ∀ C c (i : Int) tv h tk, 0 ≤ i → i < k → h.IsCell c (some (.int i tv)) → Ext s.heap h → s.heap.get? c = none → Gives prog w A (eval elt (compEnvC scope ((x, c) :: cl) C env)) (g i) s h tk)
    (fin : ∀ D h tk tl, Ext s.heap h → Fresh s.heap h tl → DatIn tl (.ref D) (.list ((List.range k.toNat).map fun (i : Nat) => g (i : Int))) → Q (.ref D) { s with heap := h, toks := tk }) :
    wpAny (model prog w) A (call (.type "range") [.int k t]) (fun xv s₁ => wpAny (model prog w) A (pyIter xv) (CSrc prog w A env elt x scope cl Q) E s₁) E s := by
  refine range_iter hk0 hk1 fun I h' tk e hI hit => ?_
  have hkn : ((k.toNat : Nat) : Int) = k := Int.toNat_of_nonneg hk0
  have st : ∀ h, Stood { s with heap := h', toks := tk } [I] h → Ext s.heap h := fun h hS b o eo => hS b o (fun hb => by rw [List.mem_singleton.mp hb, hI] at eo; cases eo) (e b o eo)
  refine ⟨I, [I], [I], k.toNat, _, _, fun i => g (i : Int), rfl, Walks.range hh I 0 1 k.toNat, by rw [sizeLine_eq]; omega, fun i h hs b hb => by rw [List.mem_singleton.mp hb]; exact ⟨_, hs⟩, ?_, ?_, ?_⟩
  · show IsRangeIter h' I _ _ 1
    rw [hkn]; simpa using hit
  · rintro C c i v h tk' hi ⟨tv, rfl⟩ hx hS hC
    have e1 : (0 : Int) + (i : Int) * 1 = (i : Int) := by omega
    rw [e1] at hx
    exact turn C c (i : Int) tv h tk' (by omega) (by omega) hx (st h hS) (Ext.none e hC)
  · intro D h tk' tl hS hf hd
    exact fin D h tk' tl (st h hS) (hf.down e) hd

theorem list_D {prog : Program} {w : World} {A : Around} {E : Value → Shared → Prop} {s : Shared} {env : Env} {elt : Expr} {ifs : List Expr} {x : Str} {scope : Scope} {cl : List (Str × Addr)} {Q : Addr → Value → Shared → Prop} {l : Addr} {items : List Value}
    (g : Nat → Dat) (p : Nat → Bool) (hh : A.handled = none) (hl : s.heap.IsList l items.toArray) (hsz : items.length ≤ 1000)
    (tst : ∀ C i v h tk m₂ (Q' : Bool → Shared → Prop) (E' : Value → Shared → Prop), items[i]? = some v → h.Ns C m₂ → m₂ x = some v → Ext s.heap h → s.heap.get? C = none → (∀ tk', Q' (p i) { s with heap := h, toks := tk' }) →
      wpAny (model prog w) A (forIn ifs true fun c r => if r = true then do let ok ← isTrue c (compEnvC scope cl C env) (eval c (compEnvC scope cl C env)); pure (ForInStep.yield ok) else pure (ForInStep.yield r)) Q' E' { s with heap := h, toks := tk })
    (turn : ∀ C i v h tk m₂, items[i]? = some v → p i = true → h.Ns C m₂ → m₂ x = some v → Ext s.heap h → s.heap.get? C = none → Gives prog w A (eval elt (compEnvC scope cl C env)) (g i) s h tk)
    (fin : ∀ C D h tk tl, Ext s.heap h → Fresh s.heap h tl → s.heap.get? C = none → (∀ q ∈ tl, q.1 ≠ C) → DatIn tl (.ref D) (.list (((List.range items.length).filter p).map g)) → Q C (.ref D) { s with heap := h, toks := tk }) :
    wpAny (model prog w) A (pyIter (.ref l)) (DSrc prog w A env elt ifs x scope cl Q) E s := by
  refine wpAny_pyIter_list hl ?_
  have hlI : l ≠ s.heap.objs.size := by obtain ⟨o, e, _⟩ := hl; exact Nat.ne_of_lt (Heap.lt_size e)
  have e := ext_push s.heap { cls := .type "list_iterator", data := .fields #[.ref l, .int 0 0] }
  have st : ∀ h, Stood { s with heap := s.heap.push { cls := .type "list_iterator", data := .fields #[.ref l, .int 0 0] } } [s.heap.objs.size] h → Ext s.heap h := fun h hS b o eo => hS b o (fun hb => by rw [List.mem_singleton.mp hb, get_size_none] at eo; cases eo) (e b o eo)
  have W := Walks.list (prog := prog) (w := w) hh s.heap.objs.size l hlI items.toArray
  rw [List.size_toArray] at W
  refine ⟨s.heap.objs.size, _, _, items.length, _, _, g, p, rfl, W, by rw [sizeLine_eq]; omega, ?_, ⟨⟨_, Heap.get?_push_size _ rfl, rfl, rfl⟩, hl.at fun o eo => e _ _ eo⟩, ?_, ?_, ?_⟩
  · rintro i h ⟨h1, h2⟩ b hb
    rcases List.mem_cons.mp hb with rfl | hb
    · obtain ⟨o, eo, _⟩ := h1; exact ⟨o, eo⟩
    · rw [List.mem_singleton.mp hb]
      obtain ⟨o, eo, _⟩ := h2; exact ⟨o, eo⟩
  · intro C i v h tk' m₂ Q' E' hi hv hn hx hS hC hq
    exact tst C i v h tk' m₂ Q' E' (by simpa using hv) hn hx (st h hS) (Ext.none e hC) hq
  · intro C i v h tk' m₂ hi hv hp hn hx hS hC
    exact turn C i v h tk' m₂ (by simpa using hv) hp hn hx (st h hS) (Ext.none e hC)
  · intro C D h tk' tl hS hf hC hne hd
    exact fin C D h tk' tl (st h hS) (hf.down e) (Ext.none e hC) hne hd

/-- the end of an element: the walk stops here -/
def GEnd (Q : Value → Shared → Prop) (v : Value) (s : Shared) : Prop := Q v s
def TEnd (Q : Bool → Shared → Prop) (b : Bool) (s : Shared) : Prop := Q b s
theorem off1_of {C : Addr} : ∀ {news : List (Addr × Obj)}, (∀ p ∈ news, p.1 ≠ C) → Off1 C news
  | [], _ => trivial
  | _ :: _, h => ⟨h _ List.mem_cons_self, off1_of fun p hp => h p (List.mem_cons_of_mem _ hp)⟩
theorem news_C {h₀ h : Heap} {L C : Addr} {m m₂ : Str → Option Value} {s : Shared} {news : List (Addr × Obj)} (F : Fr h₀ L s.heap m) (N : News h₀ L s.heap news) (e : Ext s.heap h) (hC : s.heap.get? C = none) (hn : h.Ns C m₂) :
    ∃ oC, NsObj oC m₂ ∧ News h₀ L h ((C, oC) :: news) ∧ Off1 C news := by
  obtain ⟨oC, heC, hoC⟩ := ns_obj hn
  refine ⟨oC, hoC, fun p hp => ?_, ?_⟩
  · rcases List.mem_cons.mp hp with rfl | hp
    · refine ⟨heC, fun q => ?_, ?_⟩
      · obtain ⟨o, _, _, e', _⟩ := F.ns
        have q' : C = L := q
        rw [← q', hC] at e'; cases e'
      · cases q : h₀.get? C with
        | none => rfl
        | some o => have := F.keep _ _ q; rw [hC] at this; cases this
    · exact ⟨e _ _ (N p hp).1, (N p hp).2⟩
  · refine off1_of fun p hp q => ?_
    have := (N p hp).1
    have q' : p.1 = C := q
    rw [q', hC] at this; cases this
theorem list_W {prog : Program} {w : World} {A : Around} {E : Value → Shared → Prop} {s : Shared} {env : Env} {elt : Expr} {ifs : List Expr} {x : Str} {scope : Scope} {cl : List (Str × Addr)} {Q : Addr → Value → Shared → Prop} {l : Addr} {items : List Value} {kk : Nat}
    {h₀ : Heap} {L : Addr} {m : Str → Option Value} {news : List (Addr × Obj)}
    (g : Nat → Dat) (p : Nat → Bool) (hh : A.handled = none) (F : Fr h₀ L s.heap m) (N : News h₀ L s.heap news) (hm : (l, listOf items.toArray kk) ∈ news) (hsz : items.length ≤ 1000)
    (tst : ∀ C oC i v h tk m₂ (Q' : Bool → Shared → Prop) (E' : Value → Shared → Prop), items[i]? = some v → NsObj oC m₂ → m₂ x = some v → Fr h₀ L h m → News h₀ L h ((C, oC) :: news) → Off1 C news → (∀ tk', TEnd Q' (p i) { s with heap := h, toks := tk' }) →
      wpAny (model prog w) A (forIn ifs true fun c r => if r = true then do let ok ← isTrue c (compEnvC scope cl C env) (eval c (compEnvC scope cl C env)); pure (ForInStep.yield ok) else pure (ForInStep.yield r)) (TEnd Q') E' { s with heap := h, toks := tk })
    (turn : ∀ C oC i v h tk m₂ (Q' : Value → Shared → Prop) (E' : Value → Shared → Prop), items[i]? = some v → p i = true → NsObj oC m₂ → m₂ x = some v → Fr h₀ L h m → News h₀ L h ((C, oC) :: news) → Off1 C news →
      (∀ y h' tk' tl, Ext h h' → Fresh h h' tl → DatIn tl y (g i) → GEnd Q' y { s with heap := h', toks := tk' }) → wpAny (model prog w) A (eval elt (compEnvC scope cl C env)) (GEnd Q') E' { s with heap := h, toks := tk })
    (fin : ∀ C D h tk tl, Ext s.heap h → Fresh s.heap h tl → s.heap.get? C = none → (∀ q ∈ tl, q.1 ≠ C) → DatIn tl (.ref D) (.list (((List.range items.length).filter p).map g)) → Q C (.ref D) { s with heap := h, toks := tk }) :
    wpAny (model prog w) A (pyIter (.ref l)) (DSrc prog w A env elt ifs x scope cl Q) E s := by
  refine list_D g p hh ⟨_, (N _ hm).1, rfl, ⟨_, rfl⟩⟩ hsz ?_ ?_ fin
  · intro C i v h tk m₂ Q' E' hv hn hx e hC hq
    obtain ⟨oC, h1, h2, h3⟩ := news_C F N e hC hn
    exact tst C oC i v h tk m₂ Q' E' hv h1 hx (F.keeps e) h2 h3 hq
  · intro C i v h tk m₂ hv hp hn hx e hC Q' E' hq
    obtain ⟨oC, h1, h2, h3⟩ := news_C F N e hC hn
    exact turn C oC i v h tk m₂ Q' E' hv hp h1 hx (F.keeps e) h2 h3 hq
theorem range_W {prog : Program} {w : World} {A : Around} {E : Value → Shared → Prop} {s : Shared} {env : Env} {elt : Expr} {x : Str} {scope : Scope} {cl : List (Str × Addr)} {Q : Addr → Value → Shared → Prop} {k : Int} {t : Tok}
    {h₀ : Heap} {L : Addr} {m : Str → Option Value} {news : List (Addr × Obj)}
    (g : Int → Dat) (hh : A.handled = none) (hk0 : 0 ≤ k) (hk1 : k ≤ 1000) (F : Fr h₀ L s.heap m) (N : News h₀ L s.heap news)
    (turn : ∀ C oC (i : Int) tv h tk m₂ (Q' : Value → Shared → Prop) (E' : Value → Shared → Prop), 0 ≤ i → i < k → NsObj oC m₂ → m₂ x = some (.int i tv) → Fr h₀ L h m → News h₀ L h ((C, oC) :: news) → Off1 C news →
      (∀ y h' tk' tl, Ext h h' → Fresh h h' tl → DatIn tl y (g i) → GEnd Q' y { s with heap := h', toks := tk' }) → wpAny (model prog w) A (eval elt (compEnvC scope cl C env)) (GEnd Q') E' { s with heap := h, toks := tk })
    (fin : ∀ C D h tk tl, Ext s.heap h → Fresh s.heap h tl → s.heap.get? C = none → (∀ q ∈ tl, q.1 ≠ C) → DatIn tl (.ref D) (.list ((List.range k.toNat).map fun (i : Nat) => g (i : Int))) → Q C (.ref D) { s with heap := h, toks := tk }) :
    wpAny (model prog w) A (call (.type "range") [.int k t]) (fun xv s₁ => wpAny (model prog w) A (pyIter xv) (DSrc prog w A env elt [] x scope cl Q) E s₁) E s := by
  refine range_D g hh hk0 hk1 ?_ fin
  intro C i tv h tk m₂ h0 h1 hn hx e hC Q' E' hq
  obtain ⟨oC, o1, o2, o3⟩ := news_C F N e hC hn
  exact turn C oC i tv h tk m₂ Q' E' h0 h1 o1 hx (F.keeps e) o2 o3 hq
end Mine
end Part_TS

section Part_RL
open PySem PySem.W PyProof.Rows PySem.Calls PySem.Spec
set_option maxRecDepth 100000
set_option maxHeartbeats 2000000
namespace Mine

open LCg LCp
/-- a loop over range(k): an invariant over the frame's map and the ledger -/
theorem range_loop {prog : Program} {w : World} {A : Around} {E : Value → Shared → Prop} {s : Shared} {env : Env} {h₀ : Heap} {y : Str} {py : Pos} {body : List Stmt} {Q : Flow → Shared → Prop} {m₀ : Str → Option Value} {news : List (Addr × Obj)}
    {k : Int} {t : Tok} (J : Nat → (Str → Option Value) → List (Addr × Obj) → Prop) (hh : A.handled = none) (F : Fr h₀ env.locals s.heap m₀) (N : News h₀ env.locals s.heap news)
    (hk0 : 0 ≤ k) (hk1 : k ≤ 1000) (h0 : J 0 m₀ news)
    (turn : ∀ i ti m₁ nx h tk own, i < k.toNat → J i m₁ nx → Fr h₀ env.locals h m₁ → News h₀ env.locals h (nx ++ own) → OwnOff own (nx.map (·.1)) →
      wpAny (model prog w) A (assign (.Name y py) env (.int ((i : Nat) : Int) ti)) (fun _ s₃ => wpAny (model prog w) A (execs body env) (InvPostG h₀ env.locals (J (i + 1)) own { s with heap := h, toks := tk } Q) E s₃) E { s with heap := h, toks := tk })
    (done : ∀ m₁ nx h tk, J k.toNat m₁ nx → Fr h₀ env.locals h m₁ → News h₀ env.locals h nx → Q .next { s with heap := h, toks := tk }) :
    wpAny (model prog w) A (call (.type "range") [.int k t]) (fun xv s₁ => wpAny (model prog w) A (pyIter xv) (fun it s₂ => TurnsAt prog w A h₀ env (.Name y py) body Q E it s₂) E s₁) E s := by
  refine range_iter hk0 hk1 fun I h' tk e hI hit => ?_
  have hkn : ((k.toNat : Nat) : Int) = k := Int.toNat_of_nonneg hk0
  have W := Walks.range (prog := prog) (w := w) (A := A) hh I 0 1 k.toNat
  have hI0 : h₀.get? I = none := by
    cases q : h₀.get? I with
    | none => rfl
    | some o => rw [F.keep _ _ q] at hI; cases hI
  refine ⟨I, _, _, k.toNat, _, _, _, m₀, news, J, rfl, KTurns.ofWalks W (fun i v s Q E _ hq => wpAny_pure hq), ?_, ?_, ?_, ?_, F.keeps e, news_ext N e, h0, ?_, ?_⟩
  · intro hm
    have hm' : env.locals = I := by simpa using hm
    obtain ⟨o, _, _, eo, _⟩ := F.ns
    rw [hm', hI] at eo; cases eo
  · intro b hb
    rw [List.mem_singleton.mp hb]; exact hI0
  · intro p hp hb
    have := (N p hp).1
    rw [List.mem_singleton.mp hb, hI] at this; cases this
  · show IsRangeIter h' I _ _ 1
    rw [hkn]; simpa using hit
  · rintro i v m₁ nx h₁ tk₁ own hin ⟨ti, rfl⟩ hJ hoff hown hget hall hst F₁ N₁
    have e1 : (0 : Int) + (i : Int) * 1 = (i : Int) := by omega
    rw [e1]
    have hsep : OwnOff own (nx.map (·.1)) := by
      intro p hp b hb e
      obtain ⟨q, hq, rfl⟩ := List.mem_map.mp hb
      exact hoff q hq (e ▸ hown p hp)
    have N₂ : News h₀ env.locals h₁ (nx ++ own) := fun p hp => N₁ p ((List.mem_append.mp hp).elim (fun h => List.mem_append.mpr (.inr h)) fun h => List.mem_append.mpr (.inl h))
    have mI : ∃ o, (I, o) ∈ own := ⟨_, hall _ (by simp) hI0 _ hst⟩
    refine wpAny_mono (turn i ti m₁ nx h₁ tk₁ own hin hJ F₁ N₂ hsep) (fun _ s₃ p => wpAny_mono p (fun f s₂ q => ?_) fun _ _ e => e) fun _ _ e => e
    have fin : InvEndG h₀ env.locals (J (i + 1)) own { s with heap := h₁, toks := tk₁ } s₂ → LoopStepU h₀ env.locals [I] own (J (i + 1)) { s with heap := h₁, toks := tk₁ } .next s₂ := by
      rintro ⟨h₃, tk₃, m₃, news₃, nx₃, e, F₃, N₃, hn, ho, ha, hJ₃⟩
      refine ⟨rfl, h₃, tk₃, m₃, nx₃, e, F₃, fun p hp => ?_, fun p hp hq => ?_, hJ₃⟩
      · rcases List.mem_append.mp hp with hp | hp
        · exact N₃ p (ho p hp)
        · exact N₃ p (hn p hp)
      · obtain ⟨o, ho'⟩ := mI
        exact ha _ ho' p.1 (List.mem_map.mpr ⟨p, hp, rfl⟩) (List.mem_singleton.mp hq).symm
    cases f with
    | ret v => exact q
    | brk => exact q
    | next => exact fin q
    | cont => exact fin q
  · intro h₃ tk₃ m₃ nx₃ F₃ N₃ _ hJ₃
    exact done m₃ nx₃ h₃ tk₃ hJ₃ F₃ N₃
end Mine
end Part_RL

section Part_AP
open PySem PySem.W PyProof.Rows
namespace Mine
local macro_rules | `(tactic| walk_at "m_pad_0") => `(tactic| fail)
local macro_rules | `(tactic| walk_at "m_pad_1") => `(tactic| fail)
local macro_rules | `(tactic| walk_at "m_pad_2") => `(tactic| fail)
local macro_rules | `(tactic| walk_at "m_pad_3") => `(tactic| fail)
local macro_rules | `(tactic| walk_at "m_pad_4") => `(tactic| fail)
local macro_rules | `(tactic| walk_at "m_pad_5") => `(tactic| fail)
local macro_rules | `(tactic| walk_at "m_pad_6") => `(tactic| fail)
local macro_rules | `(tactic| walk_at "m_pad_7") => `(tactic| fail)
local macro_rules | `(tactic| walk_at "m_pad_8") => `(tactic| fail)
local macro_rules | `(tactic| walk_at "m_pad_9") => `(tactic| fail)
local macro_rules | `(tactic| walk_at "m_pad_10") => `(tactic| fail)
local macro_rules | `(tactic| walk_at "m_pad_11") => `(tactic| fail)
local macro_rules | `(tactic| walk_at "m_pad_12") => `(tactic| fail)
local macro_rules | `(tactic| walk_at "m_pad_13") => `(tactic| fail)
local macro_rules | `(tactic| walk_at "m_pad_14") => `(tactic| fail)
set_option maxRecDepth 100000
set_option maxHeartbeats 4000000 

inductive RowsAt (h : Heap) : List Value → List (List Int) → Prop
  | nil : RowsAt h [] []
  | cons {r : Addr} {rvs : List Value} {row : List Int} {vs : List Value} {rows : List (List Int)} : h.IsList r rvs.toArray → IntsAre rvs row → RowsAt h vs rows → RowsAt h (.ref r :: vs) (row :: rows)
theorem RowsAt.length {h : Heap} {vs : List Value} {rows : List (List Int)} (R : RowsAt h vs rows) : vs.length = rows.length := by
  induction R with
  | nil => rfl
  | cons _ _ _ ih => simp [ih]
theorem RowsAt.get {h : Heap} {vs : List Value} {rows : List (List Int)} (R : RowsAt h vs rows) : ∀ {i : Nat} {row : List Int}, rows[i]? = some row → ∃ r rvs, vs[i]? = some (.ref r) ∧ h.IsList r rvs.toArray ∧ IntsAre rvs row := by
  induction R with
  | nil => intro i row e; simp at e
  | cons hl hi _ ih =>
    intro i row e
    cases i with
    | zero => simp at e; subst e; exact ⟨_, _, rfl, hl, hi⟩
    | succ i => exact ih (by simpa using e)
theorem RowsAt.keeps {h h' : Heap} {vs : List Value} {rows : List (List Int)} (R : RowsAt h vs rows) (k : ∀ b o, h.get? b = some o → h'.get? b = some o) : RowsAt h' vs rows := by
  induction R with
  | nil => exact .nil
  | cons hl hi _ ih => exact .cons (hl.at fun o e => k _ o e) hi ih
/-- the fold of _law_apply -/
def applyF (rows : List (List Int)) (bits acc : List Int) : Nat → List Int
  | 0 => acc
  | i + 1 => if bits.getD i 0 = 1 then List.zipWith Builtin.bitXor (applyF rows bits acc i) (rows.getD i []) else applyF rows bits acc i

theorem rows_item {prog : Program} {w : World} {A : Around} {E : Value → Shared → Prop} {s : Shared} {value slice : PySem.Expr} {h₀ : Heap} {L M : Addr} {m : Str → Option Value} {mvs : List Value} {rows : List (List Int)} {k : Int} {u : Tok} {Q : Value → Shared → Prop}
    (F : Fr h₀ L s.heap m) (hM : h₀.IsList M mvs.toArray) (R : RowsAt h₀ mvs rows) (h0 : 0 ≤ k) (h1 : k < (rows.length : Int)) (hsz : rows.length ≤ 1000)
    (h : ∀ r rvs, h₀.IsList r rvs.toArray → IntsAre rvs (rows.getD k.toNat []) → Q (.ref r) s)
    (hs : subscripted slice false (.ref M) (.int k u) = operate [.ref M, .int k u] (getItem (.ref M) (.int k u)) := by with_unfolding_all rfl) :
    wpAny (model prog w) A (subscriptTail value slice (.ref M) (.int k u)) Q E s := by
  have hl : s.heap.IsList M mvs.toArray := hM.at fun o e => F.keep M o e
  have hlt : k.toNat < rows.length := by omega
  obtain ⟨r, rvs, e, hr, hi⟩ := R.get (List.getElem?_eq_getElem hlt)
  refine tail_any hl.typeIs slot_list_getitem.lookup (wpAny_getItem_list hl h0 (by omega) (by simpa using e) (h r rvs hr ?_)) hs
  rw [List.getD_eq_getElem?_getD, List.getElem?_eq_getElem hlt]; exact hi
theorem base_len {prog : Program} {w : World} {A : Around} {E : Value → Shared → Prop} {s : Shared} {h₀ : Heap} {L r : Addr} {m : Str → Option Value} {rvs : List Value} {row : List Int} {n : Nat} {Q : Value → Shared → Prop}
    (F : Fr h₀ L s.heap m) (hr : h₀.IsList r rvs.toArray) (hi : IntsAre rvs row) (e : row.length = n) (hn : n ≤ 1000)
    (h : Q (.int (n : Nat) (s.toks + 1)) { s with toks := s.toks + 1 + 1 }) : wpAny (model prog w) A (call (.builtin "len") [.ref r]) Q E s := by
  have hl : s.heap.IsList r rvs.toArray := hr.at fun o e => F.keep r o e
  have es : rvs.toArray.size = n := by rw [List.size_toArray, hi.length, e]
  refine Calls.call_len_list hl (by omega) ?_
  rw [es]; exact h
theorem rep_zero (n : Nat) : (List.replicate n [(0:Int)]).flatten = List.replicate n 0 := by
  induction n with
  | zero => rfl
  | succ n ih => rw [List.replicate_succ, List.flatten_cons, ih, List.replicate_succ]; rfl
theorem zeros_mul {prog : Program} {w : World} {A : Around} {E : Value → Shared → Prop} {s : Shared} {h₀ : Heap} {L l : Addr} {m : Str → Option Value} {news : List (Addr × Obj)} {t u : Tok} {n : Nat} {Q : Value → Shared → Prop}
    (Fm : Fr h₀ L s.heap m) (N : News h₀ L s.heap news) (hl : s.heap.IsList l [Value.int 0 t].toArray) (hn : n ≤ 1000)
    (h : ∀ D h' ys, Fr h₀ L h' m → News h₀ L h' ((D, listOf ys.toArray 0) :: news) → (∀ p ∈ news, p.1 < D) → IntsAre ys (List.replicate n 0) → Q (.ref D) { s with heap := h' }) :
    wpAny (model prog w) A (binaryOp .Mult (.ref l) (.int ((n : Nat) : Int) u)) Q E s := by
  have hi : IntsAre [Value.int 0 t] [0] := .cons 0 t .nil
  refine KM.mul Fm N hl hi (by omega) (by omega) (by simp; omega) fun D h' F' N' hlt hys _ _ _ _ _ => ?_
  refine h D h' _ F' N' hlt ?_
  have e : (List.replicate ((n : Nat) : Int).toNat [(0:Int)]).flatten = List.replicate n 0 := by
    rw [Int.toNat_natCast]
    exact rep_zero n
  rw [← e]; exact hys
theorem news_head {h₀ : Heap} {L : Addr} {h : Heap} {p : Addr × Obj} {l : List (Addr × Obj)} (N : News h₀ L h (p :: l)) : News h₀ L h [p] := fun q hq => N q (List.mem_singleton.mp hq ▸ List.mem_cons_self)
def JA (M : Addr) (rows : List (List Int)) (bits : List Int) (n : Nat) (i : Nat) (m : Str → Option Value) (nx : List (Addr × Obj)) : Prop :=
  ∃ D ys kk, nx = [(D, listOf ys.toArray kk)] ∧ IntsAre ys (applyF rows bits (List.replicate n 0) i) ∧ m (Str.ofString "told") = some (.ref D) ∧ m (Str.ofString "matrix") = some (.ref M)
theorem map_two {m : Str → Option Value} {a b : Str} {u v : Option Value} (h1 : m a = u) (h2 : m b = v) : ∃ m' : Str → Option Value, m = fun y => if y = a then u else if y = b then v else m' y :=
  ⟨m, funext fun y => by by_cases e : y = a; · simp [e, h1]
                         · by_cases e' : y = b
                           · simp [e, e', h2]
                             intro q; rw [← q] at h1; exact absurd (e'.trans q) e
                           · simp [e, e']⟩
theorem name_ns {prog : Program} {w : World} {A : Around} {E : Value → Shared → Prop} {s : Shared} {env : Env} {x : Str} {pos : Pos} {m : Str → Option Value} {v : Value} {Q : Value → Shared → Prop}
    (hk : env.scope.kind = .function) (hl : env.kindOf x = some .local) (hd : (x == ("__debug__" : Str)) = false) (hn : s.heap.Ns env.locals m) (hv : m x = some v) (h : Q v s) : wpAny (model prog w) A (eval (.Name x pos) env) Q E s :=
  wpAny_Name (wpAny_loadName_local hk hl hn hv h) hd
theorem xor_turn {prog : Program} {w : World} {A : Around} {s : Shared} {env : Env} {x y : Str} {px py pos : Pos} {m : Str → Option Value} {a b : Int} {ta tb : Tok} {h : Heap} {tk : Nat} {Q E : Value → Shared → Prop}
    (hk : env.scope.kind = .function) (hx : env.kindOf x = some .local) (hxd : (x == ("__debug__" : Str)) = false) (hy : env.kindOf y = some .local) (hyd : (y == ("__debug__" : Str)) = false) (hn : h.Ns env.locals m) (h1 : m x = some (.int a ta)) (h2 : m y = some (.int b tb))
    (hq : ∀ t tk', Q (.int (Builtin.bitXor a b) t) { s with heap := h, toks := tk' }) : wpAny (model prog w) A (eval (.BinOp (.Name x px) .BitXor (.Name y py) pos) env) Q E { s with heap := h, toks := tk } :=
  wpAny_BinOp (name_ns hk hx hxd hn h1 (name_ns hk hy hyd hn h2 (xor_int (hq _ _))))
local macro_rules | `(tactic| walk_at "InvEndG") => `(tactic| k_extra "MYEND")
local macro_rules | `(tactic| walk_at "binaryOp Mult ref int") => `(tactic| k_extra "MULT")
theorem applyF_length {rows : List (List Int)} {bits : List Int} {n : Nat} (hr : rows.length = n) (hrl : ∀ r ∈ rows, r.length = n) : ∀ {i : Nat}, i ≤ n → (applyF rows bits (List.replicate n 0) i).length = n
  | 0, _ => by simp [applyF]
  | i + 1, h => by
    have hlt : i < rows.length := by omega
    have e : (rows.getD i []).length = n := by rw [List.getD_eq_getElem?_getD, List.getElem?_eq_getElem hlt]; exact hrl _ (List.getElem_mem hlt)
    unfold applyF
    split
    · rw [List.length_zipWith, applyF_length hr hrl (by omega), e, Nat.min_self]
    · exact applyF_length hr hrl (by omega)
local macro_rules | `(tactic| walk_at "exec Assign cons ListComp") => `(tactic| (k_here; (with_reducible show wpAny _ _ (exec (Stmt.Assign _ (Expr.ListComp _ [⟨Expr.Tuple _ _ _, Expr.Call (Expr.Name (Str.ofString "zip") _) _ _ _, _, _⟩] _ _) _) _) _ _ _); k_dflt (refine Assign_ListComp_Z (by rfl) (by with_unfolding_all rfl) (by decide) (by rfl) (by decide) (by rfl) (by rfl) (by decide) (by rfl) (by rfl) (by k_asm) ?_)))
local macro_rules | `(tactic| walk_at "eval ListComp") => `(tactic| (k_here; (with_reducible show wpAny _ _ (eval (Expr.ListComp _ [⟨Expr.Tuple _ _ _, Expr.Call (Expr.Name (Str.ofString "zip") _) _ _ _, _, _⟩] _ _) _) _ _ _); k_dflt (refine ListComp_Z (by with_unfolding_all rfl) (by decide) (by rfl) (by decide) (by rfl) (by rfl) (by decide) ?_)))
theorem apply_spec : ∀ {w : World} {mean : ExcName → Option Value} {mg mb : Str → Option Value}
    (dp un : Nat) (gd : Option (List Code)) (cn : Str) (cs : Scope) (a : Addr) (ccd : Value) (cl : List (Str × Addr)) (outer : List Env) (A₀ : Around) (base h₀ : Heap) (L : Addr) (m : Str → Option Value) (s : Shared) (Q E : Value → Shared → Prop)
    (M b : Addr) (mvs bvs : List Value) (rows : List (List Int)) (bits : List Int) (n : Nat)
    (B : Below A₀ base outer h₀) (F : Fr h₀ L s.heap m) (X : (hd.heap_39 w.params).In h₀)
    (T : Top hd.view_39 (looseW hd.view_39 [Str.ofString "Parameters"]) mean mg mb h₀) (hk : cs.kind = .function)
    (hM : s.heap.IsList M mvs.toArray) (hR : RowsAt s.heap mvs rows) (hb : s.heap.IsList b bvs.toArray) (hbi : IntsAre bvs bits)
    (hn0 : 0 < n) (hn1 : n ≤ 100) (hr : rows.length = n) (hbl : bits.length = n) (hrl : ∀ r ∈ rows, r.length = n)
    (hd : dp + 20 < recursionLimit) (hu : un + 80 < cLine)
    (ret : ∀ (D : Addr) (ys : List Value) (k' : Nat) (h' : Heap) (tk' : Nat), Fr h₀ L h' m → Ext s.heap h' → s.heap.get? D = none → h'.get? D = some ({ cls := .type "list", data := .seq ys.toArray k' } : Obj) → IntsAre ys (applyF rows bits (List.replicate n 0) n) → Q (.ref D) { s with heap := h', toks := tk' }),
    wpAny (model PySem.Challenge.rw_et5001_01.row.prog w) (ktrTop dp un gd cn cs L a ccd cl outer) (call (.ref 153) [.ref M, .ref b]) Q E s := by
  w_on
  w_top off
  k_with_none
  k_fill
  intro w mean mg mb dp un gd cn cs a ccd cl outer A₀ base h₀ L m s Q E M b mvs bvs rows bits n B F X T hk hM hR hb hbi hn0 hn1 hr hbl hrl hd hu ret
  have N : News h₀ L s.heap [] := fun _ h => nomatch h
  have Nr : News h₀ L s.heap [] := fun _ h => nomatch h
  have ap : Apart [] [] := fun _ h => nomatch h
  refine wpAny_call ?_
  k_dflt ((refine' code_defR ?k1 ?k2 ?k3 ?k4 ?k5 ?kr ?ka ?kA ?kF ?kK ?k6 ?k7 ?k8 ?k9 ?kB ?_ ?c2 ?c3 ?c4 ?c5); (case ka => assumption); (case kA => exact rfl); (case kF => exact rfl); (case kK => assumption); (case k1 => k_asm); (case k2 => k_asm); (case k3 => k_asm); (case k4 => assumption); (case k5 => k_asm); (case kr => assumption); (case k6 => k_is); (case k7 => k_is); (case k8 => ktr_room); (case k9 => exact BindsTo.of_eq rfl); (case c5 => decide); (case kB => exact locs rfl); (case c2 => exact rfl); (case c3 => exact rfl); (case c4 => exact rfl); k_whole; intro g' L' h' FG' F' N' B' X' T' KB'; (try dsimp only); (try k_lift B'); (try k_fold))
  have kbg : ∀ c o, s.heap.get? c = some o → g'.get? c = some o := fun c o e => KB' c o e (fun _ h => nomatch h)
  have hMg : g'.IsList M mvs.toArray := hM.at fun o e => kbg M o e
  have hRg := hR.keeps kbg
  have hbg : g'.IsList b bvs.toArray := hb.at fun o e => kbg b o e
  clear hM hR hb
  have hsz : rows.length ≤ 1000 := by omega
  have hpos : (0:Int) < (rows.length : Int) := by omega
  have hrow0 : (rows.getD (0:Int).toNat []).length = n := by
    cases rows with
    | nil => simp at hr; omega
    | cons r rs => exact hrl r List.mem_cons_self
  try k_fold
  k_with "subscriptTail Name Constant ref int" => (k_here; (with_reducible show wpAny _ _ (subscriptTail _ _ (Value.ref M) (Value.int 0 _)) _ _ _); (with_unfolding_all refine' rows_item ?k1 hMg hRg ?k2 ?k3 hsz ?_ ?k5; (case k1 => k_asm); (case k2 => decide); (case k3 => exact hpos); (case k5 => with_unfolding_all rfl)); intro r0 rv0 hl0 hi0; k_whole)
  k_with "call builtin:len cons nil" => (k_here; (with_reducible show wpAny _ _ (call (Value.builtin "len") [Value.ref r0]) _ _ _); (refine' base_len ?k1 hl0 hi0 (n := n) ?k2 ?k3 ?_; (case k1 => k_asm); (case k2 => exact hrow0); (case k3 => omega)); k_whole)
  k_with "MULT" => (k_here; (with_reducible show wpAny _ _ (binaryOp Operator.Mult (Value.ref _) (Value.int (Nat.cast n) _)) _ _ _); (refine' zeros_mul (n := n) ?k1 ?k2 ?k3 ?k4 ?_; (case k1 => k_asm); (case k2 => k_asm); (case k3 => is_list); (case k4 => omega)); k_whole; intro D0 h' ys0 F' N' l1 hys0; (try k_lt l1))
  k_with "exec For Tuple Call cons nil" => (k_here; (rename Fr _ _ _ _ => lF'); (with_unfolding_all refine' For_turns lF' ?_); k_whole)
  k_with "call type:enumerate cons nil" => ((with_reducible show wpAny _ _ (call (.type "enumerate") [.ref b]) (fun xv s₁ => wpAny _ _ (pyIter xv) (fun it s₂ => TurnsAt _ _ _ _ _ _ _ _ _ it s₂) _ _) _ _); (rename News _ _ _ _ => lN'); (rename Fr _ _ _ _ => lF'); (with_unfolding_all refine' enum_loop (JA M rows bits n) ?k1 (l := b) lF' (news_head lN') hbg hbi ?k2 ?_ ?_); (case k1 => exact rfl); (case k2 => exact ⟨D0, ys0, _, rfl, hys0, rfl, rfl⟩); all_goals first | (intro i x T ta tb m₁ nx h' tk own hx hJ hT F' N' ow; (have hin : i < n := by (have := (List.getElem?_eq_some_iff.mp hx).1; omega)); (have hin1 : (0:Int) ≤ (i : Int) := by omega); (have hin2 : (i : Int) < (rows.length : Int) := by omega); (have hxd : bits.getD i 0 = x := by (rw [List.getD_eq_getElem?_getD, hx]; rfl)); obtain ⟨D, ys, kk, e1, hys, e2, e3⟩ := hJ; obtain ⟨m', em⟩ := map_two e2 e3; rw [em] at F'; clear em e2 e3; subst e1; clear m₁; k_whole) | (intro m₁ nx h' tk hJ F' N'; obtain ⟨D, ys, kk, e1, hys, e2, e3⟩ := hJ; obtain ⟨m', em⟩ := map_two e2 e3; rw [em] at F'; clear em e2 e3; subst e1; clear m₁; k_whole))
  k_with "subscriptTail Name Name ref int" => (k_here; (with_reducible show wpAny _ _ (subscriptTail _ _ (Value.ref M) (Value.int _ _)) _ _ _); (with_unfolding_all refine' rows_item ?k1 hMg hRg ?k2 ?k3 hsz ?_ ?k5; (case k1 => k_asm); (case k2 => exact hin1); (case k3 => exact hin2); (case k5 => with_unfolding_all rfl)); intro r1 rv1 hl1 hi1; k_whole)
  k_with "call type:zip cons nil" => ((with_reducible show wpAny _ _ (call (.type "zip") [.ref _, .ref _]) _ _ _); (rename News _ _ _ _ => lN'); (rename Fr _ _ _ _ => lF'); (with_unfolding_all refine' zip_src Builtin.bitXor ?k1 lF' lN' ?k2 hys ?k4 hi1 ?k6 ?k7 ?_ ?_); (case k1 => exact rfl); (case k2 => is_list); (case k4 => exact hl1.at fun o e => lF'.keep _ o e); (case k6 => (rw [applyF_length hr hrl (by omega)]; exact (hrl _ (by (rw [List.getD_eq_getElem?_getD, List.getElem?_eq_getElem (by omega)]; exact List.getElem_mem _))).symm)); (case k7 => (rw [applyF_length hr hrl (by omega)]; omega)); all_goals first | (intro a b ta tb C m₂ h' tk Q' E' hn h1 h2 hq; exact xor_turn (by rfl) (by rfl) (by rfl) (by rfl) (by rfl) hn h1 h2 hq) | (intro Dz h' tk yz F' N' hyz hlz hkz; refine ⟨Dz, _, rfl, F', N', ?_, ?_⟩; all_goals first | (intro p hp; exact (List.mem_cons.mp hp).elim (fun e => .inl (congrArg Prod.fst e)) (fun hp => .inr (hlz p hp))) | (clear F' N'; intro h' tk F' N'; k_whole)))
  k_with "MYEND" => (first | (refine InvEndG.intro F' N' (nx := [(Dz, LCg.lst yz)]) ⟨Dz, yz, _, rfl, ?j1, rfl, rfl⟩ ?j2 ?j3 ?j4; (case j1 => (unfold applyF; rw [if_pos (by omega)]; exact hyz)); (case j2 => (intro p hp b hb e; (have e2 : b = Dz := by simpa using hb); (have e3 := hlz p (List.mem_append_right _ hp)); rw [e, e2] at e3; exact Nat.lt_irrefl _ e3)); (case j3 => (intro p hp; rw [List.mem_singleton.mp hp]; exact List.Mem.head _)); (case j4 => (intro p hp; exact List.mem_cons_of_mem _ (List.mem_append_right _ hp)))) | ((rename Fr _ _ _ _ => lFn); (rename News _ _ _ _ => lNn); refine InvEndG.intro lFn lNn (nx := [(D, listOf ys.toArray kk)]) ⟨D, ys, _, rfl, ?j1, rfl, rfl⟩ ow ?j3 ?j4; (case j1 => (unfold applyF; rw [if_neg (by omega)]; exact hys)); (case j3 => (intro p hp; exact List.mem_append_left _ hp)); (case j4 => (intro p hp; exact List.mem_append_right _ hp))))
  k_steps
  dsimp only [RestR]
  intro kNr
  rw [hbl] at hys
  rename Fr g' _ _ _ => kFg
  rename News g' _ _ (_ :: _) => kNg
  have hx := kNg _ List.mem_cons_self
  exact ret _ _ _ _ _ (by assumption) (fun c o e => kFg.keep c o (kbg c o e)) (Ext.none kbg hx.2.2) hx.1 hys
end Mine
end Part_AP

section Part_FRC
open PySem PySem.W PyProof.Rows PySem.Calls
namespace Mine

section
variable {prog : Program} {w : World} {A A₀ : Around} {s : Shared} {K : Frag} {L : Addr} {h₀ base : Heap} {m mg mb : Str → Option Value} {news rest : List (Addr × Obj)} {p : Program} {loose : List Str} {mean : ExcName → Option Value}
theorem code_defRC {env : Env} {outer : List Env} {R : Result → Shared → Prop} {name qual : Str} {params : Arguments} {body : List Stmt} {scope : Scope} {dV kV doc pm cdv ct oc : Value} {an od : Option Addr} {osl : Array (Option Value)} {f : Addr} {args : Args} {binds : List (Str × Value)}
    (B : Below A₀ base outer h₀) (F : Fr h₀ L s.heap m) (X₀ : K.In h₀) (N : News h₀ L s.heap news) (T : Top p loose mean mg mb h₀) (hA : A.frames = some (env :: outer)) (hf : env.frame = some L) (hke : env.scope.kind = .function)
    (ho : K.lookup f = some ⟨oc, od, .func (fnOf name qual params body scope dV kV doc pm an cdv ct), osl⟩) (hcd : codeIn K cdv qual = true) (hroom : A.depth < recursionLimit)
    (hbind : BindsTo s (fnOf name qual params body scope dV kV doc pm an cdv ct) args binds) (hkind : (binds.all fun y => scope.names.lookup y.1 == some .local || scope.names.lookup y.1 == some .cell) = true)
    (hnd : ((cellsFrom 0 scope.names []).map (·.1)).Nodup)
    (h : ∀ g L' h₁ tk cells, Fr h₀ L g m → Fr g L' h₁ (bindL (envOfC qual scope L' f cdv).kindOf binds fun _ => none) → News g L' h₁ (cells ++ news) →
      CellsAre (bindC (envOfC qual scope L' f cdv).kindOf binds fun _ => none) (cellsFrom (L' + 1) scope.names []) cells → Below A base (env :: outer) g → K.In g → Top p loose mean mg mb g → (∀ p ∈ news, p.1 < L') → KeptBut s.heap news g →
      wpAny (model prog w) (A.deeper (envOfC qual scope L' f cdv)) (execs body (envOfC qual scope L' f cdv))
        (fun fl s' => LeaveK h₀ L m g R (match fl with | .ret v => v | _ => .none) s')
        (fun e s' => wpAny (model prog w) (A.deeper (envOfC qual scope L' f cdv)) (leaving (envOfC qual scope L' f cdv) e) (fun _ s'' => R (.error e) s'') (fun e' s'' => R (.error e') s'') s')
        { s with heap := h₁, toks := tk })
    (hco : scope.isCoroutine = false) (hgen : scope.isGenerator = false) (hk : scope.kind = .function) : codeAny (model prog w) A (.call (.ref f) args) R s := by
  obtain ⟨FG, BG, st, lv⟩ := groundX (R := R) B F N hA hf hke
  have kb : KeptBut s.heap news (hideAll s.heap (news.map (·.1))) := fun b o e n => hideAll_get _ e (fun q => by
    obtain ⟨p, hp, rfl⟩ := List.mem_map.mp q
    exact n p hp rfl)
  refine codeAny_call_function (fd := fnX name qual params body scope [] dV kV doc pm an cdv ct) hroom ((X₀.keeps F.keep) _ _ ho) rfl hco hgen rfl (codeRec_of (X₀.keeps F.keep) hcd) (hbind _ _ _ _ ?_)
  refine wpAny_newFunctionEnv_cells hk (kindsX hkind _) fun env' he s' x => ?_
  subst he
  refine ⟨(T.nolimit.keeps F.keep).keeps x.toInCall.keep, codeAny_func ?_⟩
  obtain ⟨h₁, tk, rfl, _⟩ := x.done
  have hk₁ := x.toInCall.keep
  obtain ⟨cells, NC, Y⟩ := Cl.news (h₀ := s.heap) (Nat.le_refl _) fun n c hm => ⟨x.cell n c (lookup_of_mem_nodup (cellsFrom_names scope.names 0 (s.heap.objs.size + 1) [] [] rfl ▸ hnd) hm), x.above n c hm⟩
  refine wpAny_mono (h _ s.heap.objs.size h₁ tk cells FG ⟨x.toInCall.ns, fun b o e => hk₁ b o (of_hideAll _ e), Nat.le_of_eq (hideAll_size _ _)⟩ (fun p hp => ?_) Y BG (X₀.keeps st) (T.keeps st) (fun p hp => Heap.lt_size (N p hp).1) kb) (fun fl s' hl => lv _ _ hl) fun _ _ y => y
  rcases List.mem_append.mp hp with hp | hp
  · refine ⟨(NC p hp).1, (NC p hp).2.1, ?_⟩
    cases q : (hideAll s.heap (news.map (·.1))).get? p.1 with
    | none => rfl
    | some o => have := of_hideAll _ q; rw [(NC p hp).2.2] at this; cases this
  · exact ⟨hk₁ _ _ (N p hp).1, Nat.ne_of_lt (Heap.lt_size (N p hp).1), hideAll_none _ (List.mem_map_of_mem hp)⟩
end
end Mine
end Part_FRC

section Part_AU
open PySem PySem.W PyProof.Rows PySem.Calls PySem.Spec
set_option maxRecDepth 100000
set_option maxHeartbeats 2000000
namespace Mine

/-- a list of ints, a list of such lists, as data -/
def DI (row : List Int) : Dat := .list (row.map Dat.int)
def MI (rows : List (List Int)) : Dat := .list (rows.map DI)
theorem datAll_intsI {tl : List (Addr × Obj)} : ∀ {vs : List Value} {row : List Int}, DatAll tl vs (row.map Dat.int) → IntsAre vs row
  | [], [], _ => .nil
  | _ :: _, k :: _, .cons (.int _ t) r => .cons k t (datAll_intsI r)
theorem ints_datAll {tl : List (Addr × Obj)} : ∀ {vs : List Value} {row : List Int}, IntsAre vs row → DatAll tl vs (row.map Dat.int)
  | _, _, .nil => .nil
  | _, _, .cons k t r => .cons (.int k t) (ints_datAll r)
theorem datIn_list {tl : List (Addr × Obj)} {v : Value} {ds : List Dat} : DatIn tl v (.list ds) → ∃ r vs n, v = .ref r ∧ (r, listOf vs.toArray n) ∈ tl ∧ DatAll tl vs ds
  | .list hm r => ⟨_, _, _, rfl, hm, r⟩
theorem datIn_ints {tl : List (Addr × Obj)} {v : Value} {row : List Int} (h : DatIn tl v (DI row)) : ∃ r vs n, v = .ref r ∧ (r, listOf vs.toArray n) ∈ tl ∧ IntsAre vs row := by
  obtain ⟨r, vs, n, e, hm, hd⟩ := datIn_list h
  exact ⟨r, vs, n, e, hm, datAll_intsI hd⟩
theorem ints_datIn {tl : List (Addr × Obj)} {r : Addr} {vs : List Value} {n : Nat} {row : List Int} (hm : (r, listOf vs.toArray n) ∈ tl) (h : IntsAre vs row) : DatIn tl (.ref r) (DI row) := .list hm (ints_datAll h)
theorem datAll_rows {tl : List (Addr × Obj)} {h : Heap} (hs : ∀ p ∈ tl, h.get? p.1 = some p.2) : ∀ {vs : List Value} {rows : List (List Int)}, DatAll tl vs (rows.map DI) → RowsAt h vs rows
  | [], [], _ => .nil
  | _ :: _, _ :: _, .cons d r => by
    obtain ⟨a, us, n, rfl, hm, hi⟩ := datIn_ints d
    exact .cons ⟨_, hs _ hm, rfl, ⟨_, rfl⟩⟩ hi (datAll_rows hs r)
theorem datAll_get {tl : List (Addr × Obj)} : ∀ {vs : List Value} {ds : List Dat} {i : Nat} {v : Value}, DatAll tl vs ds → vs[i]? = some v → ∃ d, ds[i]? = some d ∧ DatIn tl v d
  | _, _, 0, _, .cons d _, e => ⟨_, rfl, by simp at e; exact e ▸ d⟩
  | _, _, i + 1, _, .cons _ r, e => by simpa using datAll_get (i := i) r (by simpa using e)
theorem apply_gives {w : World} {mean : ExcName → Option Value} {mg mb : Str → Option Value}
    {dp un : Nat} {gd : Option (List Code)} {cn : Str} {cs : Scope} {a : Addr} {ccd : Value} {cl : List (Str × Addr)} {outer : List Env} {A₀ : Around} {base h₀ : Heap} {L : Addr} {m : Str → Option Value} {s : Shared} {Q E : Value → Shared → Prop}
    {v u : Value} {rows : List (List Int)} {bits : List Int} {n : Nat} {tl tl₂ : List (Addr × Obj)}
    (B : Below A₀ base outer h₀) (F : Fr h₀ L s.heap m) (X : (hd.heap_39 w.params).In h₀)
    (T : Top hd.view_39 (looseW hd.view_39 [Str.ofString "Parameters"]) mean mg mb h₀) (hk : cs.kind = .function)
    (hM : DatIn tl v (MI rows)) (hs : ∀ p ∈ tl, s.heap.get? p.1 = some p.2) (hb : DatIn tl₂ u (DI bits)) (hs₂ : ∀ p ∈ tl₂, s.heap.get? p.1 = some p.2)
    (hn0 : 0 < n) (hn1 : n ≤ 100) (hr : rows.length = n) (hbl : bits.length = n) (hrl : ∀ r ∈ rows, r.length = n)
    (hd : dp + 20 < recursionLimit) (hu : un + 80 < cLine)
    (ret : ∀ y h' tk' tl', Fr h₀ L h' m → Ext s.heap h' → Fresh s.heap h' tl' → DatIn tl' y (DI (applyF rows bits (List.replicate n 0) n)) → Q y { s with heap := h', toks := tk' }) :
    wpAny (model PySem.Challenge.rw_et5001_01.row.prog w) (ktrTop dp un gd cn cs L a ccd cl outer) (call (.ref 153) [v, u]) Q E s := by
  obtain ⟨M, mvs, nM, rfl, hmM, hdM⟩ := datIn_list hM
  obtain ⟨b, bvs, nb, rfl, hmb, hib⟩ := datIn_ints hb
  refine apply_spec _ _ _ _ _ _ _ _ _ _ _ _ _ _ _ _ _ M b mvs bvs rows bits n B F X T hk ⟨_, hs _ hmM, rfl, ⟨_, rfl⟩⟩ (datAll_rows hs hdM) ⟨_, hs₂ _ hmb, rfl, ⟨_, rfl⟩⟩ hib hn0 hn1 hr hbl hrl hd hu ?_
  intro D ys k' h' tk' F' e hD hD' hy
  exact ret (.ref D) h' tk' [(D, _)] F' e (Fresh.cons hD hD' Fresh.nil) (ints_datIn List.mem_cons_self hy)
end Mine
end Part_AU

section Part_RK
open PySem PySem.W PyProof.Rows
namespace Mine
local macro_rules | `(tactic| walk_at "m_pad_0") => `(tactic| fail)
local macro_rules | `(tactic| walk_at "m_pad_1") => `(tactic| fail)
local macro_rules | `(tactic| walk_at "m_pad_2") => `(tactic| fail)
local macro_rules | `(tactic| walk_at "m_pad_3") => `(tactic| fail)
local macro_rules | `(tactic| walk_at "m_pad_4") => `(tactic| fail)
local macro_rules | `(tactic| walk_at "m_pad_5") => `(tactic| fail)
local macro_rules | `(tactic| walk_at "m_pad_6") => `(tactic| fail)
local macro_rules | `(tactic| walk_at "m_pad_7") => `(tactic| fail)
local macro_rules | `(tactic| walk_at "m_pad_8") => `(tactic| fail)
local macro_rules | `(tactic| walk_at "m_pad_9") => `(tactic| fail)
local macro_rules | `(tactic| walk_at "m_pad_10") => `(tactic| fail)
set_option maxRecDepth 100000
set_option maxHeartbeats 4000000 

def rb (b : Int) (x : Int) : Bool := decide (Builtin.bitAnd (x.fdiv (2 ^ b.toNat)) 1 = 1)
def rstep (b : Int) (st : List Int × Int) : List Int × Int :=
  match st.1.filter (rb b) with
  | [] => st
  | f :: _ => ((st.1.erase f).map (fun x => if rb b x then Builtin.bitXor x f else x), st.2 + 1)
def rrun (nums : List Int) : Nat → List Int × Int
  | 0 => (nums, 0)
  | b + 1 => rstep ((b : Nat) : Int) (rrun nums b)

def JR (cb cf : Addr) (nums : List Int) (i : Nat) (m : Str → Option Value) (nx : List (Addr × Obj)) : Prop :=
  ∃ R vs kk ob oF tr, nx = [(R, listOf vs.toArray kk), (cf, oF), (cb, ob)] ∧ IntsAre vs (rrun nums i).1 ∧ (∃ v, ob.data = .cell v) ∧ (∃ v, oF.data = .cell v) ∧ (@Ne Nat cf R ∧ @Ne Nat cb R) ∧ m (Str.ofString "rows") = some (.ref R) ∧ m (Str.ofString "rank") = some (.int (rrun nums i).2 tr)
theorem rstep_length (b : Int) (st : List Int × Int) : (rstep b st).1.length ≤ st.1.length := by
  unfold rstep
  split
  · exact Nat.le_refl _
  · rw [List.length_map]; exact List.length_erase_le
theorem rrun_length (nums : List Int) : ∀ i, (rrun nums i).1.length ≤ nums.length
  | 0 => Nat.le_refl _
  | i + 1 => Nat.le_trans (rstep_length _ _) (rrun_length nums i)
theorem ints_get {vs : List Value} {ns : List Int} (h : IntsAre vs ns) {i : Nat} {v : Value} (e : vs[i]? = some v) : ∃ t, v = .int (ns.getD i 0) t := by
  obtain ⟨k, t, e1, e2⟩ := IntsAre.at h i v (by simpa using e)
  exact ⟨t, by rw [e1, List.getD_eq_getElem?_getD, e2]; rfl⟩
theorem range_getD (f : Int → Dat) : ∀ (p : Int → Bool) (ns : List Int), ((List.range ns.length).filter fun j => p (ns.getD j 0)).map (fun j => f (ns.getD j 0)) = (ns.filter p).map f := by
  intro p ns
  have e : ns = (List.range ns.length).map fun j => ns.getD j 0 := by
    apply List.ext_getElem?
    intro i
    rw [List.getElem?_map]
    by_cases hi : i < ns.length
    · rw [List.getElem?_range hi, List.getElem?_eq_getElem hi]; simp [List.getD_eq_getElem?_getD, hi]
    · rw [List.getElem?_eq_none (Nat.not_lt.mp hi), List.getElem?_eq_none (by simpa using hi)]; rfl
  conv => rhs; rw [e]
  rw [List.filter_map, List.map_map]; rfl
theorem fin_list {h₀ h : Heap} {L D : Addr} {m : Str → Option Value} {s : Shared} {news tl : List (Addr × Obj)} {row : List Int} (F : Fr h₀ L s.heap m) (N : News h₀ L s.heap news) (e : Ext s.heap h) (f : Fresh s.heap h tl) (hd : DatIn tl (.ref D) (DI row)) :
    ∃ vs n, Fr h₀ L h m ∧ News h₀ L h ((D, listOf vs.toArray n) :: news) ∧ LCg.Off1 D news ∧ IntsAre vs row := by
  obtain ⟨r, vs, n, e1, hm, hi⟩ := datIn_ints hd
  cases e1
  refine ⟨vs, n, F.keeps e, fun p hp => ?_, off1_of fun p hp q => ?_, hi⟩
  · rcases List.mem_cons.mp hp with rfl | hp
    · exact f.news F _ hm
    · exact news_ext N e p hp
  · have z := (N p hp).1
    have q' : p.1 = D := q
    rw [q', (f _ hm).1] at z; cases z
local macro_rules | `(tactic| walk_at "exec For Name Call cons nil") => `(tactic| k_extra "MYFOR")
local macro_rules | `(tactic| walk_at "call type:range cons nil") => `(tactic| k_extra "MYRANGE")
local macro_rules | `(tactic| walk_at "eval ListComp") => `(tactic| (k_here; k_dflt (refine ListComp_D (by with_unfolding_all rfl) (by decide) (by rfl) (by decide) (by rfl) ?_)))
local macro_rules | `(tactic| walk_at "pyIter ref") => `(tactic| k_extra "MYITER")
local macro_rules | `(tactic| walk_at "TEnd") => `(tactic| k_extra "MYT")
local macro_rules | `(tactic| walk_at "GEnd") => `(tactic| k_extra "MYG")
theorem list_len {prog : Program} {w : World} {A : Around} {E : Value → Shared → Prop} {s : Shared} {h₀ : Heap} {L r : Addr} {news : List (Addr × Obj)} {rvs : List Value} {row : List Int} {n : Nat} {Q : Value → Shared → Prop}
    (N : News h₀ L s.heap news) (hm : (r, listOf rvs.toArray n) ∈ news) (hi : IntsAre rvs row) (hn : row.length ≤ 1000)
    (h : Q (.int (row.length : Nat) (s.toks + 1)) { s with toks := s.toks + 1 + 1 }) : wpAny (model prog w) A (call (.builtin "len") [.ref r]) Q E s := by
  have es : rvs.toArray.size = row.length := by rw [List.size_toArray, hi.length]
  have hl : s.heap.IsList r rvs.toArray := ⟨_, (N _ hm).1, rfl, ⟨_, rfl⟩⟩
  refine Calls.call_len_list hl (by omega) ?_
  rw [es]; exact h
theorem erase_at {k : Int} : ∀ {ns : List Int}, k ∈ ns → ∃ j, ns[j]? = some k ∧ (∀ i, i < j → ns[i]? ≠ some k) ∧ ns.erase k = ns.eraseIdx j
  | [], h => nomatch h
  | n :: ns, h => by
    by_cases e : n = k
    · exact ⟨0, by simp [e], fun i hi => absurd hi (Nat.not_lt_zero _), by simp [e]⟩
    · have hm : k ∈ ns := (List.mem_cons.mp h).elim (fun q => absurd q.symm e) id
      obtain ⟨j, h1, h2, h3⟩ := erase_at hm
      refine ⟨j + 1, by simpa using h1, fun i hi => ?_, ?_⟩
      · cases i with
        | zero => simp [e]
        | succ i => simpa using h2 i (by omega)
      · rw [List.erase_cons_tail (by simpa using e), h3]; rfl
theorem ints_eraseIdx : ∀ {vs : List Value} {ns : List Int} (j : Nat), IntsAre vs ns → IntsAre (vs.eraseIdx j) (ns.eraseIdx j)
  | _, _, _, .nil => .nil
  | _, _, 0, .cons _ _ r => r
  | _, _, j + 1, .cons k t r => .cons k t (ints_eraseIdx j r)
theorem remove_ints {prog : Program} {w : World} {A : Around} {E : Value → Shared → Prop} {s : Shared} {h₀ : Heap} {L R : Addr} {m : Str → Option Value} {news : List (Addr × Obj)} {g : Obj → List (Addr × Obj)} {vs : List Value} {ns : List Int} {kk : Nat} {k : Int} {t : Tok} {Q : Value → Shared → Prop}
    (F : Fr h₀ L s.heap m) (N : News h₀ L s.heap news) (hi : IntsAre vs ns) (hk : k ∈ ns) (hz : ns.length ≤ 1000) (U : UpdF R (listOf vs.toArray kk) news g)
    (h : ∀ h' q n', IntsAre q (ns.erase k) → Fr h₀ L h' m → News h₀ L h' (g (listOf q.toArray n')) → Q .none { s with heap := h' }) : wpAny (model prog w) A (call (.builtin "list.remove") [.ref R, .int k t]) Q E s := by
  obtain ⟨pre, post, rfl, hg, a', b'⟩ := U.split
  have z := N (R, listOf vs.toArray kk) (List.mem_append.mpr (.inr (.head _)))
  obtain ⟨j, h1, h2, h3⟩ := erase_at hk
  have hj : j < ns.length := (List.getElem?_eq_some_iff.mp h1).1
  have hl := hi.length
  have hjs : j < vs.toArray.size := by rw [List.size_toArray]; omega
  have eqv : ∀ y, y ∈ vs.toArray → PySem.MeetsSeq.EqGives y (.int k t) (isInt k y) := fun y hy => by
    obtain ⟨i, hi', e⟩ := List.getElem_of_mem (by simpa using hy : y ∈ vs)
    obtain ⟨t', rfl⟩ := ints_get hi (i := i) (v := y) (by rw [List.getElem?_eq_getElem hi', e])
    exact PySem.MeetsSeq.EqGives.int _ _ _ _
  have val : ∀ i (hi' : i < vs.toArray.size), ∃ t', vs.toArray[i] = .int (ns.getD i 0) t' := fun i hi' => by
    have hi2 : i < vs.length := by simpa using hi'
    obtain ⟨t', e⟩ := ints_get hi (i := i) (v := vs[i]) (List.getElem?_eq_getElem hi2)
    exact ⟨t', by simpa using e⟩
  refine call_meets PySem.F.slot_list_remove ⟨_, z.1, rfl⟩ PySem.F.entry_list_remove (PySem.F.args_list_remove_2 _ _)
    (PySem.MeetsSeq.list_remove R vs.toArray kk (.int k t) (isInt k) eqv j hjs ?_ (fun i hi' hlt => ?_) (by rw [List.size_toArray, sizeLine_eq]; omega))
    ⟨z.1, h _ (vs.eraseIdx j) (kk + 1) (h3 ▸ ints_eraseIdx j hi) (F.change (Heap.SameBut.update ..) z.2.1 z.2.2) ?_⟩
  · obtain ⟨t', e⟩ := val j hjs
    rw [e]
    show (ns.getD j 0 == k) = true
    rw [List.getD_eq_getElem?_getD, h1]; simp
  · obtain ⟨t', e⟩ := val i hi'
    rw [e]
    show (ns.getD i 0 == k) = false
    have := h2 i hlt
    rw [List.getD_eq_getElem?_getD]
    have hi2 : i < ns.length := by omega
    rw [List.getElem?_eq_getElem hi2] at this ⊢
    simpa using this
  · rw [hg]
    refine kl_turn _ N a' b' ?_ ?_
    · show vs.toArray.eraseIdxIfInBounds j = (vs.eraseIdx j).toArray
      apply Array.toList_inj.mp
      simp [Array.toList_eraseIdxIfInBounds]
    · rw [List.size_toArray, List.size_toArray, List.length_eraseIdx]
      have : j < vs.length := by simpa using hjs
      rw [if_pos this]; omega
theorem list_item0 {prog : Program} {w : World} {A : Around} {E : Value → Shared → Prop} {s : Shared} {value slice : PySem.Expr} {h₀ : Heap} {L D : Addr} {news : List (Addr × Obj)} {rvs : List Value} {ns r0 : List Int} {n : Nat} {f0 : Int} {u : Tok} {Q : Value → Shared → Prop}
    (N : News h₀ L s.heap news) (hm : (D, listOf rvs.toArray n) ∈ news) (hi : IntsAre rvs ns) (ef : ns = f0 :: r0) (h : ∀ t, Q (.int f0 t) s)
    (hs : subscripted slice false (.ref D) (.int 0 u) = operate [.ref D, .int 0 u] (getItem (.ref D) (.int 0 u)) := by with_unfolding_all rfl) :
    wpAny (model prog w) A (subscriptTail value slice (.ref D) (.int 0 u)) Q E s := by
  have hl : s.heap.IsList D rvs.toArray := ⟨_, (N _ hm).1, rfl, ⟨_, rfl⟩⟩
  subst ef
  cases hi with
  | cons k t r => exact tail_any hl.typeIs slot_list_getitem.lookup (wpAny_getItem_list hl (by decide) (by simp) (by simp) (h t)) hs
theorem head_of {l : List Int} (h : (0 : Int) < ((l.length : Nat) : Int)) : ∃ f r, l = f :: r := by
  cases l with
  | nil => simp at h
  | cons f r => exact ⟨f, r, rfl⟩
theorem rstep_cons {b : Int} {st : List Int × Int} {f : Int} {r : List Int} (h : st.1.filter (rb b) = f :: r) : rstep b st = ((st.1.erase f).map (fun x => if rb b x then Builtin.bitXor x f else x), st.2 + 1) := by
  unfold rstep; rw [h]
theorem getD_mem {l : List Int} (h : (0 : Int) < ((l.length : Nat) : Int)) : l.getD (Int.toNat 0) 0 ∈ l := by
  obtain ⟨f, r, rfl⟩ := head_of h
  exact List.mem_cons_self
theorem rstep_get {b : Int} {st : List Int × Int} (h : (0 : Int) < (((st.1.filter (rb b)).length : Nat) : Int)) : rstep b st = ((st.1.erase ((st.1.filter (rb b)).getD (Int.toNat 0) 0)).map (fun x => if rb b x then Builtin.bitXor x ((st.1.filter (rb b)).getD (Int.toNat 0) 0) else x), st.2 + 1) := by
  obtain ⟨f, r, e⟩ := head_of h
  rw [rstep_cons e, e]; rfl
theorem rstep_nil {b : Int} {st : List Int × Int} (h : st.1.filter (rb b) = []) : rstep b st = st := by
  unfold rstep; rw [h]
theorem range_map (f : Int → Int) (ns : List Int) : ((List.range ns.length).filter fun _ => true).map (fun j => Dat.int (f (ns.getD j 0))) = (ns.map f).map Dat.int := by
  rw [range_getD (fun x => Dat.int (f x)) (fun _ => true) ns, List.filter_eq_self.mpr fun _ _ => rfl, List.map_map]; rfl
theorem akeep_ints {h₀ : Heap} {L : Addr} {m : Str → Option Value} {y : Str} {Q : Flow → Shared → Prop} {C D : Addr} {s : Shared} {h : Heap} {tk : Nat} {tl news : List (Addr × Obj)} {row : List Int}
    (F : Fr h₀ L s.heap m) (N : News h₀ L s.heap news) (e : Ext s.heap h) (f : Fresh s.heap h tl) (hC : s.heap.get? C = none) (hne : ∀ q ∈ tl, q.1 ≠ C) (hd : DatIn tl (.ref D) (DI row))
    (k : ∀ vs n h' tk', IntsAre vs row → LCg.Off1 D news → Fr h₀ L h' (fun z => if z = y then some (.ref D) else m z) → News h₀ L h' ((D, listOf vs.toArray n) :: news) → Q .next { s with heap := h', toks := tk' }) :
    AKeep h₀ L m y Q C (.ref D) { s with heap := h, toks := tk } := by
  obtain ⟨vs, n, _, _, o1, hi⟩ := fin_list F N e f hd
  obtain ⟨r, vs, n, e1, hm, hi⟩ := datIn_ints hd
  cases e1
  exact akeep (tl := [(D, listOf vs.toArray n)]) F N e (fun q hq => f q (List.mem_singleton.mp hq ▸ hm)) hC (fun q hq => hne q (List.mem_singleton.mp hq ▸ hm)) fun h' tk' F' N' => k vs n h' tk' hi o1 F' N'
local macro_rules | `(tactic| walk_at "exec Assign cons ListComp") => `(tactic| (k_here; k_dflt (refine Assign_ListComp_D (by rfl) (by with_unfolding_all rfl) (by decide) (by rfl) (by decide) (by rfl) (by rfl) (by rfl) (by k_asm) ?_)))
local macro_rules | `(tactic| walk_at "call builtin:list.remove") => `(tactic| k_extra "MYREM")
local macro_rules | `(tactic| walk_at "InvEndG") => `(tactic| k_extra "MYEND")
theorem off1_mem' {D : Addr} : ∀ {l : List (Addr × Obj)}, LCg.Off1 D l → ∀ p ∈ l, p.1 ≠ D
  | [], _, _, h => nomatch h
  | _ :: _, h, p, hp => by
    rcases List.mem_cons.mp hp with rfl | hp
    · exact h.1
    · exact off1_mem' h.2 p hp
theorem ownoff3 {own : List (Addr × Obj)} {adr : List Addr} {D cf cb : Addr} (o : LCg.Off1 D own) (ow : OwnOff own adr) (h1 : cf ∈ adr) (h2 : cb ∈ adr) : OwnOff own [D, cf, cb] := by
  intro p hp b hb
  simp only [List.mem_cons, List.not_mem_nil, or_false] at hb
  rcases hb with rfl | rfl | rfl
  · exact off1_mem' o p hp
  · exact ow p hp _ h1
  · exact ow p hp _ h2
theorem nil_of {l : List Int} (h : ¬ (0 : Int) < ((l.length : Nat) : Int)) : l = [] := by
  cases l with
  | nil => rfl
  | cons f r => exact absurd (by simp) h
theorem rank_spec : ∀ {w : World} {mean : ExcName → Option Value} {mg mb : Str → Option Value}
    (dp un : Nat) (gd : Option (List Code)) (cn : Str) (cs : Scope) (a : Addr) (ccd : Value) (cl : List (Str × Addr)) (outer : List Env) (A₀ : Around) (base h₀ : Heap) (L : Addr) (m : Str → Option Value) (s : Shared) (Q E : Value → Shared → Prop)
    (l : Addr) (lvs : List Value) (nums : List Int) (wide : Int) (tw : Tok)
    (B : Below A₀ base outer h₀) (F : Fr h₀ L s.heap m) (X : (hd.heap_39 w.params).In h₀)
    (T : Top hd.view_39 (looseW hd.view_39 [Str.ofString "Parameters"]) mean mg mb h₀) (hk : cs.kind = .function)
    (hl : s.heap.IsList l lvs.toArray) (hi : IntsAre lvs nums) (hn : nums.length ≤ 100) (hw0 : 0 ≤ wide) (hw1 : wide ≤ 100)
    (hd : dp + 20 < recursionLimit) (hu : un + 80 < cLine)
    (ret : ∀ (t' : Tok) (h' : Heap) (tk' : Nat), Fr h₀ L h' m → Ext s.heap h' → Q (.int (rrun nums wide.toNat).2 t') { s with heap := h', toks := tk' }),
    wpAny (model PySem.Challenge.rw_et5001_01.row.prog w) (ktrTop dp un gd cn cs L a ccd cl outer) (call (.ref 158) [.ref l, .int wide tw]) Q E s := by
  w_on
  w_top off
  k_with_none
  k_fill
  intro w mean mg mb dp un gd cn cs a ccd cl outer A₀ base h₀ L m s Q E l lvs nums wide tw B F X T hk hl hi hn hw0 hw1 hd hu ret
  have N : News h₀ L s.heap [] := fun _ h => nomatch h
  refine wpAny_call ?_
  k_dflt ((refine' code_defRC ?k1 ?k2 ?k3 ?k4 ?k5 ?kA ?kF ?kK ?k6 ?k7 ?k8 ?k9 ?kB ?kD ?_ ?c2 ?c3 ?c4); (case kA => exact rfl); (case kF => exact rfl); (case kK => assumption); (case k1 => k_asm); (case k2 => k_asm); (case k3 => k_asm); (case k4 => assumption); (case k5 => k_asm); (case k6 => k_is); (case k7 => k_is); (case k8 => ktr_room); (case k9 => exact BindsTo.of_eq rfl); (case kB => exact rfl); (case kD => decide +kernel); (case c2 => exact rfl); (case c3 => exact rfl); (case c4 => exact rfl); k_whole; intro g' L' h' tk' cells' FG' F' N' Y' B' X' T' l1 KB'; k_cells Y'; (try simp only [List.cons_append, List.nil_append] at N'); (try dsimp only); (try k_lift B'); (try k_fold))
  have kbg : ∀ c o, s.heap.get? c = some o → g'.get? c = some o := fun c o e => KB' c o e (fun _ h => nomatch h)
  have hlg : g'.IsList l lvs.toArray := hl.at fun o e => kbg l o e
  clear hl
  try k_fold
  k_with "MYFOR" => (k_here; (rename Fr _ _ _ _ => lF'); (with_unfolding_all refine' For_turns lF' ?_); k_whole)
  k_with "MYRANGE" => ((with_reducible show wpAny _ _ (call (.type "range") [.int wide tw]) (fun xv s₁ => wpAny _ _ (pyIter xv) (fun it s₂ => TurnsAt _ _ _ _ _ _ _ _ _ it s₂) _ _) _ _); (rename News _ _ _ _ => lN'); (rename Fr _ _ _ _ => lF'); (with_unfolding_all refine' range_loop (JR (L' + 1) (L' + 1 + 1) nums) ?k1 lF' lN' hw0 ?k2 ?k3 ?_ ?_); (case k1 => exact rfl); (case k2 => omega); (case k3 => exact ⟨_, _, _, _, _, _, rfl, hi, ⟨_, by assumption⟩, ⟨_, by assumption⟩, ⟨by omega, by omega⟩, rfl, rfl⟩); all_goals first | (intro i ti m₁ nx h' tk own hin hJ F' N' ow; (have hin1 : (0:Int) ≤ (i : Int) := by omega); obtain ⟨R, vs, kk, ob, oF, tr, e1, hys, ⟨vb, hcb⟩, ⟨vf, hcf⟩, hRc, e2, e3⟩ := hJ; obtain ⟨m', em⟩ := map_two e2 e3; rw [em] at F'; clear em e2 e3; subst e1; clear m₁; k_whole) | (intro m₁ nx h' tk hJ F' N'; obtain ⟨R, vs, kk, ob, oF, tr, e1, hys, ⟨vb, hcb⟩, ⟨vf, hcf⟩, hRc, e2, e3⟩ := hJ; obtain ⟨m', em⟩ := map_two e2 e3; rw [em] at F'; clear em e2 e3; subst e1; clear m₁; k_whole))
  k_with "MYITER" => ((with_reducible show wpAny _ _ (pyIter (.ref R)) (DSrc _ _ _ _ (Expr.Name _ _) [_] _ _ _ _) _ _); (rename News _ _ _ _ => lN'); (rename Fr _ _ _ _ => lF'); (with_unfolding_all refine' list_W (items := vs) (kk := kk) (fun j => Dat.int ((rrun nums i).1.getD j 0)) (fun j => rb (i : Int) ((rrun nums i).1.getD j 0)) ?k1 lF' lN' ?k2 ?k3 ?_ ?_ ?_); (case k1 => exact rfl); (case k2 => k_mem); (case k3 => (rw [hys.length]; exact Nat.le_trans (rrun_length nums i) (by omega))); all_goals first | (intro C oC j v h' tk m₂ Q' E' hv hC hx F' N' o1 hq; obtain ⟨tv, rfl⟩ := ints_get hys hv; (try dsimp only at hq ⊢); refine wpAny_tests_one ?_; k_whole) | (intro C oC j v h' tk m₂ Q' E' hv hp hC hx F' N' o1 hq; obtain ⟨tv, rfl⟩ := ints_get hys hv; (try dsimp only at hq ⊢); k_whole) | (intro C D h' tk tl e f hC hne hd; rw [hys.length, range_getD Dat.int (rb (i : Int)) (rrun nums i).1] at hd; obtain ⟨vs2, n2, F', N', o1, hys2⟩ := fin_list lF' lN' e f hd; clear hd e f hne; (dsimp only [LCg.Off1] at o1); k_whole))
  k_with "MYT" => (with_unfolding_all exact hq _)
  k_with "MYG" => (first | exact hq _ _ _ [] (Ext.refl _) Fresh.nil (.int _ _) | (refine hq _ _ _ [] (Ext.refl _) Fresh.nil ?_; first | (rw [if_pos (show rb _ _ = true from decide_eq_true (by assumption))]; exact .int _ _) | (rw [if_neg (show ¬ rb _ _ = true from fun h => absurd (of_decide_eq_true h) (by assumption))]; exact .int _ _)))
  k_with "MYEND" => ((rename Fr _ _ _ _ => lFn); (rename News _ _ _ _ => lNn); first | (refine' InvEndG.intro lFn lNn (nx := [(D2, listOf vs4.toArray n4), (L' + 1 + 1, _), (L' + 1, _)]) ⟨D2, vs4, n4, _, _, _, rfl, ?j0, ⟨_, (by assumption : Obj.data _ = Data.cell (some (Value.int (i : Int) ti)))⟩, ⟨_, (by assumption : Obj.data _ = Data.cell (some (Value.ref D)))⟩, ?j5, rfl, ?j6⟩ ?j2 ?j3 ?j4; (case j0 => (show IntsAre vs4 (rstep (i : Int) (rrun nums i)).1; rw [rstep_get (by assumption)]; exact hys4)); (case j5 => exact ⟨by omega, by omega⟩); (case j6 => (show _ = some (Value.int (rstep (i : Int) (rrun nums i)).2 _); rw [rstep_get (by assumption)]; rfl)); (case j2 => exact ownoff3 o2.2.2.2.2 ow (by simp) (by simp)); (case j3 => (intro p hp; (simp only [List.mem_cons, List.not_mem_nil, or_false] at hp); rcases hp with rfl | rfl | rfl <;> simp)); (case j4 => (intro p hp; exact .tail _ (.tail _ (.tail _ (.tail _ (.tail _ hp))))))) | (refine' InvEndG.intro lFn lNn (nx := [(R, listOf vs.toArray kk), (L' + 1 + 1, _), (L' + 1, _)]) ⟨R, vs, kk, _, _, tr, rfl, ?j0, ⟨_, (by assumption : Obj.data _ = Data.cell (some (Value.int (i : Int) ti)))⟩, ⟨_, (by assumption : Obj.data _ = Data.cell (some (Value.ref D)))⟩, hRc, rfl, ?j6⟩ ?j2 ?j3 ?j4; (case j0 => (show IntsAre vs (rstep (i : Int) (rrun nums i)).1; rw [rstep_nil (nil_of (by assumption))]; exact hys)); (case j6 => (show _ = some (Value.int (rstep (i : Int) (rrun nums i)).2 _); rw [rstep_nil (nil_of (by assumption))]; rfl)); (case j2 => exact ow); (case j3 => (intro p hp; (simp only [List.mem_cons, List.not_mem_nil, or_false] at hp); rcases hp with rfl | rfl | rfl <;> simp)); (case j4 => (intro p hp; exact .tail _ (.tail _ (.tail _ (.tail _ hp)))))))
  k_with "call builtin:len cons nil" => (k_here; (with_reducible show wpAny _ _ (call (Value.builtin "len") [Value.ref D]) _ _ _); (refine' list_len ?k1 ?k2 hys2 ?k3 ?_; (case k1 => k_asm); (case k2 => k_mem); (case k3 => exact Nat.le_trans (List.length_filter_le _ _) (Nat.le_trans (rrun_length nums i) (by omega)))); k_whole)
  k_with "MYREM" => (k_here; (refine' remove_ints ?F ?N hys ?m ?z ?U ?_); (case F => k_asm); (case N => k_asm); (case m => exact (List.mem_filter.mp (getD_mem (l := List.filter (rb (i : Int)) (rrun nums i).1) (by assumption))).1); (case z => exact Nat.le_trans (rrun_length nums i) (by omega)); (case U => k_updF); k_whole; intro h' q1 n1 hys3 F' N'; (try dsimp only))
  k_with "MYITER" => ((with_reducible show wpAny _ _ (pyIter (.ref R)) (DSrc _ _ _ _ (Expr.IfExp _ _ _ _) _ _ _ _ _) _ _); (rename News _ _ _ _ => lN'); (rename Fr _ _ _ _ => lF'); (with_unfolding_all refine' list_W (items := q1) (kk := n1) (fun j => Dat.int (if rb (i : Int) (((rrun nums i).1.erase ((List.filter (rb (i : Int)) (rrun nums i).1).getD (Int.toNat 0) 0)).getD j 0) then Builtin.bitXor (((rrun nums i).1.erase ((List.filter (rb (i : Int)) (rrun nums i).1).getD (Int.toNat 0) 0)).getD j 0) ((List.filter (rb (i : Int)) (rrun nums i).1).getD (Int.toNat 0) 0) else ((rrun nums i).1.erase ((List.filter (rb (i : Int)) (rrun nums i).1).getD (Int.toNat 0) 0)).getD j 0)) (fun _ => true) ?k1 lF' lN' ?k2 ?k3 ?_ ?_ ?_); (case k1 => exact rfl); (case k2 => k_mem); (case k3 => (rw [hys3.length]; exact Nat.le_trans List.length_erase_le (Nat.le_trans (rrun_length nums i) (by omega)))); all_goals first | (intro C oC j v h' tk m₂ Q' E' hv hC hx F' N' o1 hq; exact wpAny_tests_nil (hq _)) | (intro C oC j v h' tk m₂ Q' E' hv hp hC hx F' N' o1 hq; obtain ⟨tv, rfl⟩ := ints_get hys3 hv; (try dsimp only at hq ⊢); k_whole) | (intro C D2 h' tk tl e f hC hne hd; rw [hys3.length, range_map (fun x => if rb (i : Int) x then Builtin.bitXor x ((List.filter (rb (i : Int)) (rrun nums i).1).getD (Int.toNat 0) 0) else x)] at hd; refine akeep_ints lF' lN' e f hC hne hd ?_; clear hd e f hne; intro vs4 n4 h' tk' hys4 o2 F' N'; (dsimp only [LCg.Off1] at o2); k_whole))
  k_steps
  rename Fr g' _ _ _ => kFg
  exact ret _ _ _ (by assumption) (fun c o e => kFg.keep c o (kbg c o e))
end Mine
end Part_RK

section Part_PS
open PySem PySem.W PyProof.Rows
namespace Mine
local macro_rules | `(tactic| walk_at "m_pad_0") => `(tactic| fail)
local macro_rules | `(tactic| walk_at "m_pad_1") => `(tactic| fail)
local macro_rules | `(tactic| walk_at "m_pad_2") => `(tactic| fail)
local macro_rules | `(tactic| walk_at "m_pad_3") => `(tactic| fail)
local macro_rules | `(tactic| walk_at "m_pad_4") => `(tactic| fail)
local macro_rules | `(tactic| walk_at "m_pad_5") => `(tactic| fail)
local macro_rules | `(tactic| walk_at "m_pad_6") => `(tactic| fail)
local macro_rules | `(tactic| walk_at "m_pad_7") => `(tactic| fail)
local macro_rules | `(tactic| walk_at "m_pad_8") => `(tactic| fail)
local macro_rules | `(tactic| walk_at "m_pad_9") => `(tactic| fail)
local macro_rules | `(tactic| walk_at "m_pad_10") => `(tactic| fail)
local macro_rules | `(tactic| walk_at "m_pad_11") => `(tactic| fail)
local macro_rules | `(tactic| walk_at "m_pad_12") => `(tactic| fail)
local macro_rules | `(tactic| walk_at "m_pad_13") => `(tactic| fail)
local macro_rules | `(tactic| walk_at "m_pad_14") => `(tactic| fail)
local macro_rules | `(tactic| walk_at "m_pad_15") => `(tactic| fail)
local macro_rules | `(tactic| walk_at "m_pad_16") => `(tactic| fail)
local macro_rules | `(tactic| walk_at "m_pad_17") => `(tactic| fail)
local macro_rules | `(tactic| walk_at "m_pad_18") => `(tactic| fail)
local macro_rules | `(tactic| walk_at "m_pad_19") => `(tactic| fail)
set_option maxRecDepth 100000
set_option maxHeartbeats 4000000 
local macro_rules | `(tactic| walk_at "call builtin:_operator.index") => `(tactic| (k_here; k_dflt (refine op_index ?_)))
local macro_rules | `(tactic| k_room) => `(tactic| ktr_room)
theorem params_spec : ∀ {w : World} {mean : ExcName → Option Value} {mg mb : Str → Option Value}
    (dp un : Nat) (gd : Option (List Code)) (cn : Str) (cs : Scope) (a : Addr) (ccd : Value) (cl : List (Str × Addr)) (outer : List Env) (A₀ : Around) (base h₀ : Heap) (L : Addr) (m : Str → Option Value) (s : Shared) (Q E : Value → Shared → Prop)
    (xA dA : Addr) (a0 a1 a2 a3 a4 a5 : Int) (v0 v1 v2 v3 v4 v5 r0 r1 r2 r5 : Nat) (n P c0 xo dw : Int) (td : Tok) (ri ro : Bool) (ka : Nat) (rest : List (Addr × Obj))
    (B : Below A₀ base outer h₀) (F : Fr h₀ L s.heap m) (X : (hd.heap_39 w.params).In h₀)
    (N : News h₀ L s.heap ((xA, instObj 71 dA) :: (dA, dictOf [⟨a0, .str (Str.ofString "crc_width") v0, .int n r0⟩, ⟨a1, .str (Str.ofString "polynomial") v1, .int P r1⟩, ⟨a2, .str (Str.ofString "initial_crc") v2, .int c0 r2⟩, ⟨a3, .str (Str.ofString "reflect_input") v3, .bool ri⟩, ⟨a4, .str (Str.ofString "reflect_output") v4, .bool ro⟩, ⟨a5, .str (Str.ofString "xor_output") v5, .int xo r5⟩] ka) :: []))
    (hxd : @Ne Nat dA xA)
    (Nr : News h₀ L s.heap rest) (ap : Apart rest ((xA, instObj 71 dA) :: (dA, dictOf [⟨a0, .str (Str.ofString "crc_width") v0, .int n r0⟩, ⟨a1, .str (Str.ofString "polynomial") v1, .int P r1⟩, ⟨a2, .str (Str.ofString "initial_crc") v2, .int c0 r2⟩, ⟨a3, .str (Str.ofString "reflect_input") v3, .bool ri⟩, ⟨a4, .str (Str.ofString "reflect_output") v4, .bool ro⟩, ⟨a5, .str (Str.ofString "xor_output") v5, .int xo r5⟩] ka) :: []))
    (T : Top hd.view_39 (looseW hd.view_39 [Str.ofString "Parameters"]) mean mg mb h₀) (hk : cs.kind = .function)
    (hw0 : 0 < dw)
    (hd : dp + 20 < recursionLimit) (hu : un + 80 < cLine)
    (ret : ∀ (x dx : Addr) (g0 g1 g2 g3 g4 g5 g6 : Int) (u0 u1 u2 u3 u4 u5 u6 t0 t1 t2 t5 t6 : Nat) (kk : Nat) (h' : Heap) (tk' : Nat), Fr h₀ L h' m → News h₀ L h' rest →
      News h₀ L h' ((x, instObj 137 dx) :: (dx, dictOf [⟨g0, .str (Str.ofString "_crc_width") u0, .int n t0⟩, ⟨g1, .str (Str.ofString "_polynomial") u1, .int P t1⟩, ⟨g2, .str (Str.ofString "_initial_crc") u2, .int c0 t2⟩, ⟨g3, .str (Str.ofString "_reflect_input") u3, .bool ri⟩, ⟨g4, .str (Str.ofString "_reflect_output") u4, .bool ro⟩, ⟨g5, .str (Str.ofString "_xor_output") u5, .int xo t5⟩, ⟨g6, .str (Str.ofString "data_width") u6, .int dw t6⟩] kk) :: (xA, instObj 71 dA) :: (dA, dictOf [⟨a0, .str (Str.ofString "crc_width") v0, .int n r0⟩, ⟨a1, .str (Str.ofString "polynomial") v1, .int P r1⟩, ⟨a2, .str (Str.ofString "initial_crc") v2, .int c0 r2⟩, ⟨a3, .str (Str.ofString "reflect_input") v3, .bool ri⟩, ⟨a4, .str (Str.ofString "reflect_output") v4, .bool ro⟩, ⟨a5, .str (Str.ofString "xor_output") v5, .int xo r5⟩] ka) :: []) →
      (∀ p ∈ rest, p.1 ≠ x) → (∀ p ∈ rest, p.1 ≠ dx) → (@Ne Nat xA x ∧ @Ne Nat xA dx ∧ @Ne Nat dA x ∧ @Ne Nat dA dx) → Q (.ref x) { s with heap := h', toks := tk' }),
    wpAny (model PySem.Challenge.rw_et5001_01.row.prog w) (ktrTop dp un gd cn cs L a ccd cl outer) (call (.ref xA) [.int dw td]) Q E s := by
  w_on
  w_top off
  k_with_none
  k_fill
  intro w mean mg mb dp un gd cn cs a ccd cl outer A₀ base h₀ L m s Q E xA dA a0 a1 a2 a3 a4 a5 v0 v1 v2 v3 v4 v5 r0 r1 r2 r5 n P c0 xo dw td ri ro ka rest B F X N hxd Nr ap T hk hw0 hd hu ret
  refine wpAny_call ?_
  k_dflt (refine' kco_code ?k1 ?k2 ?k3 ?k4 ?k5 ?k6 ?_; (case k1 => k_in); (case k2 => (refine' InstAt.of_news N ?h1 ?h2; (case h1 => k_mem); (case h2 => k_mem))); (case k3 => rfl); (case k4 => k_is); (case k5 => k_is); (case k6 => k_is); (try dsimp only))
  k_dflt ((refine' code_defR ?k1 ?k2 ?k3 ?k4 ?k5 ?kr ?ka ?kA ?kF ?kK ?k6 ?k7 ?k8 ?k9 ?kB ?_ ?c2 ?c3 ?c4 ?c5); (case ka => assumption); (case kA => exact rfl); (case kF => exact rfl); (case kK => assumption); (case k1 => k_asm); (case k2 => k_asm); (case k3 => k_asm); (case k4 => assumption); (case k5 => k_asm); (case kr => assumption); (case k6 => k_is); (case k7 => k_is); (case k8 => ktr_room); (case k9 => first | exact BindsTo.of_eq rfl | exact binds_K (by k_in) rfl (by k_is) rfl rfl rfl); (case c5 => decide); (case kB => exact locs rfl); (case c2 => exact rfl); (case c3 => exact rfl); (case c4 => exact rfl); k_whole; intro g' L' h' FG' F' N' B' X' T' KB'; (try dsimp only); (try k_lift B'); (try k_fold))
  k_steps
  dsimp only [RestR]
  intro kNr
  rename News g' _ _ ((_, instObj 137 _) :: _) => kNg
  rename News h₀ _ _ ((_, instObj 137 _) :: _) => kN0
  have gx := (kNg _ (List.mem_cons_self)).2.2
  have gdx := (kNg _ (List.mem_cons_of_mem _ List.mem_cons_self)).2.2
  have kr : ∀ p ∈ rest, g'.get? p.1 = some p.2 := fun p hp => KB' _ _ (Nr p hp).1 (ap p hp)
  refine ret _ _ _ _ _ _ _ _ _ _ _ _ _ _ _ _ _ _ _ _ _ _ _ _ (by assumption) kNr kN0 (fun p hp e => ?_) (fun p hp e => ?_) ⟨by omega, by omega, by omega, by omega⟩
  · have z := kr p hp; rw [e, gx] at z; cases z
  · have z := kr p hp; rw [e, gdx] at z; cases z
end Mine
end Part_PS

section Part_MU
open PySem PySem.W PyProof.Rows
namespace Mine

set_option maxRecDepth 100000
set_option maxHeartbeats 4000000 
def bitsI (n w : Nat) : List Int := (List.range n).map fun i => ((w / 2 ^ i % 2 : Nat) : Int)
def FM (n dw P : Nat) : List (List Int) := (List.range n).map fun i => bitsI n (crcN n dw P (2 ^ i) 0)
def GM (n dw P : Nat) : List (List Int) := (List.range dw).map fun i => bitsI n (crcN n dw P 0 (2 ^ i))
theorem di_bits (n w : Nat) : rowD n w = DI (bitsI n w) := by
  unfold rowD DI bitsI; rw [List.map_map]; rfl
theorem mi_fm (n dw P : Nat) : Dat.list ((rangeKs 0 n).map (fD n dw P)) = MI (FM n dw P) := by
  unfold MI FM rangeKs
  rw [List.map_map, List.map_map]
  congr 1
  apply List.map_congr_left
  intro i _
  show fD n dw P (0 + (i : Int)) = DI _
  rw [← di_bits, Int.zero_add]; rfl
theorem mi_gm (n dw P : Nat) : Dat.list ((rangeKs 0 dw).map (gD n dw P)) = MI (GM n dw P) := by
  unfold MI GM rangeKs
  rw [List.map_map, List.map_map]
  congr 1
  apply List.map_congr_left
  intro i _
  show gD n dw P (0 + (i : Int)) = DI _
  rw [← di_bits, Int.zero_add]; rfl
def isSeqO (p : Addr × Obj) : Bool := match p.2.data with | .seq _ _ => true | _ => false
def SeqAll (tl : List (Addr × Obj)) : Prop := ∀ p ∈ tl, isSeqO p = true
mutual
theorem datIn_seq {tl : List (Addr × Obj)} : ∀ {v : Value} {d : Dat}, DatIn tl v d → DatIn (tl.filter isSeqO) v d
  | _, _, .none => .none
  | _, _, .bool b => .bool b
  | _, _, .int i t => .int i t
  | _, _, .str x t => .str x t
  | _, _, .bytes b t => .bytes b t
  | _, _, .tuple h r => .tuple (List.mem_filter.mpr ⟨h, rfl⟩) (datAll_seq r)
  | _, _, .list h r => .list (List.mem_filter.mpr ⟨h, rfl⟩) (datAll_seq r)
theorem datAll_seq {tl : List (Addr × Obj)} : ∀ {vs : List Value} {ds : List Dat}, DatAll tl vs ds → DatAll (tl.filter isSeqO) vs ds
  | _, _, .nil => .nil
  | _, _, .cons h r => .cons (datIn_seq h) (datAll_seq r)
end
theorem seq_off {h₀ h : Heap} {L : Addr} {tl ex : List (Addr × Obj)} {adr : List Addr} (N : News h₀ L h tl) (N' : News h₀ L h ex) (hs : SeqAll tl) (hc : ∀ c ∈ adr, ∃ o, (c, o) ∈ ex ∧ isSeqO (c, o) = false) : OwnOff tl adr := by
  intro p hp c hcm e
  obtain ⟨o, hm, ho⟩ := hc c hcm
  have z := (N p hp).1
  have z' := (N' _ hm).1
  rw [e, z'] at z
  have q : p = (c, o) := Prod.ext e (Option.some.inj z).symm
  have := hs p hp
  rw [q, ho] at this; cases this

theorem params_use {w : World} {mean : ExcName → Option Value} {mg mb : Str → Option Value}
    {dp un : Nat} {gd : Option (List Code)} {cn : Str} {cs : Scope} {a : Addr} {ccd : Value} {cl : List (Str × Addr)} {outer : List Env} {A₀ : Around} {base h₀ : Heap} {L : Addr} {m : Str → Option Value} {s : Shared} {Q E : Value → Shared → Prop}
    {xA dA : Addr} {a0 a1 a2 a3 a4 a5 : Int} {v0 v1 v2 v3 v4 v5 r0 r1 r2 r5 : Nat} {n P c0 xo dw : Int} {td : Tok} {ri ro : Bool} {ka : Nat} {news q1 rest : List (Addr × Obj)}
    (B : Below A₀ base outer h₀) (F : Fr h₀ L s.heap m) (X : (hd.heap_39 w.params).In h₀) (N : News h₀ L s.heap news)
    (T : Top hd.view_39 (looseW hd.view_39 [Str.ofString "Parameters"]) mean mg mb h₀) (hk : cs.kind = .function)
    (p1 : Pick (xA, instObj 71 dA) news q1)
    (p2 : Pick (dA, dictOf [⟨a0, .str (Str.ofString "crc_width") v0, .int n r0⟩, ⟨a1, .str (Str.ofString "polynomial") v1, .int P r1⟩, ⟨a2, .str (Str.ofString "initial_crc") v2, .int c0 r2⟩, ⟨a3, .str (Str.ofString "reflect_input") v3, .bool ri⟩, ⟨a4, .str (Str.ofString "reflect_output") v4, .bool ro⟩, ⟨a5, .str (Str.ofString "xor_output") v5, .int xo r5⟩] ka) q1 rest)
    (hxd : @Ne Nat dA xA) (o1 : ∀ p ∈ rest, p.1 ≠ xA) (o2 : ∀ p ∈ rest, p.1 ≠ dA) (hw0 : 0 < dw)
    (hd : dp + 20 < recursionLimit) (hu : un + 80 < cLine)
    (ret : ∀ (x dx : Addr) (g0 g1 g2 g3 g4 g5 g6 : Int) (u0 u1 u2 u3 u4 u5 u6 t0 t1 t2 t5 t6 : Nat) (kk : Nat) (h' : Heap) (tk' : Nat), Fr h₀ L h' m →
      News h₀ L h' ((x, instObj 137 dx) :: (dx, dictOf [⟨g0, .str (Str.ofString "_crc_width") u0, .int n t0⟩, ⟨g1, .str (Str.ofString "_polynomial") u1, .int P t1⟩, ⟨g2, .str (Str.ofString "_initial_crc") u2, .int c0 t2⟩, ⟨g3, .str (Str.ofString "_reflect_input") u3, .bool ri⟩, ⟨g4, .str (Str.ofString "_reflect_output") u4, .bool ro⟩, ⟨g5, .str (Str.ofString "_xor_output") u5, .int xo t5⟩, ⟨g6, .str (Str.ofString "data_width") u6, .int dw t6⟩] kk) :: news) →
      (∀ p ∈ news, p.1 ≠ x) → (∀ p ∈ news, p.1 ≠ dx) → Q (.ref x) { s with heap := h', toks := tk' }) :
    wpAny (model PySem.Challenge.rw_et5001_01.row.prog w) (ktrTop dp un gd cn cs L a ccd cl outer) (call (.ref xA) [.int dw td]) Q E s := by
  have hm1 := p1.mem
  have hm2 := p2.mem
  refine params_spec _ _ _ _ _ _ _ _ _ _ _ _ _ _ s Q E xA dA a0 a1 a2 a3 a4 a5 v0 v1 v2 v3 v4 v5 r0 r1 r2 r5 n P c0 xo dw td ri ro ka rest B F X ?_ hxd ?_ ?_ T hk hw0 hd hu ?_
  · intro p hp
    rcases List.mem_cons.mp hp with rfl | hp
    · exact N _ (hm1 _ List.mem_cons_self)
    · rw [List.mem_singleton.mp hp]
      exact N _ (hm1 _ (List.mem_cons_of_mem _ (hm2 _ List.mem_cons_self)))
  · exact fun p hp => N _ (hm1 _ (List.mem_cons_of_mem _ (hm2 _ (List.mem_cons_of_mem _ hp))))
  · intro p hp q hq
    rcases List.mem_cons.mp hq with rfl | hq
    · exact o1 p hp
    · rw [List.mem_singleton.mp hq]; exact o2 p hp
  · intro x dx g0 g1 g2 g3 g4 g5 g6 u0 u1 u2 u3 u4 u5 u6 t0 t1 t2 t5 t6 kk h' tk' F' Nr N' rx rd ne
    refine ret x dx g0 g1 g2 g3 g4 g5 g6 u0 u1 u2 u3 u4 u5 u6 t0 t1 t2 t5 t6 kk h' tk' F' (fun p hp => ?_) (fun p hp => ?_) (fun p hp => ?_)
    · rcases List.mem_cons.mp hp with rfl | hp
      · exact N' _ List.mem_cons_self
      · rcases List.mem_cons.mp hp with rfl | hp
        · exact N' _ (List.mem_cons_of_mem _ List.mem_cons_self)
        · rcases List.mem_cons.mp (p1.all p hp) with rfl | hp
          · exact N' _ (List.mem_cons_of_mem _ (List.mem_cons_of_mem _ List.mem_cons_self))
          · rcases List.mem_cons.mp (p2.all p hp) with rfl | hp
            · exact N' _ (List.mem_cons_of_mem _ (List.mem_cons_of_mem _ (List.mem_cons_of_mem _ List.mem_cons_self)))
            · exact Nr p hp
    · rcases List.mem_cons.mp (p1.all p hp) with rfl | hp
      · exact ne.1
      · rcases List.mem_cons.mp (p2.all p hp) with rfl | hp
        · exact ne.2.2.1
        · exact rx p hp
    · rcases List.mem_cons.mp (p1.all p hp) with rfl | hp
      · exact ne.2.1
      · rcases List.mem_cons.mp (p2.all p hp) with rfl | hp
        · exact ne.2.2.2
        · exact rd p hp

theorem matrices_use {w : World} {mean : ExcName → Option Value} {mg mb : Str → Option Value}
    {dp un : Nat} {gd : Option (List Code)} {cn : Str} {cs : Scope} {a : Addr} {ccd : Value} {cl : List (Str × Addr)} {outer : List Env} {A₀ : Around} {base h₀ : Heap} {L : Addr} {m : Str → Option Value} {s : Shared} {Q E : Value → Shared → Prop}
    {x dx : Addr} {g0 g1 g2 g3 g4 g5 g6 : Int} {u0 u1 u2 u3 u4 u5 u6 t0 t1 t2 t5 t6 : Nat} {n P c0 xo dw : Int} {ri ro : Bool} {kk : Nat} {news ex tlo : List (Addr × Obj)} (adr : List Addr)
    (B : Below A₀ base outer h₀) (F : Fr h₀ L s.heap m) (X : (hd.heap_39 w.params).In h₀)
    (N : News h₀ L s.heap ((x, instObj 137 dx) :: (dx, dictOf [⟨g0, .str (Str.ofString "_crc_width") u0, .int n t0⟩, ⟨g1, .str (Str.ofString "_polynomial") u1, .int P t1⟩, ⟨g2, .str (Str.ofString "_initial_crc") u2, .int c0 t2⟩,
      ⟨g3, .str (Str.ofString "_reflect_input") u3, .bool ri⟩, ⟨g4, .str (Str.ofString "_reflect_output") u4, .bool ro⟩, ⟨g5, .str (Str.ofString "_xor_output") u5, .int xo t5⟩, ⟨g6, .str (Str.ofString "data_width") u6, .int dw t6⟩] kk) :: news))
    (T : Top hd.view_39 (looseW hd.view_39 [Str.ofString "Parameters"]) mean mg mb h₀) (hk : cs.kind = .function)
    (o1 : ∀ p ∈ news, p.1 ≠ x) (o2 : ∀ p ∈ news, p.1 ≠ dx) (he : news = ex ++ tlo) (hst : SeqAll tlo) (hadr : ∀ c ∈ adr, ∃ o, (c, o) ∈ ex ∧ isSeqO (c, o) = false)
    (hn0 : 0 < n) (hn1 : n ≤ 100) (hn2 : HidLe n 7) (hw0 : 0 < dw) (hw1 : dw ≤ 10) (hP0 : 0 ≤ P) (hP1 : P < 2 ^ n.toNat) (hc0 : 0 ≤ c0) (hc1 : c0 < 2 ^ n.toNat) (hx0 : 0 ≤ xo) (hx1 : xo < 2 ^ n.toNat)
    (hd : dp + 20 < recursionLimit) (hu : un + 80 < cLine)
    (ret : ∀ (tl : List (Addr × Obj)) (T a b : Addr) (nT : Nat) (h' : Heap) (tk' : Nat), (∀ p ∈ tlo, p ∈ tl) → SeqAll tl → OwnOff tl adr → Fr h₀ L h' m → News h₀ L h' ((T, ({ cls := .type "tuple", data := .seq [Value.ref a, Value.ref b].toArray nT } : Obj)) :: (ex ++ tl)) →
      DatIn tl (.ref a) (MI (FM n.toNat dw.toNat P.toNat)) → DatIn tl (.ref b) (MI (GM n.toNat dw.toNat P.toNat)) → Q (.ref T) { s with heap := h', toks := tk' }) :
    wpAny (model PySem.Challenge.rw_et5001_01.row.prog w) (ktrTop dp un gd cn cs L a ccd cl outer) (call (.ref 127) [.ref x]) Q E s := by
  refine matrices_spec _ _ _ _ _ _ _ _ _ _ _ _ _ _ s Q E x dx (pick7I g0 g1 g2 g3 g4 g5 g6) (pick7 u0 u1 u2 u3 u4 u5 u6) (pick7 t0 t1 t2 0 0 t5 t6) n P c0 xo dw ri ro kk news B F X ?_ ?_ ?_ T hk hn0 hn1 hn2 hw0 hw1 hP0 hP1 hc0 hc1 hx0 hx1 hd hu ?_
  · intro p hp
    rcases List.mem_cons.mp hp with rfl | hp
    · exact N _ List.mem_cons_self
    · rw [List.mem_singleton.mp hp]
      exact N _ (List.mem_cons_of_mem _ List.mem_cons_self)
  · exact fun p hp => N _ (List.mem_cons_of_mem _ (List.mem_cons_of_mem _ hp))
  · intro p hp q hq
    rcases List.mem_cons.mp hq with rfl | hq
    · exact o1 p hp
    · rw [List.mem_singleton.mp hq]; exact o2 p hp
  · intro v tl h' tk' F' Nr N' hv
    subst he
    rw [mi_fm, mi_gm] at hv
    have hv2 := datIn_seq hv
    have N2 : News h₀ L h' (tl.filter isSeqO) := fun p hp => N' p (List.mem_filter.mp hp).1
    generalize htl : tl.filter isSeqO = tf at hv2 N2
    have hsf : SeqAll tf := fun p hp => by rw [← htl] at hp; exact (List.mem_filter.mp hp).2
    cases hv2 with
    | tuple hm hall =>
      rename_i T vs nT
      cases hall with
      | cons d1 r =>
        cases r with
        | cons d2 r =>
          cases r
          obtain ⟨a, _, _, e1, _, _⟩ := datIn_list d1
          obtain ⟨b, _, _, e2, _, _⟩ := datIn_list d2
          subst e1 e2
          have hs : SeqAll (tf ++ tlo) := fun p hp => (List.mem_append.mp hp).elim (hsf p) (hst p)
          have Nt : News h₀ L h' (tf ++ tlo) := fun p hp => (List.mem_append.mp hp).elim (N2 p) fun h => Nr p (List.mem_append_right _ h)
          have Ne : News h₀ L h' ex := fun p hp => Nr p (List.mem_append_left _ hp)
          refine ret (tf ++ tlo) T a b nT h' tk' (fun p hp => List.mem_append_right _ hp) hs (seq_off Nt Ne hs hadr) F' (fun p hp => ?_) (d1.mono fun p hp => List.mem_append_left _ hp) (d2.mono fun p hp => List.mem_append_left _ hp)
          rcases List.mem_cons.mp hp with rfl | hp
          · exact N2 _ hm
          · exact (List.mem_append.mp hp).elim (Ne p) (Nt p)
theorem unpack2 {prog : Program} {w : World} {A : Around} {E : Value → Shared → Prop} {s : Shared} {env : Env} {h₀ : Heap} {L : Addr} {m : Str → Option Value} {news : List (Addr × Obj)} {elts : List PySem.Expr} {k} {pos : Pos} {T a b : Addr} {nT : Nat} {Q : Unit → Shared → Prop}
    (F : Fr h₀ L s.heap m) (N : News h₀ L s.heap ((T, ({ cls := .type "tuple", data := .seq [Value.ref a, Value.ref b].toArray nT } : Obj)) :: news))
    (hh : A.handled = none) (hn : (assignEach elts env).length = 2) (hstar : (assignEach elts env).findIdx? (·.1) = none)
    (h : ∀ h', Fr h₀ L h' m → News h₀ L h' news → wpAny (model prog w) A (assignInOrder ((assignEach elts env).map (·.2)) [.ref a, .ref b]) Q E { s with heap := h' }) :
    wpAny (model prog w) A (assign (.Tuple elts k pos) env (.ref T)) Q E s :=
  unpackN_ F (fun p hp => N p (List.mem_cons_of_mem _ hp)) ⟨_, (N _ List.mem_cons_self).1, rfl, nT, rfl⟩ hh hn hstar h
end Mine
end Part_MU

section Part_TD
open PySem PySem.W PyProof.Rows PySem.Calls PySem.Spec
set_option maxRecDepth 100000
set_option maxHeartbeats 2000000
namespace Mine

open LCg LCp
theorem news_c {h₀ h : Heap} {L c : Addr} {v : Value} {m : Str → Option Value} {s : Shared} {news : List (Addr × Obj)} (F : Fr h₀ L s.heap m) (N : News h₀ L s.heap news) (e : Ext s.heap h) (hC : s.heap.get? c = none) (hn : h.IsCell c (some v)) :
    ∃ oC, oC.data = .cell (some v) ∧ News h₀ L h ((c, oC) :: news) ∧ Off1 c news := by
  obtain ⟨oC, heC, hoC⟩ := hn
  refine ⟨oC, hoC, fun p hp => ?_, ?_⟩
  · rcases List.mem_cons.mp hp with rfl | hp
    · refine ⟨heC, fun q => ?_, ?_⟩
      · obtain ⟨o, _, _, e', _⟩ := F.ns
        have q' : c = L := q
        rw [← q', hC] at e'; cases e'
      · cases q : h₀.get? c with
        | none => rfl
        | some o => have := F.keep _ _ q; rw [hC] at this; cases this
    · exact ⟨e _ _ (N p hp).1, (N p hp).2⟩
  · refine off1_of fun p hp q => ?_
    have := (N p hp).1
    have q' : p.1 = c := q
    rw [q', hC] at this; cases this
theorem range_CW {prog : Program} {w : World} {A : Around} {E : Value → Shared → Prop} {s : Shared} {env : Env} {elt : Expr} {x : Str} {scope : Scope} {cl : List (Str × Addr)} {Q : Value → Shared → Prop} {k : Int} {t : Tok}
    {h₀ : Heap} {L : Addr} {m : Str → Option Value} {news : List (Addr × Obj)}
    (g : Int → Dat) (hh : A.handled = none) (hk0 : 0 ≤ k) (hk1 : k ≤ 1000) (F : Fr h₀ L s.heap m) (N : News h₀ L s.heap news)
    (turn : ∀ C c oC (i : Int) tv h tk (Q' : Value → Shared → Prop) (E' : Value → Shared → Prop), 0 ≤ i → i < k → oC.data = .cell (some (.int i tv)) → Fr h₀ L h m → News h₀ L h ((c, oC) :: news) → Off1 c news →
      (∀ y h' tk' tl, Ext h h' → Fresh h h' tl → DatIn tl y (g i) → GEnd Q' y { s with heap := h', toks := tk' }) → wpAny (model prog w) A (eval elt (compEnvC scope ((x, c) :: cl) C env)) (GEnd Q') E' { s with heap := h, toks := tk })
    (fin : ∀ D h tk tl, Ext s.heap h → Fresh s.heap h tl → DatIn tl (.ref D) (.list ((List.range k.toNat).map fun (i : Nat) => g (i : Int))) → Q (.ref D) { s with heap := h, toks := tk }) :
    wpAny (model prog w) A (call (.type "range") [.int k t]) (fun xv s₁ => wpAny (model prog w) A (pyIter xv) (CSrc prog w A env elt x scope cl Q) E s₁) E s := by
  refine range_C g hh hk0 hk1 ?_ fin
  intro C c i tv h tk h0 h1 hx e hC Q' E' hq
  obtain ⟨oC, o1, o2, o3⟩ := news_c F N e hC hx
  exact turn C c oC i tv h tk Q' E' h0 h1 o1 (F.keeps e) o2 o3 hq
theorem toIsL {h : Heap} {a : Addr} {its : Array Value} {n : Nat} (e : h.get? a = some (listOf its n)) : IsL h a its n := e
theorem datAll_app {tl : List (Addr × Obj)} : ∀ {xs ys : List Value} {as bs : List Dat}, DatAll tl xs as → DatAll tl ys bs → DatAll tl (xs ++ ys) (as ++ bs)
  | _, _, _, _, .nil, q => q
  | _, _, _, _, .cons a r, q => .cons a (datAll_app r q)
theorem add_dat {prog : Program} {w : World} {A : Around} {E : Value → Shared → Prop} {s : Shared} {h₀ : Heap} {L a b : Addr} {m : Str → Option Value} {news n1 n2 : List (Addr × Obj)} {as bs : List Dat} {Q : Value → Shared → Prop}
    (F : Fr h₀ L s.heap m) (N : News h₀ L s.heap news) (da : DatIn n1 (.ref a) (.list as)) (s1 : ∀ p ∈ n1, p ∈ news) (db : DatIn n2 (.ref b) (.list bs)) (s2 : ∀ p ∈ n2, p ∈ news) (hsz : as.length + bs.length ≤ 1000)
    (h : ∀ D o h', Fr h₀ L h' m → News h₀ L h' ((D, o) :: news) → Ext s.heap h' → Off1 D news → DatIn ((D, o) :: news) (.ref D) (.list (as ++ bs)) → Q (.ref D) { s with heap := h' }) :
    wpAny (model prog w) A (binaryOp .Add (.ref a) (.ref b)) Q E s := by
  obtain ⟨_, xs, nx, e1, hm1, d1⟩ := datIn_list da
  obtain ⟨_, ys, ny, e2, hm2, d2⟩ := datIn_list db
  cases e1; cases e2
  have l1 := datAll_length d1
  have l2 := datAll_length d2
  refine P.add_list (toIsL (N _ (s1 _ hm1)).1) (toIsL (N _ (s2 _ hm2)).1) ?_ (by rw [List.size_toArray, List.size_toArray, sizeLine_eq]; omega)
  have e := ext_push s.heap { cls := .type "list", data := .seq (xs.toArray ++ ys.toArray) }
  have hD := get_size_none s.heap
  have f : Fresh s.heap (s.heap.push { cls := .type "list", data := .seq (xs.toArray ++ ys.toArray) }) [(s.heap.objs.size, { cls := .type "list", data := .seq (xs.toArray ++ ys.toArray) })] := Fresh.cons hD (Heap.get?_push_size _ rfl) Fresh.nil
  refine h s.heap.objs.size _ _ (F.keeps e) (news_app (f.news F) (news_ext N e)) e (off1_of fun p hp q => ?_) ?_
  · have z := (N p hp).1
    have q' : p.1 = s.heap.objs.size := q
    rw [q', hD] at z; cases z
  · have ea : xs.toArray ++ ys.toArray = (xs ++ ys).toArray := by simp
    rw [ea]
    exact DatIn.list (n := 0) List.mem_cons_self (datAll_app (d1.mono fun p hp => List.mem_cons_of_mem _ (s1 p hp)) (d2.mono fun p hp => List.mem_cons_of_mem _ (s2 p hp)))
theorem ok_ints (k : Nat) (row : List Int) : kqdOk (k + 1) (DI row) = true := by
  unfold DI kqdOk
  rw [List.all_map, List.all_eq_true]
  intro x _
  cases k <;> rfl
theorem ok_rows (rows : List (List Int)) : ∀ d ∈ rows.map DI, kqdOk 8 d = true := by
  intro d hd
  obtain ⟨r, _, rfl⟩ := List.mem_map.mp hd
  exact ok_ints 7 r
theorem ok_nums (row : List Int) : ∀ d ∈ row.map Dat.int, kqdOk 8 d = true := by
  intro d hd
  obtain ⟨r, _, rfl⟩ := List.mem_map.mp hd
  rfl
theorem ne_dat {prog : Program} {w : World} {A : Around} {E : Value → Shared → Prop} {s : Shared} {h₀ : Heap} {L a b : Addr} {news n1 n2 : List (Addr × Obj)} {as bs : List Dat} {Q : Value → Shared → Prop}
    (N : News h₀ L s.heap news) (da : DatIn n1 (.ref a) (.list as)) (s1 : ∀ p ∈ n1, p ∈ news) (db : DatIn n2 (.ref b) (.list bs)) (s2 : ∀ p ∈ n2, p ∈ news) (e : as = bs) (hk : ∀ d ∈ as, kqdOk 8 d = true) (hu : A.units + 64 < cLine)
    (h : Q (.bool false) s) : wpAny (model prog w) A (compareOp .NotEq (.ref a) (.ref b)) Q E s := by
  obtain ⟨_, xs, nx, e1, hm1, d1⟩ := datIn_list da
  obtain ⟨_, ys, ny, e2, hm2, d2⟩ := datIn_list db
  cases e1; cases e2
  subst e
  refine kqd_ne N (s1 _ hm1) rfl rfl d1 s1 (s2 _ hm2) rfl rfl d2 s2 hk hk hu ?_
  simp only [decide_true, Bool.not_true]
  exact h
theorem di_map (f : Nat → Int) (k : Nat) : Dat.list ((List.range k).map fun i => Dat.int (f i)) = DI ((List.range k).map f) := by
  unfold DI; rw [List.map_map]; rfl
theorem mi_map (f : Nat → List Int) (k : Nat) : Dat.list ((List.range k).map fun i => DI (f i)) = MI ((List.range k).map f) := by
  unfold MI; rw [List.map_map]; rfl
end Mine
end Part_TD

section Part_LF
open PySem PySem.W PyProof.Rows
namespace Mine

set_option maxRecDepth 100000
set_option maxHeartbeats 4000000 

def lowI (n P : Int) : List Int := (List.range n.toNat).map fun (i : Nat) => Builtin.bitAnd (P.fdiv (2 ^ ((i : Int)).toNat)) 1
def dueRow (n r : Int) : List Int := (List.range n.toNat).map fun (p : Nat) => if (p : Int) = r + 1 then 1 else 0
def dueI (n : Int) : List (List Int) := (List.range (n - 1).toNat).map fun (r : Nat) => dueRow n (r : Int)
def numI (row : List Int) : Int := ((List.range row.length).map fun (i : Nat) => row.getD i 0 * 2 ^ ((i : Int)).toNat).sum
structure LawFacts (n P one two : Int) : Prop where
  f1 : FM n.toNat 1 P.toNat = dueI n ++ [lowI n P]
  g1 : GM n.toNat 1 P.toNat = [lowI n P]
  compF : FM n.toNat (one + two).toNat P.toNat = (FM n.toNat one.toNat P.toNat).map fun row => applyF (FM n.toNat two.toNat P.toNat) row (List.replicate n.toNat 0) n.toNat
  compG : GM n.toNat (one + two).toNat P.toNat = GM n.toNat two.toNat P.toNat ++ (GM n.toNat one.toNat P.toNat).map fun row => applyF (FM n.toNat two.toNat P.toNat) row (List.replicate n.toNat 0) n.toNat
  rank : (rrun ((FM n.toNat one.toNat P.toNat).map numI) n.toNat).2 = n ↔ P.fmod 2 = 1
theorem isSeq_cell {c : Addr} {o : Obj} {v : Option Value} (h : o.data = .cell v) : isSeqO (c, o) = false := by unfold isSeqO; rw [h]
theorem FM_length (n dw P : Nat) : (FM n dw P).length = n := by unfold FM; rw [List.length_map, List.length_range]
theorem GM_length (n dw P : Nat) : (GM n dw P).length = dw := by unfold GM; rw [List.length_map, List.length_range]
theorem FM_row {n dw P : Nat} {r : List Int} (h : r ∈ FM n dw P) : r.length = n := by
  unfold FM at h
  obtain ⟨i, _, rfl⟩ := List.mem_map.mp h
  unfold bitsI; rw [List.length_map, List.length_range]
theorem GM_row {n dw P : Nat} {r : List Int} (h : r ∈ GM n dw P) : r.length = n := by
  unfold GM at h
  obtain ⟨i, _, rfl⟩ := List.mem_map.mp h
  unfold bitsI; rw [List.length_map, List.length_range]
theorem len_dat {prog : Program} {w : World} {A : Around} {E : Value → Shared → Prop} {s : Shared} {h₀ : Heap} {L r : Addr} {news n1 : List (Addr × Obj)} {ds : List Dat} {k : Int} {Q : Value → Shared → Prop}
    (N : News h₀ L s.heap news) (d : DatIn n1 (.ref r) (.list ds)) (s1 : ∀ p ∈ n1, p ∈ news) (hk : ((ds.length : Nat) : Int) = k) (hn : k ≤ 1000)
    (h : Q (.int k (s.toks + 1)) { s with toks := s.toks + 1 + 1 }) : wpAny (model prog w) A (call (.builtin "len") [.ref r]) Q E s := by
  obtain ⟨_, xs, nx, e1, hm, hd⟩ := datIn_list d
  cases e1
  have es : xs.toArray.size = ds.length := by rw [List.size_toArray, datAll_length hd]
  have hl : s.heap.IsList r xs.toArray := ⟨_, (N _ (s1 _ hm)).1, rfl, ⟨_, rfl⟩⟩
  refine Calls.call_len_list hl (by omega) ?_
  rw [es, hk]; exact h
theorem news_of {h₀ h : Heap} {L : Addr} {big sm : List (Addr × Obj)} (N : News h₀ L h big) (hs : ∀ p ∈ sm, p ∈ big) : News h₀ L h sm := fun p hp => N p (hs p hp)
theorem four_rows {n a b P : Nat} : ∀ d ∈ (((FM n a P).map DI ++ (GM n a P).map DI) ++ (FM n b P).map DI) ++ (GM n b P).map DI, ∃ row, d = DI row ∧ row.length = n := by
  intro d hd
  simp only [List.mem_append, List.mem_map] at hd
  rcases hd with ((⟨r, h, rfl⟩ | ⟨r, h, rfl⟩) | ⟨r, h, rfl⟩) | ⟨r, h, rfl⟩
  · exact ⟨r, rfl, FM_row h⟩
  · exact ⟨r, rfl, GM_row h⟩
  · exact ⟨r, rfl, FM_row h⟩
  · exact ⟨r, rfl, GM_row h⟩
theorem bools_false {tl : List (Addr × Obj)} : ∀ {vs : List Value} {ds : List Dat}, DatAll tl vs ds → (∀ d ∈ ds, d = Dat.bool false) → LSm.BoolsAre vs (List.replicate ds.length false)
  | _, _, .nil, _ => .nil
  | _, _, .cons (d := d) h r, hk => by
    have e := hk d List.mem_cons_self
    subst e
    cases h
    exact .cons false (bools_false r fun d hd => hk d (List.mem_cons_of_mem _ hd))
theorem any_false {prog : Program} {w : World} {A : Around} {E : Value → Shared → Prop} {s : Shared} {h₀ : Heap} {L r : Addr} {m : Str → Option Value} {news n1 : List (Addr × Obj)} {ds : List Dat} {Q : Value → Shared → Prop}
    (F : Fr h₀ L s.heap m) (N : News h₀ L s.heap news) (hh : A.handled = none) (d : DatIn n1 (.ref r) (.list ds)) (s1 : ∀ p ∈ n1, p ∈ news) (hall : ∀ d ∈ ds, d = Dat.bool false)
    (h : ∀ h' tk, Fr h₀ L h' m → News h₀ L h' news → Q (.bool false) { s with heap := h', toks := tk }) : wpAny (model prog w) A (call (.builtin "any") [.ref r]) Q E s := by
  obtain ⟨_, xs, nx, e1, hm, hd⟩ := datIn_list d
  cases e1
  refine LSm.any_bools F N hh ⟨_, (N _ (s1 _ hm)).1, rfl, ⟨_, rfl⟩⟩ (bools_false hd hall) fun h' tk F' N' => ?_
  have e : (List.replicate ds.length false).any id = false := by
    rw [List.any_eq_false]; intro x hx; rw [List.eq_of_mem_replicate hx]; decide
  rw [e]; exact h h' tk F' N'
theorem rows_get {rows : List (List Int)} {i : Nat} {d : Dat} (h : (rows.map DI)[i]? = some d) : d = DI (rows.getD i []) ∧ rows.getD i [] ∈ rows := by
  rw [List.getElem?_map] at h
  cases e : rows[i]? with
  | none => rw [e] at h; cases h
  | some r =>
    rw [e] at h
    have hr : rows.getD i [] = r := by rw [List.getD_eq_getElem?_getD, e]; rfl
    rw [hr]
    exact ⟨(Option.some.inj h).symm, List.mem_of_getElem? e⟩
theorem range_rows {α : Type} (f : List Int → α) (rows : List (List Int)) {k : Nat} (hk : k = rows.length) : ((List.range k).filter fun _ => true).map (fun i => f (rows.getD i [])) = rows.map f := by
  subst hk
  rw [List.filter_eq_self.mpr fun _ _ => rfl]
  apply List.ext_getElem?
  intro i
  rw [List.getElem?_map, List.getElem?_map]
  by_cases hi : i < rows.length
  · rw [List.getElem?_range hi, List.getElem?_eq_getElem hi]; simp [List.getD_eq_getElem?_getD, hi]
  · rw [List.getElem?_eq_none (by simpa using hi), List.getElem?_eq_none (Nat.not_lt.mp hi)]; rfl
theorem sum_E {prog : Program} {w : World} {A : Around} {E : Value → Shared → Prop} {s : Shared} {l : Addr} {vs : List Value} {ns : List Int} {Q : Value → Shared → Prop} (hh : A.handled = none) (hl : s.heap.IsList l vs.toArray) (hi : IntsAre vs ns)
    (h : ∀ h' tk t', Ext s.heap h' → Q (.int ns.sum t') { s with heap := h', toks := tk }) : wpAny (model prog w) A (call (.builtin "sum") [.ref l]) Q E s := by
  obtain ⟨xs, hx⟩ := hi.allInts.items
  have hl' : s.heap.IsList l (intItems xs) := hx ▸ hl
  refine sum_intListG hh hl' fun h' tk t' hk => ?_
  have e1 : ns = xs.toList.map (·.1) := by
    rw [← nums_intItems, ← hx]
    exact (show numsOf vs.toArray.toList = ns from hi.numsOf).symm
  have e2 : preSum (numAt xs) xs.size = ns.sum := by
    rw [preSum_eq, List.take_of_length_le (by simp), e1]
  rw [e2]
  exact h h' tk t' hk
theorem dat_false {tl : List (Addr × Obj)} : ∀ b : Bool, b = false → DatIn tl (.bool b) (.bool false) := fun b e => e ▸ .bool b
theorem bits_01 {n w : Nat} {b : Int} (h : b ∈ bitsI n w) : b = 0 ∨ b = 1 := by
  unfold bitsI at h
  obtain ⟨i, _, rfl⟩ := List.mem_map.mp h
  have := Nat.mod_two_eq_zero_or_one (w / 2 ^ i)
  omega
theorem FM_01 {n dw P : Nat} {r : List Int} (h : r ∈ FM n dw P) : ∀ b ∈ r, b = 0 ∨ b = 1 := by
  unfold FM at h
  obtain ⟨i, _, rfl⟩ := List.mem_map.mp h
  exact fun b hb => bits_01 hb
end Mine
end Part_LF

section Part_LI
open PySem PySem.W PyProof.Rows
namespace Mine

set_option maxRecDepth 100000
set_option maxHeartbeats 4000000 

/-- body and scope of the last function of a text -/
def lawOf : List Stmt → Option (List Stmt × Scope)
  | [] => none
  | [.FunctionDef _ _ body _ _ _ scope _ _ _] => some (body, scope)
  | _ :: r => lawOf r
def LawIs (_w : World) (body : List Stmt) (scope : Scope) : Prop := lawOf PySem.Challenge.pw_et5001_01.main.body = some (body, scope)
theorem LawIs.unique {w : World} {b b' : List Stmt} {c c' : Scope} (h : LawIs w b c) (h' : LawIs w b' c') : b = b' ∧ c = c' := by
  unfold LawIs at h h'
  rw [h] at h'
  have z := Option.some.inj h'
  exact ⟨congrArg Prod.fst z, congrArg Prod.snd z⟩
end Mine
end Part_LI

section Part_TL3
open PySem PySem.W PyProof.Rows
namespace Mine
local macro_rules | `(tactic| walk_at "m_pad_0") => `(tactic| fail)
local macro_rules | `(tactic| walk_at "m_pad_1") => `(tactic| fail)
local macro_rules | `(tactic| walk_at "m_pad_2") => `(tactic| fail)
local macro_rules | `(tactic| walk_at "m_pad_3") => `(tactic| fail)
local macro_rules | `(tactic| walk_at "m_pad_4") => `(tactic| fail)
local macro_rules | `(tactic| walk_at "m_pad_5") => `(tactic| fail)
local macro_rules | `(tactic| walk_at "m_pad_6") => `(tactic| fail)
local macro_rules | `(tactic| walk_at "m_pad_7") => `(tactic| fail)
local macro_rules | `(tactic| walk_at "m_pad_8") => `(tactic| fail)
local macro_rules | `(tactic| walk_at "m_pad_9") => `(tactic| fail)
local macro_rules | `(tactic| walk_at "m_pad_10") => `(tactic| fail)
set_option maxRecDepth 100000
set_option maxHeartbeats 4000000 
theorem shl_turn {prog : Program} {w : World} {A : Around} {s : Shared} {env : Env} {x y : Str} {px py pos : Pos} {m : Str → Option Value} {a b : Int} {ta tb : Tok} {h : Heap} {tk : Nat} {Q E : Value → Shared → Prop}
    (hk : env.scope.kind = .function) (hx : env.kindOf x = some .local) (hxd : (x == ("__debug__" : Str)) = false) (hy : env.kindOf y = some .local) (hyd : (y == ("__debug__" : Str)) = false) (hn : h.Ns env.locals m) (h1 : m x = some (.int a ta)) (h2 : m y = some (.int b tb))
    (ha : a.natAbs < 2 ^ 64) (hb : 0 ≤ b) (hb2 : b ≤ 1000000)
    (hq : ∀ t tk', Q (.int (a * 2 ^ b.toNat) t) { s with heap := h, toks := tk' }) : wpAny (model prog w) A (eval (.BinOp (.Name x px) .LShift (.Name y py) pos) env) Q E { s with heap := h, toks := tk } :=
  wpAny_BinOp (name_ns hk hx hxd hn h1 (name_ns hk hy hyd hn h2 (lshift_int_small hb hb2 ha (hq _ _))))
theorem ListComp_ZF {lo : Addr} {h₀ : Heap} {m : Str → Option Value} {prog : Program} {w : World} {A : Around} {E : Value → Shared → Prop} {s : Shared} {env : Env} {elt iter : PySem.Expr} {x x₂ : Str} {px px₂ tp : Pos} {tk0} {scope : Scope} {cl : List (Str × Addr)} {pos : Pos} {Q : Value → Shared → Prop}
    (_F : Fr h₀ lo s.heap m)
    (hclos : closureFor scope env = pure cl) (hcell : ∀ y ∈ scope.names, y.2 ≠ .cell) (hkind : scope.kind = .function)
    (hnames : ∀ y ∈ scope.names, y.2 = .local → scope.names.lookup y.1 = some .local) (hx : scope.names.lookup x = some .local) (hx₂ : scope.names.lookup x₂ = some .local) (hxx : x ≠ x₂)
    (h : wpAny (model prog w) A (eval iter env) (fun xv s₁ => wpAny (model prog w) A (pyIter xv) (ZSrc lo prog w A env elt x x₂ scope cl Q) E s₁) E s)
    (hs : ∀ x, foldedSetIterable iter env x = pure x := by intro _; rfl) :
    wpAny (model prog w) A (eval (.ListComp elt [⟨.Tuple [.Name x px, .Name x₂ px₂] tk0 tp, iter, [], 0⟩] scope pos) env) Q E s := ListComp_Z hclos hcell hkind hnames hx hx₂ hxx h hs
local macro_rules | `(tactic| walk_at "exec Assign cons ListComp") => `(tactic| (k_here; k_dflt (refine Assign_ListComp_D (by rfl) (by with_unfolding_all rfl) (by decide) (by rfl) (by decide) (by rfl) (by rfl) (by rfl) (by k_asm) ?_)))
local macro_rules | `(tactic| walk_at "eval ListComp") => `(tactic| (k_here; first | ((with_reducible show wpAny _ _ (eval (Expr.ListComp _ [⟨Expr.Name _ _, _, _, _⟩] _ _) _) _ _ _); k_dflt (refine ListComp_D (by with_unfolding_all rfl) (by decide) (by rfl) (by decide) (by rfl) ?_)) | ((with_reducible show wpAny _ _ (eval (Expr.ListComp _ [⟨Expr.Tuple _ _ _, _, _, _⟩] _ _) _) _ _ _); k_dflt (refine ListComp_ZF (by k_asm) (by with_unfolding_all rfl) (by decide) (by rfl) (by decide) (by rfl) (by rfl) (by decide) ?_))))
local macro_rules | `(tactic| walk_at "pyIter ref") => `(tactic| k_extra "MYITER")
local macro_rules | `(tactic| walk_at "GEnd") => `(tactic| k_extra "MYG")
local macro_rules | `(tactic| walk_at "binaryOp Add ref ref") => `(tactic| k_extra "MYADD")
local macro_rules | `(tactic| walk_at "compareOp NotEq ref ref") => `(tactic| k_extra "MYNE")
local macro_rules | `(tactic| walk_at "call builtin:len cons nil") => `(tactic| k_extra "MYLEN")
local macro_rules | `(tactic| walk_at "call builtin:any cons nil") => `(tactic| k_extra "MYANY")
local macro_rules | `(tactic| walk_at "call builtin:sum cons nil") => `(tactic| k_extra "MYSUM")
local macro_rules | `(tactic| walk_at "call type:enumerate cons nil") => `(tactic| k_extra "MYENUM")
local macro_rules | `(tactic| walk_at "call ref") => `(tactic| k_extra "MYCALL")
theorem tail3_spec : ∀ {w : World} {mean : ExcName → Option Value} {mg mb : Str → Option Value} (body : List Stmt) (scope : Scope) (fa : Addr) (cd : Value) (base h₀ : Heap) (L : Addr) (m : Str → Option Value) (s : Shared) (Q : Flow → Shared → Prop) (E : Value → Shared → Prop)
    (n P one two : Int) (t1 t2 : Tok) (o1 o2 o3 : Obj) (aF1 bG1 aF2 bG2 aFb bGb : Addr) (tl : List (Addr × Obj))
    (LI : LawIs w body scope) (B : Below callerA base [] h₀)
    (F : Fr h₀ L s.heap fun y => if y = Str.ofString "both_g" then some (.ref bGb) else if y = Str.ofString "both_f" then some (.ref aFb) else if y = Str.ofString "second_g" then some (.ref bG2) else if y = Str.ofString "first_g" then some (.ref bG1) else if y = Str.ofString "first_f" then some (.ref aF1) else m y)
    (X : (hd.heap_39 w.params).In h₀) (T : Top hd.view_39 (looseW hd.view_39 [Str.ofString "Parameters"]) mean mg mb h₀)
    (N : News h₀ L s.heap ((L + 1 + 1 + 1, o3) :: (L + 1 + 1, o2) :: (L + 1, o1) :: tl))
    (d1 : o1.data = .cell (some (.int n t1))) (d2 : o2.data = .cell (some (.int P t2))) (d3 : o3.data = .cell (some (.ref aF2)))
    (dF1 : DatIn tl (.ref aF1) (MI (FM n.toNat one.toNat P.toNat))) (dG1 : DatIn tl (.ref bG1) (MI (GM n.toNat one.toNat P.toNat)))
    (dF2 : DatIn tl (.ref aF2) (MI (FM n.toNat two.toNat P.toNat))) (dG2 : DatIn tl (.ref bG2) (MI (GM n.toNat two.toNat P.toNat)))
    (dFb : DatIn tl (.ref aFb) (MI (FM n.toNat (one + two).toNat P.toNat))) (dGb : DatIn tl (.ref bGb) (MI (GM n.toNat (one + two).toNat P.toNat)))
    (hn0 : 0 < n) (hn1 : n ≤ 100) (hn2 : HidLe n 7) (hP0 : 0 ≤ P) (hP1 : P < 2 ^ n.toNat)
    (ha0 : 0 < one) (ha1 : one ≤ 5) (hb0 : 0 < two) (hb1 : two ≤ 5)
    (law : LawFacts n P one two)
    (ret : ∀ h' tk' m', Fr h₀ L h' m' → Q (.ret (.bool true)) { s with heap := h', toks := tk' }),
    wpAny (model PySem.Challenge.rw_et5001_01.row.prog w) (callerA.deeper (envOfC (Str.ofString "law") scope L fa cd)) (execs (body.drop 18) (envOfC (Str.ofString "law") scope L fa cd)) Q E s := by
  w_on
  w_top off
  k_with_none
  k_fill
  intro w mean mg mb body scope fa cd base h₀ L m s Q E n P one two t1 t2 o1 o2 o3 aF1 bG1 aF2 bG2 aFb bGb tl LI B F X T N d1 d2 d3 dF1 dG1 dF2 dG2 dFb dGb hn0 hn1 hn2 hP0 hP1 ha0 ha1 hb0 hb1 law ret
  obtain ⟨e1, e2⟩ := LI.unique (b' := _) (c' := _) (by with_unfolding_all exact rfl)
  subst e1 e2
  clear LI
  dsimp only [List.drop]
  k_with "MYADD" => (k_here; (with_reducible show wpAny _ _ (binaryOp Operator.Add (Value.ref aF1) (Value.ref bG1)) _ _ _); (rename News _ _ _ _ => lN'); (rename Fr _ _ _ _ => lF'); k_dflt (refine' add_dat lF' lN' dF1 ?s1 dG1 ?s2 ?z ?_; (case s1 => (intro p hp; kst_mem)); (case s2 => (intro p hp; kst_mem)); (case z => ((simp only [List.length_map, FM_length, GM_length]); omega)); intro Ds1 oS1 h' F' N' eS1 oSf1 hA1; (try dsimp only)))
  k_with "MYADD" => (k_here; (with_reducible show wpAny _ _ (binaryOp Operator.Add (Value.ref Ds1) (Value.ref aF2)) _ _ _); (rename News _ _ _ _ => lN'); (rename Fr _ _ _ _ => lF'); k_dflt (refine' add_dat lF' lN' hA1 ?s1 dF2 ?s2 ?z ?_; (case s1 => exact fun p hp => hp); (case s2 => (intro p hp; kst_mem)); (case z => ((simp only [List.length_map, List.length_append, FM_length, GM_length]); omega)); intro Ds2 oS2 h' F' N' eS2 oSf2 hA2; (try dsimp only)))
  k_with "MYADD" => (k_here; (with_reducible show wpAny _ _ (binaryOp Operator.Add (Value.ref Ds2) (Value.ref bG2)) _ _ _); (rename News _ _ _ _ => lN'); (rename Fr _ _ _ _ => lF'); k_dflt (refine' add_dat lF' lN' hA2 ?s1 dG2 ?s2 ?z ?_; (case s1 => exact fun p hp => hp); (case s2 => (intro p hp; kst_mem)); (case z => ((simp only [List.length_map, List.length_append, FM_length, GM_length]); omega)); intro Ds3 oS3 h' F' N' eS3 oSf3 hA3; (try dsimp only)))
  k_with "MYITER" => ((with_reducible show wpAny _ _ (pyIter (.ref Ds3)) (DSrc _ _ _ _ (Expr.Compare _ _ _ _) _ _ _ _ _) _ _); (rename News _ _ _ _ => lN'); (rename Fr _ _ _ _ => lF'); obtain ⟨_, it3, kk3, e3, hm3, ha3⟩ := datIn_list hA3; cases e3; (with_unfolding_all refine' list_W (items := it3) (kk := kk3) (fun _ => Dat.bool false) (fun _ => true) ?k1 lF' lN' hm3 ?k3 ?_ ?_ ?_); (case k1 => exact rfl); (case k3 => (rw [datAll_length ha3]; (simp only [List.length_map, List.length_append, FM_length, GM_length]); omega)); all_goals first | (intro C oC j v h' tk m₂ Q' E' hv hC hx F' N' oo hq; exact wpAny_tests_nil (hq _)) | (intro C oC j v h' tk m₂ Q' E' hv hp hC hx F' N' oo hq; obtain ⟨dd, hd1, hd2⟩ := datAll_get ha3 hv; obtain ⟨row, rfl, hrl⟩ := four_rows dd (List.mem_of_getElem? hd1); obtain ⟨rr, rvs, kr, rfl, hmr, hir⟩ := datIn_ints hd2; clear hm3 ha3 hd1 hmr hir; (try dsimp only at hq ⊢); k_whole) | (intro C D4 h' tk tld e f hC hne' hd4; (have F' := lF'.keeps e); (have N' := news_app (f.news lF') (news_ext lN' e)); clear e f hm3 ha3 hne'; (try dsimp only); k_whole))
  k_with "MYLEN" => (k_here; (with_reducible show wpAny _ _ (call (Value.builtin "len") [Value.ref rr]) _ _ _); (rename News _ _ _ _ => lN'); k_dflt (refine' len_dat (k := n) lN' hd2 ?s1 ?hk ?hn ?_; (case s1 => exact fun p hp => List.mem_cons_of_mem _ hp); (case hk => (rw [List.length_map, hrl]; omega)); (case hn => omega); (try dsimp only)))
  k_with "MYG" => (first | exact hq _ _ _ [] (Ext.refl _) Fresh.nil (dat_false _ rfl) | exact hq _ _ _ [] (Ext.refl _) Fresh.nil (dat_false _ (by simp)))
  k_with "MYANY" => (k_here; (rename News _ _ _ _ => lN'); (rename Fr _ _ _ _ => lF'); k_dflt (refine' any_false lF' lN' ?k1 hd4 ?s1 ?ha ?_; (case k1 => exact rfl); (case s1 => (intro p hp; kst_mem)); (case ha => (intro d hd; obtain ⟨_, _, rfl⟩ := List.mem_map.mp hd; rfl)); intro h' tk F' N'; (replace N' := news_of (sm := (L + 1 + 1 + 1, o3) :: (L + 1 + 1, o2) :: (L + 1, o1) :: tl) N' (fun p hp => List.mem_append_right _ (.tail _ (.tail _ (.tail _ hp))))); clear lN' lF' hd4; (try dsimp only)))
  k_with "MYITER" => ((with_reducible show wpAny _ _ (pyIter (.ref aF1)) (DSrc _ _ _ _ (Expr.Call (Expr.Name (Str.ofString "_law_apply") _) _ _ _) _ _ _ _ _) _ _); (rename News _ _ _ _ => lN'); (rename Fr _ _ _ _ => lF'); obtain ⟨_, itF, kkF, eF, hmF, haF⟩ := datIn_list dF1; cases eF; (with_unfolding_all refine' list_W (items := itF) (kk := kkF) (fun j => DI (applyF (FM n.toNat two.toNat P.toNat) ((FM n.toNat one.toNat P.toNat).getD j []) (List.replicate n.toNat 0) n.toNat)) (fun _ => true) ?k1 lF' lN' ?km ?k3 ?_ ?_ ?_); (case k1 => exact rfl); (case km => kst_mem); (case k3 => (rw [datAll_length haF, List.length_map]; (simp only [FM_length, GM_length]); omega)); all_goals first | (intro C oC j v h' tk m₂ Q' E' hv hC hx F' N' oo hq; exact wpAny_tests_nil (hq _)) | (intro C oC j v h' tk m₂ Q' E' hv hp hC hx F' N' oo hq; obtain ⟨dd, hd1, hd2⟩ := datAll_get haF hv; obtain ⟨rfl, hrm⟩ := rows_get hd1; obtain ⟨rr, rvs, kr, rfl, hmr, hir⟩ := datIn_ints hd2; clear hmF haF hd1 hmr hir; (have hrl := FM_row hrm); (try dsimp only at hq ⊢); k_whole) | (intro C Dc h' tk tlDc e f hC hne' hd; rw [range_rows (fun row => DI (applyF (FM n.toNat two.toNat P.toNat) row (List.replicate n.toNat 0) n.toNat)) (FM n.toNat one.toNat P.toNat) (by rw [datAll_length haF, List.length_map])] at hd; (have hDc := hd); (have F' := lF'.keeps e); (have N' := news_app (f.news lF') (news_ext lN' e)); clear e f hmF haF hne' hd; (try dsimp only); k_whole))
  k_with "MYITER" => ((with_reducible show wpAny _ _ (pyIter (.ref bG1)) (DSrc _ _ _ _ (Expr.Call (Expr.Name (Str.ofString "_law_apply") _) _ _ _) _ _ _ _ _) _ _); (rename News _ _ _ _ => lN'); (rename Fr _ _ _ _ => lF'); obtain ⟨_, itF, kkF, eF, hmF, haF⟩ := datIn_list dG1; cases eF; (with_unfolding_all refine' list_W (items := itF) (kk := kkF) (fun j => DI (applyF (FM n.toNat two.toNat P.toNat) ((GM n.toNat one.toNat P.toNat).getD j []) (List.replicate n.toNat 0) n.toNat)) (fun _ => true) ?k1 lF' lN' ?km ?k3 ?_ ?_ ?_); (case k1 => exact rfl); (case km => kst_mem); (case k3 => (rw [datAll_length haF, List.length_map]; (simp only [FM_length, GM_length]); omega)); all_goals first | (intro C oC j v h' tk m₂ Q' E' hv hC hx F' N' oo hq; exact wpAny_tests_nil (hq _)) | (intro C oC j v h' tk m₂ Q' E' hv hp hC hx F' N' oo hq; obtain ⟨dd, hd1, hd2⟩ := datAll_get haF hv; obtain ⟨rfl, hrm⟩ := rows_get hd1; obtain ⟨rr, rvs, kr, rfl, hmr, hir⟩ := datIn_ints hd2; clear hmF haF hd1 hmr hir; (have hrl := GM_row hrm); (try dsimp only at hq ⊢); k_whole) | (intro C Dg h' tk tlDg e f hC hne' hd; rw [range_rows (fun row => DI (applyF (FM n.toNat two.toNat P.toNat) row (List.replicate n.toNat 0) n.toNat)) (GM n.toNat one.toNat P.toNat) (by rw [datAll_length haF, List.length_map])] at hd; (have hDg := hd); (have F' := lF'.keeps e); (have N' := news_app (f.news lF') (news_ext lN' e)); clear e f hmF haF hne' hd; (try dsimp only); k_whole))
  k_with "MYCALL" => (k_here; (with_reducible show wpAny _ _ (call (Value.ref 153) [_, _]) _ _ _); (rename News _ _ _ _ => lN'); k_dflt (refine' apply_gives (n := n.toNat) ?k1 ?k2 ?k3 ?k4 ?k5 dF2 ?s1 hd2 ?s2 ?n0 ?n1 ?hr ?hb ?hrl ?hd ?hu ?_; (case k1 => k_asm); (case k2 => k_asm); (case k3 => k_asm); (case k4 => k_asm); (case k5 => exact rfl); (case s1 => exact fun p hp => (lN' p (by kst_mem)).1); (case s2 => exact fun p hp => (lN' p (by kst_mem)).1); (case n0 => omega); (case n1 => omega); (case hr => exact FM_length _ _ _); (case hb => exact hrl); (case hrl => exact fun r hr => FM_row hr); (case hd => ktr_room); (case hu => ktr_units); intro y h' tk' tl' F' e f d; exact hq y h' tk' tl' e f d))
  k_with "MYNE" => (k_here; (with_reducible show wpAny _ _ (compareOp CmpOp.NotEq (Value.ref aFb) (Value.ref Dc)) _ _ _); (rename News _ _ _ _ => lN'); k_dflt (refine' ne_dat lN' dFb ?s1 hDc ?s2 ?e ?hk ?hu ?_; (case s1 => (intro p hp; kst_mem)); (case s2 => (intro p hp; kst_mem)); (case e => (rw [law.compF, List.map_map]; rfl)); (case hk => exact ok_rows _); (case hu => ktr_units); (replace lN' := news_of (sm := (L + 1 + 1 + 1, o3) :: (L + 1 + 1, o2) :: (L + 1, o1) :: tl) lN' (fun p hp => List.mem_append_right _ hp)); clear hDc; (try dsimp only)))
  k_with "MYADD" => (k_here; (with_reducible show wpAny _ _ (binaryOp Operator.Add (Value.ref bG2) (Value.ref Dg)) _ _ _); (rename News _ _ _ _ => lN'); (rename Fr _ _ _ _ => lF'); k_dflt (refine' add_dat lF' lN' dG2 ?s1 hDg ?s2 ?z ?_; (case s1 => (intro p hp; kst_mem)); (case s2 => (intro p hp; kst_mem)); (case z => ((simp only [List.length_map, GM_length]); omega)); intro Ds4 oS4 h' F' N' eS4 oSf4 hA4; (try dsimp only)))
  k_with "MYNE" => (k_here; (with_reducible show wpAny _ _ (compareOp CmpOp.NotEq (Value.ref bGb) (Value.ref Ds4)) _ _ _); (rename News _ _ _ _ => lN'); k_dflt (refine' ne_dat lN' dGb ?s1 hA4 ?s2 ?e ?hk ?hu ?_; (case s1 => (intro p hp; kst_mem)); (case s2 => exact fun p hp => hp); (case e => (rw [law.compG, List.map_append, List.map_map]; rfl)); (case hk => exact ok_rows _); (case hu => ktr_units); (replace lN' := news_of (sm := (L + 1 + 1 + 1, o3) :: (L + 1 + 1, o2) :: (L + 1, o1) :: tl) lN' (fun p hp => .tail _ (List.mem_append_right _ hp))); clear hA4; (try dsimp only)))
  k_with "MYITER" => ((with_reducible show wpAny _ _ (pyIter (.ref aF1)) (DSrc _ _ _ _ (Expr.Call (Expr.Name (Str.ofString "sum") _) _ _ _) _ _ _ _ _) _ _); (rename News _ _ _ _ => lN'); (rename Fr _ _ _ _ => lF'); obtain ⟨_, itF, kkF, eF, hmF, haF⟩ := datIn_list dF1; cases eF; (with_unfolding_all refine' list_W (items := itF) (kk := kkF) (fun j => Dat.int (numI ((FM n.toNat one.toNat P.toNat).getD j []))) (fun _ => true) ?k1 lF' lN' ?km ?k3 ?_ ?_ ?_); (case k1 => exact rfl); (case km => kst_mem); (case k3 => (rw [datAll_length haF, List.length_map, FM_length]; omega)); all_goals first | (intro C oC j v h' tk m₂ Q' E' hv hC hx F' N' oo hq; exact wpAny_tests_nil (hq _)) | (intro C oC j v h' tk m₂ Q' E' hv hp hC hx F' N' oo hq; obtain ⟨dd, hd1, hd2⟩ := datAll_get haF hv; obtain ⟨rfl, hrm⟩ := rows_get hd1; obtain ⟨rr, rvs, kr, rfl, hmr, hir⟩ := datIn_ints hd2; clear hmF haF hd1 hd2; (have hrl := FM_row hrm); (have hr01 := FM_01 hrm); (try dsimp only at hq ⊢); k_whole) | (intro C Dn h' tk tln e f hC hne' hd; rw [range_rows (fun row => Dat.int (numI row)) (FM n.toNat one.toNat P.toNat) (by rw [datAll_length haF, List.length_map])] at hd; refine akeep_ints (row := (FM n.toNat one.toNat P.toNat).map numI) lF' lN' e f hC hne' ?dd ?_; (case dd => (unfold DI; rw [List.map_map]; exact hd)); clear hd e f hne' hmF haF; intro vsn nn h' tk' hysn on F' N'; (dsimp only [LCg.Off1] at on); k_whole))
  k_with "MYENUM" => ((with_reducible show wpAny _ _ (call (.type "enumerate") [.ref rr]) _ _ _); (rename News _ _ _ _ => lN'); (rename Fr _ _ _ _ => lF'); (with_unfolding_all refine' enum_src (fun i b => b * 2 ^ ((i : Nat) : Int).toNat) ?k1 lF' lN' ?k2 hir ?k4 ?_ ?_); (case k1 => exact rfl); (case k2 => exact ⟨_, (lN' (rr, listOf rvs.toArray kr) (List.mem_cons_of_mem _ (by kst_mem))).1, rfl, ⟨_, rfl⟩⟩); (case k4 => (rw [hrl]; omega)); all_goals first | (intro pl bt ta tb C2 m3 h' tk Q2 E2 hpl hbt hn h1 h2 hq2; exact shl_turn (by rfl) (by rfl) (by rfl) (by rfl) (by rfl) hn h2 h1 (by have := hr01 _ hbt; omega) (by omega) (by omega) hq2) | (intro Dq h' tk yq F' N' hyq hlq hkq; (try dsimp only); k_whole))
  k_with "MYSUM" => (k_here; (with_reducible show wpAny _ _ (call (Value.builtin "sum") [Value.ref Dq]) _ _ _); (rename News _ _ _ _ => lN'); k_dflt (refine' sum_E ?k1 ?k2 hyq ?_; (case k1 => exact rfl); (case k2 => exact ⟨_, (lN' (Dq, LCg.lst yq) (by k_mem)).1, rfl, ⟨_, rfl⟩⟩); intro h' tk t' eq; exact hq _ _ _ [] (Ext.trans hkq eq) Fresh.nil (.int _ _)))
  k_with "MYCALL" => (k_here; (with_reducible show wpAny _ _ (call (Value.ref 158) [Value.ref Dn, Value.int n _]) _ _ _); (rename News _ _ _ _ => lN'); k_dflt (refine' rank_spec _ _ _ _ _ _ _ _ _ _ _ _ _ _ _ _ _ Dn vsn ((FM n.toNat one.toNat P.toNat).map numI) n _ ?k1 ?k2 ?k3 ?k4 ?k5 ?hl hysn ?hn ?w0 ?w1 ?hd ?hu ?_; (case k1 => k_asm); (case k2 => k_asm); (case k3 => k_asm); (case k4 => k_asm); (case k5 => exact rfl); (case hl => exact ⟨_, (lN' (Dn, listOf vsn.toArray nn) (by k_mem)).1, rfl, ⟨_, rfl⟩⟩); (case hn => (rw [List.length_map, FM_length]; omega)); (case w0 => omega); (case w1 => omega); (case hd => ktr_room); (case hu => ktr_units); intro t' h' tk' F' e; (have N' := news_ext lN' e); clear lN' e; (try dsimp only)))
  k_steps
  have hb : ∀ (b : Bool) (h' : Heap) (tk' : Nat) (m' : Str → Option Value), b = true → Fr h₀ L h' m' → Q (.ret (.bool b)) { s with heap := h', toks := tk' } := fun b h' tk' m' e F' => e ▸ ret h' tk' m' F'
  refine hb _ _ _ _ ?_ (by assumption)
  have z := law.rank
  by_cases h1 : (rrun ((FM n.toNat one.toNat P.toNat).map numI) n.toNat).2 = n
  · rw [beq_iff_eq.mpr h1, beq_iff_eq.mpr (z.mp h1)]; rfl
  · rw [beq_eq_false_iff_ne.mpr h1, beq_eq_false_iff_ne.mpr fun q => h1 (z.mpr q)]; rfl
theorem tail3_use : ∀ {w : World} {mean : ExcName → Option Value} {mg mb : Str → Option Value} (body st : List Stmt) (scope : Scope) (fa : Addr) (cd : Value) (base h₀ : Heap) (L : Addr) (m : Str → Option Value) (s : Shared) (Q : Flow → Shared → Prop) (E : Value → Shared → Prop)
    (n P one two : Int) (t1 t2 : Tok) (o1 o2 o3 : Obj) (aF1 bG1 aF2 bG2 aFb bGb : Addr) (tl : List (Addr × Obj))
    (LI : LawIs w body scope) (hb : body.drop 18 = st) (B : Below callerA base [] h₀)
    (F : Fr h₀ L s.heap fun y => if y = Str.ofString "both_g" then some (.ref bGb) else if y = Str.ofString "both_f" then some (.ref aFb) else if y = Str.ofString "second_g" then some (.ref bG2) else if y = Str.ofString "first_g" then some (.ref bG1) else if y = Str.ofString "first_f" then some (.ref aF1) else m y)
    (X : (hd.heap_39 w.params).In h₀) (T : Top hd.view_39 (looseW hd.view_39 [Str.ofString "Parameters"]) mean mg mb h₀)
    (N : News h₀ L s.heap ((L + 1 + 1 + 1, o3) :: (L + 1 + 1, o2) :: (L + 1, o1) :: tl))
    (d1 : o1.data = .cell (some (.int n t1))) (d2 : o2.data = .cell (some (.int P t2))) (d3 : o3.data = .cell (some (.ref aF2)))
    (dF1 : DatIn tl (.ref aF1) (MI (FM n.toNat one.toNat P.toNat))) (dG1 : DatIn tl (.ref bG1) (MI (GM n.toNat one.toNat P.toNat)))
    (dF2 : DatIn tl (.ref aF2) (MI (FM n.toNat two.toNat P.toNat))) (dG2 : DatIn tl (.ref bG2) (MI (GM n.toNat two.toNat P.toNat)))
    (dFb : DatIn tl (.ref aFb) (MI (FM n.toNat (one + two).toNat P.toNat))) (dGb : DatIn tl (.ref bGb) (MI (GM n.toNat (one + two).toNat P.toNat)))
    (hn0 : 0 < n) (hn1 : n ≤ 100) (hn2 : HidLe n 7) (hP0 : 0 ≤ P) (hP1 : P < 2 ^ n.toNat)
    (ha0 : 0 < one) (ha1 : one ≤ 5) (hb0 : 0 < two) (hb1 : two ≤ 5)
    (law : LawFacts n P one two)
    (ret : ∀ h' tk' m', Fr h₀ L h' m' → Q (.ret (.bool true)) { s with heap := h', toks := tk' }),
    wpAny (model PySem.Challenge.rw_et5001_01.row.prog w) (callerA.deeper (envOfC (Str.ofString "law") scope L fa cd)) (execs st (envOfC (Str.ofString "law") scope L fa cd)) Q E s := by
  intro w mean mg mb body st scope fa cd base h₀ L m s Q E n P one two t1 t2 o1 o2 o3 aF1 bG1 aF2 bG2 aFb bGb tl LI hb B F X T N d1 d2 d3 dF1 dG1 dF2 dG2 dFb dGb hn0 hn1 hn2 hP0 hP1 ha0 ha1 hb0 hb1 law ret
  subst hb
  exact tail3_spec body scope fa cd base h₀ L m s Q E n P one two t1 t2 o1 o2 o3 aF1 bG1 aF2 bG2 aFb bGb tl LI B F X T N d1 d2 d3 dF1 dG1 dF2 dG2 dFb dGb hn0 hn1 hn2 hP0 hP1 ha0 ha1 hb0 hb1 law ret
end Mine
end Part_TL3

section Part_TL2
open PySem PySem.W PyProof.Rows
namespace Mine
local macro_rules | `(tactic| walk_at "m_pad_0") => `(tactic| fail)
local macro_rules | `(tactic| walk_at "m_pad_1") => `(tactic| fail)
local macro_rules | `(tactic| walk_at "m_pad_2") => `(tactic| fail)
local macro_rules | `(tactic| walk_at "m_pad_3") => `(tactic| fail)
local macro_rules | `(tactic| walk_at "m_pad_4") => `(tactic| fail)
local macro_rules | `(tactic| walk_at "m_pad_5") => `(tactic| fail)
local macro_rules | `(tactic| walk_at "m_pad_6") => `(tactic| fail)
local macro_rules | `(tactic| walk_at "m_pad_7") => `(tactic| fail)
local macro_rules | `(tactic| walk_at "m_pad_8") => `(tactic| fail)
set_option maxRecDepth 100000
set_option maxHeartbeats 4000000 

local macro_rules | `(tactic| walk_at "m_pick") => `(tactic| first | exact Pick.head | (apply Pick.tail; walk_at "m_pick"))
local macro_rules | `(tactic| walk_at "callWith ref nil nil") => `(tactic| k_extra "MYCW")
local macro_rules | `(tactic| walk_at "call ref") => `(tactic| k_extra "MYCALL")
local macro_rules | `(tactic| walk_at "assign Tuple") => `(tactic| k_extra "MYUNP")
local macro_rules | `(tactic| walk_at "exec Assign cons ListComp") => `(tactic| (k_here; k_dflt (refine Assign_ListComp_D (by rfl) (by with_unfolding_all rfl) (by decide) (by rfl) (by decide) (by rfl) (by rfl) (by rfl) (by k_asm) ?_)))
local macro_rules | `(tactic| walk_at "eval ListComp") => `(tactic| (k_here; first | k_dflt (refine ListComp_D (by with_unfolding_all rfl) (by decide) (by rfl) (by decide) (by rfl) ?_) | k_dflt (refine ListComp_C (by with_unfolding_all rfl) (fun _ => rfl) (fun _ => rfl) (by rfl) (by decide) (fun _ _ => rfl) ?_)))
local macro_rules | `(tactic| walk_at "call type:range cons nil") => `(tactic| k_extra "MYRANGE")
local macro_rules | `(tactic| walk_at "pyIter ref") => `(tactic| k_extra "MYITER")
local macro_rules | `(tactic| walk_at "TEnd") => `(tactic| k_extra "MYT")
local macro_rules | `(tactic| walk_at "GEnd") => `(tactic| k_extra "MYG")
local macro_rules | `(tactic| walk_at "binaryOp Add ref ref") => `(tactic| k_extra "MYADD")
local macro_rules | `(tactic| walk_at "compareOp NotEq ref ref") => `(tactic| k_extra "MYNE")
local macro_rules | `(tactic| walk_at "call builtin:len cons nil") => `(tactic| k_extra "MYLEN")
local macro_rules | `(tactic| walk_at "execs cons") => `(tactic| k_extra "MYCUT")
theorem tail2_spec : ∀ {w : World} {mean : ExcName → Option Value} {mg mb : Str → Option Value} (body : List Stmt) (scope : Scope) (fa : Addr) (cd : Value) (base h₀ : Heap) (L : Addr) (m : Str → Option Value) (s : Shared) (Q : Flow → Shared → Prop) (E : Value → Shared → Prop)
    (n P c0 xo one two : Int) (ri ro : Bool) (t1 t2 t5 t6 : Tok) (o1 o2 o3 : Obj) (v3 : Option Value)
    (xA dA : Addr) (a0 a1 a2 a3 a4 a5 : Int) (v0 v1 v2 v3' v4 v5 r0 r1 r2 r5 : Nat) (ka : Nat)
    (LI : LawIs w body scope) (B : Below callerA base [] h₀)
    (F : Fr h₀ L s.heap fun y => if y = Str.ofString "algorithm" then some (.ref xA) else if y = Str.ofString "two" then some (.int two t6) else if y = Str.ofString "one" then some (.int one t5) else m y)
    (X : (hd.heap_39 w.params).In h₀) (T : Top hd.view_39 (looseW hd.view_39 [Str.ofString "Parameters"]) mean mg mb h₀)
    (N : News h₀ L s.heap [(xA, instObj 71 dA), (dA, dictOf [⟨a0, .str (Str.ofString "crc_width") v0, .int n r0⟩, ⟨a1, .str (Str.ofString "polynomial") v1, .int P r1⟩, ⟨a2, .str (Str.ofString "initial_crc") v2, .int c0 r2⟩, ⟨a3, .str (Str.ofString "reflect_input") v3', .bool ri⟩, ⟨a4, .str (Str.ofString "reflect_output") v4, .bool ro⟩, ⟨a5, .str (Str.ofString "xor_output") v5, .int xo r5⟩] ka), (L + 1 + 1 + 1, o3), (L + 1 + 1, o2), (L + 1, o1)])
    (hne : @LT.lt Nat _ (L + 1 + 1 + 1) dA ∧ @LT.lt Nat _ dA xA)
    (d1 : o1.data = .cell (some (.int n t1))) (d2 : o2.data = .cell (some (.int P t2))) (d3 : o3.data = .cell v3)
    (hn0 : 0 < n) (hn1 : n ≤ 100) (hn2 : HidLe n 7) (hP0 : 0 ≤ P) (hP1 : P < 2 ^ n.toNat) (hc0 : 0 ≤ c0) (hc1 : c0 < 2 ^ n.toNat) (hx0 : 0 ≤ xo) (hx1 : xo < 2 ^ n.toNat)
    (ha0 : 0 < one) (ha1 : one ≤ 5) (hb0 : 0 < two) (hb1 : two ≤ 5)
    (law : LawFacts n P one two)
    (ret : ∀ h' tk' m', Fr h₀ L h' m' → Q (.ret (.bool true)) { s with heap := h', toks := tk' }),
    wpAny (model PySem.Challenge.rw_et5001_01.row.prog w) (callerA.deeper (envOfC (Str.ofString "law") scope L fa cd)) (execs (body.drop 10) (envOfC (Str.ofString "law") scope L fa cd)) Q E s := by
  w_on
  w_top off
  k_with_none
  k_fill
  intro w mean mg mb body scope fa cd base h₀ L m s Q E n P c0 xo one two ri ro t1 t2 t5 t6 o1 o2 o3 v3 xA dA a0 a1 a2 a3 a4 a5 v0 v1 v2 v3' v4 v5 r0 r1 r2 r5 ka LI B F X T N hne d1 d2 d3 hn0 hn1 hn2 hP0 hP1 hc0 hc1 hx0 hx1 ha0 ha1 hb0 hb1 law ret
  obtain ⟨e1, e2⟩ := LI.unique (b' := _) (c' := _) (by with_unfolding_all exact rfl)
  subst e1 e2
  have hpow : (0 : Int) < 2 ^ n.toNat := Int.pow_pos (by decide)
  have q1 : isSeqO (L + 1, o1) = false := by unfold isSeqO; rw [d1]
  have q2 : isSeqO (L + 1 + 1, o2) = false := by unfold isSeqO; rw [d2]
  have q3 : isSeqO (L + 1 + 1 + 1, o3) = false := by unfold isSeqO; rw [d3]
  have hne2 : @Ne Nat dA xA := by omega
  dsimp only [List.drop]
  k_with "MYCW" => (k_here; (rename News _ _ _ _ => lN'); first | (refine' kco_callWith ?k1 ?k2 ?k3 ?k4 ?_; (case k1 => k_in); (case k2 => (refine' InstAt.of_news lN' ?h1 ?h2; (case h1 => k_mem); (case h2 => k_mem))); (case k3 => rfl); (case k4 => k_is); k_whole) | (replace lN' := news_of (sm := [(xA, instObj 71 dA), (dA, dictOf [⟨a0, .str (Str.ofString "crc_width") v0, .int n r0⟩, ⟨a1, .str (Str.ofString "polynomial") v1, .int P r1⟩, ⟨a2, .str (Str.ofString "initial_crc") v2, .int c0 r2⟩, ⟨a3, .str (Str.ofString "reflect_input") v3', .bool ri⟩, ⟨a4, .str (Str.ofString "reflect_output") v4, .bool ro⟩, ⟨a5, .str (Str.ofString "xor_output") v5, .int xo r5⟩] ka), (L + 1 + 1 + 1, o3), (L + 1 + 1, o2), (L + 1, o1)]) lN' (by (intro p hp; (simp only [List.mem_cons, List.not_mem_nil, or_false] at hp); rcases hp with rfl | rfl | rfl | rfl | rfl <;> simp)); refine' kco_callWith ?k1 ?k2 ?k3 ?k4 ?_; (case k1 => k_in); (case k2 => (refine' InstAt.of_news lN' ?h1 ?h2; (case h1 => k_mem); (case h2 => k_mem))); (case k3 => rfl); (case k4 => k_is); k_whole))
  k_with "MYCALL" => (k_here; (with_reducible show wpAny _ _ (call (Value.ref xA) [_]) _ _ _); k_dflt (refine' params_use ?k1 ?k2 ?k3 ?k4 ?k5 ?k6 ?p1 ?p2 hne2 ?o1 ?o2 ?hw ?hd ?hu ?_; (case k1 => k_asm); (case k2 => k_asm); (case k3 => k_asm); (case k4 => k_asm); (case k5 => k_asm); (case k6 => exact rfl); (case p1 => walk_at "m_pick"); (case p2 => walk_at "m_pick"); (case o1 => k_all); (case o2 => k_all); (case hw => first | decide | assumption | omega); (case hd => ktr_room); (case hu => ktr_units); k_whole; intro x dx g0 g1 g2 g3 g4 g5 g6 u0 u1 u2 u3 u4 u5 u6 t0 t1' t2' t5' t6' kk h' tk' F' N' ox od; (try dsimp only)))
  k_with "MYCALL" => (k_here; k_dflt (show wpAny _ _ (call (Value.ref 127) [Value.ref x]) _ _ _); (rename News _ _ _ _ => lN'); k_dflt (refine' matrices_use (dw := 1) (tlo := []) [xA, dA, L + 1 + 1 + 1, L + 1 + 1, L + 1] ?k1 ?k2 ?k3 lN' ?k5 ?k6 ox od ?he ?hst ?hadr hn0 hn1 hn2 ?w0 ?w1 hP0 hP1 hc0 hc1 hx0 hx1 ?hd ?hu ?_; (case k1 => k_asm); (case k2 => k_asm); (case k3 => k_asm); (case k5 => k_asm); (case k6 => exact rfl); (case he => exact (List.append_nil _).symm); (case hst => exact List.forall_mem_nil _); (case hadr => (intro c hc; (simp only [List.mem_cons, List.not_mem_nil, or_false] at hc); rcases hc with rfl | rfl | rfl | rfl | rfl <;> first | exact ⟨_, by k_mem, q1⟩ | exact ⟨_, by k_mem, q2⟩ | exact ⟨_, by k_mem, q3⟩ | exact ⟨_, by k_mem, rfl⟩)); (case w0 => decide); (case w1 => decide); (case hd => ktr_room); (case hu => ktr_units); intro tl1 T1 aS bS nT1 h' tk' hs1 hq1 ow1 F' N' dS dSg; (try (simp only [List.cons_append, List.nil_append] at N')); (try dsimp only)))
  k_with "MYUNP" => (k_here; (rename News _ _ _ _ => lN'); (rename Fr _ _ _ _ => lF'); k_dflt (refine' unpack2 lF' lN' ?k1 ?k2 ?k3 ?_; (case k1 => exact rfl); (case k2 => exact rfl); (case k3 => exact rfl); intro h' F' N'; (try dsimp only)))
  k_with "MYRANGE" => ((with_reducible show wpAny _ _ (call (.type "range") [.int _ _]) (fun xv s₁ => wpAny _ _ (pyIter xv) (DSrc _ _ _ _ (Expr.BinOp _ _ _ _) _ _ _ _ _) _ _) _ _); (rename News _ _ _ _ => lN'); (rename Fr _ _ _ _ => lF'); (with_unfolding_all refine' range_W (fun i => Dat.int (Builtin.bitAnd (P.fdiv (2 ^ i.toNat)) 1)) ?k1 ?k2 ?k3 lF' lN' ?_ ?_); (case k1 => exact rfl); (case k2 => omega); (case k3 => omega); all_goals first | (intro C oC i tv h' tk m₂ Q' E' hi0 hi1 hC hx F' N' oo hq; (try dsimp only at hq ⊢); k_whole) | (intro C Dl h' tk tl e f hC hne' hd; rw [di_map (fun i => Builtin.bitAnd (P.fdiv (2 ^ ((i : Int)).toNat)) 1)] at hd; refine akeep_ints (row := lowI n P) lF' lN' e f hC hne' hd ?_; clear hd e f hne'; intro vsl nl h' tk' hysl ol F' N'; (dsimp only [LCg.Off1] at ol); k_whole))
  k_with "MYG" => (first | exact hq _ _ _ [] (Ext.refl _) Fresh.nil (.int _ _) | (refine hq _ _ _ [] (Ext.refl _) Fresh.nil ?_; first | (rw [if_pos (by assumption)]; exact .int _ _) | (rw [if_neg (by assumption)]; exact .int _ _)))
  k_with "MYRANGE" => ((with_reducible show wpAny _ _ (call (.type "range") [.int _ _]) (fun xv s₁ => wpAny _ _ (pyIter xv) (CSrc _ _ _ _ _ _ _ _ _) _ _) _ _); (rename News _ _ _ _ => lN'); (rename Fr _ _ _ _ => lF'); (with_unfolding_all refine' range_CW (fun i => DI (dueRow n i)) ?k1 ?k2 ?k3 lF' lN' ?_ ?_); (case k1 => exact rfl); (case k2 => omega); (case k3 => omega); all_goals first | (intro C c oC i tv h' tk Q' E' hi0 hi1 hC F' N' oo hq; (try dsimp only at hq ⊢); k_whole) | (intro Dd h' tk tld e f hd; rw [mi_map (fun i => dueRow n (i : Int))] at hd; (have hdd : DatIn tld (.ref Dd) (MI (dueI n)) := hd); (have F' := lF'.keeps e); (have N' := news_app (f.news lF') (news_ext lN' e)); clear hd e f; (try dsimp only); k_whole))
  k_with "MYRANGE" => ((with_reducible show wpAny _ _ (call (.type "range") [.int _ _]) (fun xv s₁ => wpAny _ _ (pyIter xv) (DSrc _ _ _ _ (Expr.IfExp _ _ _ _) _ _ _ _ _) _ _) _ _); (rename News _ _ _ _ => lN'); (rename Fr _ _ _ _ => lF'); (with_unfolding_all refine' range_W (fun j => Dat.int (if j = i + 1 then 1 else 0)) ?k1 ?k2 ?k3 lF' lN' ?_ ?_); (case k1 => exact rfl); (case k2 => omega); (case k3 => omega); all_goals first | (clear hq; intro C2 oC2 j tv2 h' tk m₂ Q' E' hj0 hj1 hC2 hx F' N' oo2 hq; (try dsimp only at hq ⊢); k_whole) | (intro C2 D2 h' tk tl2 e2 f2 hC hne' hd2; rw [di_map (fun j => if (j : Int) = i + 1 then 1 else 0)] at hd2; exact hq _ _ _ tl2 e2 f2 hd2))
  k_with "MYADD" => (k_here; (with_reducible show wpAny _ _ (binaryOp Operator.Add (Value.ref Dd) (Value.ref _)) _ _ _); (rename News _ _ _ _ => lN'); (rename Fr _ _ _ _ => lF'); k_dflt (refine' add_dat lF' lN' hdd ?s1 (DatIn.list (vs := [Value.ref Dl]) ?m1 (.cons (ints_datIn (n := nl) ?m2 hysl) .nil)) ?s2 ?z ?_; (case s2 => exact fun p hp => hp); (case s1 => (intro p hp; kst_mem)); (case m1 => k_mem); (case m2 => first | k_mem | simp); (case z => ((simp only [List.length_map, List.length_range, dueI, List.length_cons, List.length_nil]); omega)); intro Ds oS h' F' N' eS oSf hdS; (try dsimp only)))
  k_with "MYNE" => (k_here; (with_reducible show wpAny _ _ (compareOp CmpOp.NotEq (Value.ref aS) (Value.ref Ds)) _ _ _); (rename News _ _ _ _ => lN'); k_dflt (refine' ne_dat lN' dS ?s1 hdS ?s2 ?e ?hk ?hu ?_; (case s1 => (intro p hp; kst_mem)); (case s2 => (intro p hp; first | exact hp | kst_mem)); (case e => (show (FM n.toNat 1 P.toNat).map DI = _; rw [law.f1, List.map_append]; rfl)); (case hk => exact ok_rows _); (case hu => ktr_units); (try dsimp only)))
  k_with "MYNE" => (k_here; (with_reducible show wpAny _ _ (compareOp CmpOp.NotEq (Value.ref bS) (Value.ref _)) _ _ _); (rename News _ _ _ _ => lN'); k_dflt (refine' ne_dat lN' dSg ?s1 (DatIn.list (vs := [Value.ref Dl]) ?m1 (.cons (ints_datIn (n := nl) ?m2 hysl) .nil)) ?s2 ?e ?hk ?hu ?_; (case s2 => exact fun p hp => hp); (case s1 => (intro p hp; kst_mem)); (case m1 => k_mem); (case m2 => first | k_mem | simp); (case e => (show (GM n.toNat 1 P.toNat).map DI = _; rw [law.g1]; rfl)); (case hk => exact ok_rows _); (case hu => ktr_units); (try dsimp only)))
  k_with "MYCALL" => (k_here; k_dflt (show wpAny _ _ (call (Value.ref 127) [Value.ref x]) _ _ _); (rename News _ _ _ _ => lN'); k_dflt (refine' matrices_use (dw := one) (tlo := []) [xA, dA, L + 1 + 1 + 1, L + 1 + 1, L + 1] ?k1 ?k2 ?k3 lN' ?k5 ?k6 ox od ?he ?hst ?hadr hn0 hn1 hn2 ?w0 ?w1 hP0 hP1 hc0 hc1 hx0 hx1 ?hd ?hu ?_; (case k1 => k_asm); (case k2 => k_asm); (case k3 => k_asm); (case k5 => k_asm); (case k6 => exact rfl); (case he => exact (List.append_nil _).symm); (case hst => exact List.forall_mem_nil _); (case hadr => (intro c hc; (simp only [List.mem_cons, List.not_mem_nil, or_false] at hc); rcases hc with rfl | rfl | rfl | rfl | rfl <;> first | exact ⟨_, by k_mem, q1⟩ | exact ⟨_, by k_mem, q2⟩ | exact ⟨_, by k_mem, q3⟩ | exact ⟨_, by k_mem, rfl⟩ | exact ⟨_, by k_mem, isSeq_cell (by assumption)⟩)); (case w0 => exact ha0); (case w1 => omega); (case hd => ktr_room); (case hu => ktr_units); intro tl2 T2 aF1 bG1 nT2 h' tk' hs2 hq2 ow2 F' N' dF1 dG1; (try (simp only [List.cons_append, List.nil_append] at N')); clear ox od hs2; (try dsimp only)))
  k_with "MYCALL" => (k_here; k_dflt (show wpAny _ _ (call (Value.ref 127) [Value.ref x]) _ _ _); (rename News _ _ _ _ => lN'); k_dflt (refine' matrices_use (dw := two) (ex := [_, _, _, _, _]) (tlo := tl2) [xA, dA, L + 1 + 1 + 1, L + 1 + 1, L + 1] ?k1 ?k2 ?k3 lN' ?k5 ?k6 ox od ?he ?hst ?hadr hn0 hn1 hn2 ?w0 ?w1 hP0 hP1 hc0 hc1 hx0 hx1 ?hd ?hu ?_; (case k1 => k_asm); (case k2 => k_asm); (case k3 => k_asm); (case k5 => k_asm); (case k6 => exact rfl); (case he => exact rfl); (case hst => exact hq2); (case hadr => (intro c hc; (simp only [List.mem_cons, List.not_mem_nil, or_false] at hc); rcases hc with rfl | rfl | rfl | rfl | rfl <;> first | exact ⟨_, by k_mem, q1⟩ | exact ⟨_, by k_mem, q2⟩ | exact ⟨_, by k_mem, q3⟩ | exact ⟨_, by k_mem, rfl⟩ | exact ⟨_, by k_mem, isSeq_cell (by assumption)⟩)); (case w0 => exact hb0); (case w1 => omega); (case hd => ktr_room); (case hu => ktr_units); intro tl3 T3 aF2 bG2 nT3 h' tk' hs3 hq3 ow3 F' N' dF2 dG2; (try (simp only [List.cons_append, List.nil_append] at N')); clear ox od; replace dF1 := dF1.mono hs3; replace dG1 := dG1.mono hs3; (try dsimp only)))
  k_with "MYCALL" => (k_here; k_dflt (show wpAny _ _ (call (Value.ref 127) [Value.ref x]) _ _ _); (rename News _ _ _ _ => lN'); k_dflt (refine' matrices_use (dw := one + two) (ex := [_, _, _, _, _]) (tlo := tl3) [xA, dA, L + 1 + 1 + 1, L + 1 + 1, L + 1] ?k1 ?k2 ?k3 lN' ?k5 ?k6 ox od ?he ?hst ?hadr hn0 hn1 hn2 ?w0 ?w1 hP0 hP1 hc0 hc1 hx0 hx1 ?hd ?hu ?_; (case k1 => k_asm); (case k2 => k_asm); (case k3 => k_asm); (case k5 => k_asm); (case k6 => exact rfl); (case he => exact rfl); (case hst => exact hq3); (case hadr => (intro c hc; (simp only [List.mem_cons, List.not_mem_nil, or_false] at hc); rcases hc with rfl | rfl | rfl | rfl | rfl <;> first | exact ⟨_, by k_mem, q1⟩ | exact ⟨_, by k_mem, q2⟩ | exact ⟨_, by k_mem, q3⟩ | exact ⟨_, by k_mem, rfl⟩ | exact ⟨_, by k_mem, isSeq_cell (by assumption)⟩)); (case w0 => omega); (case w1 => omega); (case hd => ktr_room); (case hu => ktr_units); intro tl4 T4 aFb bGb nT4 h' tk' hs4 hq4 ow4 F' N' dFb dGb; (try (simp only [List.cons_append, List.nil_append] at N')); clear ox od; replace dF1 := dF1.mono hs4; replace dG1 := dG1.mono hs4; replace dF2 := dF2.mono hs4; replace dG2 := dG2.mono hs4; (try dsimp only)))
  k_with "MYLEN" => (k_here; (with_reducible show wpAny _ _ (call (Value.builtin "len") [Value.ref aF1]) _ _ _); (rename News _ _ _ _ => lN'); k_dflt (refine' len_dat (k := n) lN' dF1 ?s1 ?hk ?hn ?_; (case s1 => (intro p hp; kst_mem)); (case hk => (rw [List.length_map, FM_length]; omega)); (case hn => omega); (try dsimp only)))
  k_with "MYLEN" => (k_here; (with_reducible show wpAny _ _ (call (Value.builtin "len") [Value.ref bG1]) _ _ _); (rename News _ _ _ _ => lN'); k_dflt (refine' len_dat (k := one) lN' dG1 ?s1 ?hk ?hn ?_; (case s1 => (intro p hp; kst_mem)); (case hk => (rw [List.length_map, GM_length]; omega)); (case hn => omega); (try dsimp only)))
  k_with "MYLEN" => (k_here; (with_reducible show wpAny _ _ (call (Value.builtin "len") [Value.ref bG2]) _ _ _); (rename News _ _ _ _ => lN'); k_dflt (refine' len_dat (k := two) lN' dG2 ?s1 ?hk ?hn ?_; (case s1 => (intro p hp; kst_mem)); (case hk => (rw [List.length_map, GM_length]; omega)); (case hn => omega); (try dsimp only)))
  k_with "MYLEN" => (k_here; (with_reducible show wpAny _ _ (call (Value.builtin "len") [Value.ref bGb]) _ _ _); (rename News _ _ _ _ => lN'); k_dflt (refine' len_dat (k := one + two) lN' dGb ?s1 ?hk ?hn ?_; (case s1 => (intro p hp; kst_mem)); (case hk => (rw [List.length_map, GM_length]; omega)); (case hn => omega); (try dsimp only)))
  k_with "MYNE" => (k_here; (with_reducible show wpAny _ _ (compareOp CmpOp.NotEq (Value.ref _) (Value.ref _)) _ _ _); (rename News _ _ _ _ => lN'); k_dflt (refine' ne_dat lN' (ints_datIn (row := [n, one, two, one + two]) (n := 0) ?m1 (.cons _ _ (.cons _ _ (.cons _ _ (.cons _ _ .nil))))) ?s1 (ints_datIn (row := [n, one, two, one + two]) (n := 0) ?m2 (.cons _ _ (.cons _ _ (.cons _ _ (.cons _ _ .nil))))) ?s2 rfl (ok_nums _) ?hu ?_; (case s1 => exact fun p hp => hp); (case s2 => exact fun p hp => hp); (case m1 => k_mem); (case m2 => k_mem); (case hu => ktr_units); (try dsimp only)))
  k_with "MYCUT" => ((try dsimp only); (with_reducible show wpAny _ _ (execs (Stmt.If (Expr.Call (Expr.Name (Str.ofString "any") _) _ _ _) _ _ _ :: _) _) _ _ _); (rename News _ _ _ _ => lN'); (rename Fr _ _ _ _ => lF'); k_dflt (refine' tail3_use _ _ _ fa cd base h₀ L _ _ _ _ n P one two t1 t2 o1 o2 _ aF1 bG1 aF2 bG2 aFb bGb tl4 LI ?hb B lF' X T ?hN d1 d2 ?d3 dF1 dG1 dF2 dG2 dFb dGb hn0 hn1 hn2 hP0 hP1 ha0 ha1 hb0 hb1 law ?ret; (case ret => exact fun h' tk' m' F' => ret h' tk' m' F'); (case d3 => assumption); (case hN => exact fun p hp => lN' p (.tail _ (.tail _ (.tail _ (.tail _ hp))))); (case hb => rfl)))
  k_steps
theorem tail2_use : ∀ {w : World} {mean : ExcName → Option Value} {mg mb : Str → Option Value} (body st : List Stmt) (scope : Scope) (fa : Addr) (cd : Value) (base h₀ : Heap) (L : Addr) (m : Str → Option Value) (s : Shared) (Q : Flow → Shared → Prop) (E : Value → Shared → Prop)
    (n P c0 xo one two : Int) (ri ro : Bool) (t1 t2 t5 t6 : Tok) (o1 o2 o3 : Obj) (v3 : Option Value)
    (xA dA : Addr) (a0 a1 a2 a3 a4 a5 : Int) (v0 v1 v2 v3' v4 v5 r0 r1 r2 r5 : Nat) (ka : Nat)
    (LI : LawIs w body scope) (hb : body.drop 10 = st) (B : Below callerA base [] h₀)
    (F : Fr h₀ L s.heap fun y => if y = Str.ofString "algorithm" then some (.ref xA) else if y = Str.ofString "two" then some (.int two t6) else if y = Str.ofString "one" then some (.int one t5) else m y)
    (X : (hd.heap_39 w.params).In h₀) (T : Top hd.view_39 (looseW hd.view_39 [Str.ofString "Parameters"]) mean mg mb h₀)
    (N : News h₀ L s.heap [(xA, instObj 71 dA), (dA, dictOf [⟨a0, .str (Str.ofString "crc_width") v0, .int n r0⟩, ⟨a1, .str (Str.ofString "polynomial") v1, .int P r1⟩, ⟨a2, .str (Str.ofString "initial_crc") v2, .int c0 r2⟩, ⟨a3, .str (Str.ofString "reflect_input") v3', .bool ri⟩, ⟨a4, .str (Str.ofString "reflect_output") v4, .bool ro⟩, ⟨a5, .str (Str.ofString "xor_output") v5, .int xo r5⟩] ka), (L + 1 + 1 + 1, o3), (L + 1 + 1, o2), (L + 1, o1)])
    (hne : @LT.lt Nat _ (L + 1 + 1 + 1) dA ∧ @LT.lt Nat _ dA xA)
    (d1 : o1.data = .cell (some (.int n t1))) (d2 : o2.data = .cell (some (.int P t2))) (d3 : o3.data = .cell v3)
    (hn0 : 0 < n) (hn1 : n ≤ 100) (hn2 : HidLe n 7) (hP0 : 0 ≤ P) (hP1 : P < 2 ^ n.toNat) (hc0 : 0 ≤ c0) (hc1 : c0 < 2 ^ n.toNat) (hx0 : 0 ≤ xo) (hx1 : xo < 2 ^ n.toNat)
    (ha0 : 0 < one) (ha1 : one ≤ 5) (hb0 : 0 < two) (hb1 : two ≤ 5)
    (law : LawFacts n P one two)
    (ret : ∀ h' tk' m', Fr h₀ L h' m' → Q (.ret (.bool true)) { s with heap := h', toks := tk' }),
    wpAny (model PySem.Challenge.rw_et5001_01.row.prog w) (callerA.deeper (envOfC (Str.ofString "law") scope L fa cd)) (execs st (envOfC (Str.ofString "law") scope L fa cd)) Q E s := by
  intro w mean mg mb body st scope fa cd base h₀ L m s Q E n P c0 xo one two ri ro t1 t2 t5 t6 o1 o2 o3 v3 xA dA a0 a1 a2 a3 a4 a5 v0 v1 v2 v3' v4 v5 r0 r1 r2 r5 ka LI hb B F X T N hne d1 d2 d3 hn0 hn1 hn2 hP0 hP1 hc0 hc1 hx0 hx1 ha0 ha1 hb0 hb1 law ret
  subst hb
  exact tail2_spec body scope fa cd base h₀ L m s Q E n P c0 xo one two ri ro t1 t2 t5 t6 o1 o2 o3 v3 xA dA a0 a1 a2 a3 a4 a5 v0 v1 v2 v3' v4 v5 r0 r1 r2 r5 ka LI B F X T N hne d1 d2 d3 hn0 hn1 hn2 hP0 hP1 hc0 hc1 hx0 hx1 ha0 ha1 hb0 hb1 law ret
end Mine
end Part_TL2

section Part_TL
open PySem PySem.W PyProof.Rows
namespace Mine
local macro_rules | `(tactic| walk_at "m_pad_0") => `(tactic| fail)
local macro_rules | `(tactic| walk_at "m_pad_1") => `(tactic| fail)
local macro_rules | `(tactic| walk_at "m_pad_2") => `(tactic| fail)
local macro_rules | `(tactic| walk_at "m_pad_3") => `(tactic| fail)
local macro_rules | `(tactic| walk_at "m_pad_4") => `(tactic| fail)
local macro_rules | `(tactic| walk_at "m_pad_5") => `(tactic| fail)
local macro_rules | `(tactic| walk_at "m_pad_6") => `(tactic| fail)
local macro_rules | `(tactic| walk_at "m_pad_7") => `(tactic| fail)
local macro_rules | `(tactic| walk_at "m_pad_8") => `(tactic| fail)
local macro_rules | `(tactic| walk_at "m_pad_9") => `(tactic| fail)
local macro_rules | `(tactic| walk_at "m_pad_10") => `(tactic| fail)
local macro_rules | `(tactic| walk_at "m_pad_11") => `(tactic| fail)
local macro_rules | `(tactic| walk_at "m_pad_12") => `(tactic| fail)
local macro_rules | `(tactic| walk_at "m_pad_13") => `(tactic| fail)
local macro_rules | `(tactic| walk_at "m_pad_14") => `(tactic| fail)
local macro_rules | `(tactic| walk_at "m_pad_15") => `(tactic| fail)
local macro_rules | `(tactic| walk_at "m_pad_16") => `(tactic| fail)
local macro_rules | `(tactic| walk_at "m_pad_17") => `(tactic| fail)
local macro_rules | `(tactic| walk_at "m_pad_18") => `(tactic| fail)
local macro_rules | `(tactic| walk_at "m_pad_19") => `(tactic| fail)
local macro_rules | `(tactic| walk_at "m_pad_20") => `(tactic| fail)
set_option maxRecDepth 100000
set_option maxHeartbeats 4000000 

local macro_rules | `(tactic| walk_at "call builtin:_operator.index") => `(tactic| (k_here; k_dflt (refine op_index ?_)))
theorem pow_alt {r : Int} (h : 0 ≤ r) : (1 : Int) * 2 ^ r.toNat = 2 ^ r.toNat := Int.one_mul _
local macro_rules | `(tactic| walk_at "compareOp NotIn int ref") => `(tactic| (k_here; k_dflt (refine notIn_range (by assumption) (by first | assumption | decide) (by first | assumption | (rw [← Int.one_mul (2 ^ _)]; assumption)) ?_)))
local macro_rules | `(tactic| walk_at "execs cons") => `(tactic| k_extra "MYCUT")
theorem tail_spec : ∀ {w : World} {mean : ExcName → Option Value} {mg mb : Str → Option Value} (body : List Stmt) (scope : Scope) (fa : Addr) (cd : Value) (base h₀ : Heap) (L : Addr) (m : Str → Option Value) (s : Shared) (Q : Flow → Shared → Prop) (E : Value → Shared → Prop)
    (n P c0 xo one two : Int) (ri ro : Bool) (t1 t2 t3 t4 t5 t6 : Tok) (o1 o2 o3 : Obj) (v3 : Option Value)
    (LI : LawIs w body scope) (B : Below callerA base [] h₀)
    (F : Fr h₀ L s.heap fun y => if y = Str.ofString "two" then some (.int two t6) else if y = Str.ofString "one" then some (.int one t5) else if y = Str.ofString "turn_out" then some (.bool ro) else if y = Str.ofString "turn_in" then some (.bool ri) else if y = Str.ofString "last" then some (.int xo t4) else if y = Str.ofString "first" then some (.int c0 t3) else m y)
    (X : (hd.heap_39 w.params).In h₀) (T : Top hd.view_39 (looseW hd.view_39 [Str.ofString "Parameters"]) mean mg mb h₀)
    (N : News h₀ L s.heap [(L + 1 + 1 + 1, o3), (L + 1 + 1, o2), (L + 1, o1)])
    (d1 : o1.data = .cell (some (.int n t1))) (d2 : o2.data = .cell (some (.int P t2))) (d3 : o3.data = .cell v3)
    (hn0 : 0 < n) (hn1 : n ≤ 100) (hn2 : HidLe n 7) (hP0 : 0 ≤ P) (hP1 : P < 2 ^ n.toNat) (hc0 : 0 ≤ c0) (hc1 : c0 < 2 ^ n.toNat) (hx0 : 0 ≤ xo) (hx1 : xo < 2 ^ n.toNat)
    (ha0 : 0 < one) (ha1 : one ≤ 5) (hb0 : 0 < two) (hb1 : two ≤ 5)
    (law : LawFacts n P one two)
    (ret : ∀ h' tk' m', Fr h₀ L h' m' → Q (.ret (.bool true)) { s with heap := h', toks := tk' }),
    wpAny (model PySem.Challenge.rw_et5001_01.row.prog w) (callerA.deeper (envOfC (Str.ofString "law") scope L fa cd)) (execs (body.drop 9) (envOfC (Str.ofString "law") scope L fa cd)) Q E s := by
  w_on
  w_top off
  k_with_none
  k_fill
  intro w mean mg mb body scope fa cd base h₀ L m s Q E n P c0 xo one two ri ro t1 t2 t3 t4 t5 t6 o1 o2 o3 v3 LI B F X T N d1 d2 d3 hn0 hn1 hn2 hP0 hP1 hc0 hc1 hx0 hx1 ha0 ha1 hb0 hb1 law ret
  obtain ⟨e1, e2⟩ := LI.unique (b' := _) (c' := _) (by with_unfolding_all exact rfl)
  subst e1 e2
  dsimp only [List.drop]
  k_with "MYCUT" => ((try dsimp only); (with_reducible show wpAny _ _ (execs (Stmt.Assign [Expr.Tuple _ _ _] _ _ :: _) _) _ _ _); (rename News _ _ _ _ => lN'); (rename Fr _ _ _ _ => lF'); k_dflt (refine' tail2_use _ _ _ fa cd base h₀ L _ _ _ _ n P c0 xo one two ri ro t1 t2 t5 t6 o1 o2 o3 v3 _ _ _ _ _ _ _ _ _ _ _ _ _ _ _ _ _ _ _ LI ?hb B lF' X T ?hN ?hne d1 d2 d3 hn0 hn1 hn2 hP0 hP1 hc0 hc1 hx0 hx1 ha0 ha1 hb0 hb1 law ?ret; (case ret => exact fun h' tk' m' F' => ret h' tk' m' F'); (case hN => exact lN'); (case hne => exact ⟨by omega, by omega⟩); (case hb => rfl)))
  k_steps
theorem tail_use : ∀ {w : World} {mean : ExcName → Option Value} {mg mb : Str → Option Value} (body st : List Stmt) (scope : Scope) (fa : Addr) (cd : Value) (base h₀ : Heap) (L : Addr) (m : Str → Option Value) (s : Shared) (Q : Flow → Shared → Prop) (E : Value → Shared → Prop)
    (n P c0 xo one two : Int) (ri ro : Bool) (t1 t2 t3 t4 t5 t6 : Tok) (o1 o2 o3 : Obj) (v3 : Option Value)
    (LI : LawIs w body scope) (hb : body.drop 9 = st) (B : Below callerA base [] h₀)
    (F : Fr h₀ L s.heap fun y => if y = Str.ofString "two" then some (.int two t6) else if y = Str.ofString "one" then some (.int one t5) else if y = Str.ofString "turn_out" then some (.bool ro) else if y = Str.ofString "turn_in" then some (.bool ri) else if y = Str.ofString "last" then some (.int xo t4) else if y = Str.ofString "first" then some (.int c0 t3) else m y)
    (X : (hd.heap_39 w.params).In h₀) (T : Top hd.view_39 (looseW hd.view_39 [Str.ofString "Parameters"]) mean mg mb h₀)
    (N : News h₀ L s.heap [(L + 1 + 1 + 1, o3), (L + 1 + 1, o2), (L + 1, o1)])
    (d1 : o1.data = .cell (some (.int n t1))) (d2 : o2.data = .cell (some (.int P t2))) (d3 : o3.data = .cell v3)
    (hn0 : 0 < n) (hn1 : n ≤ 100) (hn2 : HidLe n 7) (hP0 : 0 ≤ P) (hP1 : P < 2 ^ n.toNat) (hc0 : 0 ≤ c0) (hc1 : c0 < 2 ^ n.toNat) (hx0 : 0 ≤ xo) (hx1 : xo < 2 ^ n.toNat)
    (ha0 : 0 < one) (ha1 : one ≤ 5) (hb0 : 0 < two) (hb1 : two ≤ 5)
    (law : LawFacts n P one two)
    (ret : ∀ h' tk' m', Fr h₀ L h' m' → Q (.ret (.bool true)) { s with heap := h', toks := tk' }),
    wpAny (model PySem.Challenge.rw_et5001_01.row.prog w) (callerA.deeper (envOfC (Str.ofString "law") scope L fa cd)) (execs st (envOfC (Str.ofString "law") scope L fa cd)) Q E s := by
  intro w mean mg mb body st scope fa cd base h₀ L m s Q E n P c0 xo one two ri ro t1 t2 t3 t4 t5 t6 o1 o2 o3 v3 LI hb B F X T N d1 d2 d3 hn0 hn1 hn2 hP0 hP1 hc0 hc1 hx0 hx1 ha0 ha1 hb0 hb1 law ret
  subst hb
  exact tail_spec body scope fa cd base h₀ L m s Q E n P c0 xo one two ri ro t1 t2 t3 t4 t5 t6 o1 o2 o3 v3 LI B F X T N d1 d2 d3 hn0 hn1 hn2 hP0 hP1 hc0 hc1 hx0 hx1 ha0 ha1 hb0 hb1 law ret
end Mine
end Part_TL

section Part_PW
open PySem PySem.W PyProof.Rows
namespace Mine

set_option maxRecDepth 100000
set_option maxHeartbeats 4000000 
/-- one step of the register -/
def S (n P x : Nat) : Nat := (2 * x % 2 ^ n) ^^^ (if x / 2 ^ (n - 1) % 2 = 1 then P else 0)
def Sit (n P : Nat) : Nat → Nat → Nat
  | 0, x => x
  | k + 1, x => S n P (Sit n P k x)
def ckF (N : Nat) : Bool := (List.range (2 ^ N)).all fun p => (List.range 11).all fun w => (List.range N).all fun i => crcN N w p (2 ^ i) 0 == Sit N p w (2 ^ i)
def ckG (N : Nat) : Bool := (List.range (2 ^ N)).all fun p => (List.range 11).all fun w => (List.range w).all fun i => crcN N w p 0 (2 ^ i) == Sit N p i p
theorem ckF1 : ckF 1 = true := by decide +kernel
theorem ckF2 : ckF 2 = true := by decide +kernel
theorem ckF3 : ckF 3 = true := by decide +kernel
theorem ckF4 : ckF 4 = true := by decide +kernel
theorem ckF5 : ckF 5 = true := by decide +kernel
theorem ckF6 : ckF 6 = true := by decide +kernel
theorem ckF7 : ckF 7 = true := by decide +kernel
theorem ckG1 : ckG 1 = true := by decide +kernel
theorem ckG2 : ckG 2 = true := by decide +kernel
theorem ckG3 : ckG 3 = true := by decide +kernel
theorem ckG4 : ckG 4 = true := by decide +kernel
theorem ckG5 : ckG 5 = true := by decide +kernel
theorem ckG6 : ckG 6 = true := by decide +kernel
theorem ckG7 : ckG 7 = true := by decide +kernel
def rbN (b x : Nat) : Bool := x / 2 ^ b % 2 == 1
def rstepN (b : Nat) (st : List Nat × Nat) : List Nat × Nat :=
  match st.1.filter (rbN b) with
  | [] => st
  | f :: _ => ((st.1.erase f).map (fun x => if rbN b x then x ^^^ f else x), st.2 + 1)
def rrunN (nums : List Nat) : Nat → List Nat × Nat
  | 0 => (nums, 0)
  | b + 1 => rstepN b (rrunN nums b)
def ckR (N : Nat) : Bool := (List.range (2 ^ N)).all fun p => (List.range 5).all fun a => ((rrunN ((List.range N).map fun i => Sit N p (a + 1) (2 ^ i)) N).2 == N) == (p % 2 == 1)
theorem ckR1 : ckR 1 = true := by decide +kernel
theorem ckR2 : ckR 2 = true := by decide +kernel
theorem ckR3 : ckR 3 = true := by decide +kernel
theorem ckR4 : ckR 4 = true := by decide +kernel
theorem ckR5 : ckR 5 = true := by decide +kernel
theorem ckR6 : ckR 6 = true := by decide +kernel
theorem ckR7 : ckR 7 = true := by decide +kernel
end Mine
end Part_PW

section Part_PW2
open PySem PySem.W PyProof.Rows
namespace Mine

set_option maxRecDepth 100000
set_option maxHeartbeats 4000000 
theorem bit_of (x i : Nat) : x.testBit i = decide (x / 2 ^ i % 2 = 1) := Nat.testBit_eq_decide_div_mod_eq
theorem bit_nat (x i : Nat) : x / 2 ^ i % 2 = (x.testBit i).toNat := by
  rw [bit_of]
  rcases Nat.mod_two_eq_zero_or_one (x / 2 ^ i) with h | h <;> simp [h]
theorem S_eq (n P x : Nat) : S n P x = (2 * x % 2 ^ n) ^^^ (if x.testBit (n - 1) = true then P else 0) := by
  unfold S; rw [bit_of]; simp
theorem dbl_xor (n x y : Nat) : 2 * (x ^^^ y) % 2 ^ n = (2 * x % 2 ^ n) ^^^ (2 * y % 2 ^ n) := by
  apply Nat.eq_of_testBit_eq
  intro i
  rw [Nat.testBit_xor, Nat.testBit_mod_two_pow, Nat.testBit_mod_two_pow, Nat.testBit_mod_two_pow]
  cases i with
  | zero => simp
  | succ i =>
    have e : ∀ z, (2 * z).testBit (i + 1) = z.testBit i := fun z => by rw [Nat.testBit_succ, Nat.mul_div_cancel_left z (by decide)]
    rw [e, e, e, Nat.testBit_xor]
    cases decide (i + 1 < n) <;> simp
theorem S_xor (n P x y : Nat) : S n P (x ^^^ y) = S n P x ^^^ S n P y := by
  rw [S_eq, S_eq, S_eq, dbl_xor, Nat.testBit_xor]
  have ac : ∀ a b c d : Nat, (a ^^^ b) ^^^ (c ^^^ d) = (a ^^^ c) ^^^ (b ^^^ d) := fun a b c d => by
    rw [Nat.xor_assoc, ← Nat.xor_assoc b c d, Nat.xor_comm b c, Nat.xor_assoc c b d, ← Nat.xor_assoc]
  rw [ac (2 * x % 2 ^ n)]
  congr 1
  cases x.testBit (n - 1) <;> cases y.testBit (n - 1) <;> simp
theorem S_zero (n P : Nat) : S n P 0 = 0 := by simp [S]
theorem Sit_xor (n P x y : Nat) : ∀ k, Sit n P k (x ^^^ y) = Sit n P k x ^^^ Sit n P k y
  | 0 => rfl
  | k + 1 => by show S n P _ = S n P _ ^^^ S n P _; rw [Sit_xor n P x y k, S_xor]
theorem Sit_zero (n P : Nat) : ∀ k, Sit n P k 0 = 0
  | 0 => rfl
  | k + 1 => by show S n P _ = 0; rw [Sit_zero n P k, S_zero]
theorem Sit_add (n P a x : Nat) : ∀ b, Sit n P (a + b) x = Sit n P b (Sit n P a x)
  | 0 => rfl
  | b + 1 => by show S n P (Sit n P (a + b) x) = S n P _; rw [Sit_add n P a x b]
theorem S_lt {n P x : Nat} (hP : P < 2 ^ n) : S n P x < 2 ^ n := by
  unfold S
  refine Nat.xor_lt_two_pow (Nat.mod_lt _ (Nat.two_pow_pos n)) ?_
  split
  · exact hP
  · exact Nat.two_pow_pos n
theorem Sit_lt {n P x : Nat} (hP : P < 2 ^ n) (hx : x < 2 ^ n) : ∀ k, Sit n P k x < 2 ^ n
  | 0 => hx
  | _ + 1 => S_lt hP
theorem bits_get {n w i : Nat} (hi : i < n) : (bitsI n w).getD i 0 = ((w / 2 ^ i % 2 : Nat) : Int) := by
  unfold bitsI
  rw [List.getD_eq_getElem?_getD, List.getElem?_map, List.getElem?_range hi]; rfl
theorem bits_xor (n x y : Nat) : bitsI n (x ^^^ y) = List.zipWith Builtin.bitXor (bitsI n x) (bitsI n y) := by
  unfold bitsI
  apply List.ext_getElem?
  intro i
  rw [List.getElem?_zipWith, List.getElem?_map, List.getElem?_map, List.getElem?_map]
  by_cases hi : i < n
  · rw [List.getElem?_range hi]
    show some _ = some _
    rw [xor_nat]
    congr 1
    show (((x ^^^ y) / 2 ^ i % 2 : Nat) : Int) = _
    rw [bit_nat, bit_nat, bit_nat, Nat.testBit_xor]
    cases x.testBit i <;> cases y.testBit i <;> rfl
  · rw [List.getElem?_eq_none (by simpa using hi)]; rfl
theorem bits_zero (n : Nat) : bitsI n 0 = List.replicate n 0 := by
  unfold bitsI
  apply List.ext_getElem
  · simp
  · intro i h1 h2; simp
theorem mod_step (r i : Nat) : r % 2 ^ (i + 1) = (r % 2 ^ i) ^^^ (if r.testBit i = true then 2 ^ i else 0) := by
  apply Nat.eq_of_testBit_eq
  intro j
  rw [Nat.testBit_xor, Nat.testBit_mod_two_pow, Nat.testBit_mod_two_pow]
  by_cases hb : r.testBit i = true
  · rw [if_pos hb, Nat.testBit_two_pow]
    by_cases h : j < i
    · have h1 : j < i + 1 := by omega
      have h2 : ¬ i = j := by omega
      simp [h, h1, h2]
    · by_cases h3 : i = j
      · subst h3; simp [hb]
      · have h1 : ¬ j < i + 1 := by omega
        simp [h, h1, h3]
  · rw [if_neg hb]
    by_cases h : j < i
    · have h1 : j < i + 1 := by omega
      simp [h, h1]
    · by_cases h3 : i = j
      · subst h3; simp at hb; simp [hb]
      · have h1 : ¬ j < i + 1 := by omega
        simp [h, h1]
theorem FM_get {n dw P i : Nat} (hi : i < n) : (FM n dw P).getD i [] = bitsI n (crcN n dw P (2 ^ i) 0) := by
  unfold FM
  rw [List.getD_eq_getElem?_getD, List.getElem?_map, List.getElem?_range hi]; rfl
theorem apply_law {n b P r : Nat} (hF : ∀ i, i < n → crcN n b P (2 ^ i) 0 = Sit n P b (2 ^ i)) :
    ∀ i, i ≤ n → applyF (FM n b P) (bitsI n r) (List.replicate n 0) i = bitsI n (Sit n P b (r % 2 ^ i))
  | 0, _ => by
    show List.replicate n 0 = _
    rw [Nat.pow_zero, Nat.mod_one, Sit_zero, bits_zero]
  | i + 1, h => by
    have hi : i < n := h
    unfold applyF
    rw [apply_law hF i (by omega), FM_get hi, hF i hi, bits_get hi, mod_step, bit_nat]
    by_cases hb : r.testBit i = true
    · rw [hb, if_pos rfl, Sit_xor, bits_xor]; rfl
    · have hb' : r.testBit i = false := by simpa using hb
      rw [hb', if_neg (by decide), if_neg (by decide), Nat.xor_zero]
theorem apply_full {n b P r : Nat} (hF : ∀ i, i < n → crcN n b P (2 ^ i) 0 = Sit n P b (2 ^ i)) (hr : r < 2 ^ n) :
    applyF (FM n b P) (bitsI n r) (List.replicate n 0) n = bitsI n (Sit n P b r) := by
  rw [apply_law hF n (Nat.le_refl _), Nat.mod_eq_of_lt hr]
theorem num_bits {n x : Nat} (hx : x < 2 ^ n) : numI (bitsI n x) = (x : Int) := by
  have key : ∀ k, k ≤ n → ((List.range k).map fun (i : Nat) => (bitsI n x).getD i 0 * 2 ^ ((i : Int)).toNat).sum = ((x % 2 ^ k : Nat) : Int) := by
    intro k
    induction k with
    | zero => intro _; simp [Nat.mod_one]
    | succ k ih =>
      intro hk
      rw [List.range_succ, List.map_append, List.sum_append, ih (by omega), List.map_singleton, List.sum_singleton, bits_get (by omega), Nat.mod_pow_succ, Int.toNat_natCast]
      push_cast
      rw [Int.mul_comm]
  have hl : (bitsI n x).length = n := by unfold bitsI; simp
  unfold numI
  rw [hl, key n (Nat.le_refl _), Nat.mod_eq_of_lt hx]

theorem ckF_all {N : Nat} (h0 : 0 < N) (h7 : N ≤ 7) : ckF N = true := by
  have h : N = 1 ∨ N = 2 ∨ N = 3 ∨ N = 4 ∨ N = 5 ∨ N = 6 ∨ N = 7 := by omega
  rcases h with rfl | rfl | rfl | rfl | rfl | rfl | rfl
  · exact ckF1
  · exact ckF2
  · exact ckF3
  · exact ckF4
  · exact ckF5
  · exact ckF6
  · exact ckF7
theorem ckG_all {N : Nat} (h0 : 0 < N) (h7 : N ≤ 7) : ckG N = true := by
  have h : N = 1 ∨ N = 2 ∨ N = 3 ∨ N = 4 ∨ N = 5 ∨ N = 6 ∨ N = 7 := by omega
  rcases h with rfl | rfl | rfl | rfl | rfl | rfl | rfl
  · exact ckG1
  · exact ckG2
  · exact ckG3
  · exact ckG4
  · exact ckG5
  · exact ckG6
  · exact ckG7
theorem ckR_all {N : Nat} (h0 : 0 < N) (h7 : N ≤ 7) : ckR N = true := by
  have h : N = 1 ∨ N = 2 ∨ N = 3 ∨ N = 4 ∨ N = 5 ∨ N = 6 ∨ N = 7 := by omega
  rcases h with rfl | rfl | rfl | rfl | rfl | rfl | rfl
  · exact ckR1
  · exact ckR2
  · exact ckR3
  · exact ckR4
  · exact ckR5
  · exact ckR6
  · exact ckR7
theorem factF {N p w i : Nat} (h0 : 0 < N) (h7 : N ≤ 7) (hp : p < 2 ^ N) (hw : w < 11) (hi : i < N) : crcN N w p (2 ^ i) 0 = Sit N p w (2 ^ i) := by
  have h := ckF_all h0 h7
  unfold ckF at h
  have h1 := List.all_eq_true.mp h p (List.mem_range.mpr hp)
  have h2 := List.all_eq_true.mp h1 w (List.mem_range.mpr hw)
  have h3 := List.all_eq_true.mp h2 i (List.mem_range.mpr hi)
  exact beq_iff_eq.mp h3
theorem factG {N p w i : Nat} (h0 : 0 < N) (h7 : N ≤ 7) (hp : p < 2 ^ N) (hw : w < 11) (hi : i < w) : crcN N w p 0 (2 ^ i) = Sit N p i p := by
  have h := ckG_all h0 h7
  unfold ckG at h
  have h1 := List.all_eq_true.mp h p (List.mem_range.mpr hp)
  have h2 := List.all_eq_true.mp h1 w (List.mem_range.mpr hw)
  have h3 := List.all_eq_true.mp h2 i (List.mem_range.mpr hi)
  exact beq_iff_eq.mp h3
theorem factR {N p a : Nat} (h0 : 0 < N) (h7 : N ≤ 7) (hp : p < 2 ^ N) (ha0 : 0 < a) (ha : a ≤ 5) : (rrunN ((List.range N).map fun i => Sit N p a (2 ^ i)) N).2 = N ↔ p % 2 = 1 := by
  have h := ckR_all h0 h7
  unfold ckR at h
  have h1 := List.all_eq_true.mp h p (List.mem_range.mpr hp)
  have h2 := List.all_eq_true.mp h1 (a - 1) (List.mem_range.mpr (by omega))
  have e : a - 1 + 1 = a := by omega
  rw [e] at h2
  have h3 := beq_iff_eq.mp h2
  rw [Bool.eq_iff_iff, beq_iff_eq, beq_iff_eq] at h3
  exact h3
theorem rb_cast (b x : Nat) : rb ((b : Nat) : Int) ((x : Nat) : Int) = rbN b x := by
  unfold rb rbN
  have e : ((x : Nat) : Int).fdiv (2 ^ ((b : Nat) : Int).toNat) = ((x / 2 ^ b : Nat) : Int) := by
    rw [Int.toNat_natCast, Int.fdiv_eq_ediv_of_nonneg _ (Int.le_of_lt (Int.pow_pos (by decide)))]
    push_cast; rfl
  rw [e, show (1 : Int) = ((1 : Nat) : Int) from rfl, and_nat, Nat.and_one_is_mod]
  rcases Nat.mod_two_eq_zero_or_one (x / 2 ^ b) with h | h <;> rw [h] <;> decide
theorem erase_cast (f : Nat) : ∀ l : List Nat, (l.map fun (x : Nat) => (x : Int)).erase (f : Int) = (l.erase f).map fun (x : Nat) => (x : Int)
  | [] => rfl
  | a :: l => by
    rw [List.map_cons]
    by_cases h : a = f
    · subst h; simp
    · have h' : ¬ ((a : Nat) : Int) = (f : Int) := by omega
      rw [List.erase_cons_tail (by simpa using h'), List.erase_cons_tail (by simpa using h), erase_cast f l]; rfl
theorem filter_cast (b : Nat) : ∀ l : List Nat, (l.map fun (x : Nat) => (x : Int)).filter (rb ((b : Nat) : Int)) = (l.filter (rbN b)).map fun (x : Nat) => (x : Int)
  | [] => rfl
  | a :: l => by
    rw [List.map_cons, List.filter_cons, List.filter_cons, rb_cast, filter_cast b l]
    cases rbN b a <;> simp
theorem rstep_cast (b : Nat) (st : List Nat × Nat) : rstep ((b : Nat) : Int) (st.1.map (fun (x : Nat) => (x : Int)), (st.2 : Int)) = ((rstepN b st).1.map (fun (x : Nat) => (x : Int)), ((rstepN b st).2 : Int)) := by
  cases e : st.1.filter (rbN b) with
  | nil =>
    rw [rstep_nil (by rw [filter_cast, e]; rfl)]
    unfold rstepN; rw [e]
  | cons f r =>
    rw [rstep_cons (f := (f : Int)) (r := r.map fun (x : Nat) => (x : Int)) (by rw [filter_cast, e]; rfl)]
    unfold rstepN; rw [e]
    dsimp only
    rw [erase_cast, List.map_map, List.map_map]
    refine Prod.ext ?_ (by push_cast; rfl)
    apply List.map_congr_left
    intro x _
    show (if rb _ ((x : Nat) : Int) = true then _ else _) = _
    rw [rb_cast, xor_nat]
    show _ = (((if rbN b x = true then x ^^^ f else x : Nat)) : Int)
    cases rbN b x <;> simp
theorem rrun_cast (l : List Nat) : ∀ i, rrun (l.map fun (x : Nat) => (x : Int)) i = ((rrunN l i).1.map (fun (x : Nat) => (x : Int)), ((rrunN l i).2 : Int))
  | 0 => rfl
  | i + 1 => by
    show rstep _ (rrun _ i) = _
    rw [rrun_cast l i, rstep_cast]; rfl
theorem low_law (N p : Nat) : lowI (N : Int) (p : Int) = bitsI N p := by
  unfold lowI bitsI
  rw [Int.toNat_natCast]
  apply List.map_congr_left
  intro i _
  have e : ((p : Nat) : Int).fdiv (2 ^ ((i : Nat) : Int).toNat) = ((p / 2 ^ i : Nat) : Int) := by
    rw [Int.toNat_natCast, Int.fdiv_eq_ediv_of_nonneg _ (Int.le_of_lt (Int.pow_pos (by decide)))]
    push_cast; rfl
  rw [e, show (1 : Int) = ((1 : Nat) : Int) from rfl, and_nat, Nat.and_one_is_mod]
theorem due_law (N r : Nat) : dueRow (N : Int) (r : Int) = bitsI N (2 ^ (r + 1)) := by
  unfold dueRow bitsI
  rw [Int.toNat_natCast]
  apply List.map_congr_left
  intro i _
  rw [bit_nat, Nat.testBit_two_pow]
  by_cases h : r + 1 = i
  · have h' : ((i : Nat) : Int) = (r : Int) + 1 := by omega
    simp [h, h']
  · have h' : ¬ ((i : Nat) : Int) = (r : Int) + 1 := by omega
    simp [h, h']
theorem S_pow {N p i : Nat} (hi : i + 1 < N) : S N p (2 ^ i) = 2 ^ (i + 1) := by
  rw [S_eq, Nat.testBit_two_pow, if_neg (by simp; omega), Nat.xor_zero, Nat.mod_eq_of_lt]
  · rw [Nat.pow_succ, Nat.mul_comm]
  · rw [Nat.mul_comm, ← Nat.pow_succ]; exact Nat.pow_lt_pow_right (by decide) hi
theorem S_top {N p : Nat} (hN : 0 < N) : S N p (2 ^ (N - 1)) = p := by
  rw [S_eq, Nat.testBit_two_pow, if_pos (by simp)]
  have e : 2 * 2 ^ (N - 1) = 2 ^ N := by rw [Nat.mul_comm, ← Nat.pow_succ]; congr 1; omega
  rw [e, Nat.mod_self, Nat.zero_xor]
theorem law_facts {n P one two : Int} (hn0 : 0 < n) (hn7 : n ≤ 7) (hP0 : 0 ≤ P) (hP1 : P < 2 ^ n.toNat) (ha0 : 0 < one) (ha1 : one ≤ 5) (hb0 : 0 < two) (hb1 : two ≤ 5) : LawFacts n P one two := by
  obtain ⟨N, rfl⟩ := Int.eq_ofNat_of_zero_le (Int.le_of_lt hn0)
  obtain ⟨p, rfl⟩ := Int.eq_ofNat_of_zero_le hP0
  obtain ⟨a, rfl⟩ := Int.eq_ofNat_of_zero_le (Int.le_of_lt ha0)
  obtain ⟨b, rfl⟩ := Int.eq_ofNat_of_zero_le (Int.le_of_lt hb0)
  have h0 : 0 < N := by omega
  have h7 : N ≤ 7 := by omega
  have hp : p < 2 ^ N := by
    rw [Int.toNat_natCast] at hP1
    exact_mod_cast hP1
  have eab : (((a : Nat) : Int) + ((b : Nat) : Int)).toNat = a + b := by omega
  have F : ∀ w, w < 11 → FM N w p = (List.range N).map fun i => bitsI N (Sit N p w (2 ^ i)) := fun w hw => by
    unfold FM
    apply List.map_congr_left
    intro i hi
    rw [factF h0 h7 hp hw (List.mem_range.mp hi)]
  have G : ∀ w, w < 11 → GM N w p = (List.range w).map fun i => bitsI N (Sit N p i p) := fun w hw => by
    unfold GM
    apply List.map_congr_left
    intro i hi
    rw [factG h0 h7 hp hw (List.mem_range.mp hi)]
  have pl : ∀ i, i < N → 2 ^ i < 2 ^ N := fun i hi => Nat.pow_lt_pow_right (by decide) hi
  refine ⟨?_, ?_, ?_, ?_, ?_⟩
  · rw [Int.toNat_natCast, Int.toNat_natCast, F 1 (by decide), low_law]
    unfold dueI
    have e1 : (((N : Nat) : Int) - 1).toNat = N - 1 := by omega
    rw [e1]
    obtain ⟨M, rfl⟩ : ∃ M, N = M + 1 := ⟨N - 1, by omega⟩
    rw [List.range_succ, List.map_append, Nat.add_sub_cancel]
    congr 1
    · apply List.map_congr_left
      intro i hi
      rw [due_law]
      congr 1
      exact S_pow (by have := List.mem_range.mp hi; omega)
    · show [bitsI (M + 1) (S (M + 1) p (2 ^ M))] = _
      congr 2
      exact S_top (N := M + 1) (by omega)
  · rw [Int.toNat_natCast, Int.toNat_natCast, G 1 (by decide), low_law]; rfl
  · rw [eab]
    simp only [Int.toNat_natCast]
    rw [F (a + b) (by omega), F a (by omega), List.map_map]
    apply List.map_congr_left
    intro i hi
    have hi' := List.mem_range.mp hi
    show _ = applyF (FM N b p) (bitsI N (Sit N p a (2 ^ i))) (List.replicate N 0) N
    rw [apply_full (fun i hi => factF h0 h7 hp (by omega) hi) (Sit_lt hp (pl i hi') a), Sit_add]
  · rw [eab]
    simp only [Int.toNat_natCast]
    rw [G (a + b) (by omega), G a (by omega), G b (by omega), Nat.add_comm a b, List.range_add, List.map_append, List.map_map, List.map_map]
    congr 1
    apply List.map_congr_left
    intro i hi
    show bitsI N (Sit N p (b + i) p) = applyF (FM N b p) (bitsI N (Sit N p i p)) (List.replicate N 0) N
    rw [apply_full (fun i hi => factF h0 h7 hp (by omega) hi) (Sit_lt hp hp i), Nat.add_comm b i, Sit_add]
  · simp only [Int.toNat_natCast]
    have e : (FM N a p).map numI = ((List.range N).map fun i => Sit N p a (2 ^ i)).map fun (x : Nat) => (x : Int) := by
      rw [F a (by omega), List.map_map, List.map_map]
      apply List.map_congr_left
      intro i hi
      exact num_bits (Sit_lt hp (pl i (List.mem_range.mp hi)) a)
    rw [e, rrun_cast]
    dsimp only
    have z := factR h0 h7 hp (a := a) (by omega) (by omega)
    have m : ((p : Nat) : Int).fmod 2 = ((p % 2 : Nat) : Int) := by
      rw [Int.fmod_eq_emod_of_nonneg _ (by decide)]; push_cast; rfl
    rw [m]
    constructor
    · intro h; have := z.mp (by exact_mod_cast h); omega
    · intro h; have := z.mpr (by omega); omega
end Mine
end Part_PW2

section Part_MN
open PySem PySem.W PyProof.Rows
namespace Mine
local macro_rules | `(tactic| walk_at "m_pad_0") => `(tactic| fail)
local macro_rules | `(tactic| walk_at "m_pad_1") => `(tactic| fail)
local macro_rules | `(tactic| walk_at "m_pad_2") => `(tactic| fail)
local macro_rules | `(tactic| walk_at "m_pad_3") => `(tactic| fail)
local macro_rules | `(tactic| walk_at "m_pad_4") => `(tactic| fail)
local macro_rules | `(tactic| walk_at "m_pad_5") => `(tactic| fail)
local macro_rules | `(tactic| walk_at "m_pad_6") => `(tactic| fail)
local macro_rules | `(tactic| walk_at "m_pad_7") => `(tactic| fail)
local macro_rules | `(tactic| walk_at "m_pad_8") => `(tactic| fail)
local macro_rules | `(tactic| walk_at "m_pad_9") => `(tactic| fail)
local macro_rules | `(tactic| walk_at "m_pad_10") => `(tactic| fail)
local macro_rules | `(tactic| walk_at "m_pad_11") => `(tactic| fail)
local macro_rules | `(tactic| walk_at "m_pad_12") => `(tactic| fail)
local macro_rules | `(tactic| walk_at "m_pad_13") => `(tactic| fail)
local macro_rules | `(tactic| walk_at "m_pad_14") => `(tactic| fail)
local macro_rules | `(tactic| walk_at "m_pad_15") => `(tactic| fail)
local macro_rules | `(tactic| walk_at "m_pad_16") => `(tactic| fail)
local macro_rules | `(tactic| walk_at "m_pad_17") => `(tactic| fail)
set_option maxRecDepth 100000
set_option maxHeartbeats 2000000 

def OffAdr (b : Addr) : List Addr → Prop
  | [] => True
  | x :: l => (@Ne Nat x b) ∧ OffAdr b l
theorem OffAdr.mem {b : Addr} : ∀ {l : List Addr}, OffAdr b l → ∀ x ∈ l, x ≠ b
  | [], _, _, h => nomatch h
  | _ :: _, h, x, hx => by
    rcases List.mem_cons.mp hx with rfl | hx
    · exact h.1
    · exact OffAdr.mem h.2 x hx
theorem pow_ok {r : Int} (_h0 : 0 ≤ r) (h1 : r < 7) : (0 : Int) < 1 * 2 ^ (1 + r).toNat ∧ (1 : Int) * 2 ^ (1 + r).toNat < 1000 := by
  obtain ⟨n, hn⟩ : ∃ n : Nat, (1 + r).toNat = n := ⟨_, rfl⟩
  rw [hn]
  have : n ≤ 7 := by omega
  rcases n with _ | _ | _ | _ | _ | _ | _ | _ | n <;> first | decide | omega
theorem draw_use {w : World} {mean : ExcName → Option Value} {mg mb : Str → Option Value}
    {dp un : Nat} {gd : Option (List Code)} {cn : Str} {cs : Scope} {a : Addr} {ccd : Value} {cl : List (Str × Addr)} {outer : List Env} {A₀ : Around} {base h₀ : Heap} {L : Addr} {m : Str → Option Value} {s : Shared} {Q E : Value → Shared → Prop}
    {b l : Addr} {vs : List Value} {ns : List Int} {k sd : Int} {t1 t2 : Tok} {n n2 : Nat} {news r1 rest : List (Addr × Obj)} {many : Int} {tm : Tok}
    (B : Below A₀ base outer h₀) (F : Fr h₀ L s.heap m) (X : (hd.heap_39 w.params).In h₀)
    (N : News h₀ L s.heap news)
    (T : Top hd.view_39 (looseW hd.view_39 [Str.ofString "Parameters"]) mean mg mb h₀) (hk : cs.kind = .function)
    (p1 : Pick (b, listOf #[.ref l, .int k t1, .int sd t2] n) news r1) (p2 : Pick (l, listOf vs.toArray n2) r1 rest)
    (hoff : OffAdr b (rest.map (·.1))) (hbl : l ≠ b)
    (hI : IntsAre vs ns) (hlen : ns.length ≤ 12) (hk0 : 0 ≤ k) (hk1 : k < 100) (hs0 : 0 ≤ sd) (hs1 : sd < 1009) (hm : 0 < many) (hm2 : many < 1000)
    (hd : dp + 1 < recursionLimit) (hu : un + 8 < cLine)
    (ret : ∀ (r : Int) (t : Tok) (sd' : Int) (t1' t2' : Tok) (n' : Nat) (h' : Heap) (tk' : Nat), 0 ≤ r → r < many → 0 ≤ sd' → sd' < 1009 → Fr h₀ L h' m →
      News h₀ L h' ((b, listOf #[.ref l, .int (k + 1) t1', .int sd' t2'] n') :: (l, listOf vs.toArray n2) :: rest) → Q (.int r t) { s with heap := h', toks := tk' }) :
    wpAny (model PySem.Challenge.rw_et5001_01.row.prog w) (ktrTop dp un gd cn cs L a ccd cl outer) (call (.ref 148) [.ref b, .int many tm]) Q E s := by
  refine draw_spec _ _ _ _ _ _ _ _ _ _ _ _ _ _ _ _ _ b l vs ns k sd t1 t2 n n2 rest many tm B F X (fun p hp => N p ?_) T hk (fun p hp b' hb => ?_) hbl hI hlen hk0 hk1 hs0 hs1 hm hm2 hd hu ret
  · rcases List.mem_cons.mp hp with rfl | hp
    · exact p1.mem _ List.mem_cons_self
    · exact p1.mem _ (List.mem_cons_of_mem _ (p2.mem _ hp))
  · rw [List.mem_singleton.mp hb]; exact hoff.mem _ (List.mem_map.mpr ⟨p, hp, rfl⟩)

local macro_rules | `(tactic| walk_at "m_pick") => `(tactic| first | exact Pick.head | (apply Pick.tail; walk_at "m_pick"))
local macro_rules | `(tactic| walk_at "m_off") => `(tactic| first | assumption | exact True.intro | (refine And.intro ?ma ?mb; (case ma => ((try dsimp only); omega)); (case mb => walk_at "m_off")))
local macro_rules | `(tactic| walk_at "call ref") => `(tactic| (k_here; k_dflt (
  refine' draw_use ?k1 ?k2 ?k3 ?k4 ?k5 ?kK ?p1 ?p2 ?o1 ?o2 ?kI ?kL ?a1 ?a2 ?a3 ?a4 ?a5 ?a6 ?kd ?ku ?_
  (case k1 => k_asm)
  (case k2 => k_asm)
  (case k3 => k_asm)
  (case k4 => k_asm)
  (case k5 => k_asm)
  (case kK => first | exact rfl | assumption)
  (case p1 => walk_at "m_pick")
  (case p2 => walk_at "m_pick")
  (case o1 => walk_at "m_off")
  (case o2 => first | assumption | (refine neN ?_; omega))
  (case kI => l_ints)
  (case kL => l_fact)
  (case a1 => omega)
  (case a2 => omega)
  (case a3 => first | assumption | l_fact)
  (case a4 => first | assumption | l_fact)
  (case a5 => first | decide | exact (pow_ok (by assumption) (by assumption)).1)
  (case a6 => first | decide | exact (pow_ok (by assumption) (by assumption)).2)
  (case kd => ktr_room)
  (case ku => ktr_units)
  intro r9 t9 sd9 t19 t29 n9 h9 tk9 hr0 hr1 hs0 hs1 F9 N9
  (try dsimp only)
  (try k_sweep)
  (try k_fold))))

local macro_rules | `(tactic| walk_at "call builtin:_operator.index") => `(tactic| (k_here; k_dflt (refine op_index ?_)))
local macro_rules | `(tactic| walk_at "compareOp NotIn int ref") => `(tactic| (k_here; k_dflt (refine notIn_range (by assumption) (by first | assumption | decide) (by first | assumption | (rw [← Int.one_mul (2 ^ _)]; assumption) | (exact (pow_ok (by assumption) (by assumption)).1)) ?_)))
theorem lt_eq {a b c : Int} (h : a < b) (e : b = c) : a < c := e ▸ h
theorem drop4 {h₀ h : Heap} {L : Addr} {a b c d : Addr × Obj} {l : List (Addr × Obj)} (N : News h₀ L h (a :: b :: c :: d :: l)) : News h₀ L h l := fun p hp => N p (.tail _ (.tail _ (.tail _ (.tail _ hp))))
local macro_rules | `(tactic| walk_at "execs cons") => `(tactic| k_extra "MYCUT")
local macro_rules | `(tactic| walk_at "execs cons") => `(tactic| k_extra "MYCUT")
theorem holds : PySem.Challenge.rw_et5001_01.Holds := hd (by
  w_on
  w_top off
  k_with_none
  k_go0; (all_goals try k_fold)
  k_with "MYCUT" => ((try dsimp only); (with_reducible show wpAny _ _ (execs (Stmt.Assign [Expr.Name (Str.ofString "algorithm") _] _ _ :: _) _) _ _ _); (rename News _ _ _ _ => lN'); (rename Fr _ _ _ _ => lF'); k_dflt (refine' tail_use _ _ _ _ _ _ _ _ _ _ _ _ _ _ _ _ _ _ _ _ _ _ _ _ _ _ _ _ _ _ ?LI ?hb ?B lF' ?X ?T (drop4 lN') ?d1 ?d2 ?d3 ?hn0 ?hn1 ?hn2 ?hP0 ?hP1 ?hc0 ?hc1 ?hx0 ?hx1 ?ha0 ?ha1 ?hb0 ?hb1 ?law ?_; (case LI => with_unfolding_all exact rfl); (case hb => rfl); (case B => assumption); (case X => assumption); (case T => assumption); (case d1 => assumption); (case d2 => assumption); (case d3 => assumption); (case hn0 => omega); (case hn1 => omega); (case hn2 => (show _ ≤ _; omega)); (case hP0 => omega); (case hP1 => exact lt_eq (by assumption) (Int.one_mul _)); (case hc0 => omega); (case hc1 => exact lt_eq (by assumption) (Int.one_mul _)); (case hx0 => omega); (case hx1 => exact lt_eq (by assumption) (Int.one_mul _)); (case ha0 => omega); (case ha1 => omega); (case hb0 => omega); (case hb1 => omega); (case law => exact law_facts (by omega) (by omega) (by omega) (lt_eq (by assumption) (Int.one_mul _)) (by omega) (by omega) (by omega) (by omega)); intro h' tk' m' F'; clear lF' lN'))
  k_steps)
end Mine
end Part_MN

set_option maxRecDepth 100000 in
set_option maxHeartbeats 8000000 in
theorem PySem.Challenge.cw_et5001_01_holds : PySem.Challenge.rw_et5001_01.Holds := by
  exact Mine.holds
