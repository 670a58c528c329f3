import PyProof.Rows.All
import Wide.All
import OpenK.AllK
import Wide.FinOn
import KE.KSuper
import KE.RegKSuper
import PySem.Challenge.RW_xp0011_01
section
open PySem PySem.W PySem.Calls PyProof.Rows
set_option Elab.async false
set_option maxRecDepth 100000
set_option linter.unusedVariables false
namespace Mine

/-! `bytearray(n)` looks through the whole stack for a decoder that holds its buffer. The logic of
`wpAny` says nothing of decoders on the stack: so a logic beside it, that knows of none. -/

def cleanCode : Code → Bool
  | .builtin id _ => !(PySem.Builtin.Bytes.decodersThatHold.contains id)
  | _ => true
def clean (st : List (Code × Pos)) : Bool := st.all fun x => cleanCode x.1
theorem clean_cons {c : Code} {p : Pos} {l : List (Code × Pos)} (a : cleanCode c = true) (b : clean l = true) : clean ((c, p) :: l) = true := by
  show (cleanCode c && clean l) = true
  rw [a, b]; rfl
theorem clean_parts {c : Code} {p : Pos} {l : List (Code × Pos)} (h : clean ((c, p) :: l) = true) : cleanCode c = true ∧ clean l = true :=
  Bool.and_eq_true_iff.mp (show (cleanCode c && clean l) = true from h)

/-- The call where the stack is clean, and True where it is not (which never comes about). -/
def runC (f : Value) (vs : List Value) : Sem Value := .stack fun st => match clean st with
  | true => PySem.call f vs
  | false => .pure (.bool true)
def treeC (name : Str) (vs : List Value) : Sem Fin := .stack fun st => match clean st with
  | true => (callStub name vs).cur
  | false => .pure (.done (.ret (.bool true)))

theorem treeC_step {p : Program} {w : World} {s : Shared} {name : Str} {vs : List Value} (z : s.asleep) :
    sstep (denote table) p w (.single s ⟨treeC name vs, .builtin "claim.caller" {}, default, []⟩) = .go (.single s (callStub name vs)) := by
  have h : step (denote table) p w s ⟨treeC name vs, .builtin "claim.caller" {}, default, []⟩ = .go s (callStub name vs) := by
    unfold treeC callStub
    rfl
  rcases sstep_single (den := denote table) (prog := p) (w := w) s ⟨treeC name vs, .builtin "claim.caller" {}, default, []⟩ rfl z with e | e
  · rw [e, h]; rfl
  · rw [h] at e; cases e

theorem unclean {c : ClaimW} {name : Str} {defs keeps : List Str} {writes : Bool}
    (h : c.HoldsOpenBy (fun vs => ⟨treeC name vs, .builtin "claim.caller" {}, default, []⟩) defs keeps writes) : c.HoldsOpenBy (callStub name) defs keeps writes := by
  obtain ⟨h1, h2, h3⟩ := h
  refine ⟨h1, h2, fun w => ⟨(h3 w).1, fun s hs => ?_⟩⟩
  obtain ⟨s₀, f0, g0, s₁, T, d, r1, r2, k⟩ := (h3 w).2 s hs
  have z : s₁.asleep := Shared.asleep_of_life T.2.1 (Shared.asleep_of_life (fence_lifeW f0) (AfterImport.life hs))
  refine ⟨s₀, f0, g0, s₁, T, d, r1, r2, fun args p l ord o => ?_⟩
  obtain ⟨vs, s₂, e, n, out, s', run, rest⟩ := k args p l ord o
  refine ⟨vs, s₂, e, n - 1, out, s', ?_, rest⟩
  have z2 : s₂.asleep := Shared.asleep_of_life (layAllW_rest _ _ _ e).2.2.2 z
  cases n with
  | zero => cases run
  | succ n =>
    simp only [schedN] at run
    rw [treeC_step z2] at run
    exact run

theorem ht_clean {prog : Program} {name : Str} (vs : List Value) (w : World) (s : Shared) (mg : Str → Option Value) (f : Value) (Q : Fin → Shared → Prop) (E : Value → Shared → Prop) (hg : s.heap.Ns mainGlobals mg) (hf : mg name = some f)
    (h : wpAny (model prog w) callerA (runC f vs) (fun v s' => Q (.done (.ret v)) s') E s) : wpAny (model prog w) callerA (treeC name vs) Q E s := by
  intro Γ p hΓ
  have h := h Γ p hΓ
  unfold runC at h
  unfold treeC
  rw [Sem.wp_stack] at h ⊢
  cases q : clean ((Γ.code, p) :: Γ.below) with
  | true =>
    rw [q] at h
    dsimp only at h ⊢
    show Sem.wp _ Γ (nsGet mainGlobals name >>= fun x => match x with
      | some f => PySem.call f vs >>= fun v => ret v
      | none => unsupported "claim.caller:no-such-global") _ _ p s
    rw [Sem.wp_bind', Sem.wp_nsGet _ Γ _ p s hg, hf]
    show Sem.wp _ Γ (PySem.call f vs >>= fun v => ret v) _ _ p s
    rw [Sem.wp_bind']
    exact h
  | false =>
    rw [q] at h
    exact h
end Mine

/-! The head's tactic applies a theorem by its name; under this namespace it finds this one, which asks
for the call where the stack is clean only. It is proved from the library's own `open_anyG`. -/
namespace Mine.PySem.W
open _root_.PySem _root_.PySem.W
theorem holds_open {r : OpenRow} {q : Program} {loose : List Str} {Xt : Shared → Bool} {XP : (Str → Option Value) → Heap → Prop} {α : Type} {Yf : Shared → α} {Ya : World → α} {YP : World → Heap → Prop} {d : DefRec} {kwd : List (Str × Expr)} {N : Nat}
    (left : LeftO r.prog q loose Xt Yf Ya N) (hY : ∀ w s, Yf s = Ya w → YP w s.heap) (hYk : ∀ w h h', YP w h → (∀ b o, h.get? b = some o → h'.get? b = some o) → YP w h')
    (hX : ∀ s, Xt s = true → XP (s.heap.nsMap mainGlobals) s.heap) (hXk : ∀ mg h h', XP mg h → (∀ b o, h.get? b = some o → h'.get? b = some o) → XP mg h')
    (hdef : defOf q r.name = some (d, kwd)) (hp : r.prog.theDef r.name = some (d.params, d.body, d.scope)) (hk : kwWritten? d.params.kwonlyargs d.params.kw_defaults = some kwd) (hRf : ∀ s, Xt s = true → RecFacts r.records s.heap) (hwr : (!r.writes || r.records.isEmpty) = true)
    (k1 : r.wellSaid = true) (ok : (chainsOk q && opensWell r.prog && (frees r.toRowW && r.within.isEmpty)) = true) (hb : r.prog.bare) (hw : r.toRowW.promised)
    (call : WalkO q loose XP YP r.toRowW d kwd runC) : r.Holds := by
  refine ⟨k1, hw, unclean (open_anyG (r := r.toRowW) (run := runC) (tree := treeC r.name) left hY hYk hX hXk hRf hwr ok hb hw
    (fun vs w s mg f Q E hg hf h => ht_clean vs w s mg f Q E hg hf h) (fun w s hg G n hn => ?_) fun w s₀ s₁ mg mb G Y args vs as hpre hlay L low => ?_)⟩
  · obtain rfl : n = r.name := by
      split at hn
      · exact List.mem_singleton.mp hn
      · cases hn
    exact pinned_of_view hg G hdef hp hk
  · obtain ⟨a, o, pm, cd, doc, dV, kV, g1, g2, g3, g4, g5⟩ := G.fn hdef
    have nm := defOf_name hdef
    exact ⟨.ref a, g1, call w s₀ s₁ mg mb G Y a o pm cd doc dV kV g2 g3 g4 g5 (nm ▸ g1) L.gens args vs as hpre hlay L.reads L.well (L.low low)⟩
end Mine.PySem.W
end

section
open PySem PySem.W PyProof.Rows
set_option Elab.async false
set_option maxRecDepth 100000
set_option maxHeartbeats 8000000
set_option linter.unusedVariables false
namespace Mine
-- the written part as a constant, without the head's run
section
local macro_rules | `(tactic| o_head $t:term) => `(tactic| exact False.elim (by assumption))
theorem mkK : True := by
  have z : False → PySem.Challenge.rw_xp0011_01.row.Holds := by
    intro hf
    km_head
  trivial
end
end Mine
end

section
open PySem PySem.W PyProof.Rows
set_option Elab.async false
set_option maxRecDepth 1000000
set_option maxHeartbeats 0
set_option linter.unusedVariables false
namespace Mine
abbrev pw : Program := PySem.Challenge.rw_xp0011_01.row.prog
def vw : Program := view pw [0,2,3,4,5,7,8,10,12,13,15,16,17,18]
def adrs : List Addr := [2,3,15,17,18,20,21,22,24,25,27,28,29,31,32,34,35,36,38,39,41,42,43,46,51,52,53,55,56,58,59,60,62,63,65,66,67,68,70,71,73,74,75,76,78,79,81,82,83,85,86,88,89,90,92,93,95,96,97,98,100,101,103,104,105,107,108,110,111,112,113,115,116,118,119,120,121,122,123,124,127,129,130,132,133,134,136,137,139,140,141,143,144,146,147,148,151,152,153,155,156,158,159,160,163,164,165,168,169]
theorem adrs_eq (P : Params) : adrs = (mkK.heap_1 P).map (·.1) := by kernel_rfl
noncomputable abbrev Hk : Hook := kmHook mkK.heap_1 adrs adrs_eq [37, 84, 91]
theorem of_boot {p q : Program} {loose : List Str} {Xt : Shared → Bool} {α : Type} {Yf : Shared → α} {Ya : World → α} {N : Nat} (e : opening p = plainProg p.main.scope.names) (hN : Nat.ble 600 N = true) (f : ∀ s, fenceModules? p s = some s)
    (h : ∀ w : World, (fun os : OsState => (topFrom treeTable p w N ⟨boot_heap w.params, Array.mk [], boot_drawn, boot_toks, os⟩).map (fun s => (openSeen q loose (importedModules p.main.body) Xt true s, Yf s))) = fun _ => some (openGood q loose, Ya w)) : LeftO p q loose Xt Yf Ya N := fun w => by
  obtain ⟨⟨h', gs, d, k, os⟩, e1, e'⟩ := Option.map_eq_some_iff.mp (boot_open e hN f w)
  obtain ⟨rfl, rfl, rfl, rfl⟩ : h' = boot_heap w.params ∧ gs = Array.mk [] ∧ d = boot_drawn ∧ k = boot_toks := by simpa using e'
  unfold openEnds
  rw [e1]
  exact congrFun (h w) os
theorem left : LeftO pw vw [Str.ofString "_Accumulator"] (fun s => xlAt vw [] s && recOk (RowW.records PySem.Challenge.rw_xp0011_01.row.toRowW) s) (Hook.obs Hk) (Hook.val Hk) 1932 := by
  refine of_boot (by kernel_rfl) (by decide +kernel) (by intro s; kernel_rfl) ?_
  intro w
  kernel_rfl
theorem said : PySem.Challenge.rw_xp0011_01.wellSaid = true := by kernel_rfl
theorem he0 : (defOf vw PySem.Challenge.rw_xp0011_01.row.name).isSome = true := by kernel_rfl
theorem he1 : (defOf vw PySem.Challenge.rw_xp0011_01.row.name).map (fun x => (x.1.params, x.1.body, x.1.scope)) = PySem.Challenge.rw_xp0011_01.row.prog.theDef PySem.Challenge.rw_xp0011_01.row.name := by kernel_rfl
theorem he2 : (defOf vw PySem.Challenge.rw_xp0011_01.row.name).map (fun x => kwWritten? x.1.params.kwonlyargs x.1.params.kw_defaults) = (defOf vw PySem.Challenge.rw_xp0011_01.row.name).map (fun x => some x.2) := by kernel_rfl
theorem he3 : (chainsOk vw && opensWell PySem.Challenge.rw_xp0011_01.row.prog && (frees PySem.Challenge.rw_xp0011_01.row.toRowW && PySem.Challenge.rw_xp0011_01.row.within.isEmpty)) = true := by kernel_rfl
theorem he4 : PySem.Challenge.rw_xp0011_01.row.prog.bare := ⟨rfl, rfl, rfl, rfl, rfl, by decide +kernel⟩
theorem he5 : (!PySem.Challenge.rw_xp0011_01.row.writes || List.isEmpty PySem.Challenge.rw_xp0011_01.row.records) = true := by kernel_rfl
/-- the law holds as soon as its call is walked -/
theorem hd (call : ∀ d kwd, defOf vw PySem.Challenge.rw_xp0011_01.row.name = some (d, kwd) → WalkO vw [Str.ofString "_Accumulator"] (XL vw []) (Hook.says Hk) PySem.Challenge.rw_xp0011_01.row.toRowW d kwd runC) (hw : PySem.Challenge.rw_xp0011_01.row.toRowW.promised) : PySem.Challenge.rw_xp0011_01.Holds := by
  refine holds_law said fun s0 => ?_
  obtain ⟨⟨d, kwd⟩, hdef⟩ := Option.isSome_iff_exists.mp he0
  have h1 := he1
  have h2 := he2
  rw [hdef] at h1 h2
  have h3 := call d kwd hdef
  clear call
  have h4 : PySem.Challenge.rw_xp0011_01.row.prog.theDef PySem.Challenge.rw_xp0011_01.row.name = some (d.params, d.body, d.scope) := h1.symm
  have h5 : kwWritten? d.params.kwonlyargs d.params.kw_defaults = some kwd := Option.some.inj h2
  have h6 := left
  exact Mine.PySem.W.holds_open (r := PySem.Challenge.rw_xp0011_01.row) (q := vw) (loose := [Str.ofString "_Accumulator"]) (Xt := fun s => xlAt vw [] s && recOk (RowW.records PySem.Challenge.rw_xp0011_01.row.toRowW) s) (XP := XL vw []) (Yf := Hook.obs Hk) (Ya := Hook.val Hk) (YP := Hook.says Hk) (N := 1932)
    h6 (Hook.of Hk) (Hook.keeps Hk) (fun s e => xl_of s (Bool.and_eq_true_iff.mp e).1) XL.keeps hdef h4 h5 (fun s e => recFacts_of (Bool.and_eq_true_iff.mp e).2) he5 s0 he3 he4 hw h3
end Mine
end

section
open PySem PySem.W PyProof.Rows PySem.Calls
set_option Elab.async false
set_option maxRecDepth 100000
set_option maxHeartbeats 400000
set_option linter.unusedVariables false
namespace Mine
/-- a goal that the walk leaves alone -/
def Halt (P : Prop) : Prop := P
theorem Halt.out {P : Prop} (h : Halt P) : P := h
theorem Halt.go {P : Prop} (h : P) : Halt P := h
/-- a side fact that the walk leaves alone -/
def Side (P : Prop) : Prop := P
theorem Side.out {P : Prop} (h : Side P) : P := h

/-- what a call of the def at f gives: a value and new objects, all else kept -/
def Does (w : World) (f : Addr) (dn un' : Nat) (vs : List Value) (Out : Value → List (Addr × Obj) → Prop) : Prop :=
  ∀ (p : Program) (loose : List Str) (mean : ExcName → Option Value) (mg mb : Str → Option Value)
    (dp un : Nat) (cn : Str) (cs : Scope) (a : Addr) (ccd : Value) (cl : List (Str × Addr)) (outer : List Env) (A₀ : Around) (base h₀ : Heap) (L : Addr) (m : Str → Option Value) (news : List (Addr × Obj)) (s : Shared) (Q E : Value → Shared → Prop),
    (mkK.heap_1 w.params).In h₀ → Below A₀ base outer h₀ → Fr h₀ L s.heap m → News h₀ L s.heap news → Top p loose mean mg mb h₀ → cs.kind = .function →
    dp + dn < recursionLimit → un + un' < cLine →
    (∀ v tl h' tk', Out v tl → Fr h₀ L h' m → News h₀ L h' (tl ++ news) → (∀ q ∈ tl, ∀ p ∈ news, p.1 < q.1) → Q v { s with heap := h', toks := tk' }) →
    wpAny (model PySem.Challenge.rw_xp0011_01.row.prog w) (ktrTop dp un (some []) cn cs L a ccd cl outer) (call (.ref f) vs) Q E s
theorem Does.use {w : World} {f : Addr} {dn un' : Nat} {vs : List Value} {Out : Value → List (Addr × Obj) → Prop} (D : Does w f dn un' vs Out)
    {p : Program} {loose : List Str} {mean : ExcName → Option Value} {mg mb : Str → Option Value}
    {dp un : Nat} {cn : Str} {cs : Scope} {a : Addr} {ccd : Value} {cl : List (Str × Addr)} {outer : List Env} {A₀ : Around} {base h₀ : Heap} {L : Addr} {m : Str → Option Value} {news : List (Addr × Obj)} {s : Shared} {Q E : Value → Shared → Prop}
    (X : (mkK.heap_1 w.params).In h₀) (B : Below A₀ base outer h₀) (F : Fr h₀ L s.heap m) (N : News h₀ L s.heap news) (T : Top p loose mean mg mb h₀) (hk : cs.kind = .function)
    (hd : dp + dn < recursionLimit) (hu : un + un' < cLine)
    (ret : ∀ v tl h' tk', Out v tl → Fr h₀ L h' m → News h₀ L h' (tl ++ news) → (∀ q ∈ tl, ∀ p ∈ news, p.1 < q.1) → Q v { s with heap := h', toks := tk' }) :
    wpAny (model PySem.Challenge.rw_xp0011_01.row.prog w) (ktrTop dp un (some []) cn cs L a ccd cl outer) (call (.ref f) vs) Q E s :=
  D p loose mean mg mb dp un cn cs a ccd cl outer A₀ base h₀ L m news s Q E X B F N T hk hd hu ret

abbrev tupO (vs : List Value) (c : Nat) : Obj := { cls := .type "tuple", data := .seq vs.toArray c }
/-- a new tuple of two ints -/
def OutPair (q r : Int) (v : Value) (tl : List (Addr × Obj)) : Prop := ∃ D t1 t2 c, v = .ref D ∧ tl = [(D, tupO [.int q t1, .int r t2] c)]
theorem allLt_mem {d : Addr} {l : List (Addr × Obj)} (h : AllLt d l) : ∀ p ∈ l, p.1 < d := by
  induction l with
  | nil => intro p hp; exact absurd hp List.not_mem_nil
  | cons x r ih =>
    intro p hp
    rcases List.mem_cons.mp hp with e | hp
    · rw [e]; exact h.1
    · exact ih h.2 p hp
theorem news_sub {h₀ h : Heap} {L : Addr} {n n' : List (Addr × Obj)} (N : News h₀ L h n) (hs : ∀ p ∈ n', p ∈ n) : News h₀ L h n' := fun p hp => N p (hs p hp)
theorem lt_one {D : Addr} {o : Obj} {news : List (Addr × Obj)} (h : ∀ p ∈ news, p.1 < D) : ∀ q ∈ [(D, o)], ∀ p ∈ news, p.1 < q.1 := fun q hq p hp => by
  rcases List.mem_singleton.mp hq with rfl
  exact h p hp
end Mine
end

section
/-! pure arithmetic of the fast division -/
open PySem PySem.W PyProof.Rows
set_option linter.unusedVariables false
set_option linter.unusedSimpArgs false
namespace Mine

theorem two_pos (n : Nat) : (0 : Int) < 2 ^ n := kbt_pos n
theorem two_add (m n : Nat) : (2 : Int) ^ (m + n) = 2 ^ m * 2 ^ n := Int.pow_add 2 m n
theorem two_two (n : Nat) : (2 : Int) ^ (2 * n) = 2 ^ n * 2 ^ n := by rw [Nat.two_mul, two_add]
theorem two_succ (n : Nat) : (2 : Int) ^ (n + 1) = 2 * 2 ^ n := by rw [two_add]; omega
theorem two_mono {m n : Nat} (h : m ≤ n) : (2 : Int) ^ m ≤ 2 ^ n := by
  obtain ⟨d, rfl⟩ := Nat.exists_eq_add_of_le h
  rw [two_add]
  have := two_pos m
  have h1 : (1 : Int) ≤ 2 ^ d := by have := two_pos d; omega
  calc (2 : Int) ^ m = 2 ^ m * 1 := by omega
    _ ≤ 2 ^ m * 2 ^ d := Int.mul_le_mul_of_nonneg_left h1 (by omega)

theorem bits_le {x : Int} {k : Nat} (h0 : -(2 ^ k) < x) (h1 : x < 2 ^ k) : Builtin.Int.intBits x ≤ k := by
  refine intBits_le_iff.mpr ?_
  have e := kbt_cast k
  omega
theorem bits_mono {x : Int} {k m : Nat} (h0 : -(2 ^ k) < x) (h1 : x < 2 ^ k) (hk : k ≤ m) : Builtin.Int.intBits x ≤ m := Nat.le_trans (bits_le h0 h1) hk

theorem or_add (a : Int) (k : Nat) (b : Int) (ha : 0 ≤ a) (hb0 : 0 ≤ b) (hb : b < 2 ^ k) : Builtin.bitOr (a * 2 ^ k) b = a * 2 ^ k + b := by
  rw [bitOr_and]
  obtain ⟨m, rfl⟩ := Int.eq_ofNat_of_zero_le ha
  obtain ⟨n, rfl⟩ := Int.eq_ofNat_of_zero_le hb0
  have e := kbt_cast k
  have hn : n < 2 ^ k := by omega
  have e1 : (m : Int) * 2 ^ k = ((m * 2 ^ k : Nat) : Int) := by rw [Int.natCast_mul, e]
  have z : Builtin.bitAnd ((m : Int) * 2 ^ k) (n : Int) = 0 := by
    rw [e1]
    unfold Builtin.bitAnd
    have h1 : decide ((0 : Int) ≤ ((m * 2 ^ k : Nat) : Int)) = true := decide_eq_true (by omega)
    have h2 : decide ((0 : Int) ≤ (n : Int)) = true := decide_eq_true (by omega)
    rw [h1, h2]
    show (((m * 2 ^ k) &&& n : Nat) : Int) = 0
    have : (m * 2 ^ k) &&& n = 0 := by
      apply Nat.eq_of_testBit_eq
      intro i
      rw [Nat.testBit_and, Nat.zero_testBit]
      by_cases hi : i < k
      · have : Nat.testBit (m * 2 ^ k) i = false := by
          rw [Nat.mul_comm, Nat.testBit_two_pow_mul]
          simp; omega
        rw [this]; rfl
      · have : n.testBit i = false := Nat.testBit_lt_two_pow (Nat.lt_of_lt_of_le hn (Nat.pow_le_pow_right (by omega) (by omega)))
        rw [this, Bool.and_false]
    rw [this]; rfl
  rw [z]; omega

theorem div_mod_unique {a b q r : Int} (hb : 0 < b) (h : q * b + r = a) (h0 : 0 ≤ r) (h1 : r < b) : a / b = q ∧ a % b = r :=
  kbt_unique hb (by rw [Int.mul_comm b q]; omega) h0 h1

/-- what a of 2n bits fits -/
structure Pre2 (k : Nat) (a b : Int) (n : Nat) : Prop where
  a0 : 0 ≤ a
  ab : a < b * 2 ^ n
  lo : 2 ^ n ≤ 2 * b
  hi : b < 2 ^ n
  nk : n ≤ 4000 * 2 ^ k
  nn : n ≤ 16000
structure Pre3 (k : Nat) (a12 a3 b b1 b2 : Int) (n : Nat) : Prop where
  a0 : 0 ≤ a12
  ab : a12 < b
  c0 : 0 ≤ a3
  c1 : a3 < 2 ^ n
  e : b = b1 * 2 ^ n + b2
  d0 : 0 ≤ b2
  d1 : b2 < 2 ^ n
  lo : 2 ^ n ≤ 2 * b1
  hi : b1 < 2 ^ n
  nk : n ≤ 4000 * 2 ^ k
  nn : n ≤ 16000

theorem Pre2.bpos {k : Nat} {a b : Int} {n : Nat} (h : Pre2 k a b n) : 0 < b := by have := h.lo; have := two_pos n; omega
theorem Pre2.alt {k : Nat} {a b : Int} {n : Nat} (h : Pre2 k a b n) : a < 2 ^ (2 * n) := by
  rw [two_two]
  have h1 := h.ab
  have h2 : b * 2 ^ n ≤ 2 ^ n * 2 ^ n := Int.mul_le_mul_of_nonneg_right (by have := h.hi; omega) (by have := two_pos n; omega)
  omega
theorem Pre2.base {a b : Int} {n : Nat} (h : Pre2 0 a b n) : ((Builtin.Int.intBits a : Nat) : Int) - (n : Int) ≤ 4000 := by
  have h1 := bits_le (x := a) (k := 2 * n) (by have := h.a0; have := two_pos (2 * n); omega) h.alt
  have h2 := h.nk
  omega

theorem Pre3.bpos {k : Nat} {a12 a3 b b1 b2 : Int} {n : Nat} (h : Pre3 k a12 a3 b b1 b2 n) : 0 < b := by have := h.a0; have := h.ab; omega
theorem Pre3.b1pos {k : Nat} {a12 a3 b b1 b2 : Int} {n : Nat} (h : Pre3 k a12 a3 b b1 b2 n) : 0 < b1 := by have := h.lo; have := two_pos n; omega
theorem Pre3.blt {k : Nat} {a12 a3 b b1 b2 : Int} {n : Nat} (h : Pre3 k a12 a3 b b1 b2 n) : b < 2 ^ (2 * n) := by
  rw [two_two, h.e]
  have h1 : (b1 + 1) * 2 ^ n ≤ 2 ^ n * 2 ^ n := Int.mul_le_mul_of_nonneg_right (by have := h.hi; omega) (by have := two_pos n; omega)
  have h2 : (b1 + 1) * 2 ^ n = b1 * 2 ^ n + 2 ^ n := by rw [Int.add_mul, Int.one_mul]
  have := h.d1
  omega
/-- the top's part is at most b1 -/
theorem Pre3.top {k : Nat} {a12 a3 b b1 b2 : Int} {n : Nat} (h : Pre3 k a12 a3 b b1 b2 n) : a12 / 2 ^ n ≤ b1 := by
  have hp := two_pos n
  have h1 : a12 < (b1 + 1) * 2 ^ n := by
    rw [Int.add_mul, Int.one_mul]
    have := h.ab; have := h.e; have := h.d1
    omega
  have := Int.ediv_lt_of_lt_mul hp h1
  omega
theorem Pre3.sub {k : Nat} {a12 a3 b b1 b2 : Int} {n : Nat} (h : Pre3 k a12 a3 b b1 b2 n) (hne : a12 / 2 ^ n ≠ b1) : Pre2 k a12 b1 n := by
  have hp := two_pos n
  have h1 := h.top
  have h2 : a12 / 2 ^ n < b1 := by omega
  have h3 : a12 < b1 * 2 ^ n := by
    have e := Int.mul_ediv_add_emod a12 (2 ^ n)
    have l := Int.emod_lt_of_pos a12 hp
    have h4 : (a12 / 2 ^ n + 1) * 2 ^ n ≤ b1 * 2 ^ n := Int.mul_le_mul_of_nonneg_right (by omega) (by omega)
    have h5 : (a12 / 2 ^ n + 1) * 2 ^ n = a12 / 2 ^ n * 2 ^ n + 2 ^ n := by rw [Int.add_mul, Int.one_mul]
    have h6 : 2 ^ n * (a12 / 2 ^ n) = a12 / 2 ^ n * 2 ^ n := Int.mul_comm _ _
    omega
  exact ⟨h.a0, h3, h.lo, h.hi, h.nk, h.nn⟩

/-- the whole invariant of the second half of _div3n2n -/
def Inv3 (A b q r : Int) : Prop := q * b + r = A ∧ r < b
theorem Inv3.eqcase {k : Nat} {a12 a3 b b1 b2 : Int} {n : Nat} (h : Pre3 k a12 a3 b b1 b2 n) (he : a12 / 2 ^ n = b1) :
    Inv3 (a12 * 2 ^ n + a3) b (2 ^ n - 1) ((a12 - b1 * 2 ^ n + b1) * 2 ^ n + a3 - (2 ^ n - 1) * b2) := by
  have hp := two_pos n
  have e := h.e
  have key : (2 ^ n - 1) * b + ((a12 - b1 * 2 ^ n + b1) * 2 ^ n + a3 - (2 ^ n - 1) * b2) = a12 * 2 ^ n + a3 := by
    rw [e]
    generalize (2 : Int) ^ n = B
    simp only [Int.sub_mul, Int.add_mul, Int.mul_add, Int.mul_sub, Int.one_mul]
    have : B * (b1 * B) = b1 * B * B := by rw [Int.mul_comm]
    omega
  refine ⟨key, ?_⟩
  have h1 : a12 * 2 ^ n + a3 < b * 2 ^ n := by
    have h2 : (a12 + 1) * 2 ^ n ≤ b * 2 ^ n := Int.mul_le_mul_of_nonneg_right (by have := h.ab; omega) (by omega)
    have h3 : (a12 + 1) * 2 ^ n = a12 * 2 ^ n + 2 ^ n := by rw [Int.add_mul, Int.one_mul]
    have := h.c1
    omega
  have h4 : (2 ^ n - 1) * b = b * 2 ^ n - b := by rw [Int.sub_mul, Int.one_mul, Int.mul_comm]
  omega
theorem Inv3.necase {k : Nat} {a12 a3 b b1 b2 : Int} {n : Nat} (h : Pre3 k a12 a3 b b1 b2 n) :
    Inv3 (a12 * 2 ^ n + a3) b (a12 / b1) (a12 % b1 * 2 ^ n + a3 - a12 / b1 * b2) := by
  have hp := two_pos n
  have hb1 := h.b1pos
  have e1 := Int.mul_ediv_add_emod a12 b1
  have hr := Int.emod_lt_of_pos a12 hb1
  have hq : 0 ≤ a12 / b1 := Int.ediv_nonneg h.a0 (by omega)
  refine ⟨?_, ?_⟩
  · rw [h.e]
    generalize a12 / b1 = q at *
    generalize a12 % b1 = r at *
    subst e1
    generalize (2 : Int) ^ n = B
    simp only [Int.mul_add, Int.add_mul]
    have : q * (b1 * B) = b1 * q * B := by rw [← Int.mul_assoc, Int.mul_comm q b1]
    omega
  · have h1 : (a12 % b1 + 1) * 2 ^ n ≤ b1 * 2 ^ n := Int.mul_le_mul_of_nonneg_right (by omega) (by omega)
    have h2 : (a12 % b1 + 1) * 2 ^ n = a12 % b1 * 2 ^ n + 2 ^ n := by rw [Int.add_mul, Int.one_mul]
    have h3 : 0 ≤ a12 / b1 * b2 := Int.mul_nonneg hq h.d0
    have := h.c1; have := h.e; have := h.d0
    omega
theorem Inv3.step {A b q r : Int} (h : Inv3 A b q r) (hr : r < 0) : Inv3 A b (q - 1) (r + b) := by
  obtain ⟨h1, h2⟩ := h
  refine ⟨?_, by omega⟩
  rw [Int.sub_mul, Int.one_mul]; omega
theorem Inv3.done {A b q r : Int} (h : Inv3 A b q r) (hb : 0 < b) (hr : ¬ r < 0) : q = A / b ∧ r = A % b := by
  have := div_mod_unique hb h.1 (by omega) h.2
  exact ⟨this.1.symm, this.2.symm⟩

/-- the two halves of _div2n1n, n even -/
theorem halves {k : Nat} {a b : Int} {h : Nat} (p : Pre2 (k + 1) a b (2 * h)) (hh : 0 < h) :
    Pre3 k (a / 2 ^ (2 * h)) (a / 2 ^ h % 2 ^ h) b (b / 2 ^ h) (b % 2 ^ h) h ∧ a / 2 ^ (2 * h) * 2 ^ h + a / 2 ^ h % 2 ^ h = a / 2 ^ h := by
  have hp := two_pos h
  have hpp := two_pos (2 * h)
  have hb := p.bpos
  have ebm := Int.mul_ediv_add_emod b (2 ^ h)
  have eb : b = b / 2 ^ h * 2 ^ h + b % 2 ^ h := by rw [Int.mul_comm]; omega
  have r0 := Int.emod_nonneg b (by omega : (2 : Int) ^ h ≠ 0)
  have r1 := Int.emod_lt_of_pos b hp
  have tt := two_two h
  have e2 : a / 2 ^ (2 * h) = a / 2 ^ h / 2 ^ h := by rw [tt, Int.ediv_ediv_of_nonneg (by omega)]
  refine ⟨⟨Int.ediv_nonneg p.a0 (by omega), Int.ediv_lt_of_lt_mul hpp p.ab, Int.emod_nonneg _ (by omega), Int.emod_lt_of_pos _ hp, eb, r0, r1, ?_, ?_, ?_, ?_⟩, ?_⟩
  · -- 2^h ≤ 2 * b1
    obtain ⟨j, rfl⟩ : ∃ j, h = j + 1 := ⟨h - 1, by omega⟩
    have e3 : (2 : Int) ^ (2 * (j + 1)) = 2 * (2 ^ j * 2 ^ (j + 1)) := by rw [two_two, two_succ, Int.mul_assoc]
    have q1 := p.lo
    have q2 : (2 : Int) ^ j * 2 ^ (j + 1) ≤ b := by omega
    have q3 := Int.le_ediv_of_mul_le hp q2
    have q4 := two_succ j
    omega
  · refine Int.ediv_lt_of_lt_mul hp ?_
    rw [← tt]; exact p.hi
  · have := p.nk
    rw [Nat.pow_succ] at this; omega
  · have := p.nn; omega
  · rw [e2]
    have := Int.mul_ediv_add_emod (a / 2 ^ h) (2 ^ h)
    have c := Int.mul_comm (a / 2 ^ h / 2 ^ h) (2 ^ h)
    omega

theorem second {k : Nat} {a b : Int} {h : Nat} (p : Pre2 (k + 1) a b (2 * h)) (hh : 0 < h) :
    Pre3 k (a / 2 ^ h % b) (a % 2 ^ h) b (b / 2 ^ h) (b % 2 ^ h) h := by
  have q := (halves p hh).1
  have hp := two_pos h
  exact ⟨Int.emod_nonneg _ (by have := p.bpos; omega), Int.emod_lt_of_pos _ p.bpos, Int.emod_nonneg _ (by omega), Int.emod_lt_of_pos _ hp, q.e, q.d0, q.d1, q.lo, q.hi, q.nk, q.nn⟩

theorem join_halves {a b : Int} {h : Nat} (hb : 0 < b) (ha : 0 ≤ a) :
    a / 2 ^ h / b * 2 ^ h + (a / 2 ^ h % b * 2 ^ h + a % 2 ^ h) / b = a / b ∧ (a / 2 ^ h % b * 2 ^ h + a % 2 ^ h) % b = a % b := by
  have hp := two_pos h
  generalize hx : a / 2 ^ h % b * 2 ^ h + a % 2 ^ h = x
  have e1 := Int.mul_ediv_add_emod (a / 2 ^ h) b
  have e2 := Int.mul_ediv_add_emod a (2 ^ h)
  have e3 := Int.mul_ediv_add_emod x b
  have r0 := Int.emod_nonneg x (by omega : b ≠ 0)
  have r1 := Int.emod_lt_of_pos x hb
  have key : (a / 2 ^ h / b * 2 ^ h + x / b) * b + x % b = a := by
    generalize a / 2 ^ h / b = q1 at *
    generalize a / 2 ^ h % b = r1' at *
    generalize a / 2 ^ h = y at *
    generalize x / b = q2 at *
    generalize x % b = r2 at *
    generalize a % 2 ^ h = z at *
    generalize (2 : Int) ^ h = B at *
    subst e1
    rw [Int.add_mul]
    have e4 : q1 * B * b = b * q1 * B := by rw [Int.mul_comm, Int.mul_assoc]
    have e5 : B * (b * q1 + r1') = b * q1 * B + r1' * B := by rw [Int.mul_comm, Int.add_mul]
    have e6 : q2 * b = b * q2 := Int.mul_comm _ _
    omega
  have u := div_mod_unique hb key r0 r1
  exact ⟨u.1.symm, u.2.symm⟩
/-- q2 is below the half's power -/
theorem q2_lt {a b : Int} {h : Nat} (hb : 0 < b) : 0 ≤ (a / 2 ^ h % b * 2 ^ h + a % 2 ^ h) / b ∧ (a / 2 ^ h % b * 2 ^ h + a % 2 ^ h) / b < 2 ^ h := by
  have hp := two_pos h
  have r0 := Int.emod_nonneg (a / 2 ^ h) (by omega : b ≠ 0)
  have r1 := Int.emod_lt_of_pos (a / 2 ^ h) hb
  have s0 := Int.emod_nonneg a (by omega : (2 : Int) ^ h ≠ 0)
  have s1 := Int.emod_lt_of_pos a hp
  have x0 : 0 ≤ a / 2 ^ h % b * 2 ^ h + a % 2 ^ h := Int.add_nonneg (Int.mul_nonneg r0 (by omega)) s0
  have x1 : a / 2 ^ h % b * 2 ^ h + a % 2 ^ h < 2 ^ h * b := by
    have h1 : (a / 2 ^ h % b + 1) * 2 ^ h ≤ b * 2 ^ h := Int.mul_le_mul_of_nonneg_right (by omega) (by omega)
    have h2 : (a / 2 ^ h % b + 1) * 2 ^ h = a / 2 ^ h % b * 2 ^ h + 2 ^ h := by rw [Int.add_mul, Int.one_mul]
    rw [Int.mul_comm (2 ^ h) b]; omega
  exact ⟨Int.ediv_nonneg x0 (by omega), Int.ediv_lt_of_lt_mul hb x1⟩

/-- the base's division is not handed to another algorithm -/
theorem noPylong_base {a b : Int} {n : Nat} (a0 : 0 ≤ a) (hb : 0 < b) (hl : 2 ^ n ≤ 2 * b) (ha : ((Builtin.Int.intBits a : Nat) : Int) - (n : Int) ≤ 4000) : Builtin.divisionGoesByPylong a b = false := by
  have h1 : a.natAbs < 2 ^ (n + 4000) := intBits_le_iff.mp (by omega)
  have h2 : 2 ^ n ≤ 2 * b.natAbs := by have e := kbt_cast n; omega
  have hb0 : b.natAbs ≠ 0 := by omega
  have l2 : n ≤ b.natAbs.log2 + 1 := by
    have h3 := (Nat.le_log2 (n := 2 * b.natAbs) (k := n) (by omega)).mpr h2
    have h4 : (2 * b.natAbs).log2 < b.natAbs.log2 + 2 := (Nat.log2_lt (by omega)).mpr (by
      have := Nat.lt_log2_self (n := b.natAbs)
      rw [Nat.pow_succ] at this ⊢
      rw [Nat.pow_succ]
      omega)
    omega
  have e : Builtin.divisionGoesByPylong a b = (decide ((if b == 0 then 0 else b.natAbs.log2 / 30 + 1) > 300) && decide ((if a == 0 then 0 else a.natAbs.log2 / 30 + 1) > (if b == 0 then 0 else b.natAbs.log2 / 30 + 1) + 150)) := rfl
  have hbz : (b == 0) = false := by simp; omega
  rw [e, hbz]
  have k2 : ¬ (if a == 0 then 0 else a.natAbs.log2 / 30 + 1) > (if false = true then 0 else b.natAbs.log2 / 30 + 1) + 150 := by
    simp only [Bool.false_eq_true, if_false]
    by_cases ha0 : (a == 0) = true
    · rw [if_pos ha0]; omega
    · rw [if_neg ha0]
      have ha1 : a.natAbs ≠ 0 := by simp at ha0; omega
      have l1 := (Nat.log2_lt ha1).mpr h1
      omega
  rw [decide_eq_false k2, Bool.and_false]

/-- one padded bit -/
theorem Pre2.pad {k : Nat} {a b : Int} {n : Nat} (p : Pre2 k a b n) (hn : n + 1 ≤ 4000 * 2 ^ k) (hn2 : n + 1 ≤ 16000) : Pre2 k (a * 2) (b * 2) (n + 1) := by
  have hp := two_pos n
  refine ⟨by have := p.a0; omega, ?_, ?_, ?_, hn, hn2⟩
  · rw [two_succ]
    have := p.ab
    have e : b * 2 * (2 * 2 ^ n) = 4 * (b * 2 ^ n) := by
      have : b * 2 * (2 * 2 ^ n) = b * (2 * (2 * 2 ^ n)) := Int.mul_assoc _ _ _
      rw [this, Int.mul_left_comm, Int.mul_left_comm b 2]; omega
    have : 0 < b * 2 ^ n := Int.mul_pos p.bpos hp
    omega
  · rw [two_succ]; have := p.lo; omega
  · rw [two_succ]; have := p.hi; omega
theorem pad_back (a b : Int) (hb : 0 < b) : a * 2 / (b * 2) = a / b ∧ a * 2 % (b * 2) / 2 = a % b := by
  refine ⟨Int.mul_ediv_mul_of_pos_left a b (by omega), ?_⟩
  have e : a * 2 % (b * 2) = 2 * (a % b) := by rw [Int.mul_comm a 2, Int.mul_comm b 2]; exact Int.mul_emod_mul_of_pos a b (by omega)
  rw [e]
  exact Int.mul_ediv_cancel_left _ (by omega)
end Mine
end

section
open PySem PySem.W PyProof.Rows PySem.Calls
set_option Elab.async false
set_option maxRecDepth 100000
set_option maxHeartbeats 8000000
set_option linter.unusedVariables false
namespace Mine
section
variable {prog : Program} {w : World} {A : Around} {E : Value → Shared → Prop} {s : Shared} {Q : Value → Shared → Prop} {x y : Int} {t u : Tok} {k n : Nat}
theorem mn_rsh (h : Q (.int (x / 2 ^ k) s.toks) { s with toks := s.toks + 1 }) : wpAny (model prog w) A (binaryOp .RShift (.int x t) (.int (k : Int) u)) Q E s := by
  refine rshift_int (by omega) ?_
  rw [Int.toNat_natCast, Int.fdiv_eq_ediv_of_nonneg _ (by have := two_pos k; omega)]
  exact h
theorem mn_rsh1 (h : Q (.int (x / 2) s.toks) { s with toks := s.toks + 1 }) : wpAny (model prog w) A (binaryOp .RShift (.int x t) (.int 1 u)) Q E s := by
  refine rshift_int (by omega) ?_
  rw [Int.fdiv_eq_ediv_of_nonneg _ (by decide)]
  exact h
theorem mn_half (h : Q (.int ((n / 2 : Nat) : Int) s.toks) { s with toks := s.toks + 1 }) : wpAny (model prog w) A (binaryOp .RShift (.int (n : Int) t) (.int 1 u)) Q E s := by
  refine mn_rsh1 ?_
  rw [Int.natCast_ediv] at h
  exact h
theorem mn_irsh1 (h : Q (.int (x / 2) s.toks) { s with toks := s.toks + 1 }) : wpAny (model prog w) A (inplaceOp .RShift (.int x t) (.int 1 u)) Q E s := by
  refine irshift_int (by omega) ?_
  rw [Int.fdiv_eq_ediv_of_nonneg _ (by decide)]
  exact h
theorem mn_lsh (hs : Side (Builtin.Int.intBits x + k ≤ 2 ^ 27)) (h : Q (.int (x * 2 ^ k) s.toks) { s with toks := s.toks + 1 }) : wpAny (model prog w) A (binaryOp .LShift (.int x t) (.int (k : Int) u)) Q E s := by
  have hs' : Builtin.Int.intBits x + k ≤ 2 ^ 27 := hs
  refine lshift_int (by omega) (by omega) ?_
  rw [Int.toNat_natCast]; exact h
theorem mn_mask (h : Q (.int (x % 2 ^ k) s.toks) { s with toks := s.toks + 1 }) : wpAny (model prog w) A (binaryOp .BitAnd (.int x t) (.int (2 ^ k - 1) u)) Q E s := by
  refine and_int ?_
  rw [kbt_mask]; exact h
theorem mn_and1 (h : Q (.int ((n % 2 : Nat) : Int) s.toks) { s with toks := s.toks + 1 }) : wpAny (model prog w) A (binaryOp .BitAnd (.int (n : Int) t) (.int 1 u)) Q E s := by
  refine and_int ?_
  rw [bitAnd_m1]
  rw [Int.natCast_emod] at h; exact h
theorem mn_or (h0 : Side (0 ≤ x ∧ 0 ≤ y ∧ y < 2 ^ k)) (h : Q (.int (x * 2 ^ k + y) s.toks) { s with toks := s.toks + 1 }) : wpAny (model prog w) A (binaryOp .BitOr (.int (x * 2 ^ k) t) (.int y u)) Q E s := by
  obtain ⟨h1, h2, h3⟩ := h0.out
  refine or_int ?_
  rw [or_add _ _ _ h1 h2 h3]; exact h
theorem mn_mul (hs : Side (IntMulOk x y)) (h : Q (.int (x * y) s.toks) { s with toks := s.toks + 1 }) : wpAny (model prog w) A (binaryOp .Mult (.int x t) (.int y u)) Q E s := mul_int h hs
end

section
variable {prog : Program} {w : World} {A : Around} {E : Value → Shared → Prop} {s : Shared} {Q : Value → Shared → Prop} {x y : Int} {t u : Tok} {k n : Nat}
theorem mn_ilsh1 (hs : Side (Builtin.Int.intBits x + 1 ≤ 2 ^ 27)) (h : Q (.int (x * 2) s.toks) { s with toks := s.toks + 1 }) : wpAny (model prog w) A (inplaceOp .LShift (.int x t) (.int 1 u)) Q E s := by
  have hs' : Builtin.Int.intBits x + 1 ≤ 2 ^ 27 := hs
  exact ilshift_int (by omega) (by omega) h
theorem mn_inc (h : Q (.int ((n + 1 : Nat) : Int) s.toks) { s with toks := s.toks + 1 }) : wpAny (model prog w) A (inplaceOp .Add (.int (n : Int) t) (.int 1 u)) Q E s := iadd_int h
theorem mn_one (hs : Side (k ≤ 1000000)) (h : Q (.int (2 ^ k) s.toks) { s with toks := s.toks + 1 }) : wpAny (model prog w) A (binaryOp .LShift (.int 1 t) (.int (k : Int) u)) Q E s := by
  have hs' : k ≤ 1000000 := hs
  refine lshift_int_small (by omega) (by omega) (by decide) ?_
  rw [Int.toNat_natCast, Int.one_mul]; exact h
theorem mn_divmod {h₀ : Heap} {L : Addr} {m : Str → Option Value} {news : List (Addr × Obj)} (F : Fr h₀ L s.heap m) (N : News h₀ L s.heap news) (hs : Side (0 < y ∧ Builtin.divisionGoesByPylong x y = false))
    (h : ∀ D t1 t2 h' tk', Fr h₀ L h' m → News h₀ L h' ((D, tupO [.int (x / y) t1, .int (x % y) t2] 0) :: news) → (∀ p ∈ news, p.1 < D) → Q (.ref D) { s with heap := h', toks := tk' }) :
    wpAny (model prog w) A (call (.builtin "divmod") [.int x t, .int y u]) Q E s := by
  obtain ⟨h1, h2⟩ := hs.out
  refine divmod_N F N (by omega) (fun h' F' N' => ?_) (.inl h2)
  rw [Int.fdiv_eq_ediv_of_nonneg _ (by omega), Int.fmod_eq_emod_of_nonneg _ (by omega)] at N'
  exact h _ _ _ _ _ F' N' (fun p hp => Heap.lt_size (N p hp).1)
end

def P3 (w : World) (k : Nat) : Prop := ∀ (a12 a3 b b1 b2 : Int) (n : Nat) (t1 t2 t3 t4 t5 t6 : Tok), Pre3 k a12 a3 b b1 b2 n →
  Does w 35 (2 * k + 2) (20 * k + 40) [.int a12 t1, .int a3 t2, .int b t3, .int b1 t4, .int b2 t5, .int (n : Int) t6] (OutPair ((a12 * 2 ^ n + a3) / b) ((a12 * 2 ^ n + a3) % b))
def P2 (w : World) (k : Nat) : Prop := ∀ (a b : Int) (n : Nat) (t1 t2 t3 : Tok), Pre2 k a b n →
  Does w 28 (2 * k + 1) (20 * k + 30) [.int a t1, .int b t2, .int (n : Int) t3] (OutPair (a / b) (a % b))


local macro_rules | `(tactic| walk_at "mine sub") => `(tactic| (intro p9 h9; simp only [List.cons_append, List.nil_append, List.mem_cons] at h9 ⊢; rcases h9 with h9 | h9 <;> first | exact .inl h9 | exact .inr h9 | exact .inr (.inl h9) | exact .inr (.inr h9) | exact .inr (.inr (.inl h9)) | exact .inr (.inr (.inr h9)) | exact .inr (.inr (.inr (.inr h9)))))
theorem side_le {x : Int} {k n m : Nat} (h : Builtin.Int.intBits x ≤ k) (hn : n ≤ m) (hm : k + m ≤ 2 ^ 27) : Side (Builtin.Int.intBits x + n ≤ 2 ^ 27) := by
  show Builtin.Int.intBits x + n ≤ 2 ^ 27
  omega
theorem Pre3.bits {k : Nat} {a12 a3 b b1 b2 : Int} {n : Nat} (h : Pre3 k a12 a3 b b1 b2 n) :
    Builtin.Int.intBits a12 ≤ 32000 ∧ Builtin.Int.intBits b1 ≤ 16000 ∧ Builtin.Int.intBits b2 ≤ 16000 ∧ Builtin.Int.intBits ((2 : Int) ^ n) ≤ 16001 := by
  have hp := two_pos n
  have hp2 := two_pos (2 * n)
  have hb := h.blt
  have hnn := h.nn
  refine ⟨bits_mono (k := 2 * n) (by have := h.a0; omega) (by have := h.ab; omega) (by omega), bits_mono (k := n) (by have := h.b1pos; omega) h.hi h.nn, bits_mono (k := n) (by have := h.d0; omega) h.d1 h.nn, bits_mono (k := n + 1) ?_ ?_ (by omega)⟩
  · have := two_pos (n + 1); omega
  · have := two_succ n; omega

section wh
variable {w : World} {A : Around} {E : Value → Shared → Prop} {Q : Flow → Shared → Prop} {s : Shared} {h₀ : Heap} {L : Addr} {m : Str → Option Value} {news : List (Addr × Obj)}
abbrev upd2 (m : Str → Option Value) (x : Str) (v : Value) (y : Str) (u : Value) : Str → Option Value := fun z => if z = y then some u else if z = x then some v else m z
theorem upd2_again (m : Str → Option Value) (x y : Str) (v u v' u' : Value) :
    (fun z => if z = y then some u' else if z = x then some v' else upd2 m x v y u z) = upd2 m x v' y u' := by
  funext z
  show (if z = y then some u' else if z = x then some v' else if z = y then some u else if z = x then some v else m z) = _
  by_cases h1 : z = y
  · rw [if_pos h1]; exact (if_pos h1).symm
  · by_cases h2 : z = x
    · rw [if_neg h1, if_pos h2]; exact ((if_neg h1).trans (if_pos h2)).symm
    · rw [if_neg h1, if_neg h2, if_neg h1, if_neg h2]; exact ((if_neg h1).trans (if_neg h2)).symm
theorem upd2_start {m : Str → Option Value} {x y : Str} {v u : Value} (hx : m x = some v) (hy : m y = some u) : m = upd2 m x v y u := by
  funext z
  show _ = if z = y then some u else if z = x then some v else m z
  by_cases h1 : z = y
  · rw [if_pos h1, h1, hy]
  · rw [if_neg h1]
    by_cases h2 : z = x
    · rw [if_pos h2, h2, hx]
    · rw [if_neg h2]
end wh

abbrev sc3 : Scope := { «kind» := ScopeKind.function, names := [(Str.ofString "a12", NameKind.local), (Str.ofString "a3", NameKind.local), (Str.ofString "b", NameKind.local), (Str.ofString "b1", NameKind.local), (Str.ofString "b2", NameKind.local), (Str.ofString "n", NameKind.local), (Str.ofString "q", NameKind.local), (Str.ofString "r", NameKind.local), (Str.ofString "_div2n1n", NameKind.globalImplicit)], isGenerator := false, isCoroutine := false }
section walk3
local macro_rules | `(tactic| walk_at "binaryOp RShift int int") => `(tactic| (with_reducible refine mn_rsh ?_))
local macro_rules | `(tactic| walk_at "binaryOp LShift int int") => `(tactic| (with_reducible refine mn_lsh ?_ ?_))
local macro_rules | `(tactic| walk_at "binaryOp LShift int int") => `(tactic| (with_reducible refine mn_one ?_ ?_))
local macro_rules | `(tactic| walk_at "binaryOp BitOr int int") => `(tactic| (with_reducible refine mn_or ?_ ?_))
local macro_rules | `(tactic| walk_at "binaryOp Mult int int") => `(tactic| (with_reducible refine mn_mul ?_ ?_))
local macro_rules | `(tactic| walk_at "exec While") => `(tactic| (refine Halt.out ?_))
local macro_rules | `(tactic| walk_at "exec While Compare cons nil") => `(tactic| (refine Halt.out ?_))
local macro_rules | `(tactic| walk_at "call ref") => `(tactic| (refine Halt.out ?_))

theorem while3 {w : World} {A : Around} {E : Value → Shared → Prop} {Q : Flow → Shared → Prop} {s : Shared} {h₀ : Heap} {L a : Addr} {cd : Value} {m : Str → Option Value} {news : List (Addr × Obj)}
    {q r A₀ b : Int} {t1 t2 t3 : Tok} (F : Fr h₀ L s.heap m) (N : News h₀ L s.heap news) (hq : m "q" = some (.int q t1)) (hr : m "r" = some (.int r t2)) (hb : m "b" = some (.int b t3))
    (hb0 : 0 < b) (I : Inv3 A₀ b q r)
    (h : ∀ t u h' tk', Fr h₀ L h' (upd2 m "q" (.int (A₀ / b) t) "r" (.int (A₀ % b) u)) → News h₀ L h' news → Q .next { s with heap := h', toks := tk' })
    (hE : PassesOwn (model PySem.Challenge.rw_xp0011_01.row.prog w) A (envOf "_div3n2n" sc3 L a cd) E) :
    wpAny (model PySem.Challenge.rw_xp0011_01.row.prog w) A (exec
        (Stmt.While
          ((Expr.Name (Str.ofString "r") { line := 28, col := 10, endLine := 28, endCol := 11 }).Compare [CmpOp.Lt]
            [Expr.Constant (Const.int 0) 0 { line := 28, col := 14, endLine := 28, endCol := 15 }]
            { line := 28, col := 10, endLine := 28, endCol := 15 })
          [Stmt.AugAssign (Expr.Name (Str.ofString "q") { line := 29, col := 8, endLine := 29, endCol := 9 })
              Operator.Sub (Expr.Constant (Const.int 1) 0 { line := 29, col := 13, endLine := 29, endCol := 14 })
              { line := 29, col := 8, endLine := 29, endCol := 14 },
            Stmt.AugAssign (Expr.Name (Str.ofString "r") { line := 30, col := 8, endLine := 30, endCol := 9 })
              Operator.Add (Expr.Name (Str.ofString "b") { line := 30, col := 13, endLine := 30, endCol := 14 })
              { line := 30, col := 8, endLine := 30, endCol := 14 }]
          [] { line := 28, col := 4, endLine := 30, endCol := 14 })
        (envOf (Str.ofString "_div3n2n")
          sc3
          L a cd)) Q E s := by
  refine While_inv2 (fun k m' nw => ∃ q r t u, nw = news ∧ m' = upd2 m "q" (.int q t) "r" (.int r u) ∧ Inv3 A₀ b q r ∧ (-r).toNat = k) F N ⟨q, r, t1, t2, rfl, upd2_start hq hr, I, rfl⟩ ?_ hE
  rintro k m₁ nw h₁ tk₁ F₁ N₁ ⟨q, r, t, u, rfl, rfl, I, hk⟩
  have hb' : upd2 m "q" (.int q t) "r" (.int r u) "b" = some (.int b t3) := hb
  walk1
  walk1
  walk1
  walk1
  walk1
  by_cases hr9 : r < 0
  · rw [decide_eq_true hr9, if_pos rfl]
    k_steps
    (have F9 := ‹Fr h₀ L _ _›; refine' ld F9 ?k2 ?_; case k2 => (with_unfolding_all exact hb))
    k_steps
    have F9 := ‹Fr h₀ L _ _›
    have N9 := ‹News h₀ L _ _›
    refine ⟨_, _, _, _, (-(r + b)).toNat, rfl, F9, N9, ?_, q - 1, r + b, _, _, rfl, upd2_again _ _ _ _ _ _ _, I.step hr9, rfl⟩
    omega
  · rw [decide_eq_false hr9, if_neg (by decide)]
    obtain ⟨e1, e2⟩ := I.done hb0 hr9
    subst e1; subst e2
    exact h _ _ _ _ F₁ N₁

theorem p3 (w : World) (k : Nat) (ih : P2 w k) : P3 w k := by
  intro a12 a3 b b1 b2 n t1 t2 t3 t4 t5 t6 hp
  unfold Does
  intro p loose mean mg mb dp un cn cs a ccd cl outer A₀ base h₀ L m news s Q E X B F N T hk hd hu ret
  obtain ⟨z1, z2, z3, z4⟩ := hp.bits
  have znn := hp.nn
  revert X
  k_fill
  intro X
  refine wpAny_call ?_
  k_dflt ktr_enter
  rename Fr _ _ _ _ => F1
  w_binds F1
  k_steps
  all_goals first
    | exact (show Side (n ≤ 1000000) from (by show n ≤ 1000000; omega))
    | exact side_le z2 znn (by decide)
    | exact side_le (intBits_add_le (intBits_sub_le z1 (intBits_mul_le z2 z4)) z2) znn (by decide)
    | exact (show Side (IntMulOk (2 ^ n - 1) b2) from IntMulOk.of_le (intBits_sub_le z4 (n := 1) (by decide)) z3 (by decide))
    | exact (show Side (0 ≤ a12 - b1 * 2 ^ n + b1 ∧ 0 ≤ a3 ∧ a3 < 2 ^ n) from (by
        have e9 := ‹a12 / 2 ^ n = b1›
        have e8 := Int.mul_ediv_add_emod a12 (2 ^ n)
        have e7 := Int.emod_nonneg a12 (by have := two_pos n; omega : (2 : Int) ^ n ≠ 0)
        have e6 := hp.b1pos
        have e5 := Int.mul_comm (2 ^ n) (a12 / 2 ^ n)
        rw [e9] at e5 e8
        exact ⟨by omega, hp.c0, hp.c1⟩))
    | skip
  · -- the while, the first way
    refine while3 ‹Fr _ _ _ _› ‹News _ _ _ _› rfl rfl rfl hp.bpos (Inv3.eqcase hp ‹_›) (fun t u h' tk' F' N' => ?_) (by passes_own)
    dsimp only
    k_steps
    have l8 := ‹_ ∧ AllLt _ news›
    exact ret _ [(_, _)] _ _ ⟨_, _, _, _, rfl, rfl⟩ ‹Fr h₀ L _ m› (news_sub ‹News h₀ L _ _› (by walk_at "mine sub")) (lt_one (allLt_mem l8.2))
  · refine Halt.go ?_
    refine Does.use (ih a12 b1 n _ _ _ (hp.sub ‹_›)) (by assumption) (by assumption) (by assumption) (by assumption) (by assumption) rfl ?_ ?_ ?_
    · show dp + 1 + (2 * k + 1) < _
      omega
    · show un + 3 + (20 * k + 30) < _
      omega
    rintro _ _ h9 tk9 ⟨D, u1, u2, c9, rfl, rfl⟩ F9 N9 hlt9
    have hlt : ∀ p ∈ news, p.1 < D := fun p hp => hlt9 _ (.head _) p hp
    simp only [List.cons_append, List.nil_append] at N9
    dsimp only
    k_steps
    all_goals first
      | exact side_le (intBits_le_of_natAbs (y := b1) (by have := Int.emod_nonneg a12 (by have := hp.b1pos; omega : b1 ≠ 0); have := Int.emod_lt_of_pos a12 hp.b1pos; omega) z2) znn (by decide)
      | exact (show Side (IntMulOk (a12 / b1) b2) from IntMulOk.of_le (intBits_le_of_natAbs (y := a12) (by
          have h1 := Int.ediv_nonneg hp.a0 (by have := hp.b1pos; omega : 0 ≤ b1)
          have h2 := Int.ediv_le_self b1 hp.a0
          omega) z1) z3 (by decide))
      | exact (show Side (0 ≤ a12 % b1 ∧ 0 ≤ a3 ∧ a3 < 2 ^ n) from ⟨Int.emod_nonneg _ (by have := hp.b1pos; omega), hp.c0, hp.c1⟩)
      | skip
    refine while3 ‹Fr _ _ _ _› ‹News _ _ _ _› rfl rfl rfl hp.bpos (Inv3.necase hp) (fun t u h' tk' F' N' => ?_) (by passes_own)
    dsimp only
    k_steps
    have l8 := ‹_ ∧ AllLt _ news›
    exact ret _ [(_, _)] _ _ ⟨_, _, _, _, rfl, rfl⟩ ‹Fr h₀ L _ m› (news_sub ‹News h₀ L _ _› (by walk_at "mine sub")) (lt_one (allLt_mem l8.2))
end walk3
end Mine
end

section
open PySem PySem.W PyProof.Rows PySem.Calls
set_option Elab.async false
set_option maxRecDepth 100000
set_option maxHeartbeats 4000000
set_option linter.unusedVariables false
namespace Mine
section
variable {prog : Program} {w : World} {A : Around} {E : Value → Shared → Prop} {s : Shared} {Q : Value → Shared → Prop} {x y : Int} {t u : Tok} {k n h : Nat}
theorem mn_half0 (hh : Q (.int (h : Int) s.toks) { s with toks := s.toks + 1 }) : wpAny (model prog w) A (binaryOp .RShift (.int ((2 * h : Nat) : Int) t) (.int 1 u)) Q E s := by
  refine mn_half ?_
  rw [show 2 * h / 2 = h by omega]; exact hh
theorem mn_half1 (hh : Q (.int ((h + 1 : Nat) : Int) s.toks) { s with toks := s.toks + 1 }) : wpAny (model prog w) A (binaryOp .RShift (.int ((2 * h + 1 + 1 : Nat) : Int) t) (.int 1 u)) Q E s := by
  refine mn_half ?_
  rw [show (2 * h + 1 + 1) / 2 = h + 1 by omega]; exact hh
theorem mn_par0 (hh : Q (.int 0 s.toks) { s with toks := s.toks + 1 }) : wpAny (model prog w) A (binaryOp .BitAnd (.int ((2 * h : Nat) : Int) t) (.int 1 u)) Q E s := by
  refine mn_and1 ?_
  rw [show 2 * h % 2 = 0 by omega]; exact hh
theorem mn_par1 (hh : Q (.int 1 s.toks) { s with toks := s.toks + 1 }) : wpAny (model prog w) A (binaryOp .BitAnd (.int ((2 * h + 1 : Nat) : Int) t) (.int 1 u)) Q E s := by
  refine mn_and1 ?_
  rw [show (2 * h + 1) % 2 = 1 by omega]; exact hh
end

section walk2
local macro_rules | `(tactic| walk_at "mine sub") => `(tactic| (intro p9 h9; simp only [List.cons_append, List.nil_append, List.mem_cons] at h9 ⊢; rcases h9 with h9 | h9 <;> first | exact .inl h9 | exact .inr h9 | exact .inr (.inl h9) | exact .inr (.inr h9) | exact .inr (.inr (.inl h9)) | exact .inr (.inr (.inr h9)) | exact .inr (.inr (.inr (.inr h9)))))
local macro_rules | `(tactic| walk_at "binaryOp RShift int int") => `(tactic| (with_reducible refine mn_rsh ?_))
local macro_rules | `(tactic| walk_at "binaryOp RShift int int") => `(tactic| (with_reducible first | refine mn_half0 ?_ | refine mn_half1 ?_))
local macro_rules | `(tactic| walk_at "binaryOp LShift int int") => `(tactic| (with_reducible refine mn_lsh ?_ ?_))
local macro_rules | `(tactic| walk_at "binaryOp LShift int int") => `(tactic| (with_reducible refine mn_one ?_ ?_))
local macro_rules | `(tactic| walk_at "binaryOp BitOr int int") => `(tactic| (with_reducible refine mn_or ?_ ?_))
local macro_rules | `(tactic| walk_at "binaryOp BitAnd int int") => `(tactic| (with_reducible first | refine mn_par0 ?_ | refine mn_par1 ?_ | refine mn_mask ?_))
local macro_rules | `(tactic| walk_at "inplaceOp LShift int int") => `(tactic| (with_reducible refine mn_ilsh1 ?_ ?_))
local macro_rules | `(tactic| walk_at "inplaceOp RShift int int") => `(tactic| (with_reducible refine mn_irsh1 ?_))
local macro_rules | `(tactic| walk_at "inplaceOp Add int int") => `(tactic| (with_reducible refine mn_inc ?_))
local macro_rules | `(tactic| walk_at "call builtin:divmod") => `(tactic| (k_here; k_dflt (refine' mn_divmod ?k1 ?k2 ?_ ?_; (case k1 => k_asm); (case k2 => k_asm)); focus skip))
local macro_rules | `(tactic| walk_at "call ref") => `(tactic| (refine Halt.out ?_))

theorem p2even (w : World) (k : Nat) (ih : P3 w k) (a b : Int) (h : Nat) (t1 t2 t3 : Tok) (hp : Pre2 (k + 1) a b (2 * h)) :
    Does w 28 (2 * (k + 1) + 1) (20 * (k + 1) + 30) [.int a t1, .int b t2, .int ((2 * h : Nat) : Int) t3] (OutPair (a / b) (a % b)) := by
  unfold Does
  intro p loose mean mg mb dp un cn cs e9 ccd cl outer A₀ base h₀ L m news s Q E X B F N T hk hd hu ret
  have znn := hp.nn
  revert X
  k_fill
  intro X
  refine wpAny_call ?_
  k_dflt ktr_enter
  rename Fr _ _ _ _ => F1
  w_binds F1
  k_steps
  all_goals first
    | exact (show Side (0 < b ∧ Builtin.divisionGoesByPylong a b = false) from ⟨hp.bpos, noPylong_base hp.a0 hp.bpos hp.lo ‹_›⟩)
    | exact (show Side (h ≤ 1000000) from (by show h ≤ 1000000; omega))
    | (have l8 := ‹∀ p ∈ news, p.1 < _›
       exact ret _ [(_, _)] _ _ ⟨_, _, _, _, rfl, rfl⟩ ‹Fr h₀ L _ m› (news_sub ‹News h₀ L _ _› (by walk_at "mine sub")) (lt_one l8))
    | skip
  refine Halt.go ?_
  have hh : 0 < h := by
    have e9 := ‹¬ ((Builtin.Int.intBits a : Nat) : Int) - ((2 * h : Nat) : Int) ≤ 4000›
    have e8 := bits_le (x := a) (k := 2 * (2 * h)) (by have := hp.a0; have := two_pos (2 * (2 * h)); omega) hp.alt
    omega
  obtain ⟨pa, ea⟩ := halves hp hh
  have D1' := fun t1 t2 t3 t4 t5 t6 => ih _ _ _ _ _ h t1 t2 t3 t4 t5 t6 pa
  simp only [ea] at D1'
  refine Does.use (D1' _ _ _ _ _ _) (by assumption) (by assumption) (by assumption) (by assumption) (by assumption) rfl ?_ ?_ ?_
  · show dp + 1 + (2 * k + 2) < _
    omega
  · show un + 3 + (20 * k + 40) < _
    omega
  rintro _ _ h9 tk9 ⟨D, u1, u2, c9, rfl, rfl⟩ F9 N9 hlt9
  have hlt : ∀ p ∈ news, p.1 < D := fun p hp => hlt9 _ (.head _) p (.tail _ hp)
  simp only [List.cons_append, List.nil_append] at N9
  dsimp only
  k_steps
  refine Halt.go ?_
  refine Does.use (ih _ _ _ _ _ h _ _ _ _ _ _ (second hp hh)) (by assumption) (by assumption) (by assumption) (by assumption) (by assumption) rfl ?_ ?_ ?_
  · show dp + 1 + (2 * k + 2) < _
    omega
  · show un + 3 + (20 * k + 40) < _
    omega
  rintro _ _ h9 tk9 ⟨D₂, u1, u2, c9, rfl, rfl⟩ F9 N9 hlt9
  simp only [List.cons_append, List.nil_append] at N9
  dsimp only
  have q0 : 0 ≤ a / 2 ^ h / b := Int.ediv_nonneg (Int.ediv_nonneg hp.a0 (by have := two_pos h; omega)) (by have := hp.bpos; omega)
  have qq := q2_lt (a := a) (h := h) hp.bpos
  have jj := join_halves (a := a) (b := b) (h := h) hp.bpos hp.a0
  have qs : Builtin.Int.intBits (a / 2 ^ h / b) ≤ 64000 := by
    have z1 : a < 2 ^ (2 * (2 * h)) := hp.alt
    refine bits_mono (k := 2 * (2 * h)) (by have := two_pos (2 * (2 * h)); omega) ?_ (by omega)
    have z2 := Int.ediv_le_self (a := a / 2 ^ h) b (Int.ediv_nonneg hp.a0 (by have := two_pos h; omega))
    have z3 := Int.ediv_le_self (a := a) (2 ^ h) hp.a0
    omega
  k_steps
  all_goals first
    | exact side_le qs (by omega : h ≤ 8000) (by decide)
    | exact (show Side (0 ≤ a / 2 ^ h / b ∧ 0 ≤ (a / 2 ^ h % b * 2 ^ h + a % 2 ^ h) / b ∧ (a / 2 ^ h % b * 2 ^ h + a % 2 ^ h) / b < 2 ^ h) from ⟨q0, qq.1, qq.2⟩)
    | skip
  rw [← jj.1, ← jj.2] at ret
  have l8 := ‹_ ∧ _ ∧ _ ∧ AllLt _ news›
  exact ret _ [(_, _)] _ _ ⟨_, _, _, _, rfl, rfl⟩ ‹Fr h₀ L _ m› (news_sub ‹News h₀ L _ _› (by walk_at "mine sub")) (lt_one (allLt_mem l8.2.2.2))

theorem p2odd (w : World) (k : Nat) (ih : P3 w k) (a b : Int) (h : Nat) (t1 t2 t3 : Tok) (hp : Pre2 (k + 1) a b (2 * h + 1)) :
    Does w 28 (2 * (k + 1) + 1) (20 * (k + 1) + 30) [.int a t1, .int b t2, .int ((2 * h + 1 : Nat) : Int) t3] (OutPair (a / b) (a % b)) := by
  unfold Does
  intro p loose mean mg mb dp un cn cs e9 ccd cl outer A₀ base h₀ L m news s Q E X B F N T hk hd hu ret
  have znn := hp.nn
  have za : Builtin.Int.intBits a ≤ 32000 := bits_mono (k := 2 * (2 * h + 1)) (by have := hp.a0; have := two_pos (2 * (2 * h + 1)); omega) hp.alt (by omega)
  have zb : Builtin.Int.intBits b ≤ 32000 := bits_mono (k := 2 * h + 1) (by have := hp.bpos; have := two_pos (2 * h + 1); omega) hp.hi (by omega)
  have hpp : Pre2 (k + 1) (a * 2) (b * 2) (2 * (h + 1)) := hp.pad (by have := hp.nk; rw [Nat.pow_succ] at this ⊢; omega) (by omega)
  revert X
  k_fill
  intro X
  refine wpAny_call ?_
  k_dflt ktr_enter
  rename Fr _ _ _ _ => F1
  w_binds F1
  k_steps
  all_goals first
    | exact (show Side (0 < b ∧ Builtin.divisionGoesByPylong a b = false) from ⟨hp.bpos, noPylong_base hp.a0 hp.bpos hp.lo ‹_›⟩)
    | exact (show Side (h + 1 ≤ 1000000) from (by show h + 1 ≤ 1000000; omega))
    | exact side_le za (Nat.le_refl 1) (by decide)
    | exact side_le zb (Nat.le_refl 1) (by decide)
    | (have l8 := ‹∀ p ∈ news, p.1 < _›
       exact ret _ [(_, _)] _ _ ⟨_, _, _, _, rfl, rfl⟩ ‹Fr h₀ L _ m› (news_sub ‹News h₀ L _ _› (by walk_at "mine sub")) (lt_one l8))
    | skip
  refine Halt.go ?_
  have hh : 0 < h + 1 := by omega
  obtain ⟨pa, ea⟩ := halves hpp hh
  have hbb := hpp.bpos
  have D1' := fun t1 t2 t3 t4 t5 t6 => ih _ _ _ _ _ (h + 1) t1 t2 t3 t4 t5 t6 pa
  simp only [ea] at D1'
  have e22 : 2 * (h + 1) = 2 * h + 1 + 1 := by omega
  simp only [e22] at D1'
  refine Does.use (D1' _ _ _ _ _ _) (by assumption) (by assumption) (by assumption) (by assumption) (by assumption) rfl ?_ ?_ ?_
  · show dp + 1 + (2 * k + 2) < _
    omega
  · show un + 3 + (20 * k + 40) < _
    omega
  rintro _ _ h9 tk9 ⟨D, u1, u2, c9, rfl, rfl⟩ F9 N9 hlt9
  have hlt : ∀ p ∈ news, p.1 < D := fun p hp => hlt9 _ (.head _) p (.tail _ hp)
  simp only [List.cons_append, List.nil_append] at N9
  dsimp only
  k_steps
  refine Halt.go ?_
  refine Does.use (ih _ _ _ _ _ (h + 1) _ _ _ _ _ _ (second hpp hh)) (by assumption) (by assumption) (by assumption) (by assumption) (by assumption) rfl ?_ ?_ ?_
  · show dp + 1 + (2 * k + 2) < _
    omega
  · show un + 3 + (20 * k + 40) < _
    omega
  rintro _ _ h9 tk9 ⟨D₂, u1, u2, c9, rfl, rfl⟩ F9 N9 hlt9
  simp only [List.cons_append, List.nil_append] at N9
  dsimp only
  have q0 : 0 ≤ a * 2 / 2 ^ (h + 1) / (b * 2) := Int.ediv_nonneg (Int.ediv_nonneg hpp.a0 (by have := two_pos (h + 1); omega)) (by omega)
  have qq := q2_lt (a := a * 2) (h := h + 1) hbb
  have jj := join_halves (a := a * 2) (b := b * 2) (h := h + 1) hbb hpp.a0
  have qs : Builtin.Int.intBits (a * 2 / 2 ^ (h + 1) / (b * 2)) ≤ 64000 := by
    have z1 : a * 2 < 2 ^ (2 * (2 * (h + 1))) := hpp.alt
    refine bits_mono (k := 2 * (2 * (h + 1))) (by have := two_pos (2 * (2 * (h + 1))); omega) ?_ (by omega)
    have z2 := Int.ediv_le_self (a := a * 2 / 2 ^ (h + 1)) (b * 2) (Int.ediv_nonneg hpp.a0 (by have := two_pos (h + 1); omega))
    have z3 := Int.ediv_le_self (a := a * 2) (2 ^ (h + 1)) hpp.a0
    omega
  k_steps
  all_goals first
    | exact side_le qs (by omega : h + 1 ≤ 8001) (by decide)
    | exact (show Side (0 ≤ a * 2 / 2 ^ (h + 1) / (b * 2) ∧ 0 ≤ (a * 2 / 2 ^ (h + 1) % (b * 2) * 2 ^ (h + 1) + a * 2 % 2 ^ (h + 1)) / (b * 2) ∧ (a * 2 / 2 ^ (h + 1) % (b * 2) * 2 ^ (h + 1) + a * 2 % 2 ^ (h + 1)) / (b * 2) < 2 ^ (h + 1)) from ⟨q0, qq.1, qq.2⟩)
    | skip
  rw [← (pad_back a b hp.bpos).1, ← (pad_back a b hp.bpos).2, ← jj.1, ← jj.2] at ret
  have l8 := ‹_ ∧ _ ∧ _ ∧ AllLt _ news›
  exact ret _ [(_, _)] _ _ ⟨_, _, _, _, rfl, rfl⟩ ‹Fr h₀ L _ m› (news_sub ‹News h₀ L _ _› (by walk_at "mine sub")) (lt_one (allLt_mem l8.2.2.2))

theorem p2zero (w : World) (a b : Int) (n : Nat) (t1 t2 t3 : Tok) (hp : Pre2 0 a b n) :
    Does w 28 1 30 [.int a t1, .int b t2, .int (n : Int) t3] (OutPair (a / b) (a % b)) := by
  unfold Does
  intro p loose mean mg mb dp un cn cs e9 ccd cl outer A₀ base h₀ L m news s Q E X B F N T hk hd hu ret
  have znn := hp.nn
  have zb := hp.base
  revert X
  k_fill
  intro X
  refine wpAny_call ?_
  k_dflt ktr_enter
  rename Fr _ _ _ _ => F1
  w_binds F1
  k_steps
  all_goals first
    | exact (show Side (0 < b ∧ Builtin.divisionGoesByPylong a b = false) from ⟨hp.bpos, noPylong_base hp.a0 hp.bpos hp.lo zb⟩)
    | (have l8 := ‹∀ p ∈ news, p.1 < _›
       exact ret _ [(_, _)] _ _ ⟨_, _, _, _, rfl, rfl⟩ ‹Fr h₀ L _ m› (news_sub ‹News h₀ L _ _› (by walk_at "mine sub")) (lt_one l8))
    | skip
end walk2

theorem p2all (w : World) : ∀ k, P2 w k
  | 0 => fun a b n t1 t2 t3 hp => p2zero w a b n t1 t2 t3 hp
  | k + 1 => fun a b n t1 t2 t3 hp => by
    have ih3 := p3 w k (p2all w k)
    rcases Nat.mod_two_eq_zero_or_one n with e | e
    · obtain ⟨h, rfl⟩ : ∃ h, n = 2 * h := ⟨n / 2, by omega⟩
      exact p2even w k ih3 a b h t1 t2 t3 hp
    · obtain ⟨h, rfl⟩ : ∃ h, n = 2 * h + 1 := ⟨n / 2, by omega⟩
      exact p2odd w k ih3 a b h t1 t2 t3 hp

/-- what the law asks of the fast division -/
theorem div2_does (w : World) (a b : Int) (n : Nat) (t1 t2 t3 : Tok) (a0 : 0 ≤ a) (ab : a < b * 2 ^ n) (lo : 2 ^ n ≤ 2 * b) (hi : b < 2 ^ n) (hn : n ≤ 16000) :
    Does w 28 5 70 [.int a t1, .int b t2, .int (n : Int) t3] (OutPair (a / b) (a % b)) := p2all w 2 a b n t1 t2 t3 ⟨a0, ab, lo, hi, by omega, hn⟩
end Mine
end

section
open PySem PySem.W PySem.Calls PyProof.Rows
set_option Elab.async false
set_option maxRecDepth 100000
set_option linter.unusedVariables false
namespace Mine
/-! the logic of a clean stack -/
section
variable {α β : Type} {M : Model} {A : Around} {E : Value → Shared → Prop} {s : Shared}
def wpC (M : Model) (A : Around) (t : Sem α) (Q : α → Shared → Prop) (E : Value → Shared → Prop) (s : Shared) : Prop :=
  ∀ Γ p, Γ.In A → cleanCode Γ.code = true → clean Γ.below = true → Sem.wp M Γ t (fun a _ s' => Q a s') (fun e _ s' => E e s') p s
def codeC (M : Model) (A : Around) (c : Code) (R : Result → Shared → Prop) (s : Shared) : Prop :=
  ∀ Γ p, Γ.code = c → Γ.Below A → clean Γ.below = true → wpCode M Γ R p s
theorem wpC_any {t : Sem α} {Q : α → Shared → Prop} (h : wpAny M A t Q E s) : wpC M A t Q E s := fun Γ p i _ _ => h Γ p i
theorem codeC_any {c : Code} {R : Result → Shared → Prop} (h : codeAny M A c R s) : codeC M A c R s := fun Γ p e i _ => h Γ p e i
theorem wpC_mono {t : Sem α} {Q Q' : α → Shared → Prop} {E' : Value → Shared → Prop} (h : wpC M A t Q E s) (hQ : ∀ a s, Q a s → Q' a s) (hE : ∀ e s, E e s → E' e s) : wpC M A t Q' E' s :=
  fun Γ p i a b => Sem.wp_mono M Γ t (fun v _ s' x => hQ v s' x) (fun e _ s' x => hE e s' x) p s (h Γ p i a b)
theorem codeC_mono {c : Code} {R R' : Result → Shared → Prop} (h : codeC M A c R s) (hR : ∀ r s, R r s → R' r s) : codeC M A c R' s :=
  fun Γ p e i b => wpCode_mono hR (h Γ p e i b)
theorem wpC_pure {a : α} {Q : α → Shared → Prop} (h : Q a s) : wpC M A (pure a) Q E s := wpC_any (wpAny_pure h)
theorem wpC_bind {m : Sem α} {f : α → Sem β} {Q : β → Shared → Prop} (h : wpC M A m (fun a s' => wpC M A (f a) Q E s') E s) : wpC M A (m >>= f) Q E s := fun Γ p i a b => by
  rw [Sem.wp_bind']
  exact Sem.wp_mono M Γ m (fun v p' s' x => x Γ p' i a b) (fun _ _ _ x => x) p s (h Γ p i a b)
/-- a plain step ahead of the rest -/
theorem wpC_step {m : Sem α} {f : α → Sem β} {Q : β → Shared → Prop} (h : wpAny M A m (fun a s' => wpC M A (f a) Q E s') E s) : wpC M A (m >>= f) Q E s := wpC_bind (wpC_any h)
/-- a clean step ahead of a plain rest -/
theorem wpC_last {m : Sem α} {f : α → Sem β} {Q : β → Shared → Prop} (h : wpC M A m (fun a s' => wpAny M A (f a) Q E s') E s) : wpC M A (m >>= f) Q E s := wpC_bind (wpC_mono h (fun _ _ => wpC_any) fun _ _ x => x)
theorem wpC_map {m : Sem α} {f : α → β} {Q : β → Shared → Prop} (h : wpC M A m (fun a s' => Q (f a) s') E s) : wpC M A (f <$> m) Q E s := fun Γ p i a b => by
  rw [Sem.wp_map]; exact h Γ p i a b
theorem wpC_holding {vs : List Value} {m : Sem α} {Q : α → Shared → Prop} (h : wpC M A m Q E s) : wpC M A (holding vs m) Q E s := fun Γ p i a b => by
  rw [Sem.wp_holding]; exact h Γ p i a b
theorem wpC_onRaise {m : Sem α} {k : Value → Sem Unit} {Q : α → Shared → Prop} (h : wpC M A m Q (fun e s' => wpC M A (k e) (fun _ s'' => E e s'') E s') s) : wpC M A (m.onRaise k) Q E s := fun Γ p i a b => by
  rw [Sem.wp_onRaise]
  exact Sem.wp_mono M Γ m (fun _ _ _ x => x) (fun e p' s' x => x Γ p' i a b) p s (h Γ p i a b)
theorem wpC_runValue {c : Code} {Q : Value → Shared → Prop} (hc : codeC M A c (fun r s' => match r with | .ok (.ret v) => Q v s' | .ok _ => False | .error e => E e s') s) : wpC M A (runValue c) Q E s := fun Γ p i a b => by
  rw [Sem.wp_runValue]
  exact hc _ p rfl (i.enter c none p (by intro x; cases x)) (clean_cons a b)
theorem wpC_run {c : Code} {h : Option Value} {Q : Flow → Shared → Prop} (hc : codeC M (A.mark h) c (fun r s' => match r with | .ok f => Q f s' | .error e => E e s') s) (hnb : h ≠ some byPass := by intro x; cases x) : wpC M A (run c h) Q E s := fun Γ p i a b => by
  rw [Sem.wp_run]
  exact hc _ p rfl (i.enter c h p hnb) (clean_cons a b)
theorem wpC_call {f : Value} {pos : List Value} {kw : List (Str × Value)} {Q : Value → Shared → Prop} (hc : codeC M A (.call f ⟨pos, kw⟩) (fun r s' => match r with | .ok (.ret v) => Q v s' | .ok _ => False | .error e => E e s') s) :
    wpC M A (call f pos kw) Q E s := wpC_runValue hc
theorem codeC_of_tree {c : Code} {R : Result → Shared → Prop} (hc : cleanCode c = true)
    (h : wpC M (A.under c) (M.den c) (fun fin s' => match fin with | .done f => R (.ok f) s' | .again c' => c'.quiet = true ∧ codeC M A c' R s') (fun e s' => R (.error e) s') s) : codeC M A c R s := fun Γ p e i b => by
  rw [wpCode_iff_wp, e]
  refine Sem.wp_mono M Γ _ (fun fin p' s' x => ?_) (fun _ _ _ x => x) p s (h Γ p (e ▸ i.in) (e ▸ hc) b)
  cases fin with
  | done f => exact x
  | again c' => exact ⟨x.1, x.2 (Γ.goto c') p' rfl (i.goto c') b⟩
/-- the stack's look: nothing lends the buffer -/
theorem exported_look (self : Value) : ∃ f : Code × Pos → Bool, PySem.Builtin.Bytes.exported self = .stack (fun st => pure (st.any f)) ∧
    ∀ c p, guardIds.contains (match c with | .builtin id _ => id | _ => "") = false → cleanCode c = true → f (c, p) = false := by
  refine ⟨_, rfl, fun c p hn hc => ?_⟩
  cases c with
  | builtin id args =>
    have hd : PySem.Builtin.Bytes.decodersThatHold.contains id = false := by simpa [cleanCode] using hc
    dsimp only at hn
    split
    all_goals try rfl
    all_goals rename_i heq
    all_goals try (injection heq with heq _; injection heq with heq _; subst heq; exact absurd hn (by decide +kernel))
    all_goals (injection heq with heq _; injection heq with heq _; subst heq; rw [hd, Bool.and_false])
  | _ => rfl
theorem look_none {f : Code × Pos → Bool} (hf : ∀ c p, guardIds.contains (match c with | .builtin id _ => id | _ => "") = false → cleanCode c = true → f (c, p) = false) :
    ∀ l : List (Code × Pos), clean l = true → guardsOf l = [] → l.any f = false
  | [], _, _ => rfl
  | (c, p) :: l, hc, hg => by
    obtain ⟨c1, c2⟩ := clean_parts hc
    rw [guardsOf_cons] at hg
    obtain ⟨g1, g2⟩ := List.append_eq_nil_iff.mp hg
    rw [List.any_cons, look_none hf l c2 g2, Bool.or_false]
    refine hf c p ?_ c1
    cases c with
    | builtin id args =>
      by_cases q : guardIds.contains id = true
      case neg => exact Bool.eq_false_iff.mpr q
      case pos =>
        have : Code.guards (.builtin id args) = [.builtin id args] := by
          show (if guardIds.contains id = true then [Code.builtin id args] else []) = _
          exact if_pos q
        rw [this] at g1; cases g1
    | _ => exact (by decide +kernel : guardIds.contains "" = false)
theorem wpC_exported {self : Value} {Q : Bool → Shared → Prop} (hg : A.guards = some []) (h : Q false s) : wpC M A (PySem.Builtin.Bytes.exported self) Q E s := fun Γ p i a b => by
  obtain ⟨f, hf, hn⟩ := exported_look self
  rw [hf, Sem.wp_stack]
  have hgs : guardsOf ((Γ.code, p) :: Γ.below) = [] := by rw [guardsOf_cons]; exact i.2.2.2.1 [] hg
  show Q (((Γ.code, p) :: Γ.below).any f) s
  rw [look_none hn _ (clean_cons a b) hgs]
  exact h
end
end Mine
end

section
open PySem PySem.W PySem.Calls PyProof.Rows
set_option Elab.async false
set_option maxRecDepth 100000
set_option maxHeartbeats 1000000
set_option linter.unusedVariables false
namespace Mine
theorem ba_mro : mroOf (.type "bytearray") = pure [.type "bytearray", .type "object"] := by rw [mroOf_type]; kernel_rfl
theorem ba_lookup_new : typeLookup (.type "bytearray") "__new__" = pure (some (.builtin "bytearray.__new__")) := by rw [typeLookup_type, builtinLookup_eq_fast]; kernel_rfl
theorem ba_slot_init : Slot "bytearray" "__init__" "bytearray.__init__" :=
  .of (owner := "bytearray") (n := "__init__") (by rw [typeLookup_type, builtinLookup_eq_fast]; kernel_rfl) (by decide +kernel) (by decide +kernel) (by decide +kernel)
    (by first | exact .inl (by decide +kernel) | exact .inr (by decide +kernel)) (by rw [isSubtype_type]; kernel_rfl)
theorem ba_called : TypeCalled "bytearray" "bytearray.__new__" "bytearray.__init__" :=
  ⟨by decide +kernel, by decide +kernel, ⟨_, _, ba_mro⟩, madeBy_type ba_mro ba_lookup_new (by decide +kernel), by decide +kernel, by rw [isSubtype_type]; kernel_rfl, ba_slot_init⟩
theorem ba_typeCall (a : Value) : checkTypeCall "bytearray" ⟨[a], []⟩ = pure () := by kernel_rfl
theorem ba_newCall (a : Value) : checkBuiltinCall "bytearray.__new__" ⟨[.type "bytearray", a], []⟩ = pure () := by kernel_rfl
theorem ba_plain_new : plainId "bytearray.__new__" = true := by decide +kernel
theorem ba_entry_new : entryFor table "bytearray.__new__" = some Builtin.«list.__new__» :=
  entryFor_alias (id' := "list.__new__") (by rw [fastTable_eq_tree]; kernel_rfl) (by decide +kernel) (by decide +kernel) (by rw [fastTable_eq_tree]; kernel_rfl)
theorem ba_entry_init : entryFor table "bytearray.__init__" = some Builtin.«bytearray.__init__» := entryFor_of_tree (by kernel_rfl)
set_option maxRecDepth 1000000 in
set_option maxHeartbeats 4000000 in
theorem ba_owner : ("bytearray.__new__".splitOn ".__new__").headD "" = "bytearray" := by simp +decide [String.splitOn, String.splitOnAux]
theorem ba_sub : isSubtype (.type "bytearray") (.type "bytearray") = pure true := by rw [isSubtype_type]; kernel_rfl
theorem ba_args (self a : Value) : argsOk "bytearray.__init__" ⟨[self, a], []⟩ := by
  unfold argsOk; kernel_rfl
theorem ba_bind (v : Value) : Builtin.Bytes.bindOptional "bytearray.__init__" "bytearray" ["source", "encoding", "errors"] [v] [] = pure [some v, none, none] := by kernel_rfl
section
variable {prog : Program} {w : World} {A : Around} {E : Value → Shared → Prop} {s : Shared}
theorem wpC_ifF {α : Type} {M : Model} {c : Bool} {a b : Sem α} {Q : α → Shared → Prop} (hc : c = false) (h : wpC M A b Q E s) : wpC M A (if c = true then a else b) Q E s := by
  subst hc
  exact h
theorem ba_new (a : Value) {Q₁ : Value → Shared → Prop}
    (h : Q₁ (.ref s.heap.objs.size) { s with heap := s.heap.push { cls := .type "bytearray", data := .bytearray #[] } }) :
    codeAny (model prog w) A (.call (.builtin "bytearray.__new__") ⟨[.type "bytearray", a], []⟩) (wants Q₁ E) s := by
  refine codeAny_of_tree ?_
  show wpAny _ A.in1 (do checkBuiltinCall "bytearray.__new__" ⟨[.type "bytearray", a], []⟩; again (.builtin "bytearray.__new__" ⟨[.type "bytearray", a], []⟩)) _ _ s
  refine wpAny_bind (wpAny_of_eq (ba_newCall a) (wpAny_pure ⟨plainId_quiet ba_plain_new _, codeAny_builtin_stack ba_entry_new rfl fun p st => ?_⟩))
  rw [Around.under_plainId ba_plain_new _]
  have hsub := ba_sub
  have hown := ba_owner
  obtain ⟨hp, g, d, tk, os⟩ := s
  simp only [hown]
  wp_walk
  exact h

theorem ba_rel : typeLookup (.type "bytearray") (Str.ofString "__release_buffer__") = pure (some (.builtin "bytearray.__release_buffer__")) := by rw [typeLookup_type, builtinLookup_eq_fast]; kernel_rfl
theorem ba_drop : ("bytearray.__release_buffer__".dropRight ("__release_buffer__".length + 1)) = "bytearray" := by decide +kernel
theorem ba_ends : ("bytearray.__release_buffer__".endsWith ("." ++ "__release_buffer__")) = true := by decide +kernel
theorem int_index : typeLookup (.type "int") "__index__" = pure (some (.builtin "int.__index__")) := by rw [typeLookup_type, builtinLookup_eq_fast]; kernel_rfl
theorem baO_type {S : Addr} {b : Array UInt8} {k : Nat} (h : s.heap.get? S = some { cls := .type "bytearray", data := .bytearray b k }) : s.TypeIs (.ref S) "bytearray" := ⟨_, h, rfl⟩
theorem ba_own {S : Addr} {b : Array UInt8} {k : Nat} {Q : Bool → Shared → Prop} (h : s.heap.get? S = some { cls := .type "bytearray", data := .bytearray b k }) (q : Q false s) : wpAny (model prog w) A (Builtin.Bytes.ownRelease (.ref S)) Q E s := by
  unfold Builtin.Bytes.ownRelease Builtin.Bytes.slotIsOwn
  refine wpAny_bind (wpAny_bind (wpAny_specialOf (baO_type h) ba_rel ?_))
  dsimp only
  rw [ba_ends, ba_drop]
  refine wpAny_isInstance (baO_type h) ba_sub ?_
  exact wpAny_pure q
theorem ba_upd {S : Addr} {b : Array UInt8} {k : Nat} {f : Array UInt8 → Array UInt8} {Q : Unit → Shared → Prop} (h : s.heap.get? S = some { cls := .type "bytearray", data := .bytearray b k }) (z : (f b).size ≤ sizeLine)
    (q : Q () { s with heap := s.heap.update S (Obj.mapBytearray f) }) : wpAny (model prog w) A (updateBytearray S f) Q E s := by
  unfold updateBytearray
  refine wpAny_bind (wpAny_load h ?_)
  show wpAny _ _ (update S (Obj.mapBytearray f) >>= fun _ => lookBehind S) _ _ _
  refine wpAny_bind (wpAny_update h ?_)
  refine wpAny_lookBehind (o := { cls := .type "bytearray", data := .bytearray (f b) k }) (Heap.get?_update_self (Obj.mapBytearray f) h rfl) ?_ q
  show (if (f b).size > sizeLine then some "bytearray:memory" else none) = none
  rw [if_neg (Nat.not_lt.mpr z)]
theorem ba_init {S : Addr} {n : Nat} {t : Tok} {Q : PySem.Fin → Shared → Prop} (hg : A.guards = some []) (hS : s.heap.get? S = some { cls := .type "bytearray", data := .bytearray #[] }) (hn : n ≤ sizeLine)
    (q : ∀ h', h'.get? S = some { cls := .type "bytearray", data := .bytearray (Array.replicate n 0) } → Heap.SameBut S s.heap h' → Q (.done (.ret .none)) { s with heap := h' }) :
    wpC (model prog w) A (Builtin.«bytearray.__init__» ⟨[.ref S, .int (n : Int) t], []⟩) Q E s := by
  unfold Builtin.«bytearray.__init__»
  refine wpC_step (ba_own hS ?_)
  dsimp only
  refine wpC_ifF rfl ?_
  refine wpC_step (wpAny_of_eq (ba_bind _) ?_)
  refine wpC_step (wpAny_of_eq (a := ()) rfl ?_)
  refine wpC_step (wpAny_of_eq (a := ()) rfl ?_)
  refine wpC_bind ?_
  unfold orM
  refine wpC_bind (wpC_exported hg ?_)
  dsimp only [toBool, cond_false]
  unfold Builtin.Bytes.exportsOf
  refine wpC_any (wpAny_bind (wpAny_bind (wpAny_load hS ?_)))
  dsimp only
  refine wpAny_pure (wpAny_pure (wpC_ifF (by decide) ?_))
  have hS1 : (s.heap.update S (Obj.mapBytearray fun _ => #[])).get? S = some { cls := .type "bytearray", data := .bytearray #[] } := Heap.get?_update_self (Obj.mapBytearray fun _ => #[]) hS rfl
  have k1 : Heap.SameBut S s.heap (s.heap.update S (Obj.mapBytearray fun _ => #[])) := Heap.SameBut.update ..
  refine wpC_any (wpAny_bind (ba_upd hS (Nat.zero_le _) ?_))
  have e1 : asStr? (Value.int (n : Int) t) = pure none := by kernel_rfl
  have e2 : (asIndex (Value.int (n : Int) t)).attempt = pure (.ok (n : Int)) := by kernel_rfl
  generalize e3 : (Value.int (n : Int) t) = vi at e1 e2 ⊢
  show wpAny _ A (asStr? vi >>= _) _ _ _
  refine wpAny_bind ?_
  rw [e1]
  refine wpAny_pure ?_
  refine bm_if_false rfl ?_
  refine wpAny_bind (wpAny_of_eq (a := ()) rfl ?_)
  refine wpAny_bind (wpAny_specialOf (T := "int") (by rw [← e3]; exact typeIs_int _ _ _) int_index ?_)
  refine bm_if_true rfl ?_
  refine wpAny_bind (wpAny_of_eq e2 ?_)
  have hb : (n : Int) ≤ 9000000000000000000 := by have : sizeLine ≤ 9000000000000000000 := by decide +kernel
                                                  omega
  have f1 : Builtin.Bytes.fitsIndex (n : Int) = true := by
    show (decide (-(2 ^ 63 : Int) ≤ (n : Int)) && decide ((n : Int) < 2 ^ 63)) = true
    rw [show (2 ^ 63 : Int) = 9223372036854775808 by decide +kernel, Bool.and_eq_true, decide_eq_true_eq, decide_eq_true_eq]
    omega
  have f2 : ((n : Int) == 2 ^ 63 - 1) = false := by
    rw [show (2 ^ 63 - 1 : Int) = 9223372036854775807 by decide +kernel, beq_eq_false_iff_ne]
    omega
  have f3 : Builtin.Bytes.tooLong (n : Int).toNat = false := by
    rw [Int.toNat_natCast]
    exact decide_eq_false (Nat.not_lt.mpr hn)
  show wpAny _ A (if (!Builtin.Bytes.fitsIndex (n : Int)) = true then _ else _) _ _ _
  rw [f1, if_neg (show ¬ ((!true) = true) by decide), if_neg (show ¬ ((n : Int) < 0) by omega), f2, if_neg Bool.false_ne_true, f3, if_neg Bool.false_ne_true]
  refine wpAny_bind (wpAny_rule ?_)
  rw [Int.toNat_natCast]
  by_cases hz : (n : Int) > 0
  · rw [if_pos hz]
    refine wpAny_bind (ba_upd hS1 (by simpa using hn) ?_)
    refine wpAny_pure (q _ ?_ ?_)
    · exact Heap.get?_update_self (Obj.mapBytearray fun _ => Array.replicate n 0) hS1 rfl
    · exact ⟨(Heap.SameBut.update ..).1.trans k1.1, fun b hb => ((Heap.SameBut.update ..).2 b hb).trans (k1.2 b hb)⟩
  · rw [if_neg hz]
    obtain rfl : n = 0 := by omega
    exact wpAny_pure (q _ hS1 k1)
end
end Mine
end

section
open PySem PySem.W PySem.Calls PyProof.Rows
set_option Elab.async false
set_option maxRecDepth 100000
set_option maxHeartbeats 1000000
set_option linter.unusedVariables false
namespace Mine
section
variable {prog : Program} {w : World} {A : Around} {E : Value → Shared → Prop} {s : Shared}
theorem clean_builtin {id : String} {args : Args} (h : PySem.Builtin.Bytes.decodersThatHold.contains id = false) : cleanCode (.builtin id args) = true := by
  unfold cleanCode; dsimp only; rw [h]; rfl
theorem codeC_builtin {id : String} {args : Args} {b : Builtin} {R : Result → Shared → Prop} (hd : PySem.Builtin.Bytes.decodersThatHold.contains id = false) (hb : entryFor table id = some b)
    (h : wpC (model prog w) (A.under (.builtin id args)) (b args) (fun fin s' => match fin with | .done f => R (.ok f) s' | .again c' => c'.quiet = true ∧ codeC (model prog w) A c' R s') (fun e s' => R (.error e) s') s) :
    codeC (model prog w) A (.builtin id args) R s := by
  refine codeC_of_tree (clean_builtin hd) ?_
  show wpC _ _ (match entryFor table id with | some b => b args | none => unsupported ((withoutEnding? id "#data").getD id)) _ _ s
  rw [hb]
  exact h
theorem ba_call {n : Nat} {t : Tok} {Q : Value → Shared → Prop} (hg : A.guards = some []) (hn : n ≤ sizeLine)
    (q : ∀ h', h'.get? s.heap.objs.size = some { cls := .type "bytearray", data := .bytearray (Array.replicate n 0) } → (∀ b o, s.heap.get? b = some o → h'.get? b = some o) → h'.objs.size = s.heap.objs.size + 1 → Q (.ref s.heap.objs.size) { s with heap := h' }) :
    wpC (model prog w) A (call (.type "bytearray") [.int (n : Int) t]) Q E s := by
  obtain ⟨c, tl, hmro⟩ := ba_called.mro
  refine wpC_call (codeC_of_tree rfl ?_)
  show wpC _ _ (callAny (.type "bytearray") _) _ _ _
  refine wpC_pure ⟨Code.quiet_builtin _ (by decide +kernel), codeC_builtin (by decide +kernel) F.entry_type_call ?_⟩
  rw [Around.under_plain (weight_type_call_type _ _ []) rfl]
  unfold Builtin.«type.__call__»
  refine wpC_ifF rfl ?_
  dsimp only
  refine wpC_ifF ba_called.canCreate ?_
  refine wpC_step (wpAny_of_eq (ba_typeCall _) ?_)
  refine wpC_step (wpAny_of_eq hmro ?_)
  refine wpC_ifF rfl ?_
  refine wpC_step (wpAny_of_eq ba_called.made ?_)
  dsimp only
  refine wpC_step (wpAny_pure ?_)
  have hS : (s.heap.push { cls := .type "bytearray", data := .bytearray #[] }).get? s.heap.objs.size = some { cls := .type "bytearray", data := .bytearray #[] } := Heap.get?_push_size _ rfl
  refine wpC_step (wpAny_holding (wpAny_call (codeAny_mono (ba_new _ (E := fun _ _ => False) (Q₁ := fun v s' => v = .ref s.heap.objs.size ∧ s' = { s with heap := s.heap.push { cls := .type "bytearray", data := .bytearray #[] } }) ⟨rfl, rfl⟩) ?_)))
  rintro (e | f) s₁ hr
  · exact hr.elim
  cases f with
  | ret obj =>
    obtain ⟨rfl, rfl⟩ := hr
    have hT : ({ s with heap := s.heap.push { cls := .type "bytearray", data := .bytearray #[] } } : Shared).TypeIs (.ref s.heap.objs.size) "bytearray" := baO_type hS
    refine wpC_step (wpAny_isInstance hT ba_sub ?_)
    refine wpC_ifF rfl ?_
    refine wpC_bind (wpC_holding ?_)
    unfold callSpecial?
    refine wpC_step (wpAny_specialOf hT ba_slot_init.lookup ?_)
    dsimp only
    refine wpC_holding ?_
    refine wpC_step (wpAny_of_eq (ba_slot_init.bind _) ?_)
    dsimp only
    refine wpC_last (wpC_call (codeC_of_tree rfl ?_))
    show wpC _ _ (do checkBuiltinCall "bytearray.__init__" ⟨[.ref s.heap.objs.size, .int (n : Int) t], []⟩; again (.builtin "bytearray.__init__" ⟨[.ref s.heap.objs.size, .int (n : Int) t], []⟩)) _ _ _
    refine wpC_step (ba_slot_init.check _ _ _ _ _ _ _ _ hT (ba_args _ _) ?_)
    refine wpC_pure ⟨plainId_quiet ba_slot_init.plain _, codeC_builtin (by decide +kernel) ba_entry_init ?_⟩
    rw [Around.under_plainId ba_slot_init.plain _]
    refine ba_init hg hS hn fun h' g k => ?_
    dsimp only
    refine wpAny_pure ?_
    dsimp only
    refine wpC_ifF rfl ?_
    refine wpC_pure ?_
    refine q h' g (fun b o e => ?_) ?_
    · exact (k.2 b (Nat.ne_of_lt (Heap.lt_size e))).trans (Heap.get?_push_of_some _ e)
    · exact k.1.trans (Heap.size_push ..)
  | _ => exact hr.elim
end
end Mine
end

section
open PySem PySem.W PySem.Calls PyProof.Rows
set_option Elab.async false
set_option maxRecDepth 100000
set_option maxHeartbeats 1000000
set_option linter.unusedVariables false
namespace Mine
section
variable {α β : Type} {M : Model} {A : Around} {E : Value → Shared → Prop} {s : Shared} {env : Env}
theorem wpC_standAt {pos : Pos} {Q : Unit → Shared → Prop} (h : Q () s) : wpC M A (standAt pos) Q E s := fun _ _ _ _ _ => h
theorem wpC_point {Q : Unit → Shared → Prop} (h : Q () s) : wpC M A point Q E s := fun _ _ _ _ _ => h
/-- a statement ahead of others -/
theorem wpC_execs_cons {st : Stmt} {rest : List Stmt} {Q : Flow → Shared → Prop}
    (h : wpC M A (exec st env) (fun f s' => match f with | .next => wpC M A (execs rest env) Q E s' | f => Q f s') E s) : wpC M A (execs (st :: rest) env) Q E s := by
  rw [execs_cons]
  refine wpC_bind (wpC_mono h (fun f s' x => ?_) fun _ _ x => x)
  cases f <;> first | exact x | exact wpC_pure x
/-- plain statements ahead of the rest -/
theorem wpC_execs_split {l rest : List Stmt} {Q : Flow → Shared → Prop}
    (h : wpAny M A (execs l env) (fun f s' => match f with | .next => wpC M A (execs rest env) Q E s' | f => Q f s') E s) : wpC M A (execs (l ++ rest) env) Q E s := by
  intro Γ p i a b
  have key : ∀ (l : List Stmt) (p : Pos) (s : Shared), Sem.wp M Γ (execs l env) (fun f _ s' => match f with | .next => wpC M A (execs rest env) Q E s' | f => Q f s') (fun e _ s' => E e s') p s →
      Sem.wp M Γ (execs (l ++ rest) env) (fun f _ s' => Q f s') (fun e _ s' => E e s') p s := by
    intro l
    induction l with
    | nil => intro p s g; exact (show wpC M A (execs rest env) Q E s from g) Γ p i a b
    | cons st l ih =>
      intro p s g
      show Sem.wp M Γ (execs (st :: (l ++ rest)) env) _ _ p s
      rw [execs_cons, Sem.wp_bind'] at g ⊢
      refine Sem.wp_mono M Γ _ (fun f p' s' x => ?_) (fun _ _ _ x => x) p s g
      cases f <;> first | exact ih p' s' x | exact x
  exact key l p s (h Γ p i)
theorem wpC_Assign_Name {x : Str} {pos' pos : Pos} {value : Expr} {Q : Flow → Shared → Prop}
    (h : wpC M A (eval value env) (fun v s₁ => wpAny M A (storeName env x v) (fun _ => Q .next) E s₁) E s)
    (hs : swapsWith value (some (.Name x pos')) pos.line env = pure false := by rfl) : wpC M A (exec (.Assign [.Name x pos'] value pos) env) Q E s := by
  rw [exec_Assign_Name env x pos' value pos hs]
  refine wpC_bind (wpC_standAt (wpC_bind (wpC_mono h (fun v s₁ g => ?_) fun _ _ x => x)))
  exact wpC_any (wpAny_bind (wpAny_standAt (wpAny_bind (wpAny_bindName (wpAny_mono g (fun _ _ x => wpAny_pure x) fun _ _ x => x)))))
theorem wpC_Return {e : Expr} {pos : Pos} {Q : Flow → Shared → Prop} (h : wpC M A (eval e env) (fun v => Q (.ret v)) E s) : wpC M A (exec (.Return (some e) pos) env) Q E s := by
  rw [exec_Return_some]
  exact wpC_bind (wpC_standAt (wpC_bind (wpC_mono h (fun _ _ x => wpC_pure x) fun _ _ x => x)))
theorem wpC_operate {vs : List Value} {m : Sem Value} {Q : Value → Shared → Prop} (h : wpC M A m Q E s) : wpC M A (operate vs m) Q E s := fun Γ p i a b => by
  rw [Sem.wp_operate]; exact h Γ p i a b
theorem wpC_BinOp {l r : Expr} {op : Operator} {pos : Pos} {Q : Value → Shared → Prop}
    (h : wpAny M A (eval l env) (fun a s₁ => wpC M A (eval r env) (fun b s₂ => wpAny M A (binaryOp op a b) Q E s₂) E s₁) E s) : wpC M A (eval (.BinOp l op r pos) env) Q E s := by
  rw [eval_BinOp]
  refine wpC_step (wpAny_mono h (fun a s₁ g => wpC_bind (wpC_holding (wpC_mono g (fun b s₂ k => ?_) fun _ _ x => x))) fun _ _ x => x)
  exact wpC_bind (wpC_standAt (wpC_operate (wpC_any k)))
theorem wpC_If {test : Expr} {body orelse : List Stmt} {pos : Pos} {Q : Flow → Shared → Prop}
    (h : wpC M A (isTrue test env (eval test env)) (fun b s₂ => if b then wpC M A (execs body env) Q E s₂ else wpC M A (execs orelse env) Q E s₂) E s) : wpC M A (exec (.If test body orelse pos) env) Q E s := by
  rw [exec_If]
  refine wpC_bind (wpC_standAt (wpC_bind (wpC_mono h (fun b s₂ g => ?_) fun _ _ x => x)))
  cases b <;> exact g
theorem wpC_isTrue_Compare1 {l r : Expr} {op : CmpOp} {pos : Pos} {whole : Sem Value} {Q : Bool → Shared → Prop}
    (h : wpAny M A (eval l env) (fun a s₁ => wpC M A (eval r env) (fun b s₂ => wpAny M A (compareOp op a b) (fun c s₃ => wpAny M A (truthy c) Q E s₃) E s₂) E s₁) E s)
    (hm : behindInMarks op r = false := by with_unfolding_all rfl) : wpC M A (isTrue (.Compare l [op] [r] pos) env whole) Q E s := by
  rw [isTrue_Compare1, markedBehindIn_of_false hm]
  refine wpC_step (wpAny_mono h (fun a s₁ g => wpC_bind (wpC_holding (wpC_mono g (fun b s₂ k => ?_) fun _ _ x => x))) fun _ _ x => x)
  refine wpC_bind (wpC_standAt (wpC_bind (wpC_operate (wpC_any (wpAny_mono k (fun c s₃ k' => ?_) fun _ _ x => x)))))
  exact wpC_holding (wpC_any k')
theorem wpC_runOwn {c : Code} {h : Option Value} {Q : Flow → Shared → Prop}
    (hc : codeC M (A.mark h) c (fun r s' => match r with | .ok f => Q f s' | .error e => cameBackBy M A env E e s') s) (hnb : h ≠ some byPass := by intro x; cases x) : wpC M A (runOwn c env h) Q E s := by
  unfold runOwn
  exact wpC_onRaise (wpC_mono (wpC_run hc hnb) (fun _ _ x => x) fun _ _ x => wpC_any x)
theorem wpC_spliced_cons {x : Sem Value} {rest : List (Bool × Sem Value)} {Q : List Value → Shared → Prop}
    (h : wpC M A x (fun v s₁ => wpC M A (spliced rest) (fun vs s₂ => Q (v :: vs) s₂) E s₁) E s) : wpC M A (spliced ((false, x) :: rest)) Q E s := by
  rw [spliced]
  refine wpC_bind (wpC_mono h (fun v s₁ g => ?_) fun _ _ x => x)
  simp only [Bool.false_eq_true, if_false]
  exact wpC_bind (wpC_pure (wpC_bind (wpC_holding (wpC_mono g (fun vs s₂ k => wpC_pure k) fun _ _ x => x))))
theorem wpC_spliced_nil {Q : List Value → Shared → Prop} (h : Q [] s) : wpC M A (spliced []) Q E s := wpC_any (spliced_nil h)
theorem wpC_Tuple {elts : List Expr} {c : Nat} {pos : Pos} {Q : Value → Shared → Prop}
    (h : wpC M A (spliced (backTo pos (starEach elts env))) (fun vs s₁ => wpAny M A (newTuple vs) Q E s₁) E s) : wpC M A (eval (.Tuple elts c pos) env) Q E s := by
  rw [arm_eval_Tuple]
  exact wpC_bind (wpC_standAt (wpC_bind (wpC_mono h (fun _ _ x => wpC_any x) fun _ _ x => x)))
/-- the call of a def by its name, with arguments by their places -/
theorem wpC_callWith {pos : Pos} {a : Addr} {x : Sem Value} {rest : List (Bool × Sem Value)} {Q : Value → Shared → Prop}
    (h : wpAny M A (spliced ((false, x) :: rest)) (fun vs s₁ => FnAt a s₁.heap ∧ wpC M A (call (.ref a) vs) Q E s₁) E s) :
    wpC M A (callWith pos (.ref a) [] ((false, x) :: rest) []) Q E s := by
  unfold callWith
  refine wpC_step (wpAny_holding (evalArgs_plain (wpAny_mono h (fun vs s₁ g => ?_) fun _ _ x => x)))
  have tail : ∀ {t : Sem Value}, wpC M A t Q E s₁ → wpC M A (t >>= fun r => holding [r] point >>= fun _ => pure r) Q E s₁ :=
    fun ht => wpC_bind (wpC_mono ht (fun r s₂ hr => wpC_bind (wpC_holding (wpC_point (wpC_pure hr)))) fun _ _ x => x)
  refine wpC_bind (wpC_standAt ?_)
  refine wpC_bind (m := keeperOf (.ref a)) ?_
  unfold keeperOf
  obtain ⟨⟨oc, od, fd, sl, e⟩, g⟩ := g
  refine wpC_step (wpAny_load e ?_)
  refine wpC_pure ?_
  have keep : wpC M A (callMarked plainCall (.ref a) vs []) Q E s₁ := fun Γ p i a b => by
    unfold callMarked
    rw [Sem.wp_keep]
    exact g Γ p i a b
  have keep' : wpC M A (callMarked starredCall (.ref a) vs []) Q E s₁ := fun Γ p i a b => by
    unfold callMarked
    rw [Sem.wp_keep]
    exact g Γ p i a b
  dsimp only
  cases hs : (((false, x) :: rest).any (·.1) || ([] : List (Option Str × Sem Value)).any (·.1.isNone)) with
  | true => exact tail keep'
  | false =>
    dsimp only
    split
    · exact tail g
    · exact tail keep
theorem codeC_loop {c : Code} {R : Result → Shared → Prop} (hc : cleanCode c = true) (hq : c.quiet = true) (I : Nat → Shared → Prop)
    (turn : ∀ n s, I n s → wpC M (A.under c) (M.den c)
      (fun fin s' => match fin with
        | .done f => R (.ok f) s'
        | .again c' => (c' = c ∧ ∃ m, m < n ∧ I m s') ∨ (c'.quiet = true ∧ codeC M A c' R s')) (fun e s' => R (.error e) s') s)
    (n : Nat) (h : I n s) : codeC M A c R s := by
  induction n using Nat.strongRecOn generalizing s with
  | ind n ih =>
    refine codeC_of_tree hc (wpC_mono (turn n s h) (fun fin s' x => ?_) fun _ _ x => x)
    cases fin with
    | done f => exact x
    | again c' =>
      rcases x with ⟨rfl, m, hm, hI⟩ | x
      · exact ⟨hq, ih m hm hI⟩
      · exact x
end
section
variable {prog : Program} {w : World} {A : Around} {E : Value → Shared → Prop} {s : Shared} {env : Env} {R : Result → Shared → Prop}
theorem wpC_noted {α : Type} {m : Sem α} {Q : α → Shared → Prop} (h : wpC (model prog w) A m Q (notedBy (model prog w) A env E) s) : wpC (model prog w) A (m.onRaise fun x => do noteFrame x env; theTreesLotGoes x) Q E s :=
  wpC_onRaise (wpC_mono h (fun _ _ q => q) fun _ _ hx => wpC_any (wpAny_bind (wpAny_mono hx (fun _ _ e => wpAny_theTreesLotGoes e) fun _ _ e => e)))
theorem codeC_forLoop {target : Expr} {it : Value} {body orelse : List Stmt} (I : Nat → Shared → Prop)
    (turn : ∀ n s, I n s → wpAny (model prog w) A (pyNext it) (fun r s₁ => match r with
      | none => wpAny (model prog w) A (execs orelse env) (fun f s₃ => R (.ok f) s₃) (notedBy (model prog w) A env fun e s' => R (.error e) s') s₁
      | some v => wpAny (model prog w) A (assign target env v) (fun _ s₂ => wpC (model prog w) A (execs body env) (fun f s₃ => match f with
          | .next | .cont => ∃ m, m < n ∧ I m s₃
          | .brk => R (.ok .next) s₃
          | .ret v => R (.ok (.ret v)) s₃) (notedBy (model prog w) A env fun e s' => R (.error e) s') s₂) (notedBy (model prog w) A env fun e s' => R (.error e) s') s₁) (notedBy (model prog w) A env fun e s' => R (.error e) s') s)
    (n : Nat) (h : I n s) (ht : ∀ v, letOwnedTupleGo target it v = pure () := by intro _; rfl) : codeC (model prog w) A (.forLoop target it body orelse env) R s := by
  refine codeC_loop rfl rfl I (fun n s hI => ?_) n h
  show wpC _ _ ((forTurn target it body orelse env).onRaise (fun x => do noteFrame x env; theTreesLotGoes x)) _ _ s
  refine wpC_noted ?_
  simp only [forTurn]
  refine wpC_bind (wpC_standAt (wpC_step (wpAny_onRaise (wpAny_mono (turn n s hI) (fun r s₁ g => ?_) fun _ _ x => wpAny_standAt x))))
  cases r with
  | none => exact wpC_pure (.inr ⟨rfl, codeC_any (codeAny_block g)⟩)
  | some v =>
    refine wpC_step (wpAny_of_eq (ht v) ?_)
    refine wpC_step (wpAny_mono g (fun _ s₂ g₂ => wpC_bind (wpC_mono g₂ (fun f s₃ g₃ => ?_) fun _ _ x => x)) fun _ _ x => x)
    cases f with
    | next => exact wpC_pure (.inl ⟨rfl, g₃⟩)
    | cont => exact wpC_pure (.inl ⟨rfl, g₃⟩)
    | brk => exact wpC_pure g₃
    | ret v => exact wpC_pure g₃
theorem wpC_For {target iter : Expr} {body orelse : List Stmt} {pos : Pos} {Q : Flow → Shared → Prop}
    (h : wpAny (model prog w) A (eval iter env) (fun x s₁ => wpAny (model prog w) A (pyIter x) (fun it s₂ =>
      codeC (model prog w) A (.forLoop target it body orelse env) (fun r s' => match r with | .ok f => Q f s' | .error e => cameBackBy (model prog w) A env E e s') s₂) E s₁) E s)
    (hs : ∀ x, foldedSetIterable iter env x = pure x := by intro _; rfl) : wpC (model prog w) A (exec (.For target iter body orelse pos) env) Q E s := by
  rw [exec_For]
  refine wpC_bind (wpC_standAt (wpC_step (wpAny_mono h (fun x s₁ g => ?_) fun _ _ x => x)))
  refine wpC_step (wpAny_of_eq (hs x) (wpC_bind (wpC_standAt (wpC_step (wpAny_holding (wpAny_mono g (fun it s₂ k => wpC_runOwn k) fun _ _ x => x))))))
theorem codeC_func {body : List Stmt}
    (h : wpC (model prog w) (A.deeper env) (execs body env) (fun f s' => R (.ok (.ret (match f with | .ret v => v | _ => .none))) s')
      (fun e s' => wpAny (model prog w) (A.deeper env) (leaving env e) (fun _ s'' => R (.error e) s'') (fun e' s'' => R (.error e') s'') s') s) :
    codeC (model prog w) A (.func body env) R s := by
  refine codeC_of_tree rfl ?_
  show wpC _ (A.deeper env) (do point; match ← (execs body env).onRaise (leaving env) with | .ret v => ret v | _ => ret .none) _ _ s
  refine wpC_bind (wpC_point (wpC_bind (wpC_onRaise (wpC_mono h (fun f s' g => ?_) fun _ _ x => wpC_any x))))
  cases f <;> exact wpC_pure g
theorem codeC_call_function {a : Addr} {args : Args} {o : Obj} {fd : FuncData} {body : List Stmt} (hroom : A.depth < recursionLimit)
    (ho : s.heap.get? a = some o) (hd' : o.data = .func fd) (hco : fd.scope.isCoroutine = false) (hgen : fd.scope.isGenerator = false) (hbody : fd.body = .stmts body) (hcd : s.heap.CodeRec fd.code fd.qualname)
    (h : wpAny (model prog w) A.in1 (bindArgs fd args) (fun binds s₁ =>
      wpAny (model prog w) A.in1 (newFunctionEnv fd.scope fd.globals fd.closure binds (fd.qualname ++ ".<locals>.") (some a) fd.code none fd.builtins)
        (fun env s₂ => s₂.heap.NoLimit ∧ codeC (model prog w) A (.func body env) R s₂) (fun e s' => R (.error e) s') s₁) (fun e s' => R (.error e) s') s) :
    codeC (model prog w) A (.call (.ref a) args) R s := by
  refine codeC_of_tree rfl ?_
  show wpC _ A.in1 (callAny (.ref a) args) _ _ s
  simp only [callAny]
  refine wpC_step (wpAny_load ho ?_)
  obtain ⟨c, oc, vs, tq, hc, hoc, hdc, hq⟩ := hcd
  simp only [hd', callFunction, hco, hgen, hbody, hc]
  rw [hc] at h
  refine wpC_step (m := field (.ref c) 1) (wpAny_field hoc hdc hq (wpC_step (wpAny_pure ?_)))
  exact wpC_step (wpAny_mono h (fun binds s₁ h₁ => wpC_step (wpAny_mono h₁ (fun env s₂ h₂ => wpC_step (wpAny_enterFrame h₂.1 hroom
    (wpC_pure (And.intro rfl h₂.2)))) fun _ _ h' => h')) fun _ _ h' => h')
end
end Mine
end

section
open PySem PySem.W PySem.Calls PyProof.Rows
set_option Elab.async false
set_option maxRecDepth 100000
set_option maxHeartbeats 1000000
set_option linter.unusedVariables false
namespace Mine
section
variable {prog : Program} {w : World} {A₀ A : Around} {s : Shared} {base h₀ : Heap} {outer : List Env} {L : Addr} {m : Str → Option Value} {env : Env} {news : List (Addr × Obj)} {K : Frag} {p : Program} {loose : List Str} {mean : ExcName → Option Value} {mg mb : Str → Option Value}
  {R : Result → Shared → Prop} {name qual : Str} {params : Arguments} {body : List Stmt} {scope : Scope} {dV kV doc pm cdv ct oc : Value} {an od : Option Addr} {osl : Array (Option Value)} {f : Addr} {args : Args} {binds : List (Str × Value)}
/-- a def without cells, entered where the stack is clean -/
theorem codeC_def (B : Below A₀ base outer h₀) (F : Fr h₀ L s.heap m) (X₀ : K.In h₀) (N : News h₀ L s.heap news) (T : Top p loose mean mg mb h₀) (hA : A.frames = some (env :: outer)) (hf : env.frame = some L) (hke : env.scope.kind = .function)
    (ho : K.lookup f = some ⟨oc, od, .func (fnOf name qual params body scope dV kV doc pm an cdv ct), osl⟩) (hcd : codeIn K cdv qual = true) (hroom : A.depth < recursionLimit)
    (hbind : BindsTo s (fnOf name qual params body scope dV kV doc pm an cdv ct) args binds) (hloc : ∀ y ∈ binds, scope.names.lookup y.1 = some .local)
    (h : ∀ g L' h₁, Fr h₀ L g m → Fr g L' h₁ (fun y => binds.reverse.lookup y) → News g L' h₁ news → Below A base (env :: outer) g → K.In g → Top p loose mean mg mb g →
      wpC (model prog w) (A.deeper (envOf qual scope L' f cdv)) (execs body (envOf qual scope L' f cdv))
        (fun fl s' => LeaveK h₀ L m g R (match fl with | .ret v => v | _ => .none) s')
        (fun e s' => wpAny (model prog w) (A.deeper (envOf qual scope L' f cdv)) (leaving (envOf qual scope L' f cdv) e) (fun _ s'' => R (.error e) s'') (fun e' s'' => R (.error e') s'') s')
        { s with heap := h₁, toks := s.toks + binds.length })
    (hco : scope.isCoroutine = false) (hgen : scope.isGenerator = false) (hk : scope.kind = .function) (hcell : ∀ x ∈ scope.names, x.2 ≠ .cell) : codeC (model prog w) A (.call (.ref f) args) R s := by
  obtain ⟨FG, BG, st, lv⟩ := groundX (R := R) B F N hA hf hke
  refine codeC_call_function hroom ((X₀.keeps F.keep) _ _ ho) rfl hco hgen rfl (codeRec_of (X₀.keeps F.keep) hcd) (hbind _ _ _ _ ?_)
  refine wpAny_newFunctionEnv hcell hloc (fun h₁ hns sb => ⟨(T.nolimit.keeps F.keep).fresh _ sb, codeC_func ?_⟩) hk
  have up : ∀ b o, s.heap.get? b = some o → h₁.get? b = some o := fun b o e => sb.extBut b o (Nat.ne_of_lt (Heap.lt_size e)) (Heap.get?_push_of_some _ e)
  refine wpC_mono (h _ s.heap.objs.size h₁ FG ⟨hns, fun b o e => up b o (of_hideAll _ e), Nat.le_of_eq (hideAll_size _ _)⟩ (fun q hq => ?_) BG (X₀.keeps st) (T.keeps st)) (fun fl s' hl => lv _ _ hl) fun _ _ y => y
  exact ⟨up _ _ (N q hq).1, Nat.ne_of_lt (Heap.lt_size (N q hq).1), hideAll_none _ (List.mem_map_of_mem hq)⟩
end
/-- what a call of the def at f gives where the stack is clean -/
def DoesC (w : World) (f : Addr) (dn un' : Nat) (vs : List Value) (Out : Value → List (Addr × Obj) → Prop) : Prop :=
  ∀ (p : Program) (loose : List Str) (mean : ExcName → Option Value) (mg mb : Str → Option Value)
    (dp un : Nat) (cn : Str) (cs : Scope) (a : Addr) (ccd : Value) (cl : List (Str × Addr)) (outer : List Env) (A₀ : Around) (base h₀ : Heap) (L : Addr) (m : Str → Option Value) (news : List (Addr × Obj)) (s : Shared) (Q E : Value → Shared → Prop),
    (mkK.heap_1 w.params).In h₀ → Below A₀ base outer h₀ → Fr h₀ L s.heap m → News h₀ L s.heap news → Top p loose mean mg mb h₀ → cs.kind = .function →
    dp + dn < recursionLimit → un + un' < cLine →
    (∀ v tl h' tk', Out v tl → Fr h₀ L h' m → News h₀ L h' (tl ++ news) → (∀ q ∈ tl, ∀ p ∈ news, p.1 < q.1) → Q v { s with heap := h', toks := tk' }) →
    wpC (model PySem.Challenge.rw_xp0011_01.row.prog w) (ktrTop dp un (some []) cn cs L a ccd cl outer) (call (.ref f) vs) Q E s
theorem Does.clean {w : World} {f : Addr} {dn un' : Nat} {vs : List Value} {Out : Value → List (Addr × Obj) → Prop} (D : Does w f dn un' vs Out) : DoesC w f dn un' vs Out := by
  intro p loose mean mg mb dp un cn cs a ccd cl outer A₀ base h₀ L m news s Q E X B F N T hk hd hu ret
  exact wpC_any (D p loose mean mg mb dp un cn cs a ccd cl outer A₀ base h₀ L m news s Q E X B F N T hk hd hu ret)
end Mine
end

section
open PySem PySem.W PySem.Calls PyProof.Rows
set_option Elab.async false
set_option maxRecDepth 100000
set_option maxHeartbeats 1000000
set_option linter.unusedVariables false
namespace Mine
section
variable {prog : Program} {w : World} {A : Around} {s : Shared} {h₀ : Heap} {env : Env} {x : Str} {px : Pos} {body : List Stmt} {R : Result → Shared → Prop} {I : Addr} {n : Nat} {P : Nat → Value → Prop} {St : Nat → Heap → Prop} {m₀ : Str → Option Value} {news₀ : List (Addr × Obj)}
/-- how a turn of a loop ends: on with the next, or out -/
def TurnTo (h₀ : Heap) (L I : Addr) (o : Obj) (s : Shared) (J : (Str → Option Value) → List (Addr × Obj) → Prop) (R : Result → Shared → Prop) (f : Flow) (s₃ : Shared) : Prop :=
  match f with
  | .next | .cont => ∃ h' tk' m' nx', s₃ = { s with heap := h', toks := tk' } ∧ Fr h₀ L h' m' ∧ News h₀ L h' ((I, o) :: nx') ∧ (∀ p ∈ nx', p.1 ≠ I) ∧ J m' nx'
  | .brk => R (.ok .next) s₃
  | .ret v => R (.ok (.ret v)) s₃
theorem loopInv_step {L : Addr} {m₁ : Str → Option Value} {nx : List (Addr × Obj)} {h h' : Heap} (hI₀ : h₀.get? I = none) (hIL : I ≠ L) (F : Fr h₀ L h m₁) (N : News h₀ L h nx) (off : ∀ p ∈ nx, p.1 ≠ I)
    (hk : ∀ b o, b ∉ [I] → h.get? b = some o → h'.get? b = some o) (hn : ∀ m, h.Ns L m → h'.Ns L m) {o : Obj} (ho : h'.get? I = some o) : Fr h₀ L h' m₁ ∧ News h₀ L h' ((I, o) :: nx) := by
  refine ⟨⟨hn _ F.ns, fun b q e => hk b q (fun hm => ?_) (F.keep b q e), F.above⟩, fun p hp => ?_⟩
  · rw [List.mem_singleton.mp hm, hI₀] at e; cases e
  · rcases List.mem_cons.mp hp with rfl | hp
    · exact ⟨ho, hIL, hI₀⟩
    · exact ⟨hk _ _ (fun hm => off p hp (List.mem_singleton.mp hm)) (N p hp).1, (N p hp).2⟩
theorem ns_at {h h' : Heap} {L I : Addr} (hIL : I ≠ L) (hk : ∀ b o, b ∉ [I] → h.get? b = some o → h'.get? b = some o) (m : Str → Option Value) (hn : h.Ns L m) : h'.Ns L m :=
  hn.at' fun o e => hk L o (fun hm => hIL (List.mem_singleton.mp hm).symm) e
theorem forC_w (W : Walks prog w A I [I] [I] n P St) (hIo : ∀ i h, St i h → ∃ o, h.get? I = some o) (hx : env.kindOf x = some .local) (hp : (env.scope.kind == .class || (env.scope.kind == .module && env.locals != env.globals)) = false)
    (hIL : I ≠ env.locals) (hI₀ : h₀.get? I = none) (J : Nat → (Str → Option Value) → List (Addr × Obj) → Prop)
    (hst : St 0 s.heap) (F : Fr h₀ env.locals s.heap m₀) (N : News h₀ env.locals s.heap news₀) (off : ∀ p ∈ news₀, p.1 ≠ I) (hj : J 0 m₀ news₀)
    (turn : ∀ i v o m₁ nx h tk, i < n → P i v → J i m₁ nx → (∀ p ∈ nx, p.1 ≠ I) → Fr h₀ env.locals h (fun y => if y = x then some v else m₁ y) → News h₀ env.locals h ((I, o) :: nx) →
      wpC (model prog w) A (execs body env) (TurnTo h₀ env.locals I o s (J (i + 1)) R) (notedBy (model prog w) A env fun e s' => R (.error e) s') { s with heap := h, toks := tk })
    (done : ∀ m₁ nx h tk, J n m₁ nx → Fr h₀ env.locals h m₁ → News h₀ env.locals h nx → R (.ok .next) { s with heap := h, toks := tk }) :
    codeC (model prog w) A (.forLoop (.Name x px) (.ref I) body [] env) R s := by
  refine codeC_forLoop (fun k s' => ∃ i h tk m₁ nx, s' = { s with heap := h, toks := tk } ∧ k = n + 1 - i ∧ i ≤ n ∧ St i h ∧ Fr h₀ env.locals h m₁ ∧ News h₀ env.locals h nx ∧ (∀ p ∈ nx, p.1 ≠ I) ∧ J i m₁ nx) ?_ (n + 1)
    ⟨0, s.heap, s.toks, m₀, news₀, rfl, rfl, Nat.zero_le _, hst, F, N, off, hj⟩
  rintro k s' ⟨i, h, tk, m₁, nx, rfl, rfl, hi, st, F, N, off, hJ⟩
  by_cases hlt : i < n
  · refine W.item i _ _ _ hlt st fun v h' tk' hP st' hk => ?_
    obtain ⟨o, ho⟩ := hIo _ _ st'
    obtain ⟨F', N'⟩ := loopInv_step hI₀ hIL F N off hk (ns_at hIL hk) ho
    dsimp only
    refine wpAny_assign_Name (wpAny_storeName_local hx F'.ns (fun h'' hn hs => ?_) hp)
    have st'' : St (i + 1) h'' := W.frame _ _ _ st' fun b hb q e => by
      rw [List.mem_singleton.mp hb] at e ⊢
      exact (hs.2 I hIL).trans e
    refine wpC_mono (turn i v o m₁ nx h'' _ hlt hP hJ off (F'.set hn hs) (N'.set hs)) (fun f s₃ t => ?_) fun _ _ x => x
    have go : (∃ h' tk' m' nx', s₃ = { s with heap := h', toks := tk' } ∧ Fr h₀ env.locals h' m' ∧ News h₀ env.locals h' ((I, o) :: nx') ∧ (∀ p ∈ nx', p.1 ≠ I) ∧ J (i + 1) m' nx') →
        ∃ m, m < n + 1 - i ∧ ∃ i h tk m₁ nx, s₃ = { s with heap := h, toks := tk } ∧ m = n + 1 - i ∧ i ≤ n ∧ St i h ∧ Fr h₀ env.locals h m₁ ∧ News h₀ env.locals h nx ∧ (∀ p ∈ nx, p.1 ≠ I) ∧ J i m₁ nx := by
      rintro ⟨h3, tk3, m3, nx3, rfl, F3, N3, off3, J3⟩
      refine ⟨n + 1 - (i + 1), by omega, i + 1, h3, tk3, m3, nx3, rfl, rfl, hlt, ?_, F3, fun p hp => N3 p (List.mem_cons_of_mem _ hp), off3, J3⟩
      refine W.frame _ _ _ st'' fun b hb q e => ?_
      rw [List.mem_singleton.mp hb] at e ⊢
      have e1 := (hs.2 I hIL).trans ho
      rw [e1] at e
      cases e
      exact (N3 (I, o) List.mem_cons_self).1
    cases f with
    | next => exact go t
    | cont => exact go t
    | brk => exact t
    | ret v => exact t
  · obtain rfl : i = n := Nat.le_antisymm hi (Nat.not_lt.mp hlt)
    refine W.done _ _ _ st fun h' tk' hk => wpAny_execs_nil ?_
    refine done m₁ nx h' tk' hJ ⟨ns_at hIL hk _ F.ns, fun b q e => hk b q (fun hm => ?_) (F.keep b q e), F.above⟩ fun p hp => ⟨hk _ _ (fun hm => off p hp (List.mem_singleton.mp hm)) (N p hp).1, (N p hp).2⟩
    rw [List.mem_singleton.mp hm, hI₀] at e; cases e
theorem forA_w (W : Walks prog w A I [I] [I] n P St) (hIo : ∀ i h, St i h → ∃ o, h.get? I = some o) (hx : env.kindOf x = some .local) (hp : (env.scope.kind == .class || (env.scope.kind == .module && env.locals != env.globals)) = false)
    (hIL : I ≠ env.locals) (hI₀ : h₀.get? I = none) (J : Nat → (Str → Option Value) → List (Addr × Obj) → Prop)
    (hst : St 0 s.heap) (F : Fr h₀ env.locals s.heap m₀) (N : News h₀ env.locals s.heap news₀) (off : ∀ p ∈ news₀, p.1 ≠ I) (hj : J 0 m₀ news₀)
    (turn : ∀ i v o m₁ nx h tk, i < n → P i v → J i m₁ nx → (∀ p ∈ nx, p.1 ≠ I) → Fr h₀ env.locals h (fun y => if y = x then some v else m₁ y) → News h₀ env.locals h ((I, o) :: nx) →
      wpAny (model prog w) A (execs body env) (TurnTo h₀ env.locals I o s (J (i + 1)) R) (notedBy (model prog w) A env fun e s' => R (.error e) s') { s with heap := h, toks := tk })
    (done : ∀ m₁ nx h tk, J n m₁ nx → Fr h₀ env.locals h m₁ → News h₀ env.locals h nx → R (.ok .next) { s with heap := h, toks := tk }) :
    codeAny (model prog w) A (.forLoop (.Name x px) (.ref I) body [] env) R s := by
  refine codeAny_forLoop (fun k s' => ∃ i h tk m₁ nx, s' = { s with heap := h, toks := tk } ∧ k = n + 1 - i ∧ i ≤ n ∧ St i h ∧ Fr h₀ env.locals h m₁ ∧ News h₀ env.locals h nx ∧ (∀ p ∈ nx, p.1 ≠ I) ∧ J i m₁ nx) ?_ (n + 1)
    ⟨0, s.heap, s.toks, m₀, news₀, rfl, rfl, Nat.zero_le _, hst, F, N, off, hj⟩
  rintro k s' ⟨i, h, tk, m₁, nx, rfl, rfl, hi, st, F, N, off, hJ⟩
  by_cases hlt : i < n
  · refine W.item i _ _ _ hlt st fun v h' tk' hP st' hk => ?_
    obtain ⟨o, ho⟩ := hIo _ _ st'
    obtain ⟨F', N'⟩ := loopInv_step hI₀ hIL F N off hk (ns_at hIL hk) ho
    dsimp only
    refine wpAny_assign_Name (wpAny_storeName_local hx F'.ns (fun h'' hn hs => ?_) hp)
    have st'' : St (i + 1) h'' := W.frame _ _ _ st' fun b hb q e => by
      rw [List.mem_singleton.mp hb] at e ⊢
      exact (hs.2 I hIL).trans e
    refine wpAny_mono (turn i v o m₁ nx h'' _ hlt hP hJ off (F'.set hn hs) (N'.set hs)) (fun f s₃ t => ?_) fun _ _ x => x
    have go : (∃ h' tk' m' nx', s₃ = { s with heap := h', toks := tk' } ∧ Fr h₀ env.locals h' m' ∧ News h₀ env.locals h' ((I, o) :: nx') ∧ (∀ p ∈ nx', p.1 ≠ I) ∧ J (i + 1) m' nx') →
        ∃ m, m < n + 1 - i ∧ ∃ i h tk m₁ nx, s₃ = { s with heap := h, toks := tk } ∧ m = n + 1 - i ∧ i ≤ n ∧ St i h ∧ Fr h₀ env.locals h m₁ ∧ News h₀ env.locals h nx ∧ (∀ p ∈ nx, p.1 ≠ I) ∧ J i m₁ nx := by
      rintro ⟨h3, tk3, m3, nx3, rfl, F3, N3, off3, J3⟩
      refine ⟨n + 1 - (i + 1), by omega, i + 1, h3, tk3, m3, nx3, rfl, rfl, hlt, ?_, F3, fun p hp => N3 p (List.mem_cons_of_mem _ hp), off3, J3⟩
      refine W.frame _ _ _ st'' fun b hb q e => ?_
      rw [List.mem_singleton.mp hb] at e ⊢
      have e1 := (hs.2 I hIL).trans ho
      rw [e1] at e
      cases e
      exact (N3 (I, o) List.mem_cons_self).1
    cases f with
    | next => exact go t
    | cont => exact go t
    | brk => exact t
    | ret v => exact t
  · obtain rfl : i = n := Nat.le_antisymm hi (Nat.not_lt.mp hlt)
    refine W.done _ _ _ st fun h' tk' hk => wpAny_execs_nil ?_
    refine done m₁ nx h' tk' hJ ⟨ns_at hIL hk _ F.ns, fun b q e => hk b q (fun hm => ?_) (F.keep b q e), F.above⟩ fun p hp => ⟨hk _ _ (fun hm => off p hp (List.mem_singleton.mp hm)) (N p hp).1, (N p hp).2⟩
    rw [List.mem_singleton.mp hm, hI₀] at e; cases e
theorem loopRange_A {r : Addr} {a b c : Int} {t u v : Tok} {k : Nat} {E : Value → Shared → Prop} (hh : A.handled = none) (hr : IsRange s.heap r a b c t u v) (hsmall : Builtin.Range.small a b c = true) (hk : Builtin.Range.rangeSize a b c = (k : Int))
    (hx : env.kindOf x = some .local) (hp : (env.scope.kind == .class || (env.scope.kind == .module && env.locals != env.globals)) = false)
    (F : Fr h₀ env.locals s.heap m₀) (N : News h₀ env.locals s.heap news₀) (J : Nat → (Str → Option Value) → List (Addr × Obj) → Prop) (hj : J 0 m₀ news₀)
    (turn : ∀ I i t o m₁ nx h tk, i < k → (∀ p ∈ news₀, p.1 < I) → J i m₁ nx → (∀ p ∈ nx, p.1 ≠ I) → Fr h₀ env.locals h (fun y => if y = x then some (.int (a + (i : Int) * c) t) else m₁ y) → News h₀ env.locals h ((I, o) :: nx) →
      wpAny (model prog w) A (execs body env) (TurnTo h₀ env.locals I o s (J (i + 1)) R) (notedBy (model prog w) A env fun e s' => R (.error e) s') { s with heap := h, toks := tk })
    (done : ∀ m₁ nx h tk, J k m₁ nx → Fr h₀ env.locals h m₁ → News h₀ env.locals h nx → R (.ok .next) { s with heap := h, toks := tk }) :
    wpAny (model prog w) A (pyIter (.ref r)) (fun it s₂ => codeAny (model prog w) A (.forLoop (.Name x px) it body [] env) R s₂) E s := by
  refine wpAny_pyIter_range hr hsmall ?_
  rw [hk]
  refine forA_w (W := Walks.range hh s.heap.objs.size a c k) (s := { s with heap := _ }) (m₀ := m₀) (news₀ := news₀) (fun i h st => ⟨_, st⟩) hx hp (Nat.ne_of_gt F.ns.lt) (next_is_new F) J ?_ (F.push _) (fun p hp => ⟨Heap.get?_push_of_some _ (N p hp).1, (N p hp).2⟩)
    (fun p hp => Nat.ne_of_lt (Heap.lt_size (N p hp).1)) hj ?_ done
  · show IsRangeIter _ _ _ _ _
    simpa using Heap.get?_push_size _ rfl
  · rintro i v o m₁ nx h tk hi ⟨t, rfl⟩ hJ off F₁ N₁
    exact turn _ i t o m₁ nx h tk hi (fun p hp => Heap.lt_size (N p hp).1) hJ off F₁ N₁
theorem loopRange_C {r : Addr} {a b c : Int} {t u v : Tok} {k : Nat} {E : Value → Shared → Prop} (hh : A.handled = none) (hr : IsRange s.heap r a b c t u v) (hsmall : Builtin.Range.small a b c = true) (hk : Builtin.Range.rangeSize a b c = (k : Int))
    (hx : env.kindOf x = some .local) (hp : (env.scope.kind == .class || (env.scope.kind == .module && env.locals != env.globals)) = false)
    (F : Fr h₀ env.locals s.heap m₀) (N : News h₀ env.locals s.heap news₀) (J : Nat → (Str → Option Value) → List (Addr × Obj) → Prop) (hj : J 0 m₀ news₀)
    (turn : ∀ I i t o m₁ nx h tk, i < k → (∀ p ∈ news₀, p.1 < I) → J i m₁ nx → (∀ p ∈ nx, p.1 ≠ I) → Fr h₀ env.locals h (fun y => if y = x then some (.int (a + (i : Int) * c) t) else m₁ y) → News h₀ env.locals h ((I, o) :: nx) →
      wpC (model prog w) A (execs body env) (TurnTo h₀ env.locals I o s (J (i + 1)) R) (notedBy (model prog w) A env fun e s' => R (.error e) s') { s with heap := h, toks := tk })
    (done : ∀ m₁ nx h tk, J k m₁ nx → Fr h₀ env.locals h m₁ → News h₀ env.locals h nx → R (.ok .next) { s with heap := h, toks := tk }) :
    wpAny (model prog w) A (pyIter (.ref r)) (fun it s₂ => codeC (model prog w) A (.forLoop (.Name x px) it body [] env) R s₂) E s := by
  refine wpAny_pyIter_range hr hsmall ?_
  rw [hk]
  refine forC_w (W := Walks.range hh s.heap.objs.size a c k) (s := { s with heap := _ }) (m₀ := m₀) (news₀ := news₀) (fun i h st => ⟨_, st⟩) hx hp (Nat.ne_of_gt F.ns.lt) (next_is_new F) J ?_ (F.push _) (fun p hp => ⟨Heap.get?_push_of_some _ (N p hp).1, (N p hp).2⟩)
    (fun p hp => Nat.ne_of_lt (Heap.lt_size (N p hp).1)) hj ?_ done
  · show IsRangeIter _ _ _ _ _
    simpa using Heap.get?_push_size _ rfl
  · rintro i v o m₁ nx h tk hi ⟨t, rfl⟩ hJ off F₁ N₁
    exact turn _ i t o m₁ nx h tk hi (fun p hp => Heap.lt_size (N p hp).1) hJ off F₁ N₁
end
end Mine
end

section
open PySem PySem.W PySem.Calls PyProof.Rows
set_option Elab.async false
set_option maxRecDepth 100000
set_option maxHeartbeats 1000000
set_option linter.unusedVariables false
namespace Mine
section
variable {M : Model} {A : Around} {E : Value → Shared → Prop} {s : Shared} {env : Env}
theorem wpC_Call_Name {x : Str} {p pos : Pos} {args : List Expr} {trees : List (Bool × Sem Value)} {Q : Value → Shared → Prop} (ht : backTo pos (starEach args env) = trees)
    (h : wpAny M A (eval (.Name x p) env) (fun f s₁ => wpC M A (callWith pos f [] trees []) Q E s₁) E s) : wpC M A (eval (.Call (.Name x p) args [] pos) env) Q E s := by
  subst ht
  rw [arm_eval_Call_Name']
  exact wpC_step h
theorem wpC_callWith_type {pos : Pos} {T : String} {x : Sem Value} {rest : List (Bool × Sem Value)} {Q : Value → Shared → Prop} (hplain : ((false, x) :: rest).any (·.1) = false)
    (h : wpAny M A (spliced ((false, x) :: rest)) (fun vs s₁ => wpC M A (call (.type T) vs) Q E s₁) E s) :
    wpC M A (callWith pos (.type T) [] ((false, x) :: rest) []) Q E s := by
  unfold callWith
  refine wpC_step (wpAny_holding (evalArgs_plain (wpAny_mono h (fun vs s₁ g => ?_) fun _ _ x => x)))
  refine wpC_bind (wpC_standAt ?_)
  simp only [hplain, List.any_nil, Bool.or_false]
  refine wpC_bind (wpC_pure ?_)
  exact wpC_bind (wpC_mono g (fun r s₂ hr => wpC_bind (wpC_holding (wpC_point (wpC_pure hr)))) fun _ _ x => x)
end
abbrev baO (b : Array UInt8) : Obj := { cls := .type "bytearray", data := .bytearray b }
theorem ba_K {prog : Program} {w : World} {A : Around} {E : Value → Shared → Prop} {s : Shared} {h₀ : Heap} {L : Addr} {m : Str → Option Value} {news : List (Addr × Obj)} {n : Nat} {t : Tok} {Q : Value → Shared → Prop}
    (F : Fr h₀ L s.heap m) (N : News h₀ L s.heap news) (hg : A.guards = some []) (hn : n ≤ sizeLine)
    (q : ∀ D h', Fr h₀ L h' m → News h₀ L h' ((D, baO (Array.replicate n 0)) :: news) → (∀ p ∈ news, p.1 < D) → Q (.ref D) { s with heap := h' }) :
    wpC (model prog w) A (call (.type "bytearray") [.int (n : Int) t]) Q E s :=
  ba_call hg hn fun h' g k z => q _ h' (F.keeps k) (fun p hp => (List.mem_cons.mp hp).elim (fun e => e ▸ ⟨g, Nat.ne_of_gt F.ns.lt, next_is_new F⟩) fun hp => ⟨k _ _ (N p hp).1, (N p hp).2⟩) fun p hp => Heap.lt_size (N p hp).1
end Mine
end

section
open PySem PySem.W PySem.Calls PyProof.Rows
set_option Elab.async false
set_option maxRecDepth 100000
set_option maxHeartbeats 1000000
set_option linter.unusedVariables false
namespace Mine
theorem ba_slot_set : Slot "bytearray" "__setitem__" "bytearray.__setitem__" :=
  .of (owner := "bytearray") (n := "__setitem__") (by rw [typeLookup_type, builtinLookup_eq_fast]; kernel_rfl) (by decide +kernel) (by decide +kernel) (by decide +kernel)
    (by first | exact .inl (by decide +kernel) | exact .inr (by decide +kernel)) (by rw [isSubtype_type]; kernel_rfl)
theorem ba_entry_set : entryFor table "bytearray.__setitem__" = some Builtin.«bytearray.__setitem__» := entryFor_of_tree (by kernel_rfl)
theorem ba_args_set (a b c : Value) : argsOk "bytearray.__setitem__" ⟨[a, b, c], []⟩ := by unfold argsOk; kernel_rfl
section
variable {prog : Program} {w : World} {A : Around} {E : Value → Shared → Prop} {s : Shared}
theorem fits_small {z : Int} (h0 : 0 ≤ z) (h1 : z < 100001) : Builtin.Bytes.fitsIndex z = true := by
  show (decide (-(2 ^ 63 : Int) ≤ z) && decide (z < 2 ^ 63)) = true
  rw [show (2 ^ 63 : Int) = 9223372036854775808 by decide +kernel, Bool.and_eq_true, decide_eq_true_eq, decide_eq_true_eq]
  omega
theorem sub_eq {z : Int} {t : Tok} (hz : Builtin.Bytes.fitsIndex z = true) : Builtin.Bytes.subscript? (.int z t) = pure (some z) := by
  have e1 : specialOf (.int z t) (Str.ofString "__index__") = pure (some (.builtin "int.__index__")) := by
    show typeLookup (.type "int") _ = _
    exact int_index
  have e2 : asIndex (Value.int z t) = pure z := by kernel_rfl
  unfold Builtin.Bytes.subscript?
  rw [e1, e2]
  show (if (!Builtin.Bytes.fitsIndex z) = true then _ else _) = _
  rw [hz]
  rfl
theorem ba_byteValue {x : Nat} {t : Tok} {Q : UInt8 → Shared → Prop} (h1 : x < 256) (q : Q x.toUInt8 s) : wpAny (model prog w) A (Builtin.Bytes.byteValue (.int (x : Int) t)) Q E s := by
  unfold Builtin.Bytes.byteValue
  have hx : 0 ≤ (x : Int) ∧ (x : Int) < 256 := by omega
  have hn : (x : Int).toNat = x := Int.toNat_natCast x
  generalize (x : Int) = z at hx hn ⊢
  have e2 : asIndex (Value.int z t) = pure z := by kernel_rfl
  refine wpAny_bind (wpAny_of_eq e2 ?_)
  refine bm_if_false (by simp only [Bool.or_eq_false_iff, decide_eq_false_iff_not]; omega) ?_
  rw [hn]
  exact wpAny_pure q
theorem ba_setItem {D : Addr} {b : Array UInt8} {k x : Nat} {t u : Tok} {Q : Unit → Shared → Prop} (h : s.heap.get? D = some (baO b)) (hk : k < b.size) (hb : b.size ≤ 100000) (hx : x < 256)
    (q : ∀ h', h'.get? D = some (baO (b.setIfInBounds k x.toUInt8)) → Heap.SameBut D s.heap h' → Q () { s with heap := h' }) :
    wpAny (model prog w) A (setItem (.ref D) (.int (k : Int) t) (.int (x : Int) u)) Q E s := by
  have hT : s.TypeIs (.ref D) "bytearray" := baO_type h
  unfold setItem
  try with_reducible refine wpAny_holding ?_
  first | refine wpAny_bind (wpAny_pure ?_) | skip
  refine wpAny_bind (wpAny_sequenceKey hT (by decide) ?_)
  refine wpAny_bind (wpAny_callSpecial?_slot (name := Str.ofString "__setitem__") hT ba_slot_set
    (wpAny_call_entry ba_slot_set hT ba_entry_set ?_ (ba_args_set _ _ _)))
  have s1 : Builtin.Bytes.subscript? (.int (k : Int) t) = pure (some (k : Int)) := sub_eq (fits_small (by omega) (by omega))
  have s2 : ∀ {Q : UInt8 → Shared → Prop} {E : Value → Shared → Prop}, Q x.toUInt8 s → wpAny (model prog w) A.in1 (Builtin.Bytes.byteValue (.int (x : Int) u)) Q E s  := by
    intro Q E q
    have h9 := ba_byteValue (x := x) (t := u) (prog := prog) (w := w) (A := A.in1) (E := E) (s := s) (Q := Q) hx
    exact h9 q
  generalize (Value.int (k : Int) t) = vi at s1 ⊢
  generalize (Value.int (x : Int) u) = vx at s2 ⊢
  unfold Builtin.«bytearray.__setitem__»
  refine bm_if_false rfl ?_
  refine wpAny_bind (wpAny_of_eq s1 ?_)
  dsimp only
  refine wpAny_bind (s2 ?_)
  unfold Builtin.Bytes.payload Builtin.Bytes.payload?
  refine wpAny_bind (wpAny_bind (wpAny_bind (wpAny_load h ?_)))
  refine wpAny_pure (wpAny_pure ?_)
  have e : seqIndex? (k : Int) b.size = some k := by
    have g1 : ¬ (k : Int) < 0 := by omega
    have g2 : (decide (0 ≤ (k : Int)) && decide ((k : Int) < (b.size : Int))) = true := by
      rw [Bool.and_eq_true, decide_eq_true_eq, decide_eq_true_eq]; omega
    show (if (decide (0 ≤ (if (k : Int) < 0 then (k : Int) + b.size else k)) && decide ((if (k : Int) < 0 then (k : Int) + b.size else k) < (b.size : Int))) = true then some ((if (k : Int) < 0 then (k : Int) + b.size else k)).toNat else none) = some k
    rw [if_neg g1, if_pos g2, Int.toNat_natCast]
  dsimp only
  rw [e]
  dsimp only
  refine wpAny_bind (ba_upd h (by
    have : (100000 : Nat) ≤ sizeLine := by decide +kernel
    rw [Array.size_setIfInBounds]; omega) ?_)
  exact wpAny_pure ⟨.none, rfl, wpAny_pure (q _ (Heap.get?_update_self (Obj.mapBytearray fun y => y.setIfInBounds k x.toUInt8) h rfl) (Heap.SameBut.update ..))⟩
end
end Mine
end

section
open PySem PySem.W PySem.Calls PyProof.Rows
set_option Elab.async false
set_option maxRecDepth 100000
set_option maxHeartbeats 1000000
set_option linter.unusedVariables false
namespace Mine
theorem ba_no_bytes : typeLookup (.type "bytearray") "__bytes__" = pure none := by rw [typeLookup_type, builtinLookup_eq_fast]; kernel_rfl
theorem ba_no_index : typeLookup (.type "bytearray") "__index__" = pure none := by rw [typeLookup_type, builtinLookup_eq_fast]; kernel_rfl
theorem ba_buffer : typeLookup (.type "bytearray") "__buffer__" = pure (some (.builtin "bytearray.__buffer__")) := by rw [typeLookup_type, builtinLookup_eq_fast]; kernel_rfl
theorem ba_dropB : ("bytearray.__buffer__".dropRight ("__buffer__".length + 1)) = "bytearray" := by decide +kernel
theorem ba_endsB : ("bytearray.__buffer__".endsWith ("." ++ "__buffer__")) = true := by decide +kernel
section
variable {prog : Program} {w : World} {A : Around} {E : Value → Shared → Prop} {s : Shared}
theorem ba_bytes_new {D : Addr} {b : Array UInt8} {Q : Value → Shared → Prop} (h : s.heap.get? D = some (baO b)) (hb : b.size ≤ sizeLine) (q : ∀ t k, Q (.bytes b t) { s with toks := k }) :
    codeAny (model prog w) A (.call (.builtin "bytes.__new__") ⟨[.type "bytes", .ref D], []⟩) (wants Q E) s := by
  refine codeAny_of_tree ?_
  show wpAny _ A.in1 (do checkBuiltinCall "bytes.__new__" ⟨[.type "bytes", .ref D], []⟩; again (.builtin "bytes.__new__" ⟨[.type "bytes", .ref D], []⟩)) _ _ s
  refine wpAny_bind (wpAny_of_eq (F.bm_newCall _) (wpAny_pure ⟨plainId_quiet F.bm_plain _, codeAny_builtin F.bm_entry ?_⟩))
  rw [Around.under_plainId F.bm_plain _]
  have hT : s.TypeIs (.ref D) "bytearray" := baO_type h
  unfold Builtin.«bytes.__new__»
  refine wpAny_bind (wpAny_of_eq (a := true) rfl ?_)
  refine bm_if_false rfl ?_
  refine wpAny_bind (wpAny_of_eq F.bm_sub ?_)
  refine bm_if_false rfl ?_
  refine wpAny_bind (wpAny_of_eq (F.bm_bind _) ?_)
  refine wpAny_bind (wpAny_of_eq (a := ()) rfl ?_)
  refine wpAny_bind (wpAny_of_eq (a := ()) rfl ?_)
  refine bm_if_false rfl ?_
  refine wpAny_bind (wpAny_specialOf hT ba_no_bytes ?_)
  refine wpAny_bind (wpAny_bind ?_)
  show wpAny _ _ (load D >>= _) _ _ _
  refine wpAny_bind (wpAny_load h ?_)
  refine wpAny_pure (wpAny_pure ?_)
  refine bm_if_false rfl ?_
  refine wpAny_bind (wpAny_specialOf hT ba_no_index ?_)
  refine bm_if_true rfl ?_
  show wpAny _ _ (Builtin.Bytes.buffer? "bytes.__new__" (.ref D) true >>= _) _ _ _
  refine wpAny_bind ?_
  unfold Builtin.Bytes.buffer?
  refine wpAny_bind (wpAny_specialOf hT ba_buffer ?_)
  dsimp only
  unfold Builtin.Bytes.slotIsOwn
  refine wpAny_bind (wpAny_bind (wpAny_specialOf hT ba_buffer ?_))
  dsimp only
  rw [ba_endsB, ba_dropB]
  refine wpAny_isInstance hT ba_sub ?_
  refine bm_if_false rfl ?_
  refine wpAny_bind (wpAny_specialOf hT ba_buffer ?_)
  refine wpAny_bind (ba_own h ?_)
  refine bm_if_false rfl ?_
  unfold Builtin.Bytes.payload Builtin.Bytes.payload?
  refine wpAny_bind (wpAny_bind (wpAny_bind (wpAny_load h ?_)))
  refine wpAny_pure (wpAny_pure (wpAny_pure ?_))
  dsimp only
  refine wpAny_bind (wpAny_rule ?_)
  refine wpAny_bind (wpAny_mkBytes ?_ hb)
  show wpAny _ _ (if (Value.type "bytes" == Value.type "bytes") = true then _ else _) _ _ _
  refine bm_if_true (by decide) ?_
  exact wpAny_pure (q _ _)
theorem bytes_of_ba {D : Addr} {b : Array UInt8} {Q : Value → Shared → Prop} (h : s.heap.get? D = some (baO b)) (hb : b.size ≤ sizeLine) (q : ∀ t k, Q (.bytes b t) { s with toks := k }) :
    wpAny (model prog w) A (call (.type "bytes") [.ref D]) Q E s := by
  refine callType_codes (Q₁ := fun obj s₁ => s₁.TypeIs obj "bytes" ∧ Q obj s₁) F.bm_called (F.bm_typeCall _) F.entry_object_init
    (ba_bytes_new h hb fun t k => ⟨PySem.W.typeIs_bytes _ _ _, q t k⟩) fun obj s₁ h₁ => ?_
  exact ⟨h₁.1, F.args_object_init_2 obj _, object_init_meets F.bm_called.init.lookup F.bm_called.made (by decide) prog w A.in1 _ s₁ ⟨h₁.1, rfl, h₁.2⟩⟩
theorem rangeSize_self {n : Nat} (h : 0 < n) : Builtin.Range.rangeSize 0 (n : Int) (n : Int) = ((1 : Nat) : Int) := by
  unfold Builtin.Range.rangeSize
  rw [if_pos (by omega), if_pos (by omega), Int.ediv_eq_zero_of_lt (by omega) (by omega)]
  rfl
theorem rangeSize_to {n : Nat} : Builtin.Range.rangeSize 0 (n : Int) 1 = (n : Int) := by
  rw [rangeSize_one]
  split <;> omega
theorem fitsLong {i : Int} (h : -1000000 ≤ i ∧ i ≤ 1000000) : Builtin.Range.rangeFitsLong i = true := by
  show (decide (-(2 ^ 63 : Int) ≤ i) && decide (i < 2 ^ 63)) = true
  rw [show (2 ^ 63 : Int) = 9223372036854775808 by decide +kernel, Bool.and_eq_true, decide_eq_true_eq, decide_eq_true_eq]
  omega
theorem range_small {a b c : Int} (ha : 0 ≤ a ∧ a ≤ 100000) (hb : 0 ≤ b ∧ b ≤ 100000) (hc : 0 < c ∧ c ≤ 100000) {k : Nat} (hk : Builtin.Range.rangeSize a b c = (k : Int)) (hk' : k ≤ 100000) : Builtin.Range.small a b c = true := by
  unfold Builtin.Range.small
  rw [hk, fitsLong (by omega), fitsLong (by omega), fitsLong (by omega), fitsLong (by omega), if_pos (by omega), fitsLong (by omega), Bool.or_true]
  rfl
end
theorem by_item {prog : Program} {w : World} {A : Around} {E : Value → Shared → Prop} {s : Shared} {value slice : Expr} {bs : Array UInt8} {k : Nat} {t u : Tok} {Q : Value → Shared → Prop} (hb : bs.size ≤ 100000) (hk : k < bs.size)
    (q : Q (.int ((bs[k]?.getD 0).toNat : Int) s.toks) { s with toks := s.toks + 1 })
    (hs : ∀ v, subscripted slice false v (.int (k : Int) u) = operate [v, .int (k : Int) u] (getItem v (.int (k : Int) u)) := by intro _; with_unfolding_all rfl)
    (ht : ∀ v r, letTemporaryGo value v r = pure () := by intro _ _; with_unfolding_all rfl) : wpAny (model prog w) A (subscriptTail value slice (.bytes bs t) (.int (k : Int) u)) Q E s := by
  obtain ⟨l⟩ := bs
  refine KBy.item_N ?_ ?_ ?_ ?_ (hs _) (ht _)
  · have : l.length ≤ 100000 := hb
    omega
  · exact Int.natCast_nonneg k
  · have : k < l.length := hk
    omega
  · rw [Int.toNat_natCast, List.getD_eq_getElem?_getD]
    rw [List.getElem?_toArray] at q
    exact q
/-- the bytes turned about, as far as the first j -/
noncomputable def revPart (bs : Array UInt8) : Nat → Array UInt8
  | 0 => Array.replicate bs.size 0
  | j + 1 => (revPart bs j).setIfInBounds (bs.size - 1 - j) (bs[j]?.getD 0)
theorem revPart_size (bs : Array UInt8) : ∀ j, (revPart bs j).size = bs.size
  | 0 => Array.size_replicate
  | j + 1 => by rw [revPart, Array.size_setIfInBounds]; exact revPart_size bs j
theorem revPart_get (bs : Array UInt8) : ∀ j, j ≤ bs.size → ∀ k, k < bs.size → bs.size - 1 - k < j → (revPart bs j)[k]? = bs[bs.size - 1 - k]?
  | 0, _, _, _, h => absurd h (Nat.not_lt_zero _)
  | j + 1, hj, k, hk, h => by
    rw [revPart, Array.getElem?_setIfInBounds]
    by_cases e : bs.size - 1 - j = k
    · rw [if_pos e, if_pos (by rw [revPart_size]; omega)]
      have e2 : bs.size - 1 - k = j := by omega
      have hlt : j < bs.size := by omega
      rw [e2, Array.getElem?_eq_getElem hlt]
      rfl
    · rw [if_neg e]
      exact revPart_get bs j (by omega) k hk (by omega)
theorem revPart_all (bs : Array UInt8) : revPart bs bs.size = bs.reverse := by
  apply Array.ext_getElem?
  intro k
  by_cases hk : k < bs.size
  · rw [revPart_get bs bs.size (Nat.le_refl _) k hk (by omega), Array.getElem?_eq_getElem (by omega), Array.getElem?_eq_getElem (by rw [Array.size_reverse]; exact hk), Array.getElem_reverse]
  · rw [Array.getElem?_eq_none (by rw [revPart_size]; omega), Array.getElem?_eq_none (by rw [Array.size_reverse]; omega)]
end Mine
end

section
open PySem PySem.W PyProof.Rows PySem.Calls
set_option Elab.async false
set_option maxRecDepth 100000
set_option maxHeartbeats 4000000
set_option linter.unusedVariables false
namespace Mine
local macro_rules | `(tactic| walk_at "mine enterC") => `(tactic| (refine' codeC_def ?k1 ?k2 ?k3 ?k4 ?k5 ?kA ?kF ?kK ?k6 ?k7 ?k8 ?k9 ?kB ?_ ?c2 ?c3 ?c4 ?c5; (case kA => exact rfl); (case kF => exact rfl); (case kK => assumption); (case k1 => k_asm); (case k2 => k_asm); (case k3 => k_asm); (case k4 => k_asm); (case k5 => k_asm); (case k6 => k_is); (case k7 => k_is); (case k8 => ktr_room); (case k9 => exact BindsTo.of_eq rfl); (case c5 => decide); (case kB => exact locs rfl); (case c2 => exact rfl); (case c3 => exact rfl); (case c4 => exact rfl); k_whole; intro g' L' h' FG' F' N' B' X' T'; (try dsimp only)))
theorem upd_same {x : Str} {a : Option Value} {f : Str → Option Value} (h : f x = a) : (fun y => if y = x then a else f y) = f := by
  funext y
  by_cases e : y = x
  · rw [if_pos e, e, h]
  · rw [if_neg e]
theorem upd_twice {x : Str} {a b : Option Value} {f : Str → Option Value} : (fun y => if y = x then a else (fun y => if y = x then b else f y) y) = fun y => if y = x then a else f y := by
  funext y
  by_cases e : y = x
  · rw [if_pos e, if_pos e]
  · rw [if_neg e, if_neg e]; exact if_neg e
local macro_rules | `(tactic| walk_at "subscriptTail") => `(tactic| (refine Halt.out ?_))
local macro_rules | `(tactic| walk_at "setItem ref int") => `(tactic| (refine Halt.out ?_))
theorem byteswap_does (w : World) (bs : Array UInt8) (t1 t2 : Tok) (h1 : 0 < bs.size) (h2 : bs.size ≤ 1000) :
    DoesC w 133 20 200 [.bytes bs t1, .int (bs.size : Int) t2] (fun v tl => ∃ t, v = .bytes bs.reverse t ∧ tl = []) := by
  unfold DoesC
  intro p loose mean mg mb dp un cn cs e9 ccd cl outer A₀ base h₀ L m news s Q E X B F N T hk hd hu ret
  revert X
  k_fill
  intro X
  refine wpC_call ?_
  k_dflt walk_at "mine enterC"
  rename_i g1 L1 h1' FG1 F1 N1 B1 X1 T1
  w_binds F1
  refine wpC_execs_cons (wpC_Assign_Name (wpC_Call_Name (trees := [(false, eval _ _)]) rfl ?_))
  k_steps
  refine wpC_callWith_type rfl (spliced_cons ?_)
  k_steps
  refine spliced_nil ?_
  refine ba_K (by k_asm) (by k_asm) rfl (by have : (1000 : Nat) ≤ sizeLine := by decide +kernel
                                            omega) fun D hD F3 N3 l3 => ?_
  dsimp only
  k_steps
  refine wpC_any (wpAny_execs_cons (wpAny_For ?_))
  k_steps
  rename Fr _ _ _ _ => F4
  rename News _ _ _ _ => N4
  rename IsRange _ _ _ _ _ _ _ _ => r4
  refine loopRange_A (k := 1) rfl r4 (range_small (by omega) (by omega) (by omega) (rangeSize_self h1) (by omega)) (rangeSize_self h1) rfl rfl F4 N4
    (fun i m₁ nx => ∃ vj v, m₁ = (fun y => if y = Str.ofString "j" then vj else if y = Str.ofString "i" then v else if y = Str.ofString "swapped_data" then some (Value.ref D) else if y = Str.ofString "data" then some (.bytes bs t1) else if y = Str.ofString "width" then some (.int (bs.size : Int) t2) else none) ∧ nx = (D, baO (if i = 0 then Array.replicate bs.size 0 else bs.reverse)) :: news) ?_ ?_ ?_
  · exact ⟨none, none, (by
      rw [upd_same (x := Str.ofString "j") (by rfl), upd_same (x := Str.ofString "i") (by rfl)]
      funext y
      simp only [List.reverse_cons, List.reverse_nil, List.nil_append, List.cons_append, List.lookup_cons, List.lookup_nil]
      by_cases e1 : y = Str.ofString "swapped_data"
      · rw [if_pos e1, if_pos e1]
      · rw [if_neg e1, if_neg e1]
        by_cases e2 : y = Str.ofString "width"
        · subst e2; rfl
        · have e2' : (y == Str.ofString "width") = false := beq_eq_false_iff_ne.mpr e2
          rw [e2']
          by_cases e3 : y = Str.ofString "data"
          · subst e3; rfl
          · have e3' : (y == Str.ofString "data") = false := beq_eq_false_iff_ne.mpr e3
            rw [e3', if_neg e2, if_neg e3]), by rw [if_pos rfl]⟩
  · rintro I i t o m₁ nx h tk hi hI ⟨vj, v, rfl, rfl⟩ off F5 N5
    obtain rfl : i = 0 := by omega
    rw [show (fun y => if y = Str.ofString "i" then some (Value.int (0 + ((0 : Nat) : Int) * (bs.size : Int)) t) else (fun y => if y = Str.ofString "j" then vj else if y = Str.ofString "i" then v else if y = Str.ofString "swapped_data" then some (Value.ref D) else if y = Str.ofString "data" then some (.bytes bs t1) else if y = Str.ofString "width" then some (.int (bs.size : Int) t2) else none) y) = fun y => if y = Str.ofString "j" then vj else if y = Str.ofString "i" then some (.int 0 t) else if y = Str.ofString "swapped_data" then some (Value.ref D) else if y = Str.ofString "data" then some (.bytes bs t1) else if y = Str.ofString "width" then some (.int (bs.size : Int) t2) else none from by
      funext y
      by_cases e : y = Str.ofString "i"
      · subst e; rw [if_pos rfl, if_neg (by decide), if_pos rfl, show (0 + ((0 : Nat) : Int) * (bs.size : Int)) = 0 by simp]
      · rw [if_neg e]; dsimp only; rw [if_neg e, if_neg e]] at F5
    rw [if_pos rfl] at N5 off
    have F5 : Fr g1 L1 h _ := F5
    have N5 : News g1 L1 h _ := N5
    clear hi F4 N4 r4
    refine wpAny_execs_cons (wpAny_For ?_)
    k_steps
    rename Fr _ _ _ _ => F6
    rename News _ _ _ _ => N6
    rename IsRange _ _ _ _ _ _ _ _ => r6
    have lD : ∀ q ∈ news, q.1 ≠ D := fun q hq e => Nat.lt_irrefl _ (e ▸ l3 q hq)
    have lI : D < I := hI (D, _) List.mem_cons_self
    refine loopRange_A (k := bs.size) rfl r6 (range_small (by omega) (by omega) (by omega) rangeSize_to (by omega)) rangeSize_to rfl rfl F6 N6
      (fun j m₂ nx => ∃ v, m₂ = (fun y => if y = Str.ofString "j" then v else if y = Str.ofString "i" then some (.int 0 t) else if y = Str.ofString "swapped_data" then some (Value.ref D) else if y = Str.ofString "data" then some (.bytes bs t1) else if y = Str.ofString "width" then some (.int (bs.size : Int) t2) else none) ∧ nx = (I, o) :: (D, baO (revPart bs j)) :: news) ?_ ?_ ?_
    · exact ⟨vj, rfl, rfl⟩
    · rintro I2 j u o2 m₂ nx h2 tk2 hj hI2 ⟨v, rfl, rfl⟩ off2 F7 N7
      rw [upd_twice, show (0 + (j : Int) * 1) = (j : Int) by omega] at F7
      have F7 : Fr g1 L1 h2 _ := F7
      have N7 : News g1 L1 h2 _ := N7
      clear F6 N6 r6 F5 N5
      k_steps
      refine Halt.go ?_
      rw [Int.zero_add]
      refine by_item (by omega) hj ?_
      dsimp only
      k_steps
      refine Halt.go ?_
      rw [show (0 + (bs.size : Int) - 1 - (j : Int)) = ((bs.size - 1 - j : Nat) : Int) by omega]
      have n1 : ∀ p ∈ [(I2, o2), (I, o)], p.1 ≠ D := by
        intro p hp
        have l2 : D < I2 := hI2 (D, _) (List.mem_cons_of_mem _ List.mem_cons_self)
        simp only [List.mem_cons, List.not_mem_nil, or_false] at hp
        rcases hp with rfl | rfl
        · exact Nat.ne_of_gt l2
        · exact Nat.ne_of_gt lI
      have N8 : News g1 L1 h2 ([(I2, o2), (I, o)] ++ (D, baO (revPart bs j)) :: news) := N7
      have gD := N8 (D, _) (List.mem_append_right _ List.mem_cons_self)
      refine ba_setItem gD.1 (by rw [revPart_size]; omega) (by rw [revPart_size]; omega) (UInt8.toNat_lt _) fun h3 g3 k3 => ?_
      have F9 : Fr g1 L1 h3 _ := ⟨F7.ns.sameBut k3 (Ne.symm gD.2.1), fun b ob e => (k3.2 b (fun q => by rw [q, gD.2.2] at e; cases e)).trans (F7.keep b ob e), F7.above⟩
      have N9 := News.setAt N8 n1 lD k3 g3
      clear F7 N7 N8
      dsimp only
      k_steps
      rw [show ((bs[j]?.getD 0).toNat.toUInt8) = bs[j]?.getD 0 from UInt8.ofNat_toNat] at N9
      refine ⟨h3, _, _, (I, o) :: (D, baO (revPart bs (j + 1))) :: news, rfl, F9, N9, fun p hp => ?_, some _, rfl, rfl⟩
      rcases List.mem_cons.mp hp with rfl | hp
      · exact off2 _ List.mem_cons_self
      · rcases List.mem_cons.mp hp with rfl | hp
        · exact off2 (D, baO (revPart bs j)) (List.mem_cons_of_mem _ List.mem_cons_self)
        · exact off2 _ (List.mem_cons_of_mem _ (List.mem_cons_of_mem _ hp))
    · rintro m₂ nx h2 tk2 ⟨v, rfl, rfl⟩ F7 N7
      have F7 : Fr g1 L1 h2 _ := F7
      have N7 : News g1 L1 h2 _ := N7
      clear F6 N6 r6 F5 N5
      dsimp only
      refine wpAny_execs_nil ⟨h2, tk2, _, (D, baO (revPart bs bs.size)) :: news, rfl, F7, N7, fun p hp => ?_, v, _, rfl, ?_⟩
      · rcases List.mem_cons.mp hp with rfl | hp
        · exact off (D, baO (Array.replicate bs.size 0)) List.mem_cons_self
        · exact off _ (List.mem_cons_of_mem _ hp)
      · rw [if_neg (by decide), revPart_all]
  · rintro m₁ nx h tk ⟨vj, v, rfl, rfl⟩ F5 N5
    rw [if_neg (by decide)] at N5
    have F5 : Fr g1 L1 h _ := F5
    have N5 : News g1 L1 h _ := N5
    dsimp only
    k_steps
    refine bytes_of_ba (N5 _ List.mem_cons_self).1 (by
      have : (100000 : Nat) ≤ sizeLine := by decide +kernel
      rw [Array.size_reverse]; omega) fun t k => ?_
    k_steps
    exact ret _ [] _ _ ⟨t, rfl, rfl⟩ ‹Fr h₀ L _ m› (news_sub ‹News h₀ L _ _› fun p hp => List.mem_cons_of_mem _ hp) (fun q hq => nomatch hq)
end Mine
end

section
open PySem PySem.W PyProof.Rows PySem.Calls
set_option Elab.async false
set_option maxRecDepth 100000
set_option maxHeartbeats 4000000
set_option linter.unusedVariables false
namespace Mine
theorem updF_app {d : Addr} {o : Obj} : ∀ {pre : List (Addr × Obj)} {post : List (Addr × Obj)}, (∀ p ∈ pre, p.1 ≠ d) → (∀ p ∈ post, p.1 ≠ d) → UpdF d o (pre ++ (d, o) :: post) (fun o' => pre ++ (d, o') :: post)
  | [], post, _, h => .head h
  | p :: pre, post, h1, h2 => .tail (h1 p List.mem_cons_self) (updF_app (fun q hq => h1 q (List.mem_cons_of_mem _ hq)) h2)
/-- a list of ints as it lies -/
abbrev lstO (vs : List Value) (c : Nat) : Obj := { cls := .type "list", data := .seq vs.toArray c }
/-- the code table at P: nothing in it, or the one def's code -/
def TabS (line col : Nat) (qual : Str) (q : Obj) (l : List (Addr × Obj)) : Prop :=
  q = tabObj #[] ∨ ∃ c' oc vs t, q = tabObj #[rawInt line, rawInt col, .ref c'] ∧ (c', oc) ∈ l ∧ oc.data = .fields vs ∧ vs[1]? = some (.str qual t)
theorem TabS.mono {line col : Nat} {qual : Str} {q : Obj} {l l' : List (Addr × Obj)} (h : TabS line col qual q l) (k : ∀ p ∈ l, p ∈ l') : TabS line col qual q l' :=
  h.imp id fun ⟨c, oc, vs, t, a, b, r⟩ => ⟨c, oc, vs, t, a, k _ b, r⟩
noncomputable def dval (w : Nat) : List Nat → Nat
  | [] => 0
  | d :: r => d + 2 ^ w * dval w r
theorem dval_append (w : Nat) : ∀ (a b : List Nat), dval w (a ++ b) = dval w a + 2 ^ (w * a.length) * dval w b
  | [], b => by simp [dval]
  | d :: a, b => by
    show d + 2 ^ w * dval w (a ++ b) = d + 2 ^ w * dval w a + 2 ^ (w * (a.length + 1)) * dval w b
    rw [dval_append w a b, Nat.mul_add, Nat.mul_add w, Nat.mul_one, Nat.pow_add, Nat.mul_comm (2 ^ (w * a.length)) (2 ^ w), Nat.mul_assoc]
    omega

theorem dval_lt {w : Nat} : ∀ {l : List Nat}, (∀ d ∈ l, d < 2 ^ w) → dval w l < 2 ^ (w * l.length)
  | [], _ => by simp [dval]
  | d :: l, h => by
    show d + 2 ^ w * dval w l < 2 ^ (w * (l.length + 1))
    have h1 := h d List.mem_cons_self
    have h2 := dval_lt fun x hx => h x (List.mem_cons_of_mem _ hx)
    rw [Nat.mul_add, Nat.mul_one, Nat.pow_add, Nat.mul_comm (2 ^ (w * l.length))]
    have h3 : 2 ^ w * (dval w l + 1) ≤ 2 ^ w * 2 ^ (w * l.length) := Nat.mul_le_mul_left _ h2
    rw [Nat.mul_add, Nat.mul_one] at h3
    omega
theorem dval_split (w : Nat) (ds : List Nat) {l m r : Nat} (h1 : l ≤ m) (h2 : m ≤ r) (h3 : r ≤ ds.length) :
    dval w ((ds.drop l).take (r - l)) = dval w ((ds.drop m).take (r - m)) * 2 ^ ((m - l) * w) + dval w ((ds.drop l).take (m - l)) := by
  have e : (ds.drop l).take (r - l) = (ds.drop l).take (m - l) ++ (ds.drop m).take (r - m) := by
    rw [show r - l = (m - l) + (r - m) by omega, List.take_add, List.drop_drop, show l + (m - l) = m by omega]
  rw [e, dval_append, List.length_take, List.length_drop, Nat.min_eq_left (by omega), Nat.mul_comm (2 ^ _), Nat.mul_comm w, Nat.add_comm]
section
variable {M : Model} {A : Around} {E : Value → Shared → Prop} {s : Shared} {h₀ : Heap} {L a : Addr} {m mg mb : Str → Option Value} {cn : Str} {cs : Scope} {ccd : Value} {cl : List (Str × Addr)} {p : Program} {loose : List Str} {mean : ExcName → Option Value}
  {name qual : Str} {params : Arguments} {body : List Stmt} {scope : Scope} {clos : List (Str × Addr)} {c P : Addr} {pos : Pos} {firstLine : Nat} {q : Obj} {pre rest : List (Addr × Obj)}
/-- a nested def made: its code newly laid, or found in the table -/
theorem nest_any {Q : Value → Shared → Prop} (F : Fr h₀ L s.heap m) (N : News h₀ L s.heap (pre ++ (P, q) :: rest)) (T : Top p loose mean mg mb h₀) (C : CodeHd h₀ c P) (hcd : ccd = .ref c) (o1 : ∀ p ∈ pre, p.1 ≠ P) (o2 : ∀ p ∈ rest, p.1 ≠ P)
    (tb : TabS pos.line pos.col qual q pre) (hcl : closureFor scope (envX cn cs L a ccd cl) = pure clos)
    (h : ∀ f c' oc vs t ctv doc tl q' h' tk, Fr h₀ L h' m → News h₀ L h' ((f, fnMade name qual params body scope clos doc ((mg "__name__").getD .none) c' ctv) :: (tl ++ pre ++ (P, q') :: rest)) →
      (c', oc) ∈ tl ++ pre → oc.data = .fields vs → vs[1]? = some (.str qual t) → TabS pos.line pos.col qual q' (tl ++ pre) → (∀ x ∈ tl, ∀ r ∈ pre, r.1 < x.1) → (∀ x ∈ tl, P < x.1) → (∀ x ∈ tl ++ pre, x.1 < f) → P < f → Q (.ref f) { s with heap := h', toks := tk }) :
    wpAny M A (makeFunction name qual params (.stmts body) scope (envX cn cs L a ccd cl) [] [] [] pos firstLine) Q E s := by
  rcases tb with rfl | ⟨c', oc, vs, t, rfl, hm, hd, hv⟩
  · refine nest_K F N T C hcd (updF_app o1 o2) trivial rfl hcl fun f c' oc vs t ctv doc h' tk F' N' hd hv l1 l2 => ?_
    refine h f c' oc vs t ctv doc [(c', oc)] _ h' tk F' N' (List.mem_append_left _ List.mem_cons_self) hd hv (.inr ⟨c', oc, vs, t, rfl, List.mem_append_left _ List.mem_cons_self, hd, hv⟩) (fun x hx r hr => ?_) (fun x hx => ?_) (fun x hx => ?_) ?_
    · rw [List.mem_singleton.mp hx]; exact l1 r (List.mem_append_left _ hr)
    · rw [List.mem_singleton.mp hx]; exact l1 (P, _) (List.mem_append_right _ List.mem_cons_self)
    · rcases List.mem_append.mp hx with hx | hx
      · rw [List.mem_singleton.mp hx]; exact l2
      · exact Nat.lt_trans (l1 x (List.mem_append_left _ hx)) l2
    · exact Nat.lt_trans (l1 (P, _) (List.mem_append_right _ List.mem_cons_self)) l2
  · refine nestHit_K (c' := c') F N T C hcd (List.mem_append_right _ List.mem_cons_self) (by simp [TriplesOk, rawInt]) (by simp [codeAmong, rawInt]) hcl fun f ctv doc h' tk F' N' l1 => ?_
    exact h f c' oc vs t ctv doc [] _ h' tk F' N' hm hd hv (.inr ⟨c', oc, vs, t, rfl, hm, hd, hv⟩) (fun x hx => nomatch hx) (fun x hx => nomatch hx) (fun x hx => l1 x (List.mem_append_left _ hx)) (l1 (P, _) (List.mem_append_right _ List.mem_cons_self))
end
end Mine
end

section
open PySem PySem.W PyProof.Rows PySem.Calls
set_option Elab.async false
set_option maxRecDepth 100000
set_option maxHeartbeats 4000000
set_option linter.unusedVariables false
namespace Mine
local macro_rules | `(tactic| walk_at "call ref") => `(tactic| (refine Halt.out ?_))
local macro_rules | `(tactic| walk_at "binaryOp RShift int int") => `(tactic| (refine Halt.out ?_))
local macro_rules | `(tactic| walk_at "binaryOp LShift int int") => `(tactic| (refine Halt.out ?_))
local macro_rules | `(tactic| walk_at "binaryOp Mult int int") => `(tactic| (refine Halt.out ?_))
local macro_rules | `(tactic| walk_at "subscriptTail") => `(tactic| (refine Halt.out ?_))
local macro_rules | `(tactic| walk_at "mine nest") => `(tactic| (refine' code_nest ?k1 ?k2 ?k3 ?k4 ?k5 ?kA ?kF ?kK ?k6 ?k7 ?k8 ?k9 ?kB ?_ ?c2 ?c3 ?c4 ?c5; (case kA => exact rfl); (case kF => exact rfl); (case kK => assumption); (case k1 => k_asm); (case k2 => k_asm); (case k3 => k_asm); (case k4 => k_asm); (case k5 => k_asm); (case k6 => assumption); (case k7 => exact codeRec_news (by k_asm) (by assumption) (by assumption) (by assumption)); (case k8 => ktr_room); (case k9 => exact BindsTo.of_eq rfl); (case c5 => decide); (case kB => exact locs rfl); (case c2 => exact rfl); (case c3 => exact rfl); (case c4 => exact rfl); k_whole; intro g' L' h' FG' F' N' B' X' T'))
theorem reorder3 {g h : Heap} {L : Addr} {x c1 c2 c3 : Addr × Obj} {tl front post : List (Addr × Obj)} (N : News g L h (x :: (tl ++ c1 :: c2 :: c3 :: front ++ post))) : News g L h (c1 :: x :: c2 :: c3 :: (tl ++ front ++ post)) := news_sub N fun p hp => by
  simp only [List.mem_cons, List.mem_append, List.cons_append, List.append_assoc] at hp ⊢
  rcases hp with h | h | h | h | h | h | h <;> simp [h]
theorem reorder5 {g h : Heap} {L : Addr} {x1 x2 x3 x4 y z : Addr × Obj} {l : List (Addr × Obj)} (N : News g L h (x1 :: x2 :: x3 :: x4 :: l)) (hy : y ∈ l) (hz : z ∈ l) : News g L h (y :: x1 :: x2 :: x3 :: x4 :: z :: l) := news_sub N fun p hp => by
  simp only [List.mem_cons] at hp ⊢
  rcases hp with rfl | h | h | h | h | rfl | h
  · exact .inr (.inr (.inr (.inr hy)))
  · simp [h]
  · simp [h]
  · simp [h]
  · simp [h]
  · exact .inr (.inr (.inr (.inr hz)))
  · simp [h]
theorem take_fo {g h : Heap} {L f : Addr} {x1 x2 : Addr × Obj} {fo : Obj} {r : List (Addr × Obj)} (N : News g L h (x1 :: x2 :: (f, fo) :: r)) : ∃ fo', fo' = fo ∧ News g L h (x1 :: x2 :: (f, fo') :: r) := ⟨fo, rfl, N⟩
theorem not_cell {x c1 c2 c3 : Addr × Obj} {tl front : List (Addr × Obj)} {vs : Array Value} {v1 v2 v3 : Option Value} (h : x ∈ tl ++ c1 :: c2 :: c3 :: front) (hx : x.2.data = .fields vs) (h1 : c1.2.data = .cell v1) (h2 : c2.2.data = .cell v2) (h3 : c3.2.data = .cell v3) : x ∈ tl ++ front := by
  rcases List.mem_append.mp h with h | h
  · exact List.mem_append_left _ h
  rcases List.mem_cons.mp h with rfl | h
  · rw [hx] at h1; cases h1
  rcases List.mem_cons.mp h with rfl | h
  · rw [hx] at h2; cases h2
  rcases List.mem_cons.mp h with rfl | h
  · rw [hx] at h3; cases h3
  · exact List.mem_append_right _ h
theorem small_bits {x : Nat} (h : x ≤ 1000000) : Builtin.Int.intBits (x : Int) ≤ 64 := by
  have e : (2 : Int) ^ 64 = 18446744073709551616 := by decide +kernel
  refine bits_le (k := 64) ?_ ?_ <;> rw [e] <;> omega
theorem nat_bits {x k : Nat} (h : x < 2 ^ k) : Builtin.Int.intBits (x : Int) ≤ k := by
  refine bits_le ?_ ?_
  · have : (0 : Int) < 2 ^ k := two_pos k
    omega
  · exact_mod_cast h
theorem item_lst {prog : Program} {w : World} {A : Around} {E : Value → Shared → Prop} {s : Shared} {value slice : Expr} {h₀ : Heap} {L l : Addr} {news : List (Addr × Obj)} {vs : List Value} {lc k : Nat} {u : Tok} {x : Value} {Q : Value → Shared → Prop}
    (N : News h₀ L s.heap news) (hm : (l, lstO vs lc) ∈ news) (hx : vs[k]? = some x) (hk : k ≤ 100000) (q : Q x s)
    (hs : subscripted slice false (.ref l) (.int (k : Int) u) = operate [.ref l, .int (k : Int) u] (getItem (.ref l) (.int (k : Int) u)) := by with_unfolding_all rfl)
    (ht : ∀ r, letTemporaryGo value (.ref l) r = pure () := by intro _; with_unfolding_all rfl) : wpAny (model prog w) A (subscriptTail value slice (.ref l) (.int (k : Int) u)) Q E s := by
  have hl : s.heap.IsList l vs.toArray := ⟨_, (N _ hm).1, rfl, lc, rfl⟩
  exact tail_of_ItemOn ⟨"list", _, slot_list_getitem.lookup, hl.typeIs, wpAny_getItem_list hl (by omega) (by omega) (by rw [Int.toNat_natCast]; simpa using hx) q⟩ hs ht
local macro_rules | `(tactic| walk_at "exec FunctionDef") => `(tactic| (refine Halt.out ?_))
local macro_rules | `(tactic| walk_at "mine enterX") => `(tactic| (refine' code_defC ?k1 ?k2 ?k3 ?k4 ?k5 ?kA ?kF ?kK ?k6 ?k7 ?k8 ?k9 ?kB ?kD ?_ ?c2 ?c3 ?c4; (case kA => exact rfl); (case kF => exact rfl); (case kK => assumption); (case k1 => k_asm); (case k2 => k_asm); (case k3 => k_asm); (case k4 => k_asm); (case k5 => k_asm); (case k6 => k_is); (case k7 => k_is); (case k8 => ktr_room); (case k9 => exact BindsTo.of_eq rfl); (case kB => exact rfl); (case kD => decide +kernel); (case c2 => exact rfl); (case c3 => exact rfl); (case c4 => exact rfl); k_whole; intro g' L' h' tk' cells' FG' F' N' Y' B' X' T' l1))
theorem digits_does (w : World) (l : Addr) (ds : List Nat) (vs : List Value) (lc : Nat) (n : Nat) (t : Tok) (hz : ds.length ≤ 100) (hn : n ≤ 400) (hv : IntsAre vs (ds.map Int.ofNat)) (hdd : ∀ d ∈ ds, d < 2 ^ n)
    (p : Program) (loose : List Str) (mean : ExcName → Option Value) (mg mb : Str → Option Value)
    (dp un : Nat) (cn : Str) (cs : Scope) (a : Addr) (ccd : Value) (cl : List (Str × Addr)) (outer : List Env) (A₀ : Around) (base h₀ : Heap) (L : Addr) (m : Str → Option Value) (front rest : List (Addr × Obj)) (q : Obj) (s : Shared) (Q E : Value → Shared → Prop)
    (X : (mkK.heap_1 w.params).In h₀) (B : Below A₀ base outer h₀) (F : Fr h₀ L s.heap m) (N : News h₀ L s.heap (front ++ (37, q) :: rest)) (T : Top p loose mean mg mb h₀) (hk : cs.kind = .function)
    (hdp : dp + 120 < recursionLimit) (hun : un + 1500 < cLine) (hl : (l, lstO vs lc) ∈ front) (o1 : ∀ p ∈ front, p.1 ≠ 37) (o2 : ∀ p ∈ rest, p.1 ≠ 37) (tb : TabS 34 4 (Str.ofString "_digits2int.<locals>.inner") q front)
    (ret : ∀ t q' tl h' tk', Fr h₀ L h' m → News h₀ L h' (tl ++ front ++ (37, q') :: rest) → TabS 34 4 (Str.ofString "_digits2int.<locals>.inner") q' (tl ++ front) → (∀ p ∈ tl, ∀ r ∈ front, r.1 < p.1) → (∀ p ∈ tl, 37 < p.1) → Q (.int (dval n ds : Int) t) { s with heap := h', toks := tk' }) :
    wpAny (model PySem.Challenge.rw_xp0011_01.row.prog w) (ktrTop dp un (some []) cn cs L a ccd cl outer) (call (.ref 42) [.ref l, .int (n : Int) t]) Q E s := by
  revert X
  k_fill
  intro X
  refine wpAny_call ?_
  k_dflt walk_at "mine enterX"
  rename_i g1 L1 h1 tk1 cells FG1 F1 N1 Y1 B1 X1 T1 l1
  k_cells Y1
  have C1 : CodeHd g1 41 37 := codeHd_of_K X1 (by kernel_rfl)
  refine wpAny_execs_cons ?_
  k_dflt (refine' nestDef_K ?d0 ?k0 ?a0 ?_; (case d0 => exact rfl); (case k0 => exact rfl); (case a0 => exact rfl))
  refine nest_any (pre := _ :: _ :: _ :: front) F1 (by k_asm) T1 C1 rfl ?_ o2 (tb.mono fun p hp => List.mem_cons_of_mem _ (List.mem_cons_of_mem _ (List.mem_cons_of_mem _ hp))) rfl ?_
  · intro p hp
    have hL : 37 < L1 := l1 (37, q) (List.mem_append_right _ List.mem_cons_self)
    rcases List.mem_cons.mp hp with rfl | hp
    · exact Nat.ne_of_gt (Nat.lt_succ_of_lt (Nat.lt_succ_of_lt (Nat.lt_succ_of_lt hL)))
    rcases List.mem_cons.mp hp with rfl | hp
    · exact Nat.ne_of_gt (Nat.lt_succ_of_lt (Nat.lt_succ_of_lt hL))
    rcases List.mem_cons.mp hp with rfl | hp
    · exact Nat.ne_of_gt (Nat.lt_succ_of_lt hL)
    · exact o1 p hp
  rename_i oi on od di dn dd
  have di : oi.data = .cell none := di
  have dn : on.data = .cell (some (.int (n : Int) t)) := dn
  have dd : od.data = .cell (some (.ref l)) := dd
  intro f c' oc vs' t' ctv doc tl q' h2 tk2 F2 N2 hoc hod hov tb2 u1 u2 u3 u4
  have N3 := reorder3 N2
  refine storeX_C F2 N3 rfl (UpdF.head ?_) di (fun h3 oi' F3 N4 di' => ?_)
  · intro p hp
    rcases List.mem_cons.mp hp with rfl | hp
    · exact Nat.ne_of_gt (u3 (L1 + 1 + 1 + 1, oi) (List.mem_append_right _ List.mem_cons_self))
    rcases List.mem_cons.mp hp with rfl | hp
    · exact Nat.ne_of_lt (Nat.lt_succ_self _)
    rcases List.mem_cons.mp hp with rfl | hp
    · exact Nat.ne_of_lt (Nat.lt_succ_of_lt (Nat.lt_succ_self _))
    rcases List.mem_append.mp hp with hp | hp
    · rcases List.mem_append.mp hp with hp | hp
      · exact Nat.ne_of_gt (u1 p hp (L1 + 1 + 1 + 1, oi) List.mem_cons_self)
      · exact Nat.ne_of_lt (Nat.lt_succ_of_lt (Nat.lt_succ_of_lt (Nat.lt_succ_of_lt (l1 p (List.mem_append_left _ hp)))))
    · rcases List.mem_cons.mp hp with rfl | hp
      · exact Nat.ne_of_lt (Nat.lt_succ_of_lt (Nat.lt_succ_of_lt (Nat.lt_succ_of_lt (l1 (37, q) (List.mem_append_right _ List.mem_cons_self)))))
      · exact Nat.ne_of_lt (Nat.lt_succ_of_lt (Nat.lt_succ_of_lt (Nat.lt_succ_of_lt (l1 p (List.mem_append_right _ (List.mem_cons_of_mem _ hp))))))
  dsimp only at N4 ⊢
  have hoc' : (c', oc) ∈ tl ++ front := not_cell hoc hod di dn dd
  have hov : vs'[1]? = some (.str (Str.ofString "_digits2int.<locals>.inner") t') := hov
  have tb3 : TabS 34 4 (Str.ofString "_digits2int.<locals>.inner") q' (tl ++ front) := tb2.imp id fun ⟨c2, o2, v2, t2, e1, e2, e3, e4⟩ => ⟨c2, o2, v2, t2, e1, not_cell e2 e3 di dn dd, e3, e4⟩
  clear N2 N3 F2 F1 N1 di tb2 u3
  have N5 := reorder5 (y := (l, lstO vs lc)) (z := (c', oc)) N4 (List.mem_append_left _ (List.mem_append_right _ hl)) (List.mem_append_left _ hoc')
  clear N4
  obtain ⟨fo, hfo, N5⟩ := take_fo N5
  have inner : ∀ k l0 r0 : Nat, r0 - l0 = k → l0 < r0 → r0 ≤ ds.length → ∀ (dp un : Nat) (cn : Str) (cs : Scope) (L a : Addr) (ccd : Value) (cl : List (Str × Addr)) (outer : List Env) (A₀ : Around) (base h₀ : Heap) (m : Str → Option Value) (news : List (Addr × Obj)) (s : Shared) (Q E : Value → Shared → Prop) (t1 t2 : Tok),
      (mkK.heap_1 w.params).In h₀ → Below A₀ base outer h₀ → Fr h₀ L s.heap m → News h₀ L s.heap news → Top p loose mean mg mb h₀ → cs.kind = .function →
      (l, lstO vs lc) ∈ news → (L1 + 1 + 1 + 1, oi') ∈ news → (f, fo) ∈ news → (L1 + 1 + 1, on) ∈ news → (L1 + 1, od) ∈ news → (c', oc) ∈ news →
      dp + (k + 1) < recursionLimit → un + 10 * (k + 1) < cLine →
      (∀ t h' tk', Fr h₀ L h' m → News h₀ L h' news → Q (.int (dval n ((ds.drop l0).take k) : Int) t) { s with heap := h', toks := tk' }) →
      wpAny (model PySem.Challenge.rw_xp0011_01.row.prog w) (ktrTop dp un (some []) cn cs L a ccd cl outer) (call (.ref f) [.int (l0 : Int) t1, .int (r0 : Int) t2]) Q E s := by
    clear F3 N5 FG1 B1 X1 T1 F N X B T ret tb3 u1 u2
    intro k
    induction k using Nat.strongRecOn with
    | ind k ih =>
      intro l0 r0 hk0 hlr hr dp un cn cs L a ccd cl outer A₀ base h₀ m news s Q E t1 t2 X B F N T hk m1 m2 m3 m4 m5 m6 hd hu ret
      subst hfo
      revert X
      k_fill
      intro X
      refine wpAny_call ?_
      k_dflt walk_at "mine nest"
      rename_i g3 L3 h5 FG3 F5 N5 B3 X3 T3
      w_binds F5
      k_steps
      · have er : r0 = l0 + 1 := by have := ‹(l0 : Int) + 1 = (r0 : Int)›; omega
        have ek : k = 1 := by omega
        have hlt : l0 < ds.length := by omega
        have e1 : dval n ((ds.drop l0).take k) = ds[l0] := by
          rw [ek, List.drop_eq_getElem_cons hlt, List.take_succ_cons, List.take_zero]
          simp [dval]
        rw [e1] at ret
        obtain ⟨tt, hx⟩ := hv.get l0 (Int.ofNat ds[l0]) (by simp [hlt])
        refine Halt.go (item_lst N5 m1 hx (by omega) ?_)
        k_steps
        exact ret _ _ _ ‹Fr h₀ L _ m› ‹News h₀ L _ news›
      · have hne : l0 + 1 ≠ r0 := by have := ‹(l0 : Int) + 1 ≠ (r0 : Int)›; omega
        obtain ⟨md, hmd⟩ : ∃ md, md = (l0 + r0) / 2 := ⟨_, rfl⟩
        have hm1 : l0 < md := by omega
        have hm2 : md < r0 := by omega
        have em : ((l0 : Int) + (r0 : Int)) / 2 = (md : Int) := by omega
        have sp := dval_split n ds (Nat.le_of_lt hm1) (Nat.le_of_lt hm2) hr
        rw [hk0] at sp
        rw [sp] at ret
        refine Halt.go (mn_rsh1 ?_)
        rw [em]
        dsimp only
        k_steps
        refine Halt.go ?_
        rw [show (md : Int) - (l0 : Int) = ((md - l0 : Nat) : Int) by omega]
        refine mn_mul (IntMulOk.of_left (small_bits (by omega))) ?_
        rw [← Int.natCast_mul]
        dsimp only
        k_steps
        refine Halt.go (ih (r0 - md) (by omega) md r0 rfl hm2 hr (dp + 1) (un + 3) _ _ _ _ _ _ _ _ _ _ _ _ _ _ _ _ _ X3 B3 (by k_asm) (by k_asm) T3 rfl m1 m2 m3 m4 m5 m6 (by omega) (by omega) fun t7 h7 tk7 F7 N7 => ?_)
        dsimp only
        k_steps
        have hb : Builtin.Int.intBits ((dval n ((ds.drop md).take (r0 - md)) : Nat) : Int) ≤ 40000 := by
          have h1 : dval n ((ds.drop md).take (r0 - md)) < 2 ^ (n * ((ds.drop md).take (r0 - md)).length) := dval_lt fun x hx => hdd x (List.drop_subset _ _ (List.take_subset _ _ hx))
          refine Nat.le_trans (nat_bits h1) ?_
          rw [List.length_take, List.length_drop]
          exact Nat.le_trans (Nat.mul_le_mul hn (show min (r0 - md) (ds.length - md) ≤ 100 by omega)) (by decide)
        have hs : (md - l0) * n ≤ 40000 := Nat.le_trans (Nat.mul_le_mul (show md - l0 ≤ 100 by omega) hn) (by decide)
        refine Halt.go (mn_lsh (show Side _ from (by show _ + _ ≤ 2 ^ 27; rw [show (2 : Nat) ^ 27 = 134217728 by decide +kernel]; omega)) ?_)
        rw [show ((dval n ((ds.drop md).take (r0 - md)) : Nat) : Int) * 2 ^ ((md - l0) * n) = ((dval n ((ds.drop md).take (r0 - md)) * 2 ^ ((md - l0) * n) : Nat) : Int) by push_cast; rfl]
        dsimp only
        k_steps
        refine Halt.go (ih (md - l0) (by omega) l0 md rfl hm1 (by omega) (dp + 1) (un + 3) _ _ _ _ _ _ _ _ _ _ _ _ _ _ _ _ _ X3 B3 (by k_asm) (by k_asm) T3 rfl m1 m2 m3 m4 m5 m6 (by omega) (by omega) fun t8 h8 tk8 F8 N8 => ?_)
        dsimp only
        k_steps
        exact ret _ _ _ ‹Fr h₀ L _ m› ‹News h₀ L _ news›
  subst hfo
  k_steps
  · refine Halt.go ?_
    have hpos : 0 < ds.length := by have := ‹0 < (ds.map Int.ofNat).length›; simpa using this
    have hlen : vs.length = ds.length := by have := hv.length; simpa using this
    rw [List.length_map]
    refine inner ds.length 0 ds.length rfl hpos (Nat.le_refl _) (dp + 1) (un + 3) _ _ _ _ _ _ _ _ _ _ _ _ _ _ _ _ _ X1 B1 (by k_asm) (by k_asm) T1 rfl List.mem_cons_self (.tail _ List.mem_cons_self) (.tail _ (.tail _ List.mem_cons_self)) (.tail _ (.tail _ (.tail _ List.mem_cons_self))) (.tail _ (.tail _ (.tail _ (.tail _ List.mem_cons_self)))) (.tail _ (.tail _ (.tail _ (.tail _ (.tail _ List.mem_cons_self))))) (by omega) (by omega) fun t8 h8 tk8 F8 N8 => ?_
    rw [List.drop_zero, List.take_length]
    dsimp only
    k_steps
    exact ret _ q' tl _ _ ‹Fr h₀ L _ m› (news_sub ‹News h₀ L _ _› fun p hp => .tail _ (.tail _ (.tail _ (.tail _ (.tail _ (.tail _ hp)))))) tb3 (fun p hp r hr => u1 p hp r (.tail _ (.tail _ (.tail _ hr)))) u2
  · have e0 : ds = [] := by
      have := ‹¬ 0 < (ds.map Int.ofNat).length›
      rw [List.length_map] at this
      exact List.eq_nil_of_length_eq_zero (by omega)
    subst e0
    exact ret _ q' tl _ _ ‹Fr h₀ L _ m› (news_sub ‹News h₀ L _ _› fun p hp => .tail _ (.tail _ (.tail _ (.tail _ (.tail _ (.tail _ hp)))))) tb3 (fun p hp r hr => u1 p hp r (.tail _ (.tail _ (.tail _ hr)))) u2
end Mine
end

section
open PySem PySem.W PyProof.Rows PySem.Calls
set_option Elab.async false
set_option maxRecDepth 100000
set_option maxHeartbeats 1000000
set_option linter.unusedVariables false
namespace Mine
open PySem.Builtin.Str (occurrences)
def sub1 (c : Nat) (z l : List Nat) : List Nat := l.flatMap fun k => if k = c then z else [k]
theorem sub1_append (c : Nat) (z a b : List Nat) : sub1 c z (a ++ b) = sub1 c z a ++ sub1 c z b := by simp [sub1]
theorem sub1_free {c : Nat} {z : List Nat} : ∀ {l : List Nat}, c ∉ l → sub1 c z l = l
  | [], _ => rfl
  | k :: r, h => by
    show (if k = c then z else [k]) ++ sub1 c z r = k :: r
    rw [if_neg (show ¬ k = c from fun e => h (e ▸ List.mem_cons_self)), sub1_free fun m => h (List.mem_cons_of_mem _ m)]
    rfl
theorem sub1_join (c : Nat) (z : Str) : ∀ parts : List Str, (∀ p ∈ parts, c ∉ p.cps.toList) → sub1 c z.cps.toList (Str.join ⟨#[c]⟩ parts).cps.toList = (Str.join z parts).cps.toList
  | [], _ => rfl
  | [p], h => sub1_free (h p (List.mem_singleton.mpr rfl))
  | p :: q :: r, h => by
    have ih := sub1_join c z (q :: r) fun a ha => h a (List.mem_cons_of_mem _ ha)
    show sub1 c z.cps.toList (p ++ ⟨#[c]⟩ ++ Str.join ⟨#[c]⟩ (q :: r)).cps.toList = (p ++ z ++ Str.join z (q :: r)).cps.toList
    simp only [Str.cps_append, Array.toList_append]
    rw [sub1_append, sub1_append, ih, sub1_free (h p List.mem_cons_self)]
    have e : sub1 c z.cps.toList [c] = z.cps.toList := by simp [sub1]
    rw [e]
theorem replace_flat (x z : Str) (c : Nat) : (Txt.replace x ⟨#[c]⟩ z).cps.toList = sub1 c z.cps.toList x.cps.toList := by
  rw [StrLaws.replace_one, ← sub1_join c z _ (StrLaws.split_free x c), StrLaws.join_split]
theorem str_ext {a b : Str} (h : a.cps.toList = b.cps.toList) : a = b := Str.ext' (Array.ext' h)
theorem replace_none {x z : Str} {c : Nat} (h : (occurrences x ⟨#[c]⟩ 0 x.length 1).isEmpty = true) : Txt.replace x ⟨#[c]⟩ z = x := by
  refine str_ext ?_
  have := StrLaws.found_one x c
  rw [h] at this
  rw [replace_flat, sub1_free (of_decide_eq_false this.symm)]
theorem replace_noneS {x y z : Str} (c : Nat) (hy : y = ⟨#[c]⟩) (h : (occurrences x y 0 x.length 1).isEmpty = true) : Txt.replace x y z = x := by
  subst hy; exact replace_none h
/-- a sign's writing -/
def enc1 (k : Nat) : List Nat := if k = 38 then [38, 97, 109, 112, 59] else if k = 62 then [38, 103, 116, 59] else if k = 34 then [38, 113, 117, 111, 116, 59] else [k]
def enc (l : List Nat) : List Nat := l.flatMap enc1
def encS (x : Str) : Str := ⟨(enc x.cps.toList).toArray⟩
theorem enc1_len (k : Nat) : (enc1 k).length ≤ 6 := by
  unfold enc1
  by_cases h1 : k = 38
  · rw [if_pos h1]; decide
  rw [if_neg h1]
  by_cases h2 : k = 62
  · rw [if_pos h2]; decide
  rw [if_neg h2]
  by_cases h3 : k = 34
  · rw [if_pos h3]; decide
  rw [if_neg h3]
  exact Nat.le_of_ble_eq_true rfl
theorem enc_len : ∀ l : List Nat, (enc l).length ≤ 6 * l.length
  | [] => Nat.le_refl _
  | k :: r => by
    show (enc1 k ++ enc r).length ≤ 6 * (r.length + 1)
    have h1 := enc1_len k
    have h2 := enc_len r
    rw [List.length_append]; omega
theorem sub1_len {c : Nat} {z : List Nat} (hz : z.length ≤ 6) (hz' : 0 < z.length) : ∀ l : List Nat, (sub1 c z l).length ≤ 6 * l.length
  | [] => Nat.le_refl _
  | k :: r => by
    show ((if k = c then z else [k]) ++ sub1 c z r).length ≤ 6 * (r.length + 1)
    have h2 := sub1_len (c := c) hz hz' r
    rw [List.length_append]
    split
    · omega
    · have : [k].length = 1 := rfl
      omega
theorem enc_subs (l : List Nat) : sub1 34 [38, 113, 117, 111, 116, 59] (sub1 62 [38, 103, 116, 59] (sub1 38 [38, 97, 109, 112, 59] l)) = enc l := by
  induction l with
  | nil => rfl
  | cons k r ih =>
    show sub1 34 _ (sub1 62 _ ((if k = 38 then [38, 97, 109, 112, 59] else [k]) ++ sub1 38 _ r)) = enc1 k ++ enc r
    rw [sub1_append, sub1_append, ih]
    congr 1
    unfold enc1
    by_cases h1 : k = 38
    · rw [if_pos h1, if_pos h1]; rfl
    · rw [if_neg h1, if_neg h1]
      by_cases h2 : k = 62
      · subst h2; rfl
      · rw [if_neg h2, show sub1 62 [38, 103, 116, 59] [k] = [k] from by simp [sub1, h2]]
        by_cases h3 : k = 34
        · subst h3; rfl
        · rw [if_neg h3]; simp [sub1, h3]
theorem esc3 (x : Str) : Txt.replace (Txt.replace (Txt.replace x (Str.ofString "&") (Str.ofString "&amp;")) (Str.ofString ">") (Str.ofString "&gt;")) (Str.ofString "\"") (Str.ofString "&quot;") = encS x := by
  refine str_ext ?_
  show (Txt.replace (Txt.replace (Txt.replace x ⟨#[38]⟩ (Str.ofString "&amp;")) ⟨#[62]⟩ (Str.ofString "&gt;")) ⟨#[34]⟩ (Str.ofString "&quot;")).cps.toList = enc x.cps.toList
  rw [replace_flat, replace_flat, replace_flat, ← enc_subs]
  rfl
theorem replace_len {x z : Str} {c : Nat} (h : z.length ≤ 6) (h' : 0 < z.length) : (Txt.replace x ⟨#[c]⟩ z).length ≤ 6 * x.length := by
  show (Txt.replace x ⟨#[c]⟩ z).cps.size ≤ 6 * x.cps.size
  rw [← Array.length_toList, ← Array.length_toList, replace_flat]
  exact sub1_len (by rw [Array.length_toList]; exact h) (by rw [Array.length_toList]; exact h') _
theorem join_empty (f : Nat → List Nat) : ∀ l : List Nat, (Str.join (Str.ofString "") (l.map fun c => (⟨(f c).toArray⟩ : Str))).cps.toList = l.flatMap f
  | [] => rfl
  | [c] => by
    show (f c).toArray.toList = [c].flatMap f
    simp
  | c :: d :: r => by
    have ih := join_empty f (d :: r)
    show ((⟨(f c).toArray⟩ : Str) ++ Str.ofString "" ++ Str.join (Str.ofString "") ((d :: r).map fun c => (⟨(f c).toArray⟩ : Str))).cps.toList = _
    rw [Str.cps_append, Str.cps_append, Array.toList_append, Array.toList_append, ih]
    show (f c) ++ [] ++ _ = _
    rw [List.append_nil]
    rfl
end Mine
end

section
open PySem PySem.W PyProof.Rows PySem.Calls
set_option Elab.async false
set_option maxRecDepth 100000
set_option maxHeartbeats 2000000
set_option linter.unusedVariables false
namespace Mine
theorem rep_str {prog : Program} {w : World} {A : Around} {E : Value → Shared → Prop} {s : Shared} {x y z : Str} {t u v : Tok} {Q : Value → Shared → Prop}
    (hu : u ≠ 0) (huv : v = u + 1) (hyz : (y == z) = false) (hz : z.length ≤ 14) (hs : Side (x.length ≤ 1048576))
    (hq : ∀ t' k, Q (.str (Txt.replace x y z) t') { s with toks := k }) : wpAny (model prog w) A (call (.builtin "str.replace") [.str x t, .str y u, .str z v]) Q E s :=
  SC.replaceW hu (huv ▸ Nat.succ_ne_zero u) (huv ▸ (Nat.succ_ne_self u).symm) hyz hs hz hq
/-- where one turn of the escape leads -/
def EscTo (g : Heap) (L : Addr) (news : List (Addr × Obj)) (s : Shared) (x : Str) (f : Flow) (s' : Shared) : Prop :=
  f = .next ∧ ∃ t' h' k, s' = { s with heap := h', toks := k + 1 } ∧ Fr g L h' (fun y => if y = Str.ofString "text" then some (.str x t') else none) ∧ News g L h' news
section
local macro_rules | `(tactic| walk_at "execs cons") => `(tactic| (refine wpAny_execs_cons ?_))
local macro_rules | `(tactic| walk_at "execs nil") => `(tactic| (refine wpAny_execs_nil ?_))
local macro_rules | `(tactic| walk_at "exec If") => `(tactic| (refine Halt.out ?_))
local macro_rules | `(tactic| walk_at "call builtin:str.replace") => `(tactic| (refine rep_str (Nat.succ_ne_zero _) rfl (by decide) (by decide) ?_ ?_; rotate_left; intro _ _))
theorem one_name {x : Str} {v : Value} : (fun y => List.lookup y [(x, v)].reverse) = fun y => if y = x then some v else none := by
  funext y
  show List.lookup y [(x, v)] = _
  rw [List.lookup_cons]
  by_cases e : y = x
  · rw [e, beq_self_eq_true, if_pos rfl]
  · rw [beq_eq_false_iff_ne.mpr e, if_neg e]; rfl
theorem one_again {x : Str} {v v' : Value} : (fun y => if y = x then some v else (fun y => if y = x then some v' else none) y) = fun y => if y = x then some v else none := by
  funext y
  by_cases e : y = x
  · rw [if_pos e, if_pos e]
  · rw [if_neg e, if_neg e]; exact if_neg e
theorem escape_does (w : World) (x : Str) (t1 : Tok) (h1 : x.length ≤ 1000) :
    Does w 147 20 200 [.str x t1] (fun v tl => ∃ t, v = .str (encS x) t ∧ tl = []) := by
  unfold Does
  intro p loose mean mg mb dp un cn cs e9 ccd cl outer A₀ base h₀ L m news s Q E X B F N T hk hd hu ret
  have b1 : (Txt.replace x (Str.ofString "&") (Str.ofString "&amp;")).length ≤ 6 * x.length := replace_len (c := 38) (by decide) (by decide)
  have b2 : (Txt.replace (Txt.replace x (Str.ofString "&") (Str.ofString "&amp;")) (Str.ofString ">") (Str.ofString "&gt;")).length ≤ 6 * (6 * x.length) := Nat.le_trans (replace_len (x := Txt.replace x (Str.ofString "&") (Str.ofString "&amp;")) (z := Str.ofString "&gt;") (c := 62) (by decide) (by decide)) (Nat.mul_le_mul_left 6 b1)
  have e3 := esc3 x
  revert X
  k_fill
  intro X
  refine wpAny_call ?_
  k_dflt ktr_enter
  rename_i g1 L1 h1' FG1 F1 N1 B1 X1 T1
  w_binds F1
  k_steps
  rw [one_name] at F1
  have F1 : Fr g1 L1 h1' (fun y => if y = Str.ofString "text" then some (.str x t1) else none) := F1
  refine Halt.go (wpAny_mono (Q := EscTo g1 L1 news s (Txt.replace x (Str.ofString "&") (Str.ofString "&amp;"))) ?_ ?_ fun _ _ e => e)
  · refine wpAny_If ?_
    k_steps
    · rw [replace_noneS (y := Str.ofString "&") 38 rfl ‹(Builtin.Str.occurrences _ _ _ _ _).isEmpty = true›]
      exact ⟨rfl, _, _, _, rfl, F1, N1⟩
    · rename Fr _ _ _ _ => F9
      rw [one_again] at F9
      exact ⟨rfl, _, _, _, rfl, F9, by k_asm⟩
    · exact (show _ ≤ 1048576 by omega)
  rintro f s' ⟨rfl, t2, h2, k2, rfl, F2, N2⟩
  dsimp only
  k_steps
  refine Halt.go (wpAny_mono (Q := EscTo g1 L1 news s (Txt.replace (Txt.replace x (Str.ofString "&") (Str.ofString "&amp;")) (Str.ofString ">") (Str.ofString "&gt;"))) ?_ ?_ fun _ _ e => e)
  · refine wpAny_If ?_
    k_steps
    · rw [replace_noneS (y := Str.ofString ">") 62 rfl ‹(Builtin.Str.occurrences _ _ _ _ _).isEmpty = true›]
      exact ⟨rfl, _, _, _, rfl, F2, N2⟩
    · rename Fr _ _ _ _ => F9
      rw [one_again] at F9
      exact ⟨rfl, _, _, _, rfl, F9, by k_asm⟩
    · exact (show _ ≤ 1048576 by omega)
  rintro f s' ⟨rfl, t3, h3, k3, rfl, F3, N3⟩
  dsimp only
  k_steps
  refine Halt.go (wpAny_mono (Q := EscTo g1 L1 news s (Txt.replace (Txt.replace (Txt.replace x (Str.ofString "&") (Str.ofString "&amp;")) (Str.ofString ">") (Str.ofString "&gt;")) (Str.ofString "\"") (Str.ofString "&quot;"))) ?_ ?_ fun _ _ e => e)
  · refine wpAny_If ?_
    k_steps
    · rw [replace_noneS (y := Str.ofString "\"") 34 rfl ‹(Builtin.Str.occurrences _ _ _ _ _).isEmpty = true›]
      exact ⟨rfl, _, _, _, rfl, F3, N3⟩
    · rename Fr _ _ _ _ => F9
      rw [one_again] at F9
      exact ⟨rfl, _, _, _, rfl, F9, by k_asm⟩
    · exact (show _ ≤ 1048576 by omega)
  rintro f s' ⟨rfl, t4, h4, k4, rfl, F4, N4⟩
  dsimp only
  k_steps
  rw [e3]
  exact ret _ [] _ _ ⟨_, rfl, rfl⟩ ‹Fr h₀ L _ m› ‹News h₀ L _ news› (fun q hq => nomatch hq)
end
end Mine
end

section
open PySem PySem.W PySem.Calls PyProof.Rows PyProof.Rows.LCg
set_option Elab.async false
set_option maxRecDepth 100000
set_option maxHeartbeats 1000000
set_option linter.unusedVariables false
namespace Mine
section
variable {prog : Program} {w : World} {A : Around} {E : Value → Shared → Prop} {s : Shared} {h₀ : Heap} {L : Addr} {m : Str → Option Value} {env : Env} {elt iter : Expr} {x : Str} {px pos ps : Pos} {scope : Scope} {cl : List (Str × Addr)}
/-- an iterator under way over a source of n values, and what each turn of a comprehension gives -/
def SrcW (prog : Program) (w : World) (A : Around) (h₀ : Heap) (L : Addr) (m : Str → Option Value) (env : Env) (elt : Expr) (x : Str) (scope : Scope) (cl : List (Str × Addr)) (Q : Value → Shared → Prop) (it : Value) (s₂ : Shared) : Prop :=
  ∃ I n P St S news, it = .ref I ∧ Walks prog w A I [I] [I] n P St ∧ n ≤ sizeLine ∧ (∀ i h, St i h → ∃ o, h.get? I = some o) ∧ St 0 s₂.heap ∧ Fr h₀ L s₂.heap m ∧ News h₀ L s₂.heap news ∧ L ≠ I ∧ h₀.get? I = none ∧ (∀ p ∈ news, p.1 ≠ I) ∧ I < s₂.heap.objs.size ∧
    S news ∧ CompRest prog w A h₀ L m env elt x scope cl s₂ S P (FinE h₀ L m s₂ Q) n 0 [] news
theorem comp_E {first : Sem Value} {Q : Value → Shared → Prop} (F₀ : Fr h₀ L s.heap m) (hclos : closureFor scope env = pure cl) (hcell : ∀ y ∈ scope.names, y.2 ≠ .cell) (hkind : scope.kind = .function)
    (hnames : ∀ y ∈ scope.names, y.2 = .local → scope.names.lookup y.1 = some .local) (hx : scope.names.lookup x = some .local)
    (h : wpAny (model prog w) A first (fun xv s₁ => wpAny (model prog w) A (pyIter xv) (SrcW prog w A h₀ L m env elt x scope cl Q) E s₁) E s)
    (hs : ∀ x, foldedSetIterable iter env x = pure x := by intro _; rfl) :
    wpAny (model prog w) A (comprehension (.ListComp elt [⟨.Name x px, iter, [], 0⟩] scope pos) scope env ps (newList []) false first none) Q E s := by
  refine wpAny_comprehension_free (use := none) rfl hs hclos hkind hnames (wpAny_mono h (fun xv s₁ g => wpAny_mono g (fun it s₂ k => ?_) fun _ _ e => e) fun _ _ e => e)
  obtain ⟨I, n, P, St, S, news, rfl, W, hsz, hIo, hst, F, N, hLI, hI₀, off, hlt, hS, R⟩ := k
  refine block_U W hsz hIo (fun i h h' o nw st e e' _ _ _ => W.frame i h h' st fun b hb q eq => ?_) hcell hkind hx hst (fun b hb => by rw [List.mem_singleton.mp hb]; exact hlt) F N hLI hI₀ off hS R ?_
  · rw [List.mem_singleton.mp hb] at eq ⊢
    rw [e'] ; rw [e] at eq; exact eq
  · intro D C h tk m' ys news' F' N' o1 hn hC₀ hD₀ hCL hDL hCD offC fin
    refine ⟨m', hn, fun h'' hs'' => fin D h'' tk (F'.change hs'' hCL hC₀) (fun p hp => ?_) o1⟩
    refine ⟨hs''.extBut _ _ ?_ (N' p hp).1, (N' p hp).2⟩
    rcases List.mem_cons.mp hp with rfl | hp
    · exact Ne.symm hCD
    · exact offC p hp
theorem comp_L {Q : Value → Shared → Prop} (F₀ : Fr h₀ L s.heap m) (hclos : closureFor scope env = pure cl) (hcell : ∀ y ∈ scope.names, y.2 ≠ .cell) (hkind : scope.kind = .function)
    (hnames : ∀ y ∈ scope.names, y.2 = .local → scope.names.lookup y.1 = some .local) (hx : scope.names.lookup x = some .local)
    (h : wpAny (model prog w) A (eval iter env) (fun xv s₁ => wpAny (model prog w) A (pyIter xv) (SrcW prog w A h₀ L m env elt x scope cl Q) E s₁) E s)
    (hs : ∀ x, foldedSetIterable iter env x = pure x := by intro _; rfl) :
    wpAny (model prog w) A (eval (.ListComp elt [⟨.Name x px, iter, [], 0⟩] scope pos) env) Q E s := by
  rw [eval_ListComp]
  exact comp_E F₀ hclos hcell hkind hnames hx h hs
theorem comp_split (e : Expr) (scope : Scope) (env : Env) (ps : Pos) (newAcc first : Sem Value) : comprehension e scope env ps newAcc false first none = first >>= fun x => comprehension e scope env ps newAcc false (pure x) none := by
  unfold comprehension
  rfl
/-- a comprehension over what a clean call gives -/
theorem wpC_ListComp {Q : Value → Shared → Prop} (hclos : closureFor scope env = pure cl) (hcell : ∀ y ∈ scope.names, y.2 ≠ .cell) (hkind : scope.kind = .function)
    (hnames : ∀ y ∈ scope.names, y.2 = .local → scope.names.lookup y.1 = some .local) (hx : scope.names.lookup x = some .local)
    (h : wpC (model prog w) A (eval iter env) (fun xv s₁ => Fr h₀ L s₁.heap m ∧ wpAny (model prog w) A (pyIter xv) (SrcW prog w A h₀ L m env elt x scope cl Q) E s₁) E s)
    (hs : ∀ x, foldedSetIterable iter env x = pure x := by intro _; rfl) :
    wpC (model prog w) A (eval (.ListComp elt [⟨.Name x px, iter, [], 0⟩] scope pos) env) Q E s := by
  rw [eval_ListComp]
  show wpC _ _ (comprehension _ scope env _ (newList []) false (eval iter env) none) _ _ _
  rw [comp_split]
  exact wpC_last (wpC_mono h (fun xv s₁ g => comp_E g.1 hclos hcell hkind hnames hx (wpAny_pure g.2) hs) fun _ _ e => e)
theorem src_start {I : Addr} {o : Obj} {n : Nat} {P : Nat → Value → Prop} {St : Nat → Heap → Prop} {S : List (Addr × Obj) → Prop} {news : List (Addr × Obj)} {Q : Value → Shared → Prop} (hI : I = s.heap.objs.size) (W : Walks prog w A I [I] [I] n P St) (hn : n ≤ sizeLine)
    (hIo : ∀ i h, St i h → ∃ o, h.get? I = some o) (hst : St 0 (s.heap.push o)) (F : Fr h₀ L s.heap m) (N : News h₀ L s.heap news) (hS : S news)
    (R : ∀ g, CompRest prog w A h₀ L m env elt x scope cl { s with heap := g } S P (FinE h₀ L m { s with heap := g } Q) n 0 [] news) :
    SrcW prog w A h₀ L m env elt x scope cl Q (.ref I) { s with heap := s.heap.push o } := by
  subst hI
  exact ⟨_, n, P, St, S, news, rfl, W, hn, hIo, hst, F.push _, (fun p hp => ⟨Heap.get?_push_of_some _ (N p hp).1, (N p hp).2⟩), Nat.ne_of_lt F.ns.lt, next_is_new F, (fun p hp => Nat.ne_of_lt (Heap.lt_size (N p hp).1)),
    by show s.heap.objs.size < (s.heap.push o).objs.size; rw [Heap.size_push]; exact Nat.lt_succ_self _, hS, R _⟩
theorem src_str {z : Str} {t : Tok} {news : List (Addr × Obj)} {Q : Value → Shared → Prop} (hh : A.handled = none) (hz : z.cps.size ≤ sizeLine) (F : Fr h₀ L s.heap m) (N : News h₀ L s.heap news)
    (R : ∀ g, CompRest prog w A h₀ L m env elt x scope cl { s with heap := g } (fun _ => True) (SignAt z) (FinE h₀ L m { s with heap := g } Q) z.cps.size 0 [] news) :
    wpAny (model prog w) A (pyIter (.str z t)) (SrcW prog w A h₀ L m env elt x scope cl Q) E s := by
  cases ha : z.cps.all (· < 128)
  · exact wpAny_pyIter_wide ha (src_start rfl (Walks.strWide hh _ z t) hz (fun i h st => let ⟨o, e, _⟩ := st; ⟨o, e⟩) ⟨_, Heap.get?_push_size _ rfl, rfl, rfl⟩ F N trivial R)
  · exact wpAny_pyIter_ascii ha (src_start rfl (Walks.strAscii hh _ z t) hz (fun i h st => let ⟨o, e, _⟩ := st; ⟨o, e⟩) ⟨_, Heap.get?_push_size _ rfl, rfl, rfl⟩ F N trivial R)
theorem src_bytes {b : Array UInt8} {t : Tok} {news : List (Addr × Obj)} {Q : Value → Shared → Prop} (hh : A.handled = none) (hz : b.size ≤ sizeLine) (F : Fr h₀ L s.heap m) (N : News h₀ L s.heap news)
    (R : ∀ g, CompRest prog w A h₀ L m env elt x scope cl { s with heap := g } (fun _ => True) (fun i v => ∃ c u, b[i]? = some c ∧ v = .int (c.toNat : Int) u) (FinE h₀ L m { s with heap := g } Q) b.size 0 [] news) :
    wpAny (model prog w) A (pyIter (.bytes b t)) (SrcW prog w A h₀ L m env elt x scope cl Q) E s :=
  KBw.pyIter_bytes (src_start rfl (KBw.walks hh _ b t) hz (fun i h st => let ⟨o, e, _⟩ := st; ⟨o, e⟩) ⟨_, Heap.get?_push_size _ rfl, rfl, rfl⟩ F N trivial R)
/-- the turns of a comprehension by an invariant -/
theorem compRest_of {S : List (Addr × Obj) → Prop} {P : Nat → Value → Prop} {Fin : List Value → List (Addr × Obj) → Prop} {n : Nat} (Inv : Nat → List Value → List (Addr × Obj) → Prop)
    (turn : ∀ i ys news v I oI C oC D m₂ h tk (E' : Value → Shared → Prop), i < n → Inv i ys news → P i v → NsObj oC m₂ → m₂ x = some v → Fr h₀ L h m → News h₀ L h ((I, oI) :: (C, oC) :: (D, lst ys) :: news) → Off3 I C D news → ((@Ne Nat I C) ∧ (@Ne Nat I D) ∧ (@Ne Nat C D)) →
      wpAny (model prog w) A (eval elt (compEnvC scope cl C env)) (CompEnd h₀ L m { s with heap := h, toks := tk } I oI C oC D (lst ys) S (fun y news' => Inv (i + 1) (ys ++ [y]) news')) E' { s with heap := h, toks := tk })
    (fin : ∀ ys news, Inv n ys news → Fin ys news) : ∀ k i ys news, i + k = n → Inv i ys news → CompRest prog w A h₀ L m env elt x scope cl s S P Fin k i ys news
  | 0, i, ys, news, e, h => .zero (fin ys news (by rw [← e]; exact h))
  | k + 1, i, ys, news, e, h => .succ fun v I oI C oC D m₂ h' tk E' hv hC hx F N off ne =>
    wpAny_mono (turn i ys news v I oI C oC D m₂ h' tk E' (by omega) h hv hC hx F N off ne) (fun y s₂ hq =>
      let ⟨h₄, tk₄, nw, e₄, F₄, N₄, off₄, hS, r⟩ := hq
      ⟨h₄, tk₄, nw, e₄, F₄, N₄, off₄, hS, compRest_of Inv turn fin k (i + 1) _ nw (by omega) r⟩) fun _ _ e => e
end
end Mine
end

section
open PySem PySem.W PyProof.Rows PySem.Calls
set_option Elab.async false
set_option maxRecDepth 100000
set_option maxHeartbeats 2000000
set_option linter.unusedVariables false
namespace Mine
section
local macro_rules | `(tactic| walk_at "eval ListComp") => `(tactic| (refine Halt.out ?_))
local macro_rules | `(tactic| walk_at "eval Dict") => `(tactic| (refine Halt.out ?_))
local macro_rules | `(tactic| walk_at "call builtin:dict.get") => `(tactic| (refine Halt.out ?_))
local macro_rules | `(tactic| walk_at "call builtin:str.join") => `(tactic| (refine Halt.out ?_))
local macro_rules | `(tactic| walk_at "KdnMade") => `(tactic| (refine Halt.out ?_))
local macro_rules | `(tactic| walk_at "pyIter") => `(tactic| (refine Halt.out ?_))
local macro_rules | `(tactic| walk_at "pyIter str") => `(tactic| (refine Halt.out ?_))
local macro_rules | `(tactic| walk_at "CompEnd") => `(tactic| (refine Halt.out ?_))
local macro_rules | `(tactic| walk_at "mine enterX") => `(tactic| (refine' code_defC ?k1 ?k2 ?k3 ?k4 ?k5 ?kA ?kF ?kK ?k6 ?k7 ?k8 ?k9 ?kB ?kD ?_ ?c2 ?c3 ?c4; (case kA => exact rfl); (case kF => exact rfl); (case kK => assumption); (case k1 => k_asm); (case k2 => k_asm); (case k3 => k_asm); (case k4 => k_asm); (case k5 => k_asm); (case k6 => k_is); (case k7 => k_is); (case k8 => ktr_room); (case k9 => exact BindsTo.of_eq rfl); (case kB => exact rfl); (case kD => decide +kernel); (case c2 => exact rfl); (case c3 => exact rfl); (case c4 => exact rfl); k_whole; intro g' L' h' tk' cells' FG' F' N' Y' B' X' T' l1))
theorem named_get (c : Nat) (u ta tb tc : Tok) : ∃ t', (valueAt [(Str.ofString "&", .str (Str.ofString "&amp;") ta), (Str.ofString ">", .str (Str.ofString "&gt;") tb), (Str.ofString "\"", .str (Str.ofString "&quot;") tc)] (⟨#[c]⟩ : Str)).getD (.str ⟨#[c]⟩ u) = .str ⟨(enc1 c).toArray⟩ t' := by
  by_cases h1 : c = 38
  · subst h1; exact ⟨ta, rfl⟩
  by_cases h2 : c = 62
  · subst h2; exact ⟨tb, rfl⟩
  by_cases h3 : c = 34
  · subst h3; exact ⟨tc, rfl⟩
  refine ⟨u, ?_⟩
  have e1 : ¬ Str.ofString "&" = (⟨#[c]⟩ : Str) := fun e => h1 (List.cons.inj (show [38] = [c] from congrArg (fun z : Str => z.cps.toList) e)).1.symm
  have e2 : ¬ Str.ofString ">" = (⟨#[c]⟩ : Str) := fun e => h2 (List.cons.inj (show [62] = [c] from congrArg (fun z : Str => z.cps.toList) e)).1.symm
  have e3 : ¬ Str.ofString "\"" = (⟨#[c]⟩ : Str) := fun e => h3 (List.cons.inj (show [34] = [c] from congrArg (fun z : Str => z.cps.toList) e)).1.symm
  unfold valueAt
  rw [List.find?_cons_of_neg (by simpa using e1), List.find?_cons_of_neg (by simpa using e2), List.find?_cons_of_neg (by simpa using e3)]
  unfold enc1
  rw [if_neg h1, if_neg h2, if_neg h3]
  rfl
theorem written_does (w : World) (x : Str) (t1 : Tok) (h1 : x.length ≤ 1000) :
    Does w 152 20 200 [.str x t1] (fun v tl => ∃ t, v = .str (encS x) t ∧ tl = []) := by
  unfold Does
  intro p loose mean mg mb dp un cn cs e9 ccd cl outer A₀ base h₀ L m news s Q E X B F N T hk hd hu ret
  revert X
  k_fill
  intro X
  refine wpAny_call ?_
  k_dflt walk_at "mine enterX"
  rename_i g1 L1 h1' tk1 cells FG1 F1 N1 Y1 B1 X1 T1 l1
  k_cells Y1
  simp only [List.cons_append, List.nil_append] at N1
  k_steps
  refine Halt.go (kdn_str rfl F1 N1 T1.nolimit rfl rfl (List.cons_ne_nil _ _) (Nat.le_of_ble_eq_true rfl) fun d h2 o2 F2 N2 l2 lo2 hd2 => ?_)
  k_steps
  refine Halt.go (kdn_made_str (by k_asm) (by k_asm) (UpdF.head fun p hp => Nat.ne_of_lt (l2 p hp)) hd2 rfl (of_decide_eq_true (by first | rfl | kernel_rfl!)) fun h3 o3 F3 N3 hd3 => ?_)
  dsimp only at N3 ⊢
  clear F2 N2 F1 N1
  have hd4 : ∃ a b c, o3.IsDictOf (PySem.strKind PySem.Challenge.rw_xp0011_01.row.prog w) [(Str.ofString "&", .str (Str.ofString "&amp;") a), (Str.ofString ">", .str (Str.ofString "&gt;") b), (Str.ofString "\"", .str (Str.ofString "&quot;") c)] := ⟨_, _, _, hd3⟩
  clear hd3 hd2
  obtain ⟨ta, tb, tc, hd4⟩ := hd4
  rename_i oc dc
  have dc : oc.data = .cell none := dc
  refine storeX_C F3 N3 rfl (UpdF.tail (Nat.ne_of_gt (l2 (L1 + 1, oc) List.mem_cons_self)) (UpdF.head fun p hp => Nat.ne_of_lt (Nat.lt_succ_of_lt (l1 p hp)))) dc fun h4 oc4 F4 N4 dc4 => ?_
  clear F3 N3 dc
  dsimp only at N4 ⊢
  k_steps
  have F4 : Fr g1 L1 h4 (fun y => if y = Str.ofString "text" then some (.str x t1) else none) := F4
  refine Halt.go ?_
  k_dflt (refine comp_L F4 rfl (by decide) rfl (by decide) rfl ?_)
  k_steps
  refine Halt.go ?_
  refine src_str rfl (Nat.le_trans h1 (by decide +kernel)) F4 N4 ?_
  intro gg
  refine compRest_of (fun i ys nw => ∃ l, ys = strValues l ∧ l.map (·.1) = (x.cps.toList.take i).map (fun c => (⟨(enc1 c).toArray⟩ : Str)) ∧ nw = (d, o3) :: (L1 + 1, oc4) :: news) ?_ ?_ _ 0 [] _ (Nat.zero_add _) ⟨[], rfl, rfl, rfl⟩
  · rintro i ys nw v I oI C oC D m₂ h5 tk5 E5 hi ⟨l, rfl, hl, rfl⟩ ⟨c, u, hc, rfl⟩ hC hx F5 N5 off ne
    k_steps
    refine Halt.go (kdg_get2 (knd := PySem.strKind _ _) N5 (.tail _ (.tail _ (.tail _ List.mem_cons_self))) hd4 lo2 (strKind_is _ _ _ _) _ rfl ?_)
    obtain ⟨t', e'⟩ := named_get c u ta tb tc
    rw [e']
    k_steps
    refine Halt.go ⟨_, _, _, rfl, F5, N5, off, trivial, l ++ [(⟨(enc1 c).toArray⟩, t')], ?_, ?_, rfl⟩
    · simp [strValues]
    · rw [List.map_append, hl, List.take_add_one, show x.cps.toList[i]? = some c by rw [Array.getElem?_toList]; exact hc]
      simp
  · rintro ys nw ⟨l, rfl, hl, rfl⟩
    intro D h6 tk6 F6 N6 off
    k_steps
    refine Halt.go (SC.join ⟨_, (N6 _ List.mem_cons_self).1, rfl, _, rfl⟩ rfl ?_ fun t' k => ?_)
    · rw [hl]
      refine joinOk_of_weight ?_ (by decide)
      have hb := StrLaws.sumLen_le (B := 6) ((x.cps.toList.take x.cps.size).map (fun c => (⟨(enc1 c).toArray⟩ : Str))) fun y hy => by
        obtain ⟨c, _, rfl⟩ := List.mem_map.mp hy
        show (enc1 c).toArray.size ≤ 6
        rw [List.size_toArray]; exact enc1_len c
      rw [List.length_map, List.length_take, Array.length_toList, Nat.min_self] at hb ⊢
      have h2 : x.cps.size ≤ 1000 := h1
      omega
    · k_steps
      have ev : Txt.join (Str.ofString "") (l.map (·.1)) = encS x := by
        refine str_ext ?_
        rw [hl, show x.cps.toList.take x.cps.size = x.cps.toList by rw [← Array.length_toList, List.take_length]]
        unfold Txt.join
        rw [StrLaws.glued_eq_join, join_empty]
        rfl
      rw [ev]
      exact ret _ [] _ _ ⟨_, rfl, rfl⟩ ‹Fr h₀ L _ m› (news_sub ‹News h₀ L _ _› fun p hp => .tail _ (.tail _ (.tail _ hp))) (fun q hq => nomatch hq)
end
end Mine
end

section
open PySem PySem.W PyProof.Rows PySem.Calls
set_option Elab.async false
set_option maxRecDepth 100000
set_option maxHeartbeats 2000000
set_option linter.unusedVariables false
namespace Mine
theorem str_item {prog : Program} {w : World} {A : Around} {E : Value → Shared → Prop} {s : Shared} {value slice : Expr} {x : Str} {k c : Nat} {t u : Tok} {Q : Value → Shared → Prop} (hb : x.cps.size ≤ 100000) (hk : x.cps[k]? = some c)
    (q : Q (.str ⟨#[c]⟩ s.toks) { s with toks := s.toks + 1 })
    (hs : ∀ v, subscripted slice false v (.int (k : Int) u) = operate [v, .int (k : Int) u] (getItem v (.int (k : Int) u)) := by intro _; with_unfolding_all rfl)
    (ht : ∀ v r, letTemporaryGo value v r = pure () := by intro _ _; with_unfolding_all rfl) : wpAny (model prog w) A (subscriptTail value slice (.str x t) (.int (k : Int) u)) Q E s := by
  have hlt : k < x.cps.size := (Array.getElem?_eq_some_iff.mp hk).1
  have h0 : seqIndex? (k : Int) x.length = some k := by
    rw [StrLaws.seqIndex_nonneg (by omega) (by show (k : Int) < (x.cps.size : Int); omega), Int.toNat_natCast]
  refine tail_of_ItemOn ⟨"str", _, F.slot_str_getitem.lookup, typeIs_str _ _ _, P.getItem_str ?_ ?_ q⟩ (hs _) (ht _)
  · have e : (2 : Int) ^ 63 = 9223372036854775808 := by decide +kernel
    rw [e, Bool.or_eq_false_iff, decide_eq_false_iff_not, decide_eq_false_iff_not]
    omega
  · rw [h0]; exact hk
theorem str_len {prog : Program} {w : World} {A : Around} {E : Value → Shared → Prop} {s : Shared} {x : Str} {t : Tok} {Q : Value → Shared → Prop} (hb : x.cps.size ≤ 100000) (q : Q (.int ((x.cps.size : Nat) : Int) (s.toks + 1)) { s with toks := s.toks + 1 + 1 }) :
    wpAny (model prog w) A (call (.builtin "len") [.str x t]) Q E s := by
  refine P.len_str ?_ q
  have e : (2 : Int) ^ 63 = 9223372036854775808 := by decide +kernel
  rw [e]
  have : x.length = x.cps.size := rfl
  omega
section
local macro_rules | `(tactic| walk_at "call builtin:len") => `(tactic| (refine str_len (by omega) ?_))
local macro_rules | `(tactic| walk_at "subscriptTail") => `(tactic| (refine Halt.out ?_))
local macro_rules | `(tactic| walk_at "subscriptTail Name Name str int") => `(tactic| (refine Halt.out ?_))
local macro_rules | `(tactic| walk_at "subscriptTail Name BinOp str int") => `(tactic| (refine Halt.out ?_))
theorem pal_of {l : List Nat} (h : ∀ j, j < l.length / 2 → l[j]? = l[l.length - 1 - j]?) : l = l.reverse := by
  apply List.ext_getElem?
  intro j
  by_cases hj : j < l.length
  · rw [List.getElem?_reverse hj]
    by_cases h1 : j < l.length / 2
    · exact h j h1
    · by_cases h2 : l.length - 1 - j < l.length / 2
      · have := h (l.length - 1 - j) h2
        rw [show l.length - 1 - (l.length - 1 - j) = j by omega] at this
        exact this.symm
      · rw [show l.length - 1 - j = j by omega]
  · rw [List.getElem?_eq_none (by omega), List.getElem?_eq_none (by rw [List.length_reverse]; omega)]
theorem pal_not {l : List Nat} {j : Nat} (hj : j < l.length) (h : l[j]? ≠ l[l.length - 1 - j]?) : l ≠ l.reverse := fun e => h (by
  have := congrArg (fun z : List Nat => z[j]?) e
  rw [List.getElem?_reverse hj] at this
  exact this)
theorem one_name2 {x z : Str} {v : Value} (h : z ≠ x) : (fun y => List.lookup y [(x, v)].reverse) = fun y => if y = z then none else if y = x then some v else none := by
  funext y
  show List.lookup y [(x, v)] = _
  rw [List.lookup_cons]
  by_cases e : y = x
  · rw [e, beq_self_eq_true, if_neg (Ne.symm h), if_pos rfl]
  · rw [beq_eq_false_iff_ne.mpr e, if_neg e]
    by_cases e2 : y = z
    · rw [if_pos e2]; rfl
    · rw [if_neg e2]; rfl
theorem upd_twice2 {x : Str} {a b : Option Value} {f : Str → Option Value} : (fun y => if y = x then a else (fun y => if y = x then b else f y) y) = fun y => if y = x then a else f y := by
  funext y
  by_cases e : y = x
  · rw [if_pos e, if_pos e]
  · rw [if_neg e, if_neg e]; exact if_neg e
theorem alike_does (w : World) (x : Str) (t1 : Tok) (h1 : x.cps.size ≤ 1000) :
    Does w 159 20 200 [.str x t1] (fun v tl => v = .bool (decide (x.cps.toList = x.cps.toList.reverse)) ∧ tl = []) := by
  unfold Does
  intro p loose mean mg mb dp un cn cs e9 ccd cl outer A₀ base h₀ L m news s Q E X B F N T hk hd hu ret
  revert X
  k_fill
  intro X
  refine wpAny_call ?_
  k_dflt ktr_enter
  rename_i g1 L1 h1' FG1 F1 N1 B1 X1 T1
  w_binds F1
  refine wpAny_execs_cons (wpAny_For ?_)
  k_steps
  rename Fr _ _ _ _ => F2
  rename News _ _ _ _ => N2
  rename IsRange _ _ _ _ _ _ _ _ => r2
  have eb : (x.cps.size : Int).fdiv 2 = ((x.cps.size / 2 : Nat) : Int) := by
    rw [Int.fdiv_eq_ediv_of_nonneg _ (by decide)]; omega
  rw [eb] at r2
  have F2 : Fr g1 L1 _ (fun y => List.lookup y [(Str.ofString "word", Value.str x t1)].reverse) := F2
  rw [one_name2 (z := Str.ofString "k") (by decide)] at F2
  have ln : x.cps.toList.length = x.cps.size := Array.length_toList
  refine loopRange_A (k := x.cps.size / 2) rfl r2 (range_small (by omega) (by omega) (by omega) rangeSize_to (by omega)) rangeSize_to rfl rfl F2 N2
    (fun i m₁ nx => ∃ v, m₁ = (fun y => if y = Str.ofString "k" then v else if y = Str.ofString "word" then some (Value.str x t1) else none) ∧ nx = news ∧ ∀ j, j < i → x.cps.toList[j]? = x.cps.toList[x.cps.size - 1 - j]?) ?_ ?_ ?_
  · exact ⟨none, rfl, rfl, fun j hj => absurd hj (Nat.not_lt_zero _)⟩
  · rintro I i t o m₁ nx h3 tk3 hi hI ⟨v, rfl, rfl, hj⟩ off F3 N3
    rw [upd_twice2, show (0 + (i : Int) * 1) = (i : Int) by omega] at F3
    have F3 : Fr g1 L1 h3 _ := F3
    have N3 : News g1 L1 h3 _ := N3
    clear F2 N2 r2
    obtain ⟨c1, hc1⟩ : ∃ c, x.cps[i]? = some c := ⟨_, Array.getElem?_eq_getElem (by omega)⟩
    obtain ⟨c2, hc2⟩ : ∃ c, x.cps[x.cps.size - 1 - i]? = some c := ⟨_, Array.getElem?_eq_getElem (by omega)⟩
    k_steps
    refine Halt.go (str_item (by omega) hc1 ?_)
    k_steps
    refine Halt.go ?_
    rw [show (x.cps.size : Int) - 1 - (i : Int) = ((x.cps.size - 1 - i : Nat) : Int) by omega]
    refine str_item (by omega) hc2 ?_
    have e1 : x.cps.toList[i]? = some c1 := by rw [Array.getElem?_toList]; exact hc1
    have e2 : x.cps.toList[x.cps.size - 1 - i]? = some c2 := by rw [Array.getElem?_toList]; exact hc2
    k_steps
    · have hne : c1 ≠ c2 := fun e => by
        have := ‹({ cps := #[c1] } != ({ cps := #[c2] } : Str)) = true›
        rw [e] at this
        simp at this
      have np : x.cps.toList ≠ x.cps.toList.reverse := pal_not (j := i) (by omega) (by rw [ln, e1, e2]; exact fun q => hne (Option.some.inj q))
      rw [decide_eq_false np] at ret
      unfold TurnTo
      dsimp only
      k_steps
      exact ret _ [] _ _ ⟨rfl, rfl⟩ ‹Fr h₀ L _ m› (news_sub ‹News h₀ L _ _› fun p hp => .tail _ hp) (fun q hq => nomatch hq)
    · have he : c1 = c2 := by
        have := ‹({ cps := #[c1] } != ({ cps := #[c2] } : Str)) = false›
        have e3 : ({ cps := #[c1] } : Str) = { cps := #[c2] } := by simpa using this
        exact (List.cons.inj (congrArg (fun z : Str => z.cps.toList) e3)).1
      refine ⟨h3, _, _, _, rfl, F3, N3, off, some _, rfl, rfl, fun j hj' => ?_⟩
      by_cases ej : j = i
      · rw [ej, e1, e2, he]
      · exact hj j (by omega)
  · rintro m₁ nx h3 tk3 ⟨v, rfl, rfl, hj⟩ F3 N3
    have F3 : Fr g1 L1 h3 _ := F3
    have N3 : News g1 L1 h3 _ := N3
    dsimp only
    k_steps
    rw [decide_eq_true (pal_of (l := x.cps.toList) (by rw [ln]; exact hj))] at ret
    exact ret _ [] _ _ ⟨rfl, rfl⟩ ‹Fr h₀ L _ m› ‹News h₀ L _ _› (fun q hq => nomatch hq)
end
end Mine
end

section
open PySem PySem.W PySem.Calls PyProof.Rows
set_option Elab.async false
set_option maxRecDepth 100000
set_option maxHeartbeats 1000000
set_option linter.unusedVariables false
namespace Mine
section
variable {prog : Program} {w : World} {A₀ A : Around} {s : Shared} {base h₀ : Heap} {outer : List Env} {L : Addr} {m : Str → Option Value} {env : Env} {news : List (Addr × Obj)} {K : Frag} {p : Program} {loose : List Str} {mean : ExcName → Option Value} {mg mb : Str → Option Value}
  {R : Result → Shared → Prop} {name qual : Str} {params : Arguments} {body : List Stmt} {scope : Scope} {dV kV doc pm cdv ct oc : Value} {an od : Option Addr} {osl : Array (Option Value)} {f : Addr} {args : Args} {binds : List (Str × Value)}
/-- a def with cells, entered where the stack is clean -/
theorem codeC_defC (B : Below A₀ base outer h₀) (F : Fr h₀ L s.heap m) (X₀ : K.In h₀) (N : News h₀ L s.heap news) (T : Top p loose mean mg mb h₀) (hA : A.frames = some (env :: outer)) (hf : env.frame = some L) (hke : env.scope.kind = .function)
    (ho : K.lookup f = some ⟨oc, od, .func (fnOf name qual params body scope dV kV doc pm an cdv ct), osl⟩) (hcd : codeIn K cdv qual = true) (hroom : A.depth < recursionLimit)
    (hbind : BindsTo s (fnOf name qual params body scope dV kV doc pm an cdv ct) args binds) (hkind : (binds.all fun y => scope.names.lookup y.1 == some .local || scope.names.lookup y.1 == some .cell) = true)
    (hnd : ((cellsFrom 0 scope.names []).map (·.1)).Nodup)
    (h : ∀ g L' h₁ tk cells, Fr h₀ L g m → Fr g L' h₁ (bindL (envOfC qual scope L' f cdv).kindOf binds fun _ => none) → News g L' h₁ (cells ++ news) →
      CellsAre (bindC (envOfC qual scope L' f cdv).kindOf binds fun _ => none) (cellsFrom (L' + 1) scope.names []) cells → Below A base (env :: outer) g → K.In g → Top p loose mean mg mb g → (∀ p ∈ news, p.1 < L') →
      wpC (model prog w) (A.deeper (envOfC qual scope L' f cdv)) (execs body (envOfC qual scope L' f cdv))
        (fun fl s' => LeaveK h₀ L m g R (match fl with | .ret v => v | _ => .none) s')
        (fun e s' => wpAny (model prog w) (A.deeper (envOfC qual scope L' f cdv)) (leaving (envOfC qual scope L' f cdv) e) (fun _ s'' => R (.error e) s'') (fun e' s'' => R (.error e') s'') s')
        { s with heap := h₁, toks := tk })
    (hco : scope.isCoroutine = false) (hgen : scope.isGenerator = false) (hk : scope.kind = .function) : codeC (model prog w) A (.call (.ref f) args) R s := by
  obtain ⟨FG, BG, st, lv⟩ := groundX (R := R) B F N hA hf hke
  refine codeC_call_function hroom ((X₀.keeps F.keep) _ _ ho) rfl hco hgen rfl (codeRec_of (X₀.keeps F.keep) hcd) (hbind _ _ _ _ ?_)
  refine wpAny_newFunctionEnv_cells hk (kindsX hkind _) fun env' he s' x => ?_
  subst he
  refine ⟨(T.nolimit.keeps F.keep).keeps x.toInCall.keep, codeC_func ?_⟩
  obtain ⟨h₁, tk, rfl, _⟩ := x.done
  have hk₁ := x.toInCall.keep
  obtain ⟨cells, NC, Y⟩ := Cl.news (h₀ := s.heap) (Nat.le_refl _) fun n c hm => ⟨x.cell n c (lookup_of_mem_nodup (cellsFrom_names scope.names 0 (s.heap.objs.size + 1) [] [] rfl ▸ hnd) hm), x.above n c hm⟩
  refine wpC_mono (h _ s.heap.objs.size h₁ tk cells FG ⟨x.toInCall.ns, fun b o e => hk₁ b o (of_hideAll _ e), Nat.le_of_eq (hideAll_size _ _)⟩ (fun p hp => ?_) Y BG (X₀.keeps st) (T.keeps st) (fun p hp => Heap.lt_size (N p hp).1)) (fun fl s' hl => lv _ _ hl) fun _ _ y => y
  rcases List.mem_append.mp hp with hp | hp
  · refine ⟨(NC p hp).1, (NC p hp).2.1, ?_⟩
    cases q : (hideAll s.heap (news.map (·.1))).get? p.1 with
    | none => rfl
    | some o => have := of_hideAll _ q; rw [(NC p hp).2.2] at this; cases this
  · exact ⟨hk₁ _ _ (N p hp).1, Nat.ne_of_lt (Heap.lt_size (N p hp).1), hideAll_none _ (List.mem_map_of_mem hp)⟩
end
theorem DoesC.use {w : World} {f : Addr} {dn un' : Nat} {vs : List Value} {Out : Value → List (Addr × Obj) → Prop} (D : DoesC w f dn un' vs Out)
    {p : Program} {loose : List Str} {mean : ExcName → Option Value} {mg mb : Str → Option Value}
    {dp un : Nat} {cn : Str} {cs : Scope} {a : Addr} {ccd : Value} {cl : List (Str × Addr)} {outer : List Env} {A₀ : Around} {base h₀ : Heap} {L : Addr} {m : Str → Option Value} {news : List (Addr × Obj)} {s : Shared} {Q E : Value → Shared → Prop}
    (X : (mkK.heap_1 w.params).In h₀) (B : Below A₀ base outer h₀) (F : Fr h₀ L s.heap m) (N : News h₀ L s.heap news) (T : Top p loose mean mg mb h₀) (hk : cs.kind = .function)
    (hd : dp + dn < recursionLimit) (hu : un + un' < cLine)
    (ret : ∀ v tl h' tk', Out v tl → Fr h₀ L h' m → News h₀ L h' (tl ++ news) → (∀ q ∈ tl, ∀ p ∈ news, p.1 < q.1) → Q v { s with heap := h', toks := tk' }) :
    wpC (model PySem.Challenge.rw_xp0011_01.row.prog w) (ktrTop dp un (some []) cn cs L a ccd cl outer) (call (.ref f) vs) Q E s :=
  D p loose mean mg mb dp un cn cs a ccd cl outer A₀ base h₀ L m news s Q E X B F N T hk hd hu ret
def fnIn (K : Frag) (f : Addr) : Bool := match K.lookup f with
  | some ⟨_, _, .func _, _⟩ => true
  | _ => false
theorem fnAt_K {K : Frag} {h : Heap} {f : Addr} (X : K.In h) (e : fnIn K f = true) : FnAt f h := by
  unfold fnIn at e
  split at e
  · rename_i hk
    exact ⟨_, _, _, _, X _ _ hk⟩
  · cases e
section
variable {M : Model} {A : Around} {E : Value → Shared → Prop} {s : Shared} {env : Env}
theorem wpC_evalArgs {f : Value} {x : Sem Value} {rest : List (Bool × Sem Value)} {Q : Args → Shared → Prop} (h : wpC M A (spliced ((false, x) :: rest)) (fun vs s' => Q ⟨vs, []⟩ s') E s) : wpC M A (evalArgs f true ((false, x) :: rest) []) Q E s := by
  unfold evalArgs
  show wpC M A (spliced ((false, x) :: rest) >>= _) Q E s
  refine wpC_bind (wpC_mono h (fun vs s' g => ?_) fun _ _ x => x)
  refine wpC_holding ?_
  exact wpC_bind (wpC_pure (wpC_bind (wpC_pure (wpC_pure g))))
/-- the call of a def by its name, where an argument needs the clean stack -/
theorem wpC_callWithA {pos : Pos} {a : Addr} {x : Sem Value} {rest : List (Bool × Sem Value)} {Q : Value → Shared → Prop}
    (h : wpC M A (spliced ((false, x) :: rest)) (fun vs s₁ => FnAt a s₁.heap ∧ wpC M A (call (.ref a) vs) Q E s₁) E s) :
    wpC M A (callWith pos (.ref a) [] ((false, x) :: rest) []) Q E s := by
  have key : ∀ s, wpC M A (spliced ((false, x) :: rest)) (fun vs s₁ => FnAt a s₁.heap ∧ wpC M A (call (.ref a) vs) Q E s₁) E s → wpC M A (callWith pos (.ref a) [] ((false, x) :: rest) []) Q E s := by
    intro s h
    unfold callWith
    refine wpC_bind (wpC_holding (wpC_evalArgs (wpC_mono h (fun vs s₁ g => ?_) fun _ _ x => x)))
    have tail : ∀ {t : Sem Value}, wpC M A t Q E s₁ → wpC M A (t >>= fun r => holding [r] point >>= fun _ => pure r) Q E s₁ :=
      fun ht => wpC_bind (wpC_mono ht (fun r s₂ hr => wpC_bind (wpC_holding (wpC_point (wpC_pure hr)))) fun _ _ x => x)
    refine wpC_bind (wpC_standAt ?_)
    refine wpC_bind (m := keeperOf (.ref a)) ?_
    unfold keeperOf
    obtain ⟨⟨oc, od, fd, sl, e⟩, g⟩ := g
    refine wpC_step (wpAny_load e ?_)
    refine wpC_pure ?_
    have keep : ∀ mk, wpC M A (callMarked mk (.ref a) vs []) Q E s₁ := fun mk Γ p i a b => by
      unfold callMarked
      rw [Sem.wp_keep]
      exact g Γ p i a b
    dsimp only
    cases hs : (((false, x) :: rest).any (·.1) || ([] : List (Option Str × Sem Value)).any (·.1.isNone)) with
    | true => exact tail (keep _)
    | false =>
      dsimp only
      split
      · exact tail g
      · exact tail (keep _)
  exact key s h
end
end Mine
end

section
open PySem PySem.W PyProof.Rows PySem.Calls
set_option Elab.async false
set_option maxRecDepth 100000
set_option maxHeartbeats 2000000
set_option linter.unusedVariables false
namespace Mine
/-- a writing's number: the first sign highest, each code taken off the greatest digit -/
noncomputable def num (wd : Nat) (l : List Nat) : Nat := dval wd (l.reverse.map fun c => 2 ^ wd - 1 - c)
theorem not_two {x c1 c2 : Addr × Obj} {tl front : List (Addr × Obj)} {vs : Array Value} {v1 : Array Value} {k1 : Nat} {v2 : Option Value} (h : x ∈ tl ++ c1 :: c2 :: front) (hx : x.2.data = .fields vs) (h1 : c1.2.data = .seq v1 k1) (h2 : c2.2.data = .cell v2) : x ∈ tl ++ front := by
  rcases List.mem_append.mp h with h | h
  · exact List.mem_append_left _ h
  rcases List.mem_cons.mp h with rfl | h
  · rw [hx] at h1; cases h1
  rcases List.mem_cons.mp h with rfl | h
  · rw [hx] at h2; cases h2
  · exact List.mem_append_right _ h
theorem off1_mem {D : Addr} {l : List (Addr × Obj)} (h : LCg.Off1 D l) : ∀ p ∈ l, p.1 ≠ D := by
  induction l with
  | nil => intro p hp; exact absurd hp List.not_mem_nil
  | cons x r ih =>
    intro p hp
    rcases List.mem_cons.mp hp with e | hp
    · rw [e]; exact h.1
    · exact ih h.2 p hp
theorem byteArr_rev {l : List Nat} {i : Nat} {c : UInt8} (hv : ∀ k ∈ l, k < 256) (h : (byteArr (l.map Int.ofNat)).reverse[i]? = some c) : l.reverse[i]? = some c.toNat := by
  have e : (byteArr (l.map Int.ofNat)).reverse.toList = l.reverse.map Nat.toUInt8 := by
    rw [Array.toList_reverse]
    show ((l.map Int.ofNat).map fun n => n.toNat.toUInt8).toArray.toList.reverse = _
    rw [List.map_map, ← List.map_reverse]
    rfl
  rw [← Array.getElem?_toList, e, List.getElem?_map] at h
  cases q : l.reverse[i]? with
  | none => rw [q] at h; cases h
  | some k =>
    rw [q] at h
    have hk := hv k (List.mem_reverse.mp (List.mem_of_getElem? q))
    have e2 : k.toUInt8 = c := Option.some.inj h
    rw [← e2]
    show some k = some (UInt8.ofNat k).toNat
    rw [UInt8.toNat_ofNat', Nat.mod_eq_of_lt (by omega)]
section
local macro_rules | `(tactic| walk_at "eval ListComp") => `(tactic| (refine Halt.out ?_))
local macro_rules | `(tactic| walk_at "call type:bytes") => `(tactic| (refine Halt.out ?_))
local macro_rules | `(tactic| walk_at "pyIter") => `(tactic| (refine Halt.out ?_))
local macro_rules | `(tactic| walk_at "pyIter str") => `(tactic| (refine Halt.out ?_))
local macro_rules | `(tactic| walk_at "CompEnd") => `(tactic| (refine Halt.out ?_))
local macro_rules | `(tactic| walk_at "binaryOp LShift int int") => `(tactic| (with_reducible refine mn_one ?_ ?_))
local macro_rules | `(tactic| walk_at "mine enterCX") => `(tactic| (refine' codeC_defC ?k1 ?k2 ?k3 ?k4 ?k5 ?kA ?kF ?kK ?k6 ?k7 ?k8 ?k9 ?kB ?kD ?_ ?c2 ?c3 ?c4; (case kA => exact rfl); (case kF => exact rfl); (case kK => assumption); (case k1 => k_asm); (case k2 => k_asm); (case k3 => k_asm); (case k4 => k_asm); (case k5 => k_asm); (case k6 => k_is); (case k7 => k_is); (case k8 => ktr_room); (case k9 => exact BindsTo.of_eq rfl); (case kB => exact rfl); (case kD => decide +kernel); (case c2 => exact rfl); (case c3 => exact rfl); (case c4 => exact rfl); k_whole; intro g' L' h' tk' cells' FG' F' N' Y' B' X' T' l1))
theorem number_does (w : World) (x : Str) (wd : Nat) (t1 t2 : Tok) (hz : x.cps.size ≤ 100) (hz0 : 0 < x.cps.size) (hw : 8 ≤ wd) (hw2 : wd ≤ 400) (hv : ∀ c ∈ x.cps.toList, c < 256)
    (p : Program) (loose : List Str) (mean : ExcName → Option Value) (mg mb : Str → Option Value)
    (dp un : Nat) (cn : Str) (cs : Scope) (a : Addr) (ccd : Value) (cl : List (Str × Addr)) (outer : List Env) (A₀ : Around) (base h₀ : Heap) (L : Addr) (m : Str → Option Value) (front rest : List (Addr × Obj)) (q : Obj) (s : Shared) (Q E : Value → Shared → Prop)
    (X : (mkK.heap_1 w.params).In h₀) (B : Below A₀ base outer h₀) (F : Fr h₀ L s.heap m) (N : News h₀ L s.heap (front ++ (37, q) :: rest)) (T : Top p loose mean mg mb h₀) (hk : cs.kind = .function)
    (hdp : dp + 140 < recursionLimit) (hun : un + 1600 < cLine) (o1 : ∀ p ∈ front, p.1 ≠ 37) (o2 : ∀ p ∈ rest, p.1 ≠ 37) (tb : TabS 34 4 (Str.ofString "_digits2int.<locals>.inner") q front)
    (ret : ∀ t q' tl h' tk', Fr h₀ L h' m → News h₀ L h' (tl ++ front ++ (37, q') :: rest) → TabS 34 4 (Str.ofString "_digits2int.<locals>.inner") q' (tl ++ front) → (∀ p ∈ tl, ∀ r ∈ front, r.1 < p.1) → (∀ p ∈ tl, 37 < p.1) → Q (.int (num wd x.cps.toList : Int) t) { s with heap := h', toks := tk' }) :
    wpC (model PySem.Challenge.rw_xp0011_01.row.prog w) (ktrTop dp un (some []) cn cs L a ccd cl outer) (call (.ref 164) [.str x t1, .int (wd : Int) t2]) Q E s := by
  revert X
  k_fill
  intro X
  refine wpC_call ?_
  k_dflt walk_at "mine enterCX"
  rename_i g1 L1 h1 tk1 cells FG1 F1 N1 Y1 B1 X1 T1 l1
  k_cells Y1
  simp only [List.cons_append, List.nil_append] at N1
  rename_i oc dc
  have dc : oc.data = .cell none := dc
  have F1 : Fr g1 L1 h1 (fun y => if y = Str.ofString "width" then some (.int (wd : Int) t2) else if y = Str.ofString "text" then some (.str x t1) else none) := F1
  refine wpC_execs_cons (wpC_any ?_)
  k_steps
  refine Halt.go ?_
  k_dflt (refine comp_L F1 rfl (by decide) rfl (by decide) rfl ?_)
  k_steps
  refine Halt.go ?_
  refine src_str rfl (Nat.le_trans hz (by decide +kernel)) F1 N1 ?_
  intro gg
  refine compRest_of (fun i ys nw => IntsAre ys ((x.cps.toList.take i).map Int.ofNat) ∧ nw = (L1 + 1, oc) :: (front ++ (37, q) :: rest)) ?_ ?_ _ 0 [] _ (Nat.zero_add _) ⟨.nil, rfl⟩
  · rintro i ys nw v I oI C oC D m₂ h5 tk5 E5 hi ⟨hys, rfl⟩ ⟨c, u, hc, rfl⟩ hC hx F5 N5 off ne
    k_steps
    refine Halt.go ⟨_, _, _, rfl, F5, N5, off, trivial, ?_, rfl⟩
    rw [List.take_add_one, show x.cps.toList[i]? = some c by rw [Array.getElem?_toList]; exact hc, List.map_append]
    exact IntsAre.append hys (.cons _ _ .nil)
  · rintro ys nw ⟨hys, rfl⟩
    intro D h6 tk6 F6 N6 off
    rw [show x.cps.toList.take x.cps.size = x.cps.toList by rw [← Array.length_toList, List.take_length]] at hys
    k_steps
    refine Halt.go (call_bytes_ints ⟨_, (N6 _ List.mem_cons_self).1, rfl, _, rfl⟩ hys (fun z hz9 => ?_) ?_ rfl fun h7 t7 k7 hk7 => ?_)
    · obtain ⟨c, hc, rfl⟩ := List.mem_map.mp hz9
      have := hv c hc
      show (0 : Int) ≤ (c : Int) ∧ (c : Int) < 256
      omega
    · rw [hys.length, List.length_map, Array.length_toList]
      exact Nat.le_trans hz (by decide +kernel)
    have F7 := F6.keeps hk7
    have N7 : News g1 L1 h7 ((L1 + 1, oc) :: (front ++ (37, q) :: rest)) := fun p hp => ⟨hk7 _ _ (N6 p (.tail _ hp)).1, (N6 p (.tail _ hp)).2⟩
    clear F6 N6 F1 N1
    dsimp only
    k_steps
    refine wpC_execs_cons (wpC_any ?_)
    k_steps
    · show wd ≤ 1000000
      omega
    rename Fr _ _ _ _ => F8
    rename News _ _ _ _ => N8
    refine storeX_C F8 N8 rfl (UpdF.head fun p hp => Nat.ne_of_lt (Nat.lt_succ_of_lt (l1 p hp))) dc fun h9 oc9 F9 N9 dc9 => ?_
    clear F8 N8 dc
    dsimp only at N9 ⊢
    refine wpC_execs_cons (wpC_Return (wpC_Call_Name (trees := [(false, eval _ _), (false, eval _ _)]) rfl ?_))
    k_steps
    refine wpC_callWithA (wpC_spliced_cons ?_)
    k_dflt (refine wpC_ListComp (h₀ := g1) (L := L1) (m := fun y => if y = Str.ofString "octets" then some (.bytes (byteArr (x.cps.toList.map Int.ofNat)) t7) else if y = Str.ofString "width" then some (.int (wd : Int) t2) else if y = Str.ofString "text" then some (.str x t1) else none) rfl (by decide) rfl (by decide) rfl ?_)
    refine wpC_Call_Name (trees := [(false, eval _ _), (false, eval _ _)]) rfl ?_
    k_steps
    have hbs : (byteArr (x.cps.toList.map Int.ofNat)).size = x.cps.size := by rw [byteArr_size, List.length_map, Array.length_toList]
    have hbs2 : (byteArr (x.cps.toList.map Int.ofNat)).size ≤ 1000 := by omega
    refine wpC_callWith (spliced_cons ?_)
    k_steps
    refine spliced_cons ?_
    k_steps
    refine spliced_nil ?_
    refine ⟨fnAt_K (X1.keeps F9.keep) (by kernel_rfl), ?_⟩
    refine DoesC.use (byteswap_does w (byteArr (x.cps.toList.map Int.ofNat)) _ _ (by rw [hbs]; exact hz0) (by rw [hbs]; omega)) X1 B1 F9 N9 T1 rfl (show dp + 1 + 20 < _ by omega) (show un + 3 + 200 < _ by omega) ?_
    rintro _ _ h10 tk10 ⟨t10, rfl, rfl⟩ F10 N10 hlt10
    rw [List.nil_append] at N10
    refine ⟨F10, ?_⟩
    have hrev : (byteArr (x.cps.toList.map Int.ofNat)).reverse.size = x.cps.size := by rw [Array.size_reverse, hbs]
    refine src_bytes rfl (by rw [hrev]; exact Nat.le_trans hz (by decide +kernel)) F10 N10 ?_
    intro gg
    have hp : 256 ≤ 2 ^ wd := Nat.le_trans (show 256 ≤ 2 ^ 8 by decide) (Nat.pow_le_pow_right (by decide) hw)
    have hpI : ((2 ^ wd : Nat) : Int) = (2 : Int) ^ wd := by push_cast; rfl
    refine compRest_of (fun i ys nw => IntsAre ys (((x.cps.toList.reverse.map fun c => 2 ^ wd - 1 - c).take i).map Int.ofNat) ∧ nw = (L1 + 1, oc9) :: (front ++ (37, q) :: rest)) ?_ ?_ _ 0 [] _ (Nat.zero_add _) ⟨.nil, rfl⟩
    · rintro i ys nw v I oI C oC D m₂ h5 tk5 E5 hi ⟨hys, rfl⟩ ⟨c, u, hc, rfl⟩ hC hx F5 N5 off ne
      have hc2 := byteArr_rev hv hc
      have hc3 : c.toNat < 256 := UInt8.toNat_lt _
      k_steps
      refine Halt.go ⟨_, _, _, rfl, F5, N5, off, trivial, ?_, rfl⟩
      rw [List.take_add_one, List.getElem?_map, hc2, List.map_append]
      rw [show (2 : Int) ^ wd - 1 - (c.toNat : Int) = Int.ofNat (2 ^ wd - 1 - c.toNat) by
        show _ = ((2 ^ wd - 1 - c.toNat : Nat) : Int)
        omega]
      exact IntsAre.append hys (.cons _ _ .nil)
    · rintro ys nw ⟨hys, rfl⟩
      intro D h6 tk6 F6 N6 off
      rw [hrev, show (x.cps.toList.reverse.map fun c => 2 ^ wd - 1 - c).take x.cps.size = x.cps.toList.reverse.map fun c => 2 ^ wd - 1 - c from List.take_of_length_le (by rw [List.length_map, List.length_reverse, Array.length_toList]; exact Nat.le_refl _)] at hys
      refine wpC_any (spliced_cons ?_)
      k_steps
      refine spliced_nil ?_
      refine ⟨fnAt_K (X1.keeps F6.keep) (by kernel_rfl), wpC_any ?_⟩
      have hlen : (x.cps.toList.reverse.map fun c => 2 ^ wd - 1 - c).length = x.cps.size := by rw [List.length_map, List.length_reverse, Array.length_toList]
      have hL : 37 < L1 := l1 (37, q) (List.mem_append_right _ List.mem_cons_self)
      have hoff : ∀ p ∈ (L1 + 1, oc9) :: (front ++ (37, q) :: rest), p.1 ≠ D := off1_mem off
      refine digits_does w D (x.cps.toList.reverse.map fun c => 2 ^ wd - 1 - c) ys _ wd t2 (by rw [hlen]; exact hz) hw2 hys (fun d hd => ?_) p loose mean mg mb (dp + 1) (un + 3) _ _ _ _ _ _ _ _ g1 L1 _ ((D, _) :: (L1 + 1, oc9) :: front) rest q _ _ _ X1 B1 F6 N6 T1 rfl (by omega) (by omega) List.mem_cons_self ?_ o2 (tb.mono fun p hp => .tail _ (.tail _ hp)) fun t8 q8 tl8 h8 tk8 F8 N8 tb8 u1 u2 => ?_
      · obtain ⟨c, _, rfl⟩ := List.mem_map.mp hd
        omega
      · intro p hp
        rcases List.mem_cons.mp hp with rfl | hp
        · exact fun e => hoff (37, q) (.tail _ (List.mem_append_right _ List.mem_cons_self)) e.symm
        rcases List.mem_cons.mp hp with rfl | hp
        · exact Nat.ne_of_gt (Nat.lt_succ_of_lt hL)
        · exact o1 p hp
      · dsimp only
        k_steps
        refine ret t8 q8 tl8 _ _ ‹Fr h₀ L _ m› (news_sub ‹News h₀ L _ _› fun p hp => ?_) (tb8.imp id fun ⟨c2, o3, v2, t3, e1, e2, e3, e4⟩ => ⟨c2, o3, v2, t3, e1, not_two e2 e3 rfl dc9, e3, e4⟩) (fun p hp r hr => u1 p hp r (.tail _ (.tail _ hr))) u2
        rcases List.mem_append.mp hp with hp | hp
        · rcases List.mem_append.mp hp with hp | hp
          · exact List.mem_append_left _ (List.mem_append_left _ hp)
          · exact List.mem_append_left _ (List.mem_append_right _ (.tail _ (.tail _ hp)))
        · exact List.mem_append_right _ hp
end
end Mine
end

section
open PySem PySem.W PySem.Calls PyProof.Rows
set_option Elab.async false
set_option maxRecDepth 100000
set_option maxHeartbeats 1000000
set_option linter.unusedVariables false
namespace Mine
abbrev accO (dx : Addr) (vs : List Value) (c : Nat) : Obj := { cls := .ref 122, dict := some dx, data := .seq vs.toArray c }
section
variable {M : Model} {prog : Program} {w : World} {A : Around} {E : Value → Shared → Prop} {s : Shared} {K : Frag} {x : Addr} {dx : Addr} {vs : List Value} {c : Nat}
theorem acc_type {h : Heap} (hx : h.get? x = some (accO dx vs c)) : Looks M h (typeOf (.ref x)) (.ref 122) := (Looks.ld hx).andThen .now
theorem acc_check {id n : String} {rest : List Value} {Q : Unit → Shared → Prop} (X : K.In s.heap) (hx : s.heap.get? x = some (accO dx vs c)) (hm : mroIn K 122 (.type "list") = some true)
    (hsplit : splitId id = some ("list", n)) (hkind : (Manifest.find? "list").bind (·.attrs.lookup n) = some .slot ∨ (Manifest.find? "list").bind (·.attrs.lookup n) = some .method)
    (ha : argsOk id ⟨.ref x :: rest, []⟩) (hQ : Q () s) : wpAny M A (checkBuiltinCall id ⟨.ref x :: rest, []⟩) Q E s := by
  have hk : builtinKind id = (Manifest.find? "list").bind (·.attrs.lookup n) := by simp only [builtinKind, hsplit]
  have L1 := looks_mroIn (M := M) X hm
  have L0 := acc_type (M := M) hx
  rcases hkind with h | h <;>
  · simp only [checkBuiltinCall, hk, h, hsplit]
    refine wpAny_bind (m := isInstance (.ref x) (.type "list")) (wpAny_bind (L0.here (L1.here ?_)))
    simp only [Bool.not_true, Bool.false_eq_true, if_false]
    cases hsig : Manifest.signature? id with
    | none => exact wpAny_pure hQ
    | some sig =>
      simp only [argsOk, hsig] at ha
      have h2 : Bind.checkArgs id sig ⟨.ref x :: rest, []⟩ = pure () := ha
      show wpAny M A (Bind.checkArgs id sig ⟨.ref x :: rest, []⟩) Q E s
      rw [h2]; exact wpAny_pure hQ
theorem acc_meets {id n : String} {B : Builtin} {rest : List Value} {S : PySem.Spec} {Q : Value → Shared → Prop} (X : K.In s.heap) (hx : s.heap.get? x = some (accO dx vs c)) (hm : mroIn K 122 (.type "list") = some true)
    (hsplit : splitId id = some ("list", n)) (hkind : (Manifest.find? "list").bind (·.attrs.lookup n) = some .slot ∨ (Manifest.find? "list").bind (·.attrs.lookup n) = some .method) (hp : plainId id = true)
    (entry : entryFor table id = some B) (ha : argsOk id ⟨.ref x :: rest, []⟩) (g : Meets (B ⟨.ref x :: rest, []⟩) S) (h : S A (wants Q E) s) :
    wpAny (model prog w) A (call (.builtin id) (.ref x :: rest)) Q E s :=
  wpAny_call (codeAny_call_builtin hp entry (acc_check X hx hm hsplit hkind ha (g prog w A (wants Q E) s h)))
theorem m_append (l : Addr) (v : Value) (hs : vs.length ≤ sizeLine) :
    Meets (Builtin.«list.append» ⟨[.ref l, v], []⟩)
      (fun _ R s => s.heap.get? l = some (accO dx vs c) ∧ R (.ok (.ret .none)) { s with heap := s.heap.update l (Obj.mapSeq fun xs => xs.push v) }) :=
  .of_wp fun prog w A R s h => by
    obtain ⟨hp, g, d, tk, os⟩ := s; obtain ⟨hl, h⟩ := h
    have hz : vs.toArray.size ≤ sizeLine := by rw [List.size_toArray]; exact hs
    have hz' : (vs.toArray.push v).size ≤ sizeLine + 1 := by rw [Array.size_push]; omega
    wp_walk using (wpAny_updateSeq hl rfl (hz := hz) (_hz' := hz')), wpAny_loadPart' hl
    exact ⟨_, rfl, h⟩
theorem m_len (l : Addr) :
    Meets (Builtin.«list.__len__» ⟨[.ref l], []⟩)
      (fun _ R s => s.heap.get? l = some (accO dx vs c) ∧ R (.ok (.ret (.int ((vs.length : Nat) : Int) s.toks))) { s with toks := s.toks + 1 }) :=
  .of_wp fun prog w A R s h => by
    obtain ⟨hp, g, d, tk, os⟩ := s; obtain ⟨hl, h⟩ := h
    wp_walk using wpAny_loadPart' hl
    rw [List.size_toArray]
    exact ⟨_, rfl, h⟩
theorem m_pop (l : Addr) (ys : List Value) (y : Value) (hs : vs = ys ++ [y]) (hz : vs.length ≤ sizeLine) :
    Meets (Builtin.«list.pop» ⟨[.ref l], []⟩)
      (fun _ R s => s.heap.get? l = some (accO dx vs c) ∧ R (.ok (.ret y)) { s with heap := s.heap.update l (Obj.mapSeq fun xs => xs.eraseIdxIfInBounds (vs.toArray.size - 1)) }) :=
  .of_wp fun prog w A R s h => by
    obtain ⟨hp, g, d, tk, os⟩ := s; obtain ⟨hl, h⟩ := h
    have hs1 : vs.toArray.size ≤ sizeLine := by rw [List.size_toArray]; exact hz
    have hpos : 0 < vs.toArray.size := by rw [List.size_toArray, hs, List.length_append]; exact Nat.succ_pos _
    have hne : ¬ vs.toArray.isEmpty = true := by
      intro he; have : vs.toArray.size = 0 := by simpa using he
      omega
    have hk : seqIndex? (-1) vs.toArray.size = some (vs.toArray.size - 1) := by
      rw [PySem.MeetsSeq.seqIndex_neg (by omega) (by omega)]; congr 1; omega
    have hy : vs.toArray[vs.toArray.size - 1]? = some y := by subst hs; simp
    wp_walk using wpAny_loadPart' hl
    simp only [hk, hy, Option.bind_some, Option.map_some]
    have hz' : (vs.toArray.eraseIdxIfInBounds (vs.toArray.size - 1)).size ≤ sizeLine + 1 := Nat.le_trans (PySem.MeetsSeq.size_erased _ _) (Nat.le_succ_of_le hs1)
    wp_walk using (wpAny_updateSeq hl rfl (hz := hs1) (_hz' := hz')), wpAny_loadPart' hl
    exact ⟨_, rfl, h⟩
end
end Mine
end

section
open PySem PySem.W PySem.Calls PyProof.Rows
set_option Elab.async false
set_option maxRecDepth 100000
set_option maxHeartbeats 1000000
set_option linter.unusedVariables false
namespace Mine
section
variable {M : Model} {prog : Program} {w : World} {A : Around} {E : Value → Shared → Prop} {s : Shared} {K : Frag} {x sl : Addr} {dx : Addr} {vs : List Value} {c : Nat}
theorem acc_special {id : String} {name : Str} {args : List Value} {Q : Option Value → Shared → Prop} (X : K.In s.heap) (hx : s.heap.get? x = some (accO dx vs c))
    (hs : findIn K (.ref 122) name = some (some (.builtin id))) (hb : ∀ self, bindSpecial (.builtin id) self = pure (.builtin id, [self]))
    (h : wpAny M A (call (.builtin id) (.ref x :: args)) (fun v => Q (some v)) E s) : wpAny M A (callSpecial? (.ref x) name args) Q E s := by
  have L1 := looks_findIn (M := M) X hs
  have L0 := acc_type (M := M) hx
  simp only [callSpecial?]
  refine wpAny_bind (m := specialOf (.ref x) name) (wpAny_bind (L0.here (L1.here ?_)))
  dsimp only
  rw [hb]
  refine wpAny_holding (wpAny_bind (wpAny_pure ?_))
  exact wpAny_bind (wpAny_mono h (fun _ _ z => wpAny_pure z) fun _ _ z => z)
/-- the class is no sequence whose key is turned into an index -/
def noSeq (K : Frag) : Bool := seqItemTypes.all fun n => mroIn K 122 (.type n) == some false
theorem acc_any {l : List String} {h : Heap} (X : K.In h) (hl : (l.all fun n => mroIn K 122 (.type n) == some false) = true) : Looks M h (l.anyM fun n => isSubtype (.ref 122) (.type n)) false := by
  induction l with
  | nil => exact .now
  | cons n r ih =>
    rw [List.all_cons, Bool.and_eq_true, beq_iff_eq] at hl
    rw [List.anyM_cons]
    refine (looks_mroIn X hl.1).andThen ?_
    exact ih hl.2
theorem acc_key {k : Value} {name : Str} {Q : Value → Shared → Prop} (X : K.In s.heap) (hx : s.heap.get? x = some (accO dx vs c)) (hn : noSeq K = true) (h : Q k s) : wpAny M A (sequenceKey (.ref x) k name) Q E s := by
  have L0 := acc_type (M := M) hx
  unfold sequenceKey
  refine wpAny_bind (L0.here ?_)
  refine wpAny_bind ((acc_any X hn).here ?_)
  exact wpAny_pure h
theorem m_getSl {lo hi st : Option Int} {vl vu vt : Value} (l sl : Addr) (hsz : vs.length ≤ sizeLine) (pl : IsPart vl lo) (pu : IsPart vu hi) (ps : IsPart vt st) (h0 : st ≠ some 0) :
    Meets (Builtin.«list.__getitem__» ⟨[.ref l, .ref sl], []⟩)
      (fun _ R s => s.heap.get? l = some (accO dx vs c) ∧ s.heap.IsSliceOf sl vl vu vt ∧ R (.ok (.ret (.ref s.heap.objs.size))) { s with heap := s.heap.push { cls := .type "list", data := .seq (slicePick vs.toArray lo hi st) } }) :=
  .of_wp fun prog w A R s h => by
    obtain ⟨hl, hs, h⟩ := h
    obtain ⟨os, hos, hcs, hds⟩ := id hs
    have hTs : s.TypeIs (.ref sl) "slice" := ⟨os, hos, hcs⟩
    show wpAny _ _ (Builtin.List.listSubscript? (.ref sl) >>= _) _ _ s
    refine wpAny_bind ?_
    unfold Builtin.List.listSubscript?
    refine wpAny_bind (wpAny_specialOf hTs slice_no_index ?_)
    simp only [Option.isNone_none, if_true]
    refine wpAny_pure ?_
    show wpAny _ _ (typeOf (.ref sl) >>= _) _ _ s
    refine wpAny_bind (wpAny_typeOf hTs ?_)
    rw [if_neg (by decide)]
    rw [listSliceParts_eq]
    have hstep : ¬ ((rawPart st == rawInt 0) = true) := by
      cases st with
      | none => exact Bool.false_ne_true
      | some c =>
        intro hh
        have : c = 0 := by simpa [rawPart, rawInt] using hh
        exact h0 (by rw [this])
    refine wpAny_bind (wpAny_bind (wpAny_field hos hds (x := vt) rfl (wpAny_bind (wpAny_listPart ps ?_))))
    rw [if_neg hstep]
    refine wpAny_bind (wpAny_field hos hds (x := vl) rfl (wpAny_bind (wpAny_listPart pl ?_)))
    refine wpAny_bind (wpAny_field hos hds (x := vu) rfl (wpAny_bind (wpAny_listPart pu (wpAny_pure ?_))))
    refine wpAny_bind (m := Builtin.List.listItems (.ref l)) ?_
    unfold Builtin.List.listItems
    refine wpAny_bind (wpAny_seqItems hl rfl (wpAny_pure ?_))
    refine wpAny_bind (wpAny_of_eq (sliceIndices_raw lo hi st vs.toArray.size h0) ?_)
    refine wpAny_bind (wpAny_newObj_type (wpAny_pure ⟨_, rfl, h⟩) (Nat.le_trans (slicePick_size_le vs.toArray lo hi st) (by rw [List.size_toArray]; exact hsz)))
theorem acc_getSl {lo hi st : Option Int} {vl vu vt : Value} {Q : Value → Shared → Prop} (X : K.In s.heap) (hx : s.heap.get? x = some (accO dx vs c)) (hm : mroIn K 122 (.type "list") = some true)
    (hg : findIn K (.ref 122) "__getitem__" = some (some (.builtin "list.__getitem__"))) (hn : noSeq K = true)
    (hs : s.heap.IsSliceOf sl vl vu vt) (hsz : vs.length ≤ sizeLine) (pl : IsPart vl lo) (pu : IsPart vu hi) (ps : IsPart vt st) (h0 : st ≠ some 0)
    (h : Q (.ref s.heap.objs.size) { s with heap := s.heap.push { cls := .type "list", data := .seq (slicePick vs.toArray lo hi st) } }) :
    wpAny (model prog w) A (getItem (.ref x) (.ref sl)) Q E s := by
  unfold getItem
  refine wpAny_holding (wpAny_bind (acc_key X hx hn ?_))
  refine wpAny_bind (acc_special X hx hg PySem.F.slot_list_getitem.bind ?_)
  refine acc_meets X hx hm (n := "__getitem__") (by decide +kernel) (.inr (by decide +kernel)) PySem.F.slot_list_getitem.plain PySem.F.entry_list_getitem (PySem.args_list_getitem _ _) (m_getSl x sl hsz pl pu ps h0) ⟨hx, hs, wpAny_pure h⟩
/-- x[i:] = vs -/
theorem m_setSl {lo : Option Int} {vl : Value} {its : Array Value} {n' : Nat} {a : Nat} (l sl y : Addr) (hsz : vs.length + its.size ≤ sizeLine) (pl : IsPart vl lo) (hyl : l ≠ y) (he : sliceBounds lo none none vs.toArray.size = ((a : Int), (vs.length : Int), 1)) (ha : a ≤ vs.length) :
    Meets (Builtin.«list.__setitem__» ⟨[.ref l, .ref sl, .ref y], []⟩)
      (fun _ R s => s.heap.get? l = some (accO dx vs c) ∧ s.heap.IsSliceOf sl vl .none .none ∧ s.heap.get? y = some (listOf its n') ∧ R (.ok (.ret .none)) { s with heap := s.heap.update l (Obj.mapSeq fun xs => xs.extract 0 a ++ its ++ xs.extract vs.length xs.size) }) :=
  .of_wp fun prog w A R s h => by
    obtain ⟨hl, hs, hy, h⟩ := h
    obtain ⟨os, hos, hcs, hds⟩ := id hs
    have hTs : s.TypeIs (.ref sl) "slice" := ⟨os, hos, hcs⟩
    have hTy : s.TypeIs (.ref y) "list" := ⟨_, hy, rfl⟩
    show wpAny _ _ (Builtin.List.listSubscript? (.ref sl) >>= _) _ _ s
    refine wpAny_bind ?_
    unfold Builtin.List.listSubscript?
    refine wpAny_bind (wpAny_specialOf hTs slice_no_index ?_)
    simp only [Option.isNone_none, if_true]
    refine wpAny_pure ?_
    show wpAny _ _ (typeOf (.ref sl) >>= _) _ _ s
    refine wpAny_bind (wpAny_typeOf hTs ?_)
    rw [if_neg (by decide)]
    rw [listSliceParts_eq]
    refine wpAny_bind (wpAny_bind (wpAny_field hos hds (x := .none) rfl (wpAny_bind (wpAny_listPart .none ?_))))
    rw [if_neg (show ¬ ((rawPart none == rawInt 0) = true) from Bool.false_ne_true)]
    refine wpAny_bind (wpAny_field hos hds (x := vl) rfl (wpAny_bind (wpAny_listPart pl ?_)))
    refine wpAny_bind (wpAny_field hos hds (x := .none) rfl (wpAny_bind (wpAny_listPart .none (wpAny_pure ?_))))
    rw [if_neg (show ¬ (Builtin.List.listSameRef (.ref l) (.ref y) = true) by show ¬ ((l == y) = true); simpa using hyl)]
    refine wpAny_bind (m := Builtin.List.listAllItems (.ref y) _) ?_
    unfold Builtin.List.listAllItems
    refine wpAny_bind (wpAny_typeOf hTy ?_)
    rw [if_pos (by decide)]
    show wpAny _ _ (Builtin.List.listItems (.ref y)) _ _ _
    unfold Builtin.List.listItems
    refine wpAny_bind (wpAny_seqItems hy rfl (wpAny_pure ?_))
    refine wpAny_bind (m := Builtin.List.listItems (.ref l)) ?_
    unfold Builtin.List.listItems
    refine wpAny_bind (wpAny_seqItems hl rfl (wpAny_pure ?_))
    refine wpAny_bind (wpAny_of_eq (sliceIndices_raw lo none none vs.toArray.size (by simp)) ?_)
    rw [he]
    show wpAny _ _ (if ((1 : Int) == 1) = true then _ else _) _ _ s
    rw [if_pos (by decide)]
    have hz : vs.toArray.size ≤ sizeLine := by rw [List.size_toArray]; omega
    have hmx : (max (a : Int) (vs.length : Int)).toNat = vs.length := by omega
    refine wpAny_bind (wpAny_rule ?_)
    rw [if_neg (show ¬ (Builtin.List.listTooLong (vs.toArray.size + its.size) = true) by unfold Builtin.List.listTooLong; rw [decide_eq_true_iff, List.size_toArray]; omega)]
    dsimp only
    rw [hmx, Int.toNat_natCast]
    have hz' : ((fun xs : Array Value => xs.extract 0 a ++ its ++ xs.extract vs.length xs.size) vs.toArray).size ≤ sizeLine + 1 := by
      show (vs.toArray.extract 0 a ++ its ++ vs.toArray.extract vs.length vs.toArray.size).size ≤ sizeLine + 1
      rw [Array.size_append, Array.size_append, Array.size_extract, Array.size_extract, List.size_toArray]
      omega
    refine wpAny_bind (m := Builtin.List.listUpdate (.ref l) _) (wpAny_updateSeq hl rfl ?_ (hz := hz) (_hz' := hz'))
    exact wpAny_bind (wpAny_letGo (wpAny_pure ⟨_, rfl, h⟩))
theorem acc_setSl {lo : Option Int} {vl : Value} {its : Array Value} {n' a : Nat} {y : Addr} {Q : Unit → Shared → Prop} (X : K.In s.heap) (hx : s.heap.get? x = some (accO dx vs c)) (hm : mroIn K 122 (.type "list") = some true)
    (hg : findIn K (.ref 122) "__setitem__" = some (some (.builtin "list.__setitem__"))) (hn : noSeq K = true)
    (hs : s.heap.IsSliceOf sl vl .none .none) (hy : s.heap.get? y = some (listOf its n')) (hsz : vs.length + its.size ≤ sizeLine) (pl : IsPart vl lo) (hxy : x ≠ y) (he : sliceBounds lo none none vs.toArray.size = ((a : Int), (vs.length : Int), 1)) (ha : a ≤ vs.length)
    (h : Q () { s with heap := s.heap.update x (Obj.mapSeq fun xs => xs.extract 0 a ++ its ++ xs.extract vs.length xs.size) }) :
    wpAny (model prog w) A (setItem (.ref x) (.ref sl) (.ref y)) Q E s := by
  unfold setItem
  refine wpAny_holding (wpAny_bind (acc_key X hx hn ?_))
  refine wpAny_bind (acc_special X hx hg PySem.F.slot_list_setitem.bind ?_)
  refine acc_meets X hx hm (n := "__setitem__") (by decide +kernel) (.inl (by decide +kernel)) PySem.F.slot_list_setitem.plain PySem.F.entry_list_setitem (PySem.args_list_setitem _ _ _) (m_setSl x sl y hsz pl hxy he ha) ⟨hx, hs, hy, wpAny_pure h⟩
end
end Mine
end

section
open PySem PySem.W PySem.Calls PyProof.Rows Builtin Builtin.ObjectAttr
set_option Elab.async false
set_option maxRecDepth 100000
set_option maxHeartbeats 1000000
set_option linter.unusedVariables false
namespace Mine
theorem refuse_list (self : Value) : refuseLoop self "__setattr__" [.ref 122, .type "list", .type "object"] = pure () := by
  rw [refuseLoop_ref]
  kernel_rfl
section
variable {prog : Program} {w : World} {A : Around} {E : Value → Shared → Prop} {s : Shared} {K : Frag} {x : Addr} {dx : Addr} {vs : List Value} {c : Nat} {h₀ : Heap} {L : Addr} {m : Str → Option Value} {R : Result → Shared → Prop}
theorem acc_inst {h : Heap} {od : Obj} (hx : h.get? x = some (accO dx vs c)) (hd : h.get? dx = some od) : InstAt h x (accO dx vs c) 122 (some od) := ⟨hx, rfl, rfl, hd⟩
theorem acc_osa {od od' : Obj} {name : Str} {v : Value} {tk : Tok} {pre post : List (Addr × Obj)} {es : List DictEntry} {n : Nat} {cd : ClassData} (F : Fr h₀ L s.heap m) (N : News h₀ L s.heap (pre ++ (dx, od) :: post)) (X : K.In s.heap)
    (hx : s.heap.get? x = some (accO dx vs c)) (hc : clsIn K 122 = some cd) (hmro : cd.mro = [.ref 122, .type "list", .type "object"]) (hdict : cd.hasDict = true) (ha : findIn K (.ref 122) name = some none)
    (hl : (lookIn name od).isSome = true) (h1 : ∀ p ∈ pre, p.1 ≠ dx) (h2 : ∀ p ∈ post, p.1 ≠ dx)
    (e : Obj.putName name (PyData.keyHash w.params name) (.str name s.toks) v od = od') (e' : od'.data = .dict es.toArray n) (hz : es.length ≤ 1000)
    (h : ∀ h', Fr h₀ L h' m → News h₀ L h' (pre ++ (dx, od') :: post) → R (.ok (.ret .none)) { s with heap := h', toks := s.toks + 1 }) :
    codeAny (model prog w) A (.call (.builtin "object.__setattr__") ⟨[.ref x, .str name tk, v], []⟩) R s := by
  have D := (N (dx, od) (by simp)).1
  have I := acc_inst hx D
  obtain ⟨U1, U2⟩ := news_upd (f := Obj.putName name (PyData.keyHash w.params name) (.str name s.toks) v) F N h1 h2 e (by obtain ⟨_, _, dd, _⟩ := od'; cases e'; rfl)
  have D' := (U2 (dx, od') (by simp)).1
  have SF := PySem.F.store_object
  have sub : Looks (model prog w) s.heap (isInstance (.ref x) (.type "object")) true := I.type.andThen (looks_mroIn X (by unfold mroIn; rw [hc, Option.bind_some, hmro]; rfl))
  refine codeAny_call_builtin SF.slot.plain SF.entry (@check_slot (model prog w) _ _ _ "object.__setattr__" "object" "__setattr__" (.ref x) [.str name tk, v] [] _ SF.kind SF.split sub (SF.args (.ref x) (.str name tk) v) ?_)
  have hm : Looks (model prog w) s.heap (mroOf (.ref 122)) cd.mro := (looks_clsIn X hc).andThen .now
  rw [osa_eq, refuse_eq]
  refine wpAny_bind (wpAny_bind (I.type.here (wpAny_bind (hm.here ?_))))
  rw [hmro, refuse_list]
  refine wpAny_pure (wpAny_bind (I.type.here (wpAny_bind ((looks_findIn X ha).here (wpAny_bind (wpAny_pure (a := none) ?_))))))
  refine wpAny_bind (wpAny_pure (wpAny_bind (wpAny_bind (wpAny_loadPart hx (wpAny_bind ((looks_clsIn X hc).here ?_))))))
  rw [hdict]
  refine wpAny_pure (a := some dx) (wpAny_bind (wpAny_pure (wpAny_bind ?_)))
  unfold nsSet
  refine wpAny_bind (wpAny_bind (wpAny_askSetting (wpAny_pure (wpAny_bind (wpAny_mkText (wpAny_bind (wpAny_loadPart D ?_)))))))
  unfold lookIn at hl
  split at hl
  · rename_i es₀ n₀ q
    rw [q]
    dsimp only
    have cc : (!es₀.any (·.key.isStr name) && es₀.any (·.refKey)) = false := by
      rw [← Array.any_toList, ← Array.any_toList]
      split at hl
      · rename_i en he
        rw [List.any_eq_true.mpr ⟨en, List.mem_of_find?_eq_some he, List.find?_some he⟩]; rfl
      · split at hl
        · cases hl
        · rename_i z; rw [Bool.not_eq_true] at z; rw [z, Bool.and_false]
    rw [aRefKeyMayBeTheName_at, cc]
    refine wpAny_updatePart D ?_
    refine wpAny_bind (wpAny_lookBehind D' (by rw [e']; exact pastItsLine_dict (by rw [List.size_toArray, sizeLine_eq]; omega)) ?_)
    exact wpAny_pure (h _ U1 U2)
  · cases hl
theorem acc_set {od od' : Obj} {name : Str} {v : Value} {pre post : List (Addr × Obj)} {es : List DictEntry} {n : Nat} {cd : ClassData} {Q : Unit → Shared → Prop} (F : Fr h₀ L s.heap m) (N : News h₀ L s.heap (pre ++ (dx, od) :: post)) (X : K.In s.heap)
    (hx : s.heap.get? x = some (accO dx vs c)) (hc : clsIn K 122 = some cd) (hmro : cd.mro = [.ref 122, .type "list", .type "object"]) (hdict : cd.hasDict = true) (hs : findIn K (.ref 122) "__setattr__" = some (some (.builtin "object.__setattr__"))) (ha : findIn K (.ref 122) name = some none)
    (hl : (lookIn name od).isSome = true) (h1 : ∀ p ∈ pre, p.1 ≠ dx) (h2 : ∀ p ∈ post, p.1 ≠ dx)
    (e : Obj.putName name (PyData.keyHash w.params name) (.str name (s.toks + 1)) v od = od') (e' : od'.data = .dict es.toArray n) (hz : es.length ≤ 1000)
    (h : ∀ h', Fr h₀ L h' m → News h₀ L h' (pre ++ (dx, od') :: post) → Q () { s with heap := h', toks := s.toks + 1 + 1 }) :
    wpAny (model prog w) A (setAttr (.ref x) name v) Q E s := by
  have D := (N (dx, od) (by simp)).1
  exact set_plain X (acc_inst hx D) hs (acc_osa (s := { s with toks := s.toks + 1 }) F N X hx hc hmro hdict ha hl h1 h2 e e' hz h)
end
end Mine
end

section
open PySem PySem.W PySem.Calls PyProof.Rows Builtin
set_option Elab.async false
set_option maxRecDepth 100000
set_option maxHeartbeats 2000000
set_option linter.unusedVariables false
namespace Mine
def makesL (K : Frag) : Bool := match K.lookup 122 with
  | some ⟨_, _, .cls cd, sl⟩ => !cd.abstract && !cd.hasDel && (sl.toList[4]?).join == some (.builtin "list.__new__") && cd.mro == [.ref 122, .type "list", .type "object"] &&
      specialIn K (.ref 122) "__call__" == some (some (.builtin "type.__call__")) && instIn K (.ref 122) (.type "type") == some true
  | _ => false
structure MakesL (M : Model) (h : Heap) : Prop where
  obj : ∃ oc od cd sl, h.get? 122 = some ⟨oc, od, .cls cd, sl⟩ ∧ cd.abstract = false ∧ cd.hasDel = false ∧ cd.mro = [.ref 122, .type "list", .type "object"]
  made : Looks M h (Bind.madeBy (.ref 122)) (some "list.__new__")
  base : Looks M h (Bind.staticBase (.ref 122)) (.ref 122)
  self : Looks M h (isSubtype (.ref 122) (.ref 122)) true
  top : Looks M h (isSubtype (.ref 122) (.type "list")) true
  call : Looks M h (specialOf (.ref 122) "__call__") (some (.builtin "type.__call__"))
  typ : Looks M h (isInstance (.ref 122) (.type "type")) true
  isT : Looks M h (isType (.ref 122)) true
theorem makesL_of {K : Frag} {M : Model} {h : Heap} (X : K.In h) (e : makesL K = true) : MakesL M h := by
  unfold makesL at e
  split at e
  · rename_i oc od cd sl ho
    simp only [Bool.and_eq_true, Bool.not_eq_true', beq_iff_eq] at e
    obtain ⟨⟨⟨⟨⟨e1, e2⟩, e3⟩, e4⟩, e7⟩, e8⟩ := e
    have hc : clsIn K 122 = some cd := by unfold clsIn; rw [ho]
    have hm : Looks M h (mroOf (.ref 122)) cd.mro := (looks_clsIn X hc).andThen .now
    have ne : ¬ (cd.mro.isEmpty = true) := by rw [e4]; exact Bool.false_ne_true
    have made : Looks M h (Bind.madeBy (.ref 122)) (some "list.__new__") := by
      intro A Q E s k q
      unfold Bind.madeBy
      refine wpAny_bind (hm A _ E s k ?_)
      rw [e4, List.forIn_cons]
      refine wpAny_bind (wpAny_bind (wpAny_bind (wpAny_bind (wpAny_loadPart (k _ _ (X _ _ ho)) (wpAny_pure ?_)))))
      dsimp only
      rw [← Array.getElem?_toList, e3]
      exact wpAny_pure (wpAny_pure (wpAny_pure q))
    refine ⟨⟨oc, od, cd, sl, X _ _ ho, e1, e2, e4⟩, made, ?_, looks_mroIn X ?_, looks_mroIn X ?_, looks_specialIn X e7, looks_instIn X e8, ?_⟩
    · intro A Q E s k q
      unfold Bind.staticBase
      refine wpAny_bind (hm A _ E s k ?_)
      rw [e4, List.forIn_cons]
      exact wpAny_bind (wpAny_bind (wpAny_bind (made A _ E s k (wpAny_pure (wpAny_pure (wpAny_pure q))))))
    · unfold mroIn; rw [hc, Option.bind_some, if_neg ne, e4]; rfl
    · unfold mroIn; rw [hc, Option.bind_some, if_neg ne, e4]; rfl
    · intro A Q E s k q
      unfold isType loadHead
      refine wpAny_bind (wpAny_loadPart (k _ _ (X _ _ ho)) ?_)
      exact wpAny_pure q
  · cases e
section
variable {prog : Program} {w : World} {A : Around} {R : Result → Shared → Prop} {h : Heap} {g : Array GenState} {d : Drawn} {t : Nat} {os : OsState}
theorem newL_check {M : Model} {E : Value → Shared → Prop} {Q : Unit → Shared → Prop} (Y : MakesL M h) (q : Q () ⟨h, g, d, t, os⟩) : wpAny M A (checkBuiltinCall "list.__new__" ⟨[.ref 122], []⟩) Q E ⟨h, g, d, t, os⟩ := by
  obtain ⟨⟨oc, od, cd, sl, hC, e1, e2, e4⟩, made, base, self, top, call, typ, isT⟩ := Y
  have k1 : builtinKind "list.__new__" = some .builtinFn := by decide +kernel
  have k2 : splitId "list.__new__" = some ("list", "__new__") := by decide +kernel
  unfold checkBuiltinCall
  simp only [k1, k2]
  rw [if_pos (by decide +kernel)]
  refine wpAny_bind (isT.at ?_)
  simp only [Bool.not_true, Bool.false_eq_true, if_false]
  refine wpAny_bind (top.at ?_)
  simp only [Bool.not_true, Bool.false_eq_true, if_false]
  refine wpAny_bind (base.at ?_)
  refine wpAny_bind (made.at ?_)
  dsimp only
  rw [if_neg (by simp)]
  have args : (match Manifest.signature? "list.__new__" with | some sig => Bind.checkArgs "list.__new__" sig ⟨[.ref 122], []⟩ | none => pure ()) = pure () := by kernel_rfl
  show wpAny _ _ (match Manifest.signature? "list.__new__" with | some sig => Bind.checkArgs "list.__new__" sig ⟨[.ref 122], []⟩ | none => pure ()) _ _ _
  rw [args]
  exact wpAny_pure q
theorem newL (Y : MakesL (model prog w) h)
    (hq : R (.ok (.ret (.ref (h.objs.size + 1)))) ⟨(h.push emptyDict).push (accO h.objs.size [] 0), g, d, t, os⟩) :
    codeAny (model prog w) A (.call (.builtin "list.__new__") ⟨[.ref 122], []⟩) R ⟨h, g, d, t, os⟩ := by
  refine codeAny_of_tree ?_
  show wpAny _ A.in1 (do checkBuiltinCall "list.__new__" ⟨[.ref 122], []⟩; again (.builtin "list.__new__" ⟨[.ref 122], []⟩)) _ _ _
  refine wpAny_bind (newL_check Y (wpAny_pure ⟨plainId_quiet F.plain_list_new _, codeAny_builtin_stack F.entry_list_new rfl fun p st => ?_⟩))
  rw [Around.under_plainId F.plain_list_new _]
  obtain ⟨⟨oc, od, cd, sl, hC, e1, e2, e4⟩, made, base, self, top, call, typ, isT⟩ := Y
  have hown := owner_list_new
  simp only [hown]
  refine wpAny_bind (isT.at ?_)
  simp only [Bool.not_true, Bool.false_eq_true, if_false]
  refine wpAny_bind (top.at ?_)
  simp only [Bool.not_true, Bool.false_eq_true, if_false]
  refine wpAny_bind (wpAny_pure ?_)
  show wpAny _ _ ((newDict) >>= _) _ _ _
  refine wpAny_bind (wpAny_newObj_type ?_ (by show (#[] : Array DictEntry).size ≤ sizeLine + 1; exact Nat.zero_le _))
  dsimp only
  unfold newObj
  dsimp only
  rw [if_neg (by show ¬ ((#[] : Array Value).size > sizeLine); exact Nat.not_lt_zero _)]
  unfold newObjAsIs classHasDel
  refine wpAny_bind (wpAny_bind (wpAny_alloc (wpAny_bind (wpAny_bind (wpAny_load (Heap.get?_push_of_some _ (Heap.get?_push_of_some _ hC)) (wpAny_pure ?_))))))
  rw [e2]
  refine wpAny_pure (wpAny_pure ?_)
  show R _ _
  rw [Heap.size_push]
  exact hq
theorem make_list {init : Value} (Y : MakesL (model prog w) h) (hi : Looks (model prog w) h (typeLookup (.ref 122) "__init__") (some init))
    (hb : ∀ self, Looks (model prog w) h (bindSpecial init self) (init, [self]))
    (hq : codeAny (model prog w) (A.under (.builtin "type.__call__" ⟨[.ref 122], []⟩)) (.call init ⟨[.ref (h.objs.size + 1)], []⟩) (InitBack (h.objs.size + 1) R) ⟨(h.push emptyDict).push (accO h.objs.size [] 0), g, d, t, os⟩) :
    codeAny (model prog w) A (.call (.ref 122) ⟨[], []⟩) R ⟨h, g, d, t, os⟩ := by
  have Y' := Y
  obtain ⟨⟨oc, od, cd, sl, hC, e1, e2, e4⟩, made, base, self, top, call, typ, isT⟩ := Y
  refine codeAny_of_tree ?_
  show wpAny _ _ (callAny (.ref 122) _) _ _ _
  refine nd_load hC ?_
  show wpAny _ _ (callAny.viaDunder (.ref 122) _) _ _ _
  unfold callAny.viaDunder
  refine wpAny_bind (call.at ?_)
  dsimp only
  rw [tc_bind]
  refine wpAny_bind (wpAny_pure (wpAny_bind (wpAny_pure ?_)))
  refine wpAny_pure (a := Fin.again (.call (.builtin "type.__call__") ⟨[.ref 122], []⟩)) (And.intro rfl ?_)
  refine codeAny_call_builtin_at (Code.quiet_builtin _ (by decide +kernel)) entry_typeCall (check_slot tc_kind tc_split typ (tc_args _ _ _) ?_)
  unfold Builtin.«type.__call__»
  have hm : Looks (model prog w) h (mroOf (.ref 122)) cd.mro := ((Looks.ld (part := none) hC).andThen .now).andThen .now
  have ne : cd.mro.isEmpty = false := by rw [e4]; rfl
  repeat (first | simp only [ne, Bool.false_eq_true, if_false] | with_reducible refine wpAny_call ?_ | lk)
  refine newL Y' ?_
  have k : ∀ b o, h.get? b = some o → ((h.push emptyDict).push (accO h.objs.size [] 0)).get? b = some o := fun b o e => Heap.get?_push_of_some _ (Heap.get?_push_of_some _ e)
  have hx : ((h.push emptyDict).push (accO h.objs.size [] 0)).get? (h.objs.size + 1) = some (accO h.objs.size [] 0) := by heap_get
  have t1 : Looks (model prog w) ((h.push emptyDict).push (accO h.objs.size [] 0)) (typeOf (.ref (h.objs.size + 1))) (.ref 122) := (Looks.ld hx).andThen .now
  have s1 := self.keeps k
  have i1 := hi.keeps k
  have b1 := (hb (.ref (h.objs.size + 1))).keeps k
  unfold isInstance callSpecial? specialOf
  repeat (first | with_reducible refine wpAny_call ?_ | lk)
  refine codeAny_mono hq fun r s' z => ?_
  rcases r with e | (v | _ | _ | _) <;> first | exact z | exact z.elim | skip
  obtain ⟨rfl, z⟩ := z
  exact wpAny_pure (wpAny_pure z)
end
section
variable {prog : Program} {w : World} {A : Around} {K : Frag} {s : Shared} {h₀ : Heap} {L : Addr} {m : Str → Option Value} {news : List (Addr × Obj)} {R : Result → Shared → Prop}
theorem make_listK {fI : Addr} (F : Fr h₀ L s.heap m) (N : News h₀ L s.heap news) (X : K.In s.heap) (hm : makesL K = true)
    (hi : findIn K (.ref 122) "__init__" = some (some (.ref fI))) (hf : typeIn K (.ref fI) = some (.type "function"))
    (h : ∀ x dx h', Fr h₀ L h' m → News h₀ L h' ((x, accO dx [] 0) :: (dx, emptyDict) :: news) → (∀ p ∈ news, p.1 < dx) → dx < x →
      codeAny (model prog w) (A.under (.builtin "type.__call__" ⟨[.ref 122], []⟩)) (.call (.ref fI) ⟨[.ref x], []⟩) (InitBack x R) { s with heap := h' }) :
    codeAny (model prog w) A (.call (.ref 122) ⟨[], []⟩) R s := by
  obtain ⟨hh, g, d, t, os⟩ := s
  refine make_list (makesL_of X hm) (looks_findIn X hi) (fun self => bind_fn X self hf) (h _ hh.objs.size _ ((F.push _).push _) ?_ (fun p hp => Heap.lt_size (N p hp).1) (Nat.lt_succ_self _))
  have := (N.push F emptyDict).push (F.push _) (accO hh.objs.size [] 0)
  rwa [Heap.size_push] at this
end
end Mine
end

section
open PySem PySem.W PySem.Calls PyProof.Rows Builtin
set_option Elab.async false
set_option maxRecDepth 100000
set_option maxHeartbeats 2000000
set_option linter.unusedVariables false
namespace Mine
theorem slot_wget : Slot "wrapper_descriptor" "__get__" "wrapper_descriptor.__get__" := .of (owner := "wrapper_descriptor") (n := "__get__") (by rw [typeLookup_type, builtinLookup_eq_fast]; kernel_rfl) (by decide +kernel) (by decide +kernel) (by decide +kernel)
  (by first | exact .inl (by decide +kernel) | exact .inr (by decide +kernel)) (by rw [isSubtype_type]; kernel_rfl)
theorem slot_mget : Slot "method_descriptor" "__get__" "method_descriptor.__get__" := .of (owner := "method_descriptor") (n := "__get__") (by rw [typeLookup_type, builtinLookup_eq_fast]; kernel_rfl) (by decide +kernel) (by decide +kernel) (by decide +kernel)
  (by first | exact .inl (by decide +kernel) | exact .inr (by decide +kernel)) (by rw [isSubtype_type]; kernel_rfl)
theorem entry_wget : entryFor table "wrapper_descriptor.__get__" = some Builtin.«wrapper_descriptor.__get__» := entryFor_of_tree (by kernel_rfl)
theorem entry_mget : entryFor table "method_descriptor.__get__" = some Builtin.«method_descriptor.__get__» := entryFor_of_tree (by kernel_rfl)
theorem args_wget (a b c : Value) : argsOk "wrapper_descriptor.__get__" ⟨[a, b, c], []⟩ := by unfold argsOk; kernel_rfl
theorem args_mget (a b c : Value) : argsOk "method_descriptor.__get__" ⟨[a, b, c], []⟩ := by unfold argsOk; kernel_rfl
section
variable {prog : Program} {w : World} {M : Model} {A : Around} {E : Value → Shared → Prop} {h : Heap} {g : Array GenState} {d : Drawn} {t : Nat} {os : OsState}
theorem wget_run {id : String} {x dx : Addr} {vs : List Value} {c : Nat} {Q : Fin → Shared → Prop} (hx : h.get? x = some (accO dx vs c)) (top : Looks M h (isSubtype (.ref 122) (.type "list")) true) (hown : ".".intercalate (id.cutAt '.').dropLast = "list")
    (hq : Q (.done (.ret (.ref h.objs.size))) ⟨h.push { cls := .type "method-wrapper", data := .fields #[.builtin id, .ref x] }, g, d, t, os⟩) :
    wpAny M A (Builtin.«wrapper_descriptor.__get__» ⟨[.builtin id, .ref x, .ref 122], []⟩) Q E ⟨h, g, d, t, os⟩ := by
  unfold Builtin.«wrapper_descriptor.__get__»
  repeat (first | (with_reducible refine wpAny_loadPart hx ?_; try dsimp only) | (rw [hown]; with_reducible refine Looks.at top ?_) | wp_step | dsimp only)
  all_goals exact hq
theorem mget_run {id : String} {x dx : Addr} {vs : List Value} {c : Nat} {Q : Fin → Shared → Prop} (hx : h.get? x = some (accO dx vs c)) (top : Looks M h (isSubtype (.ref 122) (.type "list")) true) (hown : ".".intercalate (id.cutAt '.').dropLast = "list")
    (hnt : Manifest.toldItsClass.contains id = false)
    (hq : Q (.done (.ret (.ref h.objs.size))) ⟨h.push { cls := .type "builtin_function_or_method", data := .fields #[.builtin id, .ref x] }, g, d, t, os⟩) :
    wpAny M A (Builtin.«method_descriptor.__get__» ⟨[.builtin id, .ref x, .ref 122], []⟩) Q E ⟨h, g, d, t, os⟩ := by
  unfold Builtin.«method_descriptor.__get__»
  repeat (first | (with_reducible refine wpAny_loadPart hx ?_; try dsimp only) | (rw [hown]; with_reducible refine Looks.at top ?_) | wp_step | simp only [hnt, Bool.false_eq_true, if_false] | dsimp only)
  all_goals exact hq
end
section
variable {prog : Program} {w : World} {A : Around} {E : Value → Shared → Prop} {h : Heap} {g : Array GenState} {d : Drawn} {t : Nat} {os : OsState}
theorem sga_run {so x : Addr} {id T' gid T : String} {K : Frag} {name : Str} {tk : Tok} {Q : Fin → Shared → Prop}
    (hso : h.get? so = some (ks_superObj 122 x 122)) (hno : Looks (model prog w) h (opaqueClassAbove (.ref 122)) none)
    (hC : Looks (model prog w) h (mroOf (.ref 122)) [.ref 122, .type "list", .type "object"]) (X : K.In h)
    (hf : alongIn K name [.type "list", .type "object"] = some (some (.builtin id))) (hty : typeOf (.builtin id) = pure (.type T')) (hlk : typeLookup (.type T') "__get__" = pure (some (.builtin gid)))
    (hcall : ∀ {A : Around} {Q : Value → Shared → Prop} {E : Value → Shared → Prop}, Q (.ref h.objs.size) ⟨h.push { cls := .type T, data := .fields #[.builtin id, .ref x] }, g, d, t, os⟩ → wpAny (model prog w) A (call (.builtin gid) [.builtin id, .ref x, .ref 122]) Q E ⟨h, g, d, t, os⟩)
    (hxC : x ≠ 122) (hn : (name == ("__class__" : Str)) = false)
    (hq : Q (.done (.ret (.ref h.objs.size))) ⟨h.push { cls := .type T, data := .fields #[.builtin id, .ref x] }, g, d, t, os⟩) :
    wpAny (model prog w) A (Builtin.«super.__getattribute__» ⟨[.ref so, .str name tk], []⟩) Q E ⟨h, g, d, t, os⟩ := by
  have hne : (Value.ref x == Value.ref 122) = false := by simp [hxC]
  have hdt : (ks_superObj 122 x 122).data = .fields #[.ref 122, .ref x, .ref 122] := rfl
  have f0 : (#[.ref 122, .ref x, .ref 122] : Array Value)[0]? = some (.ref 122) := rfl
  have f1 : (#[.ref 122, .ref x, .ref 122] : Array Value)[1]? = some (.ref x) := rfl
  have f2 : (#[.ref 122, .ref x, .ref 122] : Array Value)[2]? = some (.ref 122) := rfl
  have hl : (([.ref 122, .type "list", .type "object"] : List Value).dropWhile (· != .ref 122)).drop 1 = [.type "list", .type "object"] := by rfl
  unfold Builtin.«super.__getattribute__»
  repeat (first
    | (with_reducible refine wpAny_field hso hdt f0 ?_) | (with_reducible refine wpAny_field hso hdt f1 ?_) | (with_reducible refine wpAny_field hso hdt f2 ?_)
    | (with_reducible refine ks_wpAny_notOpaque hno ?_)
    | (with_reducible refine Looks.at hC ?_; rw [hl])
    | (refine ks_forIn_along X (fun _ _ => rfl) rfl ?_ hf)
    | (with_reducible refine wpAny_of_eq hty ?_)
    | (with_reducible refine hcall ?_)
    | (simp only [hn, hne, Bool.or_false, Bool.false_eq_true, if_false])
    | wp_step
    | dsimp only)
  all_goals exact hq
theorem sgm_run {so x : Addr} {id T' gid T : String} {K : Frag} {name : Str} {pl : Sem Bool} {Q : Value × List Value → Shared → Prop}
    (hso : h.get? so = some (ks_superObj 122 x 122)) (hno : Looks (model prog w) h (opaqueClassAbove (.ref 122)) none)
    (hC : Looks (model prog w) h (mroOf (.ref 122)) [.ref 122, .type "list", .type "object"]) (X : K.In h)
    (hf : alongIn K name [.type "list", .type "object"] = some (some (.builtin id))) (hty : typeOf (.builtin id) = pure (.type T')) (hlk : typeLookup (.type T') "__get__" = pure (some (.builtin gid)))
    (hcall : ∀ {A : Around} {Q : Value → Shared → Prop} {E : Value → Shared → Prop}, Q (.ref h.objs.size) ⟨h.push { cls := .type T, data := .fields #[.builtin id, .ref x] }, g, d, t + 1, os⟩ → wpAny (model prog w) A (call (.builtin gid) [.builtin id, .ref x, .ref 122]) Q E ⟨h, g, d, t + 1, os⟩)
    (hxC : x ≠ 122) (hn : (name == ("__class__" : Str)) = false)
    (hq : Q (.ref h.objs.size, []) ⟨h.push { cls := .type T, data := .fields #[.builtin id, .ref x] }, g, d, t + 1, os⟩) :
    wpAny (model prog w) A (getMethod (.ref so) name pl) Q E ⟨h, g, d, t, os⟩ := by
  have hT : ∀ t', (⟨h, g, d, t', os⟩ : Shared).TypeIs (.ref so) "super" := fun _ => ⟨_, hso, rfl⟩
  have hl2 := F.ks_slot_super_ga.lookup
  unfold getMethod
  refine wpAny_bind (wpAny_specialOf (hT _) hl2 ?_)
  show wpAny _ _ (if (Manifest.canonical "super.__getattribute__" != "object.__getattribute__") = true then _ else _) _ _ _
  rw [if_pos F.ks_canon_super_ga]
  unfold getAttr getAttrBy
  refine wpAny_bind (wpAny_bind (wpAny_mkText (wpAny_holding (wpAny_bind (wpAny_typeOf (hT _) (wpAny_bind (wpAny_of_eq hl2 ?_)))))))
  show wpAny _ _ (getAttrByItsOwn (.ref so) (.str name t) (.type "super") (.builtin "super.__getattribute__") true false) _ _ _
  unfold getAttrByItsOwn hookBefore callGetattribute boundAndCalled
  refine wpAny_bind (wpAny_of_eq (show (if onTheHeap (.type "super") then typeLookup (.type "super") "__getattr__" else pure none) = pure none from rfl) ?_)
  refine wpAny_bind (wpAny_attempt (wpAny_holding ?_))
  show wpAny _ _ (bindSpecial (.builtin "super.__getattribute__") (.ref so) >>= _) _ _ _
  refine wpAny_bind (wpAny_of_eq (F.ks_slot_super_ga.bind _) ?_)
  refine wpAny_mono (Q := fun v s' => v = .ref h.objs.size ∧ s' = ⟨h.push { cls := .type T, data := .fields #[.builtin id, .ref x] }, g, d, t + 1, os⟩) (E := fun _ _ => False)
    (wpAny_call_entry F.ks_slot_super_ga (hT _) F.ks_entry_super_ga (sga_run hso hno hC X hf hty hlk hcall hxC hn ⟨_, rfl, rfl, rfl⟩) (F.ks_gaArgs_super _ _)) (fun v s' hv => ?_) fun _ _ z => z.elim
  obtain ⟨rfl, rfl⟩ := hv
  exact wpAny_pure (wpAny_pure hq)
/-- the call of a bound slot of the class below -/
theorem bound_slot {id : String} {q x : Addr} {T : String} {B : Builtin} {S : PySem.Spec} {s : Shared} {Q : Value → Shared → Prop} (hb : s.heap.get? q = some { cls := .type T, data := .fields #[.builtin id, .ref x] })
    (hT : T = "method-wrapper" ∨ T = "builtin_function_or_method") (hp : plainId id = true) (entry : entryFor table id = some B)
    (hcheck : ∀ {A : Around} {Q : Unit → Shared → Prop} {E : Value → Shared → Prop}, Q () s → wpAny (model prog w) A (checkBoundCall id ⟨[.ref x], []⟩) Q E s)
    (gm : Meets (B ⟨[.ref x], []⟩) S) (hS : S A (wants Q E) s) : wpAny (model prog w) A (call (.ref q) []) Q E s := by
  refine wpAny_call (codeAny_of_tree ?_)
  show wpAny _ _ (callAny (.ref q) _) _ _ _
  unfold callAny
  refine wpAny_bind (wpAny_load hb ?_)
  dsimp only
  have e1 : (Value.type T == Value.type "method" || Value.type T == Value.type "builtin_function_or_method" || Value.type T == Value.type "method-wrapper") = true := by rcases hT with rfl | rfl <;> decide
  have e2 : (Value.type T != Value.type "method") = true := by rcases hT with rfl | rfl <;> decide
  rw [e1]
  simp only [if_true]
  show wpAny _ _ (if (Value.type T != Value.type "method") = true then _ else _) _ _ _
  rw [e2]
  simp only [if_true]
  refine wpAny_bind (hcheck ?_)
  refine wpAny_bind (wpAny_pure ?_)
  refine wpAny_pure (And.intro (plainId_quiet hp _) (codeAny_builtin entry ?_))
  rw [Around.under_plainId hp _]
  exact gm prog w A (wants Q E) s hS
end
end Mine
end

section
open PySem PySem.W PyProof.Rows PySem.Calls
set_option Elab.async false
set_option maxRecDepth 100000
set_option maxHeartbeats 2000000
set_option linter.unusedVariables false
namespace Mine
/-- the dict of the instance: its one name -/
abbrev iniD (hs : Int) (t u : Tok) (c : Nat) : Obj := { cls := .type "dict", data := .dict #[⟨hs, .str (Str.ofString "_initial_size") t, .int 0 u⟩] c }
/-- a builtin bound to the ring -/
abbrev wrapO (T id : String) (x : Addr) : Obj := { cls := .type T, data := .fields #[.builtin id, .ref x] }
/-- what a call at f gives over a ledger: a value and the ledger behind it -/
def Gets (w : World) (f : Addr) (dn un' : Nat) (vs : List Value) (led : List (Addr × Obj)) (Out : Value → List (Addr × Obj) → Prop) : Prop :=
  ∀ (p : Program) (loose : List Str) (mean : ExcName → Option Value) (mg mb : Str → Option Value)
    (dp un : Nat) (cn : Str) (cs : Scope) (a : Addr) (ccd : Value) (cl : List (Str × Addr)) (outer : List Env) (A₀ : Around) (base h₀ : Heap) (L : Addr) (m : Str → Option Value) (s : Shared) (Q E : Value → Shared → Prop),
    (mkK.heap_1 w.params).In h₀ → Below A₀ base outer h₀ → Fr h₀ L s.heap m → News h₀ L s.heap led → Top p loose mean mg mb h₀ → cs.kind = .function → AllBare s.gens →
    dp + dn < recursionLimit → un + un' < cLine →
    (∀ v led' s', Out v led' → Fr h₀ L s'.heap m → News h₀ L s'.heap led' → AllBare s'.gens → s'.os = s.os → Q v s') →
    wpAny (model PySem.Challenge.rw_xp0011_01.row.prog w) (ktrTop dp un (some []) cn cs L a ccd cl outer) (call (.ref f) vs) Q E s
/-- what the body of a def gives -/
def Runs (w : World) (qual : Str) (scope : Scope) (f : Addr) (cdv : Value) (cl : List (Str × Addr)) (dn un' : Nat) (m₁ : Str → Option Value) (led : List (Addr × Obj)) (body : List Stmt) (Out : Value → List (Addr × Obj) → Prop) : Prop :=
  ∀ (p : Program) (loose : List Str) (mean : ExcName → Option Value) (mg mb : Str → Option Value)
    (dp un : Nat) (outer : List Env) (A₀ : Around) (base g : Heap) (L : Addr) (s : Shared) (Q : Flow → Shared → Prop) (E : Value → Shared → Prop),
    (mkK.heap_1 w.params).In g → Below A₀ base outer g → Fr g L s.heap m₁ → News g L s.heap led → Top p loose mean mg mb g → AllBare s.gens → (∀ p ∈ led, p.1 < L) →
    dp + dn < recursionLimit → un + un' < cLine →
    (∀ fl v m' led' s', (match fl with | .ret v => v | _ => .none) = v → Out v led' → Fr g L s'.heap m' → News g L s'.heap led' → AllBare s'.gens → s'.os = s.os → Q fl s') →
    _root_.PySem.wpAt (model PySem.Challenge.rw_xp0011_01.row.prog w) (ktrTop dp un (some []) qual scope L f cdv cl outer) (.func body (envX qual scope L f cdv cl)) (execs body (envX qual scope L f cdv cl)) Q E s
section
variable {w : World} {A : Around} {env : Env} {name qual : Str} {params : Arguments} {body : List Stmt} {scope : Scope} {cl : List (Str × Addr)} {dV kV doc pm cdv ct oc : Value} {an od : Option Addr} {osl : Array (Option Value)} {f : Addr} {vs : List Value} {binds : List (Str × Value)} {dn un' : Nat}
  {led : List (Addr × Obj)} {Out : Value → List (Addr × Obj) → Prop} {p : Program} {loose : List Str} {mean : ExcName → Option Value} {mg mb : Str → Option Value} {outer : List Env} {A₀ : Around} {base h₀ : Heap} {L : Addr} {m : Str → Option Value} {s : Shared} {R : Result → Shared → Prop}
theorem runs_code (r : Runs w qual scope f cdv cl dn un' (fun y => binds.reverse.lookup y) led body Out) (hh : A.handled = none) (hg : A.guards = some []) (hA : A.frames = some (env :: outer)) (hf : env.frame = some L) (hke : env.scope.kind = .function)
    (X : (mkK.heap_1 w.params).In h₀) (B : Below A₀ base outer h₀) (F : Fr h₀ L s.heap m) (N : News h₀ L s.heap led) (T : Top p loose mean mg mb h₀) (G : AllBare s.gens) (hd : A.depth + (dn + 1) < recursionLimit) (hu : A.units + (un' + 3) < cLine)
    (ho : (mkK.heap_1 w.params).lookup f = some ⟨oc, od, .func (fnX name qual params body scope cl dV kV doc pm an cdv ct), osl⟩) (hcd : codeIn (mkK.heap_1 w.params) cdv qual = true)
    (hbind : ∀ s : Shared, (mkK.heap_1 w.params).In s.heap → BindsTo s (fnX name qual params body scope cl dV kV doc pm an cdv ct) ⟨vs, []⟩ binds) (hloc : ∀ y ∈ binds, scope.names.lookup y.1 = some .local)
    (hcell : ∀ x ∈ scope.names, x.2 ≠ .cell) (hco : scope.isCoroutine = false) (hgen : scope.isGenerator = false) (hk : scope.kind = .function)
    (ret : ∀ v led' s', Out v led' → Fr h₀ L s'.heap m → News h₀ L s'.heap led' → AllBare s'.gens → s'.os = s.os → R (.ok (.ret v)) s') :
    codeAny (model PySem.Challenge.rw_xp0011_01.row.prog w) A (.call (.ref f) ⟨vs, []⟩) R s := by
  obtain ⟨FG, BG, st, lv⟩ := groundX (R := R) B F N hA hf hke
  have Xs := X.keeps F.keep
  refine ks_codeAny_call_defAt (fd := fnX name qual params body scope cl dV kV doc pm an cdv ct) (body := body) (binds := binds) (by omega) (Xs _ _ ho) rfl (T.nolimit.keeps F.keep) (codeRec_of Xs hcd) rfl (hbind s Xs) hcell hloc (fun h₁ hns hk₁ => ?_) hco hgen hk
  obtain ⟨ah, ad, af, ag, au⟩ := A
  obtain rfl : ah = none := hh
  obtain rfl : ag = some [] := hg
  obtain rfl : af = some (env :: outer) := hA
  have hd' : ad + (dn + 1) < recursionLimit := hd
  have hu' : au + (un' + 3) < cLine := hu
  refine r p loose mean mg mb (ad + 1) (au + 3) (env :: outer) _ base _ s.heap.objs.size { s with heap := h₁, toks := _ } _ _ (X.keeps st) BG
    ⟨hns, fun b o e => hk₁ b o (of_hideAll _ e), Nat.le_of_eq (hideAll_size _ _)⟩
    (fun p hp => ⟨hk₁ _ _ (N p hp).1, Nat.ne_of_lt (Heap.lt_size (N p hp).1), hideAll_none _ (List.mem_map_of_mem hp)⟩) (T.keeps st) G (fun p hp => Heap.lt_size (N p hp).1) (by omega) (by omega) ?_
  rintro fl v m' led' s' rfl hO F' N' G' hos
  exact lv _ _ ⟨_, m', led', F', N', fun F₂ N₂ => ret _ led' s' hO F₂ N₂ G' hos⟩
theorem runs_gets (r : Runs w qual scope f cdv cl dn un' (fun y => binds.reverse.lookup y) led body Out)
    (ho : (mkK.heap_1 w.params).lookup f = some ⟨oc, od, .func (fnX name qual params body scope cl dV kV doc pm an cdv ct), osl⟩) (hcd : codeIn (mkK.heap_1 w.params) cdv qual = true)
    (hbind : ∀ s : Shared, (mkK.heap_1 w.params).In s.heap → BindsTo s (fnX name qual params body scope cl dV kV doc pm an cdv ct) ⟨vs, []⟩ binds) (hloc : ∀ y ∈ binds, scope.names.lookup y.1 = some .local)
    (hcell : ∀ x ∈ scope.names, x.2 ≠ .cell) (hco : scope.isCoroutine = false) (hgen : scope.isGenerator = false) (hk : scope.kind = .function) : Gets w f (dn + 1) (un' + 3) vs led Out := by
  intro p loose mean mg mb dp un cn cs a ccd cl' outer A₀ base h₀ L m s Q E X B F N T hke G hd hu ret
  refine wpAny_call (runs_code r rfl rfl rfl rfl hke X B F N T G hd hu ho hcd hbind hloc hcell hco hgen hk ret)
end
theorem Gets.use {w : World} {f : Addr} {dn un' : Nat} {vs : List Value} {led : List (Addr × Obj)} {Out : Value → List (Addr × Obj) → Prop} (D : Gets w f dn un' vs led Out)
    {p : Program} {loose : List Str} {mean : ExcName → Option Value} {mg mb : Str → Option Value}
    {dp un : Nat} {cn : Str} {cs : Scope} {a : Addr} {ccd : Value} {cl : List (Str × Addr)} {outer : List Env} {A₀ : Around} {base h₀ : Heap} {L : Addr} {m : Str → Option Value} {s : Shared} {Q E : Value → Shared → Prop}
    (X : (mkK.heap_1 w.params).In h₀) (B : Below A₀ base outer h₀) (F : Fr h₀ L s.heap m) (N : News h₀ L s.heap led) (T : Top p loose mean mg mb h₀) (hk : cs.kind = .function) (G : AllBare s.gens)
    (hd : dp + dn < recursionLimit) (hu : un + un' < cLine)
    (ret : ∀ v led' s', Out v led' → Fr h₀ L s'.heap m → News h₀ L s'.heap led' → AllBare s'.gens → s'.os = s.os → Q v s') :
    wpAny (model PySem.Challenge.rw_xp0011_01.row.prog w) (ktrTop dp un (some []) cn cs L a ccd cl outer) (call (.ref f) vs) Q E s :=
  D p loose mean mg mb dp un cn cs a ccd cl outer A₀ base h₀ L m s Q E X B F N T hk G hd hu ret
end Mine
end

section
open PySem PySem.W PySem.Calls PyProof.Rows Builtin
set_option Elab.async false
set_option maxRecDepth 100000
set_option maxHeartbeats 2000000
set_option linter.unusedVariables false
namespace Mine
theorem callWith_bound {M : Model} {A : Around} {E : Value → Shared → Prop} {s : Shared} {pos : Pos} {q x : Addr} {T id : String} {Q : Value → Shared → Prop} (hT : T = "method-wrapper" ∨ T = "builtin_function_or_method") (hb : s.heap.get? q = some (wrapO T id x)) (h : wpAny M A (call (.ref q) []) Q E s) : wpAny M A (callWith pos (.ref q) [] [] []) Q E s := by
  rcases hT with rfl | rfl
  all_goals
    unfold callWith
    refine wpAny_bind (wpAny_holding (wpAny_of_eq (a := (⟨[], []⟩ : Args)) (by rfl) ?_))
    refine wpAny_bind (wpAny_standAt ?_)
    refine wpAny_bind (m := keeperOf (.ref q)) ?_
    unfold keeperOf
    refine wpAny_bind (wpAny_load hb ?_)
    refine wpAny_pure ?_
    exact wpAny_bind (wpAny_mono h (fun r s₂ hr => wpAny_bind (wpAny_holding (wpAny_point (wpAny_pure hr)))) fun _ _ x => x)
section
variable {prog : Program} {w : World} {h : Heap} {gn : Array GenState} {d : Drawn} {t : Nat} {os : OsState} {A : Around} {Q : Value → Shared → Prop} {E : Value → Shared → Prop} {x dx : Addr} {vs : List Value} {c : Nat} {id : String}
theorem get_wrap (hty : typeOf (.builtin id) = pure (.type "wrapper_descriptor")) (hown : ".".intercalate (id.cutAt '.').dropLast = "list") (hx : h.get? x = some (accO dx vs c)) (top : Looks (model prog w) h (isSubtype (.ref 122) (.type "list")) true)
    (hq : Q (.ref h.objs.size) ⟨h.push (wrapO "method-wrapper" id x), gn, d, t, os⟩) : wpAny (model prog w) A (call (.builtin "wrapper_descriptor.__get__") [.builtin id, .ref x, .ref 122]) Q E ⟨h, gn, d, t, os⟩ :=
  wpAny_call_entry slot_wget (show Shared.TypeIs _ (.builtin id) _ from hty) entry_wget (wget_run hx top hown ⟨_, rfl, hq⟩) (args_wget _ _ _)
theorem get_meth (hty : typeOf (.builtin id) = pure (.type "method_descriptor")) (hown : ".".intercalate (id.cutAt '.').dropLast = "list") (hnt : Manifest.toldItsClass.contains id = false) (hx : h.get? x = some (accO dx vs c)) (top : Looks (model prog w) h (isSubtype (.ref 122) (.type "list")) true)
    (hq : Q (.ref h.objs.size) ⟨h.push (wrapO "builtin_function_or_method" id x), gn, d, t, os⟩) : wpAny (model prog w) A (call (.builtin "method_descriptor.__get__") [.builtin id, .ref x, .ref 122]) Q E ⟨h, gn, d, t, os⟩ :=
  wpAny_call_entry slot_mget (show Shared.TypeIs _ (.builtin id) _ from hty) entry_mget (mget_run hx top hown hnt ⟨_, rfl, hq⟩) (args_mget _ _ _)
end
section
variable {w : World} {A : Around} {E : Value → Shared → Prop} {s : Shared} {g : Heap} {L : Addr} {m mg mb : Str → Option Value} {led : List (Addr × Obj)} {p : Program} {loose : List Str} {mean : ExcName → Option Value} {x dx : Addr} {vs : List Value} {c : Nat} {od : Obj}
/-- super().name() in a method of the ring -/
theorem super_call {body : List Stmt} {q : Str} {scope : Scope} {p0 p1 p2 p3 : Pos} {name : Str} {id T T' gid : String} {B : Builtin} {S : PySem.Spec} {fd : FuncData} {ar : Arg} {us : Array Value} {file : Str} {tf : Tok} {oc ccl : Value} {f cda : Addr} {ood cdd : Option Addr} {osl ccs : Array (Option Value)} {pl : Sem Bool} {Q : Value → Shared → Prop}
    (F : Fr g L s.heap m) (X : (mkK.heap_1 w.params).In g) (N : News g L s.heap led) (T₀ : Top p loose mean mg mb g) (hx : (x, accO dx vs c) ∈ led) (hdx : (dx, od) ∈ led)
    (hf : (mkK.heap_1 w.params).lookup f = some ⟨oc, ood, .func fd, osl⟩) (hp : (fd.params.posonlyargs ++ fd.params.args).head? = some ar) (hv : m ar.arg = some (.ref x))
    (hcode : (mkK.heap_1 w.params).lookup cda = some ⟨ccl, cdd, .fields us, ccs⟩) (hvs : us[2]? = some (.str file tf)) (hfile : ((PySem.Challenge.rw_xp0011_01.row.prog.main.file : Str) == file) = true)
    (hat : (name == ("__class__" : Str)) = false) (hks : scope.names.lookup ("super" : Str) = some .globalImplicit) (hkc : scope.names.lookup ("__class__" : Str) = some .free) (hka : scope.names.lookup ar.arg = some .local) (hk : scope.kind = .function)
    (hfi : alongIn (mkK.heap_1 w.params) name [.type "list", .type "object"] = some (some (.builtin id))) (hty : typeOf (.builtin id) = pure (.type T')) (hlk : typeLookup (.type T') "__get__" = pure (some (.builtin gid)))
    (hcall : ∀ {h : Heap} {gn : Array GenState} {d : Drawn} {t : Nat} {os : OsState} {A : Around} {Q : Value → Shared → Prop} {E : Value → Shared → Prop}, h.get? x = some (accO dx vs c) → Looks (model PySem.Challenge.rw_xp0011_01.row.prog w) h (isSubtype (.ref 122) (.type "list")) true →
      Q (.ref h.objs.size) ⟨h.push (wrapO T id x), gn, d, t, os⟩ → wpAny (model PySem.Challenge.rw_xp0011_01.row.prog w) A (call (.builtin gid) [.builtin id, .ref x, .ref 122]) Q E ⟨h, gn, d, t, os⟩)
    (hT : T = "method-wrapper" ∨ T = "builtin_function_or_method") (hpl : plainId id = true) (entry : entryFor table id = some B) (hcheck : ∀ {A : Around} {Q : Unit → Shared → Prop} {E : Value → Shared → Prop} {s : Shared}, (mkK.heap_1 w.params).In s.heap → s.heap.get? x = some (accO dx vs c) → Q () s → wpAny (model PySem.Challenge.rw_xp0011_01.row.prog w) A (checkBoundCall id ⟨[.ref x], []⟩) Q E s)
    (gm : Meets (B ⟨[.ref x], []⟩) S)
    (he : eval (.Call (.Attribute (.Call (.Name "super" p0) [] [] p1) name p2) [] [] p3) (ksEnv q scope L f (.ref cda) 46) = (do
      let ov ← attributeBase (.Call (.Name "super" p0) [] [] p1) name (ksEnv q scope L f (.ref cda) 46) (eval (.Call (.Name "super" p0) [] [] p1) (ksEnv q scope L f (.ref cda) 46))
      standAt p2.atName
      let (f', first) ← holding [ov] (getMethod ov name pl)
      callWith p3 f' first (backTo p3 (starEach [] (ksEnv q scope L f (.ref cda) 46))) []))
    (hS : ∀ h' tk', Fr g L h' m → News g L h' led → S A (wants Q E) { s with heap := h', toks := tk' }) :
    _root_.PySem.wpAt (model PySem.Challenge.rw_xp0011_01.row.prog w) A (.func body (ksEnv q scope L f (.ref cda) 46)) (eval (.Call (.Attribute (.Call (.Name "super" p0) [] [] p1) name p2) [] [] p3) (ksEnv q scope L f (.ref cda) 46)) Q E s := by
  have fk : mkK.heap_1 = mkK.heap_1 ∧ PySem.Challenge.rw_xp0011_01 = PySem.Challenge.rw_xp0011_01 := by
    k_fill
    exact ⟨rfl, rfl⟩
  refine ks_wpAt_MethodCall ?_ he
  have I1 := acc_inst (N _ hx).1 (N _ hdx).1
  k_dflt (refine ks_node F X N T₀ hf hp hv I1 hcode hvs hfile (by k_is) (by k_is) (by k_is) (by k_is) hat hks hkc hka hk (by decide +kernel) (by boot_by_name) ?_)
  intro so h2 F2 N2 l2
  have X2 := X.keeps F2.keep
  have hx2 := (N2 _ (List.mem_cons_of_mem _ hx)).1
  have hxC : x ≠ 122 := by
    rintro rfl
    have hc : (clsIn (mkK.heap_1 w.params) 122).isSome = true := by kernel_rfl
    unfold clsIn at hc
    split at hc
    · rename_i ho; have e := X2 _ _ ho; rw [hx2] at e; cases e
    · cases hc
  have hmr : mroIn (mkK.heap_1 w.params) 122 (.type "list") = some true := by kernel_rfl
  have top : Looks (model PySem.Challenge.rw_xp0011_01.row.prog w) h2 (isSubtype (.ref 122) (.type "list")) true := looks_mroIn X2 hmr
  have hC : Looks (model PySem.Challenge.rw_xp0011_01.row.prog w) h2 (mroOf (.ref 122)) [.ref 122, .type "list", .type "object"] := by
    k_dflt (refine (looks_clsIn X2 (by k_is)).andThen ?_)
    exact .now
  have hno : nsIn (mkK.heap_1 w.params) cStatics "thirdparty.any" = some none := by kernel_rfl
  refine sgm_run (T := T) (N2 _ List.mem_cons_self).1 (looks_opaque X2 hno) hC X2 hfi hty hlk (fun hq => hcall hx2 top hq) hxC hat ?_
  obtain ⟨F3, N3, l3⟩ := ks_newsPush (s := { s with heap := h2 }) (o := wrapO T id x) F2 N2 rfl (Heap.get?_push_at rfl rfl) (fun b o e => Heap.get?_push_of_some _ e)
  dsimp only
  have hb := (N3 _ List.mem_cons_self).1
  show wpAny _ _ (callWith _ (.ref _) [] [] []) _ _ _
  refine callWith_bound hT hb ?_
  exact bound_slot hb hT hpl entry (fun z => hcheck (X.keeps F3.keep) (N3 _ (List.mem_cons_of_mem _ (List.mem_cons_of_mem _ hx))).1 z) gm (hS _ _ F3 (news_sub N3 fun p hp => .tail _ (.tail _ hp)))
end
end Mine
end

section
open PySem PySem.W PySem.Calls PyProof.Rows Builtin
set_option Elab.async false
set_option maxRecDepth 100000
set_option maxHeartbeats 2000000
set_option linter.unusedVariables false
namespace Mine
section
variable {w : World} {A : Around} {E : Value → Shared → Prop} {s : Shared} {x dx : Addr} {vs : List Value} {c : Nat} {od : Obj} {pl : Sem Bool} {Q : Value × List Value → Shared → Prop} {name : Str}
theorem ring_ga (w : World) : findIn (mkK.heap_1 w.params) (.ref 122) "__getattribute__" = some (some (.builtin "list.__getattribute__")) ∧ findIn (mkK.heap_1 w.params) (.ref 122) "__getattr__" = some none := ⟨by kernel_rfl, by kernel_rfl⟩
theorem canon_list_ga : (Manifest.canonical "list.__getattribute__" != "object.__getattribute__") = false := by decide +kernel
/-- a method found in the ring -/
theorem ring_m {f : Value} {T : String} (X : (mkK.heap_1 w.params).In s.heap) (hx : s.heap.get? x = some (accO dx vs c)) (hd : s.heap.get? dx = some od) (hf : findIn (mkK.heap_1 w.params) (.ref 122) name = some (some f))
    (ht : Looks (model PySem.Challenge.rw_xp0011_01.row.prog w) s.heap (typeOf f) (.type T)) (hT : (Value.type T != .type "function" && Value.type T != .type "method_descriptor" && Value.type T != .type "wrapper_descriptor") = false) (hs : shadowIn (some od) name = some false) (h : Q (f, [.ref x]) s) :
    wpAny (model PySem.Challenge.rw_xp0011_01.row.prog w) A (getMethod (.ref x) name pl) Q E s := by
  have I := acc_inst hx hd
  unfold getMethod specialOf
  refine wpAny_bind (wpAny_bind (I.type.here ((looks_findIn X (ring_ga w).1).here ?_)))
  dsimp only
  rw [canon_list_ga, if_neg (by decide)]
  refine wpAny_bind (wpAny_bind (I.type.here ((looks_findIn X (ring_ga w).2).here ?_)))
  refine wpAny_bind (wpAny_bind (I.type.here ((looks_findIn X hf).here (wpAny_bind (ht.here ?_)))))
  rw [hT, if_neg (by decide)]
  refine wpAny_bind (wpAny_loadPart hx ?_)
  obtain ⟨r, a, b⟩ := Option.map_eq_some_iff.mp hs
  refine wpAny_bind (wpAny_bind (wpAny_loadPart hd ?_))
  rw [nsLook_of a]
  refine wpAny_pure ?_
  rw [b]
  exact wpAny_bind (wpAny_rule (wpAny_pure h))
theorem ring_lm {id : String} (X : (mkK.heap_1 w.params).In s.heap) (hx : s.heap.get? x = some (accO dx vs c)) (hd : s.heap.get? dx = some od) (hf : findIn (mkK.heap_1 w.params) (.ref 122) name = some (some (.builtin id)))
    (ht : typeOf (.builtin id) = pure (.type "method_descriptor")) (hs : shadowIn (some od) name = some false) (h : Q (.builtin id, [.ref x]) s) : wpAny (model PySem.Challenge.rw_xp0011_01.row.prog w) A (getMethod (.ref x) name pl) Q E s :=
  ring_m X hx hd hf (fun _ _ _ _ _ q => wpAny_of_eq ht q) (by decide +kernel) hs h
theorem ring_fn {f : Addr} (X : (mkK.heap_1 w.params).In s.heap) (hx : s.heap.get? x = some (accO dx vs c)) (hd : s.heap.get? dx = some od) (hf : findIn (mkK.heap_1 w.params) (.ref 122) name = some (some (.ref f)))
    (ht : typeIn (mkK.heap_1 w.params) (.ref f) = some (.type "function")) (hs : shadowIn (some od) name = some false) (h : Q (.ref f, [.ref x]) s) : wpAny (model PySem.Challenge.rw_xp0011_01.row.prog w) A (getMethod (.ref x) name pl) Q E s :=
  ring_m X hx hd hf (looks_typeIn X ht) (by decide +kernel) hs h
end
end Mine
end

section
open PySem PySem.W PyProof.Rows PySem.Calls
set_option Elab.async false
set_option maxRecDepth 100000
set_option maxHeartbeats 2000000
set_option linter.unusedVariables false
namespace Mine
theorem m_init {dx : Addr} {c : Nat} (l : Addr) :
    Meets (Builtin.«list.__init__» ⟨[.ref l], []⟩)
      (fun _ R s => s.heap.get? l = some (accO dx [] c) ∧ R (.ok (.ret .none)) { s with heap := s.heap.update l (Obj.mapSeq fun _ => #[]) }) :=
  .of_wp fun prog w A R s h => by
    obtain ⟨hp, g, d, tk, os⟩ := s; obtain ⟨hl, h⟩ := h
    have hz : ([] : List Value).toArray.size ≤ sizeLine := Nat.zero_le _
    have hz' : ((fun _ : Array Value => (#[] : Array Value)) ([] : List Value).toArray).size ≤ sizeLine + 1 := Nat.zero_le _
    wp_walk using (wpAny_updateSeq hl rfl (hz := hz) (_hz' := hz')), wpAny_loadPart' hl
    exact ⟨_, rfl, h⟩
theorem chk_init (x : Addr) : checkBoundCall "list.__init__" ⟨[.ref x], []⟩ = pure () := by kernel_rfl
section
local macro_rules | `(tactic| walk_at "setAttr") => `(tactic| (refine Halt.out ?_))
local macro_rules | `(tactic| walk_at "setAttr ref") => `(tactic| (refine Halt.out ?_))
theorem upd_head {h₀ h : Heap} {L x : Addr} {m : Str → Option Value} {o o' : Obj} {f : Obj → Obj} {led : List (Addr × Obj)} (F : Fr h₀ L h m) (N : News h₀ L h ((x, o) :: led)) (hl : ∀ p ∈ led, p.1 ≠ x) (e : f o = o') (hf : o'.isFreed = false) :
    Fr h₀ L (h.update x f) m ∧ News h₀ L (h.update x f) ((x, o') :: led) :=
  news_upd (pre := []) F N (fun _ h => nomatch h) hl e hf
theorem ring_made (w : World) (led : List (Addr × Obj)) :
    Gets w 122 20 200 [] led (fun v led' => ∃ x dx hs t u c, v = .ref x ∧ led' = (x, accO dx [] 0) :: (dx, iniD hs t u c) :: led ∧ (∀ p ∈ led, p.1 < dx) ∧ dx < x) := by
  have fk : mkK.heap_1 = mkK.heap_1 ∧ PySem.Challenge.rw_xp0011_01 = PySem.Challenge.rw_xp0011_01 := by
    k_fill
    exact ⟨rfl, rfl⟩
  intro p loose mean mg mb dp un cn cs e9 ccd cl outer A₀ base h₀ L m s Q E X B F N T hk hG hd hu ret
  refine wpAny_call ?_
  k_dflt (refine make_listK F N (X.keeps F.keep) (by kernel_rfl) (by k_is) (by k_is) ?_)
  intro x dx h1 F1 N1 l1 l2
  k_dflt (refine' runs_code (dn := 10) (un' := 100) (binds := [(Str.ofString "self", .ref x), (Str.ofString "initial_size", .int 0 256)]) (Out := fun v led' => v = .none ∧ ∃ hs t u c, led' = (x, accO dx [] 0) :: (dx, iniD hs t u c) :: led) ?r rfl rfl rfl rfl hk X B F1 N1 T hG ?kd ?ku ?ho ?hcd ?hb ?hl ?hc ?h1 ?h2 ?h3 ?rt; (case ho => k_is); (case hcd => k_is); (case hl => exact locs rfl); (case hc => decide); (case h1 => rfl); (case h2 => rfl); (case h3 => rfl); (case hb => intro s9 X9; exact binds_K X9 rfl (by k_is) rfl rfl rfl))
  case kd =>
    have e : (Code.builtin "type.__call__" ⟨[.ref 122], []⟩).weight ≤ 5 := by decide +kernel
    show dp + Code.weight _ + _ < _
    omega
  case ku =>
    have e : (Code.builtin "type.__call__" ⟨[.ref 122], []⟩).cUnits ≤ 5 := by decide +kernel
    show un + Code.cUnits _ + _ < _
    omega
  case rt => 
    rintro v led' s' ⟨rfl, hs, t, u, c, rfl⟩ F2 N2 G2 os2
    exact ⟨rfl, ret _ _ _ ⟨x, dx, hs, t, u, c, rfl, rfl, l1, l2⟩ F2 N2 G2 os2⟩
  case r =>
    clear F1 N1 F N X T B hd hu ret hG
    intro p loose mean mg mb dp un outer A₀ base g L s Q E X B F N T G lt hd hu ret
    refine ks_wpAt_execs_cons ?_
    refine wpAt_of_wpAny ?_
    k_steps
    refine Halt.go ?_
    have N2 : News g L s.heap ([(x, accO dx [] 0)] ++ (dx, emptyDict) :: led) := N
    k_dflt (refine acc_set (c := 0) (vs := []) (dx := dx) F N2 (X.keeps F.keep) (N2 (x, accO dx [] 0) (by simp)).1 (by k_is) (by kernel_rfl) (by kernel_rfl) (by k_is) (by k_is) (by rfl) ?_ ?_ (by rfl) (by rfl) (Nat.le_of_ble_eq_true rfl) ?_)
    · intro p hp
      rw [List.mem_singleton.mp hp]
      exact Nat.ne_of_gt l2
    · exact fun p hp => Nat.ne_of_lt (l1 p hp)
    intro h2 F2 N2
    have N2 : News g L h2 ((x, accO dx [] 0) :: (dx, iniD _ _ _ _) :: led) := N2
    clear F N
    dsimp only
    refine ks_wpAt_execs_cons ?_
    refine ks_wpAt_Expr_any ?_ (by with_unfolding_all rfl)
    k_dflt (refine super_call (x := x) (dx := dx) (vs := []) (c := 0) (id := "list.__init__") F2 X N2 T List.mem_cons_self (.tail _ List.mem_cons_self) (by k_is) (by rfl) (by rfl) (by k_is) (by rfl) (by decide +kernel) (by decide) (by rfl) (by rfl) (by rfl) (by rfl) (by kernel_rfl) (by kernel_rfl) slot_wget.lookup (get_wrap (by kernel_rfl) (by decide +kernel)) (.inl rfl) PySem.F.slot_list_init.plain PySem.F.entry_list_init (fun _ _ z => wpAny_of_eq (chk_init x) z) (m_init (dx := dx) (c := 0) x) (by rfl) ?_)
    intro h3 tk3 F3 N3
    refine ⟨(N3 _ List.mem_cons_self).1, ?_⟩
    have off : ∀ p ∈ (dx, iniD (PyData.keyHash w.params (Str.ofString "_initial_size")) (s.toks + 1) 256 (0 + 1)) :: led, p.1 ≠ x := by
      intro p hp
      rcases List.mem_cons.mp hp with rfl | hp
      · exact Nat.ne_of_lt l2
      · exact Nat.ne_of_lt (Nat.lt_trans (l1 p hp) l2)
    obtain ⟨F6, N6⟩ := upd_head (o' := accO dx [] 0) (f := Obj.mapSeq fun _ => #[]) F3 N3 off (by rfl) (by rfl)
    exact wpAt_of_wpAny (wpAny_execs_nil (ret .next .none _ _ _ rfl ⟨rfl, _, _, _, _, rfl⟩ F6 N6 G rfl))
end
end Mine
end

section
open PySem PySem.W PyProof.Rows PySem.Calls
set_option Elab.async false
set_option maxRecDepth 100000
set_option maxHeartbeats 2000000
set_option linter.unusedVariables false
namespace Mine
theorem chk_len (x : Addr) : checkBoundCall "list.__len__" ⟨[.ref x], []⟩ = pure () := by kernel_rfl
theorem part_gets (w : World) (x dx : Addr) (vs : List Value) (c : Nat) (od : Obj) (led : List (Addr × Obj)) :
    Gets w 119 11 103 [.ref x] ((x, accO dx vs c) :: (dx, od) :: led) (fun v led' => (∃ t, v = .int ((vs.length : Nat) : Int) t) ∧ led' = (x, accO dx vs c) :: (dx, od) :: led) := by
  have fk : mkK.heap_1 = mkK.heap_1 ∧ PySem.Challenge.rw_xp0011_01 = PySem.Challenge.rw_xp0011_01 := by
    k_fill
    exact ⟨rfl, rfl⟩
  k_dflt (refine' runs_gets (dn := 10) (un' := 100) (binds := [(Str.ofString "self", .ref x)]) ?r ?ho ?hcd ?hb ?hl ?hc ?h1 ?h2 ?h3; (case ho => k_is); (case hcd => k_is); (case hl => exact locs rfl); (case hc => decide); (case h1 => rfl); (case h2 => rfl); (case h3 => rfl); (case hb => intro s9 X9; exact BindsTo.of_eq rfl))
  intro p loose mean mg mb dp un outer A₀ base g L s Q E X B F N T G lt hd hu ret
  refine ks_wpAt_execs_cons (ks_wpAt_Return_some ?_)
  k_dflt (refine super_call (x := x) (dx := dx) (vs := vs) (c := c) (id := "list.__len__") F X N T List.mem_cons_self (.tail _ List.mem_cons_self) (by k_is) (by rfl) (by rfl) (by k_is) (by rfl) (by decide +kernel) (by decide) (by rfl) (by rfl) (by rfl) (by rfl) (by kernel_rfl) (by kernel_rfl) slot_wget.lookup (get_wrap (by kernel_rfl) (by decide +kernel)) (.inl rfl) PySem.F.slot_list_len.plain PySem.F.entry_list_len (fun _ _ z => wpAny_of_eq (chk_len x) z) (m_len (dx := dx) (vs := vs) (c := c) x) (by rfl) ?_)
  intro h3 tk3 F3 N3
  exact ⟨(N3 _ List.mem_cons_self).1, ret _ _ _ _ _ rfl ⟨⟨_, rfl⟩, rfl⟩ F3 N3 G rfl⟩
theorem to3 {α : Type} {a b c : α} {l : List α} {p : α} (h : p ∈ a :: b :: c :: l) : p ∈ c :: a :: b :: l := by
  simp only [List.mem_cons] at h ⊢
  rcases h with h | h | h | h <;> simp [h]
theorem of3 {α : Type} {a b c : α} {l : List α} {p : α} (h : p ∈ c :: a :: b :: l) : p ∈ a :: b :: c :: l := by
  simp only [List.mem_cons] at h ⊢
  rcases h with h | h | h | h <;> simp [h]
theorem acc_map {dx : Addr} {vs ys : List Value} {c : Nat} {f : Array Value → Array Value} (h : f vs.toArray = ys.toArray) : ∃ c', Obj.mapSeq f (accO dx vs c) = accO dx ys c' := by
  unfold Obj.mapSeq
  dsimp only
  rw [h]
  exact ⟨_, rfl⟩
theorem ini_shadow {hs : Int} {t u : Tok} {k : Nat} : shadowIn (some (iniD hs t u k)) "append" = some false ∧ shadowIn (some (iniD hs t u k)) "part_count" = some false ∧ shadowIn (some (iniD hs t u k)) "push" = some false ∧ shadowIn (some (iniD hs t u k)) "pop" = some false ∧ shadowIn (some (iniD hs t u k)) "pop_from" = some false ∧ shadowIn (some (iniD hs t u k)) "reset" = some false := ⟨rfl, rfl, rfl, rfl, rfl, rfl⟩
section
local macro_rules | `(tactic| walk_at "getMethod ref") => `(tactic| (refine Halt.out ?_))
local macro_rules | `(tactic| walk_at "call builtin:list.append") => `(tactic| (refine Halt.out ?_))
theorem push_gets (w : World) (x dx : Addr) (vs : List Value) (c : Nat) (hs : Int) (t u : Tok) (k : Nat) (led : List (Addr × Obj)) (a b : Value) (hx : ∀ p ∈ led, p.1 ≠ x) (hd0 : dx ≠ x) (hz : vs.length ≤ 1000) :
    Gets w 66 11 103 [.ref x, a, b] ((x, accO dx vs c) :: (dx, iniD hs t u k) :: led) (fun v led' => v = .none ∧ ∃ D k1 k2, led' = (x, accO dx (vs ++ [.ref D]) k1) :: (dx, iniD hs t u k) :: (D, tupO [a, b] k2) :: led ∧ x < D ∧ ∀ p ∈ led, p.1 < D) := by
  have fk : mkK.heap_1 = mkK.heap_1 ∧ PySem.Challenge.rw_xp0011_01 = PySem.Challenge.rw_xp0011_01 := by
    k_fill
    exact ⟨rfl, rfl⟩
  k_dflt (refine' runs_gets (dn := 10) (un' := 100) (binds := [(Str.ofString "self", .ref x), (Str.ofString "fws", a), (Str.ofString "string", b)]) ?r ?ho ?hcd ?hb ?hl ?hc ?h1 ?h2 ?h3; (case ho => k_is); (case hcd => k_is); (case hl => exact locs rfl); (case hc => decide); (case h1 => rfl); (case h2 => rfl); (case h3 => rfl); (case hb => intro s9 X9; exact BindsTo.of_eq rfl))
  intro p loose mean mg mb dp un outer A₀ base g L s Q E X B F N T G lt hd hu ret
  refine wpAt_of_wpAny ?_
  k_steps
  refine Halt.go ?_
  k_dflt (refine ring_lm (X.keeps F.keep) (N _ List.mem_cons_self).1 (N _ (.tail _ List.mem_cons_self)).1 (by k_is) (by kernel_rfl) ini_shadow.1 ?_)
  k_steps
  rename_i D h1 F1 N1 l1
  have N1 : News g L h1 ((x, accO dx vs c) :: (dx, iniD hs t u k) :: (D, tupO [a, b] 0) :: led) := news_sub N1 fun p hp => of3 (to3 (to3 hp))
  refine Halt.go ?_
  refine acc_meets (X.keeps F1.keep) (N1 _ List.mem_cons_self).1 (by kernel_rfl) (n := "append") (by decide +kernel) (.inr (by decide +kernel)) (by decide +kernel) PySem.entry_list_append (PySem.args_list_append _ _) (m_append (dx := dx) (c := c) x (.ref D) (Nat.le_trans hz (by decide +kernel))) ⟨(N1 _ List.mem_cons_self).1, ?_⟩
  have off : ∀ p ∈ (dx, iniD hs t u k) :: (D, tupO [a, b] 0) :: led, p.1 ≠ x := by
    intro p hp
    rcases List.mem_cons.mp hp with rfl | hp
    · exact hd0
    rcases List.mem_cons.mp hp with rfl | hp
    · exact Nat.ne_of_gt l1.1
    · exact hx p hp
  obtain ⟨c2, e2⟩ := acc_map (dx := dx) (vs := vs) (ys := vs ++ [.ref D]) (c := c) (f := fun xs => xs.push (.ref D)) (List.push_toArray ..)
  obtain ⟨F6, N6⟩ := upd_head F1 N1 off e2 rfl
  exact wpAny_execs_nil (ret .next .none _ _ _ rfl ⟨rfl, D, _, _, rfl, l1.1, allLt_mem l1.2.2⟩ F6 N6 G rfl)
end
end Mine
end

section
open PySem PySem.W PyProof.Rows PySem.Calls
set_option Elab.async false
set_option maxRecDepth 100000
set_option maxHeartbeats 2000000
set_option linter.unusedVariables false
namespace Mine
theorem erase_end {α : Type} (ys : List α) (y : α) : (ys ++ [y]).toArray.eraseIdxIfInBounds ((ys ++ [y]).toArray.size - 1) = ys.toArray := by
  simp [Array.eraseIdxIfInBounds]
  rw [List.eraseIdx_append_of_length_le (Nat.le_refl _)]
  simp
theorem chk_pop {w : World} {x dx : Addr} {vs : List Value} {c : Nat} {A : Around} {Q : Unit → Shared → Prop} {E : Value → Shared → Prop} {s : Shared} (X : (mkK.heap_1 w.params).In s.heap) (hx : s.heap.get? x = some (accO dx vs c)) (q : Q () s) :
    wpAny (model PySem.Challenge.rw_xp0011_01.row.prog w) A (checkBoundCall "list.pop" ⟨[.ref x], []⟩) Q E s := by
  have fk : mkK.heap_1 = mkK.heap_1 ∧ PySem.Challenge.rw_xp0011_01 = PySem.Challenge.rw_xp0011_01 := by
    k_fill
    exact ⟨rfl, rfl⟩
  have L0 := acc_type (M := model PySem.Challenge.rw_xp0011_01.row.prog w) hx
  have hm : mroIn (mkK.heap_1 w.params) 122 (.type "module") = some false := by kernel_rfl
  have hck : (Manifest.signature? "list.pop").map (fun sig => Bind.checkArgs "list.pop" { sig with full := s!"{(Str.ofString "_Accumulator").toString}.{Bind.lastOf "list.pop"}" } ⟨[.ref x], []⟩) = some (pure ()) := by
    rw [signature?_of (id := "list.pop") (n := ['p', 'o', 'p']) (o := ['t', 's', 'i', 'l']) (by kernel_rfl) PySem.F.owner_list]; kernel_rfl
  obtain ⟨sig, hsig, hck1⟩ := Option.map_eq_some_iff.mp hck
  have hk : builtinKind "list.pop" = some .method := by decide +kernel
  unfold checkBoundCall
  rw [hsig, hk]
  dsimp only
  rw [if_neg (by decide)]
  refine wpAny_bind (m := isInstance (.ref x) (.type "module")) (wpAny_bind (L0.here ((looks_mroIn X hm).here ?_)))
  rw [Bool.or_false, if_neg (by decide +kernel)]
  refine wpAny_bind (m := isType (.ref x)) ?_
  unfold isType loadHead
  refine wpAny_bind (wpAny_loadPart hx (wpAny_pure ?_))
  show wpAny _ _ (typeOf (.ref x) >>= _) _ _ _
  refine wpAny_bind (L0.here ?_)
  dsimp only
  k_dflt (refine wpAny_bind ((looks_clsIn X (by k_is)).here ?_))
  k_dflt (refine wpAny_bind ((looks_typeIn X (t := .type "type") (by k_is)).here ?_))
  rw [if_pos (by decide), hck1]
  exact wpAny_pure q
section
local macro_rules | `(tactic| walk_at "wpAt") => `(tactic| (refine Halt.out ?_))
local macro_rules | `(tactic| walk_at "getMethod ref") => `(tactic| (refine Halt.out ?_))
local macro_rules | `(tactic| walk_at "call ref") => `(tactic| (refine Halt.out ?_))
theorem pop_gets (w : World) (x dx : Addr) (ys : List Value) (y : Value) (c : Nat) (hs : Int) (t u : Tok) (k : Nat) (led : List (Addr × Obj)) (hx : ∀ p ∈ led, p.1 ≠ x) (hd0 : dx ≠ x) (hz : ys.length < 1000) :
    Gets w 82 31 303 [.ref x] ((x, accO dx (ys ++ [y]) c) :: (dx, iniD hs t u k) :: led) (fun v led' => v = y ∧ ∃ k1, led' = (x, accO dx ys k1) :: (dx, iniD hs t u k) :: led) := by
  have fk : mkK.heap_1 = mkK.heap_1 ∧ PySem.Challenge.rw_xp0011_01 = PySem.Challenge.rw_xp0011_01 := by
    k_fill
    exact ⟨rfl, rfl⟩
  k_dflt (refine' runs_gets (dn := 30) (un' := 300) (binds := [(Str.ofString "self", .ref x)]) ?r ?ho ?hcd ?hb ?hl ?hc ?h1 ?h2 ?h3; (case ho => k_is); (case hcd => k_is); (case hl => exact locs rfl); (case hc => decide); (case h1 => rfl); (case h2 => rfl); (case h3 => rfl); (case hb => intro s9 X9; exact BindsTo.of_eq rfl))
  intro p loose mean mg mb dp un outer A₀ base g L s Q E X B F N T G lt hd hu ret
  have hlen : 0 < (ys ++ [y]).length := by rw [List.length_append]; exact Nat.succ_pos _
  refine ks_wpAt_execs_cons (wpAt_of_wpAny ?_)
  k_steps
  refine Halt.go ?_
  k_dflt (refine ring_fn (X.keeps F.keep) (N _ List.mem_cons_self).1 (N _ (.tail _ List.mem_cons_self)).1 (by k_is) (by k_is) ini_shadow.2.1 ?_)
  k_steps
  refine Halt.go (Gets.use (part_gets w x dx (ys ++ [y]) c _ led) X B F N T rfl G (by omega) (by omega) ?_)
  rintro v led' s2 ⟨⟨t2, rfl⟩, rfl⟩ F2 N2 G2 os2
  k_steps
  any_goals (exfalso; omega)
  refine Halt.go ?_
  refine ks_wpAt_execs_cons (ks_wpAt_Return_some ?_)
  k_dflt (refine super_call (x := x) (dx := dx) (vs := ys ++ [y]) (c := c) (id := "list.pop") F2 X N2 T List.mem_cons_self (.tail _ List.mem_cons_self) (by k_is) (by rfl) (by rfl) (by k_is) (by rfl) (by decide +kernel) (by decide) (by rfl) (by rfl) (by rfl) (by rfl) (by kernel_rfl) (by kernel_rfl) slot_mget.lookup (get_meth (by kernel_rfl) (by decide +kernel) (by decide +kernel)) (.inr rfl) PySem.F.slot_list_pop.plain PySem.F.entry_list_pop chk_pop (m_pop (dx := dx) (c := c) x ys y rfl (by rw [List.length_append]; exact Nat.le_trans (show ys.length + 1 ≤ 1000 from hz) (by decide +kernel))) (by rfl) ?_)
  intro h3 tk3 F3 N3
  refine ⟨(N3 _ List.mem_cons_self).1, ?_⟩
  have off : ∀ p ∈ (dx, iniD hs t u k) :: led, p.1 ≠ x := by
    intro p hp
    rcases List.mem_cons.mp hp with rfl | hp
    · exact hd0
    · exact hx p hp
  obtain ⟨c2, e2⟩ := acc_map (dx := dx) (vs := ys ++ [y]) (ys := ys) (c := c) (f := fun xs => xs.eraseIdxIfInBounds ((ys ++ [y]).toArray.size - 1)) (erase_end ys y)
  obtain ⟨F6, N6⟩ := upd_head F3 N3 off e2 rfl
  exact ret (.ret y) y _ _ _ rfl ⟨rfl, _, rfl⟩ F6 N6 G2 os2
end
end Mine
end

section
open PySem PySem.W PyProof.Rows PySem.Calls
set_option Elab.async false
set_option maxRecDepth 100000
set_option maxHeartbeats 2000000
set_option linter.unusedVariables false
namespace Mine
section
variable {w : World} {A : Around} {E : Value → Shared → Prop} {s : Shared} {x dx : Addr} {vs : List Value} {c : Nat}
theorem ring_tail {value slice : Expr} {i : Value} {ops : List Value} {Q : Value → Shared → Prop} (X : (mkK.heap_1 w.params).In s.heap) (hx : s.heap.get? x = some (accO dx vs c))
    (hg : wpAny (model PySem.Challenge.rw_xp0011_01.row.prog w) A (getItem (.ref x) i) Q E s) (hs : subscripted slice false (.ref x) i = operate ops (getItem (.ref x) i)) (ht : ∀ r, letTemporaryGo value (.ref x) r = pure ()) :
    wpAny (model PySem.Challenge.rw_xp0011_01.row.prog w) A (subscriptTail value slice (.ref x) i) Q E s := by
  have L0 := acc_type (M := model PySem.Challenge.rw_xp0011_01.row.prog w) hx
  have hf : findIn (mkK.heap_1 w.params) (.ref 122) "__getitem__" = some (some (.builtin "list.__getitem__")) := by kernel_rfl
  unfold subscriptTail
  refine wpAny_bind ?_
  rw [getitemInPython_of_ne (o := .ref x) Value.noConfusion]
  unfold specialOf
  refine wpAny_bind (wpAny_bind (L0.here ((looks_findIn X hf).here ?_)))
  have fin : wpAny (model PySem.Challenge.rw_xp0011_01.row.prog w) A (subscripted slice false (.ref x) i) (fun r s₃ => wpAny (model PySem.Challenge.rw_xp0011_01.row.prog w) A (letTemporaryGo value (.ref x) r >>= fun _ => pure r) Q E s₃) E s := by
    rw [hs]
    exact wpAny_operating (wpAny_mono hg (fun r s₃ h₃ => wpAny_bind (wpAny_of_eq (ht r) (wpAny_pure h₃))) fun _ _ x => x)
  first
    | exact wpAny_pure (wpAny_bind fin)
    | exact wpAny_bind (wpAny_pure (wpAny_bind fin))
    | exact wpAny_bind fin
end
abbrev sliceO (a b d : Value) : Obj := { cls := .type "slice", data := .fields #[a, b, d] }
theorem bounds_one (n : Nat) : sliceBounds (some 1) none none (n + 1) = (((1 : Nat) : Int), ((n + 1 : Nat) : Int), 1) := by
  unfold sliceBounds
  refine Prod.ext ?_ rfl
  show max 0 (min (if (1 : Int) < 0 then 1 + ((n + 1 : Nat) : Int) else 1) ((n + 1 : Nat) : Int)) = 1
  rw [if_neg (by decide)]
  omega
theorem pick_one (v0 : Value) (vs : List Value) : slicePick (v0 :: vs).toArray (some 1) none none = vs.toArray := by
  rw [kmk_pick_nat (v0 :: vs).toArray (lo := some 1) (hi := none) (a := 1) (b := vs.length + 1) (bounds_one _)]
  show ((vs).take (vs.length + 1 - 1)).toArray = _
  rw [Nat.add_sub_cancel, List.take_length]
section
variable {w : World} {A : Around} {E : Value → Shared → Prop} {s : Shared} {x dx : Addr} {v0 : Value} {vs : List Value} {c : Nat} {g : Heap} {L : Addr} {m : Str → Option Value} {led : List (Addr × Obj)}
/-- x[1:] of the ring -/
theorem ring_from {value slice : Expr} {ti : Tok} {ops : List Value} {Q : Value → Shared → Prop} (F : Fr g L s.heap m) (X : (mkK.heap_1 w.params).In g) (N : News g L s.heap led) (hx : (x, accO dx (v0 :: vs) c) ∈ led) (hz : vs.length < 1000)
    (hs : subscripted slice false (.ref x) (.ref s.heap.objs.size) = operate ops (getItem (.ref x) (.ref s.heap.objs.size))) (ht : ∀ r, letTemporaryGo value (.ref x) r = pure ())
    (q : ∀ P h', Fr g L h' m → News g L h' ((P, lstO vs 0) :: led) → (∀ p ∈ led, p.1 < P) → Q (.ref P) { s with heap := h' }) :
    wpAny (model PySem.Challenge.rw_xp0011_01.row.prog w) A (subscriptTail value slice (.ref x) (.ref s.heap.objs.size)) Q E { s with heap := s.heap.push (sliceO (.int 1 ti) .none .none) } := by
  have Fp := F.push (sliceO (.int 1 ti) .none .none)
  have N1 := N.push F (sliceO (.int 1 ti) .none .none)
  have X1 := X.keeps Fp.keep
  have hx1 := (N1 _ (.tail _ hx)).1
  refine ring_tail X1 hx1 ?_ hs ht
  refine acc_getSl X1 hx1 (by kernel_rfl) (by kernel_rfl) (by kernel_rfl) (Heap.IsSliceOf.new _ _ _ _) (Nat.le_trans (show vs.length + 1 ≤ 1000 from hz) (by decide +kernel)) (.int _ _) .none .none (fun h => nomatch h) ?_
  have N2 := N1.push Fp (lstO vs 0)
  have F2 := Fp.push (lstO vs 0)
  rw [pick_one]
  exact q _ _ F2 (news_sub N2 fun p hp => (List.mem_cons.mp hp).elim (fun h => by rw [h]; exact List.mem_cons_self) fun h => .tail _ (.tail _ h)) fun p hp => Nat.lt_of_lt_of_le (Heap.lt_size (N p hp).1) (by rw [Heap.size_push]; exact Nat.le_succ _)
/-- x[1:] = [] of the ring -/
theorem ring_cut {ti : Tok} {y : Addr} {n' : Nat} {Q : Unit → Shared → Prop} (F : Fr g L s.heap m) (X : (mkK.heap_1 w.params).In g) (N : News g L s.heap ((x, accO dx (v0 :: vs) c) :: led)) (hy : (y, listOf #[] n') ∈ led) (hl : ∀ p ∈ led, p.1 ≠ x) (hz : vs.length < 1000)
    (q : ∀ h' c', Fr g L h' m → News g L h' ((x, accO dx [v0] c') :: led) → Q () { s with heap := h' }) :
    wpAny (model PySem.Challenge.rw_xp0011_01.row.prog w) A (setItem (.ref x) (.ref s.heap.objs.size) (.ref y)) Q E { s with heap := s.heap.push (sliceO (.int 1 ti) .none .none) } := by
  have Fp := F.push (sliceO (.int 1 ti) .none .none)
  have N1 := N.push F (sliceO (.int 1 ti) .none .none)
  have X1 := X.keeps Fp.keep
  have hx1 := (N1 _ (.tail _ List.mem_cons_self)).1
  refine acc_setSl (a := 1) X1 hx1 (by kernel_rfl) (by kernel_rfl) (by kernel_rfl) (Heap.IsSliceOf.new _ _ _ _) (N1 _ (.tail _ (.tail _ hy))).1 (Nat.le_trans (show vs.length + 1 ≤ 1000 from hz) (by decide +kernel)) (.int _ _) (hl _ hy).symm (bounds_one _) (Nat.succ_le_succ (Nat.zero_le _)) ?_
  obtain ⟨c2, e2⟩ := acc_map (dx := dx) (vs := v0 :: vs) (ys := [v0]) (c := c) (f := fun xs => xs.extract 0 1 ++ #[] ++ xs.extract (v0 :: vs).length xs.size) (by simp)
  obtain ⟨F6, N6⟩ := upd_head Fp (news_sub N1 fun p hp => List.mem_cons_of_mem _ hp) hl e2 rfl
  exact q _ _ F6 N6
end
section
local macro_rules | `(tactic| walk_at "subscriptTail") => `(tactic| (refine Halt.out ?_))
local macro_rules | `(tactic| walk_at "setItem ref ref") => `(tactic| (refine Halt.out ?_))
theorem popfrom_gets (w : World) (x dx : Addr) (v0 : Value) (vs : List Value) (c : Nat) (hs : Int) (t u : Tok) (k : Nat) (led : List (Addr × Obj)) (ti : Tok) (hx : ∀ p ∈ led, p.1 ≠ x) (hd0 : dx ≠ x) (hz : vs.length < 1000) :
    Gets w 74 31 303 [.ref x, .int 1 ti] ((x, accO dx (v0 :: vs) c) :: (dx, iniD hs t u k) :: led) (fun v led' => ∃ P k1 k2, v = .ref P ∧ led' = (x, accO dx [v0] k1) :: (dx, iniD hs t u k) :: (P, lstO vs k2) :: led ∧ x < P ∧ ∀ p ∈ led, p.1 < P) := by
  have fk : mkK.heap_1 = mkK.heap_1 ∧ PySem.Challenge.rw_xp0011_01 = PySem.Challenge.rw_xp0011_01 := by
    k_fill
    exact ⟨rfl, rfl⟩
  k_dflt (refine' runs_gets (dn := 30) (un' := 300) (binds := [(Str.ofString "self", .ref x), (Str.ofString "i", .int 1 ti)]) ?r ?ho ?hcd ?hb ?hl ?hc ?h1 ?h2 ?h3; (case ho => k_is); (case hcd => k_is); (case hl => exact locs rfl); (case hc => decide); (case h1 => rfl); (case h2 => rfl); (case h3 => rfl); (case hb => intro s9 X9; exact binds_K X9 rfl (by k_is) rfl rfl rfl))
  intro p loose mean mg mb dp un outer A₀ base g L s Q E X B F N T G lt hd hu ret
  refine wpAt_of_wpAny ?_
  k_steps
  refine Halt.go ?_
  refine ring_from F X N List.mem_cons_self hz (by rfl) (fun r => by rfl) ?_
  intro P h2 F2 N2 l2
  dsimp only
  k_steps
  rename_i tk l3 h3 F3 N3 l3'
  dsimp only
  have N4 : News g L h3 ((x, accO dx (v0 :: vs) c) :: (l3, W.listOf #[] 0) :: (P, lstO vs 0) :: (dx, iniD hs t u k) :: led) := news_sub N3 fun p hp => of3 hp
  have off : ∀ p ∈ (l3, W.listOf #[] 0) :: (P, lstO vs 0) :: (dx, iniD hs t u k) :: led, p.1 ≠ x := by
    intro p hp
    rcases List.mem_cons.mp hp with rfl | hp
    · exact Nat.ne_of_gt l3'.2.1
    rcases List.mem_cons.mp hp with rfl | hp
    · exact Nat.ne_of_gt (l2 _ List.mem_cons_self)
    rcases List.mem_cons.mp hp with rfl | hp
    · exact hd0
    · exact hx p hp
  refine Halt.go ?_
  refine ring_cut (s := { s with heap := h3, toks := tk }) F3 X N4 List.mem_cons_self off hz ?_
  intro h4 c4 F4 N4
  dsimp only
  k_steps
  have N5 : News g L h4 ((x, accO dx [v0] c4) :: (dx, iniD hs t u k) :: (P, lstO vs 0) :: led) := news_sub N4 fun p hp => by
    simp only [List.mem_cons] at hp ⊢
    rcases hp with h | h | h | h <;> simp [h]
  exact ret (.ret (.ref P)) _ _ _ _ rfl ⟨P, c4, 0, rfl, rfl, l2 _ List.mem_cons_self, fun p hp => l2 p (.tail _ (.tail _ hp))⟩ F4 N5 G rfl
end
end Mine
end

section
open PySem PySem.W PyProof.Rows PySem.Calls
set_option Elab.async false
set_option maxRecDepth 100000
set_option maxHeartbeats 2000000
set_option linter.unusedVariables false
namespace Mine
theorem bounds_all (n : Nat) : sliceBounds none none none n = (((0 : Nat) : Int), ((n : Nat) : Int), 1) := rfl
section
variable {w : World} {A : Around} {E : Value → Shared → Prop} {s : Shared} {x dx : Addr} {vs ws : List Value} {c : Nat} {g : Heap} {L : Addr} {m : Str → Option Value} {led : List (Addr × Obj)}
/-- x[:] = y of the ring -/
theorem ring_all {y : Addr} {n' : Nat} {Q : Unit → Shared → Prop} (F : Fr g L s.heap m) (X : (mkK.heap_1 w.params).In g) (N : News g L s.heap ((x, accO dx vs c) :: led)) (hy : (y, lstO ws n') ∈ led) (hl : ∀ p ∈ led, p.1 ≠ x) (hz : vs.length + ws.length ≤ 1000)
    (q : ∀ h' c', Fr g L h' m → News g L h' ((x, accO dx ws c') :: led) → Q () { s with heap := h' }) :
    wpAny (model PySem.Challenge.rw_xp0011_01.row.prog w) A (setItem (.ref x) (.ref s.heap.objs.size) (.ref y)) Q E { s with heap := s.heap.push (sliceO .none .none .none) } := by
  have Fp := F.push (sliceO .none .none .none)
  have N1 := N.push F (sliceO .none .none .none)
  have X1 := X.keeps Fp.keep
  have hx1 := (N1 _ (.tail _ List.mem_cons_self)).1
  refine acc_setSl (a := 0) (its := ws.toArray) X1 hx1 (by kernel_rfl) (by kernel_rfl) (by kernel_rfl) (Heap.IsSliceOf.new _ _ _ _) (N1 _ (.tail _ (.tail _ hy))).1 (Nat.le_trans hz (by decide +kernel)) .none (hl _ hy).symm (bounds_all _) (Nat.zero_le _) ?_
  obtain ⟨c2, e2⟩ := acc_map (dx := dx) (vs := vs) (ys := ws) (c := c) (f := fun xs => xs.extract 0 0 ++ ws.toArray ++ xs.extract vs.length xs.size) (by simp)
  obtain ⟨F6, N6⟩ := upd_head Fp (news_sub N1 fun p hp => List.mem_cons_of_mem _ hp) hl e2 rfl
  exact q _ _ F6 N6
end
section
local macro_rules | `(tactic| walk_at "setAttr ref") => `(tactic| (refine Halt.out ?_))
local macro_rules | `(tactic| walk_at "setItem ref ref") => `(tactic| (refine Halt.out ?_))
theorem reset_gets (w : World) (x dx P : Addr) (vs ws : List Value) (c n' : Nat) (hs : Int) (t u : Tok) (k : Nat) (led : List (Addr × Obj)) (hP : (P, lstO ws n') ∈ led) (hx : ∀ p ∈ led, p.1 ≠ x) (hdl : ∀ p ∈ led, p.1 ≠ dx) (hd0 : dx ≠ x) (hz : vs.length + ws.length ≤ 1000) :
    Gets w 104 31 303 [.ref x, .ref P] ((x, accO dx vs c) :: (dx, iniD hs t u k) :: led) (fun v led' => v = .none ∧ ∃ k1 u2, led' = (x, accO dx ws k1) :: (dx, iniD hs t u2 k) :: led) := by
  have fk : mkK.heap_1 = mkK.heap_1 ∧ PySem.Challenge.rw_xp0011_01 = PySem.Challenge.rw_xp0011_01 := by
    k_fill
    exact ⟨rfl, rfl⟩
  k_dflt (refine' runs_gets (dn := 30) (un' := 300) (binds := [(Str.ofString "self", .ref x), (Str.ofString "startval", .ref P)]) ?r ?ho ?hcd ?hb ?hl ?hc ?h1 ?h2 ?h3; (case ho => k_is); (case hcd => k_is); (case hl => exact locs rfl); (case hc => decide); (case h1 => rfl); (case h2 => rfl); (case h3 => rfl); (case hb => intro s9 X9; exact binds_K X9 rfl (by k_is) rfl rfl rfl))
  intro p loose mean mg mb dp un outer A₀ base g L s Q E X B F N T G lt hd hu ret
  refine wpAt_of_wpAny ?_
  k_steps
  refine Halt.go ?_
  have off : ∀ p ∈ (dx, iniD hs t u k) :: led, p.1 ≠ x := by
    intro p hp
    rcases List.mem_cons.mp hp with rfl | hp
    · exact hd0
    · exact hx p hp
  refine ring_all F X N (.tail _ hP) off hz ?_
  intro h2 c2 F2 N2
  dsimp only
  k_steps
  refine Halt.go ?_
  have N2 : News g L h2 ([(x, accO dx ws c2)] ++ (dx, iniD hs t u k) :: led) := N2
  k_dflt (refine acc_set (c := c2) (vs := ws) (dx := dx) (od' := iniD hs t _ k) F2 N2 (X.keeps F2.keep) (N2 (x, accO dx ws c2) (by simp)).1 (by k_is) (by kernel_rfl) (by kernel_rfl) (by k_is) (by k_is) (by rfl) ?_ ?_ (by rfl) (by rfl) (Nat.le_of_ble_eq_true rfl) ?_)
  · intro p hp
    rw [List.mem_singleton.mp hp]
    exact hd0.symm
  · exact hdl
  intro h3 F3 N3
  exact wpAny_execs_nil (ret .next .none _ _ _ rfl ⟨rfl, _, _, rfl⟩ F3 N3 G rfl)
end
end Mine
end

section
open PySem PySem.W PyProof.Rows PySem.Calls
set_option Elab.async false
set_option maxRecDepth 100000
set_option maxHeartbeats 2000000
set_option linter.unusedVariables false
namespace Mine
section
variable {w : World} {A : Around} {E : Value → Shared → Prop} {s : Shared} {x dx : Addr} {vs : List Value} {c : Nat}
theorem m_iter (l : Addr) :
    Meets (Builtin.«list.__iter__» ⟨[.ref l], []⟩)
      (fun _ R s => R (.ok (.ret (.ref s.heap.objs.size))) { s with heap := s.heap.push { cls := .type "list_iterator", data := .fields #[.ref l, .int 0 0] } }) :=
  .of_wp fun prog w A R s h => by
    show wpAny _ _ (do ret (← newFields "list_iterator" [.ref l, rawInt 0])) _ _ s
    exact wpAny_bind (wpAny_newObj_type (wpAny_pure ⟨_, rfl, h⟩))
theorem ring_special? {Q : Option Value → Shared → Prop} {name : Str} {id : String} {refuse : Sem Value} (X : (mkK.heap_1 w.params).In s.heap) (hx : s.heap.get? x = some (accO dx vs c)) (hf : findIn (mkK.heap_1 w.params) (.ref 122) name = some (some (.builtin id)))
    (hb : ∀ self, bindSpecial (.builtin id) self = pure (.builtin id, [self]))
    (hc : wpAny (model PySem.Challenge.rw_xp0011_01.row.prog w) A (call (.builtin id) [.ref x]) (fun v => Q (some v)) E s) : wpAny (model PySem.Challenge.rw_xp0011_01.row.prog w) A (callSpecialIfBoundUnlessNone? (.ref x) name refuse) Q E s := by
  have L0 := acc_type (M := model PySem.Challenge.rw_xp0011_01.row.prog w) hx
  simp only [callSpecialIfBoundUnlessNone?, bindSpecialIfBound?]
  unfold specialOf
  refine wpAny_holding (wpAny_bind (wpAny_bind (wpAny_bind (L0.here ((looks_findIn X hf).here ?_)))))
  simp only [hb]
  refine wpAny_bind (wpAny_askSetting (wpAny_ite ?_))
  have fin : wpAny (model PySem.Challenge.rw_xp0011_01.row.prog w) A (if (Value.builtin id == Value.none) = true then (refuse >>= fun v => pure (some v)) else (call (.builtin id) [.ref x] >>= fun v => pure (some v))) Q E s := by
    simp only [builtin_beq_none, Bool.false_eq_true, if_false]
    exact wpAny_bind (wpAny_mono hc (fun v s' h' => wpAny_pure h') fun _ _ h' => h')
  split
  · exact wpAny_bind (wpAny_pure (wpAny_pure fin))
  · exact wpAny_tryCatch (wpAny_bind (wpAny_pure (wpAny_pure fin)))
theorem ring_iter {Q : Value → Shared → Prop} (X : (mkK.heap_1 w.params).In s.heap) (hx : s.heap.get? x = some (accO dx vs c))
    (q : Q (.ref s.heap.objs.size) { s with heap := s.heap.push { cls := .type "list_iterator", data := .fields #[.ref x, .int 0 0] } }) :
    wpAny (model PySem.Challenge.rw_xp0011_01.row.prog w) A (pyIter (.ref x)) Q E s := by
  have L0 := acc_type (M := model PySem.Challenge.rw_xp0011_01.row.prog w) hx
  have hf : findIn (mkK.heap_1 w.params) (.ref 122) "__iter__" = some (some (.builtin "list.__iter__")) := by kernel_rfl
  unfold pyIter
  refine wpAny_bind (m := specialOf (.ref x) "__iter__") ?_
  unfold specialOf
  refine wpAny_bind (L0.here ((looks_findIn X hf).here ?_))
  show wpAny _ _ (callSpecialIfBoundUnlessNone? (.ref x) "__iter__" _ >>= _) _ _ _
  refine wpAny_bind (ring_special? X hx hf PySem.slot_list_iter.bind ?_)
  refine acc_meets X hx (by kernel_rfl) (n := "__iter__") (by decide +kernel) (.inl (by decide +kernel)) PySem.slot_list_iter.plain PySem.entry_list_iter (PySem.args_list_iter _) (m_iter x) ?_
  have hT : ({ s with heap := s.heap.push { cls := .type "list_iterator", data := .fields #[.ref x, .int 0 0] } } : Shared).TypeIs (.ref s.heap.objs.size) "list_iterator" := ⟨_, Heap.get?_push_size _ rfl, rfl⟩
  show wpAny _ _ (specialOf _ _ >>= _) _ _ _
  exact wpAny_bind (wpAny_specialOf hT PySem.slot_listiter_next.lookup (wpAny_pure q))
theorem ring_next {prog : Program} {it : Addr} {i : Nat} {y : Value} {Q : Option Value → Shared → Prop} (hit : s.heap.IsListIter it x i) (hx : s.heap.get? x = some (accO dx vs c)) (hy : vs[i]? = some y)
    (hQ : ∀ h', h'.IsListIter it x (i + 1) → Heap.SameBut it s.heap h' → Q (some y) { s with heap := h' }) : wpAny (model prog w) A (pyNext (.ref it)) Q E s := by
  obtain ⟨o, ho, hc, hd⟩ := id hit
  unfold pyNext
  refine wpAny_bind (wpAny_attempt (wpAny_callSpecial?_slot (name := Str.ofString "__next__") hit.typeIs PySem.slot_listiter_next (wpAny_call_entry PySem.slot_listiter_next hit.typeIs PySem.entry_listiter_next ?_ (PySem.args_listiter_next _))))
  show wpAny _ _ (field (.ref it) 0 >>= _) _ _ s
  refine wpAny_bind (wpAny_field ho hd (x := .ref x) rfl ?_)
  show wpAny _ _ (if (Value.ref x == Value.none) = true then _ else _) _ _ s
  rw [if_neg (show ¬ ((Value.ref x == Value.none) = true) from Bool.false_ne_true)]
  show wpAny _ _ (field (.ref it) 1 >>= _) _ _ s
  refine wpAny_bind (wpAny_field ho hd (x := .int i 0) rfl ?_)
  show wpAny _ _ (seqItems? (.ref x) >>= _) _ _ s
  refine wpAny_bind (wpAny_seqItems hx rfl ?_)
  simp only [Int.toNat_natCast, List.getElem?_toArray, hy]
  refine wpAny_bind (wpAny_setField ho hd (by simp) (wpAny_pure ⟨y, rfl, wpAny_pure (hQ _ ?_ (Heap.SameBut.update ..))⟩))
  exact ⟨_, Heap.get?_update_self _ ho (Obj.isFreed_of_fields (Obj.data_mapFields hd _)), (Obj.cls_mapFields ..).trans hc, by rw [Obj.data_mapFields hd]; simp [rawInt]⟩
theorem ring_end {prog : Program} {it : Addr} {i : Nat} {Q : Option Value → Shared → Prop} (hh : A.handled = none) (hit : s.heap.IsListIter it x i) (hx : s.heap.get? x = some (accO dx vs c)) (hy : vs[i]? = none)
    (hQ : ∀ h', Heap.ExtBut it s.heap h' → Q none { s with heap := h' }) : wpAny (model prog w) A (pyNext (.ref it)) Q E s := by
  obtain ⟨o, ho, hc, hd⟩ := id hit
  unfold pyNext
  refine wpAny_bind (wpAny_attempt (wpAny_callSpecial?_slot (name := Str.ofString "__next__") hit.typeIs PySem.slot_listiter_next (wpAny_call_entry PySem.slot_listiter_next hit.typeIs PySem.entry_listiter_next ?_ (PySem.args_listiter_next _))))
  show wpAny _ _ (field (.ref it) 0 >>= _) _ _ s
  refine wpAny_bind (wpAny_field ho hd (x := .ref x) rfl ?_)
  show wpAny _ _ (if (Value.ref x == Value.none) = true then _ else _) _ _ s
  rw [if_neg (show ¬ ((Value.ref x == Value.none) = true) from Bool.false_ne_true)]
  show wpAny _ _ (field (.ref it) 1 >>= _) _ _ s
  refine wpAny_bind (wpAny_field ho hd (x := .int i 0) rfl ?_)
  show wpAny _ _ (seqItems? (.ref x) >>= _) _ _ s
  refine wpAny_bind (wpAny_seqItems hx rfl ?_)
  simp only [Int.toNat_natCast, List.getElem?_toArray, hy]
  refine wpAny_bind (wpAny_rule (wpAny_bind (wpAny_setField ho hd (by simp) ?_)))
  show wpAny _ _ (newExc (.type "StopIteration") [] >>= _) _ _ _
  refine wpAny_bind ?_
  simp only [newExc, newTuple]
  refine wpAny_bind (wpAny_newObj_type ?_ (by size_fits))
  refine wpAny_bind (m := firstArgMember _ _) (wpAny_of_eq (a := Value.none) (by first | rfl | (simp only [firstArgMember]; rfl)) ?_)
  refine wpAny_newObj_type ?_ (by size_fits)
  simp only [raiseNew]
  refine wpAny_bind (wpAny_handled ?_)
  rw [show A.in1.handled = none from hh]
  refine wpAny_bind (wpAny_pure (wpAny_throw ?_))
  refine wpAny_bind (wpAny_isInstance (T := "StopIteration") (b := true) ⟨_, Heap.get?_push_size _ rfl, rfl⟩ isSubtype_stop ?_)
  exact wpAny_pure (hQ _ (((Heap.SameBut.update ..).extBut.push _).push _))
/-- the pieces of the ring, one by one -/
theorem ring_walks {prog : Program} (hh : A.handled = none) (I x dx : Addr) (hne : x ≠ I) (vs : List Value) (c : Nat) (Ts : Nat → Addr) (vals : Nat → Array Value) (hit : ∀ j, j < vs.length → vs[j]? = some (.ref (Ts j))) (hTI : ∀ j, j < vs.length → Ts j ≠ I) :
    WalksU prog w A I (I :: x :: (List.range vs.length).map Ts) [I] vs.length (fun j v => v = vals j)
      (fun j h => h.IsListIter I x j ∧ h.get? x = some (accO dx vs c) ∧ ∀ k, k < vs.length → h.IsTuple (Ts k) (vals k))
      (fun j T h => (j < vs.length ∧ T = Ts j) ∧ h.IsListIter I x (j + 1) ∧ h.get? x = some (accO dx vs c) ∧ ∀ k, k < vs.length → h.IsTuple (Ts k) (vals k)) where
  sub := fun b hb => by simp at hb; simp [hb]
  frame := fun _ _ _ st hk => ⟨st.1.at fun o e => hk I (by simp) o e, hk x (by simp) _ st.2.1,
    fun k hk' => (st.2.2 k hk').at fun o e => hk (Ts k) (List.mem_cons_of_mem _ (List.mem_cons_of_mem _ (List.mem_map.mpr ⟨k, List.mem_range.mpr hk', rfl⟩))) o e⟩
  item := fun i s Q E hi st hQ => by
    refine ring_next st.1 st.2.1 (hit i hi) fun h' hit' hs' => ?_
    have tup : ∀ k, k < vs.length → h'.IsTuple (Ts k) (vals k) := fun k hk' => (st.2.2 k hk').extBut hs'.extBut (hTI k hk')
    exact hQ (Ts i) (vals i) h' s.toks rfl (tup i hi) ⟨⟨hi, rfl⟩, hit', hs'.extBut _ _ hne st.2.1, tup⟩ fun b o hb e => hs'.extBut b o (fun h => hb (by simp [h])) e
  go := fun _ _ _ _ _ s Q _ hm hQ => wpAny_letOwnedTupleGo_listiter hm.2.1 (hQ s.heap hm.2 fun _ _ _ e => e)
  apart := fun j T _ hm hmem => by
    rcases List.mem_cons.mp hmem with e | e
    · exact hTI j hm.1.1 (hm.1.2 ▸ e)
    · cases e
  done := fun s Q E st hQ => ring_end hh st.1 st.2.1 (List.getElem?_eq_none (Nat.le_refl _)) fun h' he' => hQ h' s.toks fun b o hb e => he' b o (fun h => hb (by simp [h])) e
  self := fun _ _ _ _ st hQ => wpAny_pyIter_listiter st.1 hQ
end
end Mine
end

section
open PySem PySem.W PyProof.Rows PySem.Calls
set_option Elab.async false
set_option maxRecDepth 100000
set_option maxHeartbeats 2000000
set_option linter.unusedVariables false
namespace Mine
/-- the code table of a method with one generator: empty, or the one code -/
def TabG (line col : Nat) (q : Obj) : Prop := q = tabObj #[] ∨ ∃ c', q = tabObj #[rawInt line, rawInt col, .ref c']
section
variable {M : Model} {A : Around} {E : Value → Shared → Prop} {s : Shared} {h₀ : Heap} {L c P : Addr} {m : Str → Option Value} {env : Env} {pos : Pos} {qual : Str} {scope : Scope} {q : Obj} {rest : List (Addr × Obj)}
theorem gen_code {Q : Value → Shared → Prop} (F : Fr h₀ L s.heap m) (N : News h₀ L s.heap ((P, q) :: rest)) (C : CodeHd h₀ c P) (hc : env.code = .ref c) (o2 : ∀ p ∈ rest, p.1 ≠ P) (tb : TabG pos.line pos.col q)
    (h : ∀ code h' tk q', Fr h₀ L h' m → News h₀ L h' ((P, q') :: rest) → TabG pos.line pos.col q' → (∀ b o, b ≠ P → s.heap.get? b = some o → h'.get? b = some o) → s.heap.objs.size ≤ h'.objs.size → Q code { s with heap := h', toks := tk }) :
    wpAny M A (genexprCode env pos qual scope) Q E s := by
  have hP := (N _ List.mem_cons_self)
  have C' := C.keeps F.keep
  rcases tb with rfl | ⟨c', rfl⟩
  · refine wpAny_genexprCodeX hc (C'.code hP.1 (by simp [TriplesOk])) (C'.tab hP.1) (by rfl) fun c' h' tk hx hge hlt _ _ htb _ => ?_
    refine h _ _ _ _ ?_ ?_ (.inr ⟨c', rfl⟩) (fun b o hb e => hx b o hb e) (Nat.le_trans hge (Nat.le_of_lt hlt))
    · exact ⟨F.ns.extBut hx (fun e => hP.2.1 e.symm), fun b o e => hx b o (fun q => by rw [q, hP.2.2] at e; cases e) (F.keep b o e), F.above⟩
    · intro p hp
      rcases List.mem_cons.mp hp with rfl | hp
      · exact ⟨htb.2, hP.2⟩
      · exact ⟨hx _ _ (o2 p hp) (N p (.tail _ hp)).1, (N p (.tail _ hp)).2⟩
  · refine wpAny_genexprCode_hit hc (C'.code hP.1 (by simp [TriplesOk, rawInt])) (c' := .ref c') (by simp [codeAmong, rawInt]) ?_
    exact h _ s.heap s.toks _ F N (.inr ⟨c', rfl⟩) (fun _ _ _ e => e) (Nat.le_refl _)
end
theorem passing_all (n : Nat) : passing (fun _ => true) n 0 = List.range n := by
  unfold passing
  rw [List.drop_zero, List.filter_eq_self.mpr (fun _ _ => rfl)]
section
variable {w : World} {A : Around} {E : Value → Shared → Prop} {s : Shared} {g : Heap} {L cda P x dx f : Addr} {m mg mb : Str → Option Value} {p : Program} {loose : List Str} {mean : ExcName → Option Value} {vs : List Value} {c : Nat} {q : Obj} {rest : List (Addr × Obj)}
/-- a generator over the ring's pieces -/
theorem gen_ring {elt : Expr} {xa xb fq : Str} {pa pb pt ps pos : Pos} {kt : Nat} {fs scope : Scope} {Ts : Nat → Addr} {va vb : Nat → Value} {kk : Nat → Nat} {Fv : Nat → Value → Prop} {Q : Value → Shared → Prop}
    (F : Fr g L s.heap m) (N : News g L s.heap ((P, q) :: (x, accO dx vs c) :: rest)) (X : (mkK.heap_1 w.params).In g) (T : Top p loose mean mg mb g) (C : CodeHd g cda P) (oP : ∀ p ∈ (x, accO dx vs c) :: rest, p.1 ≠ P) (tb : TabG pos.line pos.col q) (G : AllBare s.gens) (hh : A.handled = none)
    (hit : ∀ j, j < vs.length → vs[j]? = some (.ref (Ts j))) (htup : ∀ j, j < vs.length → (Ts j, tupO [va j, vb j] (kk j)) ∈ rest) (hself : m "self" = some (.ref x)) (hfk : fs.kind = .function) (hfs : fs.names.lookup ("self" : Str) = some .local)
    (hco : scope.isCoroutine = false) (hclos : closureFor scope (envX fq fs L f (.ref cda) []) = pure []) (hcell : ∀ y ∈ scope.names, y.2 ≠ .cell) (h0 : scope.names.lookup (".0" : Str) = some NameKind.local)
    (hxa : scope.names.lookup xa = some .local) (hxb : scope.names.lookup xb = some .local) (hab : xa ≠ xb) (hkind : scope.kind = .function) (hroom : A.depth < recursionLimit)
    (helt : ∀ (Cn : Addr) (code : Value) (A' : Around) E' (i : Nat) (t : Shared) m₂, A'.handled = none → A'.depth ≤ A.depth + 1 → A'.units ≤ A.units + 8 → i < vs.length → Fr g Cn t.heap m₂ → m₂ xa = some (va i) → m₂ xb = some (vb i) →
      wpAny (model PySem.Challenge.rw_xp0011_01.row.prog w) A' (eval elt (genEnv scope [] Cn code builtinsNs (envX fq fs L f (.ref cda) []))) (fun y s₃ => Fv i y ∧ Keeps t s₃) E' t)
    (hQ : ∀ a s' q' Kb, Fr g L s'.heap m → News g L s'.heap ((P, q') :: (x, accO dx vs c) :: rest) → TabG pos.line pos.col q' → AllBare s'.gens → s'.os = s.os → L ≤ Kb → (∀ p ∈ (P, q') :: (x, accO dx vs c) :: rest, p.1 ≤ Kb) →
      Gen PySem.Challenge.rw_xp0011_01.row.prog w A Kb a vs.length (fun j y => ∃ i, (List.range vs.length)[j]? = some i ∧ Fv i y) s' → Q (.ref a) s') :
    wpAny (model PySem.Challenge.rw_xp0011_01.row.prog w) A (eval (.GeneratorExp elt [⟨.Tuple [.Name xa pa, .Name xb pb] kt pt, .Name "self" ps, [], 0⟩] scope pos) (envX fq fs L f (.ref cda) [])) Q E s := by
  have X1 := X.keeps F.keep
  have hx := (N _ (.tail _ List.mem_cons_self)).1
  refine wpAny_GeneratorExp_walksQTD hh hco hclos hcell h0 hxa hxb hab hkind hroom ?_ (fun _ => rfl)
  refine ld (name := fq) (scope := fs) F hself ?_ hfk ?_
  · refine ring_iter X1 hx ?_
    refine ⟨(T.nolimit.keeps F.keep).push _, ?_⟩
    have hsz0 : ∀ p ∈ (P, q) :: (x, accO dx vs c) :: rest, p.1 < s.heap.objs.size := fun p hp => Heap.lt_size (N p hp).1
    have hL := F.ns.lt
    have N1 : News g L (s.heap.push { cls := .type "list_iterator", data := .fields #[.ref x, .int 0 0] }) ((P, q) :: (x, accO dx vs c) :: rest) := fun p hp => ⟨Heap.get?_push_of_some _ (N p hp).1, (N p hp).2⟩
    refine gen_code (F.push _) N1 C rfl oP tb fun code h2 tk2 q2 F2 N2 tb2 hk2 hsz2 => ?_
    rw [Heap.size_push] at hsz2
    obtain ⟨bm, ob, b1, b2, b3, b4, b5, b6⟩ := T.bmain
    refine wpAny_builtinsFor (T.g.keeps F2.keep) b1 b2 (F2.keep _ _ b3) b4 b5 b6 ?_
    have hIP : s.heap.objs.size ≠ P := fun e => Nat.lt_irrefl _ (e ▸ hsz0 _ List.mem_cons_self)
    have hlt : ∀ j, j < vs.length → Ts j < s.heap.objs.size := fun j hj => hsz0 _ (.tail _ (.tail _ (htup j hj)))
    have hxI : x < s.heap.objs.size := hsz0 _ (.tail _ List.mem_cons_self)
    have hgI : ∀ b o, g.get? b = some o → b ≠ s.heap.objs.size := fun b o e z => by
      exact Nat.lt_irrefl _ (z ▸ Nat.lt_of_lt_of_le (Heap.lt_size e) (Nat.le_trans F.above (Nat.le_of_lt hL)))
    have hnl : h2.NoLimit := T.nolimit.keeps F2.keep
    have hcs : ∃ o, g.get? cStatics = some o := by
      obtain ⟨_, ⟨o, _, _, e, _⟩, _⟩ := T.nolimit
      exact ⟨o, e⟩
    refine ⟨s.heap.objs.size, _, [s.heap.objs.size], vs.length, _, _, _, fun _ => true, Fv, rfl, fun A' hA' => (ring_walks hA' s.heap.objs.size x dx (Nat.ne_of_lt hxI) vs c Ts (fun j => #[va j, vb j]) hit fun j hj => Nat.ne_of_lt (hlt j hj)).bound, ?_, ⟨?_, ?_, ?_⟩, ?_, hnl, ?_, ?_, ?_⟩
    · rintro i vals ⟨_, rfl⟩
      exact ⟨_, _, rfl⟩
    · exact ⟨_, hk2 _ _ hIP (Heap.get?_push_size _ rfl), rfl, rfl⟩
    · exact (N2 _ (.tail _ List.mem_cons_self)).1
    · exact fun k hk => ⟨_, (N2 _ (.tail _ (.tail _ (htup k hk)))).1, rfl, _, rfl⟩
    · intro b hb
      rcases List.mem_cons.mp hb with rfl | hb
      · exact hsz2
      rcases List.mem_cons.mp hb with rfl | hb
      · exact Nat.lt_trans hxI hsz2
      · obtain ⟨j, hj, rfl⟩ := List.mem_map.mp hb
        exact Nat.lt_trans (hlt j (List.mem_range.mp hj)) hsz2
    · obtain ⟨o, e⟩ := hcs
      exact fun hm => hgI _ _ e (List.mem_singleton.mp hm)
    · intro href hhref
      refine ⟨fun A' E' i va' vb' t m₂ _ _ _ _ _ _ _ _ => wpAny_pure ⟨rfl, t.heap, t.toks, rfl, fun _ _ e => e⟩, ?_⟩
      intro A' E' i va' vb' t m₂ hA hD hU hP _ hn hma hmb hkp
      obtain ⟨hi, e⟩ := hP
      obtain ⟨rfl, rfl⟩ : va' = va i ∧ vb' = vb i := by simpa using e
      refine helt _ _ A' E' i t m₂ hA hD hU hi ⟨hn, fun b o e => ?_, ?_⟩ hma hmb
      · exact hkp b (List.mem_range.mpr (Heap.lt_size (F2.keep b o e))) (fun hm => hgI _ _ e (List.mem_singleton.mp hm)) o (hhref b o (F2.keep b o e))
      · exact Nat.le_trans F2.above (Nat.le_of_lt F2.ns.lt)
    · intro a h5 tk5 gs hgb hag hsz5 hk5 W hat
      rw [passing_all, List.length_range] at W
      refine hQ a _ q2 (s.heap.objs.size - 1) (F2.keeps hk5) (fun p hp => ⟨hk5 _ _ (N2 p hp).1, (N2 p hp).2⟩) tb2 (G.push hgb) rfl (Nat.le_sub_one_of_lt hL) (fun p hp => ?_) ⟨_, _, _, _, W, hat, (fun i s' st => st.1.typeIs), List.mem_cons_self, ?_, ?_⟩
      · rcases List.mem_cons.mp hp with rfl | hp
        · exact Nat.le_sub_one_of_lt (hsz0 (P, q) List.mem_cons_self)
        · exact Nat.le_sub_one_of_lt (hsz0 p (.tail _ hp))
      · intro b hb
        show b < h5.objs.size
        rw [hsz5]
        rcases List.mem_cons.mp hb with rfl | hb
        · exact Nat.lt_succ_self _
        · rcases List.mem_cons.mp hb with rfl | hb
          · exact Nat.lt_succ_of_lt hag
          · exact Nat.lt_succ_of_lt (Nat.lt_trans (List.mem_range.mp hb) hag)
      · intro b hb
        rcases List.mem_cons.mp hb with rfl | hb
        · exact Nat.lt_of_le_of_lt (Nat.sub_le _ _) (Nat.lt_of_succ_le hsz2)
        · rw [List.mem_singleton.mp hb]
          exact Nat.sub_lt (Nat.lt_of_le_of_lt (Nat.zero_le _) hL) Nat.one_pos
  · unfold Env.kindOf
    exact hfs
end
end Mine
end

section
open PySem PySem.W PyProof.Rows PySem.Calls
set_option Elab.async false
set_option maxRecDepth 100000
set_option maxHeartbeats 1000000
set_option linter.unusedVariables false
namespace Mine
theorem entry_ring_ga : entryFor table "list.__getattribute__" = some Builtin.«object.__getattribute__» :=
  entryFor_alias (id' := "object.__getattribute__") (by rw [fastTable_eq_tree]; kernel_rfl) (by decide +kernel) (by decide +kernel) (by rw [fastTable_eq_tree]; kernel_rfl)
theorem args_list_ga (a b : Value) : argsOk "list.__getattribute__" ⟨[a, b], []⟩ := by unfold argsOk; kernel_rfl
section
variable {w : World} {A : Around} {E : Value → Shared → Prop} {s : Shared} {x dx : Addr} {vs : List Value} {c : Nat} {od : Obj} {name : Str}
/-- an attribute of the ring, read -/
theorem ring_attr {v : Value} {expr : Bool} {Q : Value → Shared → Prop} (X : (mkK.heap_1 w.params).In s.heap) (hx : s.heap.get? x = some (accO dx vs c)) (hd : s.heap.get? dx = some od) (hf : findObj (mkK.heap_1 w.params) 122 (some od) name = some (.value v)) (hh : handedIn v = true)
    (h : Q v { s with toks := s.toks + 1 }) : wpAny (model PySem.Challenge.rw_xp0011_01.row.prog w) A (getAttr (.ref x) name expr) Q E s := by
  have hm : mroIn (mkK.heap_1 w.params) 122 (.type "list") = some true := by kernel_rfl
  have I := acc_inst hx hd
  have L2 := looks_find (M := model PySem.Challenge.rw_xp0011_01.row.prog w) X I hf
  obtain ⟨hp, g, d, t, os⟩ := s
  have L0 := I.type (M := model PySem.Challenge.rw_xp0011_01.row.prog w)
  have L1 := looks_findIn (M := model PySem.Challenge.rw_xp0011_01.row.prog w) X (ring_ga w).1
  have L3 := looks_findIn (M := model PySem.Challenge.rw_xp0011_01.row.prog w) X (ring_ga w).2
  unfold getAttr getAttrBy
  refine wpAny_bind (wpAny_mkText (wpAny_holding (wpAny_bind (L0.at (wpAny_bind (L1.at ?_))))))
  dsimp only
  rw [if_neg (show ¬ ((onTheHeap (.ref 122) && (Value.builtin "list.__getattribute__" == Value.builtin "object.__getattribute__")) = true) by decide +kernel)]
  unfold getAttrByItsOwn hookBefore callGetattribute boundAndCalled
  rw [if_pos (show onTheHeap (.ref 122) = true from rfl)]
  refine wpAny_bind (L3.at ?_)
  refine wpAny_bind (wpAny_attempt (wpAny_holding ?_))
  rw [show onTheHeap (.builtin "list.__getattribute__") = false from rfl, Bool.and_false, if_neg (by decide)]
  refine wpAny_bind (wpAny_of_eq (PySem.F.slot_list_getattribute.bind _) ?_)
  show wpAny _ _ (call (.builtin "list.__getattribute__") [.ref x, .str name t]) _ _ _
  have hsplit : splitId "list.__getattribute__" = some ("list", "__getattribute__") := by decide +kernel
  have hkind : (Manifest.find? "list").bind (·.attrs.lookup "__getattribute__") = some .slot := by decide +kernel
  refine wpAny_call (codeAny_call_builtin PySem.F.slot_list_getattribute.plain entry_ring_ga ?_)
  have ha := args_list_ga (.ref x) (.str name t)
  refine acc_check (K := mkK.heap_1 w.params) (dx := dx) (vs := vs) (c := c) (n := "__getattribute__") (id := "list.__getattribute__") (rest := [.str name t]) (s := ⟨hp, g, d, t + 1, os⟩) X hx hm hsplit (.inl hkind) ha ?_
  unfold Builtin.«object.__getattribute__»
  refine wpAny_bind (wpAny_pure ?_)
  refine wpAny_bind (wpAny_pure (wpAny_bind (L0.at (wpAny_bind (L2.at ?_)))))
  refine wpAny_pure ?_
  dsimp only
  rw [handedOut_of hh]
  exact wpAny_pure h
end
end Mine
end

section
open PySem PySem.W PyProof.Rows PySem.Calls
set_option Elab.async false
set_option maxRecDepth 100000
set_option maxHeartbeats 1000000
set_option linter.unusedVariables false
namespace Mine
theorem args_sum2 (a b : Value) : argsOk "sum" ⟨[a, b], []⟩ := by unfold argsOk; kernel_rfl
section
variable {prog : Program} {w : World} {A : Around} {E : Value → Shared → Prop} {s : Shared}
/-- sum(x, 0) -/
theorem sum_from0 {x : Value} {u : Tok} {Q : Value → Shared → Prop}
    (h : wpAny (model prog w) A.in1 (pyIter x) (fun it s₂ => ∃ I fp wr G n P St val, it = .ref I ∧ WalksS prog w A.in1 I fp wr G n P St ∧ St 0 s₂ ∧ (∀ b ∈ fp, b < s₂.heap.objs.size) ∧
      (∀ i v, P i v → ∃ t, v = .int (val i) t) ∧
      ∀ s' t', Moved wr G s₂ s' → Q (.int (preSum val n) t') s') E s) :
    wpAny (model prog w) A (call (.builtin "sum") [x, .int 0 u]) Q E s := by
  refine call_function_tree PySem.F.kind_sum PySem.F.plain_sum PySem.F.entry_sum (args_sum2 _ _) ?_
  unfold Builtin.«sum»
  simp only [List.length_cons, List.length_nil]
  rw [if_neg (by decide)]
  refine wpAny_bind (wpAny_of_eq (show Builtin.Builtins.bindParams "sum" ["start"] 0 { pos := [Value.int 0 u] } = pure [some (Value.int 0 u)] from rfl) ?_)
  refine wpAny_bind (wpAny_mono h (fun it s₂ h₂ => ?_) fun _ _ e => e)
  obtain ⟨I, fp, wr, G, n, P, St, val, rfl, W, hst, hfp, hval, hQ⟩ := h₂
  dsimp only
  rw [if_pos (by decide)]
  refine wpAny_bind (wpAny_rule ?_)
  refine wpAny_bind (wpAny_mkInt ?_)
  refine wpAny_bind (wpAny_pure ?_)
  simp only [List.forIn_cons, List.forIn_nil]
  refine wpAny_bind (wpAny_bind (wpAny_bind (wpAny_isInstance (T := "int") (b := false) (typeIs_int _ _ _) PySem.sub_int_str ?_)))
  simp only [Bool.false_eq_true, if_false]
  refine wpAny_pure (wpAny_bind (wpAny_bind (wpAny_isInstance (T := "int") (b := false) (typeIs_int _ _ _) PySem.sub_int_bytes ?_)))
  simp only [Bool.false_eq_true, if_false]
  refine wpAny_pure (wpAny_bind (wpAny_bind (wpAny_isInstance (T := "int") (b := false) (typeIs_int _ _ _) PySem.sub_int_bytearray ?_)))
  simp only [Bool.false_eq_true, if_false]
  refine wpAny_pure (wpAny_pure ?_)
  refine wpAny_bind (wpAny_newObj_type ?_)
  have hSf : s₂.heap.objs.size ∉ fp := fun hm => Nat.lt_irrefl _ (hfp _ hm)
  refine wpAny_pure ⟨plainId_quiet PySem.F.plain_sum_loop _, codeAny_sum_loopAnyS W val hval s₂.heap.objs.size hSf n 0 _ s₂.toks 0 0 (.inl rfl) rfl (Nat.zero_le _)
    (W.frame 0 s₂ _ _ hst (Nat.le_succ _) fun b _ o e => Heap.get?_push_of_some _ e) (Heap.get?_push_size _ rfl) fun s' t' hm => ?_⟩
  exact hQ s' t' (hm.drop_new (Nat.le_succ _))
end
end Mine
end

section
open PySem PySem.W PyProof.Rows PySem.Calls
set_option Elab.async false
set_option maxRecDepth 100000
set_option maxHeartbeats 2000000
set_option linter.unusedVariables false
namespace Mine
/-- the ring's pieces: a tuple for each, an empty text ahead -/
structure Pieces (vs : List Value) (ps : List Str) (led : List (Addr × Obj)) : Prop where
  len : vs.length = ps.length
  item : ∀ (j : Nat) (p : Str), ps[j]? = some p → ∃ (D : Addr) (t1 t2 : Tok) (k : Nat), vs[j]? = some (Value.ref D) ∧ (D, tupO [Value.str (Str.ofString "") t1, Value.str p t2] k) ∈ led
theorem Pieces.fns {vs : List Value} {ps : List Str} {led : List (Addr × Obj)} (h : Pieces vs ps led) : ∃ (Ts : Nat → Addr) (t1 t2 : Nat → Tok) (kk : Nat → Nat), ∀ j, j < vs.length →
    vs[j]? = some (Value.ref (Ts j)) ∧ (Ts j, tupO [.str (Str.ofString "") (t1 j), .str (ps.getD j (Str.ofString "")) (t2 j)] (kk j)) ∈ led := by
  have a : ∀ j, ∃ D t1 t2 k, j < vs.length → vs[j]? = some (Value.ref D) ∧ (D, tupO [.str (Str.ofString "") t1, .str (ps.getD j (Str.ofString "")) t2] k) ∈ led := fun j => by
    by_cases hj : j < vs.length
    · have hj' : j < ps.length := h.len ▸ hj
      obtain ⟨D, t1, t2, k, e1, e2⟩ := h.item j ps[j] (List.getElem?_eq_getElem hj')
      refine ⟨D, t1, t2, k, fun _ => ⟨e1, ?_⟩⟩
      rw [List.getD_eq_getElem?_getD, List.getElem?_eq_getElem hj']
      exact e2
    · exact ⟨0, 0, 0, 0, fun z => absurd z hj⟩
  exact ⟨fun j => (a j).choose, fun j => (a j).choose_spec.choose, fun j => (a j).choose_spec.choose_spec.choose, fun j => (a j).choose_spec.choose_spec.choose_spec.choose, fun j hj => (a j).choose_spec.choose_spec.choose_spec.choose_spec hj⟩
section
variable {M : Model} {A : Around} {E : Value → Shared → Prop} {t : Shared} {K : Frag} {g : Heap} {L Cn f : Addr} {m mg mb : Str → Option Value} {p : Program} {loose : List Str} {mean : ExcName → Option Value} {scope fs : Scope} {code cd : Value} {fq x : Str} {pos : Pos} {v : Value} {Q : Value → Shared → Prop}
theorem gen_B (F : Fr g Cn t.heap m) (X : K.In g) (T : Top p loose mean mg mb g) (e : nsIn K mainGlobals x = some none) (hv : bootBuiltins x = some v) (hn : x ≠ "__name__") (h : Q v t) (hk : scope.kind = .function)
    (hx : (genEnv scope [] Cn code builtinsNs (envX fq fs L f cd [])).kindOf x = some .globalImplicit) (hd : (x == ("__debug__" : Str)) = false) : wpAny M A (eval (.Name x pos) (genEnv scope [] Cn code builtinsNs (envX fq fs L f cd []))) Q E t :=
  Name_function_global hk hx (loadGlobal_builtin (env := genEnv scope [] Cn code builtinsNs (envX fq fs L f cd [])) (T.g.keeps F.keep) (mg_none_of X T.g e) (T.b.keeps F.keep) ((T.builtins x hn).trans hv) h) hd
theorem gen_K (F : Fr g Cn t.heap m) (X : K.In g) (T : Top p loose mean mg mb g) (e : nsIn K mainGlobals x = some (some v)) (h : Q v t) (hk : scope.kind = .function)
    (hx : (genEnv scope [] Cn code builtinsNs (envX fq fs L f cd [])).kindOf x = some .globalImplicit) (hd : (x == ("__debug__" : Str)) = false) : wpAny M A (eval (.Name x pos) (genEnv scope [] Cn code builtinsNs (envX fq fs L f cd []))) Q E t :=
  Name_function_global hk hx (loadGlobal_global (env := genEnv scope [] Cn code builtinsNs (envX fq fs L f cd [])) (T.g.keeps F.keep) (mg_of X T.g e) h) hd
theorem gen_L (F : Fr g Cn t.heap m) (hv : m x = some v) (h : Q v t) (hk : scope.kind = .function) (hx : (genEnv scope [] Cn code builtinsNs (envX fq fs L f cd [])).kindOf x = some .local) (hd : (x == ("__debug__" : Str)) = false) :
    wpAny M A (eval (.Name x pos) (genEnv scope [] Cn code builtinsNs (envX fq fs L f cd []))) Q E t := wpAny_Name (wpAny_loadName_local hk hx F.ns hv h) hd
end
theorem range_at {n j i : Nat} (e : (List.range n)[j]? = some i) : j < n ∧ i = j := by
  obtain ⟨h1, h2⟩ := List.getElem?_eq_some_iff.mp e
  rw [List.length_range] at h1
  rw [List.getElem_range] at h2
  exact ⟨h1, h2.symm⟩
theorem len_at {ps : List Str} {j : Nat} (hj : j < ps.length) : (ps.map fun p => ((p.length : Nat) : Int)).getD j 0 = (((ps.getD j (Str.ofString "")).length : Nat) : Int) := by
  rw [List.getD_eq_getElem?_getD, List.getD_eq_getElem?_getD, List.getElem?_map, List.getElem?_eq_getElem hj]
  rfl
theorem sum_cast (ps : List Str) : (ps.map fun p => ((p.length : Nat) : Int)).sum = (((ps.map (·.length)).sum : Nat) : Int) := by
  induction ps with
  | nil => rfl
  | cons p r ih => rw [List.map_cons, List.sum_cons, ih, List.map_cons, List.sum_cons, Int.natCast_add]
/-- len(y) in a generator over the ring -/
theorem gen_len {w : World} {A : Around} {E : Value → Shared → Prop} {t : Shared} {g : Heap} {L Cn f : Addr} {m mg mb : Str → Option Value} {p : Program} {loose : List Str} {mean : ExcName → Option Value} {scope fs : Scope} {code cd : Value} {fq y : Str} {p1 p2 p3 : Pos} {z : Str} {tz : Tok} {Q : Value → Shared → Prop}
    (F : Fr g Cn t.heap m) (X : (mkK.heap_1 w.params).In g) (T : Top p loose mean mg mb g) (hv : m y = some (.str z tz)) (hz : z.cps.size ≤ 100000) (hk : scope.kind = .function) (h1 : (genEnv scope [] Cn code builtinsNs (envX fq fs L f cd [])).kindOf "len" = some .globalImplicit)
    (h2 : (genEnv scope [] Cn code builtinsNs (envX fq fs L f cd [])).kindOf y = some .local) (h3 : (y == ("__debug__" : Str)) = false) (q : Q (.int ((z.cps.size : Nat) : Int) (t.toks + 1)) { t with toks := t.toks + 1 + 1 }) :
    wpAny (model PySem.Challenge.rw_xp0011_01.row.prog w) A (eval (.Call (.Name "len" p1) [.Name y p2] [] p3) (genEnv scope [] Cn code builtinsNs (envX fq fs L f cd []))) Q E t := by
  have e : nsIn (mkK.heap_1 w.params) mainGlobals "len" = some none := by kernel_rfl
  rw [arm_eval_Call_Name']
  refine wpAny_bind (gen_B F X T e (by boot_by_name) (by decide) ?_ hk h1 (by decide))
  show wpAny _ _ (callWith _ (.builtin "len") [] [(false, eval (.Name y p2) _)] []) _ _ _
  refine PySem.callWith_builtin1 (gen_L F hv ?_ hk h2 h3)
  exact str_len hz q
section
local macro_rules | `(tactic| walk_at "eval GeneratorExp") => `(tactic| (refine Halt.out ?_))
local macro_rules | `(tactic| walk_at "getAttr ref") => `(tactic| (refine Halt.out ?_))
local macro_rules | `(tactic| walk_at "call builtin:sum") => `(tactic| (refine Halt.out ?_))
theorem len_gets (w : World) (x dx : Addr) (vs : List Value) (ps : List Str) (c : Nat) (q : Obj) (hs : Int) (t u : Tok) (k : Nat) (led : List (Addr × Obj)) (hp : Pieces vs ps led) (tb : TabG 63 19 q) (hP : ∀ p ∈ (x, accO dx vs c) :: (dx, iniD hs t u k) :: led, p.1 ≠ 84) (hb : ∀ p ∈ ps, p.length ≤ 100) (hn : ps.length ≤ 100) :
    Gets w 89 31 303 [.ref x] ((84, q) :: (x, accO dx vs c) :: (dx, iniD hs t u k) :: led) (fun v led' => (∃ t', v = .int (((ps.map (·.length)).sum : Nat) : Int) t') ∧ ∃ q', TabG 63 19 q' ∧ led' = (84, q') :: (x, accO dx vs c) :: (dx, iniD hs t u k) :: led) := by
  have fk : mkK.heap_1 = mkK.heap_1 ∧ PySem.Challenge.rw_xp0011_01 = PySem.Challenge.rw_xp0011_01 := by
    k_fill
    exact ⟨rfl, rfl⟩
  k_dflt (refine' runs_gets (dn := 30) (un' := 300) (binds := [(Str.ofString "self", .ref x)]) ?r ?ho ?hcd ?hb ?hl ?hc ?h1 ?h2 ?h3; (case ho => k_is); (case hcd => k_is); (case hl => exact locs rfl); (case hc => decide); (case h1 => rfl); (case h2 => rfl); (case h3 => rfl); (case hb => intro s9 X9; exact BindsTo.of_eq rfl))
  intro p loose mean mg mb dp un outer A₀ base g L s Q E X B F N T G lt hd hu ret
  refine wpAt_of_wpAny ?_
  obtain ⟨Ts, t1, t2, kk, hf⟩ := hp.fns
  k_steps
  refine Halt.go ?_
  have C := codeHd_of_K (c := 88) (P := 84) X (by kernel_rfl)
  k_dflt (refine gen_ring (Fv := fun i y => ∃ t', y = .int (((ps.getD i (Str.ofString "")).length : Nat) : Int) t') F N X T C hP tb G rfl (fun j hj => (hf j hj).1) (fun j hj => .tail _ (hf j hj).2) rfl rfl rfl rfl rfl (by decide) rfl rfl rfl (by decide) rfl (by show dp < _; omega) ?_ ?_)
  · intro Cn code A' E' i t' m₂ hA hD hU hi Ft h1 h2
    have hzp : (ps.getD i (Str.ofString "")).cps.size ≤ 100000 := by
      rw [List.getD_eq_getElem?_getD]
      rcases hq : ps[i]? with _ | z
      · decide
      · exact Nat.le_trans (hb z (List.mem_of_getElem? hq)) (by decide)
    refine wpAny_BinOp (gen_len Ft X T h1 (by decide) rfl rfl rfl (by decide) ?_)
    refine gen_len (t := { t' with toks := _ }) Ft X T h2 hzp rfl rfl rfl (by decide) ?_
    refine add_int ?_
    rw [show (((Str.ofString "").cps.size : Nat) : Int) = 0 from by decide, Int.zero_add]
    exact ⟨⟨_, rfl⟩, _, _, rfl, fun _ _ e => e⟩
  · intro a s2 q2 Kb F2 N2 tb2 G2 os2 hL hKb Gn
    obtain ⟨fp, wr, gg, St, W, hst, _, _, hfp, hwr⟩ := Gn
    have W := W.in4_1
    k_steps
    refine Halt.go ?_
    refine ring_attr (v := .int 0 u) (X.keeps F2.keep) (N2 _ (.tail _ List.mem_cons_self)).1 (N2 _ (.tail _ (.tail _ List.mem_cons_self))).1 (by kernel_rfl) rfl ?_
    k_steps
    refine Halt.go ?_
    have hst' : St 0 { s2 with toks := s2.toks + 1 } := W.frame 0 s2 s2.heap _ hst (Nat.le_succ _) fun b _ o e => e
    have hlen := hp.len
    refine sum_from0 (W.self 0 _ _ _ hst' ⟨a, _, _, _, _, _, _, fun j => (ps.map fun p => ((p.length : Nat) : Int)).getD j 0, rfl, W, hst', hfp, ?_, ?_⟩)
    · rintro j v ⟨i, e, t', rfl⟩
      obtain ⟨hj, e⟩ := range_at e
      subst e
      refine ⟨t', ?_⟩
      rw [hlen] at hj
      exact congrArg (fun z => Value.int z t') (len_at hj).symm
    · intro s' t' hm
      rw [preSum_getD, List.take_of_length_le (by rw [List.length_map, hlen]; exact Nat.le_refl _), sum_cast]
      have F3 : Fr g L s'.heap _ := Fr.moved (s := { s2 with toks := s2.toks + 1 }) F2 hm fun b hb => Nat.lt_of_le_of_lt hL (hwr b hb)
      have N3 : News g L s'.heap ((84, q2) :: (x, accO dx vs c) :: (dx, iniD hs t u k) :: led) := fun p hp => ⟨hm.heap _ _ (fun hw => Nat.lt_irrefl _ (Nat.lt_of_lt_of_le (hwr _ hw) (hKb p hp))) (N2 p hp).1, (N2 p hp).2⟩
      exact ret (.ret _) _ _ _ s' rfl ⟨⟨_, rfl⟩, q2, tb2, rfl⟩ F3 N3 (AllBare.movedS (s := { s2 with toks := s2.toks + 1 }) G2 hm) (hm.os.trans os2)
end
end Mine
end

section
open PySem PySem.W PyProof.Rows PySem.Calls
set_option Elab.async false
set_option maxRecDepth 100000
set_option maxHeartbeats 2000000
set_option linter.unusedVariables false
namespace Mine
theorem join_two (z : Str) : Txt.join (Str.ofString "") [Str.ofString "", z] = z := by
  refine str_ext ?_
  unfold Txt.join
  rw [StrLaws.glued_eq_join]
  show ((Str.ofString "" ++ Str.ofString "") ++ z).cps.toList = _
  rw [Str.cps_append, Array.toList_append]
  rfl
/-- EMPTYSTRING.join((a, b)) in a generator over the ring -/
theorem gen_glue {w : World} {A : Around} {E : Value → Shared → Prop} {t : Shared} {g : Heap} {L Cn f : Addr} {m mg mb : Str → Option Value} {p : Program} {loose : List Str} {mean : ExcName → Option Value} {scope fs : Scope} {code cd : Value} {fq ya yb : Str} {p0 p1 p2 p3 pa pb : Pos} {kt : Nat} {z : Str} {ta tz : Tok} {pl : Sem Bool}
    (F : Fr g Cn t.heap m) (X : (mkK.heap_1 w.params).In g) (T : Top p loose mean mg mb g) (ha : m ya = some (.str (Str.ofString "") ta)) (hv : m yb = some (.str z tz)) (hz : z.length ≤ 100000) (hk : scope.kind = .function) (h1 : (genEnv scope [] Cn code builtinsNs (envX fq fs L f cd [])).kindOf "EMPTYSTRING" = some .globalImplicit)
    (h2 : (genEnv scope [] Cn code builtinsNs (envX fq fs L f cd [])).kindOf ya = some .local) (h3 : (genEnv scope [] Cn code builtinsNs (envX fq fs L f cd [])).kindOf yb = some .local) (h4 : (ya == ("__debug__" : Str)) = false) (h5 : (yb == ("__debug__" : Str)) = false)
    (he : eval (.Call (.Attribute (.Name "EMPTYSTRING" p0) "join" p1) [.Tuple [.Name ya pa, .Name yb pb] kt p2] [] p3) (genEnv scope [] Cn code builtinsNs (envX fq fs L f cd [])) = (do
      let ov ← eval (.Name "EMPTYSTRING" p0) (genEnv scope [] Cn code builtinsNs (envX fq fs L f cd []))
      standAt p1.atName
      let (f', first) ← holding [ov] (getMethod ov "join" pl)
      callWith p3 f' first (backTo p3 (starEach [.Tuple [.Name ya pa, .Name yb pb] kt p2] (genEnv scope [] Cn code builtinsNs (envX fq fs L f cd [])))) [])) :
    wpAny (model PySem.Challenge.rw_xp0011_01.row.prog w) A (eval (.Call (.Attribute (.Name "EMPTYSTRING" p0) "join" p1) [.Tuple [.Name ya pa, .Name yb pb] kt p2] [] p3) (genEnv scope [] Cn code builtinsNs (envX fq fs L f cd [])))
      (fun y s₃ => (∃ t', y = .str z t') ∧ Keeps t s₃) E t := by
  have e : ∃ tk, nsIn (mkK.heap_1 w.params) mainGlobals "EMPTYSTRING" = some (some (.str (Str.ofString "") tk)) := ⟨242, by kernel_rfl⟩
  obtain ⟨tk, e⟩ := e
  refine MethodCall_ (gen_K F X T e ?_ hk h1 (by decide)) he
  refine GM.join ?_
  refine PyProof.Rows.callWith_method1 (spliced_cons ?_)
  rw [arm_eval_Tuple]
  refine wpAny_bind (wpAny_standAt (wpAny_bind ?_))
  show wpAny _ _ (spliced [(false, eval (.Name ya pa) _), (false, eval (.Name yb pb) _)]) _ _ _
  refine spliced_cons (gen_L F ha (spliced_cons (gen_L F hv (spliced_nil ?_) hk h3 h5)) hk h2 h4)
  refine wpAny_newObj_type ?_
  refine spliced_nil ?_
  refine join_tuple (items := #[.str (Str.ofString "") ta, .str z tz]) (ys := [Str.ofString "", z]) ⟨_, Heap.get?_push_size _ rfl, rfl, _, rfl⟩ (.cons _ _ (.cons _ _ .nil)) ?_ fun t' k => ?_
  · show (Str.ofString "").length + (z.length + 0) + 2 * (Str.ofString "").length ≤ 16777216
    have : (Str.ofString "").length = 0 := by decide
    omega
  · rw [join_two]
    exact ⟨⟨_, rfl⟩, _, _, rfl, fun b o e => Heap.get?_push_of_some _ e⟩
section
local macro_rules | `(tactic| walk_at "eval GeneratorExp") => `(tactic| (refine Halt.out ?_))
local macro_rules | `(tactic| walk_at "call builtin:str.join") => `(tactic| (refine Halt.out ?_))
theorem str_gets (w : World) (x dx : Addr) (vs : List Value) (ps : List Str) (c : Nat) (q : Obj) (hs : Int) (t u : Tok) (k : Nat) (led : List (Addr × Obj)) (hp : Pieces vs ps led) (tb : TabG 66 32 q) (hP : ∀ p ∈ (x, accO dx vs c) :: (dx, iniD hs t u k) :: led, p.1 ≠ 91) (hb : ∀ p ∈ ps, p.length ≤ 100) (hn : ps.length ≤ 100) :
    Gets w 96 31 303 [.ref x] ((91, q) :: (x, accO dx vs c) :: (dx, iniD hs t u k) :: led) (fun v led' => (∃ t', v = .str (Txt.join (Str.ofString "") ps) t') ∧ ∃ q', TabG 66 32 q' ∧ led' = (91, q') :: (x, accO dx vs c) :: (dx, iniD hs t u k) :: led) := by
  have fk : mkK.heap_1 = mkK.heap_1 ∧ PySem.Challenge.rw_xp0011_01 = PySem.Challenge.rw_xp0011_01 := by
    k_fill
    exact ⟨rfl, rfl⟩
  k_dflt (refine' runs_gets (dn := 30) (un' := 300) (binds := [(Str.ofString "self", .ref x)]) ?r ?ho ?hcd ?hb ?hl ?hc ?h1 ?h2 ?h3; (case ho => k_is); (case hcd => k_is); (case hl => exact locs rfl); (case hc => decide); (case h1 => rfl); (case h2 => rfl); (case h3 => rfl); (case hb => intro s9 X9; exact BindsTo.of_eq rfl))
  intro p loose mean mg mb dp un outer A₀ base g L s Q E X B F N T G lt hd hu ret
  refine wpAt_of_wpAny ?_
  obtain ⟨Ts, t1, t2, kk, hf⟩ := hp.fns
  k_steps
  refine Halt.go ?_
  have C := codeHd_of_K (c := 95) (P := 91) X (by kernel_rfl)
  k_dflt (refine gen_ring (Fv := fun i y => ∃ t', y = .str (ps.getD i (Str.ofString "")) t') F N X T C hP tb G rfl (fun j hj => (hf j hj).1) (fun j hj => .tail _ (hf j hj).2) rfl rfl rfl rfl rfl (by decide) rfl rfl rfl (by decide) rfl (by show dp < _; omega) ?_ ?_)
  · intro Cn code A' E' i t' m₂ hA hD hU hi Ft h1 h2
    clear F N G hd hu ret
    have hzp : (ps.getD i (Str.ofString "")).length ≤ 100000 := by
      rw [List.getD_eq_getElem?_getD]
      rcases hq : ps[i]? with _ | z
      · decide
      · exact Nat.le_trans (hb z (List.mem_of_getElem? hq)) (by decide)
    exact gen_glue Ft X T h1 h2 hzp rfl rfl rfl rfl (by decide) (by decide) (by rfl)
  · intro a s2 q2 Kb F2 N2 tb2 G2 os2 hL hKb Gn
    k_steps
    refine Halt.go ?_
    have hlen := hp.len
    have hmap : (List.range vs.length).map (fun j => ps.getD j (Str.ofString "")) = ps := by
      rw [hlen]
      exact range_getD ps _
    refine join_rowsK F2 G2 Gn hL (fun j => ps.getD j (Str.ofString "")) ?_ ?_ ?_ ?_
    · rintro j v ⟨i, e, t', rfl⟩
      obtain ⟨hj, e⟩ := range_at e
      subst e
      exact ⟨t', rfl⟩
    · rw [hmap]
      refine joinOk_of ?_
      have hs1 := StrLaws.sumLen_le (B := 100) ps fun y hy => hb y hy
      rw [show (Str.ofString "").length = 0 from by decide, Nat.mul_zero, Nat.add_zero]
      exact Nat.le_trans hs1 (Nat.le_trans (Nat.mul_le_mul_right 100 hn) (by decide))
    · intro s' t' F3 G3 os3 hk3
      rw [hmap]
      exact ret (.ret _) _ _ _ s' rfl ⟨⟨_, rfl⟩, q2, tb2, rfl⟩ F3 (fun p hp => ⟨hk3 _ _ (hKb p hp) (N2 p hp).1, (N2 p hp).2⟩) G3 (os3.trans os2)
    · rw [hlen]
      exact Nat.le_trans hn (by decide +kernel)
end
end Mine
end

section
open PySem PySem.W PyProof.Rows PySem.Calls
set_option Elab.async false
set_option maxRecDepth 100000
set_option maxHeartbeats 2000000
set_option linter.unusedVariables false
namespace Mine
abbrev tabs3 : List (Addr × Addr) := [(41, 37), (88, 84), (95, 91)]
section
variable {prog : Program} {w : World} {s : Shared} {E : Value → Shared → Prop} {K : Frag} {p : Program} {loose : List Str} {mean : ExcName → Option Value} {mg mb : Str → Option Value} {R : Result → Shared → Prop}
  {name qual : Str} {params : Arguments} {body : List Stmt} {scope : Scope} {dV kV doc pm cdv ct oc : Value} {an od : Option Addr} {osl : Array (Option Value)} {f : Addr} {args : Args} {binds : List (Str × Value)} {tabs : List (Addr × Addr)}
/-- the law's own def, entered from the claim's caller -/
theorem codeC_top (X : K.In s.heap) (T : Top p loose mean mg mb s.heap) (hT : TabsAt tabs s.heap) (ho : K.lookup f = some ⟨oc, od, .func (fnX name qual params body scope [] dV kV doc pm an cdv ct), osl⟩) (hcd : codeIn K cdv qual = true)
    (hbind : BindsTo s (fnX name qual params body scope [] dV kV doc pm an cdv ct) args binds) (hkind : (binds.all fun y => scope.names.lookup y.1 == some .local || scope.names.lookup y.1 == some .cell) = true)
    (hnd : ((cellsFrom 0 scope.names []).map (·.1)).Nodup)
    (h : ∀ L h₁ tk cells, Fr (ghostOf s.heap tabs) L h₁ (bindL (envOfC qual scope L f cdv).kindOf binds fun _ => none) → News (ghostOf s.heap tabs) L h₁ (cells ++ tabNews tabs) →
      CellsAre (bindC (envOfC qual scope L f cdv).kindOf binds fun _ => none) (cellsFrom (L + 1) scope.names []) cells → (∀ q ∈ tabs, q.2 < L) →
      wpC (model prog w) (callerA.deeper (envOfC qual scope L f cdv)) (execs body (envOfC qual scope L f cdv))
        (fun fl s' => R (.ok (.ret (match fl with | .ret v => v | _ => .none))) s')
        (fun e s' => wpAny (model prog w) (callerA.deeper (envOfC qual scope L f cdv)) (leaving (envOfC qual scope L f cdv) e) (fun _ s'' => R (.error e) s'') (fun e' s'' => R (.error e') s'') s')
        { s with heap := h₁, toks := tk })
    (hco : scope.isCoroutine = false) (hgen : scope.isGenerator = false) (hk : scope.kind = .function) : codeC (model prog w) callerA (.call (.ref f) args) R s := by
  refine codeC_call_function (by show 1 + claimMargin < recursionLimit; decide +kernel) (X _ _ ho) rfl hco hgen rfl (codeRec_of X hcd) (hbind _ _ _ _ ?_)
  refine wpAny_newFunctionEnv_cells hk (kindsX hkind _) fun env' he s' x => ?_
  subst he
  refine ⟨T.nolimit.keeps x.toInCall.keep, codeC_func ?_⟩
  obtain ⟨h₁, tk, rfl, _⟩ := x.done
  have hk₁ := x.toInCall.keep
  obtain ⟨cells, NC, Y⟩ := Cl.news (h₀ := s.heap) (Nat.le_refl _) fun n c hm => ⟨x.cell n c (lookup_of_mem_nodup (cellsFrom_names scope.names 0 (s.heap.objs.size + 1) [] [] rfl ▸ hnd) hm), x.above n c hm⟩
  have F0 : Fr s.heap s.heap.objs.size h₁ (bindL (envOfC qual scope s.heap.objs.size f cdv).kindOf binds fun _ => none) := ⟨x.toInCall.ns, hk₁, Nat.le_refl _⟩
  have N0 : News s.heap s.heap.objs.size h₁ cells := NC
  exact h _ h₁ tk cells (ghost_fr hT F0) (ghost_news hT F0 N0) Y (fun q hq => Heap.lt_size (hT q hq).2)
end
end Mine
end

section
open PySem PySem.W PyProof.Rows PySem.Calls
set_option Elab.async false
set_option maxRecDepth 100000
set_option maxHeartbeats 2000000
set_option linter.unusedVariables false
namespace Mine
theorem runC_any {M : Model} {A : Around} {E : Value → Shared → Prop} {s : Shared} {Q : Value → Shared → Prop} {f : Value} {vs : List Value} (h : wpC M A (call f vs) Q E s) (h0 : Q (.bool true) s) : wpAny M A (runC f vs) Q E s := by
  intro Γ p i
  unfold runC
  rw [Sem.wp_stack]
  cases q : clean ((Γ.code, p) :: Γ.below) with
  | true => exact h Γ p i (clean_parts q).1 (clean_parts q).2
  | false => exact h0
/-- True, and nothing old turned but the code tables -/
theorem law_good {s₁ s' : Shared} {cl : Str → Option Addr} {mean : ExcName → Option Value} {ns : List Int} {tabs : List (Addr × Addr)} (hT : TabsAt tabs s₁.heap) (keep : ∀ b o, (ghostOf s₁.heap tabs).get? b = some o → s'.heap.get? b = some o) (gr : ∀ q ∈ tabs, GrownAt q.2 s'.heap) (hos : s'.os = s₁.os) (hg : AllBare s'.gens) :
    GoodWG PySem.Challenge.rw_xp0011_01.row.claim cl mean [ofPy (PyData.list (List.map PyData.int ns))] s₁ (.ok (.ret (.bool true))) s' := by
  refine ⟨.inl ⟨.bool true, .bool true, [], rfl, fun _ => rfl, .bool true, by kernel_rfl, fun _ => ⟨List.nodup_nil, fun a h => nomatch h⟩⟩, ⟨fun b o e => ?_, fun b o e => ?_⟩, hos, hg⟩
  · by_cases hb : b ∈ tabs.map (·.2)
    · obtain ⟨q, hq, rfl⟩ := List.mem_map.mp hb
      have e2 := (hT q hq).2
      rw [e] at e2
      obtain ⟨ps, hP⟩ := gr q hq
      obtain rfl := Option.some.inj e2
      exact .inr (.inl ⟨((hT q hq).1.tab (hT q hq).2).isCodeTable, rfl, #[], ps, rfl, by rw [Array.empty_append]; exact hP⟩)
    · exact .inl (keep b o (ghost_ne e hb))
  · by_cases hb : b ∈ tabs.map (·.2)
    · obtain ⟨q, hq, rfl⟩ := List.mem_map.mp hb
      obtain ⟨ps, hP⟩ := gr q hq
      exact ⟨_, hP⟩
    · exact ⟨o, keep b o (ghost_ne e hb)⟩
end Mine
end

section
open PySem PySem.W PyProof.Rows PySem.Calls
set_option Elab.async false
set_option maxRecDepth 100000
set_option maxHeartbeats 2000000
set_option linter.unusedVariables false
namespace Mine
/-- the ledger without the object at c -/
def offL (c : Addr) (led : List (Addr × Obj)) : List (Addr × Obj) := led.filter fun p => p.1 != c
theorem mem_off {c : Addr} {led : List (Addr × Obj)} {p : Addr × Obj} : p ∈ offL c led ↔ p ∈ led ∧ p.1 ≠ c := by
  unfold offL
  rw [List.mem_filter, bne_iff_ne]
theorem off_ne {c : Addr} {led : List (Addr × Obj)} : ∀ p ∈ offL c led, p.1 ≠ c := fun p hp => (mem_off.mp hp).2
section
variable {h₀ h : Heap} {L c : Addr} {o : Obj} {led : List (Addr × Obj)}
theorem news_at (N : News h₀ L h led) (hm : (c, o) ∈ led) : News h₀ L h ((c, o) :: offL c led) := news_sub N fun p hp => by
  rcases List.mem_cons.mp hp with rfl | hp
  · exact hm
  · exact (mem_off.mp hp).1
theorem news_same (N : News h₀ L h led) {o' : Obj} (h1 : (c, o) ∈ led) (h2 : (c, o') ∈ led) : o = o' := Option.some.inj ((N _ h1).1.symm.trans (N _ h2).1)
end
section
variable {M : Model} {A : Around} {E : Value → Shared → Prop} {s : Shared} {h₀ : Heap} {L a : Addr} {m : Str → Option Value} {cn : Str} {cs : Scope} {ccd : Value} {cl : List (Str × Addr)} {x : Str} {v : Value} {Q : Unit → Shared → Prop} {led : List (Addr × Obj)} {c : Addr} {o : Obj} {v₀ : Option Value}
/-- a store into a cell of an open ledger -/
theorem store_cell (F : Fr h₀ L s.heap m) (N : News h₀ L s.heap led) (hc : cl.lookup x = some c) (hm : (c, o) ∈ led) (hd : o.data = .cell v₀)
    (h : ∀ h' o', Fr h₀ L h' m → News h₀ L h' ((c, o') :: offL c led) → o'.data = .cell (some v) → Q () { s with heap := h' })
    (hk : cs.kind = .function := by rfl) (hx : (envX cn cs L a ccd cl).kindOf x = some .cell := by rfl) : wpAny M A (storeName (envX cn cs L a ccd cl) x v) Q E s :=
  storeX_C F (news_at N hm) hc (UpdF.head off_ne) hd h hk hx
end
/-- the law's scope -/
abbrev lawScope : Scope := { «kind» := ScopeKind.function, names := [   (Str.ofString "script", NameKind.local), (Str.ofString "drawn", NameKind.local), (Str.ofString "total", NameKind.cell), (Str.ofString "row", NameKind.cell), (Str.ofString "word", NameKind.local), (Str.ofString "width", NameKind.cell), (Str.ofString "sign", NameKind.local), (Str.ofString "turned", NameKind.local), (Str.ofString "mirrored", NameKind.local), (Str.ofString "written", NameKind.local), (Str.ofString "ring", NameKind.local), (Str.ofString "size", NameKind.cell), (Str.ofString "whole", NameKind.cell), (Str.ofString "image", NameKind.cell), (Str.ofString "bound", NameKind.cell), (Str.ofString "parted", NameKind.cell), (Str.ofString "found", NameKind.cell),   (Str.ofString "still", NameKind.local), (Str.ofString "due", NameKind.local), (Str.ofString "ahead", NameKind.local), (Str.ofString "gone", NameKind.local), (Str.ofString "place", NameKind.local), (Str.ofString "behind", NameKind.local), (Str.ofString "blanks", NameKind.local), (Str.ofString "part", NameKind.local), (Str.ofString "list", NameKind.globalImplicit), (Str.ofString "len", NameKind.globalImplicit), (Str.ofString "abs", NameKind.globalImplicit), (Str.ofString "sum", NameKind.globalImplicit), (Str.ofString "_byteswap", NameKind.globalImplicit), (Str.ofString "bytes", NameKind.globalImplicit),   (Str.ofString "_escape_attrib_html", NameKind.globalImplicit), (Str.ofString "_Accumulator", NameKind.globalImplicit), (Str.ofString "_law_written", NameKind.globalImplicit), (Str.ofString "_law_number", NameKind.globalImplicit), (Str.ofString "range", NameKind.globalImplicit), (Str.ofString "str", NameKind.globalImplicit), (Str.ofString "_law_alike", NameKind.globalImplicit)],   isGenerator := false, isCoroutine := false,   more := [(Str.ofString "fast", Const.str (Str.ofString "script")), (Str.ofString "fast", Const.str (Str.ofString "drawn")), (Str.ofString "fast", Const.str (Str.ofString "total")), (Str.ofString "fast", Const.str (Str.ofString "row")), (Str.ofString "fast", Const.str (Str.ofString "x")), (Str.ofString "fast", Const.str (Str.ofString "word")), (Str.ofString "fast", Const.str (Str.ofString "width")), (Str.ofString "fast", Const.str (Str.ofString "sign")), (Str.ofString "fast", Const.str (Str.ofString "turned")), (Str.ofString "fast", Const.str (Str.ofString "octet")), (Str.ofString "fast", Const.str (Str.ofString "mirrored")), (Str.ofString "fast", Const.str (Str.ofString "written")), (Str.ofString "fast", Const.str (Str.ofString "ring")), (Str.ofString "fast", Const.str (Str.ofString "size")), (Str.ofString "fast", Const.str (Str.ofString "whole")), (Str.ofString "fast", Const.str (Str.ofString "image")), (Str.ofString "fast", Const.str (Str.ofString "bound")), (Str.ofString "fast", Const.str (Str.ofString "shift")), (Str.ofString "fast", Const.str (Str.ofString "parted")), (Str.ofString "fast", Const.str (Str.ofString "found")), (Str.ofString "fast", Const.str (Str.ofString "still")), (Str.ofString "fast", Const.str (Str.ofString "due")), (Str.ofString "fast", Const.str (Str.ofString "ahead")), (Str.ofString "fast", Const.str (Str.ofString "gone")), (Str.ofString "fast", Const.str (Str.ofString "place")), (Str.ofString "fast", Const.str (Str.ofString "behind")), (Str.ofString "fast", Const.str (Str.ofString "blanks")), (Str.ofString "fast", Const.str (Str.ofString "part"))] }
abbrev lawCl (L : Addr) : List (Str × Addr) := [(Str.ofString "found", L + 9), (Str.ofString "parted", L + 8), (Str.ofString "bound", L + 7), (Str.ofString "image", L + 6), (Str.ofString "whole", L + 5), (Str.ofString "size", L + 4), (Str.ofString "width", L + 3), (Str.ofString "row", L + 2), (Str.ofString "total", L + 1)]
abbrev lawEnv (L : Addr) : Env := envX (Str.ofString "law") lawScope L 169 (.ref 168) (lawCl L)
abbrev lawA (L : Addr) : Around := ktrTop (2 + claimMargin) 7 (some []) (Str.ofString "law") lawScope L 169 (.ref 168) (lawCl L) []
theorem lawCl_eq (L : Addr) : cellsFrom (L + 1) lawScope.names [] = lawCl L := rfl
def bodyOf (K : Frag) (f : Addr) : List Stmt := match K.lookup f with
  | some ⟨_, _, .func fd, _⟩ => (match fd.body with | .stmts b => b | _ => [])
  | _ => []
/-- the law's statements behind the first k -/
noncomputable def lawTail (w : World) (k : Nat) : List Stmt := (bodyOf (mkK.heap_1 w.params) 169).drop k
end Mine
end

section
open PySem PySem.W PyProof.Rows PySem.Calls
set_option Elab.async false
set_option maxRecDepth 100000
set_option maxHeartbeats 2000000
set_option linter.unusedVariables false
namespace Mine
/-- the three code tables in the ledger -/
structure Tabs (led : List (Addr × Obj)) : Prop where
  t1 : ∃ q, (37, q) ∈ led ∧ TabS 34 4 (Str.ofString "_digits2int.<locals>.inner") q (offL 37 led)
  t2 : ∃ q, (84, q) ∈ led ∧ TabG 63 19 q
  t3 : ∃ q, (91, q) ∈ led ∧ TabG 66 32 q
/-- a cell of the law -/
def Cell (led : List (Addr × Obj)) (c : Addr) (v : Option Value) : Prop := ∃ o, (c, o) ∈ led ∧ o.data = .cell v
/-- what is asked of the law's body -/
def LawBody (w : World) : Prop :=
  ∀ (p : Program) (loose : List Str) (mean : ExcName → Option Value) (mg mb : Str → Option Value) (g : Heap) (L l : Addr) (vs : List Value) (ns : List Int) (led : List (Addr × Obj)) (s : Shared) (Q : Flow → Shared → Prop) (E : Value → Shared → Prop),
    (mkK.heap_1 w.params).In g → Below callerA g [] g → Top p loose mean mg mb g → g.IsList l vs.toArray → IntsAre vs ns → ns.length ≤ 63 → 91 < L →
    Fr g L s.heap (fun y => if y = Str.ofString "script" then some (.ref l) else none) → News g L s.heap led → (∀ i : Nat, 1 ≤ i → i ≤ 9 → Cell led (L + i) none) → Tabs led → AllBare s.gens →
    (∀ s' m' led', Fr g L s'.heap m' → News g L s'.heap led' → Tabs led' → AllBare s'.gens → s'.os = s.os → Q (.ret (.bool true)) s') →
    wpC (model PySem.Challenge.rw_xp0011_01.row.prog w) (lawA L) (execs (lawTail w 0) (lawEnv L)) Q E s
theorem tab_grown {g h : Heap} {L : Addr} {led : List (Addr × Obj)} (N : News g L h led) (T : Tabs led) : ∀ q ∈ tabs3, GrownAt q.2 h := by
  intro q hq
  simp only [List.mem_cons, List.not_mem_nil, or_false] at hq
  rcases hq with rfl | rfl | rfl
  · obtain ⟨q, hm, rfl | ⟨c, _, _, _, rfl, _⟩⟩ := T.t1
    · exact ⟨_, (N _ hm).1⟩
    · exact ⟨_, (N _ hm).1⟩
  · obtain ⟨q, hm, rfl | ⟨c, rfl⟩⟩ := T.t2
    · exact ⟨_, (N _ hm).1⟩
    · exact ⟨_, (N _ hm).1⟩
  · obtain ⟨q, hm, rfl | ⟨c, rfl⟩⟩ := T.t3
    · exact ⟨_, (N _ hm).1⟩
    · exact ⟨_, (N _ hm).1⟩
theorem nine_cells {cm : Str → Option Value} {L : Addr} {cells : List (Addr × Obj)} (Y : CellsAre cm (lawCl L) cells) (hcm : ∀ x, cm x = none) : ∀ i : Nat, 1 ≤ i → i ≤ 9 → Cell cells (L + i) none := by
  have key : ∀ (cs : List (Str × Addr)) (cells : List (Addr × Obj)), CellsAre cm cs cells → ∀ n c, (n, c) ∈ cs → Cell cells c none := by
    intro cs cells Y
    induction Y with
    | nil => intro n c h; exact nomatch h
    | cons e _ ih =>
      intro n c h
      rcases List.mem_cons.mp h with h | h
      · cases h
        exact ⟨_, List.mem_cons_self, by rw [e, hcm]⟩
      · obtain ⟨o, a, b⟩ := ih n c h
        exact ⟨o, .tail _ a, b⟩
  intro i h1 h9
  have hi : i = 1 ∨ i = 2 ∨ i = 3 ∨ i = 4 ∨ i = 5 ∨ i = 6 ∨ i = 7 ∨ i = 8 ∨ i = 9 := by omega
  rcases hi with rfl | rfl | rfl | rfl | rfl | rfl | rfl | rfl | rfl
  · exact key _ _ Y (Str.ofString "total") _ (.tail _ (.tail _ (.tail _ (.tail _ (.tail _ (.tail _ (.tail _ (.tail _ (.head _)))))))))
  · exact key _ _ Y (Str.ofString "row") _ (.tail _ (.tail _ (.tail _ (.tail _ (.tail _ (.tail _ (.tail _ (.head _))))))))
  · exact key _ _ Y (Str.ofString "width") _ (.tail _ (.tail _ (.tail _ (.tail _ (.tail _ (.tail _ (.head _)))))))
  · exact key _ _ Y (Str.ofString "size") _ (.tail _ (.tail _ (.tail _ (.tail _ (.tail _ (.head _))))))
  · exact key _ _ Y (Str.ofString "whole") _ (.tail _ (.tail _ (.tail _ (.tail _ (.head _)))))
  · exact key _ _ Y (Str.ofString "image") _ (.tail _ (.tail _ (.tail _ (.head _))))
  · exact key _ _ Y (Str.ofString "bound") _ (.tail _ (.tail _ (.head _)))
  · exact key _ _ Y (Str.ofString "parted") _ (.tail _ (.head _))
  · exact key _ _ Y (Str.ofString "found") _ (.head _)
end Mine
end

section
open PySem PySem.W PyProof.Rows PySem.Calls
set_option Elab.async false
set_option maxRecDepth 100000
set_option maxHeartbeats 2000000
set_option linter.unusedVariables false
namespace Mine
theorem bindL_one {k : Str → Option NameKind} {n : Str} {v : Value} (h : k n = some .local) : bindL k [(n, v)] (fun _ => none) = fun y => if y = n then some v else none := by
  unfold bindL
  rw [if_pos h]
  rfl
theorem bindC_one {k : Str → Option NameKind} {n : Str} {v : Value} (h : k n = some .local) (x : Str) : bindC k [(n, v)] (fun _ => none) x = none := by
  unfold bindC
  rw [if_pos h]
  rfl
theorem law_walk (body : ∀ w, LawBody w) : ∀ d kwd, defOf vw PySem.Challenge.rw_xp0011_01.row.name = some (d, kwd) → WalkO vw [Str.ofString "_Accumulator"] (XL vw []) (Hook.says Hk) PySem.Challenge.rw_xp0011_01.row.toRowW d kwd runC := by
  have fk : mkK.heap_1 = mkK.heap_1 ∧ PySem.Challenge.rw_xp0011_01 = PySem.Challenge.rw_xp0011_01 := by
    k_fill
    exact ⟨rfl, rfl⟩
  intro d kwd hdef w s₀ s₁ mg mb G Y fa o pm cd doc dV kV ho hd hcd hD hmg hg args vals as hpre hlay hrd hwl hlo
  have KX := km_in_of Y
  have KT := km_tabs_of Y
  have hnm := defOf_name hdef
  refine Ground.open G ?_
  intro T B D TE TW
  have hfa : fa = 169 := by
    have e := mg_of (n := PySem.Challenge.rw_xp0011_01.row.name) (v := .ref 169) KX T.g (by kernel_rfl)
    rw [hnm, e] at hmg
    cases hmg
    rfl
  subst hfa
  have hT : TabsAt tabs3 s₁.heap := List.forall_mem_cons.mpr ⟨⟨codeHd_of_K KX (by kernel_rfl), KT 37 (by simp)⟩, List.forall_mem_cons.mpr ⟨⟨codeHd_of_K KX (by kernel_rfl), KT 84 (by simp)⟩, List.forall_mem_cons.mpr ⟨⟨codeHd_of_K KX (by kernel_rfl), KT 91 (by simp)⟩, fun _ h => nomatch h⟩⟩⟩
  have hK : noTabs (mkK.heap_1 w.params) = true := by kernel_rfl
  clear hD hcd hd ho hmg hdef hnm D TE TW B
  wrow_args hpre hlay hrd hwl hlo
  rename_i ns _ _ _ _ _ _ _ l vs _ hL _ _ _ hI _ hlen _
  have hgood : ∀ s', (∀ b o, (ghostOf s₁.heap tabs3).get? b = some o → s'.heap.get? b = some o) → (∀ q ∈ tabs3, GrownAt q.2 s'.heap) → s'.os = s₁.os → AllBare s'.gens → GoodWG PySem.Challenge.rw_xp0011_01.row.claim (classAt s₀.heap) (ExcName.means s₀.heap) [ofPy (PyData.list (List.map PyData.int ns))] s₁ (.ok (.ret (.bool true))) s' := fun s' a b c d => law_good hT a b c d
  refine runC_any (wpC_call ?_) (hgood s₁ (fun b o e => of_hideAll _ e) (fun q hq => ⟨_, (hT q hq).2⟩) rfl (.of_eq hg))
  have X' := ghost_K hT KX hK
  have T' := ghost_top hT T
  have B' := ghost_below hT
  have hL' := ghost_list hT hL
  generalize hgd : ghostOf s₁.heap tabs3 = g at *
  k_dflt (refine' codeC_top (tabs := tabs3) (binds := [(Str.ofString "script", .ref l)]) KX T hT ?ho ?hcd ?hb ?hk1 ?hk2 ?body ?h1 ?h2 ?h3; (case ho => k_is); (case hcd => k_is); (case hb => exact BindsTo.of_eq rfl); (case hk1 => rfl); (case hk2 => decide +kernel); (case h1 => rfl); (case h2 => rfl); (case h3 => rfl))
  rw [hgd]
  intro L h₁ tk cells F N Y' hlt
  have Y2 := nine_cells (Y' : CellsAre _ (lawCl L) cells) (fun x => ?_)
  · have c9 : ∀ i : Nat, 1 ≤ i → i ≤ 9 → Cell (cells ++ tabNews tabs3) (L + i) none := fun i a b => let ⟨o, c, d⟩ := Y2 i a b; ⟨o, List.mem_append_left _ c, d⟩
    have ctab : ∀ q ∈ tabs3, (q.2, tabObj #[]) ∈ cells ++ tabNews tabs3 := fun q hq => List.mem_append_right _ (List.mem_map_of_mem hq)
    have Tb : Tabs (cells ++ tabNews tabs3) := ⟨⟨_, ctab (41, 37) (by simp), .inl rfl⟩, ⟨_, ctab (88, 84) (by simp), .inl rfl⟩, ⟨_, ctab (95, 91) (by simp), .inl rfl⟩⟩
    have h63 : ns.length ≤ 63 := by omega
    have b0 := body w topProg _ _ mg mb g L l vs ns (cells ++ tabNews tabs3) { s₁ with heap := h₁, toks := tk } (fun fl s' => fl = .ret (.bool true) ∧ (∀ b o, g.get? b = some o → s'.heap.get? b = some o) ∧ (∀ q ∈ tabs3, GrownAt q.2 s'.heap) ∧ s'.os = s₁.os ∧ AllBare s'.gens) (fun _ _ => False) X' B' T' hL' hI h63 (hlt (95, 91) (by simp)) ?_ N c9 Tb (.of_eq hg) ?_
    · k_dflt (have ho := (show (mkK.heap_1 w.params).lookup 169 = some _ by k_is))
      unfold lawTail bodyOf at b0
      rw [ho] at b0
      exact wpC_mono b0 (fun fl s' ⟨e, a, b, c, d⟩ => by subst e; exact hgood s' a b c d) (fun _ _ x => x.elim)
    · rw [bindL_one rfl] at F
      exact F
    · exact fun s' m' led' F' N' T' G' os' => ⟨rfl, F'.keep, tab_grown N' T', os', G'⟩
  · exact bindC_one rfl x
end Mine
end

section
open PySem PySem.W PyProof.Rows PySem.Calls
set_option Elab.async false
set_option maxRecDepth 100000
set_option maxHeartbeats 2000000
set_option linter.unusedVariables false
namespace Mine
theorem law_promised : PySem.Challenge.rw_xp0011_01.row.toRowW.promised := by
  w_witness2
theorem holds_of (body : ∀ w, LawBody w) : PySem.Challenge.rw_xp0011_01.Holds := hd (law_walk body) law_promised
end Mine
end

section
open PySem PySem.W PyProof.Rows PySem.Calls
set_option Elab.async false
set_option maxRecDepth 100000
set_option maxHeartbeats 2000000
set_option linter.unusedVariables false
namespace Mine
/-- from the law's statement k on, with these locals and this ledger, the body ends well -/
def Ends (w : World) (g : Heap) (L : Addr) (k : Nat) (m : Str → Option Value) (led : List (Addr × Obj)) : Prop :=
  ∀ (s : Shared) (Q : Flow → Shared → Prop) (E : Value → Shared → Prop), Fr g L s.heap m → News g L s.heap led → AllBare s.gens →
    (∀ s' m' led', Fr g L s'.heap m' → News g L s'.heap led' → Tabs led' → AllBare s'.gens → s'.os = s.os → Q (.ret (.bool true)) s') →
    wpC (model PySem.Challenge.rw_xp0011_01.row.prog w) (lawA L) (execs (lawTail w k) (lawEnv L)) Q E s
/-- a segment of the law: what is asked of it -/
def Seg (w : World) (g : Heap) (L : Addr) (C : Prop) : Prop :=
  ∀ (p : Program) (loose : List Str) (mean : ExcName → Option Value) (mg mb : Str → Option Value),
    (mkK.heap_1 w.params).In g → Below callerA g [] g → Top p loose mean mg mb g → 91 < L → C
theorem Tabs.mono {led led' : List (Addr × Obj)} (T : Tabs led) (h : ∀ p ∈ led, p ∈ led') : Tabs led' where
  t1 := let ⟨q, a, b⟩ := T.t1; ⟨q, h _ a, b.mono fun p hp => mem_off.mpr ⟨h _ (mem_off.mp hp).1, (mem_off.mp hp).2⟩⟩
  t2 := let ⟨q, a, b⟩ := T.t2; ⟨q, h _ a, b⟩
  t3 := let ⟨q, a, b⟩ := T.t3; ⟨q, h _ a, b⟩
section
variable {g h : Heap} {L c : Addr} {o : Obj} {led led' : List (Addr × Obj)}
/-- a ledger where only objects that are no records and no tables were turned -/
theorem Tabs.kept {bad : List Addr} (T : Tabs led) (N : News g L h led) (hb : ∀ c ∈ bad, ∃ o, (c, o) ∈ led ∧ (∀ vs, o.data ≠ .fields vs) ∧ c ≠ 37 ∧ c ≠ 84 ∧ c ≠ 91) (k : ∀ p ∈ led, p.1 ∉ bad → p ∈ led') : Tabs led' where
  t1 := let ⟨q, a, b⟩ := T.t1; ⟨q, k _ a (fun e => let ⟨_, _, _, x, _, _⟩ := hb _ e; x rfl), b.imp id fun ⟨c, oc, vs, t, e1, e2, e3, e4⟩ => ⟨c, oc, vs, t, e1, mem_off.mpr ⟨k _ (mem_off.mp e2).1 (fun e => let ⟨o, x, y, _⟩ := hb _ e; y vs (news_same N (mem_off.mp e2).1 x ▸ e3)), (mem_off.mp e2).2⟩, e3, e4⟩⟩
  t2 := let ⟨q, a, b⟩ := T.t2; ⟨q, k _ a (fun e => let ⟨_, _, _, _, x, _⟩ := hb _ e; x rfl), b⟩
  t3 := let ⟨q, a, b⟩ := T.t3; ⟨q, k _ a (fun e => let ⟨_, _, _, _, _, x⟩ := hb _ e; x rfl), b⟩
theorem keep_off {o' : Obj} : ∀ p ∈ led, p.1 ∉ [c] → p ∈ (c, o') :: offL c led := fun p hp h => .tail _ (mem_off.mpr ⟨hp, fun e => h (e ▸ List.mem_singleton_self _)⟩)
theorem Tabs.cell {v : Option Value} {o' : Obj} (T : Tabs led) (N : News g L h led) (hm : (c, o) ∈ led) (hd : o.data = .cell v) (hc : 91 < c) : Tabs ((c, o') :: offL c led) :=
  T.kept (bad := [c]) N (fun d hd' => by rw [List.mem_singleton.mp hd']; exact ⟨o, hm, fun vs e => (by rw [hd] at e; cases e), Nat.ne_of_gt (Nat.lt_trans (by decide) hc), Nat.ne_of_gt (Nat.lt_trans (by decide) hc), Nat.ne_of_gt hc⟩) keep_off
theorem Cell.mono {v : Option Value} (C : Cell led c v) (h : ∀ p ∈ led, p ∈ led') : Cell led' c v := let ⟨o, a, b⟩ := C; ⟨o, h _ a, b⟩
theorem Cell.other {v : Option Value} {d : Addr} {o' : Obj} (C : Cell led c v) (h : c ≠ d) : Cell ((d, o') :: offL d led) c v := let ⟨o, a, b⟩ := C; ⟨o, .tail _ (mem_off.mpr ⟨a, h⟩), b⟩
end
theorem body_of (w : World) (h : ∀ (g : Heap) (L l : Addr) (vs : List Value) (ns : List Int) (led : List (Addr × Obj)), Seg w g L (g.IsList l vs.toArray → IntsAre vs ns → ns.length ≤ 63 → (∀ i : Nat, 1 ≤ i → i ≤ 9 → Cell led (L + i) none) → Tabs led → Ends w g L 0 (fun y => if y = Str.ofString "script" then some (.ref l) else none) led)) : LawBody w := by
  intro p loose mean mg mb g L l vs ns led s Q E X B T hl hI hn hL F N hc Tb G hq
  exact h g L l vs ns led p loose mean mg mb X B T hL hl hI hn hc Tb s Q E F N G hq
theorem tail_cons {w : World} {k : Nat} {st : Stmt} (h : (bodyOf (mkK.heap_1 w.params) 169)[k]? = some st) : lawTail w k = st :: lawTail w (k + 1) := by
  unfold lawTail
  obtain ⟨hk, e⟩ := List.getElem?_eq_some_iff.mp h
  rw [List.drop_eq_getElem_cons hk, e]
theorem Fr.as {g h : Heap} {L : Addr} {m m' : Str → Option Value} (F : Fr g L h m) (e : m = m') : Fr g L h m' := e ▸ F
theorem upd_two {x : Str} {a b : Option Value} {f : Str → Option Value} : (fun y => if y = x then a else (fun y => if y = x then b else f y) y) = fun y => if y = x then a else f y := by
  funext y
  by_cases e : y = x
  · rw [if_pos e, if_pos e]
  · rw [if_neg e, if_neg e]; exact if_neg e
theorem ad_ne {L : Addr} {i j : Nat} (h : i ≠ j := by decide) : L + i ≠ L + j := fun e => h (Nat.add_left_cancel e)
theorem ad_lt {L : Addr} {i : Nat} (h : 91 < L) : 91 < L + i := Nat.lt_of_lt_of_le h (Nat.le_add_right _ _)
theorem abs_as (x : Int) : (if x < 0 then -x else x) = (x.natAbs : Int) := by omega
theorem mem_as {α : Type _} {a : α} {l : List α} (h : a ∈ l) : List.Mem a l := h
end Mine
end

local macro_rules | `(tactic| k_mem) => `(tactic| first | with_reducible assumption | (with_reducible refine Mine.mem_as ?_; with_reducible assumption))

section
open PySem PySem.W PyProof.Rows PySem.Calls
set_option Elab.async false
set_option maxRecDepth 100000
set_option maxHeartbeats 2000000
set_option linter.unusedVariables false
namespace Mine
/-- the six numbers, filled up -/
def drawnOf (ns : List Int) : List Int := ns.take 6 ++ [0, 1, 0, 0].drop (ns.take 6).length
section
local macro_rules | `(tactic| walk_at "subscriptTail") => `(tactic| (refine Halt.out ?_))
/-- statement 1 -/
theorem seg_a1 (w : World) (g : Heap) (L D0 : Addr) (m : Str → Option Value) (ws : List Value) (ms : List Int) (c0 : Nat) (led : List (Addr × Obj)) (hI : IntsAre ws ms) (hn : ms.length ≤ 6)
    (next : ∀ D ys c led', IntsAre ys (ms ++ [0, 1, 0, 0].drop ms.length) → (D, listOf (List.toArray ys) c) ∈ led' → (∀ p ∈ led, p ∈ led') → Ends w g L 2 (fun y => if y = Str.ofString "drawn" then some (.ref D) else m y) led') :
    Seg w g L (Ends w g L 1 (fun y => if y = Str.ofString "drawn" then some (.ref D0) else m y) ((D0, listOf (List.toArray ws) c0) :: led)) := by
  have fk : mkK.heap_1 = mkK.heap_1 ∧ PySem.Challenge.rw_xp0011_01 = PySem.Challenge.rw_xp0011_01 := by
    k_fill
    exact ⟨rfl, rfl⟩
  intro p loose mean mg mb X B T hL s Q E F N G hq
  k_dflt (have ho := (show (mkK.heap_1 (w.params)).lookup 169 = some _ by k_is))
  have hs := (show (bodyOf (mkK.heap_1 (w.params)) 169)[1]? = some _ by unfold bodyOf; rw [ho]; rfl)
  clear ho
  rw [tail_cons hs]
  clear hs
  refine wpC_execs_cons (wpC_any ?_)
  k_steps
  rename Fr _ _ _ _ => F1
  rename News _ _ _ _ => N1
  refine Halt.go (kba_turn (value' := PySem.Expr.Name (Str.ofString "_") ⟨0, 0, 0, 0⟩) (fun _ => rfl) ?_)
  refine kmk_slice_ints (ms := [0, 1, 0, 0].drop ms.length) (c := _) (s := ⟨_, s.gens, s.drawn, _, s.os⟩) F1 N1 (News.isList N1 (.head _)) (IsPart.int _ _) IsPart.none (.cons _ _ (.cons _ _ (.cons _ _ (.cons _ _ .nil)))) ?m rfl ?_ ?s ?t ?z
  case m => exact (kmk_from (.cons _ _ (.cons _ _ (.cons _ _ (.cons _ _ .nil)))) (Int.natCast_nonneg _))
  case s => with_unfolding_all rfl
  case t => intro _; with_unfolding_all rfl
  case z => exact Nat.le_of_ble_eq_true rfl
  clear F1 N1
  intro D2 ws2 h2 F2 N2 l2 hI2 _ _
  k_steps
  rename Fr _ _ _ _ => F1
  rename News _ _ _ _ => N1
  rw [upd_two] at F1
  rename IntsAre _ (_ ++ _) => hd
  dsimp only
  refine next _ _ _ _ hd List.mem_cons_self ?_ _ Q E F1 N1 G hq
  exact (fun p hp => .tail _ (.tail _ (.tail _ (.tail _ hp))))
end
theorem seg_a (w : World) (g : Heap) (L l : Addr) (vs : List Value) (ns : List Int) (led : List (Addr × Obj)) (hl : g.IsList l vs.toArray) (hI : IntsAre vs ns) (hn : ns.length ≤ 63)
    (next : ∀ D ys c led', IntsAre ys (drawnOf ns) → (D, listOf (List.toArray ys) c) ∈ led' → (∀ p ∈ led, p ∈ led') → Ends w g L 2 (fun y => if y = Str.ofString "drawn" then some (.ref D) else if y = Str.ofString "script" then some (.ref l) else none) led') :
    Seg w g L (Ends w g L 0 (fun y => if y = Str.ofString "script" then some (.ref l) else none) led) := by
  have fk : mkK.heap_1 = mkK.heap_1 ∧ PySem.Challenge.rw_xp0011_01 = PySem.Challenge.rw_xp0011_01 := by
    k_fill
    exact ⟨rfl, rfl⟩
  intro p loose mean mg mb X B T hL s Q E F N G hq
  k_dflt (have ho := (show (mkK.heap_1 (w.params)).lookup 169 = some _ by k_is))
  have hs := (show (bodyOf (mkK.heap_1 (w.params)) 169)[0]? = some _ by unfold bodyOf; rw [ho]; rfl)
  clear ho
  rw [tail_cons hs]
  clear hs
  refine wpC_execs_cons (wpC_any ?_)
  k_steps
  rename Fr _ _ _ _ => F1
  rename News _ _ _ _ => N1
  rename IntsAre _ (List.take 6 ns) => hd
  refine seg_a1 w g L _ _ _ _ _ _ hd (by rw [List.length_take]; omega) (fun D ys c led' i1 i2 i3 => next D ys c led' i1 i2 fun p hp => i3 p (.tail _ hp)) p loose mean mg mb X B T hL _ Q E F1 N1 G hq
end Mine
end

section
open PySem PySem.W PyProof.Rows PySem.Calls
set_option Elab.async false
set_option maxRecDepth 100000
set_option maxHeartbeats 2000000
set_option linter.unusedVariables false
namespace Mine
section
local macro_rules | `(tactic| walk_at "storeName") => `(tactic| (refine Halt.out ?_))
theorem seg_b (w : World) (g : Heap) (L D : Addr) (m : Str → Option Value) (ys : List Value) (ds : List Int) (c : Nat) (led : List (Addr × Obj)) (Tb : Tabs led) (hm : (D, listOf (List.toArray ys) c) ∈ led) (hI : IntsAre ys ds) (hn : ds.length ≤ 6)
    (h1 : Cell led (L + 1) none) (h2 : Cell led (L + 2) none)
    (next : ∀ t1 t2 led', Cell led' (L + 1) (some (.int (ds.sum.natAbs : Int) t1)) → Cell led' (L + 2) (some (.str (Str.ofString "&>\";aq<mp") t2)) → (∀ p ∈ led, p.1 ≠ L + 1 → p.1 ≠ L + 2 → p ∈ led') → Tabs led' →
      Ends w g L 4 (fun y => if y = Str.ofString "drawn" then some (.ref D) else m y) led') :
    Seg w g L (Ends w g L 2 (fun y => if y = Str.ofString "drawn" then some (.ref D) else m y) led) := by
  have fk : mkK.heap_1 = mkK.heap_1 ∧ PySem.Challenge.rw_xp0011_01 = PySem.Challenge.rw_xp0011_01 := by
    k_fill
    exact ⟨rfl, rfl⟩
  intro p loose mean mg mb X B T hL s Q E F N G hq
  obtain ⟨o1, m1, d1⟩ := h1
  obtain ⟨o2, m2, d2⟩ := h2
  k_dflt (have ho := (show (mkK.heap_1 (w.params)).lookup 169 = some _ by k_is))
  have hs := (show (bodyOf (mkK.heap_1 (w.params)) 169)[2]? = some _ by unfold bodyOf; rw [ho]; rfl)
  clear ho
  rw [tail_cons hs]
  clear hs
  refine wpC_execs_cons (wpC_any ?_)
  have hl : s.heap.IsList D ys.toArray := News.isList N hm
  k_steps
  rename Fr _ _ _ _ => F1
  rename News _ _ _ _ => N1
  refine Halt.go (store_cell F1 N1 rfl m1 d1 fun h' o1' F2 N2 d1' => ?_)
  have e2 : (L + 2, o2) ∈ (L + 1, o1') :: offL (L + 1) led := .tail _ (mem_off.mpr ⟨m2, ad_ne⟩)
  k_dflt (have ho := (show (mkK.heap_1 (w.params)).lookup 169 = some _ by k_is))
  have hs := (show (bodyOf (mkK.heap_1 (w.params)) 169)[3]? = some _ by unfold bodyOf; rw [ho]; rfl)
  clear ho
  rw [tail_cons hs]
  clear hs
  refine wpC_execs_cons (wpC_any ?_)
  dsimp only
  k_steps
  refine Halt.go (store_cell F2 N2 rfl e2 d2 fun h' o2' F3 N3 d2' => ?_)
  have T1 := Tb.cell (o' := o1') N1 m1 d1 (ad_lt hL)
  rw [abs_as] at d1'
  refine next _ _ _ ⟨o1', .tail _ (mem_off.mpr ⟨.head _, ad_ne⟩), d1'⟩ ⟨o2', .head _, d2'⟩ (fun p hp a b => .tail _ (mem_off.mpr ⟨.tail _ (mem_off.mpr ⟨hp, a⟩), b⟩)) (T1.cell N2 e2 d2 (ad_lt hL)) _ Q E F3 N3 G hq
end
end Mine
end

section
open PySem PySem.W PyProof.Rows PySem.Calls
set_option Elab.async false
set_option maxRecDepth 100000
set_option maxHeartbeats 2000000
set_option linter.unusedVariables false
namespace Mine
/-- the signs in a row -/
def rowC : List Nat := [38, 62, 34, 59, 97, 113, 60, 109, 112]
theorem row_is : Str.ofString "&>\";aq<mp" = ⟨rowC.toArray⟩ := by decide +kernel
/-- a letter of the word -/
def letterOf (tot : Nat) (x : Int) : Nat := rowC.getD ((tot + 4 * (x % 3).toNat) % 9) 0
def wordOf (tot : Nat) (ds : List Int) : List Nat := ds.map (letterOf tot)
theorem letter_at (tot : Nat) (x : Int) : (⟨rowC.toArray⟩ : Str).cps[(tot + 4 * (x % 3).toNat) % 9]? = some (letterOf tot x) := by
  have h : (tot + 4 * (x % 3).toNat) % 9 < rowC.toArray.size := Nat.mod_lt _ (by decide)
  rw [Array.getElem?_eq_getElem h]
  congr 1
  unfold letterOf
  rw [List.getD_eq_getElem?_getD, List.getElem?_eq_getElem h, Option.getD_some]
  rfl
theorem sv_snoc (l : List (Str × Tok)) (z : Str) (t : Tok) : strValues l ++ [.str z t] = strValues (l ++ [(z, t)]) := by simp [strValues]
theorem idx_is (tot : Nat) (x : Int) : ((tot : Int) + 4 * x.fmod 3).fmod 9 = (((tot + 4 * (x % 3).toNat) % 9 : Nat) : Int) := by
  rw [Int.fmod_eq_emod_of_nonneg _ (by decide), Int.fmod_eq_emod_of_nonneg _ (by decide)]
  omega
section
local macro_rules | `(tactic| walk_at "eval ListComp") => `(tactic| (refine Halt.out ?_))
local macro_rules | `(tactic| walk_at "CompSrc") => `(tactic| (refine Halt.out ?_))
local macro_rules | `(tactic| walk_at "CompEnd") => `(tactic| (refine Halt.out ?_))
local macro_rules | `(tactic| walk_at "call builtin:str.join") => `(tactic| (refine Halt.out ?_))
local macro_rules | `(tactic| walk_at "subscriptTail") => `(tactic| (refine Halt.out ?_))
local macro_rules | `(tactic| walk_at "subscriptTail Name BinOp str int") => `(tactic| (refine Halt.out ?_))
local macro_rules | `(tactic| walk_at "eval Name") => `(tactic| (k_here; (with_reducible show wpAny _ _ (eval (Expr.Name _ _) (compEnvC _ _ _ _)) _ _ _); k_dflt (first | (refine' lcf_cell ?N ?c ?m ?d ?_ ?a ?b; (case a => rfl); (case b => rfl); (case N => k_asm); (case c => rfl); (case m => k_mem); (case d => k_asm); k_whole) | refine LCgL.ld_own (by k_asm) (by k_mem) (by assumption) (by assumption) ?_)))
theorem seg_c (w : World) (g : Heap) (L D : Addr) (m : Str → Option Value) (ys : List Value) (ds : List Int) (c : Nat) (led : List (Addr × Obj)) (tot : Nat) (t1 t2 : Tok) (hm : (D, listOf (List.toArray ys) c) ∈ led) (hI : IntsAre ys ds) (hn : ds.length ≤ 6)
    (h1 : Cell led (L + 1) (some (.int (tot : Int) t1))) (h2 : Cell led (L + 2) (some (.str (Str.ofString "&>\";aq<mp") t2)))
    (next : ∀ t, Ends w g L 5 (fun y => if y = Str.ofString "word" then some (.str ⟨(wordOf tot ds).toArray⟩ t) else if y = Str.ofString "drawn" then some (.ref D) else m y) led) :
    Seg w g L (Ends w g L 4 (fun y => if y = Str.ofString "drawn" then some (.ref D) else m y) led) := by
  have fk : mkK.heap_1 = mkK.heap_1 ∧ PySem.Challenge.rw_xp0011_01 = PySem.Challenge.rw_xp0011_01 := by
    k_fill
    exact ⟨rfl, rfl⟩
  intro p loose mean mg mb X B T hL s Q E F N G hq
  obtain ⟨o1, m1, d1⟩ := h1
  obtain ⟨o2, m2, d2⟩ := h2
  k_dflt (have ho := (show (mkK.heap_1 (w.params)).lookup 169 = some _ by k_is))
  have hs := (show (bodyOf (mkK.heap_1 (w.params)) 169)[4]? = some _ by unfold bodyOf; rw [ho]; rfl)
  clear ho
  rw [tail_cons hs]
  clear hs
  refine wpC_execs_cons (wpC_any ?_)
  k_steps
  refine Halt.go ?_
  k_dflt (refine LCg.ListComp_U (cl := [(Str.ofString "total", L + 1), (Str.ofString "row", L + 2)]) F rfl (by decide) rfl (by decide) rfl ?_)
  k_steps
  refine Halt.go ?_
  refine LCg.CompSrc.ledger rfl F N hm (by rw [List.size_toArray, hI.length]; exact Nat.le_trans hn (by decide +kernel)) fun g' => ?_
  refine compRest_of (fun i zs nw => ∃ l, zs = strValues l ∧ l.map (·.1) = (ds.take i).map (fun x => (⟨#[letterOf tot x]⟩ : Str)) ∧ nw = led) ?_ ?_ _ 0 [] _ (Nat.zero_add _) ⟨[], rfl, rfl, rfl⟩
  · rintro i ys' nw v I oI C oC D' m₂ h5 tk5 E5 hi ⟨l, rfl, hl, rfl⟩ hv hC hx F5 N5 off ne
    obtain ⟨x, u, rfl, hx2⟩ := hI.at i v (by simpa using hv)
    k_steps
    rw [row_is, idx_is]
    refine Halt.go (str_item (by decide) (letter_at tot x) ?_)
    k_steps
    refine Halt.go ⟨_, _, _, rfl, F5, N5, off, .inr ⟨_, hm, rfl, _, rfl⟩, _, sv_snoc _ _ _, ?_, rfl⟩
    rw [List.map_append, hl, List.take_add_one, hx2]
    simp
  · rintro ys' nw ⟨l, rfl, hl, rfl⟩
    intro D' h6 tk6 F6 N6 off
    have hd6 : ys.toArray.size = ds.length := by rw [List.size_toArray, hI.length]
    rw [hd6, List.take_length] at hl
    k_steps
    refine Halt.go (SC.join ⟨_, (N6 _ List.mem_cons_self).1, rfl, _, rfl⟩ rfl ?_ fun t' k => ?_)
    · rw [hl]
      refine joinOk_of_weight ?_ (by decide)
      have hb := StrLaws.sumLen_le (B := 1) (ds.map (fun x => (⟨#[letterOf tot x]⟩ : Str))) fun y hy => by
        obtain ⟨c, _, rfl⟩ := List.mem_map.mp hy
        exact Nat.le_refl _
      rw [List.length_map] at hb ⊢
      omega
    · have ev : Txt.join (Str.ofString "") (l.map (·.1)) = ⟨(wordOf tot ds).toArray⟩ := by
        refine str_ext ?_
        rw [hl]
        unfold Txt.join
        rw [StrLaws.glued_eq_join, show ds.map (fun x => (⟨#[letterOf tot x]⟩ : Str)) = (wordOf tot ds).map (fun c => (⟨[c].toArray⟩ : Str)) by unfold wordOf; rw [List.map_map]; rfl, join_empty (fun c => [c])]
        simp
      rw [ev]
      k_steps
      rename Fr _ _ _ _ => F7
      rename News _ _ _ _ => N7
      exact next _ _ Q E F7 (news_sub N7 fun p hp => .tail _ hp) G hq
end
end Mine
end

section
open PySem PySem.W PyProof.Rows PySem.Calls
set_option Elab.async false
set_option maxRecDepth 100000
set_option maxHeartbeats 2000000
set_option linter.unusedVariables false
namespace Mine
section
local macro_rules | `(tactic| walk_at "storeName") => `(tactic| (refine Halt.out ?_))
theorem wd_is (tot : Nat) : (8 : Int) + ((tot : Int).fdiv 9).fmod 300 = ((8 + tot / 9 % 300 : Nat) : Int) := by
  rw [Int.fdiv_eq_ediv_of_nonneg _ (by decide), Int.fmod_eq_emod_of_nonneg _ (by decide)]
  omega
theorem seg_d (w : World) (g : Heap) (L : Addr) (m : Str → Option Value) (led : List (Addr × Obj)) (tot : Nat) (t1 : Tok) (Tb : Tabs led)
    (h1 : Cell led (L + 1) (some (.int (tot : Int) t1))) (h3 : Cell led (L + 3) none)
    (next : ∀ t led', Cell led' (L + 3) (some (.int ((8 + tot / 9 % 300 : Nat) : Int) t)) → (∀ p ∈ led, p.1 ≠ L + 3 → p ∈ led') → Tabs led' → Ends w g L 6 m led') :
    Seg w g L (Ends w g L 5 m led) := by
  have fk : mkK.heap_1 = mkK.heap_1 ∧ PySem.Challenge.rw_xp0011_01 = PySem.Challenge.rw_xp0011_01 := by
    k_fill
    exact ⟨rfl, rfl⟩
  intro p loose mean mg mb X B T hL s Q E F N G hq
  obtain ⟨o1, m1, d1⟩ := h1
  obtain ⟨o3, m3, d3⟩ := h3
  k_dflt (have ho := (show (mkK.heap_1 (w.params)).lookup 169 = some _ by k_is))
  have hs := (show (bodyOf (mkK.heap_1 (w.params)) 169)[5]? = some _ by unfold bodyOf; rw [ho]; rfl)
  clear ho
  rw [tail_cons hs]
  clear hs
  refine wpC_execs_cons (wpC_any ?_)
  k_steps
  rw [wd_is]
  refine Halt.go (store_cell F N rfl m3 d3 fun h' o' F2 N2 d' => ?_)
  exact next _ _ ⟨o', .head _, d'⟩ (fun p hp a => .tail _ (mem_off.mpr ⟨hp, a⟩)) (Tb.cell N m3 d3 (ad_lt hL)) _ Q E F2 N2 G hq
end
end Mine
end

section
open PySem PySem.W PyProof.Rows PySem.Calls
set_option Elab.async false
set_option maxRecDepth 100000
set_option maxHeartbeats 2000000
set_option linter.unusedVariables false
namespace Mine
section
local macro_rules | `(tactic| walk_at "eval ListComp") => `(tactic| (refine Halt.out ?_))
local macro_rules | `(tactic| walk_at "call type:bytes") => `(tactic| (refine Halt.out ?_))
local macro_rules | `(tactic| walk_at "pyIter") => `(tactic| (refine Halt.out ?_))
local macro_rules | `(tactic| walk_at "pyIter str") => `(tactic| (refine Halt.out ?_))
local macro_rules | `(tactic| walk_at "CompEnd") => `(tactic| (refine Halt.out ?_))
local macro_rules | `(tactic| walk_at "call builtin:len") => `(tactic| (refine Halt.out ?_))
theorem seg_e (w : World) (g : Heap) (L : Addr) (m : Str → Option Value) (led : List (Addr × Obj)) (us : List Nat) (t : Tok) (hu : us.length ≤ 6) (hu0 : 0 < us.length) (hv : ∀ c ∈ us, c < 256)
    (next : ∀ t', Ends w g L 7 (fun y => if y = Str.ofString "turned" then some (.bytes (byteArr (us.map Int.ofNat)).reverse t') else if y = Str.ofString "word" then some (.str ⟨us.toArray⟩ t) else m y) led) :
    Seg w g L (Ends w g L 6 (fun y => if y = Str.ofString "word" then some (.str ⟨us.toArray⟩ t) else m y) led) := by
  have fk : mkK.heap_1 = mkK.heap_1 ∧ PySem.Challenge.rw_xp0011_01 = PySem.Challenge.rw_xp0011_01 := by
    k_fill
    exact ⟨rfl, rfl⟩
  intro p loose mean mg mb X B T hL s Q E F N G hq
  k_dflt (have ho := (show (mkK.heap_1 (w.params)).lookup 169 = some _ by k_is))
  have hs := (show (bodyOf (mkK.heap_1 (w.params)) 169)[6]? = some _ by unfold bodyOf; rw [ho]; rfl)
  clear ho
  rw [tail_cons hs]
  clear hs
  refine wpC_execs_cons (wpC_Assign_Name (wpC_Call_Name (trees := [(false, eval _ _), (false, eval _ _)]) rfl ?_))
  k_steps
  refine wpC_callWith (spliced_cons ?_)
  k_steps
  refine Halt.go ?_
  k_dflt (refine comp_L F rfl (by decide) rfl (by decide) rfl ?_)
  k_steps
  refine Halt.go ?_
  refine src_str rfl (by show us.length ≤ _; exact Nat.le_trans hu (by decide +kernel)) F N ?_
  intro gg
  refine compRest_of (fun i ys nw => IntsAre ys ((us.take i).map Int.ofNat) ∧ nw = led) ?_ ?_ _ 0 [] _ (Nat.zero_add _) ⟨.nil, rfl⟩
  · rintro i ys nw v I oI C oC D m₂ h5 tk5 E5 hi ⟨hys, rfl⟩ ⟨c, u, hc, rfl⟩ hC hx F5 N5 off ne
    k_steps
    refine Halt.go ⟨_, _, _, rfl, F5, N5, off, trivial, ?_, rfl⟩
    rw [List.take_add_one, show us[i]? = some c by simpa using hc, List.map_append]
    exact IntsAre.append hys (.cons _ _ .nil)
  · rintro ys nw ⟨hys, rfl⟩
    intro D h6 tk6 F6 N6 off
    have ez : (⟨us.toArray⟩ : Str).cps.size = us.length := List.size_toArray
    rw [ez, List.take_length] at hys
    k_steps
    refine Halt.go (call_bytes_ints ⟨_, (N6 _ List.mem_cons_self).1, rfl, _, rfl⟩ hys (fun z hz9 => ?_) ?_ rfl fun h7 t7 k7 hk7 => ?_)
    · obtain ⟨c, hc, rfl⟩ := List.mem_map.mp hz9
      have := hv c hc
      show (0 : Int) ≤ (c : Int) ∧ (c : Int) < 256
      omega
    · rw [hys.length, List.length_map]
      exact Nat.le_trans hu (by decide +kernel)
    have F7 := F6.keeps hk7
    have N7 : News g L h7 nw := fun p hp => ⟨hk7 _ _ (N6 p (.tail _ hp)).1, (N6 p (.tail _ hp)).2⟩
    clear F6 N6
    dsimp only
    k_steps
    refine spliced_cons ?_
    k_steps
    refine Halt.go (str_len (by rw [ez]; omega) ?_)
    refine spliced_nil ?_
    refine ⟨fnAt_K (X.keeps F7.keep) (by kernel_rfl), ?_⟩
    have hbs : (byteArr (us.map Int.ofNat)).size = us.length := by rw [byteArr_size, List.length_map]
    rw [ez, ← hbs]
    refine DoesC.use (byteswap_does w (byteArr (us.map Int.ofNat)) _ _ (by rw [hbs]; exact hu0) (by rw [hbs]; omega)) X B F7 N7 T rfl (by decide +kernel) (by decide +kernel) ?_
    rintro _ _ h10 tk10 ⟨t10, rfl, rfl⟩ F10 N10 hlt10
    rw [List.nil_append] at N10
    k_steps
    rename Fr _ _ _ _ => F11
    rename News _ _ _ _ => N11
    exact next _ _ Q E F11 N11 G hq
end
end Mine
end

section
open PySem PySem.W PyProof.Rows PySem.Calls
set_option Elab.async false
set_option maxRecDepth 100000
set_option maxHeartbeats 2000000
set_option linter.unusedVariables false
namespace Mine
theorem sv_snoc2 (l : List (Str × Tok)) (z : Str) (t : Tok) : strValues l ++ [.str z t] = strValues (l ++ [(z, t)]) := by simp [strValues]
section
local macro_rules | `(tactic| walk_at "eval ListComp") => `(tactic| (refine Halt.out ?_))
local macro_rules | `(tactic| walk_at "CompEnd") => `(tactic| (refine Halt.out ?_))
local macro_rules | `(tactic| walk_at "call builtin:str.join") => `(tactic| (refine Halt.out ?_))
local macro_rules | `(tactic| walk_at "call builtin:chr") => `(tactic| (refine Halt.out ?_))
local macro_rules | `(tactic| walk_at "pyIter") => `(tactic| (refine Halt.out ?_))
local macro_rules | `(tactic| walk_at "pyIter bytes") => `(tactic| (refine Halt.out ?_))
/-- statement 7: mirrored -/
theorem seg_f (w : World) (g : Heap) (L : Addr) (m : Str → Option Value) (led : List (Addr × Obj)) (us : List Nat) (t : Tok) (hu : us.length ≤ 6) (hv : ∀ c ∈ us, c < 256)
    (next : ∀ t', Ends w g L 8 (fun y => if y = Str.ofString "mirrored" then some (.str ⟨us.reverse.toArray⟩ t') else if y = Str.ofString "turned" then some (.bytes (byteArr (us.map Int.ofNat)).reverse t) else m y) led) :
    Seg w g L (Ends w g L 7 (fun y => if y = Str.ofString "turned" then some (.bytes (byteArr (us.map Int.ofNat)).reverse t) else m y) led) := by
  have fk : mkK.heap_1 = mkK.heap_1 ∧ PySem.Challenge.rw_xp0011_01 = PySem.Challenge.rw_xp0011_01 := by
    k_fill
    exact ⟨rfl, rfl⟩
  intro p loose mean mg mb X B T hL s Q E F N G hq
  k_dflt (have ho := (show (mkK.heap_1 (w.params)).lookup 169 = some _ by k_is))
  have hs := (show (bodyOf (mkK.heap_1 (w.params)) 169)[7]? = some _ by unfold bodyOf; rw [ho]; rfl)
  clear ho
  rw [tail_cons hs]
  clear hs
  refine wpC_execs_cons (wpC_any ?_)
  k_steps
  refine Halt.go ?_
  k_dflt (refine comp_L F rfl (by decide) rfl (by decide) rfl ?_)
  k_steps
  refine Halt.go ?_
  have hrev : (byteArr (us.map Int.ofNat)).reverse.size = us.length := by rw [Array.size_reverse, byteArr_size, List.length_map]
  refine src_bytes rfl (by rw [hrev]; exact Nat.le_trans hu (by decide +kernel)) F N ?_
  intro gg
  refine compRest_of (fun i zs nw => ∃ l, zs = strValues l ∧ l.map (·.1) = (us.reverse.take i).map (fun c => (⟨[c].toArray⟩ : Str)) ∧ nw = led) ?_ ?_ _ 0 [] _ (Nat.zero_add _) ⟨[], rfl, rfl, rfl⟩
  · rintro i ys nw v I oI C oC D m₂ h5 tk5 E5 hi ⟨l, rfl, hl, rfl⟩ ⟨c, u, hc, rfl⟩ hC hx F5 N5 off ne
    have hc2 := byteArr_rev hv hc
    k_steps
    have hb := UInt8.toNat_lt c
    refine Halt.go (chr_of_range (by omega) (by omega) ?_)
    rw [Int.toNat_natCast]
    k_steps
    refine Halt.go ⟨_, _, _, rfl, F5, N5, off, trivial, _, sv_snoc2 _ _ _, ?_, rfl⟩
    rw [List.map_append, hl, List.take_add_one, hc2]
    simp
  · rintro ys' nw ⟨l, rfl, hl, rfl⟩
    intro D' h6 tk6 F6 N6 off
    rw [hrev, show us.reverse.take us.length = us.reverse from List.take_of_length_le (by rw [List.length_reverse]; exact Nat.le_refl _)] at hl
    k_steps
    refine Halt.go (SC.join ⟨_, (N6 _ List.mem_cons_self).1, rfl, _, rfl⟩ rfl ?_ fun t' k => ?_)
    · rw [hl]
      refine joinOk_of_weight ?_ (by decide)
      have hb := StrLaws.sumLen_le (B := 1) (us.reverse.map (fun c => (⟨[c].toArray⟩ : Str))) fun y hy => by
        obtain ⟨c, _, rfl⟩ := List.mem_map.mp hy
        exact Nat.le_refl _
      rw [List.length_map, List.length_reverse] at hb ⊢
      omega
    · have ev : Txt.join (Str.ofString "") (l.map (·.1)) = ⟨us.reverse.toArray⟩ := by
        refine str_ext ?_
        rw [hl]
        unfold Txt.join
        rw [StrLaws.glued_eq_join, join_empty (fun c => [c])]
        simp
      rw [ev]
      k_steps
      rename Fr _ _ _ _ => F7
      rename News _ _ _ _ => N7
      exact next _ _ Q E F7 (news_sub N7 fun p hp => .tail _ hp) G hq
end
section
local macro_rules | `(tactic| walk_at "call ref") => `(tactic| (refine Halt.out ?_))
/-- statement 8: written -/
theorem seg_g (w : World) (g : Heap) (L : Addr) (m : Str → Option Value) (led : List (Addr × Obj)) (us : List Nat) (t t2 t3 : Value) (u : Tok) (hu : us.length ≤ 6)
    (next : ∀ t', Ends w g L 9 (fun y => if y = Str.ofString "written" then some (.str (encS ⟨us.toArray⟩) t') else if y = Str.ofString "mirrored" then some t2 else if y = Str.ofString "turned" then some t3 else if y = Str.ofString "word" then some (.str ⟨us.toArray⟩ u) else m y) led) :
    Seg w g L (Ends w g L 8 (fun y => if y = Str.ofString "mirrored" then some t2 else if y = Str.ofString "turned" then some t3 else if y = Str.ofString "word" then some (.str ⟨us.toArray⟩ u) else m y) led) := by
  have fk : mkK.heap_1 = mkK.heap_1 ∧ PySem.Challenge.rw_xp0011_01 = PySem.Challenge.rw_xp0011_01 := by
    k_fill
    exact ⟨rfl, rfl⟩
  intro p loose mean mg mb X B T hL s Q E F N G hq
  k_dflt (have ho := (show (mkK.heap_1 (w.params)).lookup 169 = some _ by k_is))
  have hs := (show (bodyOf (mkK.heap_1 (w.params)) 169)[8]? = some _ by unfold bodyOf; rw [ho]; rfl)
  clear ho
  rw [tail_cons hs]
  clear hs
  refine wpC_execs_cons (wpC_any ?_)
  k_steps
  refine Halt.go (Does.use (escape_does w ⟨us.toArray⟩ _ (by rw [show (⟨us.toArray⟩ : Str).length = us.length from List.size_toArray]; omega)) X B F N T rfl (by decide +kernel) (by decide +kernel) ?_)
  rintro _ _ h10 tk10 ⟨t10, rfl, rfl⟩ F10 N10 hlt10
  rw [List.nil_append] at N10
  k_steps
  rename Fr _ _ _ _ => F11
  rename News _ _ _ _ => N11
  exact next _ _ Q E F11 N11 G hq
end
end Mine
end

section
open PySem PySem.W PyProof.Rows PySem.Calls
set_option Elab.async false
set_option maxRecDepth 100000
set_option maxHeartbeats 2000000
set_option linter.unusedVariables false
namespace Mine
section
local macro_rules | `(tactic| walk_at "call ref") => `(tactic| (refine Halt.out ?_))
/-- statement 9: ring -/
theorem seg_h (w : World) (g : Heap) (L : Addr) (m : Str → Option Value) (led : List (Addr × Obj)) (v : Value) (Tb : Tabs led)
    (next : ∀ (x dx : Addr) hs t u c led', led' = (x, accO dx [] 0) :: (dx, iniD hs t u c) :: led → dx < x → (∀ p ∈ led, p.1 < dx) → Ends w g L 10 (fun y => if y = Str.ofString "ring" then some (Value.ref x) else if y = Str.ofString "written" then some v else m y) led') :
    Seg w g L (Ends w g L 9 (fun y => if y = Str.ofString "written" then some v else m y) led) := by
  have fk : mkK.heap_1 = mkK.heap_1 ∧ PySem.Challenge.rw_xp0011_01 = PySem.Challenge.rw_xp0011_01 := by
    k_fill
    exact ⟨rfl, rfl⟩
  intro p loose mean mg mb X B T hL s Q E F N G hq
  k_dflt (have ho := (show (mkK.heap_1 (w.params)).lookup 169 = some _ by k_is))
  have hs := (show (bodyOf (mkK.heap_1 (w.params)) 169)[9]? = some _ by unfold bodyOf; rw [ho]; rfl)
  clear ho
  rw [tail_cons hs]
  clear hs
  refine wpC_execs_cons (wpC_any ?_)
  k_steps
  refine Halt.go (Gets.use (ring_made w led) X B F N T rfl G (by decide +kernel) (by decide +kernel) ?_)
  rintro _ _ s1 ⟨x, dx, hs, t, u, c, rfl, rfl, l1, l2⟩ F1 N1 G1 os1
  k_steps
  rename Fr _ _ _ _ => F11
  rename News _ _ _ _ => N11
  exact next x dx hs t u c _ rfl l2 l1 _ Q E F11 N11 G1 (fun s' m' led' a b c d e => hq s' m' led' a b c d (e.trans os1))
end
end Mine
end

section
open PySem PySem.W PySem.Calls PyProof.Rows
set_option Elab.async false
set_option maxRecDepth 100000
set_option maxHeartbeats 1000000
set_option linter.unusedVariables false
namespace Mine
section
variable {prog : Program} {w : World} {A : Around} {s : Shared} {h₀ : Heap} {env : Env} {x : Str} {px : Pos} {body : List Stmt} {R : Result → Shared → Prop} {I : Addr} {n : Nat} {P : Nat → Value → Prop} {St : Nat → Heap → Prop} {m₀ : Str → Option Value} {news₀ : List (Addr × Obj)}
/-- how a turn of a loop ends, where generators may have been made -/
def TurnG (h₀ : Heap) (L I : Addr) (o : Obj) (s : Shared) (J : (Str → Option Value) → List (Addr × Obj) → Prop) (R : Result → Shared → Prop) (f : Flow) (s₃ : Shared) : Prop :=
  match f with
  | .next | .cont => ∃ m' nx', s₃.os = s.os ∧ AllBare s₃.gens ∧ Fr h₀ L s₃.heap m' ∧ News h₀ L s₃.heap ((I, o) :: nx') ∧ (∀ p ∈ nx', p.1 ≠ I) ∧ J m' nx'
  | .brk => R (.ok .next) s₃
  | .ret v => R (.ok (.ret v)) s₃
theorem forG_w (W : Walks prog w A I [I] [I] n P St) (hIo : ∀ i h, St i h → ∃ o, h.get? I = some o) (hx : env.kindOf x = some .local) (hp : (env.scope.kind == .class || (env.scope.kind == .module && env.locals != env.globals)) = false)
    (hIL : I ≠ env.locals) (hI₀ : h₀.get? I = none) (J : Nat → (Str → Option Value) → List (Addr × Obj) → Prop)
    (hst : St 0 s.heap) (F : Fr h₀ env.locals s.heap m₀) (N : News h₀ env.locals s.heap news₀) (G : AllBare s.gens) (off : ∀ p ∈ news₀, p.1 ≠ I) (hj : J 0 m₀ news₀)
    (turn : ∀ i v o m₁ nx s', i < n → P i v → J i m₁ nx → (∀ p ∈ nx, p.1 ≠ I) → s'.os = s.os → AllBare s'.gens → Fr h₀ env.locals s'.heap (fun y => if y = x then some v else m₁ y) → News h₀ env.locals s'.heap ((I, o) :: nx) →
      wpC (model prog w) A (execs body env) (TurnG h₀ env.locals I o s (J (i + 1)) R) (notedBy (model prog w) A env fun e s' => R (.error e) s') s')
    (done : ∀ m₁ nx s', J n m₁ nx → s'.os = s.os → AllBare s'.gens → Fr h₀ env.locals s'.heap m₁ → News h₀ env.locals s'.heap nx → R (.ok .next) s') :
    codeC (model prog w) A (.forLoop (.Name x px) (.ref I) body [] env) R s := by
  refine codeC_forLoop (fun k s' => ∃ i m₁ nx, k = n + 1 - i ∧ i ≤ n ∧ St i s'.heap ∧ s'.os = s.os ∧ AllBare s'.gens ∧ Fr h₀ env.locals s'.heap m₁ ∧ News h₀ env.locals s'.heap nx ∧ (∀ p ∈ nx, p.1 ≠ I) ∧ J i m₁ nx) ?_ (n + 1)
    ⟨0, m₀, news₀, rfl, Nat.zero_le _, hst, rfl, G, F, N, off, hj⟩
  rintro k s' ⟨i, m₁, nx, rfl, hi, st, os, G, F, N, off, hJ⟩
  by_cases hlt : i < n
  · refine W.item i _ _ _ hlt st fun v h' tk' hP st' hk => ?_
    obtain ⟨o, ho⟩ := hIo _ _ st'
    obtain ⟨F', N'⟩ := loopInv_step hI₀ hIL F N off hk (ns_at hIL hk) ho
    dsimp only
    refine wpAny_assign_Name (wpAny_storeName_local hx F'.ns (fun h'' hn hs => ?_) hp)
    have st'' : St (i + 1) h'' := W.frame _ _ _ st' fun b hb q e => by
      rw [List.mem_singleton.mp hb] at e ⊢
      exact (hs.2 I hIL).trans e
    refine wpC_mono (turn i v o m₁ nx { s' with heap := h'', toks := tk' + 1 } hlt hP hJ off os G (F'.set hn hs) (N'.set hs)) (fun f s₃ t => ?_) fun _ _ x => x
    have go : (∃ m' nx', s₃.os = s.os ∧ AllBare s₃.gens ∧ Fr h₀ env.locals s₃.heap m' ∧ News h₀ env.locals s₃.heap ((I, o) :: nx') ∧ (∀ p ∈ nx', p.1 ≠ I) ∧ J (i + 1) m' nx') →
        ∃ m, m < n + 1 - i ∧ ∃ i m₁ nx, m = n + 1 - i ∧ i ≤ n ∧ St i s₃.heap ∧ s₃.os = s.os ∧ AllBare s₃.gens ∧ Fr h₀ env.locals s₃.heap m₁ ∧ News h₀ env.locals s₃.heap nx ∧ (∀ p ∈ nx, p.1 ≠ I) ∧ J i m₁ nx := by
      rintro ⟨m3, nx3, os3, G3, F3, N3, off3, J3⟩
      refine ⟨n + 1 - (i + 1), by omega, i + 1, m3, nx3, rfl, hlt, ?_, os3, G3, F3, fun p hp => N3 p (List.mem_cons_of_mem _ hp), off3, J3⟩
      refine W.frame _ _ _ st'' fun b hb q e => ?_
      rw [List.mem_singleton.mp hb] at e ⊢
      have e1 := (hs.2 I hIL).trans ho
      rw [e1] at e
      cases e
      exact (N3 (I, o) List.mem_cons_self).1
    cases f with
    | next => exact go t
    | cont => exact go t
    | brk => exact t
    | ret v => exact t
  · obtain rfl : i = n := Nat.le_antisymm hi (Nat.not_lt.mp hlt)
    refine W.done _ _ _ st fun h' tk' hk => wpAny_execs_nil ?_
    refine done m₁ nx { s' with heap := h', toks := tk' } hJ os G ⟨ns_at hIL hk _ F.ns, fun b q e => hk b q (fun hm => ?_) (F.keep b q e), F.above⟩ fun p hp => ⟨hk _ _ (fun hm => off p hp (List.mem_singleton.mp hm)) (N p hp).1, (N p hp).2⟩
    rw [List.mem_singleton.mp hm, hI₀] at e; cases e
theorem loopRange_G {r : Addr} {a b c : Int} {t u v : Tok} {k : Nat} {E : Value → Shared → Prop} (hh : A.handled = none) (hr : IsRange s.heap r a b c t u v) (hsmall : Builtin.Range.small a b c = true) (hk : Builtin.Range.rangeSize a b c = (k : Int))
    (hx : env.kindOf x = some .local) (hp : (env.scope.kind == .class || (env.scope.kind == .module && env.locals != env.globals)) = false)
    (F : Fr h₀ env.locals s.heap m₀) (N : News h₀ env.locals s.heap news₀) (G : AllBare s.gens) (J : Nat → (Str → Option Value) → List (Addr × Obj) → Prop) (hj : J 0 m₀ news₀)
    (turn : ∀ I i t o m₁ nx s', i < k → J i m₁ nx → (∀ p ∈ nx, p.1 ≠ I) → s'.os = s.os → AllBare s'.gens → Fr h₀ env.locals s'.heap (fun y => if y = x then some (.int (a + (i : Int) * c) t) else m₁ y) → News h₀ env.locals s'.heap ((I, o) :: nx) →
      wpC (model prog w) A (execs body env) (TurnG h₀ env.locals I o s (J (i + 1)) R) (notedBy (model prog w) A env fun e s' => R (.error e) s') s')
    (done : ∀ m₁ nx s', J k m₁ nx → s'.os = s.os → AllBare s'.gens → Fr h₀ env.locals s'.heap m₁ → News h₀ env.locals s'.heap nx → R (.ok .next) s') :
    wpAny (model prog w) A (pyIter (.ref r)) (fun it s₂ => codeC (model prog w) A (.forLoop (.Name x px) it body [] env) R s₂) E s := by
  refine wpAny_pyIter_range hr hsmall ?_
  rw [hk]
  refine forG_w (W := Walks.range hh s.heap.objs.size a c k) (s := { s with heap := _ }) (m₀ := m₀) (news₀ := news₀) (fun i h st => ⟨_, st⟩) hx hp (Nat.ne_of_gt F.ns.lt) (next_is_new F) J ?_ (F.push _) (fun p hp => ⟨Heap.get?_push_of_some _ (N p hp).1, (N p hp).2⟩) G
    (fun p hp => Nat.ne_of_lt (Heap.lt_size (N p hp).1)) hj ?_ done
  · show IsRangeIter _ _ _ _ _
    simpa using Heap.get?_push_size _ rfl
  · rintro i v o m₁ nx s' hi ⟨t, rfl⟩ hJ off os G₁ F₁ N₁
    exact turn _ i t o m₁ nx s' hi hJ off os G₁ F₁ N₁
theorem loopStr_G {z : Str} {tz : Tok} {E : Value → Shared → Prop} (hh : A.handled = none)
    (hx : env.kindOf x = some .local) (hp : (env.scope.kind == .class || (env.scope.kind == .module && env.locals != env.globals)) = false)
    (F : Fr h₀ env.locals s.heap m₀) (N : News h₀ env.locals s.heap news₀) (G : AllBare s.gens) (J : Nat → (Str → Option Value) → List (Addr × Obj) → Prop) (hj : J 0 m₀ news₀)
    (turn : ∀ I i c t o m₁ nx s', i < z.cps.size → z.cps[i]? = some c → J i m₁ nx → (∀ p ∈ nx, p.1 ≠ I) → s'.os = s.os → AllBare s'.gens → Fr h₀ env.locals s'.heap (fun y => if y = x then some (.str ⟨#[c]⟩ t) else m₁ y) → News h₀ env.locals s'.heap ((I, o) :: nx) →
      wpC (model prog w) A (execs body env) (TurnG h₀ env.locals I o s (J (i + 1)) R) (notedBy (model prog w) A env fun e s' => R (.error e) s') s')
    (done : ∀ m₁ nx s', J z.cps.size m₁ nx → s'.os = s.os → AllBare s'.gens → Fr h₀ env.locals s'.heap m₁ → News h₀ env.locals s'.heap nx → R (.ok .next) s') :
    wpAny (model prog w) A (pyIter (.str z tz)) (fun it s₂ => codeC (model prog w) A (.forLoop (.Name x px) it body [] env) R s₂) E s := by
  cases ha : z.cps.all (· < 128)
  · refine wpAny_pyIter_wide ha ?_
    refine forG_w (W := Walks.strWide hh s.heap.objs.size z tz) (s := { s with heap := _ }) (m₀ := m₀) (news₀ := news₀) (fun i h st => let ⟨o, e, _⟩ := st; ⟨o, e⟩) hx hp (Nat.ne_of_gt F.ns.lt) (next_is_new F) J ⟨_, Heap.get?_push_size _ rfl, rfl, rfl⟩ (F.push _) (fun p hp => ⟨Heap.get?_push_of_some _ (N p hp).1, (N p hp).2⟩) G
      (fun p hp => Nat.ne_of_lt (Heap.lt_size (N p hp).1)) hj ?_ done
    rintro i v o m₁ nx s' hi ⟨c, t, hc, rfl⟩ hJ off os G₁ F₁ N₁
    exact turn _ i c t o m₁ nx s' hi hc hJ off os G₁ F₁ N₁
  · refine wpAny_pyIter_ascii ha ?_
    refine forG_w (W := Walks.strAscii hh s.heap.objs.size z tz) (s := { s with heap := _ }) (m₀ := m₀) (news₀ := news₀) (fun i h st => let ⟨o, e, _⟩ := st; ⟨o, e⟩) hx hp (Nat.ne_of_gt F.ns.lt) (next_is_new F) J ⟨_, Heap.get?_push_size _ rfl, rfl, rfl⟩ (F.push _) (fun p hp => ⟨Heap.get?_push_of_some _ (N p hp).1, (N p hp).2⟩) G
      (fun p hp => Nat.ne_of_lt (Heap.lt_size (N p hp).1)) hj ?_ done
    rintro i v o m₁ nx s' hi ⟨c, t, hc, rfl⟩ hJ off os G₁ F₁ N₁
    exact turn _ i c t o m₁ nx s' hi hc hJ off os G₁ F₁ N₁
end
end Mine
end

section
open PySem PySem.W PyProof.Rows PySem.Calls
set_option Elab.async false
set_option maxRecDepth 100000
set_option maxHeartbeats 2000000
set_option linter.unusedVariables false
namespace Mine
/-- around a call that the law's body makes within a call of a builtin -/
abbrev lawAt (L : Addr) (un : Nat) : Around := ktrTop (2 + claimMargin) un (some []) (Str.ofString "law") lawScope L 169 (.ref 168) (lawCl L) []
/-- the ring in an open ledger -/
structure Ring (led : List (Addr × Obj)) (x dx : Addr) (vs : List Value) : Prop where
  rx : ∃ c, (x, accO dx vs c) ∈ led
  rd : ∃ hs t u k, (dx, iniD hs t u k) ∈ led
  ne : dx ≠ x
  h1 : 91 < dx
  h2 : 91 < x
/-- what a method of the ring leaves as it was -/
def Left (x dx : Addr) (led led' : List (Addr × Obj)) : Prop := ∀ p ∈ led, p.1 ≠ x → p.1 ≠ dx → p ∈ led'
abbrev outR (x dx : Addr) (led : List (Addr × Obj)) : List (Addr × Obj) := offL dx (offL x led)
section
variable {g h : Heap} {L x dx : Addr} {led led' : List (Addr × Obj)} {vs : List Value}
theorem out_x : ∀ p ∈ outR x dx led, p.1 ≠ x := fun p hp => (mem_off.mp (mem_off.mp hp).1).2
theorem out_dx : ∀ p ∈ outR x dx led, p.1 ≠ dx := fun p hp => (mem_off.mp hp).2
theorem out_in {p : Addr × Obj} (h : p ∈ led) (a : p.1 ≠ x) (b : p.1 ≠ dx) : p ∈ outR x dx led := mem_off.mpr ⟨mem_off.mpr ⟨h, a⟩, b⟩
theorem out_of {p : Addr × Obj} (h : p ∈ outR x dx led) : p ∈ led := (mem_off.mp (mem_off.mp h).1).1
theorem Ring.news (R : Ring led x dx vs) (N : News g L h led) : ∃ c hs t u k, News g L h ((x, accO dx vs c) :: (dx, iniD hs t u k) :: outR x dx led) :=
  let ⟨c, hx⟩ := R.rx
  let ⟨hs, t, u, k, hd⟩ := R.rd
  ⟨c, hs, t, u, k, news_sub N fun p hp => by
    rcases List.mem_cons.mp hp with rfl | hp
    · exact hx
    rcases List.mem_cons.mp hp with rfl | hp
    · exact hd
    · exact out_of hp⟩
theorem Ring.tabs (R : Ring led x dx vs) (N : News g L h led) (T : Tabs led) (k : Left x dx led led') : Tabs led' :=
  T.kept (bad := [x, dx]) N (fun c hc => by
    obtain ⟨c1, hx⟩ := R.rx
    obtain ⟨hs, t, u, k1, hd⟩ := R.rd
    rcases List.mem_cons.mp hc with rfl | hc
    · exact ⟨_, hx, fun vs e => (by cases e), Nat.ne_of_gt (Nat.lt_trans (by decide) R.h2), Nat.ne_of_gt (Nat.lt_trans (by decide) R.h2), Nat.ne_of_gt R.h2⟩
    · rw [List.mem_singleton.mp hc]
      exact ⟨_, hd, fun vs e => (by cases e), Nat.ne_of_gt (Nat.lt_trans (by decide) R.h1), Nat.ne_of_gt (Nat.lt_trans (by decide) R.h1), Nat.ne_of_gt R.h1⟩) fun p hp hb => k p hp (fun e => hb (e ▸ .head _)) fun e => hb (e ▸ .tail _ (.head _))
/-- an object of another make stands apart from the ring -/
theorem Ring.apart (R : Ring led x dx vs) (N : News g L h led) {c : Addr} {o : Obj} (hm : (c, o) ∈ led) (h1 : ∀ ws n, o.data = .seq ws n → o.dict = none) (h2 : ∀ es ep, o.data ≠ .dict es ep) : c ≠ x ∧ c ≠ dx := by
  obtain ⟨c1, hx⟩ := R.rx
  obtain ⟨hs, t, u, k1, hd⟩ := R.rd
  refine ⟨fun e => ?_, fun e => ?_⟩
  · subst e
    have e := news_same N hm hx
    subst e
    exact absurd (h1 _ _ rfl) (by intro e; cases e)
  · subst e
    have e := news_same N hm hd
    subst e
    exact h2 _ _ rfl
theorem Cell.left {c : Addr} {v : Option Value} (C : Cell led c v) (R : Ring led x dx vs) (N : News g L h led) (k : Left x dx led led') : Cell led' c v := by
  obtain ⟨o, hm, hd⟩ := C
  obtain ⟨a, b⟩ := R.apart N hm (fun ws n e => by rw [hd] at e; cases e) (fun es ep e => by rw [hd] at e; cases e)
  exact ⟨o, k _ hm a b, hd⟩
theorem Pieces.left {ws : List Value} {ps : List Str} (C : Pieces ws ps led) (R : Ring led x dx vs) (N : News g L h led) (k : Left x dx led led') : Pieces ws ps led' where
  len := C.len
  item := fun j p hj => let ⟨D, t1, t2, kk, a, b⟩ := C.item j p hj; ⟨D, t1, t2, kk, a, let ⟨u, v⟩ := R.apart N b (fun _ _ _ => rfl) (fun es ep e => by cases e); k _ b u v⟩
end
section
variable {w : World} {p : Program} {loose : List Str} {mean : ExcName → Option Value} {mg mb : Str → Option Value} {g : Heap} {L x dx : Addr} {m : Str → Option Value} {led : List (Addr × Obj)} {vs : List Value} {s : Shared} {Q E : Value → Shared → Prop}
theorem push_use {a b : Value} {un : Nat} (X : (mkK.heap_1 w.params).In g) (B : Below callerA g [] g) (F : Fr g L s.heap m) (N : News g L s.heap led) (T : Top p loose mean mg mb g) (G : AllBare s.gens) (R : Ring led x dx vs) (hz : vs.length ≤ 1000)
    (hun : un ≤ 20) (ret : ∀ D k2 led' s', Ring led' x dx (vs ++ [.ref D]) → (D, tupO [a, b] k2) ∈ led' → (∀ p ∈ led, p.1 ≠ x → p.1 ≠ dx → p.1 ≠ D) → Left x dx led led' → Fr g L s'.heap m → News g L s'.heap led' → AllBare s'.gens → s'.os = s.os → Q .none s') :
    wpAny (model PySem.Challenge.rw_xp0011_01.row.prog w) (lawAt L un) (call (.ref 66) [.ref x, a, b]) Q E s := by
  obtain ⟨c, hs, t, u, k, N1⟩ := R.news N
  refine Gets.use (push_gets w x dx vs c hs t u k _ a b out_x R.ne hz) X B F N1 T rfl G (by decide +kernel) (Nat.lt_of_le_of_lt (Nat.add_le_add_right hun _) (by decide +kernel)) ?_
  rintro _ _ s' ⟨rfl, D, k1, k2, rfl, l1, l2⟩ F' N' G' os'
  exact ret D k2 _ s' ⟨⟨_, .head _⟩, ⟨_, _, _, _, .tail _ (.head _)⟩, R.ne, R.h1, R.h2⟩ (.tail _ (.tail _ (.head _))) (fun p hp e1 e2 => Nat.ne_of_lt (l2 p (out_in hp e1 e2))) (fun p hp e1 e2 => .tail _ (.tail _ (.tail _ (out_in hp e1 e2)))) F' N' G' os'
theorem pop_use {y : Value} {un : Nat} (X : (mkK.heap_1 w.params).In g) (B : Below callerA g [] g) (F : Fr g L s.heap m) (N : News g L s.heap led) (T : Top p loose mean mg mb g) (G : AllBare s.gens) (R : Ring led x dx (vs ++ [y])) (hz : vs.length < 1000)
    (hun : un ≤ 20) (ret : ∀ led' s', Ring led' x dx vs → Left x dx led led' → Fr g L s'.heap m → News g L s'.heap led' → AllBare s'.gens → s'.os = s.os → Q y s') :
    wpAny (model PySem.Challenge.rw_xp0011_01.row.prog w) (lawAt L un) (call (.ref 82) [.ref x]) Q E s := by
  obtain ⟨c, hs, t, u, k, N1⟩ := R.news N
  refine Gets.use (pop_gets w x dx vs y c hs t u k _ out_x R.ne hz) X B F N1 T rfl G (by decide +kernel) (Nat.lt_of_le_of_lt (Nat.add_le_add_right hun _) (by decide +kernel)) ?_
  rintro _ _ s' ⟨rfl, k1, rfl⟩ F' N' G' os'
  exact ret _ s' ⟨⟨_, .head _⟩, ⟨_, _, _, _, .tail _ (.head _)⟩, R.ne, R.h1, R.h2⟩ (fun p hp e1 e2 => .tail _ (.tail _ (out_in hp e1 e2))) F' N' G' os'
theorem popfrom_use {v0 : Value} {ti : Tok} {un : Nat} (X : (mkK.heap_1 w.params).In g) (B : Below callerA g [] g) (F : Fr g L s.heap m) (N : News g L s.heap led) (T : Top p loose mean mg mb g) (G : AllBare s.gens) (R : Ring led x dx (v0 :: vs)) (hz : vs.length < 1000)
    (hun : un ≤ 20) (ret : ∀ P k2 led' s', Ring led' x dx [v0] → (P, lstO vs k2) ∈ led' → (∀ p ∈ led, p.1 ≠ x → p.1 ≠ dx → p.1 ≠ P) → Left x dx led led' → Fr g L s'.heap m → News g L s'.heap led' → AllBare s'.gens → s'.os = s.os → Q (.ref P) s') :
    wpAny (model PySem.Challenge.rw_xp0011_01.row.prog w) (lawAt L un) (call (.ref 74) [.ref x, .int 1 ti]) Q E s := by
  obtain ⟨c, hs, t, u, k, N1⟩ := R.news N
  refine Gets.use (popfrom_gets w x dx v0 vs c hs t u k _ ti out_x R.ne hz) X B F N1 T rfl G (by decide +kernel) (Nat.lt_of_le_of_lt (Nat.add_le_add_right hun _) (by decide +kernel)) ?_
  rintro _ _ s' ⟨P, k1, k2, rfl, rfl, l1, l2⟩ F' N' G' os'
  exact ret P k2 _ s' ⟨⟨_, .head _⟩, ⟨_, _, _, _, .tail _ (.head _)⟩, R.ne, R.h1, R.h2⟩ (.tail _ (.tail _ (.head _))) (fun p hp e1 e2 => Nat.ne_of_lt (l2 p (out_in hp e1 e2))) (fun p hp e1 e2 => .tail _ (.tail _ (.tail _ (out_in hp e1 e2)))) F' N' G' os'
theorem reset_use {P : Addr} {ws : List Value} {n' : Nat} {un : Nat} (X : (mkK.heap_1 w.params).In g) (B : Below callerA g [] g) (F : Fr g L s.heap m) (N : News g L s.heap led) (T : Top p loose mean mg mb g) (G : AllBare s.gens) (R : Ring led x dx vs) (hP : (P, lstO ws n') ∈ led) (hz : vs.length + ws.length ≤ 1000)
    (hun : un ≤ 20) (ret : ∀ led' s', Ring led' x dx ws → Left x dx led led' → Fr g L s'.heap m → News g L s'.heap led' → AllBare s'.gens → s'.os = s.os → Q .none s') :
    wpAny (model PySem.Challenge.rw_xp0011_01.row.prog w) (lawAt L un) (call (.ref 104) [.ref x, .ref P]) Q E s := by
  obtain ⟨c, hs, t, u, k, N1⟩ := R.news N
  obtain ⟨a1, a2⟩ := R.apart N hP (fun _ _ _ => rfl) (fun es ep e => by cases e)
  refine Gets.use (reset_gets w x dx P vs ws c n' hs t u k _ (out_in hP a1 a2) out_x out_dx R.ne hz) X B F N1 T rfl G (by decide +kernel) (Nat.lt_of_le_of_lt (Nat.add_le_add_right hun _) (by decide +kernel)) ?_
  rintro _ _ s' ⟨rfl, k1, u2, rfl⟩ F' N' G' os'
  exact ret _ s' ⟨⟨_, .head _⟩, ⟨_, _, _, _, .tail _ (.head _)⟩, R.ne, R.h1, R.h2⟩ (fun p hp e1 e2 => .tail _ (.tail _ (out_in hp e1 e2))) F' N' G' os'
/-- the ledger with the table ahead, then the ring -/
theorem Ring.news3 {c : Addr} {q : Obj} {h : Heap} (R : Ring led x dx vs) (N : News g L h led) (hc : (c, q) ∈ led) : ∃ k hs t u kk, News g L h ((c, q) :: (x, accO dx vs k) :: (dx, iniD hs t u kk) :: offL c (outR x dx led)) :=
  let ⟨k, hx⟩ := R.rx
  let ⟨hs, t, u, kk, hd⟩ := R.rd
  ⟨k, hs, t, u, kk, news_sub N fun p hp => by
    rcases List.mem_cons.mp hp with rfl | hp
    · exact hc
    rcases List.mem_cons.mp hp with rfl | hp
    · exact hx
    rcases List.mem_cons.mp hp with rfl | hp
    · exact hd
    · exact out_of (mem_off.mp hp).1⟩
theorem Pieces.far {h : Heap} {ps : List Str} {c : Addr} {q : Obj} (C : Pieces vs ps led) (R : Ring led x dx vs) (N : News g L h led) (hc : (c, q) ∈ led) (hq : ∀ ws n, q.data = .seq ws n → q.cls ≠ .type "tuple") : Pieces vs ps (offL c (outR x dx led)) where
  len := C.len
  item := fun j p hj => let ⟨D, t1, t2, kk, a, b⟩ := C.item j p hj; ⟨D, t1, t2, kk, a, let ⟨u, v⟩ := R.apart N b (fun _ _ _ => rfl) (fun es ep e => by cases e); mem_off.mpr ⟨out_in b u v, fun e => by
    have e1 : D = c := e
    subst e1
    have e2 := news_same N b hc
    subst e2
    exact hq _ _ rfl rfl⟩⟩
theorem TabG.far {line col : Nat} {q : Obj} (tb : TabG line col q) : ∀ ws n, q.data = .seq ws n → q.cls ≠ .type "tuple" := by
  intro ws n e
  rcases tb with rfl | ⟨c, rfl⟩ <;> cases e
theorem len_use {ps : List Str} {un : Nat} (X : (mkK.heap_1 w.params).In g) (B : Below callerA g [] g) (F : Fr g L s.heap m) (N : News g L s.heap led) (T : Top p loose mean mg mb g) (G : AllBare s.gens) (R : Ring led x dx vs) (Tb : Tabs led) (hp : Pieces vs ps led) (hb : ∀ p ∈ ps, p.length ≤ 100) (hn : ps.length ≤ 100)
    (hun : un ≤ 20) (ret : ∀ t led' s', Tabs led' → (∀ p ∈ led, p.1 ≠ 84 → p ∈ led') → Fr g L s'.heap m → News g L s'.heap led' → AllBare s'.gens → s'.os = s.os → Q (.int (((ps.map (·.length)).sum : Nat) : Int) t) s') :
    wpAny (model PySem.Challenge.rw_xp0011_01.row.prog w) (lawAt L un) (call (.ref 89) [.ref x]) Q E s := by
  obtain ⟨q, hq, tb⟩ := Tb.t2
  obtain ⟨c, hs, t, u, k, N1⟩ := R.news3 N hq
  have sub : ∀ p ∈ led, p.1 ≠ 84 → p ∈ (x, accO dx vs c) :: (dx, iniD hs t u k) :: offL 84 (outR x dx led) := fun p hp h84 => by
    by_cases e1 : p.1 = x
    · have e : p = (x, accO dx vs c) := Prod.ext e1 (news_same (c := x) (N := fun r hr => (by rcases hr with _ | ⟨_, hr⟩; exact e1 ▸ N p hp; exact N1 _ (.tail _ (.head _)) |>.elim fun a b => (List.mem_singleton.mp hr) ▸ N1 _ (.tail _ (.head _)))) (led := [(x, p.2), (x, accO dx vs c)]) (.head _) (.tail _ (.head _)))
      rw [e]
      exact .head _
    · by_cases e2 : p.1 = dx
      · have e : p = (dx, iniD hs t u k) := Prod.ext e2 (Option.some.inj ((e2 ▸ (N p hp).1).symm.trans (N1 _ (.tail _ (.tail _ (.head _)))).1))
        rw [e]
        exact .tail _ (.head _)
      · exact .tail _ (.tail _ (mem_off.mpr ⟨out_in hp e1 e2, h84⟩))
  refine Gets.use (len_gets w x dx vs ps c q hs t u k _ (hp.far R N hq tb.far) tb (fun p hp => ?_) hb hn) X B F N1 T rfl G (by decide +kernel) (Nat.lt_of_le_of_lt (Nat.add_le_add_right hun _) (by decide +kernel)) ?_
  · rcases List.mem_cons.mp hp with rfl | hp
    · exact Nat.ne_of_gt (Nat.lt_trans (by decide) R.h2)
    rcases List.mem_cons.mp hp with rfl | hp
    · exact Nat.ne_of_gt (Nat.lt_trans (by decide) R.h1)
    · exact (mem_off.mp hp).2
  · rintro _ _ s' ⟨⟨t', rfl⟩, q', tb', rfl⟩ F' N' G' os'
    refine ret t' _ s' ⟨?_, ⟨q', .head _, tb'⟩, ?_⟩ (fun p hp h84 => .tail _ (sub p hp h84)) F' N' G' os'
    · obtain ⟨q1, a, b⟩ := Tb.t1
      refine ⟨q1, .tail _ (sub _ a (by show (37 : Nat) ≠ 84; decide)), b.imp id fun ⟨c2, oc, vs2, t2, e1, e2, e3, e4⟩ => ⟨c2, oc, vs2, t2, e1, mem_off.mpr ⟨.tail _ (sub _ (mem_off.mp e2).1 fun e => ?_), (mem_off.mp e2).2⟩, e3, e4⟩⟩
      have e5 : c2 = 84 := e
      subst e5
      have e6 := news_same N (mem_off.mp e2).1 hq
      subst e6
      rcases tb with rfl | ⟨c, rfl⟩ <;> cases e3 <;> simp [rawInt] at e4
    · obtain ⟨q3, a, b⟩ := Tb.t3
      exact ⟨q3, .tail _ (sub _ a (by show (91 : Nat) ≠ 84; decide)), b⟩
theorem str_use {ps : List Str} {un : Nat} (X : (mkK.heap_1 w.params).In g) (B : Below callerA g [] g) (F : Fr g L s.heap m) (N : News g L s.heap led) (T : Top p loose mean mg mb g) (G : AllBare s.gens) (R : Ring led x dx vs) (Tb : Tabs led) (hp : Pieces vs ps led) (hb : ∀ p ∈ ps, p.length ≤ 100) (hn : ps.length ≤ 100)
    (hun : un ≤ 20) (ret : ∀ t led' s', Tabs led' → (∀ p ∈ led, p.1 ≠ 91 → p ∈ led') → Fr g L s'.heap m → News g L s'.heap led' → AllBare s'.gens → s'.os = s.os → Q (.str (Txt.join (Str.ofString "") ps) t) s') :
    wpAny (model PySem.Challenge.rw_xp0011_01.row.prog w) (lawAt L un) (call (.ref 96) [.ref x]) Q E s := by
  obtain ⟨q, hq, tb⟩ := Tb.t3
  obtain ⟨c, hs, t, u, k, N1⟩ := R.news3 N hq
  have sub : ∀ p ∈ led, p.1 ≠ 91 → p ∈ (x, accO dx vs c) :: (dx, iniD hs t u k) :: offL 91 (outR x dx led) := fun p hp h91 => by
    by_cases e1 : p.1 = x
    · have e : p = (x, accO dx vs c) := Prod.ext e1 (news_same (c := x) (N := fun r hr => (by rcases hr with _ | ⟨_, hr⟩; exact e1 ▸ N p hp; exact N1 _ (.tail _ (.head _)) |>.elim fun a b => (List.mem_singleton.mp hr) ▸ N1 _ (.tail _ (.head _)))) (led := [(x, p.2), (x, accO dx vs c)]) (.head _) (.tail _ (.head _)))
      rw [e]
      exact .head _
    · by_cases e2 : p.1 = dx
      · have e : p = (dx, iniD hs t u k) := Prod.ext e2 (Option.some.inj ((e2 ▸ (N p hp).1).symm.trans (N1 _ (.tail _ (.tail _ (.head _)))).1))
        rw [e]
        exact .tail _ (.head _)
      · exact .tail _ (.tail _ (mem_off.mpr ⟨out_in hp e1 e2, h91⟩))
  refine Gets.use (str_gets w x dx vs ps c q hs t u k _ (hp.far R N hq tb.far) tb (fun p hp => ?_) hb hn) X B F N1 T rfl G (by decide +kernel) (Nat.lt_of_le_of_lt (Nat.add_le_add_right hun _) (by decide +kernel)) ?_
  · rcases List.mem_cons.mp hp with rfl | hp
    · exact Nat.ne_of_gt R.h2
    rcases List.mem_cons.mp hp with rfl | hp
    · exact Nat.ne_of_gt R.h1
    · exact (mem_off.mp hp).2
  · rintro _ _ s' ⟨⟨t', rfl⟩, q', tb', rfl⟩ F' N' G' os'
    refine ret t' _ s' ⟨?_, ?_, ⟨q', .head _, tb'⟩⟩ (fun p hp h91 => .tail _ (sub p hp h91)) F' N' G' os'
    · obtain ⟨q1, a, b⟩ := Tb.t1
      refine ⟨q1, .tail _ (sub _ a (by show (37 : Nat) ≠ 91; decide)), b.imp id fun ⟨c2, oc, vs2, t2, e1, e2, e3, e4⟩ => ⟨c2, oc, vs2, t2, e1, mem_off.mpr ⟨.tail _ (sub _ (mem_off.mp e2).1 fun e => ?_), (mem_off.mp e2).2⟩, e3, e4⟩⟩
      have e5 : c2 = 91 := e
      subst e5
      have e6 := news_same N (mem_off.mp e2).1 hq
      subst e6
      rcases tb with rfl | ⟨c, rfl⟩ <;> cases e3 <;> simp [rawInt] at e4
    · obtain ⟨q3, a, b⟩ := Tb.t2
      exact ⟨q3, .tail _ (sub _ a (by show (84 : Nat) ≠ 91; decide)), b⟩
theorem Ring.inst (R : Ring led x dx vs) (N : News g L s.heap led) : ∃ c od, InstAt s.heap x (accO dx vs c) 122 (some od) :=
  let ⟨c, a⟩ := R.rx
  let ⟨hs, t, u, k, b⟩ := R.rd
  ⟨c, _, acc_inst (N _ a).1 (N _ b).1⟩
/-- len(ring) -/
theorem len_ring {ps : List Str} {un : Nat} (X : (mkK.heap_1 w.params).In g) (B : Below callerA g [] g) (F : Fr g L s.heap m) (N : News g L s.heap led) (T : Top p loose mean mg mb g) (G : AllBare s.gens) (R : Ring led x dx vs) (Tb : Tabs led) (hp : Pieces vs ps led) (hb : ∀ p ∈ ps, p.length ≤ 100) (hn : ps.length ≤ 100) (hun : un ≤ 10)
    (hs : (ps.map (·.length)).sum < 2 ^ 63)
    (ret : ∀ t led' s', Tabs led' → (∀ p ∈ led, p.1 ≠ 84 → p ∈ led') → Fr g L s'.heap m → News g L s'.heap led' → AllBare s'.gens → s'.os = s.os → Q (.int (((ps.map (·.length)).sum : Nat) : Int) t) s') :
    wpAny (model PySem.Challenge.rw_xp0011_01.row.prog w) (lawAt L un) (call (.builtin "len") [.ref x]) Q E s := by
  obtain ⟨c, od, I⟩ := R.inst N
  have fk : mkK.heap_1 = mkK.heap_1 ∧ PySem.Challenge.rw_xp0011_01 = PySem.Challenge.rw_xp0011_01 := by
    k_fill
    exact ⟨rfl, rfl⟩
  k_dflt (refine len_K (f := 89) F X I (by k_is) (by k_is) ?_)
  refine len_use (un := un + 1) X B F N T G R Tb hp hb hn (by omega) fun t led' s' a b c d e f => ?_
  exact ⟨⟨Int.natCast_nonneg _, by exact_mod_cast hs⟩, ret _ led' { s' with toks := s'.toks + 1 } a b c d e f⟩
/-- str(ring) -/
theorem str_ring {ps : List Str} {un : Nat} (X : (mkK.heap_1 w.params).In g) (B : Below callerA g [] g) (F : Fr g L s.heap m) (N : News g L s.heap led) (T : Top p loose mean mg mb g) (G : AllBare s.gens) (R : Ring led x dx vs) (Tb : Tabs led) (hp : Pieces vs ps led) (hb : ∀ p ∈ ps, p.length ≤ 100) (hn : ps.length ≤ 100) (hun : un ≤ 10)
    (ret : ∀ t led' s', Tabs led' → (∀ p ∈ led, p.1 ≠ 91 → p ∈ led') → Fr g L s'.heap m → News g L s'.heap led' → AllBare s'.gens → s'.os = s.os → Q (.str (Txt.join (Str.ofString "") ps) t) s') :
    wpAny (model PySem.Challenge.rw_xp0011_01.row.prog w) (lawAt L un) (call (.type "str") [.ref x]) Q E s := by
  obtain ⟨c, od, I⟩ := R.inst N
  have fk : mkK.heap_1 = mkK.heap_1 ∧ PySem.Challenge.rw_xp0011_01 = PySem.Challenge.rw_xp0011_01 := by
    k_fill
    exact ⟨rfl, rfl⟩
  k_dflt (refine kso_call (f := 96) (Nat.lt_of_le_of_lt (Nat.add_le_add_right hun 2) (by decide +kernel)) (X.keeps F.keep) I (by k_is) (by k_is) ?_)
  refine str_use (un := un + 2) X B F N T G R Tb hp hb hn (by omega) fun t led' s' a b c d e f => ?_
  exact ret _ led' s' a b c d e f
end
end Mine
end

section
open PySem PySem.W PyProof.Rows PySem.Calls
set_option Elab.async false
set_option maxRecDepth 100000
set_option maxHeartbeats 2000000
set_option linter.unusedVariables false
namespace Mine
theorem ins_any (m : Str → Option Value) (x : Str) : m = fun y => if y = x then m x else m y := by
  funext y
  by_cases e : y = x
  · rw [if_pos e, e]
  · rw [if_neg e]
section
variable {g h : Heap} {L x dx c : Addr} {o : Obj} {led led' : List (Addr × Obj)} {vs : List Value}
theorem Ring.mono (R : Ring led x dx vs) (h : ∀ p ∈ led, p.1 = x ∨ p.1 = dx → p ∈ led') : Ring led' x dx vs :=
  ⟨let ⟨c, a⟩ := R.rx; ⟨c, h _ a (.inl rfl)⟩, let ⟨hs, t, u, k, a⟩ := R.rd; ⟨hs, t, u, k, h _ a (.inr rfl)⟩, R.ne, R.h1, R.h2⟩
theorem Ring.off (R : Ring led x dx vs) (h : ∀ p ∈ led, p.1 ≠ c) : x ≠ c ∧ dx ≠ c := ⟨let ⟨_, a⟩ := R.rx; h _ a, let ⟨_, _, _, _, a⟩ := R.rd; h _ a⟩
theorem Pieces.mono {ps : List Str} (C : Pieces vs ps led) (h : ∀ p ∈ led, p ∈ led') : Pieces vs ps led' :=
  ⟨C.len, fun j p hj => let ⟨D, t1, t2, k, a, b⟩ := C.item j p hj; ⟨D, t1, t2, k, a, h _ b⟩⟩
/-- a ring with one piece more -/
theorem Pieces.snoc {ps : List Str} (C : Pieces vs ps led) {D : Addr} {t1 t2 : Tok} {k : Nat} {z : Str} (hm : (D, tupO [.str (Str.ofString "") t1, .str z t2] k) ∈ led) : Pieces (vs ++ [.ref D]) (ps ++ [z]) led := by
  refine ⟨by rw [List.length_append, List.length_append, C.len]; rfl, fun j p hj => ?_⟩
  by_cases h : j < ps.length
  · rw [List.getElem?_append_left h] at hj
    obtain ⟨D', u1, u2, kk, a, b⟩ := C.item j p hj
    exact ⟨D', u1, u2, kk, by rw [List.getElem?_append_left (by rw [C.len]; exact h)]; exact a, b⟩
  · rw [List.getElem?_append_right (by omega)] at hj
    have h0 : j - ps.length = 0 := by
      cases e : j - ps.length with
      | zero => rfl
      | succ n => rw [e] at hj; cases hj
    rw [h0] at hj
    cases hj
    exact ⟨D, t1, t2, k, by rw [List.getElem?_append_right (by rw [C.len]; omega), C.len, h0]; rfl, hm⟩
end
section
local macro_rules | `(tactic| walk_at "call ref") => `(tactic| (refine Halt.out ?_))
local macro_rules | `(tactic| walk_at "getMethod ref") => `(tactic| (refine Halt.out ?_))
local macro_rules | `(tactic| walk_at "pyIter") => `(tactic| (refine Halt.out ?_))
local macro_rules | `(tactic| walk_at "pyIter str") => `(tactic| (refine Halt.out ?_))
/-- statement 10: the ring is filled -/
theorem seg_i (w : World) (g : Heap) (L : Addr) (m : Str → Option Value) (led : List (Addr × Obj)) (x dx : Addr) (tw : Tok) (us : List Nat) (v1 v2 v3 : Value) (Tb : Tabs led) (R : Ring led x dx []) (hu : us.length ≤ 6)
    (next : ∀ sg vs led', Ring led' x dx vs → Pieces vs (us.map fun c => encS ⟨#[c]⟩) led' → Left x dx led led' → Tabs led' →
      Ends w g L 11 (fun y => if y = Str.ofString "sign" then sg else if y = Str.ofString "ring" then some (Value.ref x) else if y = Str.ofString "written" then some v1 else if y = Str.ofString "mirrored" then some v2 else if y = Str.ofString "turned" then some v3 else if y = Str.ofString "word" then some (.str ⟨us.toArray⟩ tw) else m y) led') :
    Seg w g L (Ends w g L 10 (fun y => if y = Str.ofString "ring" then some (Value.ref x) else if y = Str.ofString "written" then some v1 else if y = Str.ofString "mirrored" then some v2 else if y = Str.ofString "turned" then some v3 else if y = Str.ofString "word" then some (.str ⟨us.toArray⟩ tw) else m y) led) := by
  have fk : mkK.heap_1 = mkK.heap_1 ∧ PySem.Challenge.rw_xp0011_01 = PySem.Challenge.rw_xp0011_01 := by
    k_fill
    exact ⟨rfl, rfl⟩
  intro p loose mean mg mb X B T hL s Q E F N G hq
  k_dflt (have ho := (show (mkK.heap_1 (w.params)).lookup 169 = some _ by k_is))
  have hs := (show (bodyOf (mkK.heap_1 (w.params)) 169)[10]? = some _ by unfold bodyOf; rw [ho]; rfl)
  clear ho
  rw [tail_cons hs]
  clear hs
  refine wpC_execs_cons (wpC_For ?_)
  k_steps
  refine Halt.go (loopStr_G rfl rfl rfl F N G (fun i m₁ nx => ∃ sg vs', m₁ = (fun y => if y = Str.ofString "sign" then sg else if y = Str.ofString "ring" then some (Value.ref x) else if y = Str.ofString "written" then some v1 else if y = Str.ofString "mirrored" then some v2 else if y = Str.ofString "turned" then some v3 else if y = Str.ofString "word" then some (.str ⟨us.toArray⟩ tw) else m y) ∧
    vs'.length = i ∧ Ring nx x dx vs' ∧ Pieces vs' ((us.take i).map fun c => encS ⟨#[c]⟩) nx ∧ Left x dx led nx ∧ Tabs nx) ⟨_, [], ins_any _ _, rfl, R, ⟨rfl, fun j p hj => nomatch hj⟩, fun p hp _ _ => hp, Tb⟩ ?_ ?_)
  · rintro I i c t o m₁ nx s1 hi hc ⟨sg, vs', rfl, hlen, R1, P1, K1, T1⟩ off os1 G1 F1 N1
    rw [upd_two] at F1
    have hc2 : us[i]? = some c := by simpa using hc
    obtain ⟨c0, hx0⟩ := R1.rx
    obtain ⟨hs0, t0, u0, k0, hd0⟩ := R1.rd
    obtain ⟨xI, dI⟩ := R1.off off
    refine wpC_any ?_
    clear F N
    k_steps
    k_dflt (refine Halt.go (ring_fn (f := 66) (od := iniD hs0 t0 u0 k0) (X.keeps F1.keep) (N1 _ (.tail _ hx0)).1 (N1 _ (.tail _ hd0)).1 (by k_is) (by k_is) ini_shadow.2.2.1 ?_))
    k_steps
    refine Halt.go (Does.use (escape_does w ⟨#[c]⟩ _ (Nat.le_trans (Nat.le_refl 1) (by decide))) X B F1 N1 T rfl (by decide +kernel) (by decide +kernel) ?_)
    rintro _ _ h10 tk10 ⟨t10, rfl, rfl⟩ F10 N10 hlt10
    rw [List.nil_append] at N10
    k_steps
    refine Halt.go (push_use X B F10 N10 T G1 (R1.mono fun p hp _ => .tail _ hp) (by rw [hlen]; exact Nat.le_trans (Nat.le_of_lt hi) (Nat.le_trans (Nat.le_of_eq List.size_toArray) (Nat.le_trans hu (by decide)))) (by decide) fun D k2 led' s2 R2 hD2 lD K2 F2 N2 G2 os2 => ?_)
    k_steps
    have Nn : News g L s1.heap nx := news_sub N1 fun p hp => .tail _ hp
    have keep : Left x dx nx (offL I led') := fun p hp a b => mem_off.mpr ⟨K2 p (.tail _ hp) a b, off p hp⟩
    refine ⟨_, offL I led', os2.trans os1, G2, F2, news_at N2 (K2 (I, o) (.head _) (Ne.symm xI) (Ne.symm dI)), off_ne, _, _, rfl, by rw [List.length_append, hlen]; rfl, R2.mono fun p hp e => mem_off.mpr ⟨hp, ?_⟩, ?_, fun p hp a b => keep p (K1 p hp a b) a b, R1.tabs Nn T1 keep⟩
    · rcases e with e | e
      · rw [e]; exact xI
      · rw [e]; exact dI
    · rw [List.take_add_one, hc2, List.map_append]
      exact (P1.left R1 Nn keep).snoc (mem_off.mpr ⟨hD2, Ne.symm (lD (I, o) (.head _) (Ne.symm xI) (Ne.symm dI))⟩)
  · rintro m₁ nx s1 ⟨sg, vs', rfl, hlen, R1, P1, K1, T1⟩ os1 G1 F1 N1
    rw [show (⟨us.toArray⟩ : Str).cps.size = us.length from List.size_toArray, List.take_length] at P1
    exact next sg vs' nx R1 P1 K1 T1 _ Q E F1 N1 G1 (fun s' m' led' a b c d e => hq s' m' led' a b c d (e.trans os1))
end
end Mine
end

section
open PySem PySem.W PyProof.Rows PySem.Calls
set_option Elab.async false
set_option maxRecDepth 100000
set_option maxHeartbeats 2000000
set_option linter.unusedVariables false
namespace Mine
section
variable {w : World} {p : Program} {loose : List Str} {mean : ExcName → Option Value} {mg mb : Str → Option Value} {g : Heap} {L : Addr} {m : Str → Option Value} {led : List (Addr × Obj)} {s : Shared} {Q E : Value → Shared → Prop}
/-- _law_number over an open ledger -/
theorem number_use {x : Str} {wd : Nat} {t1 t2 : Tok} {un : Nat} (X : (mkK.heap_1 w.params).In g) (B : Below callerA g [] g) (F : Fr g L s.heap m) (N : News g L s.heap led) (T : Top p loose mean mg mb g) (G : AllBare s.gens) (Tb : Tabs led)
    (hz : x.cps.size ≤ 100) (hz0 : 0 < x.cps.size) (hw : 8 ≤ wd) (hw2 : wd ≤ 400) (hv : ∀ c ∈ x.cps.toList, c < 256) (hun : un ≤ 20)
    (ret : ∀ t led' s', Tabs led' → (∀ p ∈ led, p.1 ≠ 37 → p ∈ led') → Fr g L s'.heap m → News g L s'.heap led' → AllBare s'.gens → s'.os = s.os → Q (.int (num wd x.cps.toList : Int) t) s') :
    wpC (model PySem.Challenge.rw_xp0011_01.row.prog w) (lawAt L un) (call (.ref 164) [.str x t1, .int (wd : Int) t2]) Q E s := by
  obtain ⟨q, hq, tb⟩ := Tb.t1
  have N1 : News g L s.heap (offL 37 led ++ (37, q) :: []) := news_sub N fun p hp => by
    rcases List.mem_append.mp hp with hp | hp
    · exact (mem_off.mp hp).1
    · rw [List.mem_singleton.mp hp]; exact hq
  refine number_does w x wd t1 t2 hz hz0 hw hw2 hv p loose mean mg mb (2 + claimMargin) un _ _ _ _ _ _ _ g g L m (offL 37 led) [] q s Q E X B F N1 T rfl (by decide +kernel) (Nat.lt_of_le_of_lt (Nat.add_le_add_right hun _) (by decide +kernel)) off_ne (fun p hp => nomatch hp) tb ?_
  intro t q' tl h' tk' F' N' tb' u1 u2
  have sub : ∀ p ∈ led, p.1 ≠ 37 → p ∈ tl ++ offL 37 led ++ (37, q') :: [] := fun p hp h37 => List.mem_append_left _ (List.mem_append_right _ (mem_off.mpr ⟨hp, h37⟩))
  refine ret t _ _ ⟨⟨q', List.mem_append_right _ (.head _), tb'.mono fun p hp => mem_off.mpr ⟨List.mem_append_left _ hp, ?_⟩⟩, ?_, ?_⟩ sub F' N' G rfl
  · rcases List.mem_append.mp hp with hp | hp
    · exact Nat.ne_of_gt (u2 p hp)
    · exact off_ne p hp
  · obtain ⟨q2, a, b⟩ := Tb.t2
    exact ⟨q2, sub _ a (by show (84 : Nat) ≠ 37; decide), b⟩
  · obtain ⟨q3, a, b⟩ := Tb.t3
    exact ⟨q3, sub _ a (by show (91 : Nat) ≠ 37; decide), b⟩
end
end Mine
end

section
open PySem PySem.W PyProof.Rows PySem.Calls
set_option Elab.async false
set_option maxRecDepth 100000
set_option maxHeartbeats 2000000
set_option linter.unusedVariables false
namespace Mine
/-- the law's locals behind the filling of the ring -/
abbrev lawM (sg : Option Value) (x : Addr) (wr mi tu wo : Value) (m : Str → Option Value) : Str → Option Value := fun y => if y = Str.ofString "sign" then sg else if y = Str.ofString "ring" then some (Value.ref x) else if y = Str.ofString "written" then some wr else if y = Str.ofString "mirrored" then some mi else if y = Str.ofString "turned" then some tu else if y = Str.ofString "word" then some wo else m y
section
local macro_rules | `(tactic| walk_at "storeName") => `(tactic| (refine Halt.out ?_))
local macro_rules | `(tactic| walk_at "call builtin:len") => `(tactic| (refine Halt.out ?_))
theorem seg_j (w : World) (g : Heap) (L : Addr) (m : Str → Option Value) (led : List (Addr × Obj)) (sg : Option Value) (x : Addr) (z : Str) (tz : Tok) (mi tu wo : Value) (Tb : Tabs led) (hz : z.cps.size ≤ 100)
    (h4 : Cell led (L + 4) none)
    (next : ∀ t led', Cell led' (L + 4) (some (.int ((z.cps.size : Nat) : Int) t)) → (∀ p ∈ led, p.1 ≠ L + 4 → p ∈ led') → Tabs led' → Ends w g L 12 (lawM sg x (.str z tz) mi tu wo m) led') :
    Seg w g L (Ends w g L 11 (lawM sg x (.str z tz) mi tu wo m) led) := by
  have fk : mkK.heap_1 = mkK.heap_1 ∧ PySem.Challenge.rw_xp0011_01 = PySem.Challenge.rw_xp0011_01 := by
    k_fill
    exact ⟨rfl, rfl⟩
  intro p loose mean mg mb X B T hL s Q E F N G hq
  obtain ⟨o4, m4, d4⟩ := h4
  k_dflt (have ho := (show (mkK.heap_1 (w.params)).lookup 169 = some _ by k_is))
  have hs := (show (bodyOf (mkK.heap_1 (w.params)) 169)[11]? = some _ by unfold bodyOf; rw [ho]; rfl)
  clear ho
  rw [tail_cons hs]
  clear hs
  refine wpC_execs_cons (wpC_any ?_)
  k_steps
  refine Halt.go (str_len (by omega) ?_)
  k_steps
  refine Halt.go (store_cell F N rfl m4 d4 fun h' o' F2 N2 d' => ?_)
  exact next _ _ ⟨o', .head _, d'⟩ (fun p hp a => .tail _ (mem_off.mpr ⟨hp, a⟩)) (Tb.cell N m4 d4 (ad_lt hL)) _ Q E F2 N2 G hq
end
section
local macro_rules | `(tactic| walk_at "call ref") => `(tactic| (refine Halt.out ?_))
local macro_rules | `(tactic| walk_at "call builtin:len") => `(tactic| (refine Halt.out ?_))
theorem seg_k (w : World) (g : Heap) (L : Addr) (m : Str → Option Value) (led : List (Addr × Obj)) (sg : Option Value) (x dx : Addr) (us : List Nat) (tz tw : Tok) (mi tu : Value) (vs : List Value) (ps : List Str) (n : Nat) (t4 : Tok) (Tb : Tabs led) (hu : us.length ≤ 6)
    (h4 : Cell led (L + 4) (some (.int (n : Int) t4))) (R : Ring led x dx vs) (hp : Pieces vs ps led) (hb : ∀ p ∈ ps, p.length ≤ 100) (hn : ps.length ≤ 100) (hsum : (ps.map (·.length)).sum = n) (hn2 : n ≤ 10000)
    (next : ∀ led', (∀ p ∈ led, p.1 ≠ 84 → p ∈ led') → Tabs led' → Ends w g L 13 (lawM sg x (.str (encS ⟨us.toArray⟩) tz) mi tu (.str ⟨us.toArray⟩ tw) m) led') :
    Seg w g L (Ends w g L 12 (lawM sg x (.str (encS ⟨us.toArray⟩) tz) mi tu (.str ⟨us.toArray⟩ tw) m) led) := by
  have fk : mkK.heap_1 = mkK.heap_1 ∧ PySem.Challenge.rw_xp0011_01 = PySem.Challenge.rw_xp0011_01 := by
    k_fill
    exact ⟨rfl, rfl⟩
  intro p loose mean mg mb X B T hL s Q E F N G hq
  obtain ⟨o4, m4, d4⟩ := h4
  k_dflt (have ho := (show (mkK.heap_1 (w.params)).lookup 169 = some _ by k_is))
  have hs := (show (bodyOf (mkK.heap_1 (w.params)) 169)[12]? = some _ by unfold bodyOf; rw [ho]; rfl)
  clear ho
  rw [tail_cons hs]
  clear hs
  refine wpC_execs_cons (wpC_any ?_)
  k_steps
  refine Halt.go (Does.use (written_does w ⟨us.toArray⟩ _ (Nat.le_trans (Nat.le_of_eq List.size_toArray) (by omega))) X B F N T rfl (by decide +kernel) (by decide +kernel) ?_)
  rintro _ _ h10 tk10 ⟨t10, rfl, rfl⟩ F10 N10 hlt10
  rw [List.nil_append] at N10
  k_steps
  · exfalso
    rename_i hne
    simp at hne
  · refine Halt.go (len_ring (un := 7) X B F10 N10 T G R Tb hp hb hn (by decide) (by rw [hsum]; omega) fun t led' s1 T1 K1 F1 N1 G1 os1 => ?_)
    have m4' : (L + 4, o4) ∈ led' := K1 _ m4 (Nat.ne_of_gt (Nat.lt_of_lt_of_le (Nat.lt_trans (by decide) hL) (Nat.le_add_right _ _)))
    rw [hsum]
    clear F N F10 N10
    k_steps
    · exfalso
      rename_i hne
      simp at hne
    · exact next led' K1 T1 _ Q E F1 N1 G1 (fun s' m' led' a b c d e => hq s' m' led' a b c d (e.trans os1))
end
end Mine
end

section
open PySem PySem.W PyProof.Rows PySem.Calls
set_option Elab.async false
set_option maxRecDepth 100000
set_option maxHeartbeats 2000000
set_option linter.unusedVariables false
namespace Mine
theorem encS_list (us : List Nat) : (encS ⟨us.toArray⟩).cps.toList = enc us := by simp [encS]
theorem encS_size (us : List Nat) : (encS ⟨us.toArray⟩).cps.size = (enc us).length := by rw [← Array.length_toList, encS_list]
section
local macro_rules | `(tactic| walk_at "storeName") => `(tactic| (refine Halt.out ?_))
local macro_rules | `(tactic| walk_at "call ref") => `(tactic| (refine Halt.out ?_))
local macro_rules | `(tactic| walk_at "binaryOp LShift int int") => `(tactic| (refine Halt.out ?_))
/-- statements 13 and 14: whole and image -/
theorem seg_l (w : World) (g : Heap) (L : Addr) (m : Str → Option Value) (led : List (Addr × Obj)) (sg : Option Value) (x : Addr) (us : List Nat) (tz tm : Tok) (tu wo : Value) (wd : Nat) (t3 : Tok) (Tb : Tabs led) (hu : us.length ≤ 6) (h0 : 0 < us.length) (hl : (enc us).length ≤ 100) (hl2 : (enc us.reverse).length ≤ 100) (h02 : 0 < (enc us).length) (h03 : 0 < (enc us.reverse).length)
    (hw : 8 ≤ wd) (hw2 : wd ≤ 400) (hv : ∀ c ∈ enc us, c < 256) (hv2 : ∀ c ∈ enc us.reverse, c < 256)
    (h3 : Cell led (L + 3) (some (.int (wd : Int) t3))) (h5 : Cell led (L + 5) none) (h6 : Cell led (L + 6) none)
    (next : ∀ t5 t6 led', Cell led' (L + 5) (some (.int (num wd (enc us) : Int) t5)) → Cell led' (L + 6) (some (.int (num wd (enc us.reverse) : Int) t6)) → (∀ p ∈ led, p.1 ≠ L + 5 → p.1 ≠ L + 6 → p.1 ≠ 37 → p ∈ led') → Tabs led' → Ends w g L 15 (lawM sg x (.str (encS ⟨us.toArray⟩) tz) (.str ⟨us.reverse.toArray⟩ tm) tu wo m) led') :
    Seg w g L (Ends w g L 13 (lawM sg x (.str (encS ⟨us.toArray⟩) tz) (.str ⟨us.reverse.toArray⟩ tm) tu wo m) led) := by
  have fk : mkK.heap_1 = mkK.heap_1 ∧ PySem.Challenge.rw_xp0011_01 = PySem.Challenge.rw_xp0011_01 := by
    k_fill
    exact ⟨rfl, rfl⟩
  intro p loose mean mg mb X B T hL s Q E F N G hq
  have n37 : ∀ i : Nat, L + i ≠ 37 := fun i => Nat.ne_of_gt (Nat.lt_of_lt_of_le (Nat.lt_trans (by decide) hL) (Nat.le_add_right _ _))
  obtain ⟨o3, m3, d3⟩ := h3
  obtain ⟨o5, m5, d5⟩ := h5
  obtain ⟨o6, m6, d6⟩ := h6
  k_dflt (have ho := (show (mkK.heap_1 (w.params)).lookup 169 = some _ by k_is))
  have hs := (show (bodyOf (mkK.heap_1 (w.params)) 169)[13]? = some _ by unfold bodyOf; rw [ho]; rfl)
  clear ho
  rw [tail_cons hs]
  clear hs
  refine wpC_execs_cons (wpC_Assign_Name (wpC_Call_Name (trees := [(false, eval _ _), (false, eval _ _)]) rfl ?_))
  k_steps
  refine wpC_callWith (spliced_cons ?_)
  k_steps
  refine spliced_cons ?_
  k_steps
  refine spliced_nil ?_
  refine ⟨fnAt_K (X.keeps F.keep) (by kernel_rfl), ?_⟩
  refine number_use (un := 7) X B F N T G Tb (by rw [encS_size]; exact hl) (by rw [encS_size]; exact h02) hw hw2 (by rw [encS_list]; exact hv) (by decide) fun t5 led1 s1 T1 K1 F1 N1 G1 os1 => ?_
  rw [encS_list]
  clear F N
  k_steps
  have m5' := K1 _ m5 (n37 5)
  have m6' := K1 _ m6 (n37 6)
  have m3' := K1 _ m3 (n37 3)
  refine Halt.go (store_cell F1 N1 rfl m5' d5 fun h2 o5' F2 N2 d5' => ?_)
  have T2 := T1.cell (o' := o5') N1 m5' d5 (ad_lt hL)
  have m6'' : (L + 6, o6) ∈ (L + 5, o5') :: offL (L + 5) led1 := .tail _ (mem_off.mpr ⟨m6', ad_ne⟩)
  have m3'' : (L + 3, o3) ∈ (L + 5, o5') :: offL (L + 5) led1 := .tail _ (mem_off.mpr ⟨m3', ad_ne⟩)
  clear F1 N1
  dsimp only
  k_dflt (have ho := (show (mkK.heap_1 (w.params)).lookup 169 = some _ by k_is))
  have hs := (show (bodyOf (mkK.heap_1 (w.params)) 169)[14]? = some _ by unfold bodyOf; rw [ho]; rfl)
  clear ho
  rw [tail_cons hs]
  clear hs
  refine wpC_execs_cons (wpC_Assign_Name (wpC_Call_Name (trees := [(false, eval _ _), (false, eval _ _)]) rfl ?_))
  k_steps
  refine wpC_callWith (spliced_cons ?_)
  k_steps
  refine Halt.go (Does.use (escape_does w ⟨us.reverse.toArray⟩ _ (by rw [show (⟨us.reverse.toArray⟩ : Str).length = us.reverse.length from List.size_toArray, List.length_reverse]; omega)) X B F2 N2 T rfl (by decide +kernel) (by decide +kernel) ?_)
  rintro _ _ h10 tk10 ⟨t10, rfl, rfl⟩ F10 N10 hlt10
  rw [List.nil_append] at N10
  clear F2 N2
  refine spliced_cons ?_
  k_steps
  refine spliced_nil ?_
  refine ⟨fnAt_K (X.keeps F10.keep) (by kernel_rfl), ?_⟩
  refine number_use (un := 7) X B F10 N10 T G1 T2 (by rw [encS_size]; exact hl2) (by rw [encS_size]; exact h03) hw hw2 (by rw [encS_list]; exact hv2) (by decide) fun t6 led2 s3 T3 K3 F3 N3 G3 os3 => ?_
  rw [encS_list]
  clear F10 N10
  k_steps
  have m6x := K3 _ m6'' (n37 6)
  refine Halt.go (store_cell F3 N3 rfl m6x d6 fun h4 o6' F4 N4 d6' => ?_)
  have T4 := T3.cell (o' := o6') N3 m6x d6 (ad_lt hL)
  refine next t5 t6 _ ⟨o5', .tail _ (mem_off.mpr ⟨K3 _ (.head _) (n37 5), ad_ne⟩), d5'⟩ ⟨o6', .head _, d6'⟩ (fun p hp a b c => .tail _ (mem_off.mpr ⟨K3 p (.tail _ (mem_off.mpr ⟨K1 p hp c, a⟩)) c, b⟩)) T4 _ Q E F4 N4 G3 (fun s' m' led' a b c d e => hq s' m' led' a b c d (e.trans (os3.trans os1)))
end
end Mine
end

section
open PySem PySem.W PyProof.Rows PySem.Calls
set_option Elab.async false
set_option maxRecDepth 100000
set_option maxHeartbeats 2000000
set_option linter.unusedVariables false
namespace Mine
theorem mul_nat {prog : Program} {w : World} {A : Around} {E : Value → Shared → Prop} {s : Shared} {a b : Nat} {t u : Tok} {Q : Value → Shared → Prop} (ha : a ≤ 1000000) (h : Q (.int ((a * b : Nat) : Int) s.toks) { s with toks := s.toks + 1 }) :
    wpAny (model prog w) A (binaryOp .Mult (.int (a : Int) t) (.int (b : Int) u)) Q E s := by
  refine mn_mul (IntMulOk.of_left (small_bits ha)) ?_
  rw [← Int.natCast_mul]
  exact h
section
local macro_rules | `(tactic| walk_at "binaryOp Mult int int") => `(tactic| (refine Halt.out ?_))
local macro_rules | `(tactic| walk_at "storeName") => `(tactic| (refine Halt.out ?_))
local macro_rules | `(tactic| walk_at "binaryOp LShift int int") => `(tactic| (refine Halt.out ?_))
theorem bound_is (k : Nat) : (2 : Int) ^ k - 1 = ((2 ^ k - 1 : Nat) : Int) := by
  have h : 0 < 2 ^ k := Nat.pow_pos (by decide)
  have e : ((2 ^ k : Nat) : Int) = (2 : Int) ^ k := by push_cast; rfl
  omega
/-- statement 15: bound -/
theorem seg_m (w : World) (g : Heap) (L : Addr) (m : Str → Option Value) (led : List (Addr × Obj)) (wd n : Nat) (t3 t4 : Tok) (Tb : Tabs led) (hb : wd * n ≤ 100000) (hw2 : wd ≤ 400)
    (h3 : Cell led (L + 3) (some (.int (wd : Int) t3))) (h4 : Cell led (L + 4) (some (.int (n : Int) t4))) (h7 : Cell led (L + 7) none)
    (next : ∀ t7 led', Cell led' (L + 7) (some (.int ((2 ^ (wd * n) - 1 : Nat) : Int) t7)) → (∀ p ∈ led, p.1 ≠ L + 7 → p ∈ led') → Tabs led' → Ends w g L 16 m led') :
    Seg w g L (Ends w g L 15 m led) := by
  have fk : mkK.heap_1 = mkK.heap_1 ∧ PySem.Challenge.rw_xp0011_01 = PySem.Challenge.rw_xp0011_01 := by
    k_fill
    exact ⟨rfl, rfl⟩
  intro p loose mean mg mb X B T hL s Q E F N G hq
  obtain ⟨o3, m3, d3⟩ := h3
  obtain ⟨o4, m4, d4⟩ := h4
  obtain ⟨o7, m7, d7⟩ := h7
  k_dflt (have ho := (show (mkK.heap_1 (w.params)).lookup 169 = some _ by k_is))
  have hs := (show (bodyOf (mkK.heap_1 (w.params)) 169)[15]? = some _ by unfold bodyOf; rw [ho]; rfl)
  clear ho
  rw [tail_cons hs]
  clear hs
  refine wpC_execs_cons (wpC_any ?_)
  k_steps
  refine Halt.go (mul_nat (by omega) ?_)
  k_steps
  refine Halt.go (mn_one (show _ ≤ _ by omega) ?_)
  k_steps
  rw [bound_is]
  refine Halt.go (store_cell F N rfl m7 d7 fun h' o' F2 N2 d' => ?_)
  exact next _ _ ⟨o', .head _, d'⟩ (fun p hp a => .tail _ (mem_off.mpr ⟨hp, a⟩)) (Tb.cell N m7 d7 (ad_lt hL)) _ Q E F2 N2 G hq
end
/-- the divisions, one for each count -/
def Parted (led : List (Addr × Obj)) (ys : List Value) (f : Nat → Nat × Nat) (n : Nat) : Prop :=
  ys.length = n ∧ ∀ j, j < n → ∃ D t1 t2 c, ys[j]? = some (Value.ref D) ∧ (D, tupO [.int ((f j).1 : Int) t1, .int ((f j).2 : Int) t2] c) ∈ led
theorem Parted.mono {led led' : List (Addr × Obj)} {ys : List Value} {f : Nat → Nat × Nat} {n : Nat} (h : Parted led ys f n) (k : ∀ p ∈ led, p ∈ led') : Parted led' ys f n :=
  ⟨h.1, fun j hj => let ⟨D, t1, t2, c, a, b⟩ := h.2 j hj; ⟨D, t1, t2, c, a, k _ b⟩⟩
theorem Parted.snoc {led : List (Addr × Obj)} {ys : List Value} {f : Nat → Nat × Nat} {n : Nat} {D : Addr} {t1 t2 : Tok} {c : Nat} (h : Parted led ys f n) (k : (D, tupO [.int ((f n).1 : Int) t1, .int ((f n).2 : Int) t2] c) ∈ led) : Parted led (ys ++ [.ref D]) f (n + 1) := by
  refine ⟨by rw [List.length_append, h.1]; rfl, fun j hj => ?_⟩
  by_cases e : j < n
  · obtain ⟨D', u1, u2, kk, a, b⟩ := h.2 j e
    exact ⟨D', u1, u2, kk, by rw [List.getElem?_append_left (by rw [h.1]; exact e)]; exact a, b⟩
  · obtain rfl : j = n := by omega
    exact ⟨D, t1, t2, c, by rw [List.getElem?_append_right (by rw [h.1]; exact Nat.le_refl _), h.1, Nat.sub_self]; rfl, k⟩
theorem cell_seq {g h : Heap} {L c D : Addr} {o o2 : Obj} {led : List (Addr × Obj)} {v : Option Value} (N : News g L h led) (hm : (c, o) ∈ led) (hd : o.data = .cell v) (ht : (D, o2) ∈ led) (h2 : ∀ v, o2.data ≠ .cell v) : D ≠ c := fun e => by
  subst e
  have e := news_same N hm ht
  subst e
  exact h2 _ hd
theorem Parted.cell {g h : Heap} {L c : Addr} {o o' : Obj} {led : List (Addr × Obj)} {v : Option Value} {ys : List Value} {f : Nat → Nat × Nat} {n : Nat} (P : Parted led ys f n) (N : News g L h led) (hm : (c, o) ∈ led) (hd : o.data = .cell v) : Parted ((c, o') :: offL c led) ys f n :=
  ⟨P.1, fun j hj => let ⟨D, t1, t2, k, a, b⟩ := P.2 j hj; ⟨D, t1, t2, k, a, .tail _ (mem_off.mpr ⟨b, cell_seq N hm hd b (fun v e => by cases e)⟩)⟩⟩
/-- the division at a count -/
def partAt (wd W b : Nat) (j : Nat) : Nat × Nat := (W * 2 ^ (wd * j) / b, W * 2 ^ (wd * j) % b)
section
local macro_rules | `(tactic| walk_at "binaryOp Mult int int") => `(tactic| (refine Halt.out ?_))
local macro_rules | `(tactic| walk_at "binaryOp LShift int int") => `(tactic| (refine Halt.out ?_))
local macro_rules | `(tactic| walk_at "call ref") => `(tactic| (refine Halt.out ?_))
local macro_rules | `(tactic| walk_at "CompEnd") => `(tactic| (refine Halt.out ?_))
local macro_rules | `(tactic| walk_at "storeName") => `(tactic| (refine Halt.out ?_))
local macro_rules | `(tactic| walk_at "eval Name") => `(tactic| (k_here; (with_reducible show wpAny _ _ (eval (Expr.Name _ _) (compEnvC _ _ _ _)) _ _ _); k_dflt (first | (refine' lcf_cell ?N ?c ?m ?d ?_ ?a ?b; (case a => rfl); (case b => rfl); (case N => k_asm); (case c => rfl); (case m => k_mem); (case d => k_asm); k_whole) | refine LCgL.ld_own (by k_asm) (by k_mem) (by assumption) (by assumption) ?_)))
local macro_rules | `(tactic| walk_at "eval ListComp") => `(tactic| (refine Halt.out ?_))
local macro_rules | `(tactic| walk_at "CompSrc") => `(tactic| (refine Halt.out ?_))
theorem seg_n (w : World) (g : Heap) (L : Addr) (m : Str → Option Value) (led : List (Addr × Obj)) (wd n W b : Nat) (t3 t4 t5 t7 : Tok) (Tb : Tabs led) (hb : wd * n ≤ 16000) (hw : 8 ≤ wd) (hw2 : wd ≤ 400) (hn : n ≤ 100) (hn0 : 0 < n) (eb : b = 2 ^ (wd * n) - 1) (hW : W ≤ b)
    (h3 : Cell led (L + 3) (some (.int (wd : Int) t3))) (h4 : Cell led (L + 4) (some (.int (n : Int) t4))) (h5 : Cell led (L + 5) (some (.int (W : Int) t5))) (h7 : Cell led (L + 7) (some (.int (b : Int) t7))) (h8 : Cell led (L + 8) none)
    (next : ∀ D ys c led', (D, listOf (List.toArray ys) c) ∈ led' → Parted led' ys (partAt wd W b) n → Cell led' (L + 8) (some (.ref D)) → (∀ p ∈ led, p.1 ≠ L + 8 → p ∈ led') → Tabs led' → Ends w g L 17 m led') :
    Seg w g L (Ends w g L 16 m led) := by
  have fk : mkK.heap_1 = mkK.heap_1 ∧ PySem.Challenge.rw_xp0011_01 = PySem.Challenge.rw_xp0011_01 := by
    k_fill
    exact ⟨rfl, rfl⟩
  intro p loose mean mg mb X B T hL s Q E F N G hq
  obtain ⟨o3, m3, d3⟩ := h3
  obtain ⟨o4, m4, d4⟩ := h4
  obtain ⟨o5, m5, d5⟩ := h5
  obtain ⟨o7, m7, d7⟩ := h7
  obtain ⟨o8, m8, d8⟩ := h8
  k_dflt (have ho := (show (mkK.heap_1 (w.params)).lookup 169 = some _ by k_is))
  have hs := (show (bodyOf (mkK.heap_1 (w.params)) 169)[16]? = some _ by unfold bodyOf; rw [ho]; rfl)
  clear ho
  rw [tail_cons hs]
  clear hs
  refine wpC_execs_cons (wpC_Assign_Name (wpC_any ?_))
  k_steps
  refine Halt.go ?_
  k_dflt (refine LCg.ListComp_U (cl := [(Str.ofString "width", L + 3), (Str.ofString "whole", L + 5), (Str.ofString "size", L + 4), (Str.ofString "bound", L + 7)]) F rfl (by decide) rfl (by decide) rfl ?_)
  k_steps
  rename Fr _ _ _ _ => F1
  rename News _ _ _ _ => N1
  rename IsRange _ _ _ _ _ _ _ _ => r1
  refine Halt.go ?_
  refine LCg.CompSrc.range (n := n) rfl F1 N1 r1 ?_ ?_ ?_ fun g' => ?_
  · exact range_small (by omega) (by omega) (by omega) rangeSize_to (by omega)
  · exact rangeSize_to
  · exact Nat.le_trans hn (by decide +kernel)
  have hN0 : 0 < wd * n := Nat.mul_pos (by omega) hn0
  have hpow : 0 < 2 ^ (wd * n) := Nat.pow_pos (by decide)
  have hpow2 : 2 ^ (wd * n) = 2 * 2 ^ (wd * n - 1) := by rw [← Nat.pow_succ']; congr 1; omega
  have hpow3 : 0 < 2 ^ (wd * n - 1) := Nat.pow_pos (by decide)
  have cast : ((2 ^ (wd * n) : Nat) : Int) = (2 : Int) ^ (wd * n) := by push_cast; rfl
  refine compRest_of (fun i zs nw => Parted nw zs (partAt wd W b) i ∧ ∀ p ∈ led, p ∈ nw) ?_ ?_ _ 0 [] _ (Nat.zero_add _) ⟨⟨rfl, fun j hj => absurd hj (Nat.not_lt_zero _)⟩, fun _ h => h⟩
  · rintro i zs nw v I oI C oC D m₂ h5 tk5 E5 hi ⟨hP, hK⟩ ⟨u, rfl⟩ hC hx F5 N5 off ne
    rw [Int.zero_add] at hx
    clear F1 N1 r1
    have m3' := hK _ m3
    have m4' := hK _ m4
    have m5' := hK _ m5
    have m7' := hK _ m7
    k_steps
    refine Halt.go (mul_nat (by omega) ?_)
    have hwi : wd * i ≤ wd * n := Nat.mul_le_mul_left _ (Nat.le_of_lt hi)
    k_steps
    refine Halt.go (mn_lsh (show _ ≤ _ from Nat.le_trans (Nat.add_le_add (nat_bits (x := W) (k := wd * n) (by omega)) (Nat.le_refl _)) (Nat.le_trans (show wd * n + wd * i ≤ 32000 by omega) (by decide))) ?_)
    rw [show (W : Int) * 2 ^ (wd * i) = ((W * 2 ^ (wd * i) : Nat) : Int) by push_cast; rfl]
    k_steps
    refine Halt.go (mul_nat (by omega) ?_)
    k_steps
    refine Halt.go (Does.use (div2_does w _ (b : Int) (wd * n) _ _ _ (Int.natCast_nonneg _) ?_ ?_ ?_ hb) X B F5 N5 T rfl (by decide +kernel) (by decide +kernel) ?_)
    · rw [← cast, ← Int.natCast_mul]
      refine Int.ofNat_lt.mpr (Nat.lt_of_le_of_lt (Nat.mul_le_mul_right _ hW) (Nat.mul_lt_mul_of_pos_left (Nat.pow_lt_pow_right (by decide) (Nat.mul_lt_mul_of_pos_left hi (by omega))) (by omega)))
    · rw [← cast]; omega
    · rw [← cast]; omega
    · rintro v tl h6 tk6 ⟨D', u1, u2, c', rfl, rfl⟩ F6 N6 l6
      k_steps
      rw [← Int.natCast_ediv, ← Int.natCast_emod] at N6 l6
      have gt : ∀ p ∈ (I, oI) :: (C, oC) :: (D, LCg.lst zs) :: nw, p.1 < D' := l6 _ (.head _)
      refine Halt.go (LCg.CompEnd.intro F6 N6 ((D', tupO [.int ((partAt wd W b i).1 : Int) u1, .int ((partAt wd W b i).2 : Int) u2] c') :: nw) (fun p hp => ?_) ⟨⟨Nat.ne_of_gt (gt _ (.head _)), Nat.ne_of_gt (gt _ (.tail _ (.head _))), Nat.ne_of_gt (gt _ (.tail _ (.tail _ (.head _))))⟩, off⟩ trivial ⟨(hP.mono fun p hp => .tail _ hp).snoc (.head _), fun p hp => .tail _ (hK p hp)⟩)
      rcases List.mem_cons.mp hp with rfl | hp
      · exact .tail _ (.head _)
      rcases List.mem_cons.mp hp with rfl | hp
      · exact .tail _ (.tail _ (.head _))
      rcases List.mem_cons.mp hp with rfl | hp
      · exact .tail _ (.tail _ (.tail _ (.head _)))
      rcases List.mem_cons.mp hp with rfl | hp
      · exact .head _
      · exact .tail _ (.tail _ (.tail _ (.tail _ hp)))
  · rintro zs nw ⟨hP, hK⟩
    intro D h6 tk6 F6 N6 off
    k_steps
    have m8' := hK _ m8
    have hD : D ≠ L + 8 := Ne.symm (off1_mem off _ m8')
    refine Halt.go (store_cell F6 N6 rfl (.tail _ m8') d8 fun h7 o' F7 N7 d' => ?_)
    exact next D zs _ _ (.tail _ (mem_off.mpr ⟨.head _, hD⟩)) ((hP.mono fun p hp => .tail _ hp).cell N6 (.tail _ m8') d8) ⟨o', .head _, d'⟩ (fun p hp a => .tail _ (mem_off.mpr ⟨.tail _ (hK p hp), a⟩)) ((Tb.mono fun p hp => .tail _ (hK p hp)).cell N6 (.tail _ m8') d8 (ad_lt hL)) _ Q E F7 N7 G hq
end
end Mine
end

section
open PySem PySem.W PySem.Calls PyProof.Rows PyProof.Rows.LCg PyProof.Rows.LCt
set_option Elab.async false
set_option maxRecDepth 100000
set_option maxHeartbeats 1000000
set_option linter.unusedVariables false
namespace Mine
section
variable {prog : Program} {w : World} {A : Around} {s : Shared} {h₀ : Heap} {L : Addr} {m : Str → Option Value} {env : Env} {ct elt : Expr} {x : Str} {scope : Scope} {cl : List (Str × Addr)}
theorem CompEnd.weak {s₁ : Shared} {I C D : Addr} {oI oC oD : Obj} {S : List (Addr × Obj) → Prop} {r r' : Value → List (Addr × Obj) → Prop} {y : Value} {s₂ : Shared} (h : CompEnd h₀ L m s₁ I oI C oC D oD S r y s₂) (k : ∀ y n, r y n → r' y n) : CompEnd h₀ L m s₁ I oI C oC D oD S r' y s₂ :=
  let ⟨h', tk, nw, e, F, N, off, hS, q⟩ := h; ⟨h', tk, nw, e, F, N, off, hS, k _ _ q⟩
/-- the turns of a comprehension with a test, by an invariant -/
theorem compRestT_of {S : List (Addr × Obj) → Prop} {P : Nat → Value → Prop} {Fin : List Value → List (Addr × Obj) → Prop} {n : Nat} (Inv : Nat → List Value → List (Addr × Obj) → Prop)
    (turn : ∀ i ys news v I oI C oC D m₂ h tk (E' : Value → Shared → Prop), i < n → Inv i ys news → P i v → NsObj oC m₂ → m₂ x = some v → Fr h₀ L h m → News h₀ L h ((I, oI) :: (C, oC) :: (D, lst ys) :: news) → Off3 I C D news → ((@Ne Nat I C) ∧ (@Ne Nat I D) ∧ (@Ne Nat C D)) →
      wpAny (model prog w) A (isTrue ct (compEnvC scope cl C env) (eval ct (compEnvC scope cl C env))) (fun ok s' => if ok = true then
        wpAny (model prog w) A (eval elt (compEnvC scope cl C env)) (CompEnd h₀ L m { s with heap := h, toks := tk } I oI C oC D (lst ys) S (fun y news' => Inv (i + 1) (ys ++ [y]) news')) E' s'
        else CompEnd h₀ L m { s with heap := h, toks := tk } I oI C oC D (lst ys) S (fun _ news' => Inv (i + 1) ys news') Value.none s') E' { s with heap := h, toks := tk })
    (fin : ∀ ys news, Inv n ys news → Fin ys news) : ∀ k i ys news, i + k = n → Inv i ys news → CompRestT prog w A h₀ L m env ct elt x scope cl s S P Fin k i ys news
  | 0, i, ys, news, e, h => .zero (fin ys news (by rw [← e]; exact h))
  | k + 1, i, ys, news, e, h => .succ fun v I oI C oC D m₂ h' tk E' hv hC hx F N off ne =>
    wpAny_mono (turn i ys news v I oI C oC D m₂ h' tk E' (by omega) h hv hC hx F N off ne) (fun ok s₂ hq => by
      cases ok with
      | true =>
        simp only [if_true] at hq ⊢
        exact wpAny_mono hq (fun y s₃ q => CompEnd.weak q fun y nw r => compRestT_of Inv turn fin k (i + 1) _ nw (by omega) r) fun _ _ e => e
      | false =>
        simp only [Bool.false_eq_true, if_false] at hq ⊢
        exact CompEnd.weak hq fun y nw r => compRestT_of Inv turn fin k (i + 1) _ nw (by omega) r) fun _ _ e => e
end
end Mine
end

section
open PySem PySem.W PyProof.Rows PySem.Calls
set_option Elab.async false
set_option maxRecDepth 100000
set_option maxHeartbeats 2000000
set_option linter.unusedVariables false
namespace Mine
/-- the counts at which the remainder is V -/
def atRem (f : Nat → Nat × Nat) (V n : Nat) : List Nat := (List.range n).filter fun j => (f j).2 == V
theorem atRem_succ (f : Nat → Nat × Nat) (V n : Nat) : atRem f V (n + 1) = atRem f V n ++ if (f n).2 = V then [n] else [] := by
  unfold atRem
  rw [List.range_succ, List.filter_append]
  congr 1
  by_cases h : (f n).2 = V
  · simp [h]
  · simp [h]
section
local macro_rules | `(tactic| walk_at "eval ListComp") => `(tactic| (refine Halt.out ?_))
local macro_rules | `(tactic| walk_at "CompSrc") => `(tactic| (refine Halt.out ?_))
local macro_rules | `(tactic| walk_at "CompSrcT") => `(tactic| (refine Halt.out ?_))
local macro_rules | `(tactic| walk_at "CompEnd") => `(tactic| (refine Halt.out ?_))
local macro_rules | `(tactic| walk_at "storeName") => `(tactic| (refine Halt.out ?_))
local macro_rules | `(tactic| walk_at "subscriptTail") => `(tactic| (refine Halt.out ?_))
local macro_rules | `(tactic| walk_at "subscriptTail Name Name ref int") => `(tactic| (refine Halt.out ?_))
local macro_rules | `(tactic| walk_at "subscriptTail Subscript Constant ref int") => `(tactic| (refine Halt.out ?_))
local macro_rules | `(tactic| walk_at "eval Name") => `(tactic| (k_here; (with_reducible show wpAny _ _ (eval (Expr.Name _ _) (compEnvC _ _ _ _)) _ _ _); k_dflt (first | (refine' lcf_cell ?N ?c ?m ?d ?_ ?a ?b; (case a => rfl); (case b => rfl); (case N => k_asm); (case c => rfl); (case m => k_mem); (case d => k_asm); k_whole) | refine LCgL.ld_own (by k_asm) (by k_mem) (by assumption) (by assumption) ?_)))
/-- statement 17: found -/
theorem seg_o (w : World) (g : Heap) (L : Addr) (m : Str → Option Value) (led : List (Addr × Obj)) (n V : Nat) (f : Nat → Nat × Nat) (ys : List Value) (c : Nat) (P : Addr) (t4 t6 : Tok) (Tb : Tabs led) (hn : n ≤ 100)
    (h4 : Cell led (L + 4) (some (.int (n : Int) t4))) (h6 : Cell led (L + 6) (some (.int (V : Int) t6))) (h8 : Cell led (L + 8) (some (.ref P))) (hP : (P, listOf (List.toArray ys) c) ∈ led) (hy : Parted led ys f n) (h9 : Cell led (L + 9) none)
    (next : ∀ D zs c' led', (D, listOf (List.toArray zs) c') ∈ led' → IntsAre zs ((atRem f V n).map Int.ofNat) → Cell led' (L + 9) (some (.ref D)) → (∀ p ∈ led, p.1 ≠ L + 9 → p ∈ led') → Tabs led' → Ends w g L 18 m led') :
    Seg w g L (Ends w g L 17 m led) := by
  have fk : mkK.heap_1 = mkK.heap_1 ∧ PySem.Challenge.rw_xp0011_01 = PySem.Challenge.rw_xp0011_01 := by
    k_fill
    exact ⟨rfl, rfl⟩
  intro p loose mean mg mb X B T hL s Q E F N G hq
  obtain ⟨o4, m4, d4⟩ := h4
  obtain ⟨o6, m6, d6⟩ := h6
  obtain ⟨o8, m8, d8⟩ := h8
  obtain ⟨o9, m9, d9⟩ := h9
  k_dflt (have ho := (show (mkK.heap_1 (w.params)).lookup 169 = some _ by k_is))
  have hs := (show (bodyOf (mkK.heap_1 (w.params)) 169)[17]? = some _ by unfold bodyOf; rw [ho]; rfl)
  clear ho
  rw [tail_cons hs]
  clear hs
  refine wpC_execs_cons (wpC_Assign_Name (wpC_any ?_))
  k_steps
  refine Halt.go ?_
  k_dflt (refine LCt.ListComp_T (cl := [(Str.ofString "parted", L + 8), (Str.ofString "image", L + 6)]) F rfl (by decide) rfl (by decide) rfl ?_)
  k_steps
  rename Fr _ _ _ _ => F1
  rename News _ _ _ _ => N1
  rename IsRange _ _ _ _ _ _ _ _ => r1
  refine Halt.go ?_
  refine LCt.CompSrcT.range (n := n) rfl F1 N1 r1 ?_ ?_ ?_ fun g' => ?_
  · exact range_small (by omega) (by omega) (by omega) rangeSize_to (by omega)
  · exact rangeSize_to
  · exact Nat.le_trans hn (by decide +kernel)
  refine compRestT_of (fun i zs nw => IntsAre zs ((atRem f V i).map Int.ofNat) ∧ nw = led) ?_ ?_ _ 0 [] _ (Nat.zero_add _) ⟨.nil, rfl⟩
  · rintro i zs nw v I oI C oC D m₂ h5 tk5 E5 hi ⟨hz, rfl⟩ ⟨u, rfl⟩ hC hx F5 N5 off ne
    rw [Int.zero_add] at hx
    clear F1 N1 r1
    k_steps
    obtain ⟨D', t1, t2, kk, ea, eb⟩ := hy.2 i hi
    refine Halt.go (item_listL (News.isList N5 (.tail _ (.tail _ (.tail _ hP)))) (Int.natCast_nonneg _) (by omega) (by rw [Int.toNat_natCast]; exact ea) ?_)
    k_steps
    refine Halt.go (item_tupleT (l := [.int ((f i).1 : Int) t1, .int ((f i).2 : Int) t2]) (j := 1) (News.isTup N5 (.tail _ (.tail _ (.tail _ eb)))) (by decide) (by decide) rfl rfl ?_)
    k_steps
    · rename_i he
      have he : (f i).2 = V := Int.ofNat.inj he
      refine Halt.go ⟨_, _, _, rfl, F5, N5, off, trivial, ?_, rfl⟩
      rw [atRem_succ, if_pos he, List.map_append]
      exact IntsAre.append hz (.cons _ _ .nil)
    · rename_i he
      have he : (f i).2 ≠ V := fun e => he (by rw [e])
      refine Halt.go ⟨_, _, _, rfl, F5, N5, off, trivial, ?_, rfl⟩
      rw [atRem_succ, if_neg he, List.append_nil]
      exact hz
  · rintro zs nw ⟨hz, rfl⟩
    intro D h6 tk6 F6 N6 off
    k_steps
    have hD : D ≠ L + 9 := Ne.symm (off1_mem off _ m9)
    refine Halt.go (store_cell F6 N6 rfl (.tail _ m9) d9 fun h7 o' F7 N7 d' => ?_)
    exact next D zs _ _ (.tail _ (mem_off.mpr ⟨.head _, hD⟩)) hz ⟨o', .head _, d'⟩ (fun p hp a => .tail _ (mem_off.mpr ⟨.tail _ hp, a⟩)) ((Tb.mono fun p hp => .tail _ hp).cell N6 (.tail _ m9) d9 (ad_lt hL)) _ Q E F7 N7 G hq
end
end Mine
end

section
open PySem PySem.W PyProof.Rows PySem.Calls
set_option Elab.async false
set_option maxRecDepth 100000
set_option maxHeartbeats 2000000
set_option linter.unusedVariables false
namespace Mine
section
local macro_rules | `(tactic| walk_at "eval ListComp") => `(tactic| (refine Halt.out ?_))
local macro_rules | `(tactic| walk_at "CompSrc") => `(tactic| (refine Halt.out ?_))
local macro_rules | `(tactic| walk_at "CompSrcT") => `(tactic| (refine Halt.out ?_))
local macro_rules | `(tactic| walk_at "CompEnd") => `(tactic| (refine Halt.out ?_))
local macro_rules | `(tactic| walk_at "storeName") => `(tactic| (refine Halt.out ?_))
local macro_rules | `(tactic| walk_at "subscriptTail") => `(tactic| (refine Halt.out ?_))
local macro_rules | `(tactic| walk_at "subscriptTail Name Name ref int") => `(tactic| (refine Halt.out ?_))
local macro_rules | `(tactic| walk_at "subscriptTail Subscript Constant ref int") => `(tactic| (refine Halt.out ?_))
local macro_rules | `(tactic| walk_at "eval Name") => `(tactic| (k_here; (with_reducible show wpAny _ _ (eval (Expr.Name _ _) (compEnvC _ _ _ _)) _ _ _); k_dflt (first | (refine' lcf_cell ?N ?c ?m ?d ?_ ?a ?b; (case a => rfl); (case b => rfl); (case N => k_asm); (case c => rfl); (case m => k_mem); (case d => k_asm); k_whole) | refine LCgL.ld_own (by k_asm) (by k_mem) (by assumption) (by assumption) ?_)))
/-- statement 18: still -/
theorem seg_p (w : World) (g : Heap) (L : Addr) (m : Str → Option Value) (led : List (Addr × Obj)) (n V : Nat) (f : Nat → Nat × Nat) (ys : List Value) (c : Nat) (P : Addr) (t4 t6 : Tok) (Tb : Tabs led) (hn : n ≤ 100)
    (h4 : Cell led (L + 4) (some (.int (n : Int) t4))) (h6 : Cell led (L + 5) (some (.int (V : Int) t6))) (h8 : Cell led (L + 8) (some (.ref P))) (hP : (P, listOf (List.toArray ys) c) ∈ led) (hy : Parted led ys f n)
    (next : ∀ D zs c' led', (D, listOf (List.toArray zs) c') ∈ led' → IntsAre zs ((atRem f V n).map Int.ofNat) → (∀ p ∈ led, p ∈ led') → Tabs led' → Ends w g L 19 (fun y => if y = Str.ofString "still" then some (.ref D) else m y) led') :
    Seg w g L (Ends w g L 18 m led) := by
  have fk : mkK.heap_1 = mkK.heap_1 ∧ PySem.Challenge.rw_xp0011_01 = PySem.Challenge.rw_xp0011_01 := by
    k_fill
    exact ⟨rfl, rfl⟩
  intro p loose mean mg mb X B T hL s Q E F N G hq
  obtain ⟨o4, m4, d4⟩ := h4
  obtain ⟨o6, m6, d6⟩ := h6
  obtain ⟨o8, m8, d8⟩ := h8
  k_dflt (have ho := (show (mkK.heap_1 (w.params)).lookup 169 = some _ by k_is))
  have hs := (show (bodyOf (mkK.heap_1 (w.params)) 169)[18]? = some _ by unfold bodyOf; rw [ho]; rfl)
  clear ho
  rw [tail_cons hs]
  clear hs
  refine wpC_execs_cons (wpC_any ?_)
  k_dflt (refine LCt.Assign_ListComp_T (cl := [(Str.ofString "whole", L + 5), (Str.ofString "parted", L + 8)]) F rfl rfl rfl (by decide) rfl (by decide) rfl rfl rfl ?_)
  k_steps
  rename Fr _ _ _ _ => F1
  rename News _ _ _ _ => N1
  rename IsRange _ _ _ _ _ _ _ _ => r1
  refine Halt.go ?_
  refine LCt.CompSrcT.range (n := n) rfl F1 N1 r1 ?_ ?_ ?_ fun g' => ?_
  · exact range_small (by omega) (by omega) (by omega) rangeSize_to (by omega)
  · exact rangeSize_to
  · exact Nat.le_trans hn (by decide +kernel)
  refine compRestT_of (fun i zs nw => IntsAre zs ((atRem f V i).map Int.ofNat) ∧ nw = led) ?_ ?_ _ 0 [] _ (Nat.zero_add _) ⟨.nil, rfl⟩
  · rintro i zs nw v I oI C oC D m₂ h5 tk5 E5 hi ⟨hz, rfl⟩ ⟨u, rfl⟩ hC hx F5 N5 off ne
    rw [Int.zero_add] at hx
    clear F1 N1 r1
    k_steps
    obtain ⟨D', t1, t2, kk, ea, eb⟩ := hy.2 i hi
    refine Halt.go (item_listL (News.isList N5 (.tail _ (.tail _ (.tail _ hP)))) (Int.natCast_nonneg _) (by omega) (by rw [Int.toNat_natCast]; exact ea) ?_)
    k_steps
    refine Halt.go (item_tupleT (l := [.int ((f i).1 : Int) t1, .int ((f i).2 : Int) t2]) (j := 1) (News.isTup N5 (.tail _ (.tail _ (.tail _ eb)))) (by decide) (by decide) rfl rfl ?_)
    k_steps
    · rename_i he
      have he : (f i).2 = V := Int.ofNat.inj he
      refine Halt.go ⟨_, _, _, rfl, F5, N5, off, trivial, ?_, rfl⟩
      rw [atRem_succ, if_pos he, List.map_append]
      exact IntsAre.append hz (.cons _ _ .nil)
    · rename_i he
      have he : (f i).2 ≠ V := fun e => he (by rw [e])
      refine Halt.go ⟨_, _, _, rfl, F5, N5, off, trivial, ?_, rfl⟩
      rw [atRem_succ, if_neg he, List.append_nil]
      exact hz
  · rintro zs nw ⟨hz, rfl⟩
    intro D h6 tk6 F6 N6 off
    exact next D zs _ _ (.head _) hz (fun p hp => .tail _ hp) (Tb.mono fun p hp => .tail _ hp) _ Q E F6 N6 G hq
end
section
/-- statements 19 to 21 -/
theorem seg_q (w : World) (g : Heap) (L : Addr) (m : Str → Option Value) (led : List (Addr × Obj)) (v : Value) (Tb : Tabs led)
    (next : ∀ D t1 t2 led', led' = (D, listOf #[] 0) :: led → (∀ p ∈ led, p.1 < D) → Tabs led' → Ends w g L 22 (fun y => if y = Str.ofString "gone" then some (.int 0 t2) else if y = Str.ofString "ahead" then some (.int 0 t1) else if y = Str.ofString "due" then some (.ref D) else if y = Str.ofString "still" then some v else m y) led') :
    Seg w g L (Ends w g L 19 (fun y => if y = Str.ofString "still" then some v else m y) led) := by
  have fk : mkK.heap_1 = mkK.heap_1 ∧ PySem.Challenge.rw_xp0011_01 = PySem.Challenge.rw_xp0011_01 := by
    k_fill
    exact ⟨rfl, rfl⟩
  intro p loose mean mg mb X B T hL s Q E F N G hq
  k_dflt (have ho := (show (mkK.heap_1 (w.params)).lookup 169 = some _ by k_is))
  have hs := (show (bodyOf (mkK.heap_1 (w.params)) 169)[19]? = some _ by unfold bodyOf; rw [ho]; rfl)
  clear ho
  rw [tail_cons hs]
  clear hs
  refine wpC_execs_cons (wpC_any ?_)
  k_steps
  k_dflt (have ho := (show (mkK.heap_1 (w.params)).lookup 169 = some _ by k_is))
  have hs := (show (bodyOf (mkK.heap_1 (w.params)) 169)[20]? = some _ by unfold bodyOf; rw [ho]; rfl)
  clear ho
  rw [tail_cons hs]
  clear hs
  refine wpC_execs_cons (wpC_any ?_)
  k_steps
  k_dflt (have ho := (show (mkK.heap_1 (w.params)).lookup 169 = some _ by k_is))
  have hs := (show (bodyOf (mkK.heap_1 (w.params)) 169)[21]? = some _ by unfold bodyOf; rw [ho]; rfl)
  clear ho
  rw [tail_cons hs]
  clear hs
  refine wpC_execs_cons (wpC_any ?_)
  k_steps
  rename Fr _ _ _ _ => F11
  rename News _ _ _ _ => N11
  rename ∀ p ∈ led, _ => l1
  exact next _ _ _ _ rfl l1 (Tb.mono fun p hp => .tail _ hp) _ Q E F11 N11 G hq
end
end Mine
end

section
open PySem PySem.W PyProof.Rows PySem.Calls
set_option Elab.async false
set_option maxRecDepth 100000
set_option maxHeartbeats 2000000
set_option linter.unusedVariables false
namespace Mine
def loopOf (b : List Stmt) : List Stmt := match b[22]? with
  | some (PySem.Stmt.For _ _ body _ _) => body
  | _ => []
/-- the statements of the law's last loop behind the first k -/
noncomputable def loopTail (w : World) (k : Nat) : List Stmt := (loopOf (bodyOf (mkK.heap_1 w.params) 169)).drop k
theorem loop_cons {w : World} {k : Nat} {st : Stmt} (h : (loopOf (bodyOf (mkK.heap_1 w.params) 169))[k]? = some st) : loopTail w k = st :: loopTail w (k + 1) := by
  unfold loopTail
  obtain ⟨hk, e⟩ := List.getElem?_eq_some_iff.mp h
  rw [List.drop_eq_getElem_cons hk, e]
/-- from statement k of the loop on the turn ends well -/
def LEnds (w : World) (g : Heap) (L : Addr) (K : (Str → Option Value) → List (Addr × Obj) → Prop) (k : Nat) (m : Str → Option Value) (led : List (Addr × Obj)) : Prop :=
  ∀ (s : Shared) (Q : Flow → Shared → Prop) (E : Value → Shared → Prop), Fr g L s.heap m → News g L s.heap led → AllBare s.gens →
    (∀ s' m' led', K m' led' → Fr g L s'.heap m' → News g L s'.heap led' → AllBare s'.gens → s'.os = s.os → Q .next s') →
    wpC (model PySem.Challenge.rw_xp0011_01.row.prog w) (lawA L) (execs (loopTail w k) (lawEnv L)) Q E s
/-- the locals that the loop reads -/
structure Loc (m : Str → Option Value) (x : Addr) (z : Str) (us : List Nat) (D S : Addr) (go ah : Nat) : Prop where
  ring : m (Str.ofString "ring") = some (.ref x)
  written : ∃ t, m (Str.ofString "written") = some (.str z t)
  word : ∃ t, m (Str.ofString "word") = some (.str ⟨us.toArray⟩ t)
  due : m (Str.ofString "due") = some (.ref D)
  still : m (Str.ofString "still") = some (.ref S)
  gone : ∃ t, m (Str.ofString "gone") = some (.int (go : Int) t)
  ahead : ∃ t, m (Str.ofString "ahead") = some (.int (ah : Int) t)
theorem upd_ne {m : Str → Option Value} {n n' : Str} {v w : Option Value} (h : n' ≠ n) (e : m n' = w) : (fun y => if y = n then v else m y) n' = w := (if_neg h).trans e
theorem upd_eq {m : Str → Option Value} {n : Str} {v : Option Value} : (fun y => if y = n then v else m y) n = v := if_pos rfl
theorem Loc.set {m : Str → Option Value} {x : Addr} {z : Str} {us : List Nat} {D S : Addr} {go ah : Nat} (l : Loc m x z us D S go ah) {n : Str} {v : Option Value} (h1 : Str.ofString "ring" ≠ n) (h2 : Str.ofString "written" ≠ n) (h3 : Str.ofString "word" ≠ n) (h4 : Str.ofString "due" ≠ n) (h5 : Str.ofString "still" ≠ n) (h6 : Str.ofString "gone" ≠ n) (h7 : Str.ofString "ahead" ≠ n) : Loc (fun y => if y = n then v else m y) x z us D S go ah :=
  ⟨upd_ne h1 l.ring, let ⟨t, e⟩ := l.written; ⟨t, upd_ne h2 e⟩, let ⟨t, e⟩ := l.word; ⟨t, upd_ne h3 e⟩, upd_ne h4 l.due, upd_ne h5 l.still, let ⟨t, e⟩ := l.gone; ⟨t, upd_ne h6 e⟩, let ⟨t, e⟩ := l.ahead; ⟨t, upd_ne h7 e⟩⟩
theorem Loc.setGone {m : Str → Option Value} {x : Addr} {z : Str} {us : List Nat} {D S : Addr} {go go' ah : Nat} {t : Tok} (l : Loc m x z us D S go ah) : Loc (fun y => if y = Str.ofString "gone" then some (.int (go' : Int) t) else m y) x z us D S go' ah :=
  ⟨upd_ne (by decide) l.ring, let ⟨t, e⟩ := l.written; ⟨t, upd_ne (by decide) e⟩, let ⟨t, e⟩ := l.word; ⟨t, upd_ne (by decide) e⟩, upd_ne (by decide) l.due, upd_ne (by decide) l.still, ⟨t, upd_eq⟩, let ⟨t, e⟩ := l.ahead; ⟨t, upd_ne (by decide) e⟩⟩
theorem Loc.setAhead {m : Str → Option Value} {x : Addr} {z : Str} {us : List Nat} {D S : Addr} {go ah ah' : Nat} {t : Tok} (l : Loc m x z us D S go ah) : Loc (fun y => if y = Str.ofString "ahead" then some (.int (ah' : Int) t) else m y) x z us D S go ah' :=
  ⟨upd_ne (by decide) l.ring, let ⟨t, e⟩ := l.written; ⟨t, upd_ne (by decide) e⟩, let ⟨t, e⟩ := l.word; ⟨t, upd_ne (by decide) e⟩, upd_ne (by decide) l.due, upd_ne (by decide) l.still, let ⟨t, e⟩ := l.gone; ⟨t, upd_ne (by decide) e⟩, ⟨t, upd_eq⟩⟩
section
local macro_rules | `(tactic| walk_at "call ref") => `(tactic| (refine Halt.out ?_))
local macro_rules | `(tactic| walk_at "getMethod ref") => `(tactic| (refine Halt.out ?_))
local macro_rules | `(tactic| walk_at "eval Name") => `(tactic| (k_here; k_dflt (refine' nameX_L ?F ?v ?_ ?a ?b; (case F => k_asm); (case a => rfl); (case b => rfl); (case v => with_reducible assumption); k_whole)))
/-- statement 2 of the loop -/
theorem lb_2 (w : World) (g : Heap) (L : Addr) (K : (Str → Option Value) → List (Addr × Obj) → Prop) (m : Str → Option Value) (led : List (Addr × Obj)) (x dx : Addr) (v0 : Value) (vs : List Value) (hr : m (Str.ofString "ring") = some (.ref x)) (R : Ring led x dx (v0 :: vs)) (hz : vs.length ≤ 100)
    (next : ∀ P k2 led', Ring led' x dx [v0] → (P, lstO vs k2) ∈ led' → (∀ p ∈ led, p.1 ≠ x → p.1 ≠ dx → p.1 ≠ P) → Left x dx led led' → LEnds w g L K 3 (fun y => if y = Str.ofString "behind" then some (.ref P) else m y) led') :
    Seg w g L (LEnds w g L K 2 m led) := by
  have fk : mkK.heap_1 = mkK.heap_1 ∧ PySem.Challenge.rw_xp0011_01 = PySem.Challenge.rw_xp0011_01 := by
    k_fill
    exact ⟨rfl, rfl⟩
  intro p loose mean mg mb X B T hL s Q E F N G hq
  obtain ⟨c0, hx0⟩ := R.rx
  obtain ⟨hs0, t0, u0, k0, hd0⟩ := R.rd
  k_dflt (have ho := (show (mkK.heap_1 (w.params)).lookup 169 = some _ by k_is))
  have hs := (show (loopOf (bodyOf (mkK.heap_1 (w.params)) 169))[2]? = some _ by unfold loopOf bodyOf; rw [ho]; rfl)
  clear ho
  rw [loop_cons hs]
  clear hs
  refine wpC_execs_cons (wpC_any ?_)
  k_steps
  k_dflt (refine Halt.go (ring_fn (f := 74) (od := iniD hs0 t0 u0 k0) (X.keeps F.keep) (N _ hx0).1 (N _ hd0).1 (by k_is) (by k_is) ini_shadow.2.2.2.2.1 ?_))
  k_steps
  refine Halt.go (popfrom_use X B F N T G R (by omega) (by decide) fun P k2 led' s2 R2 hP2 lP K2 F2 N2 G2 os2 => ?_)
  k_steps
  rename Fr g L _ (fun y => if y = Str.ofString "behind" then _ else _) => F3
  rename News g L _ led' => N3
  exact next P k2 led' R2 hP2 lP K2 _ Q E F3 N3 G2 (fun s' m' led' k a b c e => hq s' m' led' k a b c (e.trans os2))
end
end Mine
end

section
open PySem PySem.W PyProof.Rows PySem.Calls
set_option Elab.async false
set_option maxRecDepth 100000
set_option maxHeartbeats 2000000
set_option linter.unusedVariables false
namespace Mine
section
local macro_rules | `(tactic| walk_at "call ref") => `(tactic| (refine Halt.out ?_))
local macro_rules | `(tactic| walk_at "getMethod ref") => `(tactic| (refine Halt.out ?_))
local macro_rules | `(tactic| walk_at "eval Name") => `(tactic| (k_here; k_dflt (refine' nameX_L ?F ?v ?_ ?a ?b; (case F => k_asm); (case a => rfl); (case b => rfl); (case v => with_reducible assumption); k_whole)))
/-- statement 4 of the loop -/
theorem lb_4 (w : World) (g : Heap) (L : Addr) (K : (Str → Option Value) → List (Addr × Obj) → Prop) (m : Str → Option Value) (led : List (Addr × Obj)) (x dx P : Addr) (vs ws : List Value) (n' : Nat) (hr : m (Str.ofString "ring") = some (.ref x)) (hb : m (Str.ofString "behind") = some (.ref P)) (R : Ring led x dx vs) (hP : (P, lstO ws n') ∈ led) (hz : vs.length + ws.length ≤ 100)
    (next : ∀ led', Ring led' x dx ws → Left x dx led led' → LEnds w g L K 5 m led') :
    Seg w g L (LEnds w g L K 4 m led) := by
  have fk : mkK.heap_1 = mkK.heap_1 ∧ PySem.Challenge.rw_xp0011_01 = PySem.Challenge.rw_xp0011_01 := by
    k_fill
    exact ⟨rfl, rfl⟩
  intro p loose mean mg mb X B T hL s Q E F N G hq
  obtain ⟨c0, hx0⟩ := R.rx
  obtain ⟨hs0, t0, u0, k0, hd0⟩ := R.rd
  k_dflt (have ho := (show (mkK.heap_1 (w.params)).lookup 169 = some _ by k_is))
  have hs := (show (loopOf (bodyOf (mkK.heap_1 (w.params)) 169))[4]? = some _ by unfold loopOf bodyOf; rw [ho]; rfl)
  clear ho
  rw [loop_cons hs]
  clear hs
  refine wpC_execs_cons (wpC_any ?_)
  k_steps
  k_dflt (refine Halt.go (ring_fn (f := 104) (od := iniD hs0 t0 u0 k0) (X.keeps F.keep) (N _ hx0).1 (N _ hd0).1 (by k_is) (by k_is) ini_shadow.2.2.2.2.2 ?_))
  k_steps
  refine Halt.go (reset_use X B F N T G R hP (by omega) (by decide) fun led' s2 R2 K2 F2 N2 G2 os2 => ?_)
  k_steps
  exact next led' R2 K2 _ Q E F2 N2 G2 (fun s' m' led' k a b c e => hq s' m' led' k a b c (e.trans os2))
/-- statement 5 of the loop -/
theorem lb_5 (w : World) (g : Heap) (L : Addr) (K : (Str → Option Value) → List (Addr × Obj) → Prop) (m : Str → Option Value) (led : List (Addr × Obj)) (x dx : Addr) (vs : List Value) (a b : Value) (hr : m (Str.ofString "ring") = some (.ref x)) (ha : m (Str.ofString "blanks") = some a) (hb : m (Str.ofString "part") = some b) (R : Ring led x dx vs) (hz : vs.length ≤ 100)
    (next : ∀ D k2 led', Ring led' x dx (vs ++ [.ref D]) → (D, tupO [a, b] k2) ∈ led' → Left x dx led led' → LEnds w g L K 6 m led') :
    Seg w g L (LEnds w g L K 5 m led) := by
  have fk : mkK.heap_1 = mkK.heap_1 ∧ PySem.Challenge.rw_xp0011_01 = PySem.Challenge.rw_xp0011_01 := by
    k_fill
    exact ⟨rfl, rfl⟩
  intro p loose mean mg mb X B T hL s Q E F N G hq
  obtain ⟨c0, hx0⟩ := R.rx
  obtain ⟨hs0, t0, u0, k0, hd0⟩ := R.rd
  k_dflt (have ho := (show (mkK.heap_1 (w.params)).lookup 169 = some _ by k_is))
  have hs := (show (loopOf (bodyOf (mkK.heap_1 (w.params)) 169))[5]? = some _ by unfold loopOf bodyOf; rw [ho]; rfl)
  clear ho
  rw [loop_cons hs]
  clear hs
  refine wpC_execs_cons (wpC_any ?_)
  k_steps
  k_dflt (refine Halt.go (ring_fn (f := 66) (od := iniD hs0 t0 u0 k0) (X.keeps F.keep) (N _ hx0).1 (N _ hd0).1 (by k_is) (by k_is) ini_shadow.2.2.1 ?_))
  k_steps
  refine Halt.go (push_use X B F N T G R (by omega) (by decide) fun D k2 led' s2 R2 hD2 lD K2 F2 N2 G2 os2 => ?_)
  k_steps
  exact next D k2 led' R2 hD2 K2 _ Q E F2 N2 G2 (fun s' m' led' k a b c e => hq s' m' led' k a b c (e.trans os2))
/-- statement 3 of the loop -/
theorem lb_3 (w : World) (g : Heap) (L : Addr) (K : (Str → Option Value) → List (Addr × Obj) → Prop) (m : Str → Option Value) (led : List (Addr × Obj)) (x dx D0 : Addr) (a b : Value) (k0 : Nat) (hr : m (Str.ofString "ring") = some (.ref x)) (R : Ring led x dx ([] ++ [.ref D0])) (hD : (D0, tupO [a, b] k0) ∈ led)
    (next : ∀ led', Ring led' x dx [] → Left x dx led led' → LEnds w g L K 4 (fun y => if y = Str.ofString "part" then some b else if y = Str.ofString "blanks" then some a else m y) led') :
    Seg w g L (LEnds w g L K 3 m led) := by
  have fk : mkK.heap_1 = mkK.heap_1 ∧ PySem.Challenge.rw_xp0011_01 = PySem.Challenge.rw_xp0011_01 := by
    k_fill
    exact ⟨rfl, rfl⟩
  intro p loose mean mg mb X B T hL s Q E F N G hq
  obtain ⟨c0, hx0⟩ := R.rx
  obtain ⟨hs0, t0, u0, kk, hd0⟩ := R.rd
  k_dflt (have ho := (show (mkK.heap_1 (w.params)).lookup 169 = some _ by k_is))
  have hs := (show (loopOf (bodyOf (mkK.heap_1 (w.params)) 169))[3]? = some _ by unfold loopOf bodyOf; rw [ho]; rfl)
  clear ho
  rw [loop_cons hs]
  clear hs
  refine wpC_execs_cons (wpC_any ?_)
  k_steps
  k_dflt (refine Halt.go (ring_fn (f := 82) (od := iniD hs0 t0 u0 kk) (X.keeps F.keep) (N _ hx0).1 (N _ hd0).1 (by k_is) (by k_is) ini_shadow.2.2.2.1 ?_))
  k_steps
  refine Halt.go (pop_use X B F N T G R (by decide) (by decide) fun led' s2 R2 K2 F2 N2 G2 os2 => ?_)
  have hD' : (D0, tupO [a, b] k0) ∈ led' := let ⟨u, v⟩ := R.apart N hD (fun _ _ _ => rfl) (fun es ep e => by cases e); K2 _ hD u v
  clear F N
  k_steps
  rename Fr _ _ _ _ => F3
  rename News _ _ _ _ => N3
  exact next led' R2 K2 _ Q E F3 N3 G2 (fun s' m' led' k a b c e => hq s' m' led' k a b c (e.trans os2))
end
section
local macro_rules | `(tactic| walk_at "call builtin:len") => `(tactic| (refine Halt.out ?_))
local macro_rules | `(tactic| walk_at "eval Name") => `(tactic| (k_here; k_dflt (refine' nameX_L ?F ?v ?_ ?a ?b; (case F => k_asm); (case a => rfl); (case b => rfl); (case v => with_reducible assumption); k_whole)))
/-- statement 7 of the loop -/
theorem lb_7 (w : World) (g : Heap) (L : Addr) (K : (Str → Option Value) → List (Addr × Obj) → Prop) (m : Str → Option Value) (led : List (Addr × Obj)) (go : Nat) (z : Str) (tg tp : Tok) (hg : m (Str.ofString "gone") = some (.int (go : Int) tg)) (hp : m (Str.ofString "part") = some (.str z tp)) (hz : z.cps.size ≤ 100) (hgo : go ≤ 1000)
    (next : ∀ t, K (fun y => if y = Str.ofString "gone" then some (.int ((go + z.cps.size : Nat) : Int) t) else m y) led) :
    Seg w g L (LEnds w g L K 7 m led) := by
  have fk : mkK.heap_1 = mkK.heap_1 ∧ PySem.Challenge.rw_xp0011_01 = PySem.Challenge.rw_xp0011_01 := by
    k_fill
    exact ⟨rfl, rfl⟩
  intro p loose mean mg mb X B T hL s Q E F N G hq
  k_dflt (have ho := (show (mkK.heap_1 (w.params)).lookup 169 = some _ by k_is))
  have hs := (show (loopOf (bodyOf (mkK.heap_1 (w.params)) 169))[7]? = some _ by unfold loopOf bodyOf; rw [ho]; rfl)
  clear ho
  rw [loop_cons hs]
  clear hs
  refine wpC_execs_cons (wpC_any ?_)
  k_steps
  refine Halt.go (str_len (by omega) ?_)
  k_steps
  rename Fr _ _ _ _ => F3
  rename News _ _ _ _ => N3
  rw [← Int.natCast_add] at F3
  k_dflt (have ho := (show (mkK.heap_1 w.params).lookup 169 = some _ by k_is))
  have e8 : loopTail w (7 + 1) = [] := by unfold loopTail loopOf bodyOf; rw [ho]; rfl
  rw [e8]
  exact wpC_any (wpAny_execs_nil (hq _ _ _ (next _) F3 N3 G rfl))
end
section
local macro_rules | `(tactic| walk_at "call builtin:len") => `(tactic| (refine Halt.out ?_))
local macro_rules | `(tactic| walk_at "binaryOp Mult int int") => `(tactic| (refine Halt.out ?_))
local macro_rules | `(tactic| walk_at "binaryOp LShift int int") => `(tactic| (refine Halt.out ?_))
local macro_rules | `(tactic| walk_at "eval Name") => `(tactic| (k_here; k_dflt (refine' nameX_L ?F ?v ?_ ?a ?b; (case F => k_asm); (case a => rfl); (case b => rfl); (case v => with_reducible assumption); k_whole)))
/-- statement 6 of the loop -/
theorem lb_6 (w : World) (g : Heap) (L : Addr) (K : (Str → Option Value) → List (Addr × Obj) → Prop) (m : Str → Option Value) (led : List (Addr × Obj)) (ah wd : Nat) (z : Str) (ta tp t3 : Tok) (Tb : Tabs led) (ha : m (Str.ofString "ahead") = some (.int (ah : Int) ta)) (hp : m (Str.ofString "part") = some (.str z tp)) (hz : z.cps.size ≤ 100) (hz0 : 0 < z.cps.size) (hw : 8 ≤ wd) (hw2 : wd ≤ 400) (hv : ∀ c ∈ z.cps.toList, c < 256) (hah : ah < 2 ^ 40000)
    (h3 : Cell led (L + 3) (some (.int (wd : Int) t3)))
    (next : ∀ t led', Tabs led' → (∀ p ∈ led, p.1 ≠ 37 → p ∈ led') → LEnds w g L K 7 (fun y => if y = Str.ofString "ahead" then some (.int ((ah * 2 ^ (wd * z.cps.size) + num wd z.cps.toList : Nat) : Int) t) else m y) led') :
    Seg w g L (LEnds w g L K 6 m led) := by
  have fk : mkK.heap_1 = mkK.heap_1 ∧ PySem.Challenge.rw_xp0011_01 = PySem.Challenge.rw_xp0011_01 := by
    k_fill
    exact ⟨rfl, rfl⟩
  intro p loose mean mg mb X B T hL s Q E F N G hq
  obtain ⟨o3, m3, d3⟩ := h3
  k_dflt (have ho := (show (mkK.heap_1 (w.params)).lookup 169 = some _ by k_is))
  have hs := (show (loopOf (bodyOf (mkK.heap_1 (w.params)) 169))[6]? = some _ by unfold loopOf bodyOf; rw [ho]; rfl)
  clear ho
  rw [loop_cons hs]
  clear hs
  refine wpC_execs_cons (wpC_Assign_Name (wpC_BinOp ?_))
  k_steps
  refine Halt.go (str_len (by omega) ?_)
  k_steps
  refine Halt.go (mul_nat (by omega) ?_)
  k_steps
  have hsz : wd * z.cps.size ≤ 40000 := Nat.le_trans (Nat.mul_le_mul hw2 hz) (by decide)
  refine Halt.go (mn_lsh (show _ ≤ _ from Nat.le_trans (Nat.add_le_add (nat_bits (x := ah) (k := 40000) hah) hsz) (by decide)) ?_)
  refine wpC_Call_Name (trees := [(false, eval _ _), (false, eval _ _)]) rfl ?_
  clear hah
  k_steps
  refine wpC_callWith (spliced_cons ?_)
  k_steps
  refine spliced_cons ?_
  k_steps
  refine spliced_nil ?_
  refine ⟨fnAt_K (X.keeps F.keep) (by kernel_rfl), ?_⟩
  refine number_use (un := 7) X B F N T G Tb hz hz0 hw hw2 hv (by decide) fun t5 led1 s1 T1 K1 F1 N1 G1 os1 => ?_
  clear F N
  k_steps
  rename Fr _ _ _ _ => F3
  rename News _ _ _ _ => N3
  rw [show (ah : Int) * 2 ^ (wd * z.cps.size) + (num wd z.cps.toList : Int) = ((ah * 2 ^ (wd * z.cps.size) + num wd z.cps.toList : Nat) : Int) by push_cast; rfl] at F3
  exact next _ led1 T1 K1 _ Q E F3 N3 G1 (fun s' m' led' k a b c e => hq s' m' led' k a b c (e.trans os1))
end
end Mine
end

section
open PySem PySem.W PyProof.Rows PySem.Calls
set_option Elab.async false
set_option maxRecDepth 100000
set_option maxHeartbeats 2000000
set_option linter.unusedVariables false
namespace Mine
theorem slice_to (us : List Nat) {j : Nat} (hj : j ≤ us.length) : (Txt.slice ⟨us.toArray⟩ none (some (j : Int))).cps.toList = us.take j := by
  show (StrLaws.sliceText ⟨us.toArray⟩ none (some (j : Int))).cps.toList = _
  rw [StrLaws.sliceText_to ⟨Int.natCast_nonneg _, by simpa using hj⟩]
  simp
theorem slice_from (us : List Nat) {j : Nat} (hj : j ≤ us.length) : (Txt.slice ⟨us.toArray⟩ (some (j : Int)) none).cps.toList = us.drop j := by
  show (StrLaws.sliceText ⟨us.toArray⟩ (some (j : Int)) none).cps.toList = _
  rw [StrLaws.sliceText_from ⟨Int.natCast_nonneg _, by simpa using hj⟩]
  have e : ((us.length : Int) - (j : Int)).toNat = us.length - j := by omega
  simp [e, List.take_of_length_le]
/-- what is no record is none of the tables -/
theorem tabs_off {g h : Heap} {L c : Addr} {o : Obj} {led : List (Addr × Obj)} (T : Tabs led) (N : News g L h led) (hm : (c, o) ∈ led) (hd : ∀ vs, o.data ≠ .fields vs) : c ≠ 37 ∧ c ≠ 84 ∧ c ≠ 91 := by
  obtain ⟨q1, a1, b1⟩ := T.t1
  obtain ⟨q2, a2, b2⟩ := T.t2
  obtain ⟨q3, a3, b3⟩ := T.t3
  refine ⟨fun e => ?_, fun e => ?_, fun e => ?_⟩
  · subst e
    have e := news_same N hm a1
    subst e
    rcases b1 with rfl | ⟨c, _, _, _, rfl, _⟩
    · exact hd _ rfl
    · exact hd _ rfl
  · subst e
    have e := news_same N hm a2
    subst e
    rcases b2 with rfl | ⟨c, rfl⟩
    · exact hd _ rfl
    · exact hd _ rfl
  · subst e
    have e := news_same N hm a3
    subst e
    rcases b3 with rfl | ⟨c, rfl⟩
    · exact hd _ rfl
    · exact hd _ rfl
section
local macro_rules | `(tactic| walk_at "call ref") => `(tactic| (refine Halt.out ?_))
local macro_rules | `(tactic| walk_at "call builtin:list.append") => `(tactic| (refine Halt.out ?_))
local macro_rules | `(tactic| walk_at "eval Name") => `(tactic| (k_here; k_dflt (refine' nameX_L ?F ?v ?_ ?a ?b; (case F => k_asm); (case a => rfl); (case b => rfl); (case v => with_reducible assumption); k_whole)))
/-- statement 1 of the loop -/
theorem lb_1 (w : World) (g : Heap) (L : Addr) (K : (Str → Option Value) → List (Addr × Obj) → Prop) (m : Str → Option Value) (led : List (Addr × Obj)) (us : List Nat) (j go c : Nat) (D : Addr) (ds : List Value) (tg tw tj : Tok) (Tb : Tabs led) (hw : m (Str.ofString "word") = some (.str ⟨us.toArray⟩ tw)) (hp : m (Str.ofString "place") = some (.int (j : Int) tj)) (hd : m (Str.ofString "due") = some (.ref D)) (hg : m (Str.ofString "gone") = some (.int (go : Int) tg)) (hu : us.length ≤ 6) (hj : j ≤ us.length) (hD : (D, listOf (List.toArray ds) c) ∈ led) (hz : ds.length ≤ 100)
    (next : ∀ c' led' ds', (ds' = if us.take j = (us.take j).reverse ∧ us.drop j = (us.drop j).reverse then ds ++ [.int (go : Int) tg] else ds) → (D, listOf (List.toArray ds') c') ∈ led' → (∀ p ∈ led, p.1 ≠ D → p ∈ led') → Tabs led' → LEnds w g L K 2 m led') :
    Seg w g L (LEnds w g L K 1 m led) := by
  have fk : mkK.heap_1 = mkK.heap_1 ∧ PySem.Challenge.rw_xp0011_01 = PySem.Challenge.rw_xp0011_01 := by
    k_fill
    exact ⟨rfl, rfl⟩
  intro p loose mean mg mb X B T hL s Q E F N G hq
  k_dflt (have ho := (show (mkK.heap_1 (w.params)).lookup 169 = some _ by k_is))
  have hs := (show (loopOf (bodyOf (mkK.heap_1 (w.params)) 169))[1]? = some _ by unfold loopOf bodyOf; rw [ho]; rfl)
  clear ho
  rw [loop_cons hs]
  clear hs
  refine wpC_execs_cons (wpC_any ?_)
  k_steps
  rename Fr _ _ _ _ => F1
  rename News _ _ _ _ => N1
  refine Halt.go (Does.use (alike_does w _ _ (by rw [← Array.length_toList, slice_to us hj, List.length_take]; omega)) X B F1 N1 T rfl (by decide +kernel) (by decide +kernel) ?_)
  rintro _ _ h10 tk10 ⟨rfl, rfl⟩ F10 N10 hlt10
  rw [List.nil_append] at N10
  rw [slice_to us hj]
  clear F1 N1
  k_steps
  · rename Fr _ _ _ _ => F2
    rename News _ _ _ _ => N2
    refine Halt.go (Does.use (alike_does w _ _ (by rw [← Array.length_toList, slice_from us hj, List.length_drop]; omega)) X B F2 N2 T rfl (by decide +kernel) (by decide +kernel) ?_)
    rintro _ _ h12 tk12 ⟨rfl, rfl⟩ F12 N12 hlt12
    rw [List.nil_append] at N12
    rw [slice_from us hj]
    clear F2 N2
    k_steps
    · refine Halt.go (append_K F12 (news_at N12 hD) (Upd.head off_ne) (fun h13 F13 N13 => ?_) (by rw [List.size_toArray]; exact Nat.le_trans hz (by decide +kernel)))
      rw [List.push_toArray] at N13
      k_steps
      have hyes : us.take j = (us.take j).reverse ∧ us.drop j = (us.drop j).reverse := ⟨by assumption, by assumption⟩
      exact next (c + 1) _ _ (by rw [if_pos hyes]) (.head _) (fun p hp a => .tail _ (mem_off.mpr ⟨hp, a⟩)) (Tb.kept (bad := [D]) N12 (fun d hd' => by
        rw [List.mem_singleton.mp hd']
        obtain ⟨n1, n2, n3⟩ := tabs_off Tb N12 hD (fun vs e => by cases e)
        exact ⟨_, hD, fun vs e => (by cases e), n1, n2, n3⟩) keep_off) _ Q E F13 N13 G hq
    · rename_i hno
      exact next c led ds (by rw [if_neg fun e => hno e.2]) hD (fun p hp _ => hp) Tb _ Q E F12 N12 G hq
  · rename_i hno
    exact next c led ds (by rw [if_neg fun e => hno e.1]) hD (fun p hp _ => hp) Tb _ Q E F10 N10 G hq
end
end Mine
end

section
open PySem PySem.W PyProof.Rows PySem.Calls
set_option Elab.async false
set_option maxRecDepth 100000
set_option maxHeartbeats 2000000
set_option linter.unusedVariables false
namespace Mine
theorem wpC_TupleT {M : Model} {A : Around} {E : Value → Shared → Prop} {s : Shared} {env : Env} {elts : List Expr} {c : Nat} {pos : Pos} {trees : List (Bool × Sem Value)} {Q : Value → Shared → Prop} (ht : backTo pos (starEach elts env) = trees)
    (h : wpC M A (spliced trees) (fun vs s₁ => wpAny M A (newTuple vs) Q E s₁) E s) : wpC M A (eval (.Tuple elts c pos) env) Q E s := wpC_Tuple (ht ▸ h)
section
local macro_rules | `(tactic| walk_at "call ref") => `(tactic| (refine Halt.out ?_))
local macro_rules | `(tactic| walk_at "call type:str") => `(tactic| (refine Halt.out ?_))
local macro_rules | `(tactic| walk_at "subscriptTail") => `(tactic| (refine Halt.out ?_))
local macro_rules | `(tactic| walk_at "subscriptTail Name Name ref int") => `(tactic| (refine Halt.out ?_))
local macro_rules | `(tactic| walk_at "eval Name") => `(tactic| (k_here; k_dflt (refine' nameX_L ?F ?v ?_ ?a ?b; (case F => k_asm); (case a => rfl); (case b => rfl); (case v => with_reducible assumption); k_whole)))
/-- statement 0 of the loop -/
theorem lb_0 (w : World) (g : Heap) (L : Addr) (K : (Str → Option Value) → List (Addr × Obj) → Prop) (m : Str → Option Value) (led : List (Addr × Obj)) (x dx P : Addr) (vs ys : List Value) (ps : List Str) (f : Nat → Nat × Nat) (n go ah wd c : Nat) (tg ta t3 : Tok) (Tb : Tabs led)
    (hr : m (Str.ofString "ring") = some (.ref x)) (hg : m (Str.ofString "gone") = some (.int (go : Int) tg)) (ha : m (Str.ofString "ahead") = some (.int (ah : Int) ta)) (h3 : Cell led (L + 3) (some (.int (wd : Int) t3))) (h8 : Cell led (L + 8) (some (.ref P)))
    (hP : (P, listOf (List.toArray ys) c) ∈ led) (hy : Parted led ys f n) (hgo : go < n) (hn : n ≤ 100) (R : Ring led x dx vs) (hp : Pieces vs ps led) (hb : ∀ p ∈ ps, p.length ≤ 100) (hpn : ps.length ≤ 100)
    (hz : (Txt.join (Str.ofString "") ps).cps.size ≤ 100) (hz0 : 0 < (Txt.join (Str.ofString "") ps).cps.size) (hw : 8 ≤ wd) (hw2 : wd ≤ 400) (hv : ∀ c ∈ (Txt.join (Str.ofString "") ps).cps.toList, c < 256)
    (hf : f go = (ah, num wd (Txt.join (Str.ofString "") ps).cps.toList))
    (next : ∀ led', Tabs led' → (∀ p ∈ led, p.1 ≠ 37 → p.1 ≠ 91 → p ∈ led') → LEnds w g L K 1 m led') :
    Seg w g L (LEnds w g L K 0 m led) := by
  have fk : mkK.heap_1 = mkK.heap_1 ∧ PySem.Challenge.rw_xp0011_01 = PySem.Challenge.rw_xp0011_01 := by
    k_fill
    exact ⟨rfl, rfl⟩
  intro p loose mean mg mb X B T hL s Q E F N G hq
  have n37 : ∀ i : Nat, L + i ≠ 37 := fun i => Nat.ne_of_gt (Nat.lt_of_lt_of_le (Nat.lt_trans (by decide) hL) (Nat.le_add_right _ _))
  have n91 : ∀ i : Nat, L + i ≠ 91 := fun i => Nat.ne_of_gt (Nat.lt_of_lt_of_le hL (Nat.le_add_right _ _))
  obtain ⟨o3, m3, d3⟩ := h3
  obtain ⟨o8, m8, d8⟩ := h8
  k_dflt (have ho := (show (mkK.heap_1 (w.params)).lookup 169 = some _ by k_is))
  have hs := (show (loopOf (bodyOf (mkK.heap_1 (w.params)) 169))[0]? = some _ by unfold loopOf bodyOf; rw [ho]; rfl)
  clear ho
  rw [loop_cons hs]
  clear hs
  refine wpC_execs_cons (wpC_If (wpC_isTrue_Compare1 ?_))
  k_steps
  obtain ⟨D', t1, t2, kk, ea, eb⟩ := hy.2 go hgo
  refine Halt.go (item_listL (News.isList N hP) (Int.natCast_nonneg _) (by omega) (by rw [Int.toNat_natCast]; exact ea) ?_)
  k_steps
  refine wpC_TupleT (trees := [(false, eval _ _), (false, eval _ _)]) rfl ?_
  refine wpC_spliced_cons (wpC_any ?_)
  k_steps
  refine wpC_spliced_cons ?_
  refine wpC_Call_Name (trees := [(false, eval _ _), (false, eval _ _)]) rfl ?_
  k_steps
  refine wpC_callWith (spliced_cons ?_)
  k_steps
  refine Halt.go (str_ring (un := 7) X B F N T G R Tb hp hb hpn (by decide) fun t5 led1 s1 T1 K1 F1 N1 G1 os1 => ?_)
  have m3' := K1 _ m3 (n91 3)
  obtain ⟨e37, e84, e91⟩ := tabs_off Tb N eb (fun vs e => by cases e)
  clear F N
  k_steps
  refine spliced_cons ?_
  k_steps
  refine spliced_nil ?_
  refine ⟨fnAt_K (X.keeps F1.keep) (by kernel_rfl), ?_⟩
  refine number_use (un := 7) X B F1 N1 T G1 T1 hz hz0 hw hw2 hv (by decide) fun t6 led2 s2 T2 K2 F2 N2 G2 os2 => ?_
  clear F1 N1
  refine wpC_spliced_nil ?_
  have eb2 := K2 _ (K1 _ eb e91) e37
  k_steps
  · rename Fr _ _ _ _ => F3
    rename News _ _ _ _ => N3
    refine wpC_any (wpAny_execs_nil ?_)
    exact next _ (T2.mono fun p hp => .tail _ hp) (fun p hp a b => .tail _ (K2 p (K1 p hp b) a)) _ Q E F3 N3 G2 (fun s' m' led' k a b c e => hq s' m' led' k a b c (e.trans (os2.trans os1)))
  · exfalso
    rename_i hne
    rw [hf] at hne
    simp at hne
end
end Mine
end

section
open PySem PySem.W PyProof.Rows PySem.Calls
set_option Elab.async false
set_option maxRecDepth 100000
set_option maxHeartbeats 2000000
set_option linter.unusedVariables false
namespace Mine
section
local macro_rules | `(tactic| walk_at "call ref") => `(tactic| (refine Halt.out ?_))
local macro_rules | `(tactic| walk_at "call type:str") => `(tactic| (refine Halt.out ?_))
local macro_rules | `(tactic| walk_at "eval Name") => `(tactic| (k_here; k_dflt (refine' nameX_L ?F ?v ?_ ?a ?b; (case F => k_asm); (case a => rfl); (case b => rfl); (case v => with_reducible assumption); k_whole)))
/-- statement 23 -/
theorem seg_s (w : World) (g : Heap) (L : Addr) (m : Str → Option Value) (led : List (Addr × Obj)) (x dx D Fd : Addr) (vs ds fs : List Value) (ps : List Str) (z : Str) (ns : List Int) (c1 c2 : Nat) (tz : Tok) (Tb : Tabs led)
    (hr : m (Str.ofString "ring") = some (.ref x)) (hd : m (Str.ofString "due") = some (.ref D)) (hw : m (Str.ofString "written") = some (.str z tz)) (h9 : Cell led (L + 9) (some (.ref Fd)))
    (hD : (D, listOf (List.toArray ds) c1) ∈ led) (hF : (Fd, listOf (List.toArray fs) c2) ∈ led) (iD : IntsAre ds ns) (iF : IntsAre fs ns) (R : Ring led x dx vs) (hp : Pieces vs ps led) (hb : ∀ p ∈ ps, p.length ≤ 100) (hpn : ps.length ≤ 100) (hz : Txt.join (Str.ofString "") ps = z)
    (next : ∀ led', Tabs led' → (∀ p ∈ led, p.1 ≠ 91 → p ∈ led') → Ends w g L 24 m led') :
    Seg w g L (Ends w g L 23 m led) := by
  have fk : mkK.heap_1 = mkK.heap_1 ∧ PySem.Challenge.rw_xp0011_01 = PySem.Challenge.rw_xp0011_01 := by
    k_fill
    exact ⟨rfl, rfl⟩
  intro p loose mean mg mb X B T hL s Q E F N G hq
  obtain ⟨o9, m9, d9⟩ := h9
  have l1 : s.heap.IsList D ds.toArray := News.isList N hD
  have l2 : s.heap.IsList Fd fs.toArray := News.isList N hF
  k_dflt (have ho := (show (mkK.heap_1 (w.params)).lookup 169 = some _ by k_is))
  have hs := (show (bodyOf (mkK.heap_1 (w.params)) 169)[23]? = some _ by unfold bodyOf; rw [ho]; rfl)
  clear ho
  rw [tail_cons hs]
  clear hs
  refine wpC_execs_cons (wpC_any ?_)
  k_steps
  refine Halt.go (str_ring (un := 7) X B F N T G R Tb hp hb hpn (by decide) fun t5 led1 s1 T1 K1 F1 N1 G1 os1 => ?_)
  rw [hz]
  clear F N
  k_steps
  · exfalso
    rename_i hne
    simp at hne
  · exact next led1 T1 K1 _ Q E F1 N1 G1 (fun s' m' led' a b c d e => hq s' m' led' a b c d (e.trans os1))
end
section
local macro_rules | `(tactic| walk_at "compareOp Eq ref ref") => `(tactic| (refine Halt.out ?_))
local macro_rules | `(tactic| walk_at "CompSrc") => `(tactic| (refine Halt.out ?_))
local macro_rules | `(tactic| walk_at "CompEnd") => `(tactic| (refine Halt.out ?_))
local macro_rules | `(tactic| walk_at "subscriptTail") => `(tactic| (refine Halt.out ?_))
local macro_rules | `(tactic| walk_at "subscriptTail Name Constant ref int") => `(tactic| (refine Halt.out ?_))
local macro_rules | `(tactic| walk_at "eval ListComp") => `(tactic| (refine Halt.out ?_))
local macro_rules | `(tactic| walk_at "eval Name") => `(tactic| (k_here; k_dflt (refine' nameX_L ?F ?v ?_ ?a ?b; (case F => k_asm); (case a => rfl); (case b => rfl); (case v => with_reducible assumption); k_whole)))
local macro_rules | `(tactic| walk_at "eval Name") => `(tactic| (k_here; (with_reducible show wpAny _ _ (eval (Expr.Name _ _) (compEnvC _ _ _ _)) _ _ _); k_dflt (first | (refine' lcf_cell ?N ?c ?m ?d ?_ ?a ?b; (case a => rfl); (case b => rfl); (case N => k_asm); (case c => rfl); (case m => k_mem); (case d => k_asm); k_whole) | refine LCgL.ld_own (by k_asm) (by k_mem) (by assumption) (by assumption) ?_)))
/-- statement 24 -/
theorem seg_t (w : World) (g : Heap) (L : Addr) (m : Str → Option Value) (led : List (Addr × Obj)) (S Fd : Addr) (ss fs : List Value) (ns ms : List Int) (c1 c2 : Nat) (Tb : Tabs led)
    (hd : m (Str.ofString "still") = some (.ref S)) (h9 : Cell led (L + 9) (some (.ref Fd)))
    (hS : (S, listOf (List.toArray ss) c1) ∈ led) (hF : (Fd, listOf (List.toArray fs) c2) ∈ led) (iS : IntsAre ss ms) (iF : IntsAre fs ns) (hn : ns.length ≤ 100) (hm : ms.length ≤ 100)
    (hx : ns = [] ∨ ∃ f0 r, ns = f0 :: r ∧ ns = ms.map fun t => f0 + t) :
    Seg w g L (Ends w g L 24 m led) := by
  have fk : mkK.heap_1 = mkK.heap_1 ∧ PySem.Challenge.rw_xp0011_01 = PySem.Challenge.rw_xp0011_01 := by
    k_fill
    exact ⟨rfl, rfl⟩
  intro p loose mean mg mb X B T hL s Q E F N G hq
  obtain ⟨o9, m9, d9⟩ := h9
  have l1 : s.heap.IsList S ss.toArray := News.isList N hS
  have l2 : s.heap.IsList Fd fs.toArray := News.isList N hF
  k_dflt (have ho := (show (mkK.heap_1 (w.params)).lookup 169 = some _ by k_is))
  have hs := (show (bodyOf (mkK.heap_1 (w.params)) 169)[24]? = some _ by unfold bodyOf; rw [ho]; rfl)
  clear ho
  rw [tail_cons hs]
  clear hs
  refine wpC_execs_cons (wpC_any ?_)
  k_steps
  rename Fr _ _ _ _ => F1
  rename News _ _ _ _ => N1
  refine Halt.go (ke_eq_ints (News.isList N1 (.tail _ hF)) (News.isList (items := [].toArray) N1 (.head _)) iF .nil (show 7 + 64 < cLine by decide +kernel) ?_)
  k_steps
  · rename_i ht
    rw [ht]
    exact hq _ _ _ F1 N1 (Tb.mono fun p hp => .tail _ hp) G rfl
  · rename_i ht
    have hne : ns ≠ [] := of_decide_eq_false ht
    obtain ⟨f0, r, e1, e2⟩ := hx.resolve_left hne
    have iF2 : IntsAre fs (f0 :: r) := e1 ▸ iF
    obtain ⟨t0, fr, ef, _⟩ := iF2.cons_inv
    refine Halt.go ?_
    k_dflt (refine LCg.ListComp_U (cl := [(Str.ofString "found", L + 9)]) F1 rfl (by decide) rfl (by decide) rfl ?_)
    k_steps
    refine Halt.go ?_
    refine LCg.CompSrc.ledger rfl F1 N1 (.tail _ hS) (by rw [List.size_toArray, iS.length]; exact Nat.le_trans hm (by decide +kernel)) fun g' => ?_
    refine compRest_of (fun i zs nw => IntsAre zs ((ms.take i).map fun t => f0 + t) ∧ nw = _ :: led) ?_ ?_ _ 0 [] _ (Nat.zero_add _) ⟨.nil, rfl⟩
    · rintro i zs nw v I oI C oC D' m₂ h5 tk5 E5 hi ⟨hz, rfl⟩ hv hC hx' F5 N5 off ne
      obtain ⟨t, u, rfl, ht2⟩ := iS.at i v (by simpa using hv)
      k_steps
      refine Halt.go (item_listL (x := .int f0 t0) (News.isList N5 (.tail _ (.tail _ (.tail _ (.tail _ hF))))) (by decide) (by decide) (by rw [ef]; rfl) ?_)
      k_steps
      refine Halt.go ⟨_, _, _, rfl, F5, N5, off, .inr ⟨_, .tail _ hS, rfl, _, rfl⟩, ?_, rfl⟩
      rw [List.take_add_one, ht2, List.map_append]
      exact IntsAre.append hz (.cons _ _ .nil)
    · rintro zs nw ⟨hz, rfl⟩
      intro D' h6 tk6 F6 N6 off
      rw [show ss.toArray.size = ms.length by rw [List.size_toArray, iS.length], List.take_length, ← e2] at hz
      k_steps
      refine Halt.go (ke_eq_ints (News.isList N6 (.tail _ (.tail _ hF))) (News.isList N6 (.head _)) iF hz (show 7 + 64 < cLine by decide +kernel) ?_)
      rw [decide_eq_true rfl]
      exact hq _ _ _ F6 N6 (Tb.mono fun p hp => .tail _ (.tail _ hp)) G rfl
end
end Mine
end

section
open PySem
set_option Elab.async false
set_option linter.unusedVariables false
namespace Mine
theorem num_append (w : Nat) (a b : List Nat) : num w (a ++ b) = num w a * 2 ^ (w * b.length) + num w b := by
  unfold num
  rw [List.reverse_append, List.map_append, dval_append, List.length_map, List.length_reverse, Nat.mul_comm, Nat.add_comm]
theorem num_nil (w : Nat) : num w [] = 0 := rfl
theorem num_one (w c : Nat) : num w [c] = 2 ^ w - 1 - c := by
  show (2 ^ w - 1 - c) + 2 ^ w * 0 = _
  rw [Nat.mul_zero, Nat.add_zero]
/-- all signs are codes between 1 and 255: the number is below the greatest -/
theorem num_lt {w : Nat} (hw : 8 ≤ w) : ∀ (l : List Nat), (∀ c ∈ l, 1 ≤ c ∧ c < 256) → num w l + 1 ≤ 2 ^ (w * l.length) ∧ (l ≠ [] → num w l + 2 ≤ 2 ^ (w * l.length))
  | [], _ => by
    refine ⟨?_, fun h => absurd rfl h⟩
    rw [num_nil]
    exact Nat.le_refl _
  | c :: r, h => by
    have ih := (num_lt hw r fun d hd => h d (List.mem_cons_of_mem _ hd)).1
    have hc := h c List.mem_cons_self
    have hp : 256 ≤ 2 ^ w := Nat.le_trans (show 256 ≤ 2 ^ 8 by decide) (Nat.pow_le_pow_right (by decide) hw)
    have e : num w (c :: r) = (2 ^ w - 1 - c) * 2 ^ (w * r.length) + num w r := by
      rw [show c :: r = [c] ++ r from rfl, num_append, num_one]
    have e2 : 2 ^ (w * (c :: r).length) = 2 ^ w * 2 ^ (w * r.length) := by
      rw [List.length_cons, Nat.mul_add, Nat.mul_one, Nat.pow_add, Nat.mul_comm]
    have key : num w (c :: r) + 2 ≤ 2 ^ (w * (c :: r).length) := by
      rw [e, e2]
      have h1 : (2 ^ w - 1 - c) * 2 ^ (w * r.length) + 2 * 2 ^ (w * r.length) ≤ 2 ^ w * 2 ^ (w * r.length) := by
        rw [← Nat.add_mul]
        exact Nat.mul_le_mul_right _ (by omega)
      have h2 : 0 < 2 ^ (w * r.length) := Nat.pow_pos (by decide)
      omega
    exact ⟨by omega, fun _ => key⟩
/-- the division of a number moved up: the front's number, and that of what is moved behind -/
theorem rot_div {w : Nat} (hw : 8 ≤ w) (a b : List Nat) (hab : b ≠ []) (h : ∀ c ∈ a ++ b, 1 ≤ c ∧ c < 256) :
    num w (a ++ b) * 2 ^ (w * a.length) / (2 ^ (w * (a ++ b).length) - 1) = num w a ∧ num w (a ++ b) * 2 ^ (w * a.length) % (2 ^ (w * (a ++ b).length) - 1) = num w (b ++ a) := by
  have hba : b ++ a ≠ [] := by
    intro e
    exact hab (List.append_eq_nil_iff.mp e).1
  have hlt := (num_lt hw (b ++ a) fun c hc => h c (by rcases List.mem_append.mp hc with hc | hc <;> simp [hc])).2 hba
  have hlen : (b ++ a).length = (a ++ b).length := by rw [List.length_append, List.length_append, Nat.add_comm]
  rw [hlen] at hlt
  have e : num w (a ++ b) * 2 ^ (w * a.length) = num w (b ++ a) + (2 ^ (w * (a ++ b).length) - 1) * num w a := by
    have h0 : 0 < 2 ^ (w * (a ++ b).length) := Nat.pow_pos (by decide)
    rw [num_append, num_append w b a, Nat.add_mul, Nat.mul_assoc, ← Nat.pow_add, ← Nat.mul_add, Nat.add_comm b.length a.length, ← List.length_append, Nat.sub_mul, Nat.one_mul, Nat.mul_comm (2 ^ (w * (a ++ b).length)) (num w a)]
    have : num w a ≤ num w a * 2 ^ (w * (a ++ b).length) := Nat.le_mul_of_pos_right _ h0
    omega
  rw [e]
  refine ⟨?_, ?_⟩
  · rw [Nat.add_mul_div_left _ _ (by omega), Nat.div_eq_of_lt (by omega), Nat.zero_add]
  · rw [Nat.add_mul_mod_self_left, Nat.mod_eq_of_lt (by omega)]
end Mine
end

section
open PySem
set_option Elab.async false
set_option linter.unusedVariables false
namespace Mine
theorem num_cons (w c : Nat) (r : List Nat) : num w (c :: r) = (2 ^ w - 1 - c) * 2 ^ (w * r.length) + num w r := by
  rw [show c :: r = [c] ++ r from rfl, num_append, num_one]
theorem num_inj {w : Nat} (hw : 8 ≤ w) : ∀ (a b : List Nat), a.length = b.length → (∀ c ∈ a, 1 ≤ c ∧ c < 256) → (∀ c ∈ b, 1 ≤ c ∧ c < 256) → num w a = num w b → a = b
  | [], [], _, _, _, _ => rfl
  | [], _ :: _, h, _, _, _ => by simp at h
  | _ :: _, [], h, _, _, _ => by simp at h
  | c :: r, d :: t, hl, ha, hb, e => by
    have hl' : r.length = t.length := by simpa using hl
    have ra := (num_lt hw r fun x hx => ha x (List.mem_cons_of_mem _ hx)).1
    have rb := (num_lt hw t fun x hx => hb x (List.mem_cons_of_mem _ hx)).1
    have hc := ha c List.mem_cons_self
    have hd := hb d List.mem_cons_self
    have hp : 256 ≤ 2 ^ w := Nat.le_trans (show 256 ≤ 2 ^ 8 by decide) (Nat.pow_le_pow_right (by decide) hw)
    rw [num_cons, num_cons, ← hl'] at e
    rw [← hl'] at rb
    have hP : 0 < 2 ^ (w * r.length) := Nat.pow_pos (by decide)
    have e1 : (2 ^ w - 1 - c) = (2 ^ w - 1 - d) := by
      have q := congrArg (· / 2 ^ (w * r.length)) e
      rw [Nat.mul_comm, Nat.mul_add_div hP, Nat.div_eq_of_lt (by omega), Nat.mul_comm, Nat.mul_add_div hP, Nat.div_eq_of_lt (by omega)] at q
      omega
    have e2 : num w r = num w t := by rw [e1] at e; omega
    have e3 : c = d := by omega
    rw [e3, num_inj hw r t hl' (fun x hx => ha x (List.mem_cons_of_mem _ hx)) (fun x hx => hb x (List.mem_cons_of_mem _ hx)) e2]
theorem enc_cons (c : Nat) (r : List Nat) : enc (c :: r) = enc1 c ++ enc r := rfl
theorem enc_append (a b : List Nat) : enc (a ++ b) = enc a ++ enc b := List.flatMap_append
theorem enc1_pos (c : Nat) : enc1 c ≠ [] := by
  unfold enc1
  split
  · simp
  split
  · simp
  split
  · simp
  · simp
/-- a reader's state: is a reference open -/
def opn (b : Bool) (l : List Nat) : Bool := l.foldl (fun b c => if c = 38 then true else if c = 59 then false else b) b
theorem opn_append (b : Bool) (x y : List Nat) : opn b (x ++ y) = opn (opn b x) y := List.foldl_append
theorem opn_enc1 (c : Nat) : opn false (enc1 c) = false := by
  unfold enc1
  split
  · rfl
  split
  · rfl
  split
  · rfl
  · rename_i h1 h2 h3
    show (if c = 38 then true else if c = 59 then false else false) = false
    rw [if_neg h1]
    split <;> rfl
theorem opn_enc : ∀ l : List Nat, opn false (enc l) = false
  | [] => rfl
  | c :: r => by rw [enc_cons, opn_append, opn_enc1, opn_enc r]
/-- a reference cut in two is open at the cut -/
theorem opn_cut (b : Bool) (c : Nat) (x y : List Nat) (hx : x ≠ []) (hy : y ≠ []) (e : enc1 c = x ++ y) : opn b x = true := by
  have hk : ∃ k, x = (enc1 c).take k ∧ 0 < k ∧ k < (enc1 c).length := ⟨x.length, by rw [e]; simp, List.length_pos_iff.mpr hx, by
    rw [e, List.length_append]
    have := List.length_pos_iff.mpr hy
    omega⟩
  obtain ⟨k, rfl, k0, k1⟩ := hk
  clear e hx hy
  unfold enc1 at *
  split at k1
  · rename_i h; rw [if_pos h]
    have : k = 1 ∨ k = 2 ∨ k = 3 ∨ k = 4 := by simp at k1; omega
    rcases this with rfl | rfl | rfl | rfl <;> cases b <;> rfl
  rename_i n1
  split at k1
  · rename_i h; rw [if_neg n1, if_pos h]
    have : k = 1 ∨ k = 2 ∨ k = 3 := by simp at k1; omega
    rcases this with rfl | rfl | rfl <;> cases b <;> rfl
  rename_i n2
  split at k1
  · rename_i h; rw [if_neg n1, if_neg n2, if_pos h]
    have : k = 1 ∨ k = 2 ∨ k = 3 ∨ k = 4 ∨ k = 5 := by simp at k1; omega
    rcases this with rfl | rfl | rfl | rfl | rfl <;> cases b <;> rfl
  · simp at k1
    omega
end Mine
end

section
open PySem
set_option Elab.async false
set_option linter.unusedVariables false
namespace Mine
theorem enc1_cases (c : Nat) : (c = 38 ∧ enc1 c = [38, 97, 109, 112, 59]) ∨ (c = 62 ∧ enc1 c = [38, 103, 116, 59]) ∨ (c = 34 ∧ enc1 c = [38, 113, 117, 111, 116, 59]) ∨ (c ≠ 38 ∧ enc1 c = [c]) := by
  unfold enc1
  by_cases h1 : c = 38
  · exact .inl ⟨h1, by rw [if_pos h1]⟩
  by_cases h2 : c = 62
  · exact .inr (.inl ⟨h2, by rw [if_neg h1, if_pos h2]⟩)
  by_cases h3 : c = 34
  · exact .inr (.inr (.inl ⟨h3, by rw [if_neg h1, if_neg h2, if_pos h3]⟩))
  · exact .inr (.inr (.inr ⟨h1, by rw [if_neg h1, if_neg h2, if_neg h3]⟩))
theorem enc1_inj {c d : Nat} {x y : List Nat} (e : enc1 c ++ x = enc1 d ++ y) : c = d := by
  rcases enc1_cases c with ⟨rfl, h⟩ | ⟨rfl, h⟩ | ⟨rfl, h⟩ | ⟨n, h⟩ <;> rcases enc1_cases d with ⟨rfl, h'⟩ | ⟨rfl, h'⟩ | ⟨rfl, h'⟩ | ⟨n', h'⟩ <;> first | rfl | (rw [h, h'] at e; first | exact (List.cons.inj e).1 | (simp at e; done) | (simp at e; omega))
theorem enc_inj : ∀ a b : List Nat, enc a = enc b → a = b
  | [], [], _ => rfl
  | [], d :: t, e => by
    rw [enc_cons] at e
    have := (List.append_eq_nil_iff.mp e.symm).1
    exact absurd this (enc1_pos d)
  | c :: r, [], e => by
    rw [enc_cons] at e
    have := (List.append_eq_nil_iff.mp e).1
    exact absurd this (enc1_pos c)
  | c :: r, d :: t, e => by
    rw [enc_cons, enc_cons] at e
    have h := enc1_inj e
    subst h
    rw [enc_inj r t (List.append_cancel_left e)]
/-- a place in a writing: between two letters, or within a reference -/
theorem cut_cases : ∀ (us : List Nat) (s : Nat), s < (enc us).length →
    (∃ j, j < us.length ∧ s = (enc (us.take j)).length) ∨ (∃ p c q x y, us = p ++ c :: q ∧ enc1 c = x ++ y ∧ x ≠ [] ∧ y ≠ [] ∧ s = (enc p ++ x).length)
  | [], s, h => by simp [enc] at h
  | c :: r, s, h => by
    rw [enc_cons, List.length_append] at h
    by_cases h0 : s = 0
    · exact .inl ⟨0, Nat.zero_lt_succ _, by simp [h0, enc]⟩
    by_cases h1 : s < (enc1 c).length
    · refine .inr ⟨[], c, r, (enc1 c).take s, (enc1 c).drop s, rfl, (List.take_append_drop _ _).symm, fun e => ?_, fun e => ?_, ?_⟩
      · have := congrArg List.length e
        rw [List.length_take, List.length_nil] at this
        omega
      · have := congrArg List.length e
        rw [List.length_drop, List.length_nil] at this
        omega
      · simp [enc, List.length_take]
        omega
    · rcases cut_cases r (s - (enc1 c).length) (by omega) with ⟨j, hj, e⟩ | ⟨p, d, q, x, y, e1, e2, e3, e4, e5⟩
      · refine .inl ⟨j + 1, Nat.succ_lt_succ hj, ?_⟩
        rw [List.take_succ_cons, enc_cons, List.length_append]
        omega
      · refine .inr ⟨c :: p, d, q, x, y, by rw [e1]; rfl, e2, e3, e4, ?_⟩
        rw [enc_cons, List.append_assoc, List.length_append]
        omega
end Mine
end

section
open PySem
set_option Elab.async false
set_option linter.unusedVariables false
namespace Mine
/-- what is moved round at s -/
def rotL (s : Nat) (l : List Nat) : List Nat := l.drop s ++ l.take s
theorem rot_at (a b : List Nat) : rotL a.length (a ++ b) = b ++ a := by
  unfold rotL
  rw [List.drop_left, List.take_left]
theorem take_drop_enc (us : List Nat) (j : Nat) : enc us = enc (us.take j) ++ enc (us.drop j) := by rw [← enc_append, List.take_append_drop]
theorem cut_iff (us : List Nat) (s : Nat) (hs : s < (enc us).length) :
    rotL s (enc us) = enc us.reverse ↔ ∃ j, j < us.length ∧ s = (enc (us.take j)).length ∧ us.take j = (us.take j).reverse ∧ us.drop j = (us.drop j).reverse := by
  constructor
  · intro e
    rcases cut_cases us s hs with ⟨j, hj, rfl⟩ | ⟨p, c, q, x, y, e1, e2, e3, e4, e5⟩
    · refine ⟨j, hj, rfl, ?_⟩
      rw [take_drop_enc us j, rot_at, ← enc_append] at e
      have h := enc_inj _ _ e
      have h2 : us.drop j ++ us.take j = (us.drop j).reverse ++ (us.take j).reverse := by
        rw [h, ← List.reverse_append, List.take_append_drop]
      have h3 := List.append_inj h2 (by rw [List.length_reverse])
      exact ⟨h3.2, h3.1⟩
    · exfalso
      have w : enc us = (enc p ++ x) ++ (y ++ enc q) := by
        rw [e1, enc_append, enc_cons, e2]
        simp [List.append_assoc]
      rw [w, e5, rot_at] at e
      have o := opn_enc us.reverse
      rw [← e, opn_append, opn_append, opn_cut _ c x y e3 e4 e2] at o
      cases o
  · rintro ⟨j, hj, rfl, h1, h2⟩
    rw [take_drop_enc us j, rot_at, ← enc_append]
    congr 1
    rw [h1, h2, ← List.reverse_append, List.take_append_drop]
/-- two strictly rising lists with the same members are one -/
theorem rising_eq : ∀ (a b : List Nat), a.Pairwise (· < ·) → b.Pairwise (· < ·) → (∀ x, x ∈ a ↔ x ∈ b) → a = b
  | [], [], _, _, _ => rfl
  | [], y :: t, _, _, h => absurd ((h y).mpr List.mem_cons_self) List.not_mem_nil
  | x :: r, [], _, _, h => absurd ((h x).mp List.mem_cons_self) List.not_mem_nil
  | x :: r, y :: t, ha, hb, h => by
    have ha' := List.pairwise_cons.mp ha
    have hb' := List.pairwise_cons.mp hb
    have e : x = y := by
      rcases List.mem_cons.mp ((h x).mp List.mem_cons_self) with e | hx
      · exact e
      rcases List.mem_cons.mp ((h y).mpr List.mem_cons_self) with e | hy
      · exact e.symm
      · have := ha'.1 y hy
        have := hb'.1 x hx
        omega
    subst e
    rw [rising_eq r t ha'.2 hb'.2 fun z => ⟨fun hz => ?_, fun hz => ?_⟩]
    · rcases List.mem_cons.mp ((h z).mp (List.mem_cons_of_mem _ hz)) with e | hz'
      · have := ha'.1 z hz; omega
      · exact hz'
    · rcases List.mem_cons.mp ((h z).mpr (List.mem_cons_of_mem _ hz)) with e | hz'
      · have := hb'.1 z hz; omega
      · exact hz'
end Mine
end

section
open PySem
set_option Elab.async false
set_option linter.unusedVariables false
namespace Mine
theorem rotL_len (s : Nat) (l : List Nat) : (rotL s l).length = l.length := by
  unfold rotL
  rw [List.length_append, List.length_drop, List.length_take]
  omega
theorem rotL_get {s : Nat} {l : List Nat} (hs : s ≤ l.length) (i : Nat) (hi : i < l.length) : (rotL s l)[i]? = l[(i + s) % l.length]? := by
  unfold rotL
  by_cases h : i < l.length - s
  · rw [List.getElem?_append_left (by rw [List.length_drop]; exact h), List.getElem?_drop, Nat.mod_eq_of_lt (by omega), Nat.add_comm]
  · rw [List.getElem?_append_right (by rw [List.length_drop]; omega), List.length_drop, List.getElem?_take_of_lt (by omega)]
    congr 1
    have e : i + s = (i - (l.length - s)) + l.length := by omega
    rw [e, Nat.add_mod_right, Nat.mod_eq_of_lt (by omega)]
/-- moving round twice -/
theorem rot_rot {l : List Nat} {a b : Nat} (ha : a ≤ l.length) (hb : b ≤ l.length) (h0 : 0 < l.length) : rotL a (rotL b l) = rotL ((a + b) % l.length) l := by
  apply List.ext_getElem?
  intro i
  by_cases hi : i < l.length
  · rw [rotL_get (by rw [rotL_len]; exact ha) i (by rw [rotL_len]; exact hi), rotL_len, rotL_get hb _ (Nat.mod_lt _ h0), rotL_get (Nat.le_of_lt (Nat.mod_lt _ h0)) i hi]
    congr 1
    rw [Nat.mod_add_mod, Nat.add_mod_mod, Nat.add_assoc]
  · rw [List.getElem?_eq_none (by rw [rotL_len, rotL_len]; omega), List.getElem?_eq_none (by rw [rotL_len]; omega)]
theorem rot_inj {s : Nat} {a b : List Nat} (h : rotL s a = rotL s b) (hl : a.length = b.length) : a = b := by
  unfold rotL at h
  have h2 := List.append_inj h (by rw [List.length_drop, List.length_drop, hl])
  rw [← List.take_append_drop s a, ← List.take_append_drop s b, h2.1, h2.2]
end Mine
end

section
open PySem
set_option Elab.async false
set_option linter.unusedVariables false
namespace Mine
/-- the counts at which l, moved round, reads v -/
def hits (l v : List Nat) : List Nat := (List.range l.length).filter fun s => rotL s l == v
theorem mem_hits {l v : List Nat} {s : Nat} : s ∈ hits l v ↔ s < l.length ∧ rotL s l = v := by
  unfold hits
  rw [List.mem_filter, List.mem_range, beq_iff_eq]
theorem range_rising (n : Nat) : (List.range n).Pairwise (· < ·) := List.pairwise_lt_range
theorem hits_rising (l v : List Nat) : (hits l v).Pairwise (· < ·) := (range_rising _).filter _
/-- the counts found are the least one, moved on by those at which nothing changes -/
theorem hits_coset (l v : List Nat) : hits l v = [] ∨ ∃ f0 r, hits l v = f0 :: r ∧ hits l v = (hits l l).map fun t => f0 + t := by
  cases e : hits l v with
  | nil => exact .inl rfl
  | cons f0 r =>
    refine .inr ⟨f0, r, rfl, ?_⟩
    have hf := mem_hits.mp (e ▸ List.mem_cons_self : f0 ∈ hits l v)
    have h0 : 0 < l.length := by omega
    have least : ∀ s ∈ hits l v, f0 ≤ s := fun s hs => by
      rw [e] at hs
      have hr := hits_rising l v
      rw [e] at hr
      rcases List.mem_cons.mp hs with rfl | hs
      · exact Nat.le_refl _
      · exact Nat.le_of_lt ((List.pairwise_cons.mp hr).1 s hs)
    rw [← e]
    refine rising_eq _ _ (hits_rising l v) ?_ fun s => ?_
    · rw [List.pairwise_map]
      exact (hits_rising l l).imp fun h => by omega
    · rw [List.mem_map]
      constructor
      · intro hs
        have h1 := mem_hits.mp hs
        have h2 := least s hs
        refine ⟨s - f0, mem_hits.mpr ⟨by omega, ?_⟩, by omega⟩
        refine rot_inj (s := f0) ?_ (rotL_len _ _)
        rw [rot_rot (by omega) (by omega) h0, show f0 + (s - f0) = s by omega, Nat.mod_eq_of_lt h1.1, h1.2, hf.2]
      · rintro ⟨t, ht, rfl⟩
        have h1 := mem_hits.mp ht
        have key : rotL ((f0 + t) % l.length) l = v := by
          rw [← rot_rot (by omega) (by omega) h0, h1.2, hf.2]
        by_cases hlt : f0 + t < l.length
        · rw [Nat.mod_eq_of_lt hlt] at key
          exact mem_hits.mpr ⟨hlt, key⟩
        · exfalso
          have e2 : (f0 + t) % l.length = f0 + t - l.length := by
            rw [Nat.mod_eq_sub_mod (by omega), Nat.mod_eq_of_lt (by omega)]
          rw [e2] at key
          have := least _ (mem_hits.mpr ⟨by omega, key⟩)
          omega
end Mine
end

section
open PySem
set_option Elab.async false
set_option linter.unusedVariables false
namespace Mine
theorem rot_code {l : List Nat} {s : Nat} (h : ∀ c ∈ l, 1 ≤ c ∧ c < 256) : ∀ c ∈ rotL s l, 1 ≤ c ∧ c < 256 := fun c hc => by
  unfold rotL at hc
  rcases List.mem_append.mp hc with hc | hc
  · exact h c (List.mem_of_mem_drop hc)
  · exact h c (List.mem_of_mem_take hc)
theorem part_rot {w : Nat} (hw : 8 ≤ w) (l : List Nat) (h : ∀ c ∈ l, 1 ≤ c ∧ c < 256) {s : Nat} (hs : s < l.length) : partAt w (num w l) (2 ^ (w * l.length) - 1) s = (num w (l.take s), num w (rotL s l)) := by
  have e := rot_div hw (l.take s) (l.drop s) (by intro e; have := congrArg List.length e; rw [List.length_drop, List.length_nil] at this; omega) (by rw [List.take_append_drop]; exact h)
  rw [List.take_append_drop, List.length_take, Nat.min_eq_left (Nat.le_of_lt hs)] at e
  unfold partAt
  rw [e.1, e.2]
  rfl
theorem rem_hits {w : Nat} (hw : 8 ≤ w) (l v : List Nat) (h : ∀ c ∈ l, 1 ≤ c ∧ c < 256) (h2 : ∀ c ∈ v, 1 ≤ c ∧ c < 256) (hl : v.length = l.length) : atRem (partAt w (num w l) (2 ^ (w * l.length) - 1)) (num w v) l.length = hits l v := by
  unfold atRem hits
  refine List.filter_congr fun s hs => ?_
  have hs := List.mem_range.mp hs
  rw [part_rot hw l h hs]
  rw [Bool.eq_iff_iff, beq_iff_eq, beq_iff_eq]
  exact ⟨fun e => num_inj hw _ _ (by rw [rotL_len, hl]) (rot_code h) h2 e, fun e => by rw [e]⟩
end Mine
end

section
open PySem
set_option Elab.async false
set_option linter.unusedVariables false
namespace Mine
/-- the counts told as due behind k places -/
def dueOf (us : List Nat) (k : Nat) : List Nat := ((List.range k).filter fun j => decide (us.take j = (us.take j).reverse ∧ us.drop j = (us.drop j).reverse)).map fun j => (enc (us.take j)).length
theorem filter_one {p : Nat → Prop} [DecidablePred p] (k : Nat) : [k].filter (fun j => decide (p j)) = if p k then [k] else [] := by
  by_cases h : p k
  · rw [if_pos h, List.filter_cons_of_pos (by exact decide_eq_true h)]; rfl
  · rw [if_neg h, List.filter_cons_of_neg (by rw [decide_eq_false h]; decide)]; rfl
theorem dueOf_succ (us : List Nat) (k : Nat) : dueOf us (k + 1) = dueOf us k ++ if us.take k = (us.take k).reverse ∧ us.drop k = (us.drop k).reverse then [(enc (us.take k)).length] else [] := by
  unfold dueOf
  rw [List.range_succ, List.filter_append, List.map_append]
  rw [filter_one (p := fun j => us.take j = (us.take j).reverse ∧ us.drop j = (us.drop j).reverse) k]
  congr 1
  split <;> rfl
theorem enc_len_lt {us : List Nat} {i j : Nat} (h : i < j) (hj : j ≤ us.length) : (enc (us.take i)).length < (enc (us.take j)).length := by
  have e : us.take j = us.take i ++ (us.take j).drop i := by
    have := (List.take_append_drop i (us.take j)).symm
    rw [List.take_take, Nat.min_eq_left (Nat.le_of_lt h)] at this
    exact this
  rw [e, enc_append, List.length_append]
  have hne : (us.take j).drop i ≠ [] := by
    intro e2
    have := congrArg List.length e2
    rw [List.length_drop, List.length_take, List.length_nil] at this
    omega
  obtain ⟨c, r, e3⟩ := List.exists_cons_of_ne_nil hne
  rw [e3, enc_cons, List.length_append]
  have := List.length_pos_iff.mpr (enc1_pos c)
  omega
theorem due_hits (us : List Nat) : dueOf us us.length = hits (enc us) (enc us.reverse) := by
  refine rising_eq _ _ ?_ (hits_rising _ _) fun s => ?_
  · unfold dueOf
    rw [List.pairwise_map]
    refine List.Pairwise.imp_of_mem ?_ ((range_rising us.length).filter _)
    intro a b ha hb hab
    have hb := List.mem_range.mp (List.mem_filter.mp hb).1
    exact enc_len_lt hab (Nat.le_of_lt hb)
  · rw [mem_hits]
    unfold dueOf
    rw [List.mem_map]
    constructor
    · rintro ⟨j, hj, rfl⟩
      obtain ⟨h1, h2⟩ := List.mem_filter.mp hj
      have h1 := List.mem_range.mp h1
      have hlt : (enc (us.take j)).length < (enc us).length := by
        have := enc_len_lt (us := us) h1 (Nat.le_refl _)
        rwa [List.take_length] at this
      exact ⟨hlt, (cut_iff us _ hlt).mpr ⟨j, h1, rfl, of_decide_eq_true h2⟩⟩
    · rintro ⟨hs, e⟩
      obtain ⟨j, hj, rfl, h⟩ := (cut_iff us s hs).mp e
      exact ⟨j, List.mem_filter.mpr ⟨List.mem_range.mpr hj, decide_eq_true h⟩, rfl⟩
end Mine
end

section
open PySem PySem.W PyProof.Rows PySem.Calls
set_option Elab.async false
set_option maxRecDepth 100000
set_option maxHeartbeats 2000000
set_option linter.unusedVariables false
namespace Mine
/-- a letter's writing -/
abbrev oneS (c : Nat) : Str := encS ⟨#[c]⟩
theorem oneS_list (c : Nat) : (oneS c).cps.toList = enc1 c := by
  show (enc [c]).toArray.toList = _
  simp [enc]
theorem oneS_size (c : Nat) : (oneS c).cps.size = (enc1 c).length := by rw [← Array.length_toList, oneS_list]
theorem join_one (us : List Nat) : Txt.join (Str.ofString "") (us.map oneS) = encS ⟨us.toArray⟩ := by
  refine str_ext ?_
  unfold Txt.join
  rw [StrLaws.glued_eq_join, show us.map oneS = us.map (fun c => (⟨(enc1 c).toArray⟩ : Str)) from List.map_congr_left fun c _ => str_ext (by rw [oneS_list]), join_empty enc1, encS_list]
  rfl
/-- objects of a sub-ledger that nothing in the loop turns -/
structure Firm (x dx D : Addr) (base : List (Addr × Obj)) : Prop where
  off : ∀ p ∈ base, p.1 ≠ x ∧ p.1 ≠ dx ∧ p.1 ≠ D ∧ p.1 ≠ 37 ∧ p.1 ≠ 84 ∧ p.1 ≠ 91
theorem Firm.cons {x dx D : Addr} {base : List (Addr × Obj)} {I : Addr} {o : Obj} (f : Firm x dx D base) (h : I ≠ x ∧ I ≠ dx ∧ I ≠ D ∧ I ≠ 37 ∧ I ≠ 84 ∧ I ≠ 91) : Firm x dx D ((I, o) :: base) := ⟨fun p hp => by
  rcases List.mem_cons.mp hp with rfl | hp
  · exact h
  · exact f.off p hp⟩
/-- what holds ahead of turn j of the last loop -/
structure LoopJ (us : List Nat) (wd : Nat) (x dx S D : Addr) (z : Str) (base : List (Addr × Obj)) (j : Nat) (m : Str → Option Value) (led : List (Addr × Obj)) : Prop where
  loc : Loc m x z us D S (enc (us.take j)).length (num wd (enc (us.take j)))
  ring : ∃ vs, Ring led x dx vs ∧ Pieces vs ((us.drop j ++ us.take j).map oneS) led
  due : ∃ ds c, (D, listOf (List.toArray ds) c) ∈ led ∧ IntsAre ds ((dueOf us j).map Int.ofNat)
  tabs : Tabs led
  kept : ∀ p ∈ base, p ∈ led
end Mine
end

section
open PySem PySem.W PyProof.Rows PySem.Calls
set_option Elab.async false
set_option maxRecDepth 100000
set_option maxHeartbeats 2000000
set_option linter.unusedVariables false
namespace Mine
/-- the letters that the law may draw -/
structure Word (us : List Nat) : Prop where
  lo : 0 < us.length
  hi : us.length ≤ 6
  code : ∀ c ∈ us, 1 ≤ c ∧ c < 256
theorem enc1_len6 (c : Nat) : (enc1 c).length ≤ 6 := enc1_len c
theorem enc_len36 : ∀ us : List Nat, (enc us).length ≤ 6 * us.length
  | [] => Nat.le_refl _
  | c :: r => by
    rw [enc_cons, List.length_append, List.length_cons]
    have := enc1_len c
    have := enc_len36 r
    omega
theorem enc1_code {c : Nat} (h : 1 ≤ c ∧ c < 256) : ∀ d ∈ enc1 c, 1 ≤ d ∧ d < 256 := by
  rcases enc1_cases c with ⟨rfl, e⟩ | ⟨rfl, e⟩ | ⟨rfl, e⟩ | ⟨_, e⟩ <;> rw [e] <;> intro d hd <;> simp at hd <;> omega
theorem enc_code {us : List Nat} (h : ∀ c ∈ us, 1 ≤ c ∧ c < 256) : ∀ d ∈ enc us, 1 ≤ d ∧ d < 256 := by
  intro d hd
  obtain ⟨c, hc, hd⟩ := List.mem_flatMap.mp hd
  exact enc1_code (h c hc) d hd
theorem enc_pos {us : List Nat} (h : 0 < us.length) : 0 < (enc us).length := by
  obtain ⟨c, r, rfl⟩ := List.exists_cons_of_length_pos h
  rw [enc_cons, List.length_append]
  have := List.length_pos_iff.mpr (enc1_pos c)
  omega
end Mine
end

section
open PySem PySem.W PyProof.Rows PySem.Calls
set_option Elab.async false
set_option maxRecDepth 100000
set_option maxHeartbeats 2000000
set_option linter.unusedVariables false
namespace Mine
/-- one turn of the last loop -/
theorem turn_r (w : World) (g : Heap) (L : Addr) (K : (Str → Option Value) → List (Addr × Obj) → Prop) (us : List Nat) (wd : Nat) (x dx P S D : Addr) (ys : List Value) (c1 : Nat) (z : Str) (t3 : Tok) (base : List (Addr × Obj)) (j : Nat) (m : Str → Option Value) (led : List (Addr × Obj)) (tj : Tok) (Wd : Word us) (hw : 8 ≤ wd) (hw2 : wd ≤ 400) (hj : j < us.length)
    (Fm : Firm x dx D base) (h3 : Cell base (L + 3) (some (.int (wd : Int) t3))) (h8 : Cell base (L + 8) (some (.ref P))) (hP : (P, listOf (List.toArray ys) c1) ∈ base) (hy : Parted base ys (partAt wd (num wd (enc us)) (2 ^ (wd * (enc us).length) - 1)) (enc us).length)
    (hxD : D ≠ x ∧ D ≠ dx ∧ D ≠ 37 ∧ D ≠ 84 ∧ D ≠ 91) (J : LoopJ us wd x dx S D z base j m led)
    (done : ∀ m' led', LoopJ us wd x dx S D z base (j + 1) m' led' → K m' led') :
    Seg w g L (LEnds w g L K 0 (fun y => if y = Str.ofString "place" then some (.int (j : Int) tj) else m y) led) := by
  intro p loose mean mg mb X B T hL
  obtain ⟨lc, ⟨vs, R, Ps⟩, ⟨ds, cd, hD, iD⟩, Tb, kp⟩ := J
  have lc0 : Loc (fun y => if y = Str.ofString "place" then some (.int (j : Int) tj) else m y) x z us D S (enc (us.take j)).length (num wd (enc (us.take j))) := lc.set (by decide) (by decide) (by decide) (by decide) (by decide) (by decide) (by decide)
  generalize hm0 : (fun y => if y = Str.ofString "place" then some (.int (j : Int) tj) else m y) = m0 at lc0 ⊢
  have hpl : m0 (Str.ofString "place") = some (.int (j : Int) tj) := by rw [← hm0]; exact upd_eq
  obtain ⟨tg, hg⟩ := lc0.gone
  obtain ⟨ta, ha⟩ := lc0.ahead
  obtain ⟨tw, hw'⟩ := lc0.word
  have hps : ∀ q ∈ (us.drop j ++ us.take j).map oneS, q.length ≤ 100 := fun q hq => by
    obtain ⟨c, _, rfl⟩ := List.mem_map.mp hq
    show (oneS c).cps.size ≤ 100
    rw [oneS_size]
    exact Nat.le_trans (enc1_len c) (by decide)
  have hrl : (us.drop j ++ us.take j).length = us.length := by rw [List.length_append, List.length_drop, List.length_take]; omega
  have hi := Wd.hi
  have e36 := enc_len36 (us.drop j ++ us.take j)
  have epos := enc_pos (us := us.drop j ++ us.take j) (by rw [hrl]; exact Wd.lo)
  have ecode : ∀ c ∈ enc (us.drop j ++ us.take j), 1 ≤ c ∧ c < 256 := enc_code fun c hc => by
    rcases List.mem_append.mp hc with hc | hc
    · exact Wd.code c (List.mem_of_mem_drop hc)
    · exact Wd.code c (List.mem_of_mem_take hc)
  have hlt : (enc (us.take j)).length < (enc us).length := by
    have := enc_len_lt (us := us) hj (Nat.le_refl _)
    rwa [List.take_length] at this
  have hpart := part_rot hw (enc us) (enc_code Wd.code) hlt
  have e1 : (enc us).take (enc (us.take j)).length = enc (us.take j) := by rw [take_drop_enc us j, List.take_left]
  have e2 : rotL (enc (us.take j)).length (enc us) = enc (us.drop j ++ us.take j) := by rw [take_drop_enc us j, rot_at, ← enc_append]
  rw [e1, e2] at hpart
  have hJ := join_one (us.drop j ++ us.take j)
  intro s Q E F N G hq
  refine lb_0 w g L K m0 led x dx P vs ys _ (partAt wd (num wd (enc us)) (2 ^ (wd * (enc us).length) - 1)) (enc us).length (enc (us.take j)).length (num wd (enc (us.take j))) wd c1 tg ta t3 Tb lc0.ring hg ha (h3.mono kp) (h8.mono kp) (kp _ hP) (hy.mono kp) hlt (by have := enc_len36 us; omega) R Ps hps (by rw [List.length_map, hrl]; omega) (by rw [hJ, encS_size]; omega) (by rw [hJ, encS_size]; exact epos) hw hw2 (by rw [hJ, encS_list]; exact fun c hc => (ecode c hc).2) (by rw [hJ, encS_list]; exact hpart) (fun led1 T1 K1 => ?_) p loose mean mg mb X B T hL s Q E F N G hq
  have kp1 : ∀ p ∈ base, p ∈ led1 := fun p hp => K1 p (kp p hp) (Fm.off p hp).2.2.2.1 (Fm.off p hp).2.2.2.2.2
  have hD1 := K1 _ hD hxD.2.2.1 hxD.2.2.2.2
  have R1 : Ring led1 x dx vs := R.mono fun p hp e => K1 p hp (by rcases e with e | e <;> rw [e]; exact Nat.ne_of_gt (Nat.lt_trans (by decide) R.h2); exact Nat.ne_of_gt (Nat.lt_trans (by decide) R.h1)) (by rcases e with e | e <;> rw [e]; exact Nat.ne_of_gt R.h2; exact Nat.ne_of_gt R.h1)
  have P1 : Pieces vs ((us.drop j ++ us.take j).map oneS) led1 := ⟨Ps.len, fun i q hq => let ⟨D', t1, t2, k, a, b⟩ := Ps.item i q hq; ⟨D', t1, t2, k, a, let ⟨n1, _, n3⟩ := tabs_off Tb N b (fun vs e => by cases e); K1 _ b n1 n3⟩⟩
  intro s1 Q1 E1 F1 N1 G1 hq1
  have dl : ds.length ≤ 100 := by
    rw [iD.length, List.length_map]
    unfold dueOf
    rw [List.length_map]
    have := List.length_filter_le (fun j => decide (us.take j = (us.take j).reverse ∧ us.drop j = (us.drop j).reverse)) (List.range j)
    rw [List.length_range] at this
    omega
  refine lb_1 w g L K m0 led1 us j (enc (us.take j)).length cd D ds tg tw tj T1 hw' hpl lc0.due hg Wd.hi (Nat.le_of_lt hj) hD1 dl (fun c2 led2 ds2 hds hD2 K2 T2 => ?_) p loose mean mg mb X B T hL s1 Q1 E1 F1 N1 G1 hq1
  have iD2 : IntsAre ds2 ((dueOf us (j + 1)).map Int.ofNat) := by
    rw [dueOf_succ, List.map_append, hds]
    split
    · exact IntsAre.append iD (.cons _ _ .nil)
    · exact IntsAre.append iD .nil |> fun h => by simpa using h
  have kp2 : ∀ p ∈ base, p ∈ led2 := fun p hp => K2 p (kp1 p hp) (Fm.off p hp).2.2.1
  have R2 : Ring led2 x dx vs := R1.mono fun p hp e => K2 p hp (by rcases e with e | e <;> rw [e]; exact Ne.symm hxD.1; exact Ne.symm hxD.2.1)
  have P2 : Pieces vs ((us.drop j ++ us.take j).map oneS) led2 := ⟨P1.len, fun i q hq => let ⟨D', t1, t2, k, a, b⟩ := P1.item i q hq; ⟨D', t1, t2, k, a, K2 _ b fun e => by
    have e : D' = D := e
    subst e
    have e := congrArg Obj.cls (news_same N1 b hD1)
    exact absurd (Value.type.inj e) (by decide)⟩⟩
  obtain ⟨u0, rest, hu0⟩ : ∃ u0 rest, us.drop j = u0 :: rest := ⟨_, _, List.drop_eq_getElem_cons hj⟩
  rw [hu0] at P2
  obtain ⟨D0, t1, t2, k0, a0, b0⟩ := P2.item 0 (oneS u0) rfl
  obtain ⟨vs', rfl⟩ : ∃ vs', vs = .ref D0 :: vs' := by
    cases vs with
    | nil => cases a0
    | cons v r => exact ⟨r, by cases a0; rfl⟩
  intro s2 Q2 E2 F2 N2 G2 hq2
  have vl : vs'.length ≤ 5 := by
    have := P2.len
    rw [List.length_cons, List.length_map, ← hu0, hrl] at this
    omega
  refine lb_2 w g L K m0 led2 x dx (.ref D0) vs' lc0.ring R2 (by omega) (fun P' k2 led3 R3 hP3 lP K3 => ?_) p loose mean mg mb X B T hL s2 Q2 E2 F2 N2 G2 hq2
  have ap0 := R2.apart N2 b0 (fun _ _ _ => rfl) (fun es ep e => by cases e)
  have b3 := K3 _ b0 ap0.1 ap0.2
  have kp3 : ∀ p ∈ base, p ∈ led3 := fun p hp => K3 p (kp2 p hp) (Fm.off p hp).1 (Fm.off p hp).2.1
  have hD3 := K3 _ hD2 hxD.1 hxD.2.1
  have T3 := R2.tabs N2 T2 K3
  have P3 := P2.left R2 N2 K3
  have lc1 : Loc (fun y => if y = Str.ofString "behind" then some (.ref P') else m0 y) x z us D S (enc (us.take j)).length (num wd (enc (us.take j))) := lc0.set (by decide) (by decide) (by decide) (by decide) (by decide) (by decide) (by decide)
  have hb1 : (fun y => if y = Str.ofString "behind" then some (Value.ref P') else m0 y) (Str.ofString "behind") = some (.ref P') := upd_eq
  generalize (fun y => if y = Str.ofString "behind" then some (Value.ref P') else m0 y) = m1 at lc1 hb1 ⊢
  intro s3 Q3 E3 F3 N3 G3 hq3
  refine lb_3 w g L K m1 led3 x dx D0 _ _ k0 lc1.ring R3 b3 (fun led4 R4 K4 => ?_) p loose mean mg mb X B T hL s3 Q3 E3 F3 N3 G3 hq3
  have kp4 : ∀ p ∈ base, p ∈ led4 := fun p hp => K4 p (kp3 p hp) (Fm.off p hp).1 (Fm.off p hp).2.1
  have hD4 := K4 _ hD3 hxD.1 hxD.2.1
  have T4 := R3.tabs N3 T3 K4
  have P4 := P3.left R3 N3 K4
  have apP := R3.apart N3 hP3 (fun _ _ _ => rfl) (fun es ep e => by cases e)
  have hP4 := K4 _ hP3 apP.1 apP.2
  have lc2 : Loc (fun y => if y = Str.ofString "part" then some (.str (oneS u0) t2) else if y = Str.ofString "blanks" then some (.str (Str.ofString "") t1) else m1 y) x z us D S (enc (us.take j)).length (num wd (enc (us.take j))) := (lc1.set (n := Str.ofString "blanks") (by decide) (by decide) (by decide) (by decide) (by decide) (by decide) (by decide)).set (by decide) (by decide) (by decide) (by decide) (by decide) (by decide) (by decide)
  have hb2 : (fun y => if y = Str.ofString "part" then some (Value.str (oneS u0) t2) else if y = Str.ofString "blanks" then some (.str (Str.ofString "") t1) else m1 y) (Str.ofString "behind") = some (.ref P') := by
    show (if Str.ofString "behind" = Str.ofString "part" then _ else (if Str.ofString "behind" = Str.ofString "blanks" then _ else m1 (Str.ofString "behind"))) = _
    rw [if_neg (by decide), if_neg (by decide)]
    exact hb1
  have hp2 : (fun y => if y = Str.ofString "part" then some (Value.str (oneS u0) t2) else if y = Str.ofString "blanks" then some (.str (Str.ofString "") t1) else m1 y) (Str.ofString "part") = some (.str (oneS u0) t2) := upd_eq
  have hk2 : (fun y => if y = Str.ofString "part" then some (Value.str (oneS u0) t2) else if y = Str.ofString "blanks" then some (.str (Str.ofString "") t1) else m1 y) (Str.ofString "blanks") = some (.str (Str.ofString "") t1) := by
    show (if Str.ofString "blanks" = Str.ofString "part" then _ else (if Str.ofString "blanks" = Str.ofString "blanks" then _ else m1 (Str.ofString "blanks"))) = _
    rw [if_neg (by decide), if_pos rfl]
  generalize (fun y => if y = Str.ofString "part" then some (Value.str (oneS u0) t2) else if y = Str.ofString "blanks" then some (.str (Str.ofString "") t1) else m1 y) = m2 at lc2 hb2 hp2 hk2 ⊢
  intro s4 Q4 E4 F4 N4 G4 hq4
  refine lb_4 w g L K m2 led4 x dx P' [] vs' k2 lc2.ring hb2 R4 hP4 (by rw [List.length_nil]; omega) (fun led5 R5 K5 => ?_) p loose mean mg mb X B T hL s4 Q4 E4 F4 N4 G4 hq4
  have kp5 : ∀ p ∈ base, p ∈ led5 := fun p hp => K5 p (kp4 p hp) (Fm.off p hp).1 (Fm.off p hp).2.1
  have hD5 := K5 _ hD4 hxD.1 hxD.2.1
  have T5 := R4.tabs N4 T4 K5
  have P5 := P4.left R4 N4 K5
  have P5' : Pieces vs' ((rest ++ us.take j).map oneS) led5 := ⟨Nat.succ.inj P5.len, fun i q hq => P5.item (i + 1) q hq⟩
  intro s5 Q5 E5 F5 N5 G5 hq5
  refine lb_5 w g L K m2 led5 x dx vs' _ _ lc2.ring hk2 hp2 R5 (by omega) (fun Dn k6 led6 R6 hD6' K6 => ?_) p loose mean mg mb X B T hL s5 Q5 E5 F5 N5 G5 hq5
  have kp6 : ∀ p ∈ base, p ∈ led6 := fun p hp => K6 p (kp5 p hp) (Fm.off p hp).1 (Fm.off p hp).2.1
  have hD6 := K6 _ hD5 hxD.1 hxD.2.1
  have T6 := R5.tabs N5 T5 K6
  have P6 := (P5'.left R5 N5 K6).snoc hD6'
  have hdr : us.drop (j + 1) = rest := by rw [← List.drop_drop, hu0]; rfl
  have hgt : us[j]? = some u0 := by
    have e := List.getElem?_drop (xs := us) (i := j) (j := 0)
    rw [hu0] at e
    exact e.symm
  have htk : us.take (j + 1) = us.take j ++ [u0] := by rw [List.take_add_one, hgt]; rfl
  have hu : u0 ∈ us := List.mem_of_getElem? hgt
  have ent : enc (us.take (j + 1)) = enc (us.take j) ++ enc1 u0 := by rw [htk, enc_append, enc_cons]; simp [enc]
  have hP6 : (rest ++ us.take j).map oneS ++ [oneS u0] = (us.drop (j + 1) ++ us.take (j + 1)).map oneS := by rw [hdr, htk, ← List.append_assoc, List.map_append (l₂ := [u0])]; rfl
  rw [hP6] at P6
  have z1 := oneS_size u0
  have z2 := enc1_len u0
  have z3 := List.length_pos_iff.mpr (enc1_pos u0)
  have hah : num wd (enc (us.take j)) < 2 ^ 40000 := by
    have a := (num_lt hw (enc (us.take j)) (enc_code fun c hc => Wd.code c (List.mem_of_mem_take hc))).1
    have b : wd * (enc (us.take j)).length ≤ 40000 := by
      have e := enc_len36 us
      exact Nat.le_trans (Nat.mul_le_mul hw2 (show _ ≤ 100 by omega)) (by decide)
    exact Nat.lt_of_lt_of_le (Nat.lt_of_succ_le a) (Nat.pow_le_pow_right (by decide) b)
  obtain ⟨ta2, ha2⟩ := lc2.ahead
  intro s6 Q6 E6 F6 N6 G6 hq6
  refine lb_6 w g L K m2 led6 _ wd (oneS u0) ta2 t2 t3 T6 ha2 hp2 (by omega) (by omega) hw hw2 (by rw [oneS_list]; exact fun c hc => (enc1_code (Wd.code _ hu) c hc).2) hah (h3.mono kp6) (fun t7 led7 T7 K7 => ?_) p loose mean mg mb X B T hL s6 Q6 E6 F6 N6 G6 hq6
  have ea : num wd (enc (us.take j)) * 2 ^ (wd * (oneS u0).cps.size) + num wd (oneS u0).cps.toList = num wd (enc (us.take (j + 1))) := by rw [ent, num_append, oneS_size, oneS_list]
  have eg : (enc (us.take j)).length + (oneS u0).cps.size = (enc (us.take (j + 1))).length := by rw [ent, List.length_append, oneS_size]
  rw [ea]
  have kp7 : ∀ p ∈ base, p ∈ led7 := fun p hp => K7 p (kp6 p hp) (Fm.off p hp).2.2.2.1
  have hD7 := K7 _ hD6 hxD.2.2.1
  have R7 : Ring led7 x dx (vs' ++ [.ref Dn]) := R6.mono fun p hp e => K7 p hp (by rcases e with e | e <;> rw [e]; exact Nat.ne_of_gt (Nat.lt_trans (by decide) R.h2); exact Nat.ne_of_gt (Nat.lt_trans (by decide) R.h1))
  have P7 : Pieces (vs' ++ [.ref Dn]) ((us.drop (j + 1) ++ us.take (j + 1)).map oneS) led7 := ⟨P6.len, fun i q hq => let ⟨D', t1, t2, k, a, b⟩ := P6.item i q hq; ⟨D', t1, t2, k, a, let ⟨n1, _, n3⟩ := tabs_off T6 N6 b (fun vs e => by cases e); K7 _ b n1⟩⟩
  have lc3 : Loc (fun y => if y = Str.ofString "ahead" then some (.int ((num wd (enc (us.take (j + 1))) : Nat) : Int) t7) else m2 y) x z us D S (enc (us.take j)).length (num wd (enc (us.take (j + 1)))) := lc2.setAhead
  have hp3 : (fun y => if y = Str.ofString "ahead" then some (Value.int ((num wd (enc (us.take (j + 1))) : Nat) : Int) t7) else m2 y) (Str.ofString "part") = some (.str (oneS u0) t2) := upd_ne (by decide) hp2
  generalize (fun y => if y = Str.ofString "ahead" then some (Value.int ((num wd (enc (us.take (j + 1))) : Nat) : Int) t7) else m2 y) = m3 at lc3 hp3 ⊢
  obtain ⟨tg3, hg3⟩ := lc3.gone
  intro s7 Q7 E7 F7 N7 G7 hq7
  refine lb_7 w g L K m3 led7 _ (oneS u0) tg3 t2 hg3 hp3 (by omega) (by have := enc_len36 us; omega) (fun t => ?_) p loose mean mg mb X B T hL s7 Q7 E7 F7 N7 G7 hq7
  rw [eg]
  exact done _ _ ⟨lc3.setGone, ⟨_, R7, P7⟩, ⟨ds2, c2, hD7, iD2⟩, T7, kp7⟩
end Mine
end

section
open PySem PySem.W PySem.Calls PyProof.Rows
set_option Elab.async false
set_option maxRecDepth 100000
set_option maxHeartbeats 1000000
set_option linter.unusedVariables false
namespace Mine
section
variable {prog : Program} {w : World} {A : Around} {s : Shared} {h₀ : Heap} {env : Env} {x : Str} {px : Pos} {body : List Stmt} {R : Result → Shared → Prop} {I : Addr} {n : Nat} {P : Nat → Value → Prop} {St : Nat → Heap → Prop} {m₀ : Str → Option Value} {news₀ : List (Addr × Obj)}
/-- the iterator of a range -/
def RIt (o : Obj) : Prop := o.cls = .type "range_iterator" ∧ ∃ a b c, o.data = .fields #[rawInt a, rawInt b, rawInt c]
theorem forG_k {Kd : Obj → Prop} (W : Walks prog w A I [I] [I] n P St) (hIo : ∀ i h, St i h → ∃ o, h.get? I = some o ∧ Kd o) (hx : env.kindOf x = some .local) (hp : (env.scope.kind == .class || (env.scope.kind == .module && env.locals != env.globals)) = false)
    (hIL : I ≠ env.locals) (hI₀ : h₀.get? I = none) (J : Nat → (Str → Option Value) → List (Addr × Obj) → Prop)
    (hst : St 0 s.heap) (F : Fr h₀ env.locals s.heap m₀) (N : News h₀ env.locals s.heap news₀) (G : AllBare s.gens) (off : ∀ p ∈ news₀, p.1 ≠ I) (hj : J 0 m₀ news₀)
    (turn : ∀ i v o m₁ nx s', Kd o → i < n → P i v → J i m₁ nx → (∀ p ∈ nx, p.1 ≠ I) → s'.os = s.os → AllBare s'.gens → Fr h₀ env.locals s'.heap (fun y => if y = x then some v else m₁ y) → News h₀ env.locals s'.heap ((I, o) :: nx) →
      wpC (model prog w) A (execs body env) (TurnG h₀ env.locals I o s (J (i + 1)) R) (notedBy (model prog w) A env fun e s' => R (.error e) s') s')
    (done : ∀ m₁ nx s', J n m₁ nx → s'.os = s.os → AllBare s'.gens → Fr h₀ env.locals s'.heap m₁ → News h₀ env.locals s'.heap nx → R (.ok .next) s') :
    codeC (model prog w) A (.forLoop (.Name x px) (.ref I) body [] env) R s := by
  refine codeC_forLoop (fun k s' => ∃ i m₁ nx, k = n + 1 - i ∧ i ≤ n ∧ St i s'.heap ∧ s'.os = s.os ∧ AllBare s'.gens ∧ Fr h₀ env.locals s'.heap m₁ ∧ News h₀ env.locals s'.heap nx ∧ (∀ p ∈ nx, p.1 ≠ I) ∧ J i m₁ nx) ?_ (n + 1)
    ⟨0, m₀, news₀, rfl, Nat.zero_le _, hst, rfl, G, F, N, off, hj⟩
  rintro k s' ⟨i, m₁, nx, rfl, hi, st, os, G, F, N, off, hJ⟩
  by_cases hlt : i < n
  · refine W.item i _ _ _ hlt st fun v h' tk' hP st' hk => ?_
    obtain ⟨o, ho, hkd⟩ := hIo _ _ st'
    obtain ⟨F', N'⟩ := loopInv_step hI₀ hIL F N off hk (ns_at hIL hk) ho
    dsimp only
    refine wpAny_assign_Name (wpAny_storeName_local hx F'.ns (fun h'' hn hs => ?_) hp)
    have st'' : St (i + 1) h'' := W.frame _ _ _ st' fun b hb q e => by
      rw [List.mem_singleton.mp hb] at e ⊢
      exact (hs.2 I hIL).trans e
    refine wpC_mono (turn i v o m₁ nx { s' with heap := h'', toks := tk' + 1 } hkd hlt hP hJ off os G (F'.set hn hs) (N'.set hs)) (fun f s₃ t => ?_) fun _ _ x => x
    have go : (∃ m' nx', s₃.os = s.os ∧ AllBare s₃.gens ∧ Fr h₀ env.locals s₃.heap m' ∧ News h₀ env.locals s₃.heap ((I, o) :: nx') ∧ (∀ p ∈ nx', p.1 ≠ I) ∧ J (i + 1) m' nx') →
        ∃ m, m < n + 1 - i ∧ ∃ i m₁ nx, m = n + 1 - i ∧ i ≤ n ∧ St i s₃.heap ∧ s₃.os = s.os ∧ AllBare s₃.gens ∧ Fr h₀ env.locals s₃.heap m₁ ∧ News h₀ env.locals s₃.heap nx ∧ (∀ p ∈ nx, p.1 ≠ I) ∧ J i m₁ nx := by
      rintro ⟨m3, nx3, os3, G3, F3, N3, off3, J3⟩
      refine ⟨n + 1 - (i + 1), by omega, i + 1, m3, nx3, rfl, hlt, ?_, os3, G3, F3, fun p hp => N3 p (List.mem_cons_of_mem _ hp), off3, J3⟩
      refine W.frame _ _ _ st'' fun b hb q e => ?_
      rw [List.mem_singleton.mp hb] at e ⊢
      have e1 := (hs.2 I hIL).trans ho
      rw [e1] at e
      cases e
      exact (N3 (I, o) List.mem_cons_self).1
    cases f with
    | next => exact go t
    | cont => exact go t
    | brk => exact t
    | ret v => exact t
  · obtain rfl : i = n := Nat.le_antisymm hi (Nat.not_lt.mp hlt)
    refine W.done _ _ _ st fun h' tk' hk => wpAny_execs_nil ?_
    refine done m₁ nx { s' with heap := h', toks := tk' } hJ os G ⟨ns_at hIL hk _ F.ns, fun b q e => hk b q (fun hm => ?_) (F.keep b q e), F.above⟩ fun p hp => ⟨hk _ _ (fun hm => off p hp (List.mem_singleton.mp hm)) (N p hp).1, (N p hp).2⟩
    rw [List.mem_singleton.mp hm, hI₀] at e; cases e
theorem loopRange_K {r : Addr} {a b c : Int} {t u v : Tok} {k : Nat} {E : Value → Shared → Prop} (hh : A.handled = none) (hr : IsRange s.heap r a b c t u v) (hsmall : Builtin.Range.small a b c = true) (hk : Builtin.Range.rangeSize a b c = (k : Int))
    (hx : env.kindOf x = some .local) (hp : (env.scope.kind == .class || (env.scope.kind == .module && env.locals != env.globals)) = false)
    (F : Fr h₀ env.locals s.heap m₀) (N : News h₀ env.locals s.heap news₀) (G : AllBare s.gens) (J : Nat → (Str → Option Value) → List (Addr × Obj) → Prop) (hj : J 0 m₀ news₀)
    (turn : ∀ I i t o m₁ nx s', RIt o → i < k → J i m₁ nx → (∀ p ∈ nx, p.1 ≠ I) → s'.os = s.os → AllBare s'.gens → Fr h₀ env.locals s'.heap (fun y => if y = x then some (.int (a + (i : Int) * c) t) else m₁ y) → News h₀ env.locals s'.heap ((I, o) :: nx) →
      wpC (model prog w) A (execs body env) (TurnG h₀ env.locals I o s (J (i + 1)) R) (notedBy (model prog w) A env fun e s' => R (.error e) s') s')
    (done : ∀ m₁ nx s', J k m₁ nx → s'.os = s.os → AllBare s'.gens → Fr h₀ env.locals s'.heap m₁ → News h₀ env.locals s'.heap nx → R (.ok .next) s') :
    wpAny (model prog w) A (pyIter (.ref r)) (fun it s₂ => codeC (model prog w) A (.forLoop (.Name x px) it body [] env) R s₂) E s := by
  refine wpAny_pyIter_range hr hsmall ?_
  rw [hk]
  refine forG_k (Kd := RIt) (W := Walks.range hh s.heap.objs.size a c k) (s := { s with heap := _ }) (m₀ := m₀) (news₀ := news₀) (fun i h st => ⟨_, st, rfl, _, _, _, rfl⟩) hx hp (Nat.ne_of_gt F.ns.lt) (next_is_new F) J ?_ (F.push _) (fun p hp => ⟨Heap.get?_push_of_some _ (N p hp).1, (N p hp).2⟩) G
    (fun p hp => Nat.ne_of_lt (Heap.lt_size (N p hp).1)) hj ?_ done
  · show IsRangeIter _ _ _ _ _
    simpa using Heap.get?_push_size _ rfl
  · rintro i v o m₁ nx s' hk' hi ⟨t, rfl⟩ hJ off os G₁ F₁ N₁
    exact turn _ i t o m₁ nx s' hk' hi hJ off os G₁ F₁ N₁
end
end Mine
end

section
open PySem PySem.W PyProof.Rows PySem.Calls
set_option Elab.async false
set_option maxRecDepth 100000
set_option maxHeartbeats 2000000
set_option linter.unusedVariables false
namespace Mine
section
variable {g h : Heap} {L I : Addr} {o : Obj} {led : List (Addr × Obj)}
theorem Tabs.iter (T : Tabs led) (N : News g L h led) (hI : (I, o) ∈ led) (ho : RIt o) (h1 : I ≠ 37) (h2 : I ≠ 84) (h3 : I ≠ 91) : Tabs (offL I led) where
  t1 := let ⟨q, a, b⟩ := T.t1; ⟨q, mem_off.mpr ⟨a, Ne.symm h1⟩, b.imp id fun ⟨c, oc, vs, t, e1, e2, e3, e4⟩ => ⟨c, oc, vs, t, e1, mem_off.mpr ⟨mem_off.mpr ⟨(mem_off.mp e2).1, fun e => by
    have e : c = I := e
    subst e
    obtain rfl := news_same N (mem_off.mp e2).1 hI
    obtain ⟨_, a, b, c, e5⟩ := ho
    rw [e3] at e5
    cases e5
    simp [rawInt] at e4⟩, (mem_off.mp e2).2⟩, e3, e4⟩⟩
  t2 := let ⟨q, a, b⟩ := T.t2; ⟨q, mem_off.mpr ⟨a, Ne.symm h2⟩, b⟩
  t3 := let ⟨q, a, b⟩ := T.t3; ⟨q, mem_off.mpr ⟨a, Ne.symm h3⟩, b⟩
theorem LoopJ.off {us : List Nat} {wd : Nat} {x dx S D : Addr} {z : Str} {base : List (Addr × Obj)} {j : Nat} {m : Str → Option Value} (J : LoopJ us wd x dx S D z ((I, o) :: base) j m led) (N : News g L h led) (Fm : Firm x dx D ((I, o) :: base)) (ho : RIt o) (hb : ∀ p ∈ base, p.1 ≠ I) : LoopJ us wd x dx S D z base j m (offL I led) := by
  obtain ⟨lc, ⟨vs, R, Ps⟩, ⟨ds, cd, hD, iD⟩, Tb, kp⟩ := J
  have hI := kp _ (.head _)
  obtain ⟨i1, i2, i3, i4, i5, i6⟩ := Fm.off _ (.head _)
  refine ⟨lc, ⟨vs, R.mono fun p hp e => mem_off.mpr ⟨hp, ?_⟩, Ps.len, fun i q hq => let ⟨D', t1, t2, k, a, b⟩ := Ps.item i q hq; ⟨D', t1, t2, k, a, mem_off.mpr ⟨b, fun e => ?_⟩⟩⟩, ⟨ds, cd, mem_off.mpr ⟨hD, Ne.symm i3⟩, iD⟩, Tb.iter N hI ho i4 i5 i6, fun p hp => mem_off.mpr ⟨kp p (.tail _ hp), hb p hp⟩⟩
  · rcases e with e | e <;> rw [e]
    · exact Ne.symm i1
    · exact Ne.symm i2
  · have e : D' = I := e
    subst e
    have e := (congrArg Obj.cls (news_same N b hI)).trans ho.1
    exact absurd (Value.type.inj e) (by decide)
end
section
local macro_rules | `(tactic| walk_at "pyIter") => `(tactic| (refine Halt.out ?_))
local macro_rules | `(tactic| walk_at "call builtin:len") => `(tactic| (refine Halt.out ?_))
local macro_rules | `(tactic| walk_at "eval Name") => `(tactic| (k_here; k_dflt (refine' nameX_L ?F ?v ?_ ?a ?b; (case F => k_asm); (case a => rfl); (case b => rfl); (case v => with_reducible assumption); k_whole)))
/-- statement 22: the last loop -/
theorem seg_r (w : World) (g : Heap) (L : Addr) (us : List Nat) (wd : Nat) (x dx P S D : Addr) (ys : List Value) (c1 : Nat) (z : Str) (t3 : Tok) (base : List (Addr × Obj)) (m : Str → Option Value) (led : List (Addr × Obj)) (Wd : Word us) (hw : 8 ≤ wd) (hw2 : wd ≤ 400)
    (Fm : Firm x dx D base) (h3 : Cell base (L + 3) (some (.int (wd : Int) t3))) (h8 : Cell base (L + 8) (some (.ref P))) (hP : (P, listOf (List.toArray ys) c1) ∈ base) (hy : Parted base ys (partAt wd (num wd (enc us)) (2 ^ (wd * (enc us).length) - 1)) (enc us).length)
    (hxD : D ≠ x ∧ D ≠ dx ∧ D ≠ 37 ∧ D ≠ 84 ∧ D ≠ 91) (J : LoopJ us wd x dx S D z base 0 m led)
    (next : ∀ m' led', LoopJ us wd x dx S D z base us.length m' led' → Ends w g L 23 m' led') :
    Seg w g L (Ends w g L 22 m led) := by
  have fk : mkK.heap_1 = mkK.heap_1 ∧ PySem.Challenge.rw_xp0011_01 = PySem.Challenge.rw_xp0011_01 := by
    k_fill
    exact ⟨rfl, rfl⟩
  intro p loose mean mg mb X B T hL s Q E F N G hq
  obtain ⟨tw, hw'⟩ := J.loc.word
  k_dflt (have ho := (show (mkK.heap_1 (w.params)).lookup 169 = some _ by k_is))
  have hs := (show (bodyOf (mkK.heap_1 (w.params)) 169)[22]? = some _ by unfold bodyOf; rw [ho]; rfl)
  clear ho
  rw [tail_cons hs]
  clear hs
  refine wpC_execs_cons (wpC_For ?_)
  k_steps
  have hi := Wd.hi
  refine Halt.go (str_len (by show us.toArray.size ≤ _; rw [List.size_toArray]; omega) ?_)
  k_steps
  have ez : (us.toArray.size : Int) = (us.length : Int) := by rw [List.size_toArray]
  rename Fr _ _ _ _ => F1
  rename News _ _ _ _ => N1
  rename IsRange _ _ _ _ _ _ _ _ => r1
  rw [ez] at r1
  k_dflt (have ho := (show (mkK.heap_1 w.params).lookup 169 = some _ by k_is))
  refine Halt.go (loopRange_K (k := us.length) rfl r1 (range_small (by omega) (by omega) (by omega) rangeSize_to (by omega)) rangeSize_to rfl rfl F1 N1 G (fun i m₁ nx => LoopJ us wd x dx S D z base i m₁ nx) J ?_ ?_)
  · rintro I i t o m₁ nx s1 ho1 hi J1 off os1 G1 F2 N2
    rw [Int.zero_add, Int.mul_one] at F2
    suffices hh : wpC (model PySem.Challenge.rw_xp0011_01.row.prog w) (lawA L) (execs (loopTail w 0) (lawEnv L)) _ _ _ by
      unfold loopTail loopOf bodyOf at hh
      rw [ho] at hh
      exact hh
    obtain ⟨lc, ⟨vs, R, Ps⟩, ⟨ds, cd, hD, iD⟩, Tb, kp⟩ := J1
    have xI := R.off off
    have hDI : D ≠ I := off _ hD
    obtain ⟨q1, a1, b1⟩ := Tb.t1
    obtain ⟨q2, a2, b2⟩ := Tb.t2
    obtain ⟨q3, a3, b3⟩ := Tb.t3
    have Fm' : Firm x dx D ((I, o) :: base) := Fm.cons ⟨Ne.symm xI.1, Ne.symm xI.2, Ne.symm hDI, Ne.symm (off _ a1), Ne.symm (off _ a2), Ne.symm (off _ a3)⟩
    have J2 : LoopJ us wd x dx S D z ((I, o) :: base) i m₁ ((I, o) :: nx) := ⟨lc, ⟨vs, R.mono fun p hp _ => .tail _ hp, Ps.mono fun p hp => .tail _ hp⟩, ⟨ds, cd, .tail _ hD, iD⟩, Tb.mono fun p hp => .tail _ hp, fun p hp => by
      rcases List.mem_cons.mp hp with rfl | hp
      · exact .head _
      · exact .tail _ (kp p hp)⟩
    refine turn_r w g L (LoopJ us wd x dx S D z ((I, o) :: base) (i + 1)) us wd x dx P S D ys c1 z t3 ((I, o) :: base) i m₁ ((I, o) :: nx) t Wd hw hw2 hi Fm' (h3.mono fun p hp => .tail _ hp) (h8.mono fun p hp => .tail _ hp) (.tail _ hP) (hy.mono fun p hp => .tail _ hp) hxD J2 (fun m' led' h => h) p loose mean mg mb X B T hL s1 _ _ F2 N2 G1 fun s2 m' led' J3 F3 N3 G3 os3 => ?_
    exact ⟨m', offL I led', os3.trans os1, G3, F3, news_at N3 (J3.kept _ (.head _)), off_ne, J3.off N3 Fm' ho1 fun p hp => off p (kp p hp)⟩
  · intro m₁ nx s1 J1 os1 G1 F2 N2
    exact next m₁ nx J1 s1 Q E F2 N2 G1 fun s' m' led' a b c d e => hq s' m' led' a b c d (e.trans os1)
end
end Mine
end

section
open PySem PySem.W PyProof.Rows PySem.Calls
set_option Elab.async false
set_option maxRecDepth 100000
set_option maxHeartbeats 2000000
set_option linter.unusedVariables false
namespace Mine
/-- a list or a tuple: it has no dict, and is no dict, cell or plain object -/
structure Sq (o : Obj) : Prop where
  seq : ∃ ws n, o.data = .seq ws n
  dict : o.dict = none
theorem Sq.list {ys : List Value} {c : Nat} : Sq (listOf (List.toArray ys) c) := ⟨⟨_, _, rfl⟩, rfl⟩
theorem Sq.tup {ys : List Value} {c : Nat} : Sq (tupO ys c) := ⟨⟨_, _, rfl⟩, rfl⟩
section
variable {g h : Heap} {L c d x dx : Addr} {o : Obj} {v : Option Value} {led led' : List (Addr × Obj)} {vs ys : List Value} {ps : List Str} {f : Nat → Nat × Nat} {n : Nat}
theorem Sq.cell (q : Sq o) (N : News g L h led) (hm : (c, o) ∈ led) (hc : Cell led d v) : c ≠ d := by
  rintro rfl
  obtain ⟨o', a, b⟩ := hc
  obtain ⟨ws, n, e⟩ := q.seq
  rw [news_same N hm a, b] at e
  cases e
theorem Sq.tabs (q : Sq o) (T : Tabs led) (N : News g L h led) (hm : (c, o) ∈ led) : c ≠ 37 ∧ c ≠ 84 ∧ c ≠ 91 :=
  tabs_off T N hm fun vs e => let ⟨_, _, e'⟩ := q.seq; by rw [e'] at e; cases e
theorem Sq.ring (q : Sq o) (R : Ring led x dx vs) (N : News g L h led) (hm : (c, o) ∈ led) : c ≠ x ∧ c ≠ dx :=
  R.apart N hm (fun _ _ _ => q.dict) fun _ _ e => let ⟨_, _, e'⟩ := q.seq; by rw [e'] at e; cases e
theorem Cell.ring (C : Cell led c v) (hc : c < dx) (hd : dx < x) : c ≠ x ∧ c ≠ dx := ⟨Nat.ne_of_lt (Nat.lt_trans hc hd), Nat.ne_of_lt hc⟩
theorem Pieces.put (P : Pieces vs ps led) (k : ∀ p ∈ led, Sq p.2 → p ∈ led') : Pieces vs ps led' :=
  ⟨P.len, fun i q hq => let ⟨D, t1, t2, c, a, b⟩ := P.item i q hq; ⟨D, t1, t2, c, a, k _ b Sq.tup⟩⟩
theorem Parted.put (P : Parted led ys f n) (k : ∀ p ∈ led, Sq p.2 → p ∈ led') : Parted led' ys f n :=
  ⟨P.1, fun j hj => let ⟨D, t1, t2, c, a, b⟩ := P.2 j hj; ⟨D, t1, t2, c, a, k _ b Sq.tup⟩⟩
theorem Cell.put (C : Cell led c v) (k : ∀ p ∈ led, p.1 = c → p ∈ led') : Cell led' c v := let ⟨o, a, b⟩ := C; ⟨o, k _ a rfl, b⟩
end
/-- the objects of a ledger that stand still in the loop -/
def firmOf (x dx : Addr) (led : List (Addr × Obj)) : List (Addr × Obj) := offL 91 (offL 84 (offL 37 (outR x dx led)))
theorem mem_firm {x dx : Addr} {led : List (Addr × Obj)} {p : Addr × Obj} : p ∈ firmOf x dx led ↔ p ∈ led ∧ p.1 ≠ x ∧ p.1 ≠ dx ∧ p.1 ≠ 37 ∧ p.1 ≠ 84 ∧ p.1 ≠ 91 := by
  unfold firmOf outR
  simp only [mem_off, and_assoc]
theorem nat_ne {a b i : Nat} (h : a + 9 < b) (hi : i ≤ 9) : a + i ≠ b := by omega
theorem off91 {a k : Nat} (h : 91 < a) (hk : k ≤ 91) : a ≠ k := by omega
theorem off92 {a i k : Nat} (h : 91 < a) (hk : k ≤ 91) : a + i ≠ k := by omega
theorem lt_dx {a b : Nat} (h : 91 < a) (hk : a + 9 < b) : 91 < b := by omega
/-- the plain facts -/
theorem drawn_len (ns : List Int) : 4 ≤ (drawnOf ns).length ∧ (drawnOf ns).length ≤ 6 := by
  unfold drawnOf
  rw [List.length_append, List.length_drop, List.length_take]
  show 4 ≤ min 6 ns.length + (4 - min 6 ns.length) ∧ _ + (4 - _) ≤ 6
  omega
theorem letter_code (tot : Nat) (x : Int) : 1 ≤ letterOf tot x ∧ letterOf tot x < 256 := by
  unfold letterOf
  generalize hk : (tot + 4 * (x % 3).toNat) % 9 = k
  have h : k < 9 := hk ▸ Nat.mod_lt _ (by decide)
  have all : ∀ i : Fin 9, 1 ≤ rowC.getD i.1 0 ∧ rowC.getD i.1 0 < 256 := by decide +kernel
  exact all ⟨k, h⟩
theorem word_word (tot : Nat) (ns : List Int) : Word (wordOf tot (drawnOf ns)) := by
  have := drawn_len ns
  refine ⟨by unfold wordOf; rw [List.length_map]; omega, by unfold wordOf; rw [List.length_map]; omega, fun c hc => ?_⟩
  obtain ⟨x, _, rfl⟩ := List.mem_map.mp hc
  exact letter_code tot x
theorem enc_rev_len : ∀ us : List Nat, (enc us.reverse).length = (enc us).length
  | [] => rfl
  | c :: r => by
    rw [List.reverse_cons, enc_append, List.length_append, enc_rev_len r, enc_cons, enc_cons, List.length_append, List.length_append, Nat.add_comm]
    simp [enc]
theorem sum_one : ∀ us : List Nat, ((us.map oneS).map (·.length)).sum = (enc us).length
  | [] => rfl
  | c :: r => by
    rw [List.map_cons, List.map_cons, List.sum_cons, sum_one r, enc_cons, List.length_append]
    congr 1
    exact oneS_size c
theorem hits_len (l v : List Nat) : (hits l v).length ≤ l.length := by
  unfold hits
  have := List.length_filter_le (fun s => rotL s l == v) (List.range l.length)
  rwa [List.length_range] at this
theorem coset_int (l v : List Nat) : (hits l v).map Int.ofNat = [] ∨ ∃ f0 r, (hits l v).map Int.ofNat = f0 :: r ∧ (hits l v).map Int.ofNat = ((hits l l).map Int.ofNat).map fun t => f0 + t := by
  rcases hits_coset l v with e | ⟨f0, r, e1, e2⟩
  · exact .inl (by rw [e]; rfl)
  · refine .inr ⟨(f0 : Int), r.map Int.ofNat, by rw [e1]; rfl, ?_⟩
    rw [e2, List.map_map, List.map_map]
    exact List.map_congr_left fun t _ => by simp
end Mine
end

section
open PySem PySem.W PyProof.Rows PySem.Calls
set_option Elab.async false
set_option maxRecDepth 100000
set_option maxHeartbeats 2000000
set_option linter.unusedVariables false
namespace Mine
theorem body (w : World) : LawBody w := body_of w fun g L l vs ns led => by
  intro p loose mean mg mb X B T hL hl hI hn hc Tb
  refine seg_a w g L l vs ns led hl hI hn (fun D0 ys0 c0 led1 iD0 hD0 K1 => ?_) p loose mean mg mb X B T hL
  have c1 : ∀ i : Nat, 1 ≤ i → i ≤ 9 → Cell led1 (L + i) none := fun i a b => (hc i a b).mono K1
  have T1 := Tb.mono K1
  have len0 := drawn_len ns
  intro s1 Q1 E1 F1 N1 G1 hq1
  refine seg_b w g L D0 _ ys0 (drawnOf ns) c0 led1 T1 hD0 iD0 len0.2 (c1 1 (by decide) (by decide)) (c1 2 (by decide) (by decide)) (fun t1 t2 led2 h1 h2 K2 T2 => ?_) p loose mean mg mb X B T hL s1 Q1 E1 F1 N1 G1 hq1
  have c2 : ∀ i : Nat, 3 ≤ i → i ≤ 9 → Cell led2 (L + i) none := fun i a b => (c1 i (by omega) b).put fun p hp e => K2 p hp (by rw [e]; exact ad_ne (by omega)) (by rw [e]; exact ad_ne (by omega))
  have hD2 := K2 _ hD0 (Sq.list.cell N1 hD0 (c1 1 (by decide) (by decide))) (Sq.list.cell N1 hD0 (c1 2 (by decide) (by decide)))
  refine seg_c w g L D0 _ ys0 (drawnOf ns) c0 led2 _ t1 t2 hD2 iD0 len0.2 h1 h2 (fun tw => ?_) p loose mean mg mb X B T hL
  generalize (drawnOf ns).sum.natAbs = tot at h1 ⊢
  have Wd := word_word tot ns
  generalize wordOf tot (drawnOf ns) = us at Wd ⊢
  refine seg_d w g L _ led2 tot t1 T2 h1 (c2 3 (by decide) (by decide)) (fun t3 led3 h3 K3 T3 => ?_) p loose mean mg mb X B T hL
  have hw : 8 ≤ 8 + tot / 9 % 300 := Nat.le_add_right _ _
  have hw2 : 8 + tot / 9 % 300 ≤ 308 := Nat.add_le_add_left (Nat.le_of_lt (Nat.mod_lt _ (by decide))) _
  generalize 8 + tot / 9 % 300 = wd at h3 hw hw2
  have c3 : ∀ i : Nat, 4 ≤ i → i ≤ 9 → Cell led3 (L + i) none := fun i a b => (c2 i (by omega) b).put fun p hp e => K3 p hp (by rw [e]; exact ad_ne (by omega))
  have hi := Wd.hi
  have lo := Wd.lo
  refine seg_e w g L _ led3 us tw hi lo (fun c hc => (Wd.code c hc).2) (fun te => ?_) p loose mean mg mb X B T hL
  refine seg_f w g L _ led3 us te hi (fun c hc => (Wd.code c hc).2) (fun tm => ?_) p loose mean mg mb X B T hL
  refine seg_g w g L _ led3 us (.ref 0) _ _ tw hi (fun tz => ?_) p loose mean mg mb X B T hL
  refine seg_h w g L _ led3 _ T3 (fun x dx hs t u c led4 e4 ltx lt4 => ?_) p loose mean mg mb X B T hL
  have hdx : L + 9 < dx := let ⟨o, a, _⟩ := c3 9 (by decide) (by decide); lt4 _ a
  have hne : ∀ i : Nat, i ≤ 9 → L + i ≠ x ∧ L + i ≠ dx := fun i h => ⟨nat_ne (Nat.lt_trans hdx ltx) h, nat_ne hdx h⟩
  have h37 : ∀ i : Nat, L + i ≠ 37 ∧ L + i ≠ 84 ∧ L + i ≠ 91 := fun i => ⟨off92 hL (by decide), off92 hL (by decide), off92 hL (by decide)⟩
  have T4 : Tabs led4 := e4 ▸ T3.mono fun p hp => .tail _ (.tail _ hp)
  have R4 : Ring led4 x dx [] := e4 ▸ ⟨⟨0, .head _⟩, ⟨hs, t, u, c, .tail _ (.head _)⟩, Nat.ne_of_lt ltx, lt_dx hL hdx, Nat.lt_trans (lt_dx hL hdx) ltx⟩
  have hR1 := R4.h1
  have hR2 := R4.h2
  have h3 : Cell led4 (L + 3) _ := e4 ▸ h3.mono fun p hp => .tail _ (.tail _ hp)
  have c4 : ∀ i : Nat, 4 ≤ i → i ≤ 9 → Cell led4 (L + i) none := fun i a b => e4 ▸ (c3 i a b).mono fun p hp => .tail _ (.tail _ hp)
  clear e4 lt4 c3 K3 T3 c2 c1 K1 K2 hD2 h1 h2 hD0
  refine seg_i w g L _ led4 x dx tw us _ _ _ T4 R4 hi (fun sg vs5 led5 R5 P5 K5 T5 => ?_) p loose mean mg mb X B T hL
  have kc5 : ∀ {i : Nat} {v}, i ≤ 9 → Cell led4 (L + i) v → Cell led5 (L + i) v := fun {i} {v} hi C => C.put fun p hp e => K5 p hp (by rw [e]; exact (hne i hi).1) (by rw [e]; exact (hne i hi).2)
  have h3 := kc5 (by decide) h3
  have c5 : ∀ i : Nat, 4 ≤ i → i ≤ 9 → Cell led5 (L + i) none := fun i a b => kc5 b (c4 i a b)
  clear kc5 c4 K5 T4 R4
  have e36 := enc_len36 us
  have e36' := enc_rev_len us
  have epos := enc_pos lo
  have ecode := enc_code Wd.code
  have ecode' : ∀ c ∈ enc us.reverse, 1 ≤ c ∧ c < 256 := enc_code fun c hc => Wd.code c (List.mem_reverse.mp hc)
  have ez : (encS ⟨us.toArray⟩).cps.size = (enc us).length := by rw [encS_size]
  have hps : ∀ q ∈ us.map oneS, q.length ≤ 100 := fun q hq => by
    obtain ⟨c, _, rfl⟩ := List.mem_map.mp hq
    show (oneS c).cps.size ≤ 100
    rw [oneS_size]
    exact Nat.le_trans (enc1_len c) (by decide)
  intro s5 Q5 E5 F5 N5 G5 hq5
  refine seg_j w g L _ led5 sg x (encS ⟨us.toArray⟩) tz _ _ _ T5 (by omega) (c5 4 (by decide) (by decide)) (fun t4 led6 h4 K6 T6 => ?_) p loose mean mg mb X B T hL s5 Q5 E5 F5 N5 G5 hq5
  rw [ez] at h4
  have R6 : Ring led6 x dx vs5 := R5.mono fun p hp e => K6 p hp (by rcases e with e | e <;> rw [e]; exact Ne.symm (hne 4 (by decide)).1; exact Ne.symm (hne 4 (by decide)).2)
  have P6 : Pieces vs5 (us.map oneS) led6 := P5.put fun p hp q => K6 p hp (q.cell N5 hp (c5 4 (by decide) (by decide)))
  have h3 := h3.put fun p hp e => K6 p hp (by rw [e]; exact ad_ne)
  have c6 : ∀ i : Nat, 5 ≤ i → i ≤ 9 → Cell led6 (L + i) none := fun i a b => (c5 i (by omega) b).put fun p hp e => K6 p hp (by rw [e]; exact ad_ne (by omega))
  clear c5 R5 P5 K6 T5 hq5 F5 N5 G5
  intro s6 Q6 E6 F6 N6 G6 hq6
  refine seg_k w g L _ led6 sg x dx us tz tw _ _ vs5 (us.map oneS) (enc us).length t4 T6 hi h4 R6 P6 hps (by rw [List.length_map]; omega) (sum_one us) (by omega) (fun led7 K7 T7 => ?_) p loose mean mg mb X B T hL s6 Q6 E6 F6 N6 G6 hq6
  have R7 : Ring led7 x dx vs5 := R6.mono fun p hp e => K7 p hp (by rcases e with e | e <;> rw [e]; exact off91 hR2 (by decide); exact off91 hR1 (by decide))
  have P7 := P6.put fun p hp q => K7 p hp (q.tabs T6 N6 hp).2.1
  have h3 := h3.put fun p hp e => K7 p hp (by rw [e]; exact (h37 3).2.1)
  have h4 := h4.put fun p hp e => K7 p hp (by rw [e]; exact (h37 4).2.1)
  have c7 : ∀ i : Nat, 5 ≤ i → i ≤ 9 → Cell led7 (L + i) none := fun i a b => (c6 i a b).put fun p hp e => K7 p hp (by rw [e]; exact (h37 i).2.1)
  clear c6 R6 P6 K7 T6 hq6 F6 N6 G6
  intro s7 Q7 E7 F7 N7 G7 hq7
  refine seg_l w g L _ led7 sg x us tz tm _ _ wd t3 T7 hi lo (by omega) (by omega) epos (by omega) hw (by omega) (fun c hc => (ecode c hc).2) (fun c hc => (ecode' c hc).2) h3 (c7 5 (by decide) (by decide)) (c7 6 (by decide) (by decide)) (fun t5 t6 led8 h5 h6 K8 T8 => ?_) p loose mean mg mb X B T hL s7 Q7 E7 F7 N7 G7 hq7
  have R8 : Ring led8 x dx vs5 := R7.mono fun p hp e => K8 p hp (by rcases e with e | e <;> rw [e]; exact Ne.symm (hne 5 (by decide)).1; exact Ne.symm (hne 5 (by decide)).2) (by rcases e with e | e <;> rw [e]; exact Ne.symm (hne 6 (by decide)).1; exact Ne.symm (hne 6 (by decide)).2) (by rcases e with e | e <;> rw [e]; exact off91 hR2 (by decide); exact off91 hR1 (by decide))
  have P8 := P7.put fun p hp q => K8 p hp (q.cell N7 hp (c7 5 (by decide) (by decide))) (q.cell N7 hp (c7 6 (by decide) (by decide))) (q.tabs T7 N7 hp).1
  have h3 := h3.put fun p hp e => K8 p hp (by rw [e]; exact ad_ne) (by rw [e]; exact ad_ne) (by rw [e]; exact (h37 3).1)
  have h4 := h4.put fun p hp e => K8 p hp (by rw [e]; exact ad_ne) (by rw [e]; exact ad_ne) (by rw [e]; exact (h37 4).1)
  have c8 : ∀ i : Nat, 7 ≤ i → i ≤ 9 → Cell led8 (L + i) none := fun i a b => (c7 i (by omega) b).put fun p hp e => K8 p hp (by rw [e]; exact ad_ne (by omega)) (by rw [e]; exact ad_ne (by omega)) (by rw [e]; exact (h37 i).1)
  clear c7 R7 P7 K8 T7 hq7 F7 N7 G7
  have mr : lawM sg x (.str (encS ⟨us.toArray⟩) tz) (.str ⟨us.reverse.toArray⟩ tm) (.bytes (byteArr (us.map Int.ofNat)).reverse te) (.str ⟨us.toArray⟩ tw) (fun y => if y = Str.ofString "drawn" then some (.ref D0) else if y = Str.ofString "script" then some (.ref l) else none) (Str.ofString "ring") = some (.ref x) := by
    show (if Str.ofString "ring" = Str.ofString "sign" then _ else (if Str.ofString "ring" = Str.ofString "ring" then _ else _)) = _
    rw [if_neg (by decide), if_pos rfl]
  have mw : lawM sg x (.str (encS ⟨us.toArray⟩) tz) (.str ⟨us.reverse.toArray⟩ tm) (.bytes (byteArr (us.map Int.ofNat)).reverse te) (.str ⟨us.toArray⟩ tw) (fun y => if y = Str.ofString "drawn" then some (.ref D0) else if y = Str.ofString "script" then some (.ref l) else none) (Str.ofString "written") = some (.str (encS ⟨us.toArray⟩) tz) := by
    show (if Str.ofString "written" = Str.ofString "sign" then _ else (if Str.ofString "written" = Str.ofString "ring" then _ else (if Str.ofString "written" = Str.ofString "written" then _ else _))) = _
    rw [if_neg (by decide), if_neg (by decide), if_pos rfl]
  have mo : lawM sg x (.str (encS ⟨us.toArray⟩) tz) (.str ⟨us.reverse.toArray⟩ tm) (.bytes (byteArr (us.map Int.ofNat)).reverse te) (.str ⟨us.toArray⟩ tw) (fun y => if y = Str.ofString "drawn" then some (.ref D0) else if y = Str.ofString "script" then some (.ref l) else none) (Str.ofString "word") = some (.str ⟨us.toArray⟩ tw) := by
    show (if Str.ofString "word" = Str.ofString "sign" then _ else (if Str.ofString "word" = Str.ofString "ring" then _ else (if Str.ofString "word" = Str.ofString "written" then _ else (if Str.ofString "word" = Str.ofString "mirrored" then _ else (if Str.ofString "word" = Str.ofString "turned" then _ else (if Str.ofString "word" = Str.ofString "word" then _ else _)))))) = _
    rw [if_neg (by decide), if_neg (by decide), if_neg (by decide), if_neg (by decide), if_neg (by decide), if_pos rfl]
  generalize lawM sg x (.str (encS ⟨us.toArray⟩) tz) (.str ⟨us.reverse.toArray⟩ tm) (.bytes (byteArr (us.map Int.ofNat)).reverse te) (.str ⟨us.toArray⟩ tw) (fun y => if y = Str.ofString "drawn" then some (.ref D0) else if y = Str.ofString "script" then some (.ref l) else none) = m8 at mr mw mo ⊢
  intro s8 Q8 E8 F8 N8 G8 hq8
  refine seg_m w g L m8 led8 wd (enc us).length t3 t4 T8 (Nat.le_trans (Nat.mul_le_mul hw2 (show _ ≤ 36 by omega)) (by decide)) (by omega) h3 h4 (c8 7 (by decide) (by decide)) (fun t7 led9 h7 K9 T9 => ?_) p loose mean mg mb X B T hL s8 Q8 E8 F8 N8 G8 hq8
  have R9 : Ring led9 x dx vs5 := R8.mono fun p hp e => K9 p hp (by rcases e with e | e <;> rw [e]; exact Ne.symm (hne 7 (by decide)).1; exact Ne.symm (hne 7 (by decide)).2)
  have P9 := P8.put fun p hp q => K9 p hp (q.cell N8 hp (c8 7 (by decide) (by decide)))
  have h3 := h3.put fun p hp e => K9 p hp (by rw [e]; exact ad_ne)
  have h4 := h4.put fun p hp e => K9 p hp (by rw [e]; exact ad_ne)
  have h5 := h5.put fun p hp e => K9 p hp (by rw [e]; exact ad_ne)
  have h6 := h6.put fun p hp e => K9 p hp (by rw [e]; exact ad_ne)
  have c9 : ∀ i : Nat, 8 ≤ i → i ≤ 9 → Cell led9 (L + i) none := fun i a b => (c8 i (by omega) b).put fun p hp e => K9 p hp (by rw [e]; exact ad_ne (by omega))
  clear c8 R8 P8 K9 T8 hq8 F8 N8 G8
  have hW : num wd (enc us) ≤ 2 ^ (wd * (enc us).length) - 1 := Nat.le_sub_of_add_le (num_lt hw _ ecode).1
  intro s9 Q9 E9 F9 N9 G9 hq9
  refine seg_n w g L m8 led9 wd (enc us).length (num wd (enc us)) (2 ^ (wd * (enc us).length) - 1) t3 t4 t5 t7 T9 (Nat.le_trans (Nat.mul_le_mul hw2 (show _ ≤ 36 by omega)) (by decide)) hw (by omega) (by omega) epos rfl hW h3 h4 h5 h7 (c9 8 (by decide) (by decide)) (fun P ys cP led10 hP hy h8 K10 T10 => ?_) p loose mean mg mb X B T hL s9 Q9 E9 F9 N9 G9 hq9
  have R10 : Ring led10 x dx vs5 := R9.mono fun p hp e => K10 p hp (by rcases e with e | e <;> rw [e]; exact Ne.symm (hne 8 (by decide)).1; exact Ne.symm (hne 8 (by decide)).2)
  have P10 := P9.put fun p hp q => K10 p hp (q.cell N9 hp (c9 8 (by decide) (by decide)))
  have h3 := h3.put fun p hp e => K10 p hp (by rw [e]; exact ad_ne)
  have h4 := h4.put fun p hp e => K10 p hp (by rw [e]; exact ad_ne)
  have h5 := h5.put fun p hp e => K10 p hp (by rw [e]; exact ad_ne)
  have h6 := h6.put fun p hp e => K10 p hp (by rw [e]; exact ad_ne)
  have c10 : Cell led10 (L + 9) none := (c9 9 (by decide) (by decide)).put fun p hp e => K10 p hp (by rw [e]; exact ad_ne)
  clear c9 R9 P9 K10 T9 hq9 F9 N9 G9 h7
  intro s10 Q10 E10 F10 N10 G10 hq10
  refine seg_o w g L m8 led10 (enc us).length (num wd (enc us.reverse)) _ ys cP P t4 t6 T10 (by omega) h4 h6 h8 hP hy c10 (fun Fd fs cF led11 hF iF h9 K11 T11 => ?_) p loose mean mg mb X B T hL s10 Q10 E10 F10 N10 G10 hq10
  rw [rem_hits hw (enc us) (enc us.reverse) ecode ecode' e36'] at iF
  have R11 : Ring led11 x dx vs5 := R10.mono fun p hp e => K11 p hp (by rcases e with e | e <;> rw [e]; exact Ne.symm (hne 9 (by decide)).1; exact Ne.symm (hne 9 (by decide)).2)
  have P11 := P10.put fun p hp q => K11 p hp (q.cell N10 hp c10)
  have hy11 := hy.put fun p hp q => K11 p hp (q.cell N10 hp c10)
  have hP11 := K11 _ hP (Sq.list.cell N10 hP c10)
  have h3 := h3.put fun p hp e => K11 p hp (by rw [e]; exact ad_ne)
  have h4 := h4.put fun p hp e => K11 p hp (by rw [e]; exact ad_ne)
  have h5 := h5.put fun p hp e => K11 p hp (by rw [e]; exact ad_ne)
  have h8 := h8.put fun p hp e => K11 p hp (by rw [e]; exact ad_ne)
  clear c10 R10 P10 hP hy K11 T10 hq10 F10 N10 G10 h6
  refine seg_p w g L m8 led11 (enc us).length (num wd (enc us)) _ ys cP P t4 t5 T11 (by omega) h4 h5 h8 hP11 hy11 (fun S ss cS led12 hS iS K12 T12 => ?_) p loose mean mg mb X B T hL
  rw [rem_hits hw (enc us) (enc us) ecode ecode rfl] at iS
  have R12 := R11.mono fun p hp e => K12 p hp
  have P12 := P11.mono K12
  have hy12 := hy11.mono K12
  have hP12 := K12 _ hP11
  have hF12 := K12 _ hF
  have h3 := h3.mono K12
  have h8 := h8.mono K12
  have h9 := h9.mono K12
  clear R11 P11 hy11 hP11 hF K12 T11 h4 h5
  refine seg_q w g L m8 led12 _ T12 (fun D t1 t2 led13 e13 l13 T13 => ?_) p loose mean mg mb X B T hL
  subst e13
  have nr : (fun y => if y = Str.ofString "gone" then some (Value.int 0 t2) else if y = Str.ofString "ahead" then some (.int 0 t1) else if y = Str.ofString "due" then some (.ref D) else if y = Str.ofString "still" then some (.ref S) else m8 y) (Str.ofString "ring") = some (.ref x) := by
    show (if Str.ofString "ring" = Str.ofString "gone" then _ else (if Str.ofString "ring" = Str.ofString "ahead" then _ else (if Str.ofString "ring" = Str.ofString "due" then _ else (if Str.ofString "ring" = Str.ofString "still" then _ else m8 (Str.ofString "ring"))))) = _
    rw [if_neg (by decide), if_neg (by decide), if_neg (by decide), if_neg (by decide)]
    exact mr
  have nw : (fun y => if y = Str.ofString "gone" then some (Value.int 0 t2) else if y = Str.ofString "ahead" then some (.int 0 t1) else if y = Str.ofString "due" then some (.ref D) else if y = Str.ofString "still" then some (.ref S) else m8 y) (Str.ofString "written") = some (.str (encS ⟨us.toArray⟩) tz) := by
    show (if Str.ofString "written" = Str.ofString "gone" then _ else (if Str.ofString "written" = Str.ofString "ahead" then _ else (if Str.ofString "written" = Str.ofString "due" then _ else (if Str.ofString "written" = Str.ofString "still" then _ else m8 (Str.ofString "written"))))) = _
    rw [if_neg (by decide), if_neg (by decide), if_neg (by decide), if_neg (by decide)]
    exact mw
  have no : (fun y => if y = Str.ofString "gone" then some (Value.int 0 t2) else if y = Str.ofString "ahead" then some (.int 0 t1) else if y = Str.ofString "due" then some (.ref D) else if y = Str.ofString "still" then some (.ref S) else m8 y) (Str.ofString "word") = some (.str ⟨us.toArray⟩ tw) := by
    show (if Str.ofString "word" = Str.ofString "gone" then _ else (if Str.ofString "word" = Str.ofString "ahead" then _ else (if Str.ofString "word" = Str.ofString "due" then _ else (if Str.ofString "word" = Str.ofString "still" then _ else m8 (Str.ofString "word"))))) = _
    rw [if_neg (by decide), if_neg (by decide), if_neg (by decide), if_neg (by decide)]
    exact mo
  have nd : (fun y => if y = Str.ofString "gone" then some (Value.int 0 t2) else if y = Str.ofString "ahead" then some (.int 0 t1) else if y = Str.ofString "due" then some (.ref D) else if y = Str.ofString "still" then some (.ref S) else m8 y) (Str.ofString "due") = some (.ref D) := by
    show (if Str.ofString "due" = Str.ofString "gone" then _ else (if Str.ofString "due" = Str.ofString "ahead" then _ else (if Str.ofString "due" = Str.ofString "due" then _ else _))) = _
    rw [if_neg (by decide), if_neg (by decide), if_pos rfl]
  have ns1 : (fun y => if y = Str.ofString "gone" then some (Value.int 0 t2) else if y = Str.ofString "ahead" then some (.int 0 t1) else if y = Str.ofString "due" then some (.ref D) else if y = Str.ofString "still" then some (.ref S) else m8 y) (Str.ofString "still") = some (.ref S) := by
    show (if Str.ofString "still" = Str.ofString "gone" then _ else (if Str.ofString "still" = Str.ofString "ahead" then _ else (if Str.ofString "still" = Str.ofString "due" then _ else (if Str.ofString "still" = Str.ofString "still" then _ else _)))) = _
    rw [if_neg (by decide), if_neg (by decide), if_neg (by decide), if_pos rfl]
  have ng : (fun y => if y = Str.ofString "gone" then some (Value.int 0 t2) else if y = Str.ofString "ahead" then some (.int 0 t1) else if y = Str.ofString "due" then some (.ref D) else if y = Str.ofString "still" then some (.ref S) else m8 y) (Str.ofString "gone") = some (.int 0 t2) := by
    show (if Str.ofString "gone" = Str.ofString "gone" then _ else _) = _
    rw [if_pos rfl]
  have na : (fun y => if y = Str.ofString "gone" then some (Value.int 0 t2) else if y = Str.ofString "ahead" then some (.int 0 t1) else if y = Str.ofString "due" then some (.ref D) else if y = Str.ofString "still" then some (.ref S) else m8 y) (Str.ofString "ahead") = some (.int 0 t1) := by
    show (if Str.ofString "ahead" = Str.ofString "gone" then _ else (if Str.ofString "ahead" = Str.ofString "ahead" then _ else _)) = _
    rw [if_neg (by decide), if_pos rfl]
  generalize (fun y => if y = Str.ofString "gone" then some (Value.int 0 t2) else if y = Str.ofString "ahead" then some (.int 0 t1) else if y = Str.ofString "due" then some (.ref D) else if y = Str.ofString "still" then some (.ref S) else m8 y) = m13 at nr nw no nd ns1 ng na ⊢
  intro s13 Q13 E13 F13 N13 G13 hq13
  have N12 := news_sub N13 fun p (hp : p ∈ led12) => List.mem_cons_of_mem _ hp
  have mk : ∀ p ∈ led12, Sq p.2 → p ∈ firmOf x dx led12 := fun p hp q => mem_firm.mpr ⟨hp, (q.ring R12 N12 hp).1, (q.ring R12 N12 hp).2, (q.tabs T12 N12 hp).1, (q.tabs T12 N12 hp).2.1, (q.tabs T12 N12 hp).2.2⟩
  have mc : ∀ {i : Nat} {v}, i ≤ 9 → Cell led12 (L + i) v → Cell (firmOf x dx led12) (L + i) v := fun {i} {v} hi C => C.put fun p hp e => mem_firm.mpr ⟨hp, by rw [e]; exact (hne i hi).1, by rw [e]; exact (hne i hi).2, by rw [e]; exact (h37 i).1, by rw [e]; exact (h37 i).2.1, by rw [e]; exact (h37 i).2.2⟩
  have Fm : Firm x dx D (firmOf x dx led12) := ⟨fun p hp => let ⟨a, b, c, d, e, f⟩ := mem_firm.mp hp; ⟨b, c, Nat.ne_of_lt (l13 p a), d, e, f⟩⟩
  have hxD : D ≠ x ∧ D ≠ dx ∧ D ≠ 37 ∧ D ≠ 84 ∧ D ≠ 91 := by
    obtain ⟨_, a⟩ := R12.rx
    obtain ⟨_, _, _, _, b⟩ := R12.rd
    obtain ⟨_, c, _⟩ := T12.t1
    obtain ⟨_, d, _⟩ := T12.t2
    obtain ⟨_, e, _⟩ := T12.t3
    exact ⟨Nat.ne_of_gt (l13 _ a), Nat.ne_of_gt (l13 _ b), Nat.ne_of_gt (l13 _ c), Nat.ne_of_gt (l13 _ d), Nat.ne_of_gt (l13 _ e)⟩
  have J0 : LoopJ us wd x dx S D (encS ⟨us.toArray⟩) (firmOf x dx led12) 0 m13 ((D, listOf #[] 0) :: led12) := by
    refine ⟨⟨nr, ⟨_, nw⟩, ⟨_, no⟩, nd, ns1, ⟨t2, ?_⟩, ⟨t1, ?_⟩⟩, ⟨vs5, R12.mono fun p hp _ => .tail _ hp, ?_⟩, ⟨[], 0, .head _, .nil⟩, T13, fun p hp => .tail _ (mem_firm.mp hp).1⟩
    · rw [List.take_zero]; exact ng
    · rw [List.take_zero]; exact na
    · rw [List.take_zero, List.drop_zero, List.append_nil]
      exact P12.mono fun p hp => .tail _ hp
  have b3 := mc (by decide) h3
  have b8 := mc (by decide) h8
  have b9 := mc (by decide) h9
  refine seg_r w g L us wd x dx P S D ys cP (encS ⟨us.toArray⟩) t3 (firmOf x dx led12) m13 _ Wd hw (by omega) Fm b3 b8 (mk _ hP12 Sq.list) (hy12.put mk) hxD J0 (fun m14 led14 J14 => ?_) p loose mean mg mb X B T hL s13 Q13 E13 F13 N13 G13 hq13
  obtain ⟨lc, ⟨vsE, RE, PE⟩, ⟨ds, cD, hDE, iDE⟩, TE, kE⟩ := J14
  rw [List.drop_length, List.take_length, List.nil_append] at PE
  rw [due_hits] at iDE
  obtain ⟨tz', hwr⟩ := lc.written
  have hl1 := hits_len (enc us) (enc us.reverse)
  have hl2 := hits_len (enc us) (enc us)
  refine seg_s w g L m14 led14 x dx D Fd vsE ds fs (us.map oneS) (encS ⟨us.toArray⟩) _ cD cF tz' TE lc.ring lc.due hwr (b9.mono kE) hDE (kE _ (mk _ hF12 Sq.list)) iDE iF RE PE hps (by rw [List.length_map]; omega) (join_one us) (fun led15 T15 K15 => ?_) p loose mean mg mb X B T hL
  have k15 : ∀ p ∈ firmOf x dx led12, p ∈ led15 := fun p hp => K15 p (kE p hp) (Fm.off p hp).2.2.2.2.2
  exact seg_t w g L m14 led15 S Fd ss fs _ _ cS cF T15 lc.still (b9.mono k15) (k15 _ (mk _ hS Sq.list)) (k15 _ (mk _ hF12 Sq.list)) iS iF (by rw [List.length_map]; omega) (by rw [List.length_map]; omega) (coset_int _ _) p loose mean mg mb X B T hL
end Mine
end

set_option maxRecDepth 100000 in
set_option maxHeartbeats 8000000 in
theorem PySem.Challenge.cw_xp0011_01_holds : PySem.Challenge.rw_xp0011_01.Holds := by
  exact Mine.holds_of Mine.body
