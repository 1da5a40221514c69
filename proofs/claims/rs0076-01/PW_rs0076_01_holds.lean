import PyProof.Rows.All
import Wide.All
import OpenK.AllK
import Wide.FinOn
import PySem.Challenge.RW_rs0076_01
set_option Elab.async false

section
open PySem PySem.W PyProof.Rows
set_option Elab.async false
set_option maxRecDepth 100000
set_option maxHeartbeats 8000000
namespace Mine
open_top hd for PySem.Challenge.rw_rs0076_01
end Mine
end

section
open PySem PySem.W PyProof.Rows
set_option maxRecDepth 100000
set_option Elab.async false
namespace Mine
theorem freshRsFn : True := by
  w_top off
  exact True.intro

/-! the program's functions, as plain Lean -/
def isSingle (v : Int) : Bool := if v = 0 then false else PySem.Builtin.bitAnd v (v - 1) == 0
def highBit (v : Int) : Int := (PySem.Builtin.Int.intBits v : Int) - 1
/-- two to a power, by the numbers' own power -/
def p2 (n : Int) : Int := ((2 ^ n.toNat : Nat) : Int)
theorem p2_eq (n : Int) : (2 : Int) ^ n.toNat = p2 n := by unfold p2; simp

def lawSize : Nat → Int → List Int → Int
  | 0, _, _ => 0
  | n + 1, flags, fr =>
    if flags = 0 ∨ isSingle flags = true then min 1 flags
    else if 0 < lawSize n (PySem.Builtin.bitXor flags (p2 (highBit flags))) fr ∧
        PySem.Builtin.bitAnd (PySem.Builtin.bitXor flags (p2 (highBit flags))) (fr.getD (highBit flags).toNat 0) = PySem.Builtin.bitXor flags (p2 (highBit flags)) then
      lawSize n (PySem.Builtin.bitXor flags (p2 (highBit flags))) fr + 1
    else -1

theorem size_step : ∀ n : Nat, n < 4 → ∀ f : Nat, f < 2 ^ (n + 1) → f ≠ 0 →
    0 ≤ highBit (f : Int) ∧ highBit (f : Int) < 4 ∧ 0 ≤ PySem.Builtin.bitXor (f : Int) (p2 (highBit f)) ∧ PySem.Builtin.bitXor (f : Int) (p2 (highBit f)) < 2 ^ n := by
  intro n hn f hf h0
  have h16 : f < 16 := Nat.lt_of_lt_of_le hf (by
    have : n + 1 ≤ 4 := hn
    calc 2 ^ (n + 1) ≤ 2 ^ 4 := Nat.pow_le_pow_right (by decide) this
      _ = 16 := by decide)
  have key : ∀ n : Fin 4, ∀ f : Fin 16, f.1 < 2 ^ (n.1 + 1) → f.1 ≠ 0 →
    0 ≤ highBit (f.1 : Int) ∧ highBit (f.1 : Int) < 4 ∧ 0 ≤ PySem.Builtin.bitXor (f.1 : Int) (p2 (highBit f.1)) ∧ PySem.Builtin.bitXor (f.1 : Int) (p2 (highBit f.1)) < ((2 ^ n.1 : Nat) : Int) := by decide +kernel
  have := key ⟨n, hn⟩ ⟨f, h16⟩ hf h0
  simpa using this
end Mine
end

section
open PySem PySem.W PyProof.Rows
set_option maxRecDepth 100000
set_option Elab.async false
namespace Mine
theorem freshRsBase : True := by
  w_top off
  exact True.intro
theorem fillK : PySem.Challenge.rw_rs0076_01 = PySem.Challenge.rw_rs0076_01 ∧ hd.heap_39 = hd.heap_39 := by
  k_fill
  exact ⟨rfl, rfl⟩

section
variable {prog : Program} {w : World} {A : Around} {s : Shared} {K : Frag} {G : Heap} {mg mb : Str → Option Value} {p : Program} {loose : List Str} {mean : ExcName → Option Value} {Q E : Value → Shared → Prop}

/-- a call of a def of the top's without cells: all that stands, stands still while it runs -/
theorem call_pure {name qual : Str} {params : Arguments} {body : List Stmt} {scope : Scope} {dV kV doc pm cdv ct oc : Value} {an od : Option Addr} {osl : Array (Option Value)} {f : Addr} {pos : List Value} {binds : List (Str × Value)}
    (X₀ : K.In G) (T : Top p loose mean mg mb G) (GK : G.StaysIn s.heap)
    (ho : K.lookup f = some ⟨oc, od, .func (fnOf name qual params body scope dV kV doc pm an cdv ct), osl⟩) (hcd : codeIn K cdv qual = true) (hroom : A.depth < recursionLimit)
    (hbind : BindsTo s (fnOf name qual params body scope dV kV doc pm an cdv ct) ⟨pos, []⟩ binds) (hloc : ∀ y ∈ binds, scope.names.lookup y.1 = some .local)
    (h : ∀ L h₁, Fr s.heap L h₁ (fun y => binds.reverse.lookup y) → News s.heap L h₁ [] → K.In s.heap → Top p loose mean mg mb s.heap →
      wpAny (model prog w) (A.deeper (envOf qual scope L f cdv)) (execs body (envOf qual scope L f cdv))
        (fun fl s' => Q (match fl with | .ret v => v | _ => .none) s') (fun _ _ => False)
        { s with heap := h₁, toks := s.toks + binds.length })
    (hco : scope.isCoroutine = false) (hgen : scope.isGenerator = false) (hk : scope.kind = .function)
    (hcell : ∀ x ∈ scope.names, x.2 ≠ .cell) : wpAny (model prog w) A (call (.ref f) pos) Q E s := by
  refine wpAny_call (codeAny_call_def (fd := fnOf name qual params body scope dV kV doc pm an cdv ct) (body := body) (binds := binds) hroom (X₀.keeps GK _ _ ho) rfl (T.nolimit.keeps GK) (codeRec_of (X₀.keeps GK) hcd) rfl hbind hcell hloc (fun h₁ hns hk₁ => ?_) hco hgen hk)
  exact wpAny_mono (h s.heap.objs.size h₁ ⟨hns, hk₁, Nat.le_refl _⟩ News.nil (X₀.keeps GK) (T.keeps GK)) (fun _ _ q => q) fun _ _ q => q.elim
end

theorem news_add {h₀ h h' : Heap} {L d : Addr} {m : Str → Option Value} {o : Obj} {news : List (Addr × Obj)} (F : Fr h₀ L h m) (N : News h₀ L h news) (k : h.StaysIn h') (hd : h'.get? d = some o) (hn : h.get? d = none) : News h₀ L h' ((d, o) :: news) := by
  intro p hp
  rcases List.mem_cons.mp hp with rfl | hp
  · refine ⟨hd, fun e => ?_, ?_⟩
    · obtain ⟨oL, _, _, hL, _⟩ := F.ns
      have e' : d = L := e
      rw [e', hL] at hn; cases hn
    · cases q : h₀.get? d with
      | none => rfl
      | some o' => rw [F.keep _ _ q] at hn; cases hn
  · exact ⟨k _ _ (N p hp).1, (N p hp).2⟩
theorem stays_trans {a b c : Heap} (h1 : a.StaysIn b) (h2 : b.StaysIn c) : a.StaysIn c := fun x o e => h2 x o (h1 x o e)
end Mine
namespace Mine
abbrev Ar (dp un : Nat) (fr : Option (List Env)) (gd : Option (List Code)) : Around := { handled := none, depth := dp, frames := fr, guards := gd, units := un }
end Mine
end

section
open PySem PySem.W PyProof.Rows
set_option maxRecDepth 100000
set_option maxHeartbeats 8000000
set_option Elab.async false
namespace Mine
theorem freshRsA : True := by
  w_top off
  exact True.intro
local macro_rules | `(tactic| k_enter) => `(tactic| (refine' call_pure ?k1 ?k2 ?k3 ?k6 ?k7 ?k8 ?k9 ?kB ?_ ?c2 ?c3 ?c4 ?c5; (case k1 => assumption); (case k2 => assumption); (case k3 => assumption); (case k6 => k_is); (case k7 => k_is); (case k8 => assumption); (case k9 => exact BindsTo.of_eq rfl); (case kB => exact locs rfl); (case c2 => rfl); (case c3 => rfl); (case c4 => rfl); (case c5 => decide)))
section
variable {prog : Program} {w : World} {G : Heap} {mg mb : Str → Option Value} {p : Program} {loose : List Str} {mean : ExcName → Option Value}
theorem single_spec (X : (hd.heap_39 w.params).In G) (T : Top p loose mean mg mb G) {A : Around} {s : Shared} {Q E : Value → Shared → Prop} {v : Int} {t : Tok} (GK : G.StaysIn s.heap) (hr : A.depth < recursionLimit)
    (hQ : ∀ h' tk, s.heap.StaysIn h' → Q (.bool (isSingle v)) { s with heap := h', toks := tk }) :
    wpAny (model prog w) A (call (.ref 63) [.int v t]) Q E s := by
  k_enter
  intro L h₁ F N X' T'
  k_steps
  · rename_i h0
    have e : isSingle v = false := by unfold isSingle; rw [if_pos h0]
    rw [e] at hQ
    exact hQ _ _ F.keep
  · rename v ≠ 0 => h0; rename Fr _ _ _ _ => F'
    have e : isSingle v = (Builtin.bitAnd v (v - 1) == 0) := by unfold isSingle; rw [if_neg h0]
    rw [e] at hQ
    exact hQ _ _ F'.keep
theorem high_spec (X : (hd.heap_39 w.params).In G) (T : Top p loose mean mg mb G) {A : Around} {s : Shared} {Q E : Value → Shared → Prop} {v : Int} {t : Tok} (GK : G.StaysIn s.heap) (hr : A.depth < recursionLimit)
    (hQ : ∀ t' h' tk, s.heap.StaysIn h' → Q (.int (highBit v) t') { s with heap := h', toks := tk }) :
    wpAny (model prog w) A (call (.ref 70) [.int v t]) Q E s := by
  k_enter
  intro L h₁ F N X' T'
  k_steps
  exact hQ _ _ _ F.keep
abbrev tupObj (vs : Array Value) : Obj := { cls := .type "tuple", data := .seq vs }
theorem div2_spec (X : (hd.heap_39 w.params).In G) (T : Top p loose mean mg mb G) {A : Around} {s : Shared} {Q E : Value → Shared → Prop} {a b n : Int} {t t2 t3: Tok} (GK : G.StaysIn s.heap) (hr : A.depth < recursionLimit)
    (hb : 0 < b) (hb2 : b.natAbs.log2 < 9000) (hn : ↑(Builtin.Int.intBits a) - n ≤ 4000)
    (hQ : ∀ d t t' h' tk, s.heap.StaysIn h' → s.heap.get? d = none → h'.get? d = some (tupObj #[.int (a.fdiv b) t, .int (a.fmod b) t']) → Q (.ref d) { s with heap := h', toks := tk }) :
    wpAny (model prog w) A (call (.ref 21) [.int a t, .int b t2, .int n t3]) Q E s := by
  k_enter
  intro L h₁ F N X' T'
  k_steps
  refine divmod_N F N (by omega) ?_ (Or.inl (PyProof.noPylong_of_log2 hb2))
  intro h' F' N'
  have n1 := N' _ (List.Mem.head _)
  exact hQ _ _ _ _ _ F'.keep n1.2.2 n1.1
end
end Mine
end

section
open PySem PySem.W PyProof.Rows
set_option maxRecDepth 100000
set_option maxHeartbeats 8000000
set_option Elab.async false
namespace Mine
theorem freshRsSize : True := by
  w_top off
  exact True.intro
local macro_rules | `(tactic| k_enter) => `(tactic| (refine' call_pure ?k1 ?k2 ?k3 ?k6 ?k7 ?k8 ?k9 ?kB ?_ ?c2 ?c3 ?c4 ?c5; (case k1 => assumption); (case k2 => assumption); (case k3 => assumption); (case k6 => k_is); (case k7 => k_is); (case k8 => (simp only [depth_deeper]; omega)); (case k9 => exact BindsTo.of_eq rfl); (case kB => exact locs rfl); (case c2 => rfl); (case c3 => rfl); (case c4 => rfl); (case c5 => decide)))
section
variable {prog : Program} {w : World} {G : Heap} {mg mb : Str → Option Value} {p : Program} {loose : List Str} {mean : ExcName → Option Value}
theorem size_spec (X : (hd.heap_39 w.params).In G) (T : Top p loose mean mg mb G) {l : Addr} {vs : List Value} {fr : List Int} (hI : IntsAre vs fr) (hlen : fr.length = 4) : ∀ (n : Nat), n ≤ 4 → ∀ {dp un : Nat} {fs : Option (List Env)} {gd : Option (List Code)} {s : Shared} {Q E : Value → Shared → Prop} {flags : Int} {t : Tok} (GK : G.StaysIn s.heap) (hl : s.heap.IsList l vs.toArray) (hr : dp + n + 1 < recursionLimit) (hu : un + 8 * (n + 2) < cLine)
    (h0 : 0 ≤ flags) (h1 : flags < 2 ^ n)
    (hQ : ∀ t' h' tk, s.heap.StaysIn h' → Q (.int (lawSize n flags fr) t') { s with heap := h', toks := tk }),
    wpAny (model prog w) (Ar dp un fs gd) (call (.ref 77) [.int flags t, .ref l]) Q E s := by
  intro n
  induction n with
  | zero =>
    intro hn dp un fs gd s Q E flags t GK hl hr hu h0 h1 hQ
    have e0 : flags = 0 := by omega
    subst e0
    k_enter
    intro L h₁ F N X' T'
    k_steps
    rename Fr _ _ _ _ => F'
    exact hQ _ _ _ F'.keep
  | succ n ih =>
    intro hn dp un fs gd s Q E flags t GK hl hr hu h0 h1 hQ
    k_enter
    intro L h₁ F N X' T'
    k_steps
    · rename Fr _ _ _ _ => F'
      rename flags = 0 => h0'
      have e : lawSize (n + 1) flags fr = (if flags < 1 then flags else 1) := by
        unfold lawSize; rw [if_pos (Or.inl h0')]; omega
      rw [e] at hQ
      exact hQ _ _ _ F'.keep
    · rename flags ≠ 0 => h0'
      refine single_spec X' T' F.keep (by simp only [depth_deeper]; omega) ?_
      intro h2 tk2 k2
      have F2 := F.keeps k2
      have N2 := N.grown k2
      clear F N k2
      by_cases hs : isSingle flags = true
      · simp only [hs]
        k_steps
        rename Fr _ _ _ _ => F'
        have e : lawSize (n + 1) flags fr = (if flags < 1 then flags else 1) := by
          unfold lawSize; rw [if_pos (Or.inr hs)]; omega
        rw [e] at hQ
        exact hQ _ _ _ F'.keep
      · have hs' : isSingle flags = false := by simpa using hs
        obtain ⟨f, rfl⟩ : ∃ f : Nat, flags = f := ⟨flags.toNat, by omega⟩
        obtain ⟨q1, q2, q3, q4⟩ := size_step n (by omega) f (by exact_mod_cast h1) (by omega)
        have e : lawSize (n + 1) f fr = (if 0 < lawSize n (PySem.Builtin.bitXor f (p2 (highBit f))) fr ∧
            PySem.Builtin.bitAnd (PySem.Builtin.bitXor f (p2 (highBit f))) (fr.getD (highBit f).toNat 0) = PySem.Builtin.bitXor f (p2 (highBit f)) then
            lawSize n (PySem.Builtin.bitXor f (p2 (highBit f))) fr + 1 else -1) := by
          rw [lawSize, if_neg (by simp [hs']; omega)]
        rw [e] at hQ
        clear e hs
        simp only [hs']
        k_steps
        refine high_spec X' T' F2.keep (by simp only [depth_deeper]; omega) ?_
        intro t3 h3 tk3 k3
        have F3 := F2.keeps k3
        have N3 := N2.grown k3
        clear F2 N2 k3
        generalize highBit f = top at *
        k_steps
        rename Fr _ _ _ _ => F4
        rename News _ _ _ _ => N4
        rw [p2_eq]
        refine ih (by omega) (stays_trans GK F4.keep) (F4.lst hl) (by simp only [depth_deeper]; omega) (by simp only [units_deeper]; omega) q3 q4 ?_
        intro t5 h5 tk5 k5
        have F5 := F4.keeps k5
        have N5 := N4.grown k5
        clear F4 N4 k5 ih
        simp only [p2_eq] at *
        generalize Builtin.bitXor (↑f) (p2 top) = others at *
        generalize lawSize n others fr = size at *
        k_steps
        · rename Fr _ _ _ _ => F6
          rw [if_pos ⟨by assumption, by assumption⟩] at hQ
          exact hQ _ _ _ F6.keep
        · rename Fr _ _ _ _ => F6
          rename Builtin.bitAnd _ _ ≠ _ => hne
          rw [if_neg (fun h => hne h.2)] at hQ
          exact hQ _ _ _ F6.keep
        · rename Fr _ _ _ _ => F6
          rename ¬ 0 < size => hne
          rw [if_neg (fun h => hne h.1)] at hQ
          exact hQ _ _ _ F6.keep
end
end Mine
end

section
open PySem PySem.W PyProof.Rows
set_option maxRecDepth 100000
set_option Elab.async false
namespace Mine
theorem freshRsLoop : True := by
  w_top off
  exact True.intro
section
variable {prog : Program} {w : World} {A : Around} {s : Shared} {env : Env}
def WStep (s : Shared) (P : (Str → Option Value) → Heap → Prop) (R : Result → Shared → Prop) (f : Flow) (s₃ : Shared) : Prop := match f with
  | .next | .cont => ∃ h'' tk' m'', s₃ = { s with heap := h'', toks := tk' } ∧ P m'' h''
  | .brk => R (.ok .next) s₃
  | .ret v => R (.ok (.ret v)) s₃
/-- a for over anything that walks, an invariant over the frame's map and the heap -/
theorem for_walk {R : Result → Shared → Prop} {x : Str} {px : Pos} {body : List Stmt} {I : Addr} {fp wr : List Addr} {n : Nat} {P : Nat → Value → Prop} {St : Nat → Heap → Prop} {m : Str → Option Value}
    (W : Walks prog w A I fp wr n P St) (hx : env.kindOf x = some .local)
    (hp : (env.scope.kind == .class || (env.scope.kind == .module && env.locals != env.globals)) = false) (hLf : env.locals ∉ fp)
    (J : Nat → (Str → Option Value) → Heap → Prop) (hns : ∀ i m h, J i m h → h.Ns env.locals m)
    (hJ : ∀ i m h h', J i m h → (∀ b o, b ∉ wr → h.get? b = some o → h'.get? b = some o) → J i m h')
    (h0 : J 0 m s.heap) (hst : St 0 s.heap)
    (turn : ∀ i v m h h' tk, i < n → P i v → J i m h → h'.Ns env.locals (fun y => if y = x then some v else m y) → Heap.SameBut env.locals h h' → St (i + 1) h' →
      wpAny (model prog w) A (execs body env) (WStep s (fun m'' h'' => St (i + 1) h'' ∧ J (i + 1) m'' h'') R) (fun _ _ => False) { s with heap := h', toks := tk })
    (done : ∀ m h tk, J n m h → R (.ok .next) { s with heap := h, toks := tk }) :
    codeAny (model prog w) A (.forLoop (.Name x px) (.ref I) body [] env) R s := by
  have hLw : env.locals ∉ wr := fun h => hLf (W.sub _ h)
  refine codeAny_forLoop (fun k s' => ∃ h' tk m' i, s' = { s with heap := h', toks := tk } ∧ St i h' ∧ J i m' h' ∧ i ≤ n ∧ k = n + 1 - i) ?_ (n + 1)
    ⟨s.heap, s.toks, m, 0, rfl, hst, h0, Nat.zero_le _, rfl⟩
  rintro k s' ⟨h', tk, m', i, rfl, hst', hJi, hi, rfl⟩
  by_cases hlt : i < n
  · refine W.item i _ _ _ hlt hst' fun v h₁ tk₁ hP hst₁ hk₁ => ?_
    have hJ₁ := hJ _ _ _ _ hJi hk₁
    refine wpAny_assign_Name (wpAny_storeName_local hx (hns _ _ _ hJ₁) (fun h₂ hn₂ hs₂ => ?_) hp)
    have hst₂ : St (i + 1) h₂ := W.frame _ _ _ hst₁ fun b hb o e => (hs₂.2 b fun q => hLf (q ▸ hb)).trans e
    refine wpAny_mono (turn i v m' h₁ h₂ _ hlt hP hJ₁ hn₂ hs₂ hst₂) (fun f s₃ h₃ => ?_) fun _ _ e => e.elim
    cases f with
    | next => obtain ⟨h'', tk', m'', rfl, a, b⟩ := h₃; exact ⟨n + 1 - (i + 1), by omega, h'', tk', m'', i + 1, rfl, a, b, hlt, rfl⟩
    | cont => obtain ⟨h'', tk', m'', rfl, a, b⟩ := h₃; exact ⟨n + 1 - (i + 1), by omega, h'', tk', m'', i + 1, rfl, a, b, hlt, rfl⟩
    | brk => exact h₃
    | ret v => exact h₃
  · have hin : i = n := by omega
    subst hin
    refine W.done _ _ _ hst' fun h₁ tk₁ hk₁ => wpAny_execs_nil ?_
    exact done m' h₁ tk₁ (hJ _ _ _ _ hJi hk₁)
end
end Mine
namespace Mine
theorem fr_frame {h₀ h h' : Heap} {L : Addr} {m : Str → Option Value} {wr : List Addr} (F : Fr h₀ L h m) (k : ∀ b o, b ∉ wr → h.get? b = some o → h'.get? b = some o) (hL : L ∉ wr) (hw : ∀ b ∈ wr, h₀.get? b = none) : Fr h₀ L h' m :=
  ⟨F.ns.at' fun o e => k _ o hL e, fun b o e => k b o (fun hb => by rw [hw b hb] at e; cases e) (F.keep b o e), F.above⟩
theorem news_frame {h₀ h h' : Heap} {L : Addr} {news : List (Addr × Obj)} {wr : List Addr} (N : News h₀ L h news) (k : ∀ b o, b ∉ wr → h.get? b = some o → h'.get? b = some o) (hn : ∀ p ∈ news, p.1 ∉ wr) : News h₀ L h' news :=
  fun p hp => ⟨k _ _ (hn p hp) (N p hp).1, (N p hp).2⟩
/-- the object of a list's iterator -/
abbrev iterObj (ax : Addr) (i : Nat) : Obj := { cls := .type "list_iterator", data := .fields #[.ref ax, .int i 0] }

section
variable {prog : Program} {w : World} {A : Around} {s : Shared} {env : Env} {h₀ : Heap}
def LStep (s : Shared) (ax : Addr) (items : Array Value) (h₀ : Heap) (L I : Addr) (oI : Obj) (Jn : (Str → Option Value) → List (Addr × Obj) → Prop) (R : Result → Shared → Prop) (f : Flow) (s₃ : Shared) : Prop := match f with
  | .next | .cont => ∃ h'' tk' m'' news'', s₃ = { s with heap := h'', toks := tk' } ∧ h''.IsList ax items ∧ Fr h₀ L h'' m'' ∧ News h₀ L h'' ((I, oI) :: news'') ∧ (∀ p ∈ news'', p.1 ≠ I) ∧ Jn m'' news''
  | .brk => R (.ok .next) s₃
  | .ret v => R (.ok (.ret v)) s₃
/-- a for over a list that stands still: the invariant over the frame's map and the ledger -/
theorem for_listF {R : Result → Shared → Prop} {E : Value → Shared → Prop} {x : Str} {px : Pos} {body : List Stmt} {ax : Addr} {items : Array Value} {m₀ : Str → Option Value} {news₀ : List (Addr × Obj)}
    (hh : A.handled = none) (hx : env.kindOf x = some .local)
    (hp : (env.scope.kind == .class || (env.scope.kind == .module && env.locals != env.globals)) = false)
    (hl : s.heap.IsList ax items) (hal : ax ≠ env.locals) (F : Fr h₀ env.locals s.heap m₀) (N : News h₀ env.locals s.heap news₀)
    (J : Nat → (Str → Option Value) → List (Addr × Obj) → Prop) (h0 : J 0 m₀ news₀)
    (turn : ∀ i v m news h tk I oI, items[i]? = some v → J i m news → h.IsList ax items → s.heap.get? I = none → I ≠ ax → (∀ p ∈ news, p.1 ≠ I) →
      Fr h₀ env.locals h (fun y => if y = x then some v else m y) → News h₀ env.locals h ((I, oI) :: news) →
      wpAny (model prog w) A (execs body env) (LStep s ax items h₀ env.locals I oI (J (i + 1)) R) (fun _ _ => False) { s with heap := h, toks := tk })
    (done : ∀ m news h tk, J items.size m news → h.IsList ax items → Fr h₀ env.locals h m → News h₀ env.locals h news → R (.ok .next) { s with heap := h, toks := tk }) :
    wpAny (model prog w) A (pyIter (.ref ax)) (fun it s₂ => codeAny (model prog w) A (.forLoop (.Name x px) it body [] env) R s₂) E s := by
  refine wpAny_pyIter_list hl ?_
  obtain ⟨ol, hol, hol'⟩ := id hl
  have hax : ax < s.heap.objs.size := Heap.lt_size hol
  have hIf : s.heap.get? s.heap.objs.size = none := Heap.get?_none_of_le (Nat.le_refl _)
  have hne : ax ≠ s.heap.objs.size := Nat.ne_of_lt hax
  have hLI : env.locals ≠ s.heap.objs.size := Nat.ne_of_lt F.ns.lt
  have hI0 : h₀.get? s.heap.objs.size = none := by
    cases q : h₀.get? s.heap.objs.size with
    | none => rfl
    | some o' => rw [F.keep _ _ q] at hIf; cases hIf
  refine for_walk (Walks.list (prog := prog) (w := w) hh s.heap.objs.size ax hne items) hx hp (by simp [hLI, Ne.symm hal])
    (fun i m h => ∃ news, J i m news ∧ Fr h₀ env.locals h m ∧ News h₀ env.locals h news ∧ (∀ p ∈ news, p.1 ≠ s.heap.objs.size) ∧ h.IsList ax items)
    (fun i m h ⟨_, _, F', _⟩ => F'.ns) ?_ ⟨news₀, h0, F.push _, (fun p hp => ⟨Heap.get?_push_of_some _ (N p hp).1, (N p hp).2⟩), (fun p hp => Nat.ne_of_lt (Heap.lt_size (N p hp).1)), hl.at fun o e => Heap.get?_push_of_some _ e⟩
    ⟨⟨_, Heap.get?_push_size _ rfl, rfl, rfl⟩, hl.at fun o e => Heap.get?_push_of_some _ e⟩ ?_ ?_
  · rintro i m h h' ⟨news, hJ, F', N', hn', hl'⟩ k
    exact ⟨news, hJ, fr_frame F' k (by simp [hLI]) (by simp [hI0]), news_frame N' k (fun p hp => by simpa using hn' p hp), hn', hl'.at fun o e => k _ _ (by simp [hne]) e⟩
  · rintro i v m h h' tk hi hv ⟨news, hJ, F', N', hn', hl'⟩ hns hs hst
    obtain ⟨⟨oI, hoI, hoI'⟩, hl2⟩ := hst
    refine wpAny_mono (turn i v m news h' tk s.heap.objs.size oI hv hJ hl2 hIf (Ne.symm hne) hn' (F'.set hns hs) ?_) (fun f s₃ h₃ => ?_) fun _ _ e => e
    · intro p hp
      rcases List.mem_cons.mp hp with rfl | hp
      · exact ⟨hoI, Ne.symm hLI, hI0⟩
      · exact (N'.set hs) p hp
    · cases f with
      | next =>
        obtain ⟨h'', tk', m'', news'', rfl, a, b, c, d, e⟩ := h₃
        have hI := (c _ (List.Mem.head _)).1
        exact ⟨h'', tk', m'', rfl, ⟨⟨oI, hI, hoI'⟩, a⟩, news'', e, b, (fun p hp => c p (List.mem_cons_of_mem _ hp)), d, a⟩
      | cont =>
        obtain ⟨h'', tk', m'', news'', rfl, a, b, c, d, e⟩ := h₃
        have hI := (c _ (List.Mem.head _)).1
        exact ⟨h'', tk', m'', rfl, ⟨⟨oI, hI, hoI'⟩, a⟩, news'', e, b, (fun p hp => c p (List.mem_cons_of_mem _ hp)), d, a⟩
      | brk => exact h₃
      | ret v => exact h₃
  · rintro m h tk ⟨news, hJ, F', N', hn', hl'⟩
    exact done m news h tk hJ hl' F' N'
end
end Mine
end

section
open PySem PySem.W PyProof.Rows
set_option maxRecDepth 100000
set_option maxHeartbeats 8000000
set_option Elab.async false
set_option linter.unusedVariables false
set_option linter.unusedSimpArgs false
namespace Mine
theorem freshRsFirst : True := by
  w_top off
  exact True.intro
local macro_rules | `(tactic| k_enter) => `(tactic| (refine' call_pure ?k1 ?k2 ?k3 ?k6 ?k7 ?k8 ?k9 ?kB ?_ ?c2 ?c3 ?c4 ?c5; (case k1 => assumption); (case k2 => assumption); (case k3 => assumption); (case k6 => k_is); (case k7 => k_is); (case k8 => (simp only [depth_deeper]; omega)); (case k9 => exact BindsTo.of_eq rfl); (case kB => exact locs rfl); (case c2 => rfl); (case c3 => rfl); (case c4 => rfl); (case c5 => decide)))
def lawFirst (fr : List Int) (letter : Int) : List Int → Bool
  | [] => true
  | o :: r => if ((fr.getD letter.toNat 0).fdiv (p2 o)).fmod 2 = 0 then true else if letter < o then false else lawFirst fr letter r
section
variable {prog : Program} {w : World} {G : Heap} {mg mb : Str → Option Value} {p : Program} {loose : List Str} {mean : ExcName → Option Value}
theorem first_spec (X : (hd.heap_39 w.params).In G) (T : Top p loose mean mg mb G) {l lt : Addr} {vs ws : List Value} {fr text : List Int} (hI : IntsAre vs fr) (hlen : fr.length = 4) (hJ : IntsAre ws text) (htl : text.length ≤ 8) (hte : ∀ x ∈ text, 0 ≤ x ∧ x < 4)
    {dp un : Nat} {fs : Option (List Env)} {gd : Option (List Code)} {s : Shared} {Q E : Value → Shared → Prop} {letter : Int} {t : Tok} (GK : G.StaysIn s.heap) (hl : s.heap.IsList l vs.toArray) (hlt : s.heap.IsList lt ws.toArray) (hr : dp + 1 < recursionLimit) (hu : un + 16 < cLine)
    (h0 : 0 ≤ letter) (h1 : letter < 4)
    (hQ : ∀ h' tk, s.heap.StaysIn h' → Q (.bool (lawFirst fr letter text.reverse)) { s with heap := h', toks := tk }) :
    wpAny (model prog w) (Ar dp un fs gd) (call (.ref 84) [.ref lt, .int letter t, .ref l]) Q E s := by
  refine' call_pure (binds := [(PySem.Str.ofString "text", .ref lt), (PySem.Str.ofString "letter", .int letter t), (PySem.Str.ofString "friends", .ref l)]) X T GK ?k6 ?k7 (by simp only [depth_deeper]; omega) ?k9 ?kB ?_ ?c2 ?c3 ?c4 ?c5
  case k6 => k_is
  case k7 => k_is
  case k9 => exact BindsTo.of_eq rfl
  case kB => exact locs rfl
  case c2 => rfl
  case c3 => rfl
  case c4 => rfl
  case c5 => decide
  intro L h₁ F N X' T'
  walk1
  walk1
  refine wpAny_For ?_
  k_steps
  rename Fr _ _ _ _ => F2
  rename News _ _ _ _ => N2
  rename IntsAre _ text.reverse => hR
  try clear F N
  refine for_listF rfl rfl rfl (News.isList N2 (List.Mem.head _)) (N2 _ (List.Mem.head _)).2.1 F2 N2
    (fun i m news => (∀ y, y ≠ PySem.Str.ofString "other" → m y = List.lookup y [(PySem.Str.ofString "text", Value.ref lt), (PySem.Str.ofString "letter", Value.int letter t), (PySem.Str.ofString "friends", Value.ref l)].reverse) ∧ lawFirst fr letter (text.reverse.drop i) = lawFirst fr letter text.reverse) ⟨fun _ _ => rfl, rfl⟩ ?_ ?_
  · intro i v m news h tk I oI hv hJ hL hI hIax hnI F3 N3
    obtain ⟨hm, hf⟩ := hJ
    obtain ⟨o, to, rfl, ho⟩ := IntsAre.at hR i v (by simpa using hv)
    have F4 : Fr s.heap L h (fun y => if y = PySem.Str.ofString "other" then some (Value.int o to) else List.lookup y [(PySem.Str.ofString "text", Value.ref lt), (PySem.Str.ofString "letter", Value.int letter t), (PySem.Str.ofString "friends", Value.ref l)].reverse) := by
      have e : (fun y => if y = PySem.Str.ofString "other" then some (Value.int o to) else m y) = (fun y => if y = PySem.Str.ofString "other" then some (Value.int o to) else List.lookup y [(PySem.Str.ofString "text", Value.ref lt), (PySem.Str.ofString "letter", Value.int letter t), (PySem.Str.ofString "friends", Value.ref l)].reverse) := by
        funext y
        by_cases hy : y = PySem.Str.ofString "other"
        · rw [if_pos hy, if_pos hy]
        · rw [if_neg hy, if_neg hy, hm y hy]
      rw [e] at F3; exact F3
    have N4 : News s.heap L h ((I, oI) :: news) := N3
    clear F3 N3 F2 N2
    obtain ⟨ho0, ho4⟩ : 0 ≤ o ∧ o < 4 := hte o (by
      have := List.mem_of_getElem? ho
      simpa using this)
    have hdrop : text.reverse.drop i = o :: text.reverse.drop (i + 1) := by
      obtain ⟨hi', e'⟩ := List.getElem?_eq_some_iff.mp ho
      rw [List.drop_eq_getElem_cons hi', e']
    rw [hdrop, lawFirst] at hf
    dsimp only
    k_steps
    · rename ((fr.getD letter.toNat 0).fdiv (2 ^ o.toNat)).fmod 2 = 0 => hc
      rw [if_pos (by rw [← p2_eq]; exact hc)] at hf
      rw [← hf] at hQ
      exact hQ _ _ F4.keep
    · rename ((fr.getD letter.toNat 0).fdiv (2 ^ o.toNat)).fmod 2 ≠ 0 => hc
      rename letter < o => hc2
      rw [if_neg (by rw [← p2_eq]; exact hc), if_pos hc2] at hf
      rw [← hf] at hQ
      exact hQ _ _ F4.keep
    · rename ((fr.getD letter.toNat 0).fdiv (2 ^ o.toNat)).fmod 2 ≠ 0 => hc
      rename ¬ letter < o => hc2
      rw [if_neg (by rw [← p2_eq]; exact hc), if_neg hc2] at hf
      exact ⟨_, _, _, news, rfl, hL, F4, N4, hnI, fun y hy => if_neg hy, hf⟩
  · intro m news h tk hJ hL F3 N3
    dsimp only
    have F4 : Fr s.heap L h m := F3
    have N4 : News s.heap L h news := N3
    clear F3 N3 F2 N2
    k_steps
    have e : lawFirst fr letter text.reverse = true := by
      rw [← hJ.2, List.drop_of_length_le (by simp [hR.length]), lawFirst]
    rw [e] at hQ
    exact hQ _ _ F4.keep
end
end Mine
end

section
open PySem PySem.W PyProof.Rows
set_option maxRecDepth 100000
set_option Elab.async false
namespace Mine
theorem freshRsCell : True := by
  w_top off
  exact True.intro
section
variable {prog : Program} {w : World} {A : Around} {s : Shared} {K : Frag} {G : Heap} {mg mb : Str → Option Value} {p : Program} {loose : List Str} {mean : ExcName → Option Value} {Q E : Value → Shared → Prop}

/-- a call of a def of the top's with cells -/
theorem call_pureC {name qual : Str} {params : Arguments} {body : List Stmt} {scope : Scope} {dV kV doc pm cdv ct oc : Value} {an od : Option Addr} {osl : Array (Option Value)} {f : Addr} {pos : List Value} {binds : List (Str × Value)}
    (X₀ : K.In G) (T : Top p loose mean mg mb G) (GK : G.StaysIn s.heap)
    (ho : K.lookup f = some ⟨oc, od, .func (fnOf name qual params body scope dV kV doc pm an cdv ct), osl⟩) (hcd : codeIn K cdv qual = true) (hroom : A.depth < recursionLimit)
    (hbind : BindsTo s (fnOf name qual params body scope dV kV doc pm an cdv ct) ⟨pos, []⟩ binds)
    (hkind : (binds.all fun y => scope.names.lookup y.1 == some .local || scope.names.lookup y.1 == some .cell) = true)
    (hnd : ((cellsFrom 0 scope.names []).map (·.1)).Nodup)
    (h : ∀ L h₁ tk cells, Fr s.heap L h₁ (bindL (envOfC qual scope L f cdv).kindOf binds fun _ => none) → News s.heap L h₁ cells →
      CellsAre (bindC (envOfC qual scope L f cdv).kindOf binds fun _ => none) (cellsFrom (L + 1) scope.names []) cells → K.In s.heap → Top p loose mean mg mb s.heap →
      wpAny (model prog w) (A.deeper (envOfC qual scope L f cdv)) (execs body (envOfC qual scope L f cdv))
        (fun fl s' => Q (match fl with | .ret v => v | _ => .none) s') (fun _ _ => False)
        { s with heap := h₁, toks := tk })
    (hco : scope.isCoroutine = false) (hgen : scope.isGenerator = false) (hk : scope.kind = .function) : wpAny (model prog w) A (call (.ref f) pos) Q E s := by
  refine wpAny_call (codeAny_call_function hroom (X₀.keeps GK _ _ ho) rfl hco hgen rfl (codeRec_of (X₀.keeps GK) hcd) (hbind _ _ _ _ ?_))
  refine wpAny_newFunctionEnv_cells hk (kindsX hkind _) fun env' he s' x => ?_
  subst he
  refine ⟨(T.nolimit.keeps GK).keeps x.toInCall.keep, codeAny_func ?_⟩
  obtain ⟨h₁, tk, rfl, _⟩ := x.done
  have hk₁ := x.toInCall.keep
  obtain ⟨cells, NC, Y⟩ := Cl.news (h₀ := s.heap) (Nat.le_refl _) fun n c hm => ⟨x.cell n c (lookup_of_mem_nodup (cellsFrom_names scope.names 0 (s.heap.objs.size + 1) [] [] rfl ▸ hnd) hm), x.above n c hm⟩
  exact wpAny_mono (h s.heap.objs.size h₁ tk cells ⟨x.toInCall.ns, hk₁, Nat.le_refl _⟩ NC Y (X₀.keeps GK) (T.keeps GK)) (fun _ _ q => q) fun _ _ q => q.elim
end
end Mine
end

section
open PySem PySem.W PyProof.Rows
set_option maxRecDepth 100000
set_option Elab.async false
set_option linter.unusedVariables false
namespace Mine
theorem freshRsComp2 : True := by
  w_top off
  exact True.intro
section
variable {prog : Program} {w : World} {A : Around} {s : Shared} {env : Env} {R : Result → Shared → Prop}
  {elt iter0 iter1 c : Expr} {x y : Str} {px py : Pos} {scope : Scope} {pos : Pos} {it acc : Value}
abbrev comp2 (elt iter0 iter1 c : Expr) (x y : Str) (px py : Pos) (scope : Scope) (pos : Pos) : Expr := .ListComp elt [⟨.Name x px, iter0, [], 0⟩, ⟨.Name y py, iter1, [c], 0⟩] scope pos

theorem compTurn2_outer : compTurn (comp2 elt iter0 iter1 c x y px py scope pos) 0 it acc env = (do
      standAt iter0.pos
      match ← pyNext it with
      | none => pure (.done .next)
      | some v =>
        letOwnedTupleGo (.Name x px) it v
        assign (.Name x px) env v
        let xv ← eval iter1 env
        standAt iter1.pos
        let xv ← foldedSetIterable iter1 env xv
        let _ ← runOwn (.compStart (comp2 elt iter0 iter1 c x y px py scope pos) 1 (← holding [xv] (pyIter xv)) acc env) env
        again (.compLoop (comp2 elt iter0 iter1 c x y px py scope pos) 0 it acc env)) := by rfl
theorem compTurn2_inner : compTurn (comp2 elt iter0 iter1 c x y px py scope pos) 1 it acc env = (do
      standAt iter1.pos
      match ← pyNext it with
      | none => pure (.done .next)
      | some v =>
        letOwnedTupleGo (.Name y py) it v
        assign (.Name y py) env v
        let mut ok := true
        for c in [c] do
          if ok then ok ← isTrue c env (eval c env)
        if ok then
          (do let _ ← call (.builtin "list.append") [acc, ← eval elt env])
        again (.compLoop (comp2 elt iter0 iter1 c x y px py scope pos) 1 it acc env)) := by rfl

abbrev NoE : Value → Shared → Prop := fun _ _ => False
theorem noted_never {M : Model} {E : Value → Shared → Prop} {e : Value} {s' : Shared} (h : NoE e s') : notedBy M A env E e s' := h.elim

theorem comp2_outer (I : Nat → Shared → Prop)
    (hs : ∀ x, foldedSetIterable iter1 env x = pure x)
    (turn : ∀ n s, I n s → wpAny (model prog w) A (pyNext it) (fun r s₁ => match r with
      | none => R (.ok .next) s₁
      | some v => wpAny (model prog w) A (assign (.Name x px) env v) (fun _ s₂ => wpAny (model prog w) A (eval iter1 env) (fun xv s₃ => wpAny (model prog w) A (pyIter xv) (fun it1 s₄ =>
          codeAny (model prog w) A (.compStart (comp2 elt iter0 iter1 c x y px py scope pos) 1 it1 acc env) (fun r s₅ => match r with | .ok _ => ∃ m, m < n ∧ I m s₅ | .error _ => False) s₄) NoE s₃) NoE s₂) NoE s₁) NoE s)
    (n : Nat) (h : I n s) : codeAny (model prog w) A (.compLoop (comp2 elt iter0 iter1 c x y px py scope pos) 0 it acc env) R s := by
  refine codeAny_loop rfl I (fun n s hI => ?_) n h
  show wpAny _ A ((compTurn (comp2 elt iter0 iter1 c x y px py scope pos) 0 it acc env).onRaise (fun x => do noteFrame x env; theTreesLotGoes x)) _ _ s
  refine wpAny_noted ?_
  rw [compTurn2_outer]
  refine wpAny_bind (wpAny_standAt (wpAny_bind (wpAny_mono (turn n s hI) (fun r s₁ h₁ => ?_) fun _ _ h' => h'.elim)))
  cases r with
  | none => exact wpAny_pure h₁
  | some v =>
    refine wpAny_bind (wpAny_of_eq (a := ()) rfl ?_)
    refine wpAny_bind (wpAny_mono h₁ (fun _ s₂ h₂ => ?_) fun _ _ h' => h'.elim)
    refine wpAny_bind (wpAny_mono h₂ (fun xv s₃ h₃ => ?_) fun _ _ h' => h'.elim)
    refine wpAny_bind (wpAny_standAt (wpAny_bind (wpAny_of_eq (hs xv) ?_)))
    refine wpAny_bind (wpAny_holding (wpAny_mono h₃ (fun it1 s₄ h₄ => ?_) fun _ _ h' => h'.elim))
    refine wpAny_bind (wpAny_runOwn (codeAny_mono h₄ fun r s₅ h₅ => ?_))
    cases r with
    | ok f => exact wpAny_pure ⟨rfl, h₅⟩
    | error e => exact h₅.elim

theorem comp2_inner (I : Nat → Shared → Prop)
    (turn : ∀ n s, I n s → wpAny (model prog w) A (pyNext it) (fun r s₁ => match r with
      | none => R (.ok .next) s₁
      | some v => wpAny (model prog w) A (assign (.Name y py) env v) (fun _ s₂ => wpAny (model prog w) A (isTrue c env (eval c env)) (fun ok s₃ =>
          if ok = true then wpAny (model prog w) A (eval elt env) (fun z s₄ => wpAny (model prog w) A (call (.builtin "list.append") [acc, z]) (fun _ s₅ => ∃ m, m < n ∧ I m s₅) NoE s₄) NoE s₃
          else ∃ m, m < n ∧ I m s₃) NoE s₂) NoE s₁) NoE s)
    (n : Nat) (h : I n s) : codeAny (model prog w) A (.compLoop (comp2 elt iter0 iter1 c x y px py scope pos) 1 it acc env) R s := by
  refine codeAny_loop rfl I (fun n s hI => ?_) n h
  show wpAny _ A ((compTurn (comp2 elt iter0 iter1 c x y px py scope pos) 1 it acc env).onRaise (fun x => do noteFrame x env; theTreesLotGoes x)) _ _ s
  refine wpAny_noted ?_
  rw [compTurn2_inner]
  refine wpAny_bind (wpAny_standAt (wpAny_bind (wpAny_mono (turn n s hI) (fun r s₁ h₁ => ?_) fun _ _ h' => h'.elim)))
  cases r with
  | none => exact wpAny_pure h₁
  | some v =>
    refine wpAny_bind (wpAny_of_eq (a := ()) rfl ?_)
    refine wpAny_bind (wpAny_mono h₁ (fun _ s₂ h₂ => ?_) fun _ _ h' => h'.elim)
    refine wpAny_bind (wpAny_tests_one (wpAny_mono h₂ (fun ok s₃ h₃ => ?_) fun _ _ h' => h'.elim))
    cases ok with
    | false => exact wpAny_pure ⟨rfl, h₃⟩
    | true =>
      exact wpAny_bind (wpAny_bind (wpAny_mono h₃ (fun z s₄ h₄ => wpAny_bind (wpAny_mono h₄ (fun _ s₅ h₅ => wpAny_pure (wpAny_pure ⟨rfl, h₅⟩)) fun _ _ h' => h'.elim)) fun _ _ h' => h'.elim))

theorem comp2_start (d : Nat) (hd : d < 2)
    (h0 : codeAny (model prog w) A (.compLoop (comp2 elt iter0 iter1 c x y px py scope pos) d it acc env) R s)
    (h : wpAny (model prog w) A (pyIter it) (fun it' s' => codeAny (model prog w) A (.compLoop (comp2 elt iter0 iter1 c x y px py scope pos) d it' acc env) R s') NoE s) :
    codeAny (model prog w) A (.compStart (comp2 elt iter0 iter1 c x y px py scope pos) d it acc env) R s := by
  have hE : ∀ e s', NoE e s' → notedBy (model prog w) A env (fun x s' => R (.error x) s') e s' := fun _ _ h => h.elim
  refine codeAny_of_tree ?_
  show wpAny _ A ((compStart (comp2 elt iter0 iter1 c x y px py scope pos) d it acc env).onRaise (fun x => do noteFrame x env; standAt theWindowsPlace)) _ _ s
  refine wpAny_notedAt ?_
  unfold compStart
  match d, hd with
  | 0, _ =>
    show wpAny _ _ (ask >>= _) _ _ s
    refine wpAny_bind (wpAny_askSetting (wpAny_ite ?_))
    split
    · exact wpAny_pure (And.intro rfl h0)
    · exact wpAny_bind (wpAny_rule (wpAny_bind (wpAny_standAt (wpAny_bind (wpAny_mono h (fun it' s' h' => wpAny_pure (And.intro rfl h')) hE)))))
  | 1, _ =>
    show wpAny _ _ (ask >>= _) _ _ s
    refine wpAny_bind (wpAny_askSetting (wpAny_ite ?_))
    split
    · exact wpAny_pure (And.intro rfl h0)
    · exact wpAny_bind (wpAny_rule (wpAny_bind (wpAny_standAt (wpAny_bind (wpAny_mono h (fun it' s' h' => wpAny_pure (And.intro rfl h')) hE)))))
end
end Mine
end

section
open PySem PySem.W PyProof.Rows
set_option maxRecDepth 100000
set_option Elab.async false
set_option linter.unusedVariables false
namespace Mine
theorem freshRsComp2Run : True := by
  w_top off
  exact True.intro
section
variable {prog : Program} {w : World} {A : Around} {env : Env} {E : Value → Shared → Prop}
  {elt iter0 iter1 c : Expr} {x y : Str} {px py : Pos} {scope : Scope} {pos : Pos} {cl : List (Str × Addr)}

theorem fr_at {h₀ h h' : Heap} {L b : Addr} {m : Str → Option Value} (F : Fr h₀ L h m) (hs : Heap.ExtBut b h h') (hL : L ≠ b) (hb : h₀.objs.size ≤ b) : Fr h₀ L h' m :=
  ⟨F.ns.at' fun o e => hs _ o hL e, fun a o e => hs a o (Nat.ne_of_lt (Nat.lt_of_lt_of_le (Heap.lt_size e) hb)) (F.keep a o e), F.above⟩

theorem comp2_run {s₁ : Shared} {ax : Addr} {items : Array Value} {RR : Value → Addr → Result → Shared → Prop} {p : Nat → Nat → Bool}
    (hh : A.handled = none) (hl : s₁.heap.IsList ax items)
    (hcell : ∀ z ∈ scope.names, z.2 ≠ .cell) (hkind : scope.kind = .function) (hx : scope.names.lookup x = some .local) (hy : scope.names.lookup y = some .local) (hxy : x ≠ y)
    (hs : ∀ C x, foldedSetIterable iter1 (compEnvC scope cl C env) x = pure x)
    (T : Nat → Nat → List Value → Heap → Prop)
    (stab : ∀ i j ys h h', T i j ys h → (∀ b o, s₁.heap.objs.size + 3 ≤ b → o.cls = .type "list" → h.get? b = some o → h'.get? b = some o) → T i j ys h')
    (t0 : ∀ h, T 0 0 [] h) (wrap : ∀ i ys h, i < items.size → T i 4 ys h → T (i + 1) 0 ys h) (size : ∀ i j ys h, T i j ys h → ys.length ≤ 4000)
    (hit : ∀ h m tk, Fr s₁.heap (s₁.heap.objs.size + 2) h m → wpAny (model prog w) A (eval iter1 (compEnvC scope cl (s₁.heap.objs.size + 2) env)) (fun xv s₃ => wpAny (model prog w) A (pyIter xv) (fun it1 s₄ =>
      ∃ I1 h4 tk4, it1 = .ref I1 ∧ s₄ = { s₁ with heap := h4, toks := tk4 } ∧ h.StaysIn h4 ∧ h.get? I1 = none ∧ h.objs.size ≤ I1 ∧ IsRangeIter h4 I1 0 4 1) NoE s₃) NoE { s₁ with heap := h, toks := tk })
    (test : ∀ i v j t ys h m tk, items[i]? = some v → j < 4 → T i j ys h → Fr s₁.heap (s₁.heap.objs.size + 2) h m → m x = some v → m y = some (.int (j : Nat) t) →
      wpAny (model prog w) A (isTrue c (compEnvC scope cl (s₁.heap.objs.size + 2) env) (eval c (compEnvC scope cl (s₁.heap.objs.size + 2) env))) (fun ok s₄ => ∃ h4 tk4, s₄ = { s₁ with heap := h4, toks := tk4 } ∧ h.StaysIn h4 ∧ ok = p i j) NoE { s₁ with heap := h, toks := tk })
    (skip : ∀ i j ys h, i < items.size → j < 4 → T i j ys h → p i j = false → T i (j + 1) ys h)
    (helt : ∀ i v j t ys h m tk, items[i]? = some v → j < 4 → T i j ys h → Fr s₁.heap (s₁.heap.objs.size + 2) h m → m x = some v → m y = some (.int (j : Nat) t) → p i j = true →
      wpAny (model prog w) A (eval elt (compEnvC scope cl (s₁.heap.objs.size + 2) env)) (fun z s₄ => ∃ h4 tk4, s₄ = { s₁ with heap := h4, toks := tk4 } ∧ h.StaysIn h4 ∧ T i (j + 1) (ys ++ [z]) h4) NoE { s₁ with heap := h, toks := tk })
    (done : ∀ h tk ys m, T items.size 0 ys.toList h → h.PlainList (s₁.heap.objs.size + 1) ys → Fr s₁.heap (s₁.heap.objs.size + 2) h m → RR (.ref (s₁.heap.objs.size + 1)) (s₁.heap.objs.size + 2) (.ok .next) { s₁ with heap := h, toks := tk }) :
    wpAny (model prog w) A (pyIter (.ref ax)) (fun it s₂ => wpAny (model prog w) A (newList []) (fun acc s₃ => wpAny (model prog w) A (newFunctionEnv scope env.globals cl [] env.qual none .none (some env)) (fun cenv s₄ =>
      codeAny (model prog w) A (.compStart (comp2 elt iter0 iter1 c x y px py scope pos) 0 it acc { cenv with scope := relabel scope env }) (RR acc cenv.locals) s₄) E s₃) E s₂) E s₁ := by
  refine wpAny_pyIter_list hl (wpAny_newObj_type (hd := by size_fits) (wpAny_newFunctionEnv hcell (by intro y hy; simp at hy) (fun h₁ hns₁ hsb₁ => ?_) hkind))
  dsimp only at hns₁ hsb₁ ⊢
  obtain ⟨ol, hol, hol'⟩ := id hl
  have hax : ax < s₁.heap.objs.size := Heap.lt_size hol
  generalize hH1 : s₁.heap.push { cls := .type "list_iterator", data := .fields #[.ref ax, .int 0 0] } = H1 at hns₁ hsb₁ ⊢
  have hD : H1.objs.size = s₁.heap.objs.size + 1 := by rw [← hH1, Heap.size_push]
  generalize hH2 : H1.push { cls := .type "list", dict := none, data := .seq ([] : List Value).toArray } = H2 at hns₁ hsb₁ ⊢
  have hC : H2.objs.size = s₁.heap.objs.size + 2 := by rw [← hH2, Heap.size_push, hD]
  rw [hC] at hns₁ hsb₁ ⊢
  rw [hD]
  have hDC : s₁.heap.objs.size + 1 ≠ s₁.heap.objs.size + 2 := by omega
  have hIC : s₁.heap.objs.size ≠ s₁.heap.objs.size + 2 := by omega
  have old : ∀ b o, s₁.heap.get? b = some o → h₁.get? b = some o := fun b o e =>
    hsb₁.extBut b o (Nat.ne_of_lt (Nat.lt_of_lt_of_le (Heap.lt_size e) (by omega))) (Heap.get?_push_of_some _ (hH2 ▸ Heap.get?_push_of_some _ (hH1 ▸ Heap.get?_push_of_some _ e)))
  have hit0 : h₁.IsListIter s₁.heap.objs.size ax 0 :=
    ⟨_, hsb₁.extBut _ _ hIC (Heap.get?_push_of_some _ (hH2 ▸ Heap.get?_push_of_some _ (hH1 ▸ Heap.get?_push_size _ rfl))), rfl, rfl⟩
  have hacc0 : h₁.PlainList (s₁.heap.objs.size + 1) #[] := ⟨_, hsb₁.extBut _ _ hDC (Heap.get?_push_of_some _ (hH2 ▸ hD ▸ Heap.get?_push_size _ rfl))⟩
  have F0 : Fr s₁.heap (s₁.heap.objs.size + 2) h₁ (fun x => List.lookup x ([] : List (Str × Value)).reverse) := ⟨hns₁, old, by omega⟩
  have hkC : ∀ n, scope.names.lookup n = some .local → (compEnvC scope cl (s₁.heap.objs.size + 2) env).kindOf n = some .local := fun n hn => lookup_relabel_local hn
  have hpC : ((compEnvC scope cl (s₁.heap.objs.size + 2) env).scope.kind == .class || ((compEnvC scope cl (s₁.heap.objs.size + 2) env).scope.kind == .module && (compEnvC scope cl (s₁.heap.objs.size + 2) env).locals != (compEnvC scope cl (s₁.heap.objs.size + 2) env).globals)) = false := by simp [compEnvC, relabel, hkind]
  show codeAny (model prog w) A (.compStart (comp2 elt iter0 iter1 c x y px py scope pos) 0 (.ref s₁.heap.objs.size) (.ref (s₁.heap.objs.size + 1)) (compEnvC scope cl (s₁.heap.objs.size + 2) env)) (RR (.ref (s₁.heap.objs.size + 1)) (s₁.heap.objs.size + 2)) _
  have loop : ∀ s₂ : Shared, s₂ = { s₁ with heap := h₁, toks := s₁.toks + ([] : List (Str × Value)).length } →
      codeAny (model prog w) A (.compLoop (comp2 elt iter0 iter1 c x y px py scope pos) 0 (.ref s₁.heap.objs.size) (.ref (s₁.heap.objs.size + 1)) (compEnvC scope cl (s₁.heap.objs.size + 2) env))
        (RR (.ref (s₁.heap.objs.size + 1)) (s₁.heap.objs.size + 2)) s₂ := by
    rintro s₂ rfl
    refine comp2_outer (fun k s' => ∃ h tk m ys i, s' = { s₁ with heap := h, toks := tk } ∧ h.IsListIter s₁.heap.objs.size ax i ∧ Fr s₁.heap (s₁.heap.objs.size + 2) h m ∧ h.PlainList (s₁.heap.objs.size + 1) ys ∧ T i 0 ys.toList h ∧ i ≤ items.size ∧ k = items.size + 1 - i)
      (hs _) ?_ (items.size + 1) ⟨h₁, _, _, #[], 0, rfl, hit0, F0, hacc0, by simpa using t0 h₁, Nat.zero_le _, rfl⟩
    rintro k s' ⟨h, tk, m, ys, i, rfl, hit', F, hacc, hT, hi, rfl⟩
    have hl' : h.IsList ax items := F.lst hl
    cases hv : items[i]? with
    | none =>
      refine wpAny_pyNext_list_end hh hit' hl' hv fun h₂ he₂ => ?_
      have hin : i = items.size := by have : items.size ≤ i := by simpa using hv
                                      omega
      subst hin
      exact done h₂ tk ys m (stab _ _ _ _ _ hT fun b o hb _ e => he₂ b o (neN (by omega)) e) (hacc.at fun o e => he₂ _ o (neN (by omega)) e) (fr_at F he₂ (neN (by omega)) (Nat.le_refl _))
    | some v =>
      have hlt : i < items.size := (Array.getElem?_eq_some_iff.mp hv).1
      refine wpAny_pyNext_list_item hit' hl' hv fun h₂ hit₂ hs₂ => ?_
      have F₂ := fr_at F hs₂.extBut (neN (by omega)) (Nat.le_refl _)
      refine wpAny_assign_Name (wpAny_storeName_local (hkC x hx) F₂.ns (fun h₃ hn₃ hs₃ => ?_) hpC)
      have F₃ := F₂.set hn₃ hs₃
      have hs₃' : Heap.SameBut (s₁.heap.objs.size + 2) h₂ h₃ := hs₃
      have hit₃ : h₃.IsListIter s₁.heap.objs.size ax (i + 1) := hit₂.at fun o e => hs₃'.extBut _ o (by omega) e
      have hacc₃ : h₃.PlainList (s₁.heap.objs.size + 1) ys := hacc.at fun o e => hs₃'.extBut _ o (by omega) (hs₂.extBut _ o (neN (by omega)) e)
      have hT₃ : T i 0 ys.toList h₃ := stab _ _ _ _ _ hT fun b o hb _ e => hs₃'.extBut b o (neN (by omega)) (hs₂.extBut b o (neN (by omega)) e)
      refine wpAny_mono (hit h₃ _ _ F₃) (fun xv s₄ h₄ => wpAny_mono h₄ (fun it1 s₅ h₅ => ?_) fun _ _ e => e) fun _ _ e => e
      obtain ⟨I1, h4, tk4, rfl, rfl, hk4, hI1, hI1', hr4⟩ := h₅
      have hC3 : s₁.heap.objs.size + 2 < h₃.objs.size := F₃.ns.lt
      have inner : ∀ s₆ : Shared, s₆ = { s₁ with heap := h4, toks := tk4 } → codeAny (model prog w) A (.compLoop (comp2 elt iter0 iter1 c x y px py scope pos) 1 (.ref I1) (.ref (s₁.heap.objs.size + 1)) (compEnvC scope cl (s₁.heap.objs.size + 2) env))
          (fun r s₅ => match r with | .ok _ => ∃ m', m' < items.size + 1 - i ∧ ∃ h tk m ys i, s₅ = { s₁ with heap := h, toks := tk } ∧ h.IsListIter s₁.heap.objs.size ax i ∧ Fr s₁.heap (s₁.heap.objs.size + 2) h m ∧ h.PlainList (s₁.heap.objs.size + 1) ys ∧ T i 0 ys.toList h ∧ i ≤ items.size ∧ m' = items.size + 1 - i | .error _ => False) s₆ := by
        rintro s₆ rfl
        refine comp2_inner (fun k s' => ∃ h tk m ys j, s' = { s₁ with heap := h, toks := tk } ∧ IsRangeIter h I1 (j : Nat) (4 - (j : Nat)) 1 ∧ h.IsListIter s₁.heap.objs.size ax (i + 1) ∧ Fr s₁.heap (s₁.heap.objs.size + 2) h m ∧ m x = some v ∧ h.PlainList (s₁.heap.objs.size + 1) ys ∧ T i j ys.toList h ∧ j ≤ 4 ∧ k = 5 - j)
          ?_ 5 ⟨h4, tk4, _, ys, 0, rfl, by simpa using hr4, hit₃.at fun o e => hk4 _ o e, F₃.keeps hk4, by simp, hacc₃.at fun o e => hk4 _ o e, stab _ _ _ _ _ hT₃ fun b o _ _ e => hk4 b o e, by omega, by omega⟩
        rintro k s' ⟨h, tk, m, ys, j, rfl, hr, hit', F, hmx, hacc, hT, hj, rfl⟩
        have ne1 : ∀ b o, o.cls = .type "list" → h.get? b = some o → b ≠ I1 := fun b o hc e q => by
          rw [q, hr] at e; cases e; exact absurd (Value.type.inj hc) (by decide)
        by_cases hj4 : j < 4
        · refine wpAny_pyNext_range_item hr (by omega) fun h₂ hr₂ hs₂ => ?_
          have F₂ := fr_at F hs₂.extBut (neN (by omega)) (by omega)
          refine wpAny_assign_Name (wpAny_storeName_local (hkC y hy) F₂.ns (fun h₃ hn₃ hs₃ => ?_) hpC)
          have hs₃' : Heap.SameBut (s₁.heap.objs.size + 2) h₂ h₃ := hs₃
          have F₃ := F₂.set hn₃ hs₃
          have hr₃ : IsRangeIter h₃ I1 ((j + 1 : Nat) : Int) (4 - ((j + 1 : Nat) : Int)) 1 := by
            have e1 : ((j + 1 : Nat) : Int) = (j : Int) + 1 := by push_cast; rfl
            have e2 : (4 : Int) - ((j + 1 : Nat) : Int) = 4 - (j : Int) - 1 := by push_cast; omega
            rw [e2, e1]
            exact hs₃'.extBut _ _ (neN (by omega)) hr₂
          have hit₃ : h₃.IsListIter s₁.heap.objs.size ax (i + 1) := hit'.at fun o e => hs₃'.extBut _ o (by omega) (hs₂.extBut _ o (neN (by omega)) e)
          have hacc₃ : h₃.PlainList (s₁.heap.objs.size + 1) ys := hacc.at fun o e => hs₃'.extBut _ o (by omega) (hs₂.extBut _ o (neN (by omega)) e)
          have hT₃ : T i j ys.toList h₃ := stab _ _ _ _ _ hT fun b o hb hc e => hs₃'.extBut b o (neN (by omega)) (hs₂.extBut b o (ne1 b o hc e) e)
          have hmx₃ : (if x = y then some (Value.int (j : Nat) tk) else m x) = some v := by rw [if_neg hxy]; exact hmx
          refine wpAny_mono (test i v j _ ys.toList h₃ _ _ hv hj4 hT₃ F₃ hmx₃ (if_pos rfl)) (fun ok s₄ h₄ => ?_) fun _ _ e => e
          obtain ⟨h4, tk4, rfl, hk4, rfl⟩ := h₄
          have hT₄ : T i j ys.toList h4 := stab _ _ _ _ _ hT₃ fun b o _ _ e => hk4 b o e
          have F₄ := F₃.keeps hk4
          cases hp : p i j with
          | false =>
            simp only [Bool.false_eq_true, if_false]
            exact ⟨5 - (j + 1), by omega, h4, tk4, _, ys, j + 1, rfl, hk4 _ _ hr₃, hit₃.at fun o e => hk4 _ o e, F₄, hmx₃, hacc₃.at fun o e => hk4 _ o e, skip _ _ _ _ hlt hj4 hT₄ hp, by omega, rfl⟩
          | true =>
            simp only [if_true]
            refine wpAny_mono (helt i v j _ ys.toList h4 _ _ hv hj4 hT₄ F₄ hmx₃ (if_pos rfl) hp) (fun z s₅ h₅ => ?_) fun _ _ e => e
            obtain ⟨h5, tk5, rfl, hk5, hT₅⟩ := h₅
            have hys : ys.size ≤ sizeLine := by
              have := size _ _ _ _ hT
              have e4 : ys.toList.length = ys.size := by simp
              have : sizeLine = 16777216 := rfl
              omega
            refine wpAny_list_append_plain (hsz := hys) (hacc₃.at fun o e => hk5 _ o (hk4 _ o e)) fun h6 hl6 hs6 => ?_
            refine ⟨5 - (j + 1), by omega, h6, tk5, _, ys.push z, j + 1, rfl, hs6.extBut _ _ (neN (by omega)) (hk5 _ _ (hk4 _ _ hr₃)), hit₃.at fun o e => hs6.extBut _ o (neN (by omega)) (hk5 _ o (hk4 _ o e)), fr_at (F₄.keeps hk5) hs6.extBut (neN (by omega)) (by omega), hmx₃, hl6, ?_, by omega, rfl⟩
            rw [Array.toList_push]
            exact stab _ _ _ _ _ hT₅ fun b o hb _ e => hs6.extBut b o (neN (by omega)) e
        · have hj' : j = 4 := by omega
          subst hj'
          refine wpAny_pyNext_range_end hh hr (by omega) fun h₂ he₂ => ?_
          exact ⟨items.size + 1 - (i + 1), by omega, h₂, tk, m, ys, i + 1, rfl, hit'.at fun o e => he₂ _ o (neN (by omega)) e, fr_at F he₂ (neN (by omega)) (by omega), hacc.at fun o e => he₂ _ o (neN (by omega)) e,
            wrap _ _ _ hlt (stab _ _ _ _ _ hT fun b o _ hc e => he₂ b o (ne1 b o hc e) e), by omega, rfl⟩
      exact comp2_start 1 (by omega) (inner _ rfl) (wpAny_pyIter_rangeiter hr4 (inner _ rfl))
  exact comp2_start 0 (by omega) (loop _ rfl) (wpAny_pyIter_listiter hit0 (loop _ rfl))
end
end Mine
end

section
open PySem PySem.W PyProof.Rows
set_option maxRecDepth 100000
set_option Elab.async false
set_option linter.unusedVariables false
namespace Mine
theorem freshRsTexts : True := by
  w_top off
  exact True.intro
def lawPart (fr : List Int) (text : List Int) (j : Nat) : List (List Int) :=
  (((List.range j).map fun n : Nat => (n : Int)).filter fun letter => lawFirst fr letter text.reverse).map fun letter => text ++ [letter]
def lawStep (fr : List Int) (texts : List (List Int)) : List (List Int) := texts.flatMap fun t => lawPart fr t 4
def lawTexts (fr : List Int) : Nat → List (List Int)
  | 0 => [[]]
  | k + 1 => lawStep fr (lawTexts fr k)
def lawCounts (fr : List Int) (size : Nat) : List Int := (List.range (size + 1)).map fun k => ((lawTexts fr k).length : Int)

theorem lawPart_succ (fr text : List Int) (j : Nat) : lawPart fr text (j + 1) = lawPart fr text j ++ (if lawFirst fr (j : Int) text.reverse = true then [text ++ [(j : Int)]] else []) := by
  unfold lawPart
  rw [List.range_succ, List.map_append, List.filter_append, List.map_append]
  congr 1
  by_cases h : lawFirst fr (j : Int) text.reverse = true <;> simp [h]
theorem lawPart_length (fr text : List Int) (j : Nat) : (lawPart fr text j).length ≤ j := by
  induction j with
  | zero => simp [lawPart]
  | succ j ih => rw [lawPart_succ, List.length_append]; split <;> simp <;> omega
theorem lawStep_take (fr : List Int) (texts : List (List Int)) (i : Nat) (h : i < texts.length) : lawStep fr (texts.take (i + 1)) = lawStep fr (texts.take i) ++ lawPart fr (texts.getD i []) 4 := by
  unfold lawStep
  rw [List.take_add_one, List.flatMap_append]
  congr 1
  rw [List.getD_eq_getElem?_getD]
  simp [h]
theorem lawStep_length (fr : List Int) (texts : List (List Int)) : (lawStep fr texts).length ≤ 4 * texts.length := by
  unfold lawStep
  induction texts with
  | nil => simp
  | cons t r ih =>
    have := lawPart_length fr t 4
    rw [List.flatMap_cons, List.length_append, List.length_cons]
    omega
theorem lawTexts_length (fr : List Int) (k : Nat) : (lawTexts fr k).length ≤ 4 ^ k := by
  induction k with
  | zero => simp [lawTexts]
  | succ k ih =>
    have := lawStep_length fr (lawTexts fr k)
    rw [lawTexts, Nat.pow_succ]
    omega
theorem lawTexts_items (fr : List Int) (k : Nat) : ∀ t ∈ lawTexts fr k, t.length = k ∧ ∀ x ∈ t, 0 ≤ x ∧ x < 4 := by
  induction k with
  | zero => intro t ht; simp [lawTexts] at ht; subst ht; simp
  | succ k ih =>
    intro t ht
    simp only [lawTexts, lawStep, List.mem_flatMap, lawPart, List.mem_map, List.mem_filter, List.mem_range] at ht
    obtain ⟨t', ht', letter, ⟨⟨n, hn, rfl⟩, _⟩, rfl⟩ := ht
    obtain ⟨e1, e2⟩ := ih t' ht'
    refine ⟨by simp [e1], fun x hx => ?_⟩
    rcases List.mem_append.mp hx with hx | hx
    · exact e2 x hx
    · simp at hx; subst hx; omega

/-- the heap bears these texts, each at an address of this kind -/
inductive TextsAre (P : Nat → Prop) (h : Heap) : List Value → List (List Int) → Prop
  | nil : TextsAre P h [] []
  | cons {a : Addr} {ws : List Value} {t : List Int} {ys : List Value} {ts : List (List Int)} : P a → h.IsList a ws.toArray → IntsAre ws t → TextsAre P h ys ts → TextsAre P h (.ref a :: ys) (t :: ts)
theorem TextsAre.mono {P : Nat → Prop} {h h' : Heap} {ys : List Value} {ts : List (List Int)} (x : TextsAre P h ys ts) (k : ∀ b o, P b → o.cls = .type "list" → h.get? b = some o → h'.get? b = some o) : TextsAre P h' ys ts := by
  induction x with
  | nil => exact .nil
  | cons hb hl hi _ ih => exact .cons hb (let ⟨o, ho, hc, r⟩ := hl; ⟨o, k _ _ hb hc ho, hc, r⟩) hi ih
theorem TextsAre.weak {P P' : Nat → Prop} {h : Heap} {ys : List Value} {ts : List (List Int)} (x : TextsAre P h ys ts) (hb : ∀ a, P a → P' a) : TextsAre P' h ys ts := by
  induction x with
  | nil => exact .nil
  | cons hb' hl hi _ ih => exact .cons (hb _ hb') hl hi ih
theorem TextsAre.snoc {P : Nat → Prop} {h : Heap} {ys : List Value} {ts : List (List Int)} {a : Addr} {ws : List Value} {t : List Int} (x : TextsAre P h ys ts) (hb : P a) (hl : h.IsList a ws.toArray) (hi : IntsAre ws t) : TextsAre P h (ys ++ [.ref a]) (ts ++ [t]) := by
  induction x with
  | nil => exact .cons hb hl hi .nil
  | cons hb' hl' hi' _ ih => exact .cons hb' hl' hi' ih
theorem TextsAre.length {P : Nat → Prop} {h : Heap} {ys : List Value} {ts : List (List Int)} (x : TextsAre P h ys ts) : ys.length = ts.length := by
  induction x with
  | nil => rfl
  | cons _ _ _ _ ih => simp [ih]
theorem TextsAre.at {P : Nat → Prop} {h : Heap} {ys : List Value} {ts : List (List Int)} (x : TextsAre P h ys ts) : ∀ {i : Nat} {v : Value}, ys[i]? = some v → ∃ a ws, v = .ref a ∧ h.IsList a ws.toArray ∧ IntsAre ws (ts.getD i []) ∧ (ts.getD i []) ∈ ts := by
  induction x with
  | nil => intro i v hv; simp at hv
  | @cons a ws t ys ts hb hl hi _ ih =>
    intro i v hv
    cases i with
    | zero => simp at hv; subst hv; exact ⟨a, ws, rfl, hl, by simpa using hi, by simp⟩
    | succ i =>
      simp at hv
      obtain ⟨a', ws', e, h1, h2, h3⟩ := ih hv
      exact ⟨a', ws', e, h1, by simpa using h2, by simp; right; simpa using h3⟩
end Mine
end

section
open PySem PySem.Calls PySem.W PyProof.Rows
set_option maxRecDepth 100000
set_option Elab.async false
set_option linter.unusedVariables false
namespace Mine
theorem freshRsNames : True := by
  w_top off
  exact True.intro
section
variable {M : Model} {A : Around} {E : Value → Shared → Prop} {s : Shared} {scope : Scope} {cl : List (Str × Addr)} {C : Addr} {env : Env} {x : Str} {pos : Pos} {v : Value} {Q : Value → Shared → Prop} {h₀ : Heap} {m : Str → Option Value}
  {K : Frag} {mg mb : Str → Option Value} {p : Program} {loose : List Str} {mean : ExcName → Option Value}
theorem cn_local (F : Fr h₀ C s.heap m) (hv : m x = some v) (h : Q v s) (hk : (compEnvC scope cl C env).scope.kind = .function) (hl : (compEnvC scope cl C env).kindOf x = some .local) (hd : (x == ("__debug__" : Str)) = false) :
    wpAny M A (eval (.Name x pos) (compEnvC scope cl C env)) Q E s := wpAny_Name (wpAny_loadName_local hk hl F.ns hv h) hd
theorem cn_cell {c : Addr} (hc : s.heap.IsCell c (some v)) (hcl : cl.lookup x = some c) (h : Q v s) (hk : (compEnvC scope cl C env).scope.kind = .function) (hl : (compEnvC scope cl C env).kindOf x = some .cell) (hd : (x == ("__debug__" : Str)) = false) :
    wpAny M A (eval (.Name x pos) (compEnvC scope cl C env)) Q E s := wpAny_Name (wpAny_loadName_cell hk hl hcl hc h) hd
theorem cn_glob (F : Fr h₀ C s.heap m) (X : K.In h₀) (T : Top p loose mean mg mb h₀) (e : nsIn K mainGlobals x = some (some v)) (h : Q v s) (hg : env.globals = mainGlobals) (hk : (compEnvC scope cl C env).scope.kind = .function) (hx : (compEnvC scope cl C env).kindOf x = some .globalImplicit) (hd : (x == ("__debug__" : Str)) = false) :
    wpAny M A (eval (.Name x pos) (compEnvC scope cl C env)) Q E s :=
  Name_function_global hk hx (loadGlobal_global (env := compEnvC scope cl C env) (by show s.heap.Ns env.globals mg; rw [hg]; exact T.g.keeps F.keep) (mg_of X T.g e) h) hd
theorem cn_boot (F : Fr h₀ C s.heap m) (X : K.In h₀) (T : Top p loose mean mg mb h₀) (e : nsIn K mainGlobals x = some none) (hv : bootBuiltins x = some v) (hn : x ≠ "__name__") (h : Q v s) (hg : env.globals = mainGlobals) (hb : env.builtins = builtinsNs) (hk : (compEnvC scope cl C env).scope.kind = .function) (hx : (compEnvC scope cl C env).kindOf x = some .globalImplicit) (hd : (x == ("__debug__" : Str)) = false) :
    wpAny M A (eval (.Name x pos) (compEnvC scope cl C env)) Q E s :=
  Name_function_global hk hx (loadGlobal_builtin (env := compEnvC scope cl C env) (by show s.heap.Ns env.globals mg; rw [hg]; exact T.g.keeps F.keep) (mg_none_of X T.g e) (by show s.heap.Ns env.builtins mb; rw [hb]; exact T.b.keeps F.keep) ((T.builtins x hn).trans hv) h) hd
end

/-- two lists, one behind the other: one new object, all else as it lay -/
theorem cat_raw {prog : Program} {w : World} {A : Around} {E : Value → Shared → Prop} {s : Shared} {l b : Addr} {vs ws : List Value} {Q : Value → Shared → Prop} (hl : s.heap.IsList l vs.toArray) (hb : s.heap.IsList b ws.toArray)
    (hsz : vs.length + ws.length ≤ sizeLine)
    (h : Q (.ref s.heap.objs.size) { s with heap := s.heap.push { cls := .type "list", data := .seq (vs ++ ws).toArray } }) : wpAny (model prog w) A (binaryOp .Add (.ref l) (.ref b)) Q E s := by
  have e : (vs ++ ws).toArray = vs.toArray ++ ws.toArray := by simp
  rw [e] at h
  obtain ⟨⟨_, d1, _, s1⟩, h1, rfl, n1, rfl⟩ := id hl
  obtain ⟨⟨_, d2, _, s2⟩, h2, rfl, n2, rfl⟩ := id hb
  exact concat_meets ⟨_, h1, rfl⟩ ⟨_, h2, rfl⟩ noFill_list_add seq_list_add PySem.F.slot_list_add PySem.F.entry_list_add (PySem.F.args_list_add_2 _ _) (list_addW l b vs.toArray ws.toArray n1 n2 d1 d2 s1 s2 (by simpa using hsz)) ⟨h1, h2, h⟩
section
variable {prog : Program} {w : World} {A : Around} {env : Env} {s : Shared}
  {elt iter0 iter1 c : Expr} {x y : Str} {px py : Pos} {scope : Scope} {pos : Pos} {cl : List (Str × Addr)}
theorem assign_comp2 {t : Str} {pt spos : Pos} {Q : Flow → Shared → Prop} {E : Value → Shared → Prop}
    (hsw : swapsWith (comp2 elt iter0 iter1 c x y px py scope pos) (some (.Name t pt)) spos.line env = pure true)
    (hclos : closureFor scope env = pure cl) (hkind : scope.kind = .function) (hnames : ∀ z ∈ scope.names, z.2 = .local → scope.names.lookup z.1 = some .local) (hs0 : ∀ x, foldedSetIterable iter0 env x = pure x)
    (h : wpAny (model prog w) A (eval iter0 env) (fun xv s₁ => wpAny (model prog w) A (pyIter xv) (fun it s₂ => wpAny (model prog w) A (newList []) (fun acc s₃ => wpAny (model prog w) A (newFunctionEnv scope env.globals cl [] env.qual none .none (some env)) (fun cenv s₄ =>
      codeAny (model prog w) A (.compStart (comp2 elt iter0 iter1 c x y px py scope pos) 0 it acc { cenv with scope := relabel scope env }) (compPost (model prog w) A E (some (assign (.Name t pt) env)) (fun _ s' => Q .next s') acc cenv.locals) s₄) E s₃) E s₂) E s₁) E s) :
    wpAny (model prog w) A (exec (.Assign [.Name t pt] (comp2 elt iter0 iter1 c x y px py scope pos) spos) env) Q E s := by
  rw [exec_Assign_Name_used _ _ _ _ hsw]
  refine wpAny_bind (wpAny_standAt (wpAny_bind ?_))
  show wpAny _ A (do let _ ← comprehension (comp2 elt iter0 iter1 c x y px py scope pos) scope env _ (newList []) false (eval iter0 env) (some (assign (.Name t pt) env))) _ _ s
  exact wpAny_bind (wpAny_mono (wpAny_comprehension_free (use := some (assign (.Name t pt) env)) (Q := fun _ s' => Q .next s') rfl hs0 hclos hkind hnames h) (fun _ s' hq => wpAny_pure (wpAny_pure hq)) fun _ _ e => e)
end
end Mine
end

section
open PySem PySem.Calls PySem.W PyProof.Rows
set_option maxRecDepth 100000
set_option Elab.async false
set_option linter.unusedVariables false
namespace Mine
theorem freshRsInner0 : True := by
  w_top off
  exact True.intro
/-! plain: the digits -/
theorem and_low (n k : Nat) : n &&& (n / 2 ^ k * 2 ^ k) = n / 2 ^ k * 2 ^ k := by
  apply Nat.eq_of_testBit_eq
  intro i
  rw [Nat.testBit_and, Nat.testBit_mul_two_pow, Nat.testBit_div_two_pow]
  by_cases h : k ≤ i
  · simp [h, Nat.sub_add_cancel h]
  · simp [h]
theorem lower_eq {x k : Int} (hx : 0 ≤ x) : Builtin.bitXor x (x.fdiv (p2 k) * p2 k) = x.fmod (p2 k) := by
  obtain ⟨n, rfl⟩ : ∃ n : Nat, x = n := ⟨x.toNat, by omega⟩
  have e1 : ((n : Nat) : Int).fdiv (p2 k) * p2 k = ((n / 2 ^ k.toNat * 2 ^ k.toNat : Nat) : Int) := by
    unfold p2
    rw [Int.fdiv_eq_ediv_of_nonneg _ (Int.natCast_nonneg _)]
    push_cast
    rfl
  rw [bitXor_and, e1]
  have e2 : Builtin.bitAnd ((n : Nat) : Int) ((n / 2 ^ k.toNat * 2 ^ k.toNat : Nat) : Int) = ((n / 2 ^ k.toNat * 2 ^ k.toNat : Nat) : Int) := by
    unfold Builtin.bitAnd
    rw [decide_eq_true (by omega : (0 : Int) ≤ (n : Nat)), decide_eq_true (by omega : (0 : Int) ≤ ((n / 2 ^ k.toNat * 2 ^ k.toNat : Nat) : Int))]
    simp only [Int.toNat_natCast, and_low]
  rw [e2]
  unfold p2
  rw [Int.fmod_eq_emod_of_nonneg _ (Int.natCast_nonneg _)]
  have e3 := Nat.div_add_mod n (2 ^ k.toNat)
  have e4 : ((n : Nat) : Int) % ((2 ^ k.toNat : Nat) : Int) = ((n % 2 ^ k.toNat : Nat) : Int) := by omega
  rw [e4, Nat.mul_comm]
  omega

theorem news_upd1 {h₀ h h' : Heap} {L D : Addr} {x0 : Addr × Obj} {o o' : Obj} {rest : List (Addr × Obj)} (N : News h₀ L h (x0 :: (D, o) :: rest)) (k : ∀ b o, b ≠ D → h.get? b = some o → h'.get? b = some o) (hx : x0.1 ≠ D) (hr : ∀ p ∈ rest, p.1 ≠ D) (hD : h'.get? D = some o') :
    News h₀ L h' (x0 :: (D, o') :: rest) := by
  intro q hq
  rcases List.mem_cons.mp hq with rfl | hq
  · have h1 := N _ (.head _); exact ⟨k _ _ hx h1.1, h1.2⟩
  · rcases List.mem_cons.mp hq with rfl | hq
    · have h1 := N _ (.tail _ (.head _)); exact ⟨hD, h1.2⟩
    · have h1 := N _ (.tail _ (.tail _ hq)); exact ⟨k _ _ (hr q hq) h1.1, h1.2⟩
theorem news_updN {h₀ h h' : Heap} {L D : Addr} {o o' : Obj} (pre rest : List (Addr × Obj)) (N : News h₀ L h (pre ++ (D, o) :: rest)) (k : ∀ b o, b ≠ D → h.get? b = some o → h'.get? b = some o) (hx : ∀ p ∈ pre, p.1 ≠ D) (hr : ∀ p ∈ rest, p.1 ≠ D) (hD : h'.get? D = some o') :
    News h₀ L h' (pre ++ (D, o') :: rest) := by
  intro q hq
  rcases List.mem_append.mp hq with hq | hq
  · have h1 := N _ (List.mem_append_left _ hq); exact ⟨k _ _ (hx q hq) h1.1, h1.2⟩
  · rcases List.mem_cons.mp hq with rfl | hq
    · have h1 := N _ (List.mem_append_right _ (.head _)); exact ⟨hD, h1.2⟩
    · have h1 := N _ (List.mem_append_right _ (.tail _ hq)); exact ⟨k _ _ (hr q hq) h1.1, h1.2⟩
theorem fr_but {h₀ h h' : Heap} {L D : Addr} {m : Str → Option Value} (F : Fr h₀ L h m) (k : ∀ b o, b ≠ D → h.get? b = some o → h'.get? b = some o) (hL : L ≠ D) (hD : h₀.get? D = none) : Fr h₀ L h' m :=
  ⟨F.ns.at' fun o e => k _ o hL e, fun b o e => k b o (fun z => by rw [z, hD] at e; cases e) (F.keep b o e), F.above⟩
theorem p2_pos (n : Int) : 0 < p2 n := by unfold p2; exact_mod_cast Nat.pow_pos (by decide)
theorem fmod_bits {x k : Int} {m : Nat} (hx : 0 ≤ x) (h : Builtin.Int.intBits x ≤ m) : 0 ≤ x.fmod (p2 k) ∧ Builtin.Int.intBits (x.fmod (p2 k)) ≤ m := by
  have hp := p2_pos k
  have h1 := Int.emod_nonneg x (Int.ne_of_gt hp)
  rw [Int.fmod_eq_emod_of_nonneg _ (Int.le_of_lt hp)]
  refine ⟨h1, intBits_le_of_natAbs ?_ h⟩
  have h2 : x % p2 k ≤ x := by
    obtain ⟨n, rfl⟩ : ∃ n : Nat, x = n := ⟨x.toNat, by omega⟩
    have h3 := Nat.mod_le n (2 ^ k.toNat)
    have h4 : ((n : Nat) : Int) % p2 k = ((n % 2 ^ k.toNat : Nat) : Int) := by unfold p2; omega
    omega
  omega
theorem fdiv_bits {x k : Int} {m : Nat} (hx : 0 ≤ x) (h : Builtin.Int.intBits x ≤ m) : 0 ≤ x.fdiv (p2 k) ∧ Builtin.Int.intBits (x.fdiv (p2 k)) ≤ m := by
  have hp := p2_pos k
  refine ⟨?_, intBits_fdiv_le h⟩
  rw [Int.fdiv_eq_ediv_of_nonneg _ (Int.le_of_lt hp)]
  exact Int.ediv_nonneg hx (Int.le_of_lt hp)

/-- what inner leaves of the digits (fuel, x, L, R, n, digits) -/
def innerFn : Nat → Int → Nat → Nat → Int → List Int → List Int
  | 0, _, _, _, _, ds => ds
  | k + 1, x, L, R, n, ds => if L + 1 = R then ds.set L x else
      innerFn k (x.fdiv (p2 ((((L + R) / 2 - L : Nat) : Int) * n))) ((L + R) / 2) R n (innerFn k (x.fmod (p2 ((((L + R) / 2 - L : Nat) : Int) * n))) L ((L + R) / 2) n ds)
theorem innerFn_length : ∀ k x L R n ds, (innerFn k x L R n ds).length = ds.length := by
  intro k
  induction k with
  | zero => intros; rfl
  | succ k ih =>
    intro x L R n ds
    rw [innerFn]
    split
    · simp
    · rw [ih, ih]

section
variable {prog : Program} {w : World} {A : Around} {s : Shared} {Q E : Value → Shared → Prop}
/-- a call of a def that the call has made: it and what is named lie open, all else stands still -/
theorem call_cl {name qual : Str} {params : Arguments} {body : List Stmt} {scope : Scope} {cl : List (Str × Addr)} {doc pm ctv : Value} {c' f : Addr} {pos : List Value} {binds : List (Str × Value)} (H : List (Addr × Obj)) (hH : ∀ p ∈ H, s.heap.get? p.1 = some p.2)
    (hf : s.heap.get? f = some (fnMade name qual params body scope cl doc pm c' ctv)) (hcd : s.heap.CodeRec (.ref c') qual) (hlim : s.heap.NoLimit) (hroom : A.depth < recursionLimit)
    (hbind : BindsTo s (fnX name qual params body scope cl .none .none doc pm none (.ref c') ctv) ⟨pos, []⟩ binds) (hloc : ∀ y ∈ binds, scope.names.lookup y.1 = some .local)
    (h : ∀ L h₁, Fr (hideAll s.heap (f :: H.map (·.1))) L h₁ (fun y => binds.reverse.lookup y) → News (hideAll s.heap (f :: H.map (·.1))) L h₁ ((f, fnMade name qual params body scope cl doc pm c' ctv) :: H) → s.heap.StaysIn h₁ → s.heap.objs.size = L →
      wpAny (model prog w) (A.deeper (envX qual scope L f (.ref c') cl)) (execs body (envX qual scope L f (.ref c') cl))
        (fun fl s' => Q (match fl with | .ret v => v | _ => .none) s') (fun _ _ => False)
        { s with heap := h₁, toks := s.toks + binds.length })
    (hco : scope.isCoroutine = false) (hgen : scope.isGenerator = false) (hk : scope.kind = .function)
    (hcell : ∀ x ∈ scope.names, x.2 ≠ .cell) : wpAny (model prog w) A (call (.ref f) pos) Q E s := by
  refine wpAny_call (codeAny_call_def (fd := fnX name qual params body scope cl .none .none doc pm none (.ref c') ctv) (body := body) (binds := binds) hroom hf rfl hlim hcd rfl hbind hcell hloc (fun h₁ hns hk₁ => ?_) hco hgen hk)
  refine wpAny_mono (h s.heap.objs.size h₁ ⟨hns, fun b o e => hk₁ b o (of_hideAll _ e), Nat.le_of_eq (hideAll_size _ _)⟩ (fun p hp => ?_) hk₁ rfl) (fun _ _ q => q) fun _ _ q => q.elim
  have hp' : s.heap.get? p.1 = some p.2 := (List.mem_cons.mp hp).elim (fun e => by rw [e]; exact hf) (hH p)
  exact ⟨hk₁ _ _ hp', Nat.ne_of_lt (Heap.lt_size hp'), hideAll_none _ ((List.mem_cons.mp hp).elim (fun e => by rw [e]; exact .head _) (fun q => .tail _ (List.mem_map_of_mem q)))⟩
end
end Mine
end

section
open PySem PySem.Calls PySem.W PyProof.Rows
set_option maxRecDepth 100000
set_option Elab.async false
set_option linter.unusedVariables false
namespace Mine
theorem freshRsInt2a : True := by
  w_top off
  exact True.intro
section
variable {prog : Program} {w : World} {A : Around} {s : Shared} {K : Frag} {G : Heap} {mg mb : Str → Option Value} {p : Program} {loose : List Str} {mean : ExcName → Option Value} {Q E : Value → Shared → Prop}

/-- a call of a def of the top's with cells, some objects lying open -/
theorem call_hideC {name qual : Str} {params : Arguments} {body : List Stmt} {scope : Scope} {dV kV doc pm cdv ct oc : Value} {an od : Option Addr} {osl : Array (Option Value)} {f : Addr} {pos : List Value} {binds : List (Str × Value)} (H : List (Addr × Obj)) (hH : ∀ p ∈ H, s.heap.get? p.1 = some p.2)
    (X₀ : K.In G) (T : Top p loose mean mg mb G) (GK : G.StaysIn (hideAll s.heap (H.map (·.1))))
    (ho : K.lookup f = some ⟨oc, od, .func (fnOf name qual params body scope dV kV doc pm an cdv ct), osl⟩) (hcd : codeIn K cdv qual = true) (hroom : A.depth < recursionLimit)
    (hbind : BindsTo s (fnOf name qual params body scope dV kV doc pm an cdv ct) ⟨pos, []⟩ binds)
    (hkind : (binds.all fun y => scope.names.lookup y.1 == some .local || scope.names.lookup y.1 == some .cell) = true)
    (hnd : ((cellsFrom 0 scope.names []).map (·.1)).Nodup)
    (h : ∀ L h₁ tk cells, Fr (hideAll s.heap (H.map (·.1))) L h₁ (bindL (envOfC qual scope L f cdv).kindOf binds fun _ => none) → News (hideAll s.heap (H.map (·.1))) L h₁ (cells ++ H) →
      CellsAre (bindC (envOfC qual scope L f cdv).kindOf binds fun _ => none) (cellsFrom (L + 1) scope.names []) cells → K.In (hideAll s.heap (H.map (·.1))) → Top p loose mean mg mb (hideAll s.heap (H.map (·.1))) → s.heap.objs.size = L →
      wpAny (model prog w) (A.deeper (envOfC qual scope L f cdv)) (execs body (envOfC qual scope L f cdv))
        (fun fl s' => Q (match fl with | .ret v => v | _ => .none) s') (fun _ _ => False)
        { s with heap := h₁, toks := tk })
    (hco : scope.isCoroutine = false) (hgen : scope.isGenerator = false) (hk : scope.kind = .function) : wpAny (model prog w) A (call (.ref f) pos) Q E s := by
  have GS : G.StaysIn s.heap := fun b o e => of_hideAll _ (GK b o e)
  refine wpAny_call (codeAny_call_function hroom (X₀.keeps GS _ _ ho) rfl hco hgen rfl (codeRec_of (X₀.keeps GS) hcd) (hbind _ _ _ _ ?_))
  refine wpAny_newFunctionEnv_cells hk (kindsX hkind _) fun env' he s' x => ?_
  subst he
  refine ⟨(T.nolimit.keeps GS).keeps x.toInCall.keep, codeAny_func ?_⟩
  obtain ⟨h₁, tk, rfl, _⟩ := x.done
  have hk₁ := x.toInCall.keep
  obtain ⟨cells, NC, Y⟩ := Cl.news (h₀ := s.heap) (Nat.le_refl _) fun n c hm => ⟨x.cell n c (lookup_of_mem_nodup (cellsFrom_names scope.names 0 (s.heap.objs.size + 1) [] [] rfl ▸ hnd) hm), x.above n c hm⟩
  refine wpAny_mono (h s.heap.objs.size h₁ tk cells ⟨x.toInCall.ns, fun b o e => hk₁ b o (of_hideAll _ e), Nat.le_of_eq (hideAll_size _ _)⟩ (fun q hq => ?_) Y (X₀.keeps GK) (T.keeps GK) rfl) (fun _ _ q => q) fun _ _ q => q.elim
  rcases List.mem_append.mp hq with hq | hq
  · refine ⟨(NC q hq).1, (NC q hq).2.1, ?_⟩
    cases e : (hideAll s.heap (H.map (·.1))).get? q.1 with
    | none => rfl
    | some o => have := of_hideAll _ e; rw [(NC q hq).2.2] at this; cases this
  · exact ⟨hk₁ _ _ (hH q hq), Nat.ne_of_lt (Heap.lt_size (hH q hq)), hideAll_none _ (List.mem_map_of_mem hq)⟩
end
/-- the table of a code object: nothing yet, or the one def of the body -/
def TabOk (h : Heap) (P : Addr) (line col : Nat) (qual : Str) : Prop :=
  h.get? P = some (tabObj #[]) ∨ ∃ c' : Addr, h.get? P = some (tabObj #[rawInt line, rawInt col, .ref c']) ∧ h.CodeRec (.ref c') qual
end Mine
end

section
open PySem PySem.Calls PySem.W PyProof.Rows
set_option maxRecDepth 100000
set_option Elab.async false
set_option linter.unusedVariables false
namespace Mine
theorem freshRsMake : True := by
  w_top off
  exact True.intro
section
variable {M : Model} {A : Around} {E : Value → Shared → Prop} {s : Shared} {G h₀ : Heap} {L a c P : Addr} {m mg mb : Str → Option Value} {cn : Str} {cs : Scope} {ccd : Value} {cl : List (Str × Addr)} {news : List (Addr × Obj)}
  {p : Program} {loose : List Str} {mean : ExcName → Option Value} {name qual : Str} {params : Arguments} {body : List Stmt} {scope : Scope} {ps : Array Value} {pos : Pos} {firstLine : Nat} {clos : List (Str × Addr)}

theorem make_tab {Q : Value → Shared → Prop} (F : Fr h₀ L s.heap m) (N : News h₀ L s.heap ((P, tabObj ps) :: news)) (hap : ∀ q ∈ news, q.1 ≠ P) (GK : G.StaysIn h₀) (T : Top p loose mean mg mb G) (C : CodeHd G c P) (hcd : ccd = .ref c)
    (tab : ps = #[] ∨ ∃ c' : Addr, ps = #[rawInt pos.line, rawInt pos.col, .ref c'] ∧ h₀.CodeRec (.ref c') qual ∧ G.get? c' = none)
    (hcl : closureFor scope (envX cn cs L a ccd cl) = pure clos)
    (h : ∀ h₀' f c' oc vs t ctv doc h' tk, G.StaysIn h₀' → (∀ b o, b ≠ c' → h₀.get? b = some o → h₀'.get? b = some o) → h₀'.objs.size = h₀.objs.size → Fr h₀' L h' m →
      News h₀' L h' ((f, fnMade name qual params body scope clos doc ((mg "__name__").getD .none) c' ctv) :: (c', oc) :: (P, tabObj #[rawInt pos.line, rawInt pos.col, .ref c']) :: news) →
      oc.data = .fields vs → vs[1]? = some (.str qual t) → G.get? c' = none → h₀.get? f = none → @Ne Nat c' f → @Ne Nat c' P → @Ne Nat P f → (∀ q ∈ news, @Ne Nat q.1 c' ∧ @Ne Nat q.1 f) → (∀ o, h₀.get? c' = some o → o = oc) → Q (.ref f) { s with heap := h', toks := tk }) :
    wpAny M A (makeFunction name qual params (.stmts body) scope (envX cn cs L a ccd cl) [] [] [] pos firstLine) Q E s := by
  have T₀ := T.keeps GK
  have C₀ := C.keeps GK
  rcases tab with rfl | ⟨c', rfl, hrec, hGc⟩
  · refine nest_K F N T₀ C₀ hcd (UpdF.head hap) trivial rfl hcl ?_
    intro f c' oc vs t ctv doc h' tk F' N' hd hv hlt hcf
    have hGc : G.get? c' = none := by
      cases q : G.get? c' with
      | none => rfl
      | some o =>
        have h1 := GK _ _ q
        have h2 := (N' _ (.tail _ (.head _))).2.2
        rw [h1] at h2
        cases h2
    have hPc := hlt _ (.head _)
    refine h h₀ f c' oc vs t ctv doc h' tk GK (fun _ _ _ e => e) rfl F' ?_ hd hv hGc (N' _ (.head _)).2.2 (Nat.ne_of_lt hcf) (Nat.ne_of_gt hPc) (Nat.ne_of_lt (Nat.lt_trans hPc hcf)) (fun q hq => ?_) ?_
    · simpa using N'
    · have := hlt q (.tail _ hq)
      exact ⟨Nat.ne_of_lt this, Nat.ne_of_lt (Nat.lt_trans this hcf)⟩
    · intro o e
      have h2 := (N' _ (.tail _ (.head _))).2.2
      have h3 : h₀.get? c' = none := h2
      rw [h3] at e
      cases e
  · obtain ⟨c₂, oc, vs, t, e2, hoc, hd, hv⟩ := hrec
    cases e2
    refine nestHit_K (c' := c') F N T₀ C₀ hcd (.head _) (by simp [TriplesOk, rawInt]) (by simp [codeAmong, rawInt]) hcl ?_
    intro f ctv doc h' tk F' N' hlt
    have hNc : ∀ q ∈ (f, fnMade name qual params body scope clos doc ((mg "__name__").getD .none) c' ctv) :: (P, tabObj #[rawInt pos.line, rawInt pos.col, .ref c']) :: news, @Ne Nat q.1 c' := fun q hq e => by
      have h1 := (N' q hq).2.2
      have e' : q.1 = c' := e
      rw [e', hoc] at h1
      cases h1
    have hLc : c' ≠ L := fun e => by
      have := Nat.lt_of_lt_of_le (Heap.lt_size hoc) F.above
      rw [e] at this
      exact Nat.lt_irrefl _ this
    have hid : ∀ b o, (h₀.hide c').get? b = some o → h₀.get? b = some o := fun b o e => Heap.of_hide e
    have hid2 : ∀ b o, b ≠ c' → h₀.get? b = some o → (h₀.hide c').get? b = some o := fun b o hb e => hideAll_get [c'] e (by simpa using hb)
    refine h (h₀.hide c') f c' oc vs t ctv doc h' tk (fun b o e => hid2 b o (fun q => by rw [q, hGc] at e; cases e) (GK b o e)) hid2 (Heap.hide_size _ _) ⟨F'.ns, fun b o e => F'.keep b o (hid b o e), Nat.le_trans (Nat.le_of_eq (Heap.hide_size _ _)) F'.above⟩ ?_ hd hv hGc (N' _ (.head _)).2.2
      (Ne.symm (hNc _ (.head _))) (Ne.symm (hNc _ (.tail _ (.head _)))) ?_ ?_ (fun o e => by rw [hoc] at e; exact (Option.some.inj e).symm)
    · have none_of : ∀ b, h₀.get? b = none → (h₀.hide c').get? b = none := fun b e => by
        cases q : (h₀.hide c').get? b with
        | none => rfl
        | some o => rw [hid _ _ q] at e; cases e
      intro q hq
      rcases List.mem_cons.mp hq with rfl | hq
      · have := N' _ (.head _); exact ⟨this.1, this.2.1, none_of _ this.2.2⟩
      · rcases List.mem_cons.mp hq with rfl | hq
        · exact ⟨F'.keep _ _ hoc, hLc, hideAll_none [c'] (.head _)⟩
        · have := N' q (.tail _ hq); exact ⟨this.1, this.2.1, none_of _ this.2.2⟩
    · exact Nat.ne_of_lt (hlt _ (.head _))
    · exact fun q hq => ⟨hNc q (.tail _ (.tail _ hq)), Nat.ne_of_lt (hlt q (.tail _ hq))⟩
end
end Mine
end

section
open PySem PySem.Calls PySem.W PyProof.Rows
set_option maxRecDepth 100000
set_option maxHeartbeats 8000000
set_option Elab.async false
set_option linter.unusedVariables false
set_option linter.unusedSimpArgs false
namespace Mine
theorem freshRsInt2 : True := by
  w_top off
  exact True.intro
def digN (a n : Int) : Nat := (((Builtin.Int.intBits a : Int) + n - 1).fdiv n).toNat
def int2digits (a n : Int) : List Int := if a = 0 then List.replicate (digN a n) 0 else innerFn (digN a n) a 0 (digN a n) n (List.replicate (digN a n) 0)
/-- the table of a code object holds the one def of its body -/
def TabR (G h : Heap) (P : Addr) (line col : Nat) (qual : Str) : Prop :=
  ∃ c' : Addr, h.get? P = some (tabObj #[rawInt line, rawInt col, .ref c']) ∧ h.CodeRec (.ref c') qual ∧ G.get? c' = none
def TabG (G h : Heap) (P : Addr) (line col : Nat) (qual : Str) : Prop := h.get? P = some (tabObj #[]) ∨ TabR G h P line col qual
theorem ints_zero (t : Tok) : ∀ k : Nat, IntsAre (List.replicate k (Value.int 0 t)) (List.replicate k 0)
  | 0 => .nil
  | k + 1 => .cons 0 t (ints_zero t k)
section
variable {prog : Program} {w : World} {G : Heap} {mg mb : Str → Option Value} {p : Program} {loose : List Str} {mean : ExcName → Option Value}
theorem int2_spec (X : (hd.heap_39 w.params).In G) (T : Top p loose mean mg mb G) (C : CodeHd G 34 30) (hG30 : G.get? 30 = none) {a n : Int} (ha : 0 ≤ a) (hab : Builtin.Int.intBits a ≤ 4000) (hn : 0 < n) (hn2 : n ≤ 1000) (hm : digN a n ≤ 64)
    {dp un : Nat} {fs : Option (List Env)} {gd : Option (List Code)} {s : Shared} {Q E : Value → Shared → Prop} {t u : Tok} (GK : G.StaysIn s.heap) (tab : TabG G s.heap 30 32 4 (PySem.Str.ofString "_int2digits.<locals>.inner")) (hr : dp + 70 < recursionLimit) (hu : un + 700 < cLine)
    (hQ : ∀ d ws h' tk, (∀ b o, b ≠ 30 → s.heap.get? b = some o → h'.get? b = some o) → TabR G h' 30 32 4 (PySem.Str.ofString "_int2digits.<locals>.inner") → s.heap.get? d = none → h'.PlainList d ws.toArray → IntsAre ws (int2digits a n) → Q (.ref d) { s with heap := h', toks := tk }) :
    wpAny (model prog w) (Ar dp un fs gd) (call (.ref 35) [.int a t, .int n u]) Q E s := by
  obtain ⟨ps, hps, tab0⟩ : ∃ ps, s.heap.get? 30 = some (tabObj ps) ∧ (ps = #[] ∨ ∃ c' : Addr, ps = #[rawInt (32 : Nat), rawInt (4 : Nat), .ref c'] ∧ (hideAll s.heap [30]).CodeRec (.ref c') (PySem.Str.ofString "_int2digits.<locals>.inner") ∧ G.get? c' = none) := by
    rcases tab with h1 | ⟨c', h1, ⟨c₂, oc, vs, t, e2, hoc, hd, hv⟩, h3⟩
    · exact ⟨_, h1, .inl rfl⟩
    · cases e2
      refine ⟨_, h1, .inr ⟨c', rfl, ⟨c', oc, vs, t, rfl, hideAll_get _ hoc (fun q => ?_), hd, hv⟩, h3⟩⟩
      have q' : c' = 30 := by simpa using q
      rw [q', h1] at hoc
      cases hoc
      cases hd
      simp [rawInt] at hv
  have hGK : G.StaysIn (hideAll s.heap (List.map (fun x => x.fst) [(30, tabObj ps)])) := fun b o e => hideAll_get _ (GK b o e) (fun q => by
    have q' : b = 30 := by simpa using q
    rw [q', hG30] at e; cases e)
  refine' call_hideC (binds := [(PySem.Str.ofString "a", .int a t), (PySem.Str.ofString "n", .int n u)]) [(30, tabObj ps)] (by simpa using hps) X T ?kG ?k6 ?k7 (by show dp < recursionLimit; omega) ?k9 ?kB ?kD ?_ ?c2 ?c3 ?c4
  case k6 => k_is
  case k7 => k_is
  case k9 => exact BindsTo.of_eq rfl
  case kB => exact rfl
  case kD => decide +kernel
  case c2 => rfl
  case c3 => rfl
  case c4 => rfl
  case kG => exact hGK
  intro L h₁ tk0 cells F N Y X' T' hL
  have X'G : G.StaysIn (hideAll s.heap (List.map (fun x => x.fst) [(30, tabObj ps)])) := hGK
  obtain ⟨o3, o2, o1, hE, d3, d2, d1⟩ := CellsAre.three Y
  subst hE
  clear Y
  dsimp only [List.map_cons, List.map_nil, List.cons_append, List.nil_append] at F N X' T'
  have hk0 : 0 ≤ (↑(Builtin.Int.intBits a) + n - 1).fdiv n := by
    rw [Int.fdiv_eq_ediv_of_nonneg _ (by omega)]
    exact Int.ediv_nonneg (by omega) (by omega)
  have hkk : (↑(Builtin.Int.intBits a) + n - 1).fdiv n = (digN a n : Int) := by unfold digN; omega
  repeat' ((fail_if_success (with_reducible show wpAny _ _ (binaryOp Operator.Mult (Value.ref _) _) _ _ _)); (first | (k_unfold; (try dsimp only)) | walk1 | (dsimp only; walk1)))
  rename Fr _ _ _ _ => F2
  rename News _ _ _ _ => N2
  rw [hkk]
  refine KMa.mul (ws := List.replicate (digN a n) (Value.int 0 tk0)) F2 N2 (News.isList (items := #[Value.int 0 tk0]) N2 (.head _)) (by omega) (by omega) (by simpa using (by omega : digN a n ≤ 256)) (by simp) ?_
  intro D h2 F3 N3 lD
  k_lt lD
  have N4 : News (hideAll s.heap (List.map (fun x => x.fst) [(30, tabObj ps)])) L h2 [(D, W.listOf (List.replicate (digN a n) (Value.int 0 tk0)).toArray 0), (L + 1 + 1 + 1, o3), (L + 1 + 1, o2), (L + 1, o1), (30, tabObj ps)] := fun q hq => N3 q (by
    rcases List.mem_cons.mp hq with rfl | hq
    · exact .head _
    · exact .tail _ (.tail _ hq))
  clear F2 N2 N3
  dsimp only
  repeat' ((fail_if_success (with_reducible show wpAny _ _ (exec (Stmt.FunctionDef _ _ _ _ _ _ _ _ _ _) _) _ _ _)); (first | (k_unfold; (try dsimp only)) | walk1 | (dsimp only; walk1)))
  rename_i h3 o2' F5 N5 d2'
  refine nestDef_K rfl rfl rfl ?_
  have N6 : News (hideAll s.heap (List.map (fun x => x.fst) [(30, tabObj ps)])) L h3 ((30, tabObj ps) :: [(D, W.listOf (List.replicate (digN a n) (Value.int 0 tk0)).toArray 0), (L + 1 + 1 + 1, o3), (L + 1 + 1, o2'), (L + 1, o1)]) := fun q hq => N5 q (by
    simp only [List.cons_append, List.nil_append, List.mem_cons, List.not_mem_nil, or_false] at hq ⊢
    rcases hq with h | h | h | h | h <;> simp [h])
  have l30 : @LT.lt Nat _ 30 L := by
    rw [← hL]
    exact Heap.lt_size hps
  clear N5
  refine make_tab (G := G) F5 N6 ?hap X'G T C rfl tab0 rfl ?_
  case hap => k_all
  intro B f c' oc vs t' ctv doc h4 tk4 GB hB hBsz F7 N7 hd hv hGc hff hcf hcP hPf hne hcc
  have XB := X.keeps GB
  have TB := T.keeps GB
  have nD := hne _ (.head _)
  have n3 := hne _ (.tail _ (.head _))
  have n2 := hne _ (.tail _ (.tail _ (.head _)))
  have n1 := hne _ (.tail _ (.tail _ (.tail _ (.head _))))
  dsimp only at nD n3 n2 n1
  clear F5 N6 hne X' T'
  dsimp only
  k_steps
  · rename_i h8 o3' F8 N8 d3' ha0
    have hlen8 : h8.IsList D (List.replicate (digN a n) (Value.int 0 tk0)).toArray := News.isList N8 (.tail _ (.tail _ (.tail _ (.head _))))
    refine len_list hlen8 (by simp; omega) ?_
    k_steps
    have nf8 := N8 _ (.head _)
    have nc8 := N8 _ (.tail _ (.head _))
    have nP8 := N8 _ (.tail _ (.tail _ (.head _)))
    have nD8 := N8 _ (.tail _ (.tail _ (.tail _ (.head _))))
    have n38 := N8 _ (.tail _ (.tail _ (.tail _ (.tail _ (.head _)))))
    have n28 := N8 _ (.tail _ (.tail _ (.tail _ (.tail _ (.tail _ (.head _))))))
    have n18 := N8 _ (.tail _ (.tail _ (.tail _ (.tail _ (.tail _ (.tail _ (.head _)))))))
    dsimp only at nf8 nc8 nP8 nD8 n38 n28 n18
    have F8k : G.StaysIn h8 := fun b o q => F8.keep b o (GB b o q)

    have inner : ∀ (k : Nat) {dp un : Nat} {fs : Option (List Env)} {gd : Option (List Code)} {s' : Shared} {Q' : Value → Shared → Prop} {x : Int} {lo hi : Nat} {t1 t2 t3 : Tok} {ws : List Value} {ds : List Int},
        hi - lo ≤ k → lo < hi → hi ≤ ds.length → ds.length ≤ 64 → 0 ≤ x → Builtin.Int.intBits x ≤ 4000 → dp + k + 1 < recursionLimit → un + 8 * (k + 2) < cLine →
        (∀ b o, b ≠ D → h8.get? b = some o → s'.heap.get? b = some o) → s'.heap.PlainList D ws.toArray → IntsAre ws ds →
        (∀ h' tk ws', (∀ b o, b ≠ D → s'.heap.get? b = some o → h'.get? b = some o) → h'.PlainList D ws'.toArray → IntsAre ws' (innerFn k x lo hi n ds) → Q' .none { s' with heap := h', toks := tk }) →
        wpAny (model prog w) (Ar dp un fs gd) (call (.ref f) [.int x t1, .int lo t2, .int hi t3]) Q' (fun _ _ => False) s' := by
      clear F8 tab tab0 hQ
      intro k
      induction k with
      | zero => intros; omega
      | succ k ih =>
        intro dp un fs gd s' Q' x lo hi t1 t2 t3 ws ds hk hlo hhi h64 hx hxb hr hu KB hPL hI hQ'
        obtain ⟨e, hPLe⟩ := hPL
        have KG : G.StaysIn s'.heap := fun b o q => KB b o (fun z => by rw [z] at q; have := GB _ _ q; rw [nD8.2.2] at this; cases this) (F8k b o q)
        have lD3 : @Ne Nat (L + 1 + 1 + 1) D := by omega
        have lD2 : @Ne Nat (L + 1 + 1) D := by omega
        have lD1 : @Ne Nat (L + 1) D := by omega
        refine' call_cl (binds := [(PySem.Str.ofString "x", .int x t1), (PySem.Str.ofString "L", .int lo t2), (PySem.Str.ofString "R", .int hi t3)]) [(D, W.listOf ws.toArray e), (L + 1 + 1 + 1, o3'), (L + 1 + 1, o2'), (L + 1, o1)] ?hH (KB _ _ (Ne.symm nD.2) nf8.1) ?hcd (T.nolimit.keeps KG) (by show dp < recursionLimit; omega) (BindsTo.of_eq rfl) (locs rfl) ?_ rfl rfl rfl ?c5
        case hH => exact List.forall_mem_cons.mpr ⟨hPLe, List.forall_mem_cons.mpr ⟨KB _ _ lD3 n38.1, List.forall_mem_cons.mpr ⟨KB _ _ lD2 n28.1, List.forall_mem_cons.mpr ⟨KB _ _ lD1 n18.1, List.forall_mem_nil _⟩⟩⟩⟩
        case hcd => exact ⟨c', oc, vs, t', rfl, KB _ _ (Ne.symm nD.1) nc8.1, hd, hv⟩
        case c5 => decide
        intro L2 h₁ F1 N1 hS1 hL2
        have GH : G.StaysIn (hideAll s'.heap [f, D, L + 1 + 1 + 1, L + 1 + 1, L + 1]) := fun b o q => hideAll_get _ (KG b o q) (fun z => by
          have q' := GB _ _ q
          simp only [List.mem_cons, List.not_mem_nil, or_false] at z
          rcases z with z | z | z | z | z
          · rw [z, nf8.2.2] at q'; cases q'
          · rw [z, nD8.2.2] at q'; cases q'
          · rw [z, n38.2.2] at q'; cases q'
          · rw [z, n28.2.2] at q'; cases q'
          · rw [z, n18.2.2] at q'; cases q')
        have XH := X.keeps GH
        have TH := T.keeps GH
        have F2 : Fr (hideAll s'.heap [f, D, L + 1 + 1 + 1, L + 1 + 1, L + 1]) L2 h₁ _ := F1
        have N2 : News (hideAll s'.heap [f, D, L + 1 + 1 + 1, L + 1 + 1, L + 1]) L2 h₁ _ := N1
        clear F1 N1 XB TB
        have hlo64 : (lo : Int) < 64 := by omega
        have hhi64 : (hi : Int) ≤ 64 := by omega
        have hlohi : (lo : Int) < hi := by omega
        have hmid : ((lo : Int) + hi).fdiv (2 ^ Int.toNat 1) = (((lo + hi) / 2 : Nat) : Int) := by
          rw [Int.fdiv_eq_ediv_of_nonneg _ (by decide)]
          simp
        have hml : ((((lo + hi) / 2 : Nat) : Int) - lo) = (((lo + hi) / 2 - lo : Nat) : Int) := by omega
        generalize hsh : (((lo + hi) / 2 - lo : Nat) : Int) * n = sh at *
        have hs0 : 0 ≤ sh := by rw [← hsh]; exact Int.mul_nonneg (by omega) (by omega)
        have hs1 : sh ≤ 64000 := by
          rw [← hsh]
          calc (((lo + hi) / 2 - lo : Nat) : Int) * n ≤ 64 * n := Int.mul_le_mul_of_nonneg_right (by omega) (by omega)
            _ ≤ 64 * 1000 := by omega
            _ = 64000 := by decide
        have KE : ∀ {h2 : Heap} {m2 : Str → Option Value} {o : Obj}, Fr (hideAll s'.heap [f, D, L + 1 + 1 + 1, L + 1 + 1, L + 1]) L2 h2 m2 → h2.get? f = s'.heap.get? f → h2.get? (L + 1 + 1 + 1) = s'.heap.get? (L + 1 + 1 + 1) → h2.get? (L + 1 + 1) = s'.heap.get? (L + 1 + 1) → h2.get? (L + 1) = s'.heap.get? (L + 1) →
            ∀ b o, b ≠ D → s'.heap.get? b = some o → h2.get? b = some o := fun Fx e1 e2 e3 e4 b o hb e => by
          by_cases hz : b ∈ [f, D, L + 1 + 1 + 1, L + 1 + 1, L + 1]
          · simp only [List.mem_cons, List.not_mem_nil, or_false] at hz
            rcases hz with z | z | z | z | z
            · rw [z, e1, ← z, e]
            · exact absurd z hb
            · rw [z, e2, ← z, e]
            · rw [z, e3, ← z, e]
            · rw [z, e4, ← z, e]
          · exact Fx.keep b o (hideAll_get _ e hz)
        have sf := KB _ _ (Ne.symm nD.2) nf8.1
        have s3 := KB _ _ lD3 n38.1
        have s2 := KB _ _ lD2 n28.1
        have s1 := KB _ _ lD1 n18.1
        repeat' ((fail_if_success (with_reducible show wpAny _ _ (binaryOp Operator.RShift _ (Value.int (_ * _) _)) _ _ _)); (first | (k_unfold; (try dsimp only)) | walk1 | (dsimp only; walk1)))
        · rename Fr _ _ _ _ => F3
          rename News _ _ _ _ => N3
          rename IntsAre (ws.set _ _) _ => hI3
          rename (lo : Int) + 1 = hi => hlh
          have e1 : innerFn (k + 1) x lo hi n ds = ds.set lo x := by rw [innerFn, if_pos (by omega)]
          rw [e1] at hQ'
          exact hQ' _ _ _ (KE (o := oc) F3 ((N3 _ (.head _)).1.trans sf.symm) ((N3 _ (.tail _ (.tail _ (.head _)))).1.trans s3.symm) ((N3 _ (.tail _ (.tail _ (.tail _ (.head _))))).1.trans s2.symm) ((N3 _ (.tail _ (.tail _ (.tail _ (.tail _ (.head _)))))).1.trans s1.symm)) ⟨_, (N3 _ (.tail _ (.head _))).1⟩ hI3
        · rename Fr _ _ _ _ => F3
          rename News _ _ _ _ => N3
          rename (lo : Int) + 1 ≠ hi => hlh
          simp only [hmid, hml, hsh] at F3 ⊢
          refine rshift_int hs0 ?_
          repeat' ((fail_if_success (with_reducible show wpAny _ _ (binaryOp Operator.LShift _ _) _ _ _)); (first | (k_unfold; (try dsimp only)) | walk1 | (dsimp only; walk1)))
          refine lshift_int hs0 (by have := intBits_fdiv_le (y := 2 ^ sh.toNat) hxb; omega) ?_
          k_steps
          rename Fr _ _ _ _ => F4
          rename News _ _ _ _ => N4
          simp only [p2_eq, lower_eq hx] at F4 ⊢
          obtain ⟨b0, b1⟩ := fmod_bits (k := sh) hx hxb
          obtain ⟨b2, b3⟩ := fdiv_bits (k := sh) hx hxb
          refine ih (lo := lo) (hi := (lo + hi) / 2) (ds := ds) (by omega) (by omega) (by omega) h64 b0 b1 (by show dp + 1 + k + 1 < recursionLimit; omega) (by show un + 3 + 8 * (k + 2) < cLine; omega)
            (fun b o hb q => KE (o := oc) F4 ((N4 _ (.head _)).1.trans sf.symm) ((N4 _ (.tail _ (.tail _ (.head _)))).1.trans s3.symm) ((N4 _ (.tail _ (.tail _ (.tail _ (.head _))))).1.trans s2.symm) ((N4 _ (.tail _ (.tail _ (.tail _ (.tail _ (.head _)))))).1.trans s1.symm) b o hb (KB b o hb q)) ⟨_, (N4 _ (.tail _ (.head _))).1⟩ hI ?_
          intro h5 tk5 ws5 KB5 hP5 hI5
          obtain ⟨e5, hP5⟩ := hP5
          have nD4 := (N4 _ (.tail _ (.head _))).2
          have F5 := fr_but F4 KB5 nD4.1.symm nD4.2
          have N5 := news_upd1 N4 KB5 (Ne.symm nD.2) (List.forall_mem_cons.mpr ⟨lD3, List.forall_mem_cons.mpr ⟨lD2, List.forall_mem_cons.mpr ⟨lD1, List.forall_mem_nil _⟩⟩⟩) hP5
          clear F4 N4
          dsimp only
          k_steps
          have hl5 := innerFn_length k (x.fmod (p2 sh)) lo ((lo + hi) / 2) n ds
          refine ih (lo := (lo + hi) / 2) (hi := hi) (by omega) (by omega) (by rw [hl5]; exact hhi) (by rw [hl5]; exact h64) b2 b3 (by show dp + 1 + k + 1 < recursionLimit; omega) (by show un + 3 + 8 * (k + 2) < cLine; omega)
            (fun b o hb q => KE (o := oc) F5 ((N5 _ (.head _)).1.trans sf.symm) ((N5 _ (.tail _ (.tail _ (.head _)))).1.trans s3.symm) ((N5 _ (.tail _ (.tail _ (.tail _ (.head _))))).1.trans s2.symm) ((N5 _ (.tail _ (.tail _ (.tail _ (.tail _ (.head _)))))).1.trans s1.symm) b o hb (KB b o hb q)) ⟨_, hP5⟩ hI5 ?_
          intro h6 tk6 ws6 KB6 hP6 hI6
          obtain ⟨e6, hP6⟩ := hP6
          have nD5 := (N5 _ (.tail _ (.head _))).2
          have F6 := fr_but F5 KB6 nD5.1.symm nD5.2
          have N6 := news_upd1 N5 KB6 (Ne.symm nD.2) (List.forall_mem_cons.mpr ⟨lD3, List.forall_mem_cons.mpr ⟨lD2, List.forall_mem_cons.mpr ⟨lD1, List.forall_mem_nil _⟩⟩⟩) hP6
          clear F5 N5
          dsimp only
          k_steps
          have e1 : innerFn (k + 1) x lo hi n ds = innerFn k (x.fdiv (p2 sh)) ((lo + hi) / 2) hi n (innerFn k (x.fmod (p2 sh)) lo ((lo + hi) / 2) n ds) := by
            rw [innerFn, if_neg (by omega), hsh]
          rw [e1] at hQ'
          exact hQ' _ _ _ (KE (o := oc) F6 ((N6 _ (.head _)).1.trans sf.symm) ((N6 _ (.tail _ (.tail _ (.head _)))).1.trans s3.symm) ((N6 _ (.tail _ (.tail _ (.tail _ (.head _))))).1.trans s2.symm) ((N6 _ (.tail _ (.tail _ (.tail _ (.tail _ (.head _)))))).1.trans s1.symm)) ⟨_, hP6⟩ hI6
    have hm1 : 1 ≤ digN a n := by
      have hb1 : 1 ≤ Builtin.Int.intBits a := by unfold Builtin.Int.intBits; simp [ha0]
      have h1 : 1 ≤ (↑(Builtin.Int.intBits a) + n - 1).fdiv n := by
        rw [Int.fdiv_eq_ediv_of_nonneg _ (by omega)]
        exact Int.le_ediv_of_mul_le hn (by omega)
      omega
    have hsz : ((List.replicate (digN a n) (Value.int 0 tk0)).toArray.size : Int) = (digN a n : Nat) := by simp
    rw [hsz]
    refine inner (digN a n) (lo := 0) (hi := digN a n) (ds := List.replicate (digN a n) 0) (by omega) (by omega) (by simp) (by simpa using hm) ha hab (by show dp + 1 + digN a n + 1 < recursionLimit; omega) (by show un + 3 + 8 * (digN a n + 2) < cLine; omega) (fun _ _ _ e => e) ⟨_, nD8.1⟩ (ints_zero _ _) ?_
    intro h9 tk9 ws9 KB9 hP9 hI9
    obtain ⟨e9, hP9⟩ := hP9
    have F9 := fr_but F8 KB9 nD8.2.1.symm nD8.2.2
    have N9 := news_updN [_, _, _] [_, _, _] N8 KB9 (List.forall_mem_cons.mpr ⟨Ne.symm nD.2, List.forall_mem_cons.mpr ⟨Ne.symm nD.1, List.forall_mem_cons.mpr ⟨neN (by omega), List.forall_mem_nil _⟩⟩⟩)
      (List.forall_mem_cons.mpr ⟨neN (by omega), List.forall_mem_cons.mpr ⟨neN (by omega), List.forall_mem_cons.mpr ⟨neN (by omega), List.forall_mem_nil _⟩⟩⟩) hP9
    dsimp only [List.cons_append, List.nil_append] at N9
    clear F8 N8 inner
    dsimp only
    k_steps
    have nc9 := N9 _ (.tail _ (.head _))
    have nP9 := N9 _ (.tail _ (.tail _ (.head _)))
    refine hQ D ws9 _ _ (fun b o hb e => ?_) ⟨c', nP9.1, ⟨c', oc, vs, t', rfl, nc9.1, hd, hv⟩, hGc⟩ ?_ ⟨e9, hP9⟩ (by rw [int2digits, if_neg ha0]; exact hI9)
    · by_cases hbc : b = c'
      · rw [hbc, hcc o (hbc ▸ hideAll_get _ e (by simpa using hb))]
        exact nc9.1
      · exact F9.keep b o (hB b o hbc (hideAll_get _ e (by simpa using hb)))
    · cases q : s.heap.get? D with
      | none => rfl
      | some o =>
        have h1 := hB D o nD.1 (hideAll_get _ q (by simpa using neN (by omega : @Ne Nat D 30)))
        rw [nD8.2.2] at h1
        cases h1
  · rename_i h8 o3' F8 N8 d3' ha0
    have nc9 := N8 _ (.tail _ (.head _))
    have nP9 := N8 _ (.tail _ (.tail _ (.head _)))
    have nD8 := N8 _ (.tail _ (.tail _ (.tail _ (.head _))))
    dsimp only at nD8
    refine hQ D _ _ _ (fun b o hb e => ?_) ⟨c', nP9.1, ⟨c', oc, vs, t', rfl, nc9.1, hd, hv⟩, hGc⟩ ?_ ⟨0, nD8.1⟩ (by rw [int2digits, if_pos ha0]; exact ints_zero _ _)
    · by_cases hbc : b = c'
      · rw [hbc, hcc o (hbc ▸ hideAll_get _ e (by simpa using hb))]
        exact nc9.1
      · exact F8.keep b o (hB b o hbc (hideAll_get _ e (by simpa using hb)))
    · cases q : s.heap.get? D with
      | none => rfl
      | some o =>
        have h1 := hB D o nD.1 (hideAll_get _ q (by simpa using neN (by omega : @Ne Nat D 30)))
        rw [nD8.2.2] at h1
        cases h1
end
end Mine
end

section
open PySem PySem.Calls PySem.W PyProof.Rows
set_option maxRecDepth 100000
set_option maxHeartbeats 8000000
set_option Elab.async false
set_option linter.unusedVariables false
set_option linter.unusedSimpArgs false
namespace Mine
theorem freshRsDig : True := by
  w_top off
  exact True.intro
def d2iFn : Nat → Nat → Nat → Int → List Int → Int
  | 0, _, _, _, _ => 0
  | k + 1, L, R, n, ds => if L + 1 = R then ds.getD L 0 else
      d2iFn k ((L + R) / 2) R n ds * p2 ((((L + R) / 2 - L : Nat) : Int) * n) + d2iFn k L ((L + R) / 2) n ds
def digits2int (ds : List Int) (n : Int) : Int := if ds = [] then 0 else d2iFn ds.length 0 ds.length n ds
theorem p2_bits (n : Int) : Builtin.Int.intBits (p2 n) ≤ n.toNat + 1 := by
  refine intBits_le_iff.mpr ?_
  unfold p2
  rw [Int.natAbs_natCast]
  exact Nat.pow_lt_pow_right (by decide) (Nat.lt_succ_self _)
theorem shift_le {L R : Nat} {n : Int} (hR : R ≤ 64) (hn : 0 < n) (hn2 : n ≤ 1000) : 0 ≤ (((L + R) / 2 - L : Nat) : Int) * n ∧ (((L + R) / 2 - L : Nat) : Int) * n ≤ 64000 := by
  refine ⟨Int.mul_nonneg (by omega) (by omega), ?_⟩
  calc (((L + R) / 2 - L : Nat) : Int) * n ≤ 64 * n := Int.mul_le_mul_of_nonneg_right (by omega) (by omega)
    _ ≤ 64 * 1000 := by omega
    _ = 64000 := by decide
theorem d2i_bits {n : Int} {ds : List Int} (hn : 0 < n) (hn2 : n ≤ 1000) (hds : ∀ d ∈ ds, Builtin.Int.intBits d ≤ 4000) : ∀ k L R, L ≤ 64 → R ≤ 64 → Builtin.Int.intBits (d2iFn k L R n ds) ≤ 4000 + 64002 * k := by
  intro k
  induction k with
  | zero => intro L R hL hR; simp [d2iFn, Builtin.Int.intBits]
  | succ k ih =>
    intro L R hL hR
    rw [d2iFn]
    split
    · rw [List.getD_eq_getElem?_getD]
      cases h : ds[L]? with
      | none => simp [Builtin.Int.intBits]
      | some d => have := hds d (List.mem_of_getElem? h); simp only [Option.getD_some]; omega
    · obtain ⟨s0, s1⟩ := shift_le (L := L) (R := R) hR hn hn2
      generalize (((L + R) / 2 - L : Nat) : Int) * n = sh at *
      have h1 := intBits_mul_le (ih ((L + R) / 2) R (by omega) hR) (p2_bits sh)
      have h2 := intBits_add_le h1 (ih L ((L + R) / 2) hL (by omega))
      omega
section
variable {prog : Program} {w : World} {G : Heap} {mg mb : Str → Option Value} {p : Program} {loose : List Str} {mean : ExcName → Option Value}
theorem dig_spec (X : (hd.heap_39 w.params).In G) (T : Top p loose mean mg mb G) (C : CodeHd G 41 37) (hG37 : G.get? 37 = none) {n : Int} {ld : Addr} {dws : List Value} {ds : List Int} (hIds : IntsAre dws ds) (hds : ∀ d ∈ ds, Builtin.Int.intBits d ≤ 4000) (hn : 0 < n) (hn2 : n ≤ 1000) (hm : ds.length ≤ 64)
    {dp un : Nat} {fs : Option (List Env)} {gd : Option (List Code)} {s : Shared} {Q E : Value → Shared → Prop} {u : Tok} (GK : G.StaysIn s.heap) (tab : TabG G s.heap 37 47 4 (PySem.Str.ofString "_digits2int.<locals>.inner")) (hld : s.heap.IsList ld dws.toArray) (hr : dp + 70 < recursionLimit) (hu : un + 700 < cLine)
    (hQ : ∀ t h' tk, (∀ b o, b ≠ 37 → s.heap.get? b = some o → h'.get? b = some o) → TabR G h' 37 47 4 (PySem.Str.ofString "_digits2int.<locals>.inner") → Q (.int (digits2int ds n) t) { s with heap := h', toks := tk }) :
    wpAny (model prog w) (Ar dp un fs gd) (call (.ref 42) [.ref ld, .int n u]) Q E s := by
  obtain ⟨ps, hps, tab0⟩ : ∃ ps, s.heap.get? 37 = some (tabObj ps) ∧ (ps = #[] ∨ ∃ c' : Addr, ps = #[rawInt (47 : Nat), rawInt (4 : Nat), .ref c'] ∧ (hideAll s.heap [37]).CodeRec (.ref c') (PySem.Str.ofString "_digits2int.<locals>.inner") ∧ G.get? c' = none) := by
    rcases tab with h1 | ⟨c', h1, ⟨c₂, oc, vs, t, e2, hoc, hd, hv⟩, h3⟩
    · exact ⟨_, h1, .inl rfl⟩
    · cases e2
      refine ⟨_, h1, .inr ⟨c', rfl, ⟨c', oc, vs, t, rfl, hideAll_get _ hoc (fun q => ?_), hd, hv⟩, h3⟩⟩
      have q' : c' = 37 := by simpa using q
      rw [q', h1] at hoc
      cases hoc
      cases hd
      simp [rawInt] at hv
  have hGK : G.StaysIn (hideAll s.heap (List.map (fun x => x.fst) [(37, tabObj ps)])) := fun b o e => hideAll_get _ (GK b o e) (fun q => by
    have q' : b = 37 := by simpa using q
    rw [q', hG37] at e; cases e)
  refine' call_hideC (binds := [(PySem.Str.ofString "digits", .ref ld), (PySem.Str.ofString "n", .int n u)]) [(37, tabObj ps)] (by simpa using hps) X T ?kG ?k6 ?k7 (by show dp < recursionLimit; omega) ?k9 ?kB ?kD ?_ ?c2 ?c3 ?c4
  case k6 => k_is
  case k7 => k_is
  case k9 => exact BindsTo.of_eq rfl
  case kB => exact rfl
  case kD => decide +kernel
  case c2 => rfl
  case c3 => rfl
  case c4 => rfl
  case kG => exact hGK
  intro L h₁ tk0 cells F N Y X' T' hL
  have X'G : G.StaysIn (hideAll s.heap (List.map (fun x => x.fst) [(37, tabObj ps)])) := hGK
  obtain ⟨o3, o2, o1, hE, d3, d2, d1⟩ := CellsAre.three Y
  subst hE
  clear Y
  dsimp only [List.map_cons, List.map_nil, List.cons_append, List.nil_append] at F N X' T'
  repeat' ((fail_if_success (with_reducible show wpAny _ _ (exec (Stmt.FunctionDef _ _ _ _ _ _ _ _ _ _) _) _ _ _)); (first | (k_unfold; (try dsimp only)) | walk1 | (dsimp only; walk1)))
  refine nestDef_K rfl rfl rfl ?_
  have N6 : News (hideAll s.heap (List.map (fun x => x.fst) [(37, tabObj ps)])) L h₁ ((37, tabObj ps) :: [(L + 1 + 1 + 1, o3), (L + 1 + 1, o2), (L + 1, o1)]) := fun q hq => N q (by
    simp only [List.cons_append, List.nil_append, List.mem_cons, List.not_mem_nil, or_false] at hq ⊢
    rcases hq with h | h | h | h <;> simp [h])
  have l37 : @LT.lt Nat _ 37 L := by
    rw [← hL]
    exact Heap.lt_size hps
  clear N
  refine make_tab (G := G) F N6 ?hap X'G T C rfl tab0 rfl ?_
  case hap => k_all
  intro B f c' oc vs t' ctv doc h4 tk4 GB hB hBsz F7 N7 hd hv hGc hff hcf hcP hPf hne hcc
  have XB := X.keeps GB
  have TB := T.keeps GB
  have n3 := hne _ (.head _)
  have n2 := hne _ (.tail _ (.head _))
  have n1 := hne _ (.tail _ (.tail _ (.head _)))
  dsimp only at n3 n2 n1
  have hldB : B.IsList ld dws.toArray := by
    obtain ⟨o, ho, hc, r⟩ := hld
    refine ⟨o, hB _ _ (fun z => ?_) (hideAll_get _ ho (fun z => ?_)), hc, r⟩
    · have h1 := hcc o (hideAll_get _ (z ▸ ho) (by simpa using hcP))
      obtain ⟨n', r'⟩ := r
      rw [h1, hd] at r'
      cases r'
    · have z' : ld = 37 := by simpa using z
      rw [z', hps] at ho
      cases ho
      cases hc
  clear F N6 hne X' T'
  dsimp only
  k_steps
  · rename_i h8 o3' F8 N8 d3' hpos
    have nf8 := N8 _ (.head _)
    have nc8 := N8 _ (.tail _ (.head _))
    have nP8 := N8 _ (.tail _ (.tail _ (.head _)))
    have n38 := N8 _ (.tail _ (.tail _ (.tail _ (.head _))))
    have n28 := N8 _ (.tail _ (.tail _ (.tail _ (.tail _ (.head _)))))
    have n18 := N8 _ (.tail _ (.tail _ (.tail _ (.tail _ (.tail _ (.head _))))))
    dsimp only at nf8 nc8 nP8 n38 n28 n18
    have F8k : G.StaysIn h8 := fun b o q => F8.keep b o (GB b o q)
    have B8k : B.StaysIn h8 := F8.keep
    have inner : ∀ (k : Nat) {dp un : Nat} {fs : Option (List Env)} {gd : Option (List Code)} {s' : Shared} {Q' : Value → Shared → Prop} {lo hi : Nat} {t2 t3 : Tok},
        hi - lo ≤ k → lo < hi → hi ≤ ds.length → dp + k + 1 < recursionLimit → un + 8 * (k + 2) < cLine → k ≤ 64 →
        h8.StaysIn s'.heap →
        (∀ t h' tk, s'.heap.StaysIn h' → Q' (.int (d2iFn k lo hi n ds) t) { s' with heap := h', toks := tk }) →
        wpAny (model prog w) (Ar dp un fs gd) (call (.ref f) [.int lo t2, .int hi t3]) Q' (fun _ _ => False) s' := by
      clear F8 tab tab0 hQ
      intro k
      induction k with
      | zero => intros; omega
      | succ k ih =>
        intro dp un fs gd s' Q' lo hi t2 t3 hk hlo hhi hr hu hk64 KB hQ'
        have KG : G.StaysIn s'.heap := fun b o q => KB b o (F8k b o q)
        have sf := KB _ _ nf8.1
        have s3 := KB _ _ n38.1
        have s2 := KB _ _ n28.1
        have s1 := KB _ _ n18.1
        refine' call_cl (binds := [(PySem.Str.ofString "L", .int lo t2), (PySem.Str.ofString "R", .int hi t3)]) [(L + 1 + 1 + 1, o3'), (L + 1 + 1, o2), (L + 1, o1)] ?hH sf ?hcd (T.nolimit.keeps KG) (by show dp < recursionLimit; omega) (BindsTo.of_eq rfl) (locs rfl) ?_ rfl rfl rfl ?c5
        case hH => exact List.forall_mem_cons.mpr ⟨s3, List.forall_mem_cons.mpr ⟨s2, List.forall_mem_cons.mpr ⟨s1, List.forall_mem_nil _⟩⟩⟩
        case hcd => exact ⟨c', oc, vs, t', rfl, KB _ _ nc8.1, hd, hv⟩
        case c5 => decide
        intro L2 h₁ F1 N1 hS1 hL2
        have BH : B.StaysIn (hideAll s'.heap [f, L + 1 + 1 + 1, L + 1 + 1, L + 1]) := fun b o q => hideAll_get _ (KB b o (B8k b o q)) (fun z => by
          simp only [List.mem_cons, List.not_mem_nil, or_false] at z
          rcases z with z | z | z | z
          · rw [z, nf8.2.2] at q; cases q
          · rw [z, n38.2.2] at q; cases q
          · rw [z, n28.2.2] at q; cases q
          · rw [z, n18.2.2] at q; cases q)
        have XH := XB.keeps BH
        have TH := TB.keeps BH
        have hlH : (hideAll s'.heap [f, L + 1 + 1 + 1, L + 1 + 1, L + 1]).IsList ld dws.toArray := hldB.at fun o e => BH _ _ e
        have F2 : Fr (hideAll s'.heap [f, L + 1 + 1 + 1, L + 1 + 1, L + 1]) L2 h₁ _ := F1
        have N2 : News (hideAll s'.heap [f, L + 1 + 1 + 1, L + 1 + 1, L + 1]) L2 h₁ _ := N1
        clear F1 N1 XB TB
        have hlo64 : (lo : Int) < 64 := by omega
        have hhi64 : (hi : Int) ≤ 64 := by omega
        have hlohi : (lo : Int) < hi := by omega
        have hmid : ((lo : Int) + hi).fdiv (2 ^ Int.toNat 1) = (((lo + hi) / 2 : Nat) : Int) := by
          rw [Int.fdiv_eq_ediv_of_nonneg _ (by decide)]
          simp
        have hml : ((((lo + hi) / 2 : Nat) : Int) - lo) = (((lo + hi) / 2 - lo : Nat) : Int) := by omega
        obtain ⟨hs0, hs1⟩ := shift_le (L := lo) (R := hi) (n := n) (by omega) hn hn2
        generalize hsh : (((lo + hi) / 2 - lo : Nat) : Int) * n = sh at *
        have KE : ∀ {h2 : Heap} {m2 : Str → Option Value} {o : Obj}, Fr (hideAll s'.heap [f, L + 1 + 1 + 1, L + 1 + 1, L + 1]) L2 h2 m2 → h2.get? f = s'.heap.get? f → h2.get? (L + 1 + 1 + 1) = s'.heap.get? (L + 1 + 1 + 1) → h2.get? (L + 1 + 1) = s'.heap.get? (L + 1 + 1) → h2.get? (L + 1) = s'.heap.get? (L + 1) →
            s'.heap.StaysIn h2 := fun Fx e1 e2 e3 e4 b o e => by
          by_cases hz : b ∈ [f, L + 1 + 1 + 1, L + 1 + 1, L + 1]
          · simp only [List.mem_cons, List.not_mem_nil, or_false] at hz
            rcases hz with z | z | z | z
            · rw [z, e1, ← z, e]
            · rw [z, e2, ← z, e]
            · rw [z, e3, ← z, e]
            · rw [z, e4, ← z, e]
          · exact Fx.keep b o (hideAll_get _ e hz)
        repeat' ((fail_if_success (with_reducible show wpAny _ _ (call (Value.ref _) _) _ _ _)); (first | (k_unfold; (try dsimp only)) | walk1 | (dsimp only; walk1)))
        · rename (lo : Int) + 1 = hi => hlh
          have e1 : d2iFn (k + 1) lo hi n ds = ds.getD lo 0 := by rw [d2iFn, if_pos (by omega)]
          rw [e1] at hQ'
          exact hQ' _ _ _ hS1
        · rename Fr _ _ _ _ => F3
          rename News _ _ _ _ => N3
          rename (lo : Int) + 1 ≠ hi => hlh
          simp only [hmid, hml, hsh] at F3 ⊢
          refine ih (lo := (lo + hi) / 2) (hi := hi) (by omega) (by omega) hhi (by show dp + 1 + k + 1 < recursionLimit; omega) (by show un + 3 + 8 * (k + 2) < cLine; omega) (by omega)
            (stays_trans KB (KE (o := oc) F3 ((N3 _ (.head _)).1.trans sf.symm) ((N3 _ (.tail _ (.head _))).1.trans s3.symm) ((N3 _ (.tail _ (.tail _ (.head _)))).1.trans s2.symm) ((N3 _ (.tail _ (.tail _ (.tail _ (.head _))))).1.trans s1.symm))) ?_
          intro t5 h5 tk5 k5
          have F5 := F3.keeps k5
          have N5 := N3.grown k5
          clear F3 N3 k5
          have hb1 := d2i_bits hn hn2 hds k ((lo + hi) / 2) hi (by omega) (by omega)
          generalize hA1 : d2iFn k ((lo + hi) / 2) hi n ds = A1 at *
          dsimp only
          repeat' ((fail_if_success (with_reducible show wpAny _ _ (binaryOp Operator.LShift _ _) _ _ _)); (first | (k_unfold; (try dsimp only)) | walk1 | (dsimp only; walk1)))
          refine lshift_int hs0 (by omega) ?_
          repeat' ((fail_if_success (with_reducible show wpAny _ _ (call (Value.ref _) _) _ _ _)); (first | (k_unfold; (try dsimp only)) | walk1 | (dsimp only; walk1)))
          refine ih (lo := lo) (hi := (lo + hi) / 2) (by omega) (by omega) (by omega) (by show dp + 1 + k + 1 < recursionLimit; omega) (by show un + 3 + 8 * (k + 2) < cLine; omega) (by omega)
            (stays_trans KB (KE (o := oc) F5 ((N5 _ (.head _)).1.trans sf.symm) ((N5 _ (.tail _ (.head _))).1.trans s3.symm) ((N5 _ (.tail _ (.tail _ (.head _)))).1.trans s2.symm) ((N5 _ (.tail _ (.tail _ (.tail _ (.head _))))).1.trans s1.symm))) ?_
          intro t6 h6 tk6 k6
          have F6 := F5.keeps k6
          have N6 := N5.grown k6
          clear F5 N5 k6
          dsimp only
          k_steps
          have e1 : d2iFn (k + 1) lo hi n ds = A1 * p2 sh + d2iFn k lo ((lo + hi) / 2) n ds := by
            rw [d2iFn, if_neg (by omega), hsh, hA1]
          rw [e1, ← p2_eq] at hQ'
          exact hQ' _ _ _ (KE (o := oc) F6 ((N6 _ (.head _)).1.trans sf.symm) ((N6 _ (.tail _ (.head _))).1.trans s3.symm) ((N6 _ (.tail _ (.tail _ (.head _)))).1.trans s2.symm) ((N6 _ (.tail _ (.tail _ (.tail _ (.head _))))).1.trans s1.symm))
    refine inner ds.length (lo := 0) (hi := ds.length) (by omega) hpos (Nat.le_refl _) (by show dp + 1 + ds.length + 1 < recursionLimit; omega) (by show un + 3 + 8 * (ds.length + 2) < cLine; omega) hm (fun _ _ e => e) ?_
    intro t9 h9 tk9 k9
    dsimp only at k9 ⊢
    have e1 : digits2int ds n = d2iFn ds.length 0 ds.length n ds := by
      rw [digits2int, if_neg (fun z => by rw [z] at hpos; exact absurd hpos (by decide))]
    rw [e1] at hQ
    refine hQ _ _ _ (fun b o hb e => ?_) ⟨c', k9 _ _ nP8.1, ⟨c', oc, vs, t', rfl, k9 _ _ nc8.1, hd, hv⟩, hGc⟩
    by_cases hbc : b = c'
    · rw [hbc, hcc o (hbc ▸ hideAll_get _ e (by simpa using hb))]
      exact k9 _ _ nc8.1
    · exact k9 _ _ (F8.keep b o (hB b o hbc (hideAll_get _ e (by simpa using hb))))
  · rename_i h8 o3' F8 N8 d3' hpos
    have nc8 := N8 _ (.tail _ (.head _))
    have nP8 := N8 _ (.tail _ (.tail _ (.head _)))
    have e1 : digits2int ds n = 0 := by
      rw [digits2int, if_pos (List.length_eq_zero_iff.mp (by omega))]
    rw [e1] at hQ
    refine hQ _ _ _ (fun b o hb e => ?_) ⟨c', nP8.1, ⟨c', oc, vs, t', rfl, nc8.1, hd, hv⟩, hGc⟩
    by_cases hbc : b = c'
    · rw [hbc, hcc o (hbc ▸ hideAll_get _ e (by simpa using hb))]
      exact nc8.1
    · exact F8.keep b o (hB b o hbc (hideAll_get _ e (by simpa using hb)))
end
end Mine
end

section
open PySem PySem.Calls PySem.W PyProof.Rows
set_option maxRecDepth 100000
set_option Elab.async false
set_option linter.unusedVariables false
namespace Mine
theorem freshRsTabs : True := by
  w_top off
  exact True.intro
/-- a code object's record of this name -/
def IsRec (qual : Str) (o : Obj) : Prop := ∃ vs t, o.data = .fields vs ∧ vs[1]? = some (.str qual t)
theorem rec_of {h : Heap} {c : Addr} {q : Str} (x : h.CodeRec (.ref c) q) : ∃ oc, h.get? c = some oc ∧ IsRec q oc := by
  obtain ⟨c₂, oc, vs, t, e2, hoc, hd, hv⟩ := x
  cases e2
  exact ⟨oc, hoc, vs, t, hd, hv⟩
theorem of_rec {h : Heap} {c : Addr} {q : Str} {oc : Obj} (e : h.get? c = some oc) (x : IsRec q oc) : h.CodeRec (.ref c) q := by
  obtain ⟨vs, t, hd, hv⟩ := x
  exact ⟨c, oc, vs, t, rfl, e, hd, hv⟩
theorem not_rec_seq {q : Str} {cls : Value} {d : Option Addr} {xs : Array Value} {n : Nat} {sl : Array (Option Value)} : ¬ IsRec q ⟨cls, d, .seq xs n, sl⟩ := fun ⟨_, _, h, _⟩ => by cases h
theorem not_rec_tab0 {q : Str} : ¬ IsRec q (tabObj #[]) := fun ⟨vs, t, h, h2⟩ => by cases h; simp at h2
theorem not_rec_tab {q : Str} {l c : Nat} {v : Value} : ¬ IsRec q (tabObj #[rawInt l, rawInt c, v]) := fun ⟨vs, t, h, h2⟩ => by cases h; simp [rawInt] at h2
theorem not_rec_other {q q' : Str} {o : Obj} (x : IsRec q o) (h : q ≠ q') : ¬ IsRec q' o := fun ⟨vs, t, h1, h2⟩ => by
  obtain ⟨vs', t', h3, h4⟩ := x
  rw [h1] at h3
  cases h3
  rw [h2] at h4
  cases h4
  exact h rfl

/-- behind a call that has turned one table: the code object is laid open too -/
theorem rebase1 {G h₀ h h' : Heap} {L P c' : Addr} {m : Str → Option Value} {o o' oc : Obj} {q : Str} {news : List (Addr × Obj)} (F : Fr h₀ L h m) (N : News h₀ L h ((P, o) :: news)) (KB : ∀ b o, b ≠ P → h.get? b = some o → h'.get? b = some o)
    (hnP : ∀ p ∈ news, p.1 ≠ P) (hP : h'.get? P = some o') (ho' : ¬ IsRec q o') (hc : h'.get? c' = some oc) (hoc : IsRec q oc) (hnr : ∀ p ∈ news, ¬ IsRec q p.2) (GK : G.StaysIn h₀) (hGc : G.get? c' = none) :
    ∃ B, G.StaysIn B ∧ (∀ b o, b ≠ c' → h₀.get? b = some o → B.get? b = some o) ∧ (∀ b o, B.get? b = some o → h₀.get? b = some o) ∧ Fr B L h' m ∧ News B L h' ((c', oc) :: (P, o') :: news) ∧ (∀ p ∈ (P, o') :: news, p.1 ≠ c') := by
  have nP := N _ (.head _)
  have hLP : L ≠ P := nP.2.1.symm
  have F' : Fr h₀ L h' m := fr_but F KB hLP nP.2.2
  have hcP : c' ≠ P := fun e => by rw [e, hP] at hc; cases hc; exact ho' hoc
  have hcL : c' ≠ L := fun e => by
    obtain ⟨oL, es, ep, hL, hd, _⟩ := F'.ns
    rw [e, hL] at hc
    cases hc
    obtain ⟨vs, t, h1, _⟩ := hoc
    rw [hd] at h1
    cases h1
  have hcn : ∀ p ∈ news, p.1 ≠ c' := fun p hp e => by
    have h1 := KB _ _ (hnP p hp) (N p (.tail _ hp)).1
    rw [e, hc] at h1
    cases h1
    exact hnr p hp hoc
  have hid : ∀ b o, (h₀.hide c').get? b = some o → h₀.get? b = some o := fun b o e => Heap.of_hide e
  have hid2 : ∀ b o, b ≠ c' → h₀.get? b = some o → (h₀.hide c').get? b = some o := fun b o hb e => hideAll_get [c'] e (by simpa using hb)
  have none_of : ∀ b, h₀.get? b = none → (h₀.hide c').get? b = none := fun b e => by
    cases q : (h₀.hide c').get? b with
    | none => rfl
    | some o => rw [hid _ _ q] at e; cases e
  refine ⟨h₀.hide c', fun b o e => hid2 b o (fun z => by rw [z, hGc] at e; cases e) (GK b o e), hid2, hid, ⟨F'.ns, fun b o e => F'.keep b o (hid b o e), Nat.le_trans (Nat.le_of_eq (Heap.hide_size _ _)) F'.above⟩, ?_, ?_⟩
  · intro p hp
    rcases List.mem_cons.mp hp with rfl | hp
    · exact ⟨hc, hcL, hideAll_none [c'] (.head _)⟩
    · rcases List.mem_cons.mp hp with rfl | hp
      · exact ⟨hP, nP.2.1, none_of _ nP.2.2⟩
      · have h1 := N p (.tail _ hp)
        exact ⟨KB _ _ (hnP p hp) h1.1, h1.2.1, none_of _ h1.2.2⟩
  · intro p hp
    rcases List.mem_cons.mp hp with rfl | hp
    · exact hcP.symm
    · exact hcn p hp

theorem fr_name {h₀ h : Heap} {L : Addr} {m : Str → Option Value} (F : Fr h₀ L h m) : ∃ m', m' = m ∧ Fr h₀ L h m' := ⟨m, rfl, F⟩
theorem map_put {m : Str → Option Value} {x : Str} {v : Value} (h : m x = some v) : m = fun y => if y = x then some v else m y := by
  funext y
  by_cases hy : y = x
  · rw [if_pos hy, hy, h]
  · rw [if_neg hy]
theorem fr_put {h₀ h : Heap} {L : Addr} {m : Str → Option Value} (F : Fr h₀ L h m) {x : Str} {v : Value} (hv : m x = some v) : Fr h₀ L h (fun y => if y = x then some v else m y) := by
  rw [← map_put hv]; exact F
theorem news_new {h₀ h h' : Heap} {B : Heap} {L d : Addr} {m : Str → Option Value} {o : Obj} {news : List (Addr × Obj)} (F : Fr h₀ L h m) (hB : ∀ b o, B.get? b = some o → h₀.get? b = some o) (N : News B L h' news) (hd : h'.get? d = some o) (hn : h.get? d = none) : News B L h' ((d, o) :: news) := by
  intro p hp
  rcases List.mem_cons.mp hp with rfl | hp
  · refine ⟨hd, fun e => ?_, ?_⟩
    · obtain ⟨oL, _, _, hL, _⟩ := F.ns
      have e' : d = L := e
      rw [e', hL] at hn; cases hn
    · cases q : B.get? d with
      | none => rfl
      | some o' => rw [F.keep _ _ (hB _ _ q)] at hn; cases hn
  · exact N p hp
section
variable {prog : Program} {w : World} {A : Around} {s : Shared} {K : Frag} {G : Heap} {mg mb : Str → Option Value} {p : Program} {loose : List Str} {mean : ExcName → Option Value} {Q E : Value → Shared → Prop}
/-- a call of a def of the top's without cells, some objects lying open -/
theorem call_hide {name qual : Str} {params : Arguments} {body : List Stmt} {scope : Scope} {dV kV doc pm cdv ct oc : Value} {an od : Option Addr} {osl : Array (Option Value)} {f : Addr} {pos : List Value} {binds : List (Str × Value)} (H : List (Addr × Obj)) (hH : ∀ p ∈ H, s.heap.get? p.1 = some p.2)
    (X₀ : K.In G) (T : Top p loose mean mg mb G) (GK : G.StaysIn (hideAll s.heap (H.map (·.1))))
    (ho : K.lookup f = some ⟨oc, od, .func (fnOf name qual params body scope dV kV doc pm an cdv ct), osl⟩) (hcd : codeIn K cdv qual = true) (hroom : A.depth < recursionLimit)
    (hbind : BindsTo s (fnOf name qual params body scope dV kV doc pm an cdv ct) ⟨pos, []⟩ binds) (hloc : ∀ y ∈ binds, scope.names.lookup y.1 = some .local)
    (h : ∀ L h₁, Fr (hideAll s.heap (H.map (·.1))) L h₁ (fun y => binds.reverse.lookup y) → News (hideAll s.heap (H.map (·.1))) L h₁ H → K.In (hideAll s.heap (H.map (·.1))) → Top p loose mean mg mb (hideAll s.heap (H.map (·.1))) → s.heap.StaysIn h₁ → s.heap.objs.size = L →
      wpAny (model prog w) (A.deeper (envOf qual scope L f cdv)) (execs body (envOf qual scope L f cdv))
        (fun fl s' => Q (match fl with | .ret v => v | _ => .none) s') (fun _ _ => False)
        { s with heap := h₁, toks := s.toks + binds.length })
    (hco : scope.isCoroutine = false) (hgen : scope.isGenerator = false) (hk : scope.kind = .function)
    (hcell : ∀ x ∈ scope.names, x.2 ≠ .cell) : wpAny (model prog w) A (call (.ref f) pos) Q E s := by
  have GS : G.StaysIn s.heap := fun b o e => of_hideAll _ (GK b o e)
  refine wpAny_call (codeAny_call_def (fd := fnOf name qual params body scope dV kV doc pm an cdv ct) (body := body) (binds := binds) hroom (X₀.keeps GS _ _ ho) rfl (T.nolimit.keeps GS) (codeRec_of (X₀.keeps GS) hcd) rfl hbind hcell hloc (fun h₁ hns hk₁ => ?_) hco hgen hk)
  exact wpAny_mono (h s.heap.objs.size h₁ ⟨hns, fun b o e => hk₁ b o (of_hideAll _ e), Nat.le_of_eq (hideAll_size _ _)⟩ (fun q hq => ⟨hk₁ _ _ (hH q hq), Nat.ne_of_lt (Heap.lt_size (hH q hq)), hideAll_none _ (List.mem_map_of_mem hq)⟩) (X₀.keeps GK) (T.keeps GK) hk₁ rfl) (fun _ _ q => q) fun _ _ q => q.elim
end
end Mine
end

section
open PySem PySem.Calls PySem.W PyProof.Rows
set_option maxRecDepth 100000
set_option maxHeartbeats 8000000
set_option Elab.async false
set_option linter.unusedVariables false
set_option linter.unusedSimpArgs false
namespace Mine
theorem freshRsDivm : True := by
  w_top off
  exact True.intro
abbrev q30 : Str := PySem.Str.ofString "_int2digits.<locals>.inner"
abbrev q37 : Str := PySem.Str.ofString "_digits2int.<locals>.inner"
/-- the rest and the quotients' digits, digit by digit -/
def divLoop (b n : Int) : List Int → Int → List Int → List Int × Int
  | [], r, qs => (qs, r)
  | d :: ds, r, qs => divLoop b n ds ((r * p2 n + d).fmod b) (qs ++ [(r * p2 n + d).fdiv b])
def divmodPos (a b : Int) : Int × Int :=
  (digits2int (divLoop b (Builtin.Int.intBits b) (int2digits a (Builtin.Int.intBits b)).reverse 0 []).1.reverse (Builtin.Int.intBits b), (divLoop b (Builtin.Int.intBits b) (int2digits a (Builtin.Int.intBits b)).reverse 0 []).2)
theorem innerFn_bits {m : Nat} : ∀ k x L R n ds, 0 ≤ x → Builtin.Int.intBits x ≤ m → (∀ d ∈ ds, Builtin.Int.intBits d ≤ m) → ∀ d ∈ innerFn k x L R n ds, Builtin.Int.intBits d ≤ m := by
  intro k
  induction k with
  | zero => intro x L R n ds _ _ h; exact h
  | succ k ih =>
    intro x L R n ds hx hb h
    rw [innerFn]
    split
    · intro d hd
      rcases List.mem_or_eq_of_mem_set hd with h1 | h1
      · exact h d h1
      · rw [h1]; exact hb
    · obtain ⟨b0, b1⟩ := fmod_bits (k := (((L + R) / 2 - L : Nat) : Int) * n) hx hb
      obtain ⟨b2, b3⟩ := fdiv_bits (k := (((L + R) / 2 - L : Nat) : Int) * n) hx hb
      exact ih _ _ _ _ _ b2 b3 (ih _ _ _ _ _ b0 b1 h)
theorem int2_bits {a n : Int} {m : Nat} (ha : 0 ≤ a) (hb : Builtin.Int.intBits a ≤ m) : ∀ d ∈ int2digits a n, Builtin.Int.intBits d ≤ m := by
  have h0 : ∀ k, ∀ d ∈ List.replicate k (0 : Int), Builtin.Int.intBits d ≤ m := fun k d hd => by rw [List.eq_of_mem_replicate hd]; simp [Builtin.Int.intBits]
  rw [int2digits]
  split
  · exact h0 _
  · exact innerFn_bits _ _ _ _ _ _ ha hb (h0 _)
theorem int2_length {a n : Int} : (int2digits a n).length = digN a n := by
  rw [int2digits]
  split
  · simp
  · rw [innerFn_length]; simp
theorem divLoop_len {b n : Int} : ∀ ds r qs, (divLoop b n ds r qs).1.length = qs.length + ds.length := by
  intro ds
  induction ds with
  | nil => intro r qs; simp [divLoop]
  | cons d ds ih => intro r qs; rw [divLoop, ih]; simp; omega
section
variable {prog : Program} {w : World} {G : Heap} {mg mb : Str → Option Value} {p : Program} {loose : List Str} {mean : ExcName → Option Value}
theorem divp_spec (X : (hd.heap_39 w.params).In G) (T : Top p loose mean mg mb G) (C30 : CodeHd G 34 30) (C37 : CodeHd G 41 37) (hG30 : G.get? 30 = none) (hG37 : G.get? 37 = none) {a b : Int} (ha : 0 ≤ a) (hab : Builtin.Int.intBits a ≤ 3000) (hb : 0 < b) (hb2 : Builtin.Int.intBits b ≤ 1000) (hm : digN a (Builtin.Int.intBits b) ≤ 64)
    {dp un : Nat} {fs : Option (List Env)} {gd : Option (List Code)} {s : Shared} {Q E : Value → Shared → Prop} {t u : Tok} (GK : G.StaysIn s.heap) (tab30 : TabG G s.heap 30 32 4 q30) (tab37 : TabG G s.heap 37 47 4 q37) (hr : dp + 80 < recursionLimit) (hu : un + 800 < cLine)
    (hQ : ∀ d t1 t2 h' tk, (∀ b o, b ≠ 30 → b ≠ 37 → s.heap.get? b = some o → h'.get? b = some o) → TabR G h' 30 32 4 q30 → TabR G h' 37 47 4 q37 → s.heap.get? d = none → h'.get? d = some (tupObj #[.int (divmodPos a b).1 t1, .int (divmodPos a b).2 t2]) → Q (.ref d) { s with heap := h', toks := tk }) :
    wpAny (model prog w) (Ar dp un fs gd) (call (.ref 49) [.int a t, .int b u]) Q E s := by
  have tabOf : ∀ {P : Addr} {l : Nat} {q : Str}, TabG G s.heap P l 4 q → ∃ ps, s.heap.get? P = some (tabObj ps) ∧ (∀ q', ¬ IsRec q' (tabObj ps)) := by
    intro P l q h
    rcases h with h | ⟨c', h, _⟩
    · exact ⟨_, h, fun _ => not_rec_tab0⟩
    · exact ⟨_, h, fun _ => not_rec_tab⟩
  obtain ⟨ps30, h30, nr30⟩ := tabOf tab30
  obtain ⟨ps37, h37, nr37⟩ := tabOf tab37
  have hGK : G.StaysIn (hideAll s.heap (List.map (fun x => x.fst) [(30, tabObj ps30), (37, tabObj ps37)])) := fun b o e => hideAll_get _ (GK b o e) (fun q => by
    have q' : b = 30 ∨ b = 37 := by simpa using q
    rcases q' with q' | q'
    · rw [q', hG30] at e; cases e
    · rw [q', hG37] at e; cases e)
  refine' call_hide (binds := [(PySem.Str.ofString "a", .int a t), (PySem.Str.ofString "b", .int b u)]) [(30, tabObj ps30), (37, tabObj ps37)] ?hH X T hGK ?k6 ?k7 (by show dp < recursionLimit; omega) ?k9 ?kB ?_ ?c2 ?c3 ?c4 ?c5
  case hH => exact List.forall_mem_cons.mpr ⟨h30, List.forall_mem_cons.mpr ⟨h37, List.forall_mem_nil _⟩⟩
  case k6 => k_is
  case k7 => k_is
  case k9 => exact BindsTo.of_eq rfl
  case kB => exact locs rfl
  case c2 => rfl
  case c3 => rfl
  case c4 => rfl
  case c5 => decide
  intro L h₁ F N X' T' hS hL
  have hn1 : 1 ≤ Builtin.Int.intBits b := by unfold Builtin.Int.intBits; simp [Int.ne_of_gt hb]
  k_steps
  rename Fr _ _ _ _ => F2
  rename News _ _ _ _ => N2
  rename_i h2
  have recKeep : ∀ {c : Addr} {oc : Obj} {q : Str}, s.heap.get? c = some oc → IsRec q oc → h2.get? c = some oc := fun {c oc q} e r => F2.keep _ _ (hideAll_get _ e (fun z => by
    have z' : c = 30 ∨ c = 37 := by simpa using z
    rcases z' with z' | z'
    · rw [z', h30] at e; cases e; exact nr30 _ r
    · rw [z', h37] at e; cases e; exact nr37 _ r))
  have tabHere : ∀ {P : Addr} {l : Nat} {q : Str}, h2.get? P = s.heap.get? P → TabG G s.heap P l 4 q → TabG G h2 P l 4 q := by
    intro P l q e h
    rcases h with h | ⟨c', h, hr, hg⟩
    · exact .inl (e.trans h)
    · obtain ⟨oc, hoc, ir⟩ := rec_of hr
      exact .inr ⟨c', e.trans h, of_rec (recKeep hoc ir) ir, hg⟩
  have nn30 := N2 _ (.head _)
  have nn37 := N2 _ (.tail _ (.head _))
  dsimp only at nn30 nn37
  have tb37 := tabHere (nn37.1.trans h37.symm) tab37
  refine int2_spec X T C30 hG30 ha (by omega) (by omega) (by omega) hm (stays_trans hGK F2.keep) (tabHere (nn30.1.trans h30.symm) tab30) (by show dp + 1 + 70 < recursionLimit; omega) (by show un + 3 + 700 < cLine; omega) ?_
  intro da ws h3 tk3 KB3 tR3 hda hPL hI
  obtain ⟨c1, hP3, hrec3, hGc1⟩ := tR3
  obtain ⟨oc1, hoc1, ir1⟩ := rec_of hrec3
  obtain ⟨e3, hPL⟩ := hPL
  obtain ⟨B1, GB1, hB1, hB1', F3, N3, hnc1⟩ := rebase1 (q := q30) F2 N2 KB3 (List.forall_mem_cons.mpr ⟨by show (37 : Nat) ≠ 30; decide, List.forall_mem_nil _⟩) hP3 not_rec_tab hoc1 ir1 (List.forall_mem_cons.mpr ⟨nr37 _, List.forall_mem_nil _⟩) hGK hGc1
  have N4 := news_new F2 hB1' N3 hPL hda
  have hc30 : (30 : Nat) ≠ c1 := hnc1 _ (.head _)
  have hc37 : (37 : Nat) ≠ c1 := hnc1 _ (.tail _ (.head _))
  have keepB : ∀ x o, x ≠ 30 → x ≠ 37 → s.heap.get? x = some o → (hideAll s.heap (List.map (fun x => x.fst) [(30, tabObj ps30), (37, tabObj ps37)])).get? x = some o := fun x o h1 h2 e => hideAll_get _ e (by simpa using And.intro h1 h2)
  have base1 : ∀ x o, x ≠ 30 → x ≠ 37 → x ≠ c1 → s.heap.get? x = some o → B1.get? x = some o := fun x o h1 h2 h3 e => hB1 x o h3 (keepB x o h1 h2 e)
  have isc1 : ∀ o, s.heap.get? c1 = some o → o = oc1 := fun o e => by
    have h1 := KB3 c1 o (Ne.symm hc30) (F2.keep _ _ (keepB c1 o (Ne.symm hc30) (Ne.symm hc37) e))
    rw [hoc1] at h1
    exact (Option.some.inj h1).symm
  have tabNow : ∀ {h : Heap} {m : Str → Option Value}, Fr B1 L h m → h.get? 37 = some (tabObj ps37) → TabG G h 37 47 4 q37 := by
    intro h m Fx e37
    rcases tab37 with h1 | ⟨c', h1, hrc, hg⟩
    · exact .inl (e37.trans (h37.symm.trans h1))
    · obtain ⟨oc, hoc, ir⟩ := rec_of hrc
      have z30 : c' ≠ 30 := fun z => by rw [z, h30] at hoc; cases hoc; exact nr30 _ ir
      have z37 : c' ≠ 37 := fun z => by rw [z, h37] at hoc; cases hoc; exact nr37 _ ir
      have zc1 : c' ≠ c1 := fun z => by
        rw [z] at hoc
        rw [isc1 _ hoc] at ir
        exact not_rec_other ir1 (by decide) ir
      exact .inr ⟨c', e37.trans (h37.symm.trans h1), of_rec (Fx.keep _ _ (base1 _ _ z30 z37 zc1 hoc)) ir, hg⟩
  have XB := X.keeps GB1
  have TB := T.keeps GB1
  have hdbits := int2_bits (n := Builtin.Int.intBits b) ha hab
  have hdlen : (int2digits a (Builtin.Int.intBits b)).length ≤ 64 := by rw [int2_length]; exact hm
  generalize hdsE : int2digits a (Builtin.Int.intBits b) = ds at *
  generalize hnE : (Builtin.Int.intBits b : Int) = n at *
  dsimp only
  repeat' ((fail_if_success (with_reducible show wpAny _ _ (exec (Stmt.For _ _ _ _ _) _) _ _ _)); (first | (k_unfold; (try dsimp only)) | walk1 | (dsimp only; walk1)))
  rename_i h4 tk4 h5 lq h6 lql h7 F5 N5
  refine wpAny_For ?_
  k_steps
  rename_i I h8 F8 N8 lI
  try clear N3
  obtain ⟨m5, hm5, F8⟩ := fr_name F8
  have v1 : m5 (PySem.Str.ofString "q_digits") = some (.ref lq) := by rw [hm5]; rfl
  obtain ⟨tn, v2⟩ : ∃ tn, m5 (PySem.Str.ofString "n") = some (.int n tn) := ⟨_, by rw [hm5]; rfl⟩
  have v3 : m5 (PySem.Str.ofString "b") = some (.int b u) := by rw [hm5]; rfl
  obtain ⟨tr, v4⟩ : ∃ tr, m5 (PySem.Str.ofString "r") = some (.int 0 tr) := ⟨_, by rw [hm5]; rfl⟩
  clear hm5
  have nI := N8 _ (.head _)
  have nda := N8 _ (.tail _ (.tail _ (.head _)))
  dsimp only at nI nda
  have hIL : @Ne Nat L I := nI.2.1.symm
  have hdaL : @Ne Nat L da := nda.2.1.symm
  have hlda : h8.IsList da ws.toArray := ⟨_, nda.1, rfl, _, rfl⟩
  have hwl : ws.length = ds.length := hI.length
  refine wpAny_pyIter_revIter (l := da) (i := (ws.length : Int) - 1) ⟨_, nI.1, rfl, rfl⟩ ?_
  refine for_walk (m := m5) (Walks.listRev (prog := prog) (w := w) rfl I da (Nat.ne_of_lt lI.2.1) ws.toArray) rfl rfl (by show L ∉ [I, da]; simp [hIL, hdaL])
    (fun i m h => ∃ r tr qs vq eq, Fr B1 L h m ∧ m (PySem.Str.ofString "q_digits") = some (.ref lq) ∧ m (PySem.Str.ofString "n") = some (.int n tn) ∧ m (PySem.Str.ofString "b") = some (.int b u) ∧ m (PySem.Str.ofString "r") = some (.int r tr) ∧
      News B1 L h [(lq, W.listOf (List.toArray vq) eq), (da, { cls := .type "list", data := .seq ws.toArray e3 }), (c1, oc1), (30, tabObj #[rawInt (32 : Nat), rawInt (4 : Nat), Value.ref c1]), (37, tabObj ps37)] ∧ IntsAre vq qs ∧
      divLoop b n (ds.reverse.drop i) r qs = divLoop b n ds.reverse 0 [] ∧ 0 ≤ r ∧ r < b ∧ (∀ q ∈ qs, Builtin.Int.intBits q ≤ 4000) ∧ qs.length = i)
    (fun i m h ⟨_, _, _, _, _, F', _⟩ => F'.ns) ?_ ?_ ?_ ?_ ?_
  · rintro i m h h' ⟨r, tr, qs, vq, eq, F1, a1, a2, a3, a4, N1, a5⟩ k
    exact ⟨r, tr, qs, vq, eq, fr_frame F1 k (by simpa using hIL) (by simpa using nI.2.2), a1, a2, a3, a4, news_frame N1 k (List.forall_mem_cons.mpr ⟨by simpa using neN (Nat.ne_of_lt lI.1), List.forall_mem_cons.mpr ⟨by simpa using neN (Nat.ne_of_lt lI.2.1), List.forall_mem_cons.mpr ⟨by simpa using neN (Nat.ne_of_lt lI.2.2.1), List.forall_mem_cons.mpr ⟨by simpa using neN (Nat.ne_of_lt lI.2.2.2.1), List.forall_mem_cons.mpr ⟨by simpa using neN (Nat.ne_of_lt lI.2.2.2.2), List.forall_mem_nil _⟩⟩⟩⟩⟩), a5⟩
  · exact ⟨0, tr, [], [], 0, F8, v1, v2, v3, v4, fun q hq => N8 q (.tail _ hq), .nil, rfl, by omega, hb, (fun q hq => absurd hq List.not_mem_nil), rfl⟩
  · exact ⟨Nat.zero_le _, ⟨_, nI.1, rfl, by simp [revObj]⟩, hlda⟩
  · rintro i v m h h' tk hi hv ⟨r, tr, qs, vq, eq, F1, a1, a2, a3, a4, N1, hIq, hdv, hr0, hrb, hqb, hql⟩ hns hs hst
    obtain ⟨d, td, rfl, hd⟩ := IntsAre.at hI _ v (by simpa using hv)
    have hi' : i < ds.length := by rw [← hwl]; simpa using hi
    have hdr : ds.reverse[i]? = some d := by
      rw [List.getElem?_reverse hi', ← hwl]
      simpa using hd
    have hs' : Heap.SameBut L h h' := hs
    obtain ⟨hi1, ⟨oI, hoI, hIr⟩, hla⟩ := hst
    have F2 := fr_put (fr_put (fr_put (fr_put (F1.set hns hs') (x := PySem.Str.ofString "b") (v := .int b u) a3) (x := PySem.Str.ofString "n") (v := .int n tn) a2) (x := PySem.Str.ofString "q_digits") (v := .ref lq) a1) (x := PySem.Str.ofString "r") (v := .int r tr) a4
    have N2 := N1.set hs'
    have N3 : News B1 L h' [(I, oI), (lq, W.listOf (List.toArray vq) eq), (da, { cls := .type "list", data := .seq ws.toArray e3 }), (c1, oc1), (30, tabObj #[rawInt (32 : Nat), rawInt (4 : Nat), Value.ref c1]), (37, tabObj ps37)] := fun q hq => by
      rcases List.mem_cons.mp hq with rfl | hq
      · exact ⟨hoI, nI.2⟩
      · exact N2 q hq
    clear F1 N1 N2 N8
    have hrbits : Builtin.Int.intBits r ≤ 1000 := intBits_le_of_natAbs (by omega) hb2
    have hdb : Builtin.Int.intBits d ≤ 3000 := hdbits d (List.mem_of_getElem? hd)
    dsimp only
    repeat' ((fail_if_success (with_reducible show wpAny _ _ (binaryOp Operator.LShift _ _) _ _ _)); (first | (k_unfold; (try dsimp only)) | walk1 | (dsimp only; walk1)))
    refine lshift_int (by omega) (by omega) ?_
    k_steps
    rename Fr _ _ _ _ => F4
    rename News _ _ _ _ => N4
    simp only [p2_eq] at *
    have hnN : n.toNat = Builtin.Int.intBits b := by omega
    have hxb : Builtin.Int.intBits (r * p2 n + d) ≤ 3001 := by
      have h1 := intBits_add_le (intBits_mul_le hrbits (p2_bits n)) hdb
      omega
    have hlog : b.natAbs.log2 < 9000 := by
      have h1 : Builtin.Int.intBits b = b.natAbs.log2 + 1 := by unfold Builtin.Int.intBits; simp [Int.ne_of_gt hb]
      omega
    refine div2_spec XB TB F4.keep (by show dp + 1 < recursionLimit; omega) hb hlog (by omega) ?_
    intro dd t1 t2 h9 tk9 k9 hdd hdo
    have F9 := F4.keeps k9
    have N9 := news_add F4 N4 k9 hdo hdd
    clear F4 N4
    dsimp only
    k_steps
    rename Fr _ _ _ _ => Fa
    rename News _ _ _ _ => Na
    have nlq := Na _ (.tail _ (.tail _ (.head _)))
    have nIa := Na _ (.tail _ (.head _))
    have nda2 := Na _ (.tail _ (.tail _ (.tail _ (.head _))))
    dsimp only at nlq nIa nda2
    refine wpAny_list_append_plain (hsz := by have h1 := hIq.length; have : sizeLine = 16777216 := rfl; simp only [List.size_toArray]; omega) ⟨eq, nlq.1⟩ fun hb' hlb hsb => ?_
    obtain ⟨nb, hlb⟩ := hlb
    refine wpAny_execs_nil ?_
    have Kb : ∀ x o, x ≠ lq → _ → hb'.get? x = some o := fun x o hx e => hsb.extBut x o hx e
    have Fb := fr_but Fa Kb nlq.2.1.symm nlq.2.2
    have hdrop : ds.reverse.drop i = d :: ds.reverse.drop (i + 1) := by
      obtain ⟨hi2, e'⟩ := List.getElem?_eq_some_iff.mp hdr
      rw [List.drop_eq_getElem_cons hi2, e']
    rw [hdrop, divLoop] at hdv
    refine ⟨hb', _, _, rfl, ⟨hi1, ⟨oI, Kb _ _ (Nat.ne_of_gt lI.1) nIa.1, hIr⟩, ⟨_, Kb _ _ (Nat.ne_of_lt lql.1) nda2.1, rfl, _, rfl⟩⟩, (r * p2 n + d).fmod b, t2, qs ++ [(r * p2 n + d).fdiv b], vq ++ [Value.int ((r * p2 n + d).fdiv b) t1], nb, Fb, rfl, rfl, rfl, rfl, ?_, hIq.append (.cons _ _ .nil), hdv, Int.fmod_nonneg_of_pos _ hb, Int.fmod_lt_of_pos _ hb, ?_, by simp [hql]⟩
    · intro q hq
      rcases List.mem_cons.mp hq with rfl | hq
      · exact ⟨by rw [hlb]; simp [W.listOf], nlq.2⟩
      · have h1 := Na q (.tail _ (.tail _ (.tail _ hq)))
        refine ⟨Kb _ _ ?_ h1.1, h1.2⟩
        rcases List.mem_cons.mp hq with rfl | hq
        · exact Nat.ne_of_lt lql.1
        · rcases List.mem_cons.mp hq with rfl | hq
          · exact Nat.ne_of_lt lql.2.1
          · rcases List.mem_cons.mp hq with rfl | hq
            · exact Nat.ne_of_lt lql.2.2.1
            · rcases List.mem_cons.mp hq with rfl | hq
              · exact Nat.ne_of_lt lql.2.2.2
              · cases hq
    · intro q hq
      rcases List.mem_append.mp hq with hq | hq
      · exact hqb q hq
      · have : q = (r * p2 n + d).fdiv b := by simpa using hq
        rw [this]
        have := intBits_fdiv_le (y := b) hxb
        omega
  · rintro m h tk ⟨r, tr, qs, vq, eq, F1, a1, a2, a3, a4, N1, hIq, hdv, hr0, hrb, hqb, hql⟩
    have F2 := fr_put (fr_put (fr_put (fr_put F1 (x := PySem.Str.ofString "b") (v := .int b u) a3) (x := PySem.Str.ofString "n") (v := .int n tn) a2) (x := PySem.Str.ofString "q_digits") (v := .ref lq) a1) (x := PySem.Str.ofString "r") (v := .int r tr) a4
    have N2 := N1
    clear F1 N1 N8
    rw [List.drop_of_length_le (by simp [hwl]), divLoop] at hdv
    dsimp only
    k_steps
    refine reverse_head_ints F2 N2 (List.forall_mem_cons.mpr ⟨Nat.ne_of_lt lql.1, List.forall_mem_cons.mpr ⟨Nat.ne_of_lt lql.2.1, List.forall_mem_cons.mpr ⟨Nat.ne_of_lt lql.2.2.1, List.forall_mem_cons.mpr ⟨Nat.ne_of_lt lql.2.2.2, List.forall_mem_nil _⟩⟩⟩⟩) (ns := qs) hIq ?_ (by have : sizeLine = 16777216 := rfl; rw [hql]; simp only [List.size_toArray]; omega)
    intro h10 F10 N10 hI10
    clear F2 N2
    dsimp only
    k_steps
    have n37a := N10 _ (.tail _ (.tail _ (.tail _ (.tail _ (.head _)))))
    have nlqa := N10 _ (.head _)
    have ndaa := N10 _ (.tail _ (.head _))
    dsimp only at n37a nlqa ndaa
    have hqn : ∀ q ∈ qs.reverse, Builtin.Int.intBits q ≤ 4000 := fun q hq => hqb q (by simpa using hq)
    refine dig_spec X T C37 hG37 hI10 hqn (by omega) (by omega) (by simp [hql, hwl]; omega) (stays_trans GB1 F10.keep) (tabNow F10 n37a.1) ⟨_, nlqa.1, rfl, _, rfl⟩ (by show dp + 1 + 70 < recursionLimit; omega) (by show un + 3 + 700 < cLine; omega) ?_
    intro t11 h11 tk11 KB11 tR11
    obtain ⟨c2, hP11, hrec11, hGc2⟩ := tR11
    obtain ⟨oc2, hoc2, ir2⟩ := rec_of hrec11
    have N10' : News B1 L h10 ((37, tabObj ps37) :: [(lq, { cls := Value.type "list", data := Data.seq vq.toArray.toList.reverse.toArray eq }), (da, { cls := Value.type "list", data := Data.seq ws.toArray e3 }), (c1, oc1), (30, tabObj #[rawInt (32 : Nat), rawInt (4 : Nat), Value.ref c1])]) := fun q hq => N10 q (by
      simp only [List.mem_cons, List.not_mem_nil, or_false] at hq ⊢
      rcases hq with h | h | h | h | h <;> simp [h])
    have hda37 : da ≠ 37 := fun z => by
      have h1 := ndaa.1
      rw [z, n37a.1] at h1
      cases h1
    obtain ⟨B2, GB2, hB2, hB2', F11, N11, hnc2⟩ := rebase1 (q := q37) F10 N10' KB11 (List.forall_mem_cons.mpr ⟨Nat.ne_of_gt lql.2.2.2, List.forall_mem_cons.mpr ⟨hda37, List.forall_mem_cons.mpr ⟨Ne.symm hc37, List.forall_mem_cons.mpr ⟨by show (30 : Nat) ≠ 37; decide, List.forall_mem_nil _⟩⟩⟩⟩) hP11 not_rec_tab hoc2 ir2
      (List.forall_mem_cons.mpr ⟨not_rec_seq, List.forall_mem_cons.mpr ⟨not_rec_seq, List.forall_mem_cons.mpr ⟨not_rec_other ir1 (by decide), List.forall_mem_cons.mpr ⟨not_rec_tab, List.forall_mem_nil _⟩⟩⟩⟩) GB1 hGc2
    have XB2 := X.keeps GB2
    have TB2 := T.keeps GB2
    have isc2 : ∀ o, B1.get? c2 = some o → o = oc2 := fun o e => by
      have h1 := KB11 c2 o (Ne.symm (hnc2 _ (.head _))) (F10.keep _ _ e)
      rw [hoc2] at h1
      exact (Option.some.inj h1).symm
    clear F10 N10 N10' XB TB
    dsimp only
    k_steps
    rename_i h12 D h13 F13 N13 lD
    have mD := N13 _ (.head _)
    have mc2 := N13 _ (.tail _ (.head _))
    have m37 := N13 _ (.tail _ (.tail _ (.head _)))
    have mc1 := N13 _ (.tail _ (.tail _ (.tail _ (.tail _ (.tail _ (.head _))))))
    have m30 := N13 _ (.tail _ (.tail _ (.tail _ (.tail _ (.tail _ (.tail _ (.head _)))))))
    dsimp only at mD mc2 m37 mc1 m30
    have keepAll : ∀ x o, x ≠ 30 → x ≠ 37 → s.heap.get? x = some o → h13.get? x = some o := fun x o h1 h2 e => by
      by_cases z1 : x = c1
      · rw [z1] at e ⊢
        rw [isc1 _ e]; exact mc1.1
      · have e1 := base1 x o h1 h2 z1 e
        by_cases z2 : x = c2
        · rw [z2] at e1 ⊢
          rw [isc2 _ e1]; exact mc2.1
        · exact F13.keep x o (hB2 x o z2 e1)
    have e1 : divmodPos a b = (digits2int qs.reverse n, r) := by
      unfold divmodPos
      rw [hnE, hdsE, ← hdv]
    rw [e1] at hQ
    refine hQ D t11 tr h13 _ keepAll ⟨c1, m30.1, of_rec mc1.1 ir1, hGc1⟩ ⟨c2, m37.1, of_rec mc2.1 ir2, hGc2⟩ ?_ mD.1
    cases q : s.heap.get? D with
    | none => rfl
    | some o =>
      have h1 := hB2 D o (Nat.ne_of_gt lD.1) (base1 D o (Nat.ne_of_gt lD.2.2.2.2.2) (Nat.ne_of_gt lD.2.1) (Nat.ne_of_gt lD.2.2.2.2.1) q)
      rw [mD.2.2] at h1
      cases h1
end
end Mine
end

section
open PySem PySem.Calls PySem.W PyProof.Rows
set_option maxRecDepth 100000
set_option maxHeartbeats 8000000
set_option Elab.async false
set_option linter.unusedVariables false
set_option linter.unusedSimpArgs false
namespace Mine
theorem freshRsIdm : True := by
  w_top off
  exact True.intro
def intDivmod (a b : Int) : Int × Int := if a < 0 then (-(divmodPos (-a - 1) b).1 - 1, b + (-(divmodPos (-a - 1) b).2 - 1)) else divmodPos a b

theorem rebase2 {G h₀ h h' : Heap} {L : Addr} {m : Str → Option Value} {news : List (Addr × Obj)} (F : Fr h₀ L h m) (N : News h₀ L h news) (hL30 : L ≠ 30) (hL37 : L ≠ 37) (h30 : h₀.get? 30 = none) (h37 : h₀.get? 37 = none)
    (KB : ∀ b o, b ≠ 30 → b ≠ 37 → h.get? b = some o → h'.get? b = some o) (hn : ∀ p ∈ news, p.1 ≠ 30 ∧ p.1 ≠ 37) (hnr : ∀ p ∈ news, ∀ q, ¬ IsRec q p.2) (t30 : TabR G h' 30 32 4 q30) (t37 : TabR G h' 37 47 4 q37) (GK : G.StaysIn h₀) :
    ∃ B c1 oc1 c2 oc2, G.StaysIn B ∧ (∀ b o, B.get? b = some o → h₀.get? b = some o) ∧ (∀ b o, b ≠ c1 → b ≠ c2 → h₀.get? b = some o → B.get? b = some o) ∧ (∀ o, h.get? c1 = some o → o = oc1) ∧ (∀ o, h.get? c2 = some o → o = oc2) ∧
      IsRec q30 oc1 ∧ IsRec q37 oc2 ∧ G.get? c1 = none ∧ G.get? c2 = none ∧ Fr B L h' m ∧
      News B L h' ((c1, oc1) :: (c2, oc2) :: (30, tabObj #[rawInt (32 : Nat), rawInt (4 : Nat), .ref c1]) :: (37, tabObj #[rawInt (47 : Nat), rawInt (4 : Nat), .ref c2]) :: news) ∧ @Ne Nat c1 30 ∧ @Ne Nat c1 37 ∧ @Ne Nat c2 30 ∧ @Ne Nat c2 37 ∧ (∀ p ∈ news, @Ne Nat p.1 c1 ∧ @Ne Nat p.1 c2) := by
  obtain ⟨c1, hP1, hr1, hG1⟩ := t30
  obtain ⟨oc1, hoc1, ir1⟩ := rec_of hr1
  obtain ⟨c2, hP2, hr2, hG2⟩ := t37
  obtain ⟨oc2, hoc2, ir2⟩ := rec_of hr2
  have a1 : c1 ≠ 30 := fun e => by rw [e, hP1] at hoc1; cases hoc1; exact not_rec_tab ir1
  have a2 : c1 ≠ 37 := fun e => by rw [e, hP2] at hoc1; cases hoc1; exact not_rec_tab ir1
  have a3 : c2 ≠ 30 := fun e => by rw [e, hP1] at hoc2; cases hoc2; exact not_rec_tab ir2
  have a4 : c2 ≠ 37 := fun e => by rw [e, hP2] at hoc2; cases hoc2; exact not_rec_tab ir2
  have F' : Fr h₀ L h' m := ⟨F.ns.at' fun o e => KB _ o hL30 hL37 e, fun b o e => KB b o (fun z => by rw [z, h30] at e; cases e) (fun z => by rw [z, h37] at e; cases e) (F.keep b o e), F.above⟩
  have notL : ∀ {c : Addr} {oc : Obj} {q : Str}, h'.get? c = some oc → IsRec q oc → c ≠ L := fun {c oc q} hc hr e => by
    obtain ⟨oL, es, ep, hL, hd, _⟩ := F'.ns
    rw [e, hL] at hc
    cases hc
    obtain ⟨vs, t, h1, _⟩ := hr
    rw [hd] at h1
    cases h1
  have hcn : ∀ p ∈ news, p.1 ≠ c1 ∧ p.1 ≠ c2 := fun p hp => by
    have h1 := KB _ _ (hn p hp).1 (hn p hp).2 (N p hp).1
    exact ⟨fun e => by rw [e, hoc1] at h1; cases h1; exact hnr p hp _ ir1, fun e => by rw [e, hoc2] at h1; cases h1; exact hnr p hp _ ir2⟩
  have hid : ∀ b o, (hideAll h₀ [c1, c2]).get? b = some o → h₀.get? b = some o := fun b o e => of_hideAll _ e
  have hid2 : ∀ b o, b ≠ c1 → b ≠ c2 → h₀.get? b = some o → (hideAll h₀ [c1, c2]).get? b = some o := fun b o h1 h2 e => hideAll_get _ e (by simpa using And.intro h1 h2)
  have none_of : ∀ b, h₀.get? b = none → (hideAll h₀ [c1, c2]).get? b = none := fun b e => by
    cases q : (hideAll h₀ [c1, c2]).get? b with
    | none => rfl
    | some o => rw [hid _ _ q] at e; cases e
  refine ⟨hideAll h₀ [c1, c2], c1, oc1, c2, oc2, fun b o e => hid2 b o (fun z => by rw [z, hG1] at e; cases e) (fun z => by rw [z, hG2] at e; cases e) (GK b o e), hid, hid2, ?_, ?_, ir1, ir2, hG1, hG2, ⟨F'.ns, fun b o e => F'.keep b o (hid b o e), Nat.le_trans (Nat.le_of_eq (hideAll_size _ _)) F'.above⟩, ?_, a1, a2, a3, a4, hcn⟩
  · intro o e; have h1 := KB _ _ a1 a2 e; rw [hoc1] at h1; exact (Option.some.inj h1).symm
  · intro o e; have h1 := KB _ _ a3 a4 e; rw [hoc2] at h1; exact (Option.some.inj h1).symm
  · refine List.forall_mem_cons.mpr ⟨⟨hoc1, notL hoc1 ir1, hideAll_none _ (.head _)⟩, List.forall_mem_cons.mpr ⟨⟨hoc2, notL hoc2 ir2, hideAll_none _ (.tail _ (.head _))⟩, List.forall_mem_cons.mpr ⟨⟨hP1, hL30.symm, none_of _ h30⟩, List.forall_mem_cons.mpr ⟨⟨hP2, hL37.symm, none_of _ h37⟩, fun p hp => ?_⟩⟩⟩⟩
    have h1 := N p hp
    exact ⟨KB _ _ (hn p hp).1 (hn p hp).2 h1.1, h1.2.1, none_of _ h1.2.2⟩
theorem TabR.keeps {G h h' : Heap} {P : Addr} {l c : Nat} {q : Str} (x : TabR G h P l c q) (k : h.StaysIn h') : TabR G h' P l c q := by
  obtain ⟨c', h1, h2, h3⟩ := x
  obtain ⟨oc, hoc, ir⟩ := rec_of h2
  exact ⟨c', k _ _ h1, of_rec (k _ _ hoc) ir, h3⟩
theorem TabG.keeps {G h h' : Heap} {P : Addr} {l c : Nat} {q : Str} (x : TabG G h P l c q) (k : h.StaysIn h') : TabG G h' P l c q := x.imp (fun e => k _ _ e) fun e => e.keeps k
section
variable {prog : Program} {w : World} {G : Heap} {mg mb : Str → Option Value} {p : Program} {loose : List Str} {mean : ExcName → Option Value}
theorem idmPos_spec (X : (hd.heap_39 w.params).In G) (T : Top p loose mean mg mb G) (C30 : CodeHd G 34 30) (C37 : CodeHd G 41 37) (hG30 : G.get? 30 = none) (hG37 : G.get? 37 = none) {a b : Int} (ha : 0 ≤ a) (hab : Builtin.Int.intBits a ≤ 3000) (hb : 0 < b) (hb2 : Builtin.Int.intBits b ≤ 1000) (hm : digN a (Builtin.Int.intBits b) ≤ 64)
    {dp un : Nat} {fs : Option (List Env)} {gd : Option (List Code)} {s : Shared} {Q E : Value → Shared → Prop} {t u : Tok} (GK : G.StaysIn s.heap) (tab30 : TabG G s.heap 30 32 4 q30) (tab37 : TabG G s.heap 37 47 4 q37) (hr : dp + 90 < recursionLimit) (hu : un + 900 < cLine)
    (hQ : ∀ d t1 t2 h' tk, (∀ b o, b ≠ 30 → b ≠ 37 → s.heap.get? b = some o → h'.get? b = some o) → TabR G h' 30 32 4 q30 → TabR G h' 37 47 4 q37 → s.heap.get? d = none → h'.get? d = some (tupObj #[.int (divmodPos a b).1 t1, .int (divmodPos a b).2 t2]) → Q (.ref d) { s with heap := h', toks := tk }) :
    wpAny (model prog w) (Ar dp un fs gd) (call (.ref 56) [.int a t, .int b u]) Q E s := by
  refine' call_pure (binds := [(PySem.Str.ofString "a", .int a t), (PySem.Str.ofString "b", .int b u)]) X T GK ?k6 ?k7 (by show dp < recursionLimit; omega) ?k9 ?kB ?_ ?c2 ?c3 ?c4 ?c5
  case k6 => k_is
  case k7 => k_is
  case k9 => exact BindsTo.of_eq rfl
  case kB => exact locs rfl
  case c2 => rfl
  case c3 => rfl
  case c4 => rfl
  case c5 => decide
  intro L h₁ F N X' T'
  k_steps
  all_goals try (exfalso; omega)
  have hS : s.heap.StaysIn h₁ := F.keep
  have z1 := stays_trans GK hS
  have z2 := tab30.keeps hS
  have z3 := tab37.keeps hS
  refine divp_spec X T C30 C37 hG30 hG37 ha hab hb hb2 hm z1 z2 z3 (by show dp + 1 + 80 < recursionLimit; omega) (by show un + 3 + 800 < cLine; omega) ?_
  intro d t1 t2 h2 tk2 KB2 r30 r37 hd hdo
  refine hQ d t1 t2 h2 _ (fun x o h1 h2 e => KB2 x o h1 h2 (F.keep _ _ e)) r30 r37 ?_ hdo
  cases q : s.heap.get? d with
  | none => rfl
  | some o => have h1 := F.keep _ _ q; rw [show h₁.get? d = none from hd] at h1; cases h1
theorem idm_spec (X : (hd.heap_39 w.params).In G) (T : Top p loose mean mg mb G) (C30 : CodeHd G 34 30) (C37 : CodeHd G 41 37) (hG30 : G.get? 30 = none) (hG37 : G.get? 37 = none) {a b : Int} (hab : Builtin.Int.intBits a ≤ 2900) (hb : 0 < b) (hb2 : Builtin.Int.intBits b ≤ 1000) (hm : digN a (Builtin.Int.intBits b) ≤ 64) (hm' : digN (-a - 1) (Builtin.Int.intBits b) ≤ 64)
    {dp un : Nat} {fs : Option (List Env)} {gd : Option (List Code)} {s : Shared} {Q E : Value → Shared → Prop} {t u : Tok} (GK : G.StaysIn s.heap) (tab30 : TabG G s.heap 30 32 4 q30) (tab37 : TabG G s.heap 37 47 4 q37) (hr : dp + 100 < recursionLimit) (hu : un + 1000 < cLine)
    (hQ : ∀ d t1 t2 h' tk, (∀ b o, b ≠ 30 → b ≠ 37 → s.heap.get? b = some o → h'.get? b = some o) → TabR G h' 30 32 4 q30 → TabR G h' 37 47 4 q37 → s.heap.get? d = none → h'.get? d = some (tupObj #[.int (intDivmod a b).1 t1, .int (intDivmod a b).2 t2]) → Q (.ref d) { s with heap := h', toks := tk }) :
    wpAny (model prog w) (Ar dp un fs gd) (call (.ref 56) [.int a t, .int b u]) Q E s := by
  by_cases ha : a < 0
  · rw [intDivmod, if_pos ha] at hQ
    have tabOf : ∀ {P : Addr} {l : Nat} {q : Str}, TabG G s.heap P l 4 q → ∃ ps, s.heap.get? P = some (tabObj ps) := by
      intro P l q h
      rcases h with h | ⟨c', h, _⟩
      · exact ⟨_, h⟩
      · exact ⟨_, h⟩
    obtain ⟨ps30, h30⟩ := tabOf tab30
    obtain ⟨ps37, h37⟩ := tabOf tab37
    have hGK : G.StaysIn (hideAll s.heap (List.map (fun x => x.fst) [(30, tabObj ps30), (37, tabObj ps37)])) := fun b o e => hideAll_get _ (GK b o e) (fun q => by
      have q' : b = 30 ∨ b = 37 := by simpa using q
      rcases q' with q' | q'
      · rw [q', hG30] at e; cases e
      · rw [q', hG37] at e; cases e)
    refine' call_hide (binds := [(PySem.Str.ofString "a", .int a t), (PySem.Str.ofString "b", .int b u)]) [(30, tabObj ps30), (37, tabObj ps37)] ?hH X T hGK ?k6 ?k7 (by show dp < recursionLimit; omega) ?k9 ?kB ?_ ?c2 ?c3 ?c4 ?c5
    case hH => exact List.forall_mem_cons.mpr ⟨h30, List.forall_mem_cons.mpr ⟨h37, List.forall_mem_nil _⟩⟩
    case k6 => k_is
    case k7 => k_is
    case k9 => exact BindsTo.of_eq rfl
    case kB => exact locs rfl
    case c2 => rfl
    case c3 => rfl
    case c4 => rfl
    case c5 => decide
    intro L h₁ F N X' T' hS hL
    k_steps
    all_goals try (exfalso; omega)
    have z1 := stays_trans GK hS
    have z2 := tab30.keeps hS
    have z3 := tab37.keeps hS
    have hnb : Builtin.bitNot a = -a - 1 := rfl
    have hnbits : Builtin.Int.intBits (-a - 1) ≤ 3000 := by
      have h1 := intBits_sub_le (intBits_neg_le hab) (show Builtin.Int.intBits 1 ≤ 1 by decide)
      omega
    rw [hnb]
    refine idmPos_spec X T C30 C37 hG30 hG37 (by omega) hnbits hb hb2 hm' z1 z2 z3 (by show dp + 1 + 90 < recursionLimit; omega) (by show un + 3 + 900 < cLine; omega) ?_
    intro d t1 t2 h2 tk2 KB2 r30 r37 hd hdo
    have nn30 := N _ (.head _)
    have nn37 := N _ (.tail _ (.head _))
    dsimp only at nn30 nn37
    obtain ⟨B, c1, oc1, c2, oc2, GB, hB', hB, isc1, isc2, ir1, ir2, hG1, hG2, F2, N2, x1, x2, x3, x4, x5⟩ := rebase2 (news := []) F News.nil nn30.2.1.symm nn37.2.1.symm nn30.2.2 nn37.2.2 KB2 (List.forall_mem_nil _) (List.forall_mem_nil _) r30 r37 hGK
    have N3 := news_new F hB' N2 hdo hd
    have XB := X.keeps GB
    have TB := T.keeps GB
    clear F N N2 X' T'
    dsimp only
    k_steps
    rename_i D h13 F13 N13 lD
    have mD := N13 _ (.head _)
    have mc1 := N13 _ (.tail _ (.tail _ (.head _)))
    have mc2 := N13 _ (.tail _ (.tail _ (.tail _ (.head _))))
    have m30 := N13 _ (.tail _ (.tail _ (.tail _ (.tail _ (.head _)))))
    have m37 := N13 _ (.tail _ (.tail _ (.tail _ (.tail _ (.tail _ (.head _))))))
    dsimp only at mD mc2 m37 mc1 m30
    refine hQ D _ _ h13 _ (fun x o h1 h2 e => ?_) ⟨c1, m30.1, of_rec mc1.1 ir1, hG1⟩ ⟨c2, m37.1, of_rec mc2.1 ir2, hG2⟩ ?_ mD.1
    · by_cases z1 : x = c1
      · rw [z1] at e ⊢
        rw [isc1 _ (hS _ _ e)]; exact mc1.1
      · by_cases z2 : x = c2
        · rw [z2] at e ⊢
          rw [isc2 _ (hS _ _ e)]; exact mc2.1
        · exact F13.keep x o (hB x o z1 z2 (hideAll_get _ e (by simpa using And.intro h1 h2)))
    · cases q : s.heap.get? D with
      | none => rfl
      | some o =>
        have h1 := hB D o (Nat.ne_of_gt lD.2.1) (Nat.ne_of_gt lD.2.2.1) (hideAll_get _ q (by simpa using And.intro (neN (Nat.ne_of_gt lD.2.2.2.1)) (neN (Nat.ne_of_gt lD.2.2.2.2))))
        rw [mD.2.2] at h1
        cases h1
  · rw [intDivmod, if_neg ha] at hQ
    exact idmPos_spec X T C30 C37 hG30 hG37 (by omega) (by omega) hb hb2 hm GK tab30 tab37 (by omega) (by omega) hQ
end
end Mine
end

section
open PySem PySem.Calls PySem.W PyProof.Rows
set_option maxRecDepth 100000
set_option Elab.async false
set_option linter.unusedVariables false
namespace Mine
theorem freshRsFin : True := by
  w_top off
  exact True.intro
/-! the law's own reckoning, as plain Lean -/
def tiesAll : List (List Int) := [[0, 1], [0, 2], [0, 3], [1, 2], [1, 3], [2, 3]]
/-- the ties that the figures of x pick -/
def tiesOf (x : Int) : List (List Int) := ((List.range 6).filter fun k => (x.fdiv (p2 (k : Nat))).fmod 2 == 1).map fun k => tiesAll.getD k []
def friendOf (ts : List (List Int)) (k : Int) : Int := ((ts.filter fun t => t.contains k).map fun t => p2 (t.getD 0 0 + t.getD 1 0 - k)).sum
def friendsOf (x : Int) : List Int := (List.range 4).map fun k : Nat => friendOf (tiesOf x) k
def sizesOf (fr : List Int) : List Int := (List.range 16).map fun f : Nat => lawSize 4 (f : Nat) fr
def belowTerm (base size : Int) : Int := if 0 ≤ size then (if size.fmod 2 = 0 then 1 else -1) * ((base.toNat ^ (4 - size).toNat : Nat) : Int) else 0
def belowOf (sizes : List Int) (base : Int) : Int := sizes.foldl (fun acc s => acc + belowTerm base s) 0
def aboveOf (base : Int) (even : Bool) : Int := if even then ((base.toNat ^ 8 : Nat) : Int) else -((base.toNat ^ 8 : Nat) : Int)
def numberOf (q : Int) (even : Bool) : Int := if even then q else -1 - q

/-! how many bits, by a guess that is tried: what the kernel reckons quickly -/
def probe (n c : Nat) : Bool := and (Nat.ble (Nat.pow 2 (Nat.sub c 1)) n) (Nat.ble (Nat.succ n) (Nat.pow 2 c))
def findC (n : Nat) : List Nat → Option Nat
  | [] => none
  | c :: r => cond (probe n c) (some c) (findC n r)
theorem findC_spec {n c : Nat} : ∀ {cs : List Nat}, findC n cs = some c → probe n c = true
  | [], h => by cases h
  | d :: r, h => by
    rw [findC] at h
    cases hp : probe n d with
    | true => rw [hp] at h; cases h; exact hp
    | false => rw [hp] at h; exact findC_spec h
def fastC (cs : List Nat) (x : Int) : Nat := match findC x.natAbs cs with
  | some c => c
  | none => Builtin.Int.intBits x
theorem fastC_eq (cs : List Nat) : Builtin.Int.intBits = fastC cs := by
  funext x
  unfold fastC
  split
  · rename_i c h
    have h1 := findC_spec h
    unfold probe at h1
    rw [Bool.and_eq_true, Nat.ble_eq, Nat.ble_eq] at h1
    obtain ⟨h1, h2⟩ := h1
    have h2' : x.natAbs < 2 ^ c := h2
    have h1' : 2 ^ (c - 1) ≤ x.natAbs := h1
    have h3 := intBits_le_iff.mpr h2'
    rcases Nat.lt_or_ge (Builtin.Int.intBits x) c with h4 | h4
    · have h5 := intBits_le_iff.mp (show Builtin.Int.intBits x ≤ c - 1 by omega)
      omega
    · omega
  · rfl

/-! the same once more, by any count of bits -/
def digNB (bt : Int → Nat) (a n : Int) : Nat := (((bt a : Int) + n - 1).fdiv n).toNat
def int2B (bt : Int → Nat) (a n : Int) : List Int := if a = 0 then List.replicate (digNB bt a n) 0 else innerFn (digNB bt a n) a 0 (digNB bt a n) n (List.replicate (digNB bt a n) 0)
def divLoopD (b : Int) (n : Nat) (ds : List Int) : List Int × Int := divLoop b n ds 0 []
def dposB (bt : Int → Nat) (a b : Int) : Int × Int :=
  (digits2int (divLoop b (bt b) (int2B bt a (bt b)).reverse 0 []).1.reverse (bt b), (divLoop b (bt b) (int2B bt a (bt b)).reverse 0 []).2)
def idmB (bt : Int → Nat) (a b : Int) : Int × Int := if a < 0 then (-(dposB bt (-a - 1) b).1 - 1, b + (-(dposB bt (-a - 1) b).2 - 1)) else dposB bt a b
def highB (bt : Int → Nat) (v : Int) : Int := (bt v : Int) - 1
theorem idmB_eq : intDivmod = idmB Builtin.Int.intBits := rfl
theorem int2B_eq : int2digits = int2B Builtin.Int.intBits := rfl
theorem highB_eq : highBit = highB Builtin.Int.intBits := rfl
def okDivB (bt : Int → Nat) (a b : Int) : Bool := decide (bt a ≤ 2900) && decide (0 < b) && decide (bt b ≤ 1000) && decide (digNB bt a (bt b) ≤ 64) && decide (digNB bt (-a - 1) (bt b) ≤ 64)
def okDigB (bt : Int → Nat) (a n : Int) : Bool := decide (0 ≤ a) && decide (bt a ≤ 4000) && decide (digNB bt a n ≤ 64)
/-- the number itself, then the rest: the kernel reckons it but once -/
def forceN (n : Nat) (f : Nat → Bool) : Bool := match n with | 0 => f 0 | k + 1 => f (k + 1)
theorem forceN_eq (n : Nat) (f : Nat → Bool) : forceN n f = f n := by cases n <;> rfl
def forceI (x : Int) (f : Int → Bool) : Bool := match x with | .ofNat n => forceN n fun n => f (.ofNat n) | .negSucc n => forceN n fun n => f (.negSucc n)
theorem forceI_eq (x : Int) (f : Int → Bool) : forceI x f = f x := by
  cases x with
  | ofNat n => exact forceN_eq n fun n => f (.ofNat n)
  | negSucc n => exact forceN_eq n fun n => f (.negSucc n)
def check1 (bt : Int → Nat) (counts : List Int) (width base base8 below above q r number : Int) : Bool :=
  okDivB bt above below && (q * below + r == above) && okDivB bt (above - r) below && (idmB bt (above - r) below == (q, 0)) &&
  ([highB bt 0, highB bt base8, highB bt below, highB bt number] == [-1, 8 * width, 4 * width - 1, 4 * width]) &&
  (isSingle base && !isSingle below) && okDigB bt below width && (int2B bt below width == (List.range 4).map fun k : Nat => (below.fdiv ((base.toNat ^ k : Nat) : Int)).fmod base) &&
  okDigB bt number width && (int2B bt number width == counts.reverse) && decide (bt q ≤ 1000)
def checkB (bt : Int → Nat) (counts : List Int) (width base below : Int) (even : Bool) : Bool :=
  forceI (aboveOf base even) fun above => forceI (idmB bt above below).1 fun q => forceI (idmB bt above below).2 fun r => forceI ((base.toNat ^ 8 : Nat) : Int) fun base8 => forceI (numberOf q even) fun number =>
    check1 bt counts width base base8 below above q r number
/-- the divisor, by the numbers of pairs, triples and fours -/
def belowF (e t k : Int) (base : Int) : Int := ((base.toNat ^ 4 : Nat) : Int) - 4 * ((base.toNat ^ 3 : Nat) : Int) + e * ((base.toNat ^ 2 : Nat) : Int) - t * base + k
def checkRow (e t k : Int) (counts : List Int) : Bool := (List.range 50).all fun w => forceI (p2 (11 + (w : Nat))) fun base => forceI (belowF e t k base) fun below =>
  checkB (fastC [4 * (11 + w), 8 * (11 + w) + 1, 8 * (11 + w), 4 * (11 + w) + 1]) counts (11 + (w : Nat)) base below true && checkB (fastC [4 * (11 + w), 8 * (11 + w) + 1, 8 * (11 + w), 4 * (11 + w) + 1]) counts (11 + (w : Nat)) base below false
def rows : List (Int × Int × Int × List Int) := [(0, 0, 0, [1, 4, 16, 64, 256]), (1, 0, 0, [1, 4, 15, 56, 209]), (2, 0, 0, [1, 4, 14, 48, 164]), (3, 0, 0, [1, 4, 13, 40, 121]), (3, 1, 0, [1, 4, 13, 41, 129]), (4, 1, 0, [1, 4, 12, 33, 88]), (4, 0, 0, [1, 4, 12, 32, 80]), (5, 2, 0, [1, 4, 11, 26, 57]), (6, 4, 1, [1, 4, 10, 20, 35])]
def hbOk (x : Nat) : Bool :=
  let sz := sizesOf (friendsOf (x : Nat))
  sz.all (fun s => decide (-1 ≤ s) && decide (s ≤ 4)) && sz.count 0 == 1 && sz.count 1 == 4 && rows.contains ((sz.count 2 : Nat), (sz.count 3 : Nat), (sz.count 4 : Nat), lawCounts (friendsOf (x : Nat)) 4)
end Mine
end

section
open PySem PySem.Calls PySem.W PyProof.Rows
set_option maxRecDepth 100000
set_option Elab.async false
set_option linter.unusedVariables false
namespace Mine
theorem freshRsRows : True := by
  w_top off
  exact True.intro
/-- one width of a row -/
def checkW (e t k : Int) (counts : List Int) (w : Nat) : Bool := forceI (p2 (11 + (w : Nat))) fun base => forceI (belowF e t k base) fun below =>
  checkB (fastC [4 * (11 + w), 8 * (11 + w) + 1, 8 * (11 + w), 4 * (11 + w) + 1]) counts (11 + (w : Nat)) base below true && checkB (fastC [4 * (11 + w), 8 * (11 + w) + 1, 8 * (11 + w), 4 * (11 + w) + 1]) counts (11 + (w : Nat)) base below false
theorem row_of {e t k : Int} {c : List Int} (h0 : (List.range' 0 10).all (checkW e t k c) = true) (h1 : (List.range' 10 10).all (checkW e t k c) = true) (h2 : (List.range' 20 10).all (checkW e t k c) = true) (h3 : (List.range' 30 10).all (checkW e t k c) = true) (h4 : (List.range' 40 10).all (checkW e t k c) = true) : checkRow e t k c = true := by
  show (List.range 50).all (checkW e t k c) = true
  have e : List.range 50 = List.range' 0 10 ++ List.range' 10 10 ++ List.range' 20 10 ++ List.range' 30 10 ++ List.range' 40 10 := by rfl
  rw [e]
  simp only [List.all_append, h0, h1, h2, h3, h4, Bool.and_self]
theorem row0a : (List.range' 0 10).all (checkW 0 0 0 [1, 4, 16, 64, 256]) = true := by decide +kernel
theorem row0b : (List.range' 10 10).all (checkW 0 0 0 [1, 4, 16, 64, 256]) = true := by decide +kernel
theorem row0c : (List.range' 20 10).all (checkW 0 0 0 [1, 4, 16, 64, 256]) = true := by decide +kernel
theorem row0d : (List.range' 30 10).all (checkW 0 0 0 [1, 4, 16, 64, 256]) = true := by decide +kernel
theorem row0e : (List.range' 40 10).all (checkW 0 0 0 [1, 4, 16, 64, 256]) = true := by decide +kernel
theorem row0 : checkRow 0 0 0 [1, 4, 16, 64, 256] = true := row_of row0a row0b row0c row0d row0e
theorem row1a : (List.range' 0 10).all (checkW 1 0 0 [1, 4, 15, 56, 209]) = true := by decide +kernel
theorem row1b : (List.range' 10 10).all (checkW 1 0 0 [1, 4, 15, 56, 209]) = true := by decide +kernel
theorem row1c : (List.range' 20 10).all (checkW 1 0 0 [1, 4, 15, 56, 209]) = true := by decide +kernel
theorem row1d : (List.range' 30 10).all (checkW 1 0 0 [1, 4, 15, 56, 209]) = true := by decide +kernel
theorem row1e : (List.range' 40 10).all (checkW 1 0 0 [1, 4, 15, 56, 209]) = true := by decide +kernel
theorem row1 : checkRow 1 0 0 [1, 4, 15, 56, 209] = true := row_of row1a row1b row1c row1d row1e
theorem row2a : (List.range' 0 10).all (checkW 2 0 0 [1, 4, 14, 48, 164]) = true := by decide +kernel
theorem row2b : (List.range' 10 10).all (checkW 2 0 0 [1, 4, 14, 48, 164]) = true := by decide +kernel
theorem row2c : (List.range' 20 10).all (checkW 2 0 0 [1, 4, 14, 48, 164]) = true := by decide +kernel
theorem row2d : (List.range' 30 10).all (checkW 2 0 0 [1, 4, 14, 48, 164]) = true := by decide +kernel
theorem row2e : (List.range' 40 10).all (checkW 2 0 0 [1, 4, 14, 48, 164]) = true := by decide +kernel
theorem row2 : checkRow 2 0 0 [1, 4, 14, 48, 164] = true := row_of row2a row2b row2c row2d row2e
theorem row3a : (List.range' 0 10).all (checkW 3 0 0 [1, 4, 13, 40, 121]) = true := by decide +kernel
theorem row3b : (List.range' 10 10).all (checkW 3 0 0 [1, 4, 13, 40, 121]) = true := by decide +kernel
theorem row3c : (List.range' 20 10).all (checkW 3 0 0 [1, 4, 13, 40, 121]) = true := by decide +kernel
theorem row3d : (List.range' 30 10).all (checkW 3 0 0 [1, 4, 13, 40, 121]) = true := by decide +kernel
theorem row3e : (List.range' 40 10).all (checkW 3 0 0 [1, 4, 13, 40, 121]) = true := by decide +kernel
theorem row3 : checkRow 3 0 0 [1, 4, 13, 40, 121] = true := row_of row3a row3b row3c row3d row3e
theorem row4a : (List.range' 0 10).all (checkW 3 1 0 [1, 4, 13, 41, 129]) = true := by decide +kernel
theorem row4b : (List.range' 10 10).all (checkW 3 1 0 [1, 4, 13, 41, 129]) = true := by decide +kernel
theorem row4c : (List.range' 20 10).all (checkW 3 1 0 [1, 4, 13, 41, 129]) = true := by decide +kernel
theorem row4d : (List.range' 30 10).all (checkW 3 1 0 [1, 4, 13, 41, 129]) = true := by decide +kernel
theorem row4e : (List.range' 40 10).all (checkW 3 1 0 [1, 4, 13, 41, 129]) = true := by decide +kernel
theorem row4 : checkRow 3 1 0 [1, 4, 13, 41, 129] = true := row_of row4a row4b row4c row4d row4e
theorem row5a : (List.range' 0 10).all (checkW 4 1 0 [1, 4, 12, 33, 88]) = true := by decide +kernel
theorem row5b : (List.range' 10 10).all (checkW 4 1 0 [1, 4, 12, 33, 88]) = true := by decide +kernel
theorem row5c : (List.range' 20 10).all (checkW 4 1 0 [1, 4, 12, 33, 88]) = true := by decide +kernel
theorem row5d : (List.range' 30 10).all (checkW 4 1 0 [1, 4, 12, 33, 88]) = true := by decide +kernel
theorem row5e : (List.range' 40 10).all (checkW 4 1 0 [1, 4, 12, 33, 88]) = true := by decide +kernel
theorem row5 : checkRow 4 1 0 [1, 4, 12, 33, 88] = true := row_of row5a row5b row5c row5d row5e
theorem row6a : (List.range' 0 10).all (checkW 4 0 0 [1, 4, 12, 32, 80]) = true := by decide +kernel
theorem row6b : (List.range' 10 10).all (checkW 4 0 0 [1, 4, 12, 32, 80]) = true := by decide +kernel
theorem row6c : (List.range' 20 10).all (checkW 4 0 0 [1, 4, 12, 32, 80]) = true := by decide +kernel
theorem row6d : (List.range' 30 10).all (checkW 4 0 0 [1, 4, 12, 32, 80]) = true := by decide +kernel
theorem row6e : (List.range' 40 10).all (checkW 4 0 0 [1, 4, 12, 32, 80]) = true := by decide +kernel
theorem row6 : checkRow 4 0 0 [1, 4, 12, 32, 80] = true := row_of row6a row6b row6c row6d row6e
theorem row7a : (List.range' 0 10).all (checkW 5 2 0 [1, 4, 11, 26, 57]) = true := by decide +kernel
theorem row7b : (List.range' 10 10).all (checkW 5 2 0 [1, 4, 11, 26, 57]) = true := by decide +kernel
theorem row7c : (List.range' 20 10).all (checkW 5 2 0 [1, 4, 11, 26, 57]) = true := by decide +kernel
theorem row7d : (List.range' 30 10).all (checkW 5 2 0 [1, 4, 11, 26, 57]) = true := by decide +kernel
theorem row7e : (List.range' 40 10).all (checkW 5 2 0 [1, 4, 11, 26, 57]) = true := by decide +kernel
theorem row7 : checkRow 5 2 0 [1, 4, 11, 26, 57] = true := row_of row7a row7b row7c row7d row7e
theorem row8a : (List.range' 0 10).all (checkW 6 4 1 [1, 4, 10, 20, 35]) = true := by decide +kernel
theorem row8b : (List.range' 10 10).all (checkW 6 4 1 [1, 4, 10, 20, 35]) = true := by decide +kernel
theorem row8c : (List.range' 20 10).all (checkW 6 4 1 [1, 4, 10, 20, 35]) = true := by decide +kernel
theorem row8d : (List.range' 30 10).all (checkW 6 4 1 [1, 4, 10, 20, 35]) = true := by decide +kernel
theorem row8e : (List.range' 40 10).all (checkW 6 4 1 [1, 4, 10, 20, 35]) = true := by decide +kernel
theorem row8 : checkRow 6 4 1 [1, 4, 10, 20, 35] = true := row_of row8a row8b row8c row8d row8e
theorem rows_ok {e t k : Int} {c : List Int} (h : rows.contains (e, t, k, c) = true) : checkRow e t k c = true := by
  have h' : (e, t, k, c) ∈ rows := by simpa using h
  simp only [rows, List.mem_cons, List.not_mem_nil, or_false, Prod.mk.injEq] at h'
  rcases h' with ⟨rfl, rfl, rfl, rfl⟩ | ⟨rfl, rfl, rfl, rfl⟩ | ⟨rfl, rfl, rfl, rfl⟩ | ⟨rfl, rfl, rfl, rfl⟩ | ⟨rfl, rfl, rfl, rfl⟩ | ⟨rfl, rfl, rfl, rfl⟩ | ⟨rfl, rfl, rfl, rfl⟩ | ⟨rfl, rfl, rfl, rfl⟩ | ⟨rfl, rfl, rfl, rfl⟩
  · exact row0
  · exact row1
  · exact row2
  · exact row3
  · exact row4
  · exact row5
  · exact row6
  · exact row7
  · exact row8
theorem hb0 : (List.range' 0 8).all hbOk = true := by decide +kernel
theorem hb1 : (List.range' 8 8).all hbOk = true := by decide +kernel
theorem hb2 : (List.range' 16 8).all hbOk = true := by decide +kernel
theorem hb3 : (List.range' 24 8).all hbOk = true := by decide +kernel
theorem hb4 : (List.range' 32 8).all hbOk = true := by decide +kernel
theorem hb5 : (List.range' 40 8).all hbOk = true := by decide +kernel
theorem hb6 : (List.range' 48 8).all hbOk = true := by decide +kernel
theorem hb7 : (List.range' 56 8).all hbOk = true := by decide +kernel
theorem hb_all : ∀ x : Fin 64, hbOk x.1 = true := by
  have key : (List.range 64).all hbOk = true := by
    have e : List.range 64 = List.range' 0 8 ++ List.range' 8 8 ++ List.range' 16 8 ++ List.range' 24 8 ++ List.range' 32 8 ++ List.range' 40 8 ++ List.range' 48 8 ++ List.range' 56 8 := by rfl
    rw [e]
    simp only [List.all_append, hb0, hb1, hb2, hb3, hb4, hb5, hb6, hb7, Bool.and_self]
  rw [List.all_eq_true] at key
  exact fun x => key x.1 (List.mem_range.mpr x.2)
end Mine
end

section
open PySem PySem.Calls PySem.W PyProof.Rows
set_option maxRecDepth 100000
set_option Elab.async false
set_option linter.unusedVariables false
namespace Mine
theorem freshRsFin2 : True := by
  w_top off
  exact True.intro
theorem pow_cast {base : Int} (hb : 0 ≤ base) (n : Nat) : ((base.toNat ^ n : Nat) : Int) = base ^ n := by
  rw [Int.natCast_pow, Int.toNat_of_nonneg hb]
/-! the divisor by counts -/
def termW (base size : Int) : Int := if 0 ≤ size then (-1) ^ size.toNat * base ^ (4 - size).toNat else 0
theorem tW_m1 (base : Int) : termW base (-1) = 0 := rfl
theorem tW_0 (base : Int) : termW base 0 = base ^ 4 := by
  show (-1 : Int) ^ 0 * base ^ 4 = _
  rw [Int.pow_zero, Int.one_mul]
theorem tW_1 (base : Int) : termW base 1 = -(base ^ 3) := by
  show (-1 : Int) ^ 1 * base ^ 3 = _
  rw [show (-1 : Int) ^ 1 = -1 from rfl, Int.neg_one_mul]
theorem tW_2 (base : Int) : termW base 2 = base ^ 2 := by
  show (-1 : Int) ^ 2 * base ^ 2 = _
  rw [show (-1 : Int) ^ 2 = 1 from rfl, Int.one_mul]
theorem tW_3 (base : Int) : termW base 3 = -base := by
  show (-1 : Int) ^ 3 * base ^ 1 = _
  rw [show (-1 : Int) ^ 3 = -1 from rfl, Int.neg_one_mul, Int.pow_one]
theorem tW_4 (base : Int) : termW base 4 = 1 := by
  show (-1 : Int) ^ 4 * base ^ 0 = _
  rw [show (-1 : Int) ^ 4 = 1 from rfl, Int.pow_zero, Int.one_mul]
theorem cnt (a : Int) (l : List Int) (s : Int) (x : Int) : ((List.count a (s :: l) : Nat) : Int) * x = (List.count a l : Nat) * x + (if s = a then x else 0) := by
  rw [List.count_cons]
  by_cases h : s = a
  · simp [h, Int.add_mul]
  · simp [h]
theorem cnt1 (a : Int) (l : List Int) (s : Int) : ((List.count a (s :: l) : Nat) : Int) = (List.count a l : Nat) + (if s = a then 1 else 0) := by
  have := cnt a l s 1
  simpa using this
theorem sum_term (base : Int) : ∀ l : List Int, (∀ s ∈ l, -1 ≤ s ∧ s ≤ 4) →
    (l.map (termW base)).sum = (l.count 0 : Nat) * base ^ 4 - (l.count 1 : Nat) * base ^ 3 + (l.count 2 : Nat) * base ^ 2 - (l.count 3 : Nat) * base + (l.count 4 : Nat)
  | [], _ => by simp
  | s :: l, h => by
    have ih := sum_term base l fun x hx => h x (.tail _ hx)
    rw [List.map_cons, List.sum_cons, ih, cnt, cnt, cnt, cnt, cnt1]
    obtain ⟨h1, h2⟩ := h s (.head _)
    have hs : s = -1 ∨ s = 0 ∨ s = 1 ∨ s = 2 ∨ s = 3 ∨ s = 4 := by omega
    clear ih h h1 h2
    generalize ((List.count 0 l : Nat) : Int) * base ^ 4 = c0
    generalize ((List.count 1 l : Nat) : Int) * base ^ 3 = c1
    generalize ((List.count 2 l : Nat) : Int) * base ^ 2 = c2
    generalize ((List.count 3 l : Nat) : Int) * base = c3
    generalize ((List.count 4 l : Nat) : Int) = c4
    rcases hs with rfl | rfl | rfl | rfl | rfl | rfl
    · rw [tW_m1]; simp
    · rw [tW_0]; generalize base ^ 4 = z; simp; omega
    · rw [tW_1]; generalize base ^ 3 = z; simp; omega
    · rw [tW_2]; generalize base ^ 2 = z; simp; omega
    · rw [tW_3]; simp; omega
    · rw [tW_4]; simp; omega
def belW (fr : List Int) (base : Int) : Nat → Int
  | 0 => 0
  | i + 1 => belW fr base i + termW base (lawSize 4 (i : Nat) fr)
theorem belW_sum (fr : List Int) (base : Int) (n : Nat) : belW fr base n = (((List.range n).map fun f : Nat => lawSize 4 (f : Nat) fr).map (termW base)).sum := by
  induction n with
  | zero => simp [belW]
  | succ n ih => rw [belW, ih, List.range_succ]; simp
/-! the friends, by the rest modulo 64 -/
theorem bit_mod (x : Int) (k : Nat) (hk : k < 6) : (x.fdiv (p2 (k : Nat))).fmod 2 = ((((x.fmod 64).toNat : Nat) : Int).fdiv (p2 (k : Nat))).fmod 2 := by
  have e0 : ((x.fmod 64).toNat : Int) = x % 64 := by
    rw [Int.fmod_eq_emod_of_nonneg _ (by decide)]
    omega
  rw [e0]
  have hk' : k = 0 ∨ k = 1 ∨ k = 2 ∨ k = 3 ∨ k = 4 ∨ k = 5 := by omega
  rcases hk' with rfl | rfl | rfl | rfl | rfl | rfl
  all_goals
    simp only [p2, Int.toNat_natCast]
    rw [Int.fdiv_eq_ediv_of_nonneg _ (by decide), Int.fdiv_eq_ediv_of_nonneg _ (by decide), Int.fmod_eq_emod_of_nonneg _ (by decide), Int.fmod_eq_emod_of_nonneg _ (by decide)]
    simp only [Nat.reducePow, Int.cast_ofNat_Int]
    omega
theorem friends_mod (x : Int) : friendsOf x = friendsOf (((x.fmod 64).toNat : Nat) : Int) := by
  have e : tiesOf x = tiesOf (((x.fmod 64).toNat : Nat) : Int) := by
    unfold tiesOf
    congr 1
    refine List.filter_congr fun k hk => ?_
    rw [bit_mod x k (by simpa using hk)]
  unfold friendsOf
  rw [e]
theorem hb_any (x : Int) : ∃ e t k : Nat, rows.contains ((e : Int), (t : Int), (k : Int), lawCounts (friendsOf x) 4) = true ∧
    (∀ i : Nat, i < 16 → -1 ≤ lawSize 4 (i : Nat) (friendsOf x) ∧ lawSize 4 (i : Nat) (friendsOf x) ≤ 4) ∧
    ∀ base : Int, 0 ≤ base → belW (friendsOf x) base 16 = belowF e t k base := by
  have h : hbOk (x.fmod 64).toNat = true := hb_all ⟨(x.fmod 64).toNat, by have := Int.fmod_lt_of_pos x (show (0 : Int) < 64 by decide); have := Int.fmod_nonneg_of_pos x (show (0 : Int) < 64 by decide); omega⟩
  rw [friends_mod x]
  generalize (x.fmod 64).toNat = y at h
  unfold hbOk at h
  simp only [Bool.and_eq_true, List.all_eq_true, decide_eq_true_eq, beq_iff_eq] at h
  obtain ⟨⟨⟨h1, h2⟩, h3⟩, h4⟩ := h
  refine ⟨_, _, _, h4, fun i hi => h1 _ ?_, fun base hb => ?_⟩
  · exact List.mem_map.mpr ⟨i, by simpa using hi, rfl⟩
  · rw [belW_sum]
    show ((sizesOf (friendsOf (y : Nat))).map (termW base)).sum = _
    rw [sum_term base _ h1, h2, h3]
    unfold belowF
    simp only [pow_cast hb]
    omega
end Mine
end

section
open PySem PySem.Calls PySem.W PyProof.Rows
set_option maxRecDepth 100000
set_option Elab.async false
set_option linter.unusedVariables false
namespace Mine
theorem freshRsLaw0 : True := by
  w_top off
  exact True.intro
/-- the law's body and scope, as the written part has them -/
def LawIs (w : World) (body : List Stmt) (scope : Scope) : Prop :=
  ∃ oc od name qual params dV kV doc pm an cdv ct osl, (hd.heap_39 w.params).lookup 94 = some ⟨oc, od, .func (fnOf name qual params body scope dV kV doc pm an cdv ct), osl⟩
theorem law_elim {w : World} {body : List Stmt} {scope : Scope} (hb : LawIs w body scope) {goal : Prop} {body' : List Stmt} {scope' : Scope} {oc : Value} {od : Option Addr} {name qual : Str} {params : Arguments} {dV kV doc pm : Value} {an : Option Addr} {cdv ct : Value} {osl : Array (Option Value)}
    (h2 : (hd.heap_39 w.params).lookup 94 = some ⟨oc, od, .func (fnOf name qual params body' scope' dV kV doc pm an cdv ct), osl⟩) (h : body = body' → scope = scope' → goal) : goal := by
  obtain ⟨_, _, _, _, _, _, _, _, _, _, _, _, _, h1⟩ := hb
  rw [h1] at h2
  have h3 := Option.some.inj h2
  have h4 := Data.func.inj (Obj.mk.inj h3).2.2.1
  exact h (FuncBody.stmts.inj (FuncData.mk.inj h4).2.2.2.1) (FuncData.mk.inj h4).2.2.2.2.1
abbrev lawEnv (scope : Scope) (L fa : Addr) (cd : Value) : Env := envOfC (PySem.Str.ofString "law") scope L fa cd
end Mine
end

section
open PySem PySem.Calls PySem.W PyProof.Rows
set_option maxRecDepth 100000
set_option Elab.async false
set_option linter.unusedVariables false
namespace Mine
theorem freshRsEq : True := by
  w_top off
  exact True.intro
theorem ints_eqAt {A : Around} {s : Shared} {vs ws : List Value} {xs : List Int} (h1 : IntsAre vs xs) (h2 : IntsAre ws xs) : vs.length = ws.length ∧ ∀ j (h1 : j < vs.toArray.size) (h2 : j < ws.toArray.size), SeqAt.EqAt A s vs.toArray[j] ws.toArray[j] true := by
  induction h1 generalizing ws with
  | nil => cases h2; exact ⟨rfl, fun j h => absurd h (Nat.not_lt_zero _)⟩
  | cons x t r ih =>
    cases h2 with
    | cons _ u r2 =>
      obtain ⟨e, f⟩ := ih r2
      refine ⟨by simp [e], fun j g1 g2 => ?_⟩
      cases j with
      | zero => simpa using SeqAt.EqAt.int_int x t x u
      | succ j =>
        have := f j (by simpa using g1) (by simpa using g2)
        simpa using this
theorem all_tt (l : List Nat) : l.all (fun _ => true) = true := by induction l <;> simp_all
section
variable {prog : Program} {w : World} {A : Around} {s : Shared} {Q E : Value → Shared → Prop} {l b : Addr} {vs ws : List Value} {xs : List Int}
theorem eq_ints (hl : s.heap.IsList l vs.toArray) (hb : s.heap.IsList b ws.toArray) (h1 : IntsAre vs xs) (h2 : IntsAre ws xs) (hu : A.units < cLine) (h : Q (.bool true) s) : wpAny (model prog w) A (compareOp .Eq (.ref l) (.ref b)) Q E s := by
  have e := ints_eqAt (A := A.in1) (s := s) h1 h2
  have := SeqAt.RcAt.lists (e := fun _ => true) hl hb (by simpa using e.1) hu e.2
  exact this prog w E Q (by simpa [all_tt] using h)
theorem ne_ints (hl : s.heap.IsList l vs.toArray) (hb : s.heap.IsList b ws.toArray) (h1 : IntsAre vs xs) (h2 : IntsAre ws xs) (hu : A.units < cLine) (h : Q (.bool false) s) : wpAny (model prog w) A (compareOp .NotEq (.ref l) (.ref b)) Q E s := by
  have e := ints_eqAt (A := A.in1) (s := s) h1 h2
  have := SeqAt.RcNeAt.lists (e := fun _ => true) hl hb (by simpa using e.1) hu e.2
  exact this prog w E Q (by simpa [all_tt] using h)
theorem ne_tints (hl : s.heap.IsTuple l vs.toArray) (hb : s.heap.IsTuple b ws.toArray) (h1 : IntsAre vs xs) (h2 : IntsAre ws xs) (hu : A.units < cLine) (h : Q (.bool false) s) : wpAny (model prog w) A (compareOp .NotEq (.ref l) (.ref b)) Q E s := by
  have e := ints_eqAt (A := A.in1) (s := s) h1 h2
  have := SeqAt.RcNeAt.tuples (e := fun _ => true) hl hb hu e.2
  exact this prog w E Q (by simpa [e.1, all_tt] using h)
end
end Mine
end

section
open PySem PySem.W PyProof.Rows
set_option maxRecDepth 100000
set_option maxHeartbeats 8000000
set_option Elab.async false
set_option linter.unusedVariables false
set_option linter.unusedSimpArgs false
namespace Mine
theorem freshRsCounts : True := by
  w_top off
  exact True.intro
local macro_rules | `(tactic| walk_at "eval Name") => `(tactic| ((with_reducible show wpAny _ _ (eval (Expr.Name _ _) (compEnvC _ _ _ _)) _ _ _); k_dflt (first
  | (refine' cn_local ?F ?v ?_ ?a ?b ?c; (case F => assumption); (case a => exact rfl); (case b => exact rfl); (case c => decide); (case v => assumption))
  | (refine' cn_cell ?F ?v ?_ ?a ?b ?c; (case a => exact rfl); (case b => exact rfl); (case c => decide); (case v => exact rfl); (case F => assumption))
  | (refine' cn_glob ?F ?X ?T ?e ?_ ?g ?a ?b ?c; (case F => assumption); (case X => assumption); (case T => assumption); (case g => exact rfl); (case a => exact rfl); (case b => exact rfl); (case c => decide); (case e => k_is))
  | (refine' cn_boot ?F ?X ?T ?e ?v ?n ?_ ?g ?g2 ?a ?b ?c; (case F => assumption); (case X => assumption); (case T => assumption); (case g => exact rfl); (case g2 => exact rfl); (case a => exact rfl); (case b => exact rfl); (case c => decide); (case n => decide); (case e => k_is); (case v => boot_fast)))))
section
variable {prog : Program} {w : World} {G : Heap} {mg mb : Str → Option Value} {p : Program} {loose : List Str} {mean : ExcName → Option Value}
theorem counts_spec (X : (hd.heap_39 w.params).In G) (T : Top p loose mean mg mb G) {l : Addr} {vs : List Value} {fr : List Int} (hI : IntsAre vs fr) (hlen : fr.length = 4)
    {dp un : Nat} {fs : Option (List Env)} {gd : Option (List Code)} {s : Shared} {Q E : Value → Shared → Prop} {t : Tok} (GK : G.StaysIn s.heap) (hl : s.heap.IsList l vs.toArray) (hr : dp + 3 < recursionLimit) (hu : un + 40 < cLine)
    (hQ : ∀ d ws h' tk, s.heap.StaysIn h' → s.heap.get? d = none → h'.PlainList d ws.toArray → IntsAre ws (lawCounts fr 4) → Q (.ref d) { s with heap := h', toks := tk }) :
    wpAny (model prog w) (Ar dp un fs gd) (call (.ref 89) [.ref l, .int 4 t]) Q E s := by
  refine' call_pureC (binds := [(PySem.Str.ofString "friends", .ref l), (PySem.Str.ofString "size", .int 4 t)]) X T GK ?k6 ?k7 (by simp only [depth_deeper]; omega) ?k9 ?kB ?kD ?_ ?c2 ?c3 ?c4
  case k6 => k_is
  case k7 => k_is
  case k9 => exact BindsTo.of_eq rfl
  case kB => exact rfl
  case kD => decide +kernel
  case c2 => rfl
  case c3 => rfl
  case c4 => rfl
  intro L h₁ tk0 cells F N Y X' T'
  obtain ⟨oc, hE, d1⟩ := CellsAre.one Y
  subst hE
  clear Y
  repeat' ((fail_if_success (with_reducible show wpAny _ _ (exec (Stmt.For _ _ _ _ _) _) _ _ _)); (first | (k_unfold; (try dsimp only)) | walk1 | (dsimp only; walk1)))
  refine wpAny_For ?_
  k_steps
  rename_i l2 _ _ l1 _ lh2 lc _ lh3 DD _ lh4 _ _ _ _ _ hr' tk' t1 u1 v1 hR FF NN hK
  refine wpAny_pyIter_range hR (by decide) ?_
  dsimp only
  have hsz : hr'.objs.size = hr'.objs.size := rfl
  have hcell : ∀ h : Heap, h.get? (L + 1) = some oc → h.IsCell (L + 1) (some (.ref l)) := fun h e => ⟨oc, e, d1⟩
  have aL : L < hr'.objs.size := FF.ns.lt
  have nlc := NN _ (.tail _ (.head _))
  have nl1 := NN _ (.tail _ (.tail _ (.head _)))
  have nl2 := NN _ (.tail _ (.tail _ (.tail _ (.head _))))
  have nce := NN _ (.tail _ (.tail _ (.tail _ (.tail _ (.head _)))))
  dsimp only at nlc nl1 nl2 nce
  have alc : lc < hr'.objs.size := Heap.lt_size nlc.1
  have al1 : l1 < hr'.objs.size := Heap.lt_size nl1.1
  have al2 : l2 < hr'.objs.size := Heap.lt_size nl2.1
  have aL1 : L + 1 < hr'.objs.size := Heap.lt_size nce.1
  have lh1c : L < lc := Nat.lt_trans (Nat.lt_succ_self _) lh3.2.2
  generalize hMM : (bindL (envOfC (PySem.Str.ofString "_law_counts") _ L 89 (Value.ref 88)).kindOf [(PySem.Str.ofString "friends", Value.ref l), (PySem.Str.ofString "size", Value.int 4 t)] (fun x => none)) = M₀ at FF
  refine for_walk (m := fun y => if y = PySem.Str.ofString "texts" then some (Value.ref l1) else if y = PySem.Str.ofString "counts" then some (Value.ref lc) else M₀ y) (Walks.range (prog := prog) (w := w) rfl hr'.objs.size 0 1 4) rfl rfl (by show L ∉ [hr'.objs.size]; simpa using neN (Nat.ne_of_lt aL))
    (fun i m h => ∃ a ys cs e, Fr s.heap L h m ∧ (∀ y, y ≠ PySem.Str.ofString "k" → m y = (if y = PySem.Str.ofString "texts" then some (Value.ref a) else if y = PySem.Str.ofString "counts" then some (Value.ref lc) else M₀ y)) ∧
      News s.heap L h [(lc, listOf (List.toArray cs) e), (L + 1, oc)] ∧ h.PlainList a ys ∧ a ≠ lc ∧ a ≠ hr'.objs.size ∧ a ≠ L ∧ TextsAre (fun b => b ≠ lc ∧ b ≠ hr'.objs.size ∧ b ≠ L) h ys.toList (lawTexts fr i) ∧ IntsAre cs (lawCounts fr i))
    (fun i m h ⟨_, _, _, _, F', _⟩ => F'.ns) ?_ ?_ ?_ ?_ ?_
  · rintro i m h h' ⟨a, ys, cs, e, F1, hm, N1, hp, a1, a2, a3, hT, hC⟩ k
    refine ⟨a, ys, cs, e, fr_frame F1 k (by simpa using neN (Nat.ne_of_lt aL)) (fun b hb => ?_), hm, news_frame N1 k (fun q hq => ?_), hp.at fun o e => k _ _ (by simpa using a2) e, a1, a2, a3, hT.mono fun b o hb _ e => k _ _ (by simpa using hb.2.1) e, hC⟩
    · simp at hb
      subst hb
      exact Heap.get?_none_of_le (Nat.le_trans FF.above (Nat.le_of_lt aL))
    · simp at hq
      rcases hq with rfl | rfl
      · simpa using neN (Nat.ne_of_lt alc)
      · simpa using neN (Nat.ne_of_lt aL1)
  · refine ⟨l1, #[Value.ref l2], [Value.int 1 tk0], 0, FF.push _, fun _ _ => rfl, ?_, ?_, ?_, ?_, nl1.2.1, ?_, ?_⟩
    · intro q hq
      have e : q = (lc, W.listOf #[Value.int 1 tk0] 0) ∨ q = (L + 1, oc) := by simpa using hq
      rcases e with rfl | rfl
      · exact ⟨Heap.get?_push_of_some _ nlc.1, nlc.2⟩
      · exact ⟨Heap.get?_push_of_some _ nce.1, nce.2⟩
    · exact ⟨0, Heap.get?_push_of_some _ nl1.1⟩
    · exact neN (Nat.ne_of_lt lh3.1)
    · exact neN (Nat.ne_of_lt al1)
    · exact .cons ⟨neN (Nat.ne_of_lt lh3.2.1), neN (Nat.ne_of_lt al2), nl2.2.1⟩ (ws := []) ⟨_, Heap.get?_push_of_some _ nl2.1, rfl, _, rfl⟩ .nil .nil
    · exact .cons _ _ .nil
  · exact Heap.get?_push_size _ rfl
  · rintro i v m h h' tk hi ⟨tv, rfl⟩ ⟨a, ys, cs, e, F1, hm, N1, hp, a1, a2, a3, hT, hC⟩ hns hs hst
    have F2 : Fr s.heap L h' (fun y => if y = PySem.Str.ofString "k" then some (Value.int (0 + (i : Nat) * 1) tv) else if y = PySem.Str.ofString "texts" then some (Value.ref a) else if y = PySem.Str.ofString "counts" then some (Value.ref lc) else M₀ y) := by
      have e : (fun y => if y = PySem.Str.ofString "k" then some (Value.int (0 + (i : Nat) * 1) tv) else m y) = (fun y => if y = PySem.Str.ofString "k" then some (Value.int (0 + (i : Nat) * 1) tv) else if y = PySem.Str.ofString "texts" then some (Value.ref a) else if y = PySem.Str.ofString "counts" then some (Value.ref lc) else M₀ y) := by
        funext y
        by_cases hy : y = PySem.Str.ofString "k"
        · rw [if_pos hy, if_pos hy]
        · rw [if_neg hy, if_neg hy, hm y hy]
      have := F1.set hns hs
      rw [e] at this
      exact this
    have hs' : Heap.SameBut L h h' := hs
    have N2 : News s.heap L h' [(lc, W.listOf (List.toArray cs) e), (L + 1, oc)] := N1.set hs'
    have hp2 : h'.PlainList a ys := hp.at fun o e => hs'.extBut _ o a3 e
    have hT2 : TextsAre (fun b => b ≠ lc ∧ b ≠ hr'.objs.size ∧ b ≠ L) h' ys.toList (lawTexts fr i) := hT.mono fun b o hb _ e => hs'.extBut _ o hb.2.2 e
    have hst2 : IsRangeIter h' hr'.objs.size (0 + ((i + 1 : Nat) : Int) * 1) ((4 : Nat) - ((i + 1 : Nat) : Int)) 1 := hst
    clear F1 N1 hp hT hs hns hs' hst hm FF NN
    dsimp only
    refine wpAny_execs_cons ?_
    refine assign_comp2 rfl rfl rfl (by decide) (fun _ => rfl) ?_
    walk1
    have X2 := X'.keeps F2.keep
    have T2 := T'.keeps F2.keep
    have hl2 : h'.IsList l vs.toArray := F2.lst hl
    have nlc2 := N2 _ (.head _)
    have nce2 := N2 _ (.tail _ (.head _))
    have hcl2 : h'.IsCell (L + 1) (some (.ref l)) := hcell h' nce2.1
    have hyl : ys.size = (lawTexts fr i).length := by have := hT2.length; simpa using this
    have hi4 : i < 4 := hi
    have hy64 : ys.size ≤ 64 := by
      have h1 := lawTexts_length fr i
      have h2 : 4 ^ i ≤ 4 ^ 3 := Nat.pow_le_pow_right (by decide) (by omega)
      omega
    refine comp2_run (p := fun ii j => lawFirst fr (j : Nat) ((lawTexts fr i).getD ii []).reverse) (RR := fun acc C => compPost (model prog w) _ _ (some _) _ acc C) rfl hp2.isList (by decide) rfl rfl rfl (by decide) (fun _ _ => rfl)
      (fun ii j zs hh => TextsAre (fun b => h'.objs.size + 3 ≤ b) hh zs (lawStep fr ((lawTexts fr i).take ii) ++ lawPart fr ((lawTexts fr i).getD ii []) j) ∧ zs.length ≤ 4 * ii + j ∧ ii ≤ ys.size ∧ j ≤ 4)
      ?stab ?t0 ?wrap ?size ?hit ?test ?skip ?elt ?done
    case stab => exact fun ii j zs hh hh' ⟨x1, x2⟩ k => ⟨x1.mono k, x2⟩
    case t0 => exact fun hh => ⟨by simpa [lawStep, lawPart] using TextsAre.nil, by simp, by omega, by omega⟩
    case wrap =>
      intro ii zs hh hii ⟨x1, x2, x3, x4⟩
      refine ⟨?_, by omega, by omega, by omega⟩
      have e0 : lawPart fr ((lawTexts fr i).getD (ii + 1) []) 0 = [] := by simp [lawPart]
      rw [lawStep_take fr _ ii (by omega), e0, List.append_nil]
      exact x1
    case size => intro ii j zs hh ⟨x1, x2, x3, x4⟩; omega
    case skip =>
      intro ii j zs hh hii hj ⟨x1, x2, x3, x4⟩ hpf
      refine ⟨?_, by omega, x3, by omega⟩
      rw [lawPart_succ, if_neg (by rw [hpf]; decide), List.append_nil]
      exact x1
    case hit =>
      intro hh m tk FC
      dsimp only at FC ⊢
      have NC : News h' (h'.objs.size + 2) hh [] := News.nil
      k_steps
      rename_i h3 tk3 t3 u3 v3 hR3 FC3 NC3 hK3
      refine wpAny_pyIter_range hR3 (by decide) ?_
      have z3 : hh.objs.size < h3.objs.size := Heap.lt_size hR3
      exact ⟨_, _, _, rfl, rfl, fun b o e => Heap.get?_push_of_some _ (hK3 b o e), Heap.get?_none_of_le (Nat.le_of_lt z3), Nat.le_of_lt z3, Heap.get?_push_size _ rfl⟩
    case test =>
      intro ii v j tj zs hh m tk hv hj hT FC hmx hmy
      dsimp only at FC hmx hmy ⊢
      have NC : News h' (h'.objs.size + 2) hh [] := News.nil
      have hcl3 : hh.IsCell (L + 1) (some (.ref l)) := ⟨oc, FC.keep _ _ nce2.1, d1⟩
      k_steps
      obtain ⟨a', ws', rfl, hla, hia, hmem⟩ := hT2.at (i := ii) (v := v) (by simpa using hv)
      obtain ⟨e1, e2⟩ := lawTexts_items fr i _ hmem
      refine first_spec X2 T2 hI hlen hia (by omega) e2 FC.keep (FC.lst hl2) (FC.lst hla) (by show dp + 1 + 1 < recursionLimit; omega) (by show un + 3 + 16 < cLine; omega) (by omega) (by omega) ?_
      intro h4 tk4 k4
      walk1
      exact ⟨_, _, rfl, k4, rfl⟩
    case elt =>
      intro ii v j tj zs hh m tk hv hj hT FC hmx hmy hpt
      dsimp only at FC hmx hmy ⊢
      have NC : News h' (h'.objs.size + 2) hh [] := News.nil
      repeat' ((fail_if_success (with_reducible show wpAny _ _ (newList _) _ _ _)); (first | (k_unfold; (try dsimp only)) | walk1 | (dsimp only; walk1)))
      obtain ⟨a', ws', rfl, hla, hia, hmem⟩ := hT2.at (i := ii) (v := v) (by simpa using hv)
      obtain ⟨e1, e2⟩ := lawTexts_items fr i _ hmem
      have zC : h'.objs.size + 2 < hh.objs.size := FC.ns.lt
      refine wpAny_newObj_type ?_ (by size_fits)
      dsimp only
      have hla3 : (hh.push { cls := .type "list", data := .seq [Value.int (↑j) tj].toArray }).IsList a' ws'.toArray := (FC.lst hla).at fun o e => Heap.get?_push_of_some _ e
      refine cat_raw hla3 ⟨_, Heap.get?_push_size _ rfl, rfl, _, rfl⟩ ?_ ?_
      · have := hia.length
        have : sizeLine = 16777216 := rfl
        simp only [List.length_cons, List.length_nil]
        omega
      refine ⟨_, _, rfl, fun b o e => Heap.get?_push_of_some _ (Heap.get?_push_of_some _ e), ?_, ?_, hT.2.2.1, by omega⟩
      · rw [lawPart_succ, if_pos hpt, ← List.append_assoc]
        refine TextsAre.snoc (hT.1.mono fun b o _ _ e => Heap.get?_push_of_some _ (Heap.get?_push_of_some _ e)) ?_ ⟨_, Heap.get?_push_size _ rfl, rfl, _, rfl⟩ (hia.append (.cons _ _ .nil))
        rw [Heap.size_push]
        omega
      · have := hT.2.1
        simp only [List.length_append, List.length_cons, List.length_nil]
        omega
    case done =>
      intro hh tk zs m hT hD FC
      dsimp only at hT hD FC ⊢
      have hLI := ltN aL
      have F3 := F2.keeps FC.keep
      have N3 := N2.grown FC.keep
      have zL := ltN F2.ns.lt
      have zc := ltN (Heap.lt_size nlc2.1)
      have zc1 := ltN (Heap.lt_size nce2.1)
      have zI := ltN (Heap.lt_size hst2)
      dsimp only at zc zc1
      show wpAny _ _ (assign (Expr.Name _ _) _ (Value.ref (h'.objs.size + 1))) _ _ _
      refine wpAny_assign_Name (wpAny_storeName_local rfl F3.ns (fun h5 hn5 hs5 => ?_) rfl)
      have hs5' : Heap.SameBut L hh h5 := hs5
      refine ⟨m, FC.ns.sameBut hs5' (neN (by omega)), fun h6 hs6 => ?_⟩
      have F6 := fr_at (F3.set hn5 hs5) hs6.extBut (Nat.ne_of_lt (by omega)) (Nat.le_trans F2.above (by omega))
      have N6 : News s.heap L h6 [(lc, W.listOf (List.toArray cs) e), (L + 1, oc)] := fun q hq => by
        have h1 := (N3.set hs5') q hq
        refine ⟨hs6.extBut _ _ ?_ h1.1, h1.2⟩
        have e' : q = (lc, W.listOf (List.toArray cs) e) ∨ q = (L + 1, oc) := by simpa using hq
        rcases e' with rfl | rfl
        · exact Nat.ne_of_lt (by omega)
        · exact Nat.ne_of_lt (by omega)
      have hD6 : h6.PlainList (h'.objs.size + 1) zs := hD.at fun o e => hs6.extBut _ o (neN (by omega)) (hs5'.extBut _ o (neN (by omega)) e)
      have hD6l := hD6.isList
      have hT6 : TextsAre (fun b => b ≠ lc ∧ b ≠ hr'.objs.size ∧ b ≠ L) h6 zs.toList (lawTexts fr (i + 1)) := by
        have h1 := hT.1
        rw [List.take_of_length_le (by omega)] at h1
        have e0 : ∀ t, lawPart fr t 0 = [] := fun t => by simp [lawPart]
        rw [e0, List.append_nil] at h1
        exact (h1.mono fun b o hb _ e => hs6.extBut _ o (neN (by omega)) (hs5'.extBut _ o (neN (by omega)) e)).weak fun b hb => ⟨neN (by omega), neN (by omega), neN (by omega)⟩
      have hst6 : IsRangeIter h6 hr'.objs.size (0 + ((i + 1 : Nat) : Int) * 1) ((4 : Nat) - ((i + 1 : Nat) : Int)) 1 :=
        hs6.extBut _ _ (Nat.ne_of_lt (by omega)) (hs5'.extBut _ _ (Nat.ne_of_gt hLI) (FC.keep _ _ hst2))
      have hzl : zs.size = (lawTexts fr (i + 1)).length := by have := hT6.length; simpa using this
      have hz256 : zs.size ≤ 256 := by
        have h1 := lawTexts_length fr (i + 1)
        have h2 : 4 ^ (i + 1) ≤ 4 ^ 4 := Nat.pow_le_pow_right (by decide) (by omega)
        omega
      clear F2 N2 F3 N3 hp2 hT2 hst2 hD hT FC hs6 hs5' hs5 hn5
      dsimp only
      k_steps
      have hcsl : cs.length = i + 1 := by rw [hC.length]; simp [lawCounts]
      refine wpAny_list_append_plain (hsz := by have : sizeLine = 16777216 := rfl; simp only [List.size_toArray]; omega) ⟨e, (N6 _ (.head _)).1⟩ fun h7 hl7 hs7 => ?_
      obtain ⟨n7, hn7⟩ := hl7
      refine wpAny_execs_nil ?_
      have F7 := fr_at F6 hs7.extBut nlc.2.1.symm (Nat.le_trans F6.above (Nat.le_of_lt lh1c))
      refine ⟨h7, _, _, rfl, hs7.extBut _ _ (Nat.ne_of_gt alc) hst6, h'.objs.size + 1, zs, cs ++ [Value.int (zs.size : Nat) (tk + 1 + 1)], n7, F7, ?_, ?_, hD6.at fun o e => hs7.extBut _ o (neN (by omega)) e, neN (by omega), neN (by omega), neN (by omega), hT6.mono fun b o hb _ e => hs7.extBut _ o hb.1 e, ?_⟩
      · intro y hy
        by_cases h1 : y = PySem.Str.ofString "texts"
        · simp only [h1, if_true]
        · simp only [h1, hy, if_false]
      · intro q hq
        have e' : q = (lc, W.listOf (List.toArray (cs ++ [Value.int (zs.size : Nat) (tk + 1 + 1)])) n7) ∨ q = (L + 1, oc) := by simpa using hq
        rcases e' with rfl | rfl
        · exact ⟨by rw [hn7]; simp [W.listOf], nlc.2⟩
        · have h1 := N6 _ (.tail _ (.head _))
          exact ⟨hs7.extBut _ _ (Nat.ne_of_lt lh3.2.2) h1.1, h1.2⟩
      · have e1 : lawCounts fr (i + 1) = lawCounts fr i ++ [((lawTexts fr (i + 1)).length : Int)] := by
          unfold lawCounts
          rw [List.range_succ, List.map_append]
          rfl
        rw [e1, ← hzl]
        exact hC.append (.cons _ _ .nil)
  · rintro m h tk ⟨a, ys, cs, e, F1, hm, N1, hp, a1, a2, a3, hT, hC⟩
    dsimp only
    have F2 : Fr s.heap L h (fun y => if y = PySem.Str.ofString "k" then m (PySem.Str.ofString "k") else if y = PySem.Str.ofString "texts" then some (Value.ref a) else if y = PySem.Str.ofString "counts" then some (Value.ref lc) else M₀ y) := by
      have e' : m = (fun y => if y = PySem.Str.ofString "k" then m (PySem.Str.ofString "k") else if y = PySem.Str.ofString "texts" then some (Value.ref a) else if y = PySem.Str.ofString "counts" then some (Value.ref lc) else M₀ y) := by
        funext y
        by_cases hy : y = PySem.Str.ofString "k"
        · rw [if_pos hy, hy]
        · rw [if_neg hy, hm y hy]
      rw [← e']
      exact F1
    have nlc' := N1 _ (.head _)
    clear FF NN F1
    k_steps
    exact hQ _ _ _ _ F2.keep nlc'.2.2 ⟨e, nlc'.1⟩ hC
end
end Mine
end

section
open PySem PySem.Calls PySem.W PyProof.Rows
set_option maxRecDepth 100000
set_option maxHeartbeats 8000000
set_option Elab.async false
set_option linter.unusedVariables false
set_option linter.unusedSimpArgs false
namespace Mine
theorem freshRsLawC : True := by
  w_top off
  exact True.intro
section
variable {prog : Program} {w : World} {G : Heap} {mg mb : Str → Option Value} {p : Program} {loose : List Str} {mean : ExcName → Option Value}
theorem base_log {base : Int} (h2 : 2 ≤ base) (h60 : base ≤ 1152921504606846976) {n : Nat} (hn : n ≤ 8) : (base ^ n).natAbs.log2 < 9000 := by
  have h0 : (base ^ n).natAbs ≠ 0 := by
    have : 0 < base ^ n := Int.pow_pos (by omega)
    omega
  rw [Nat.log2_lt h0, Int.natAbs_pow]
  have h1 : base.natAbs ≤ 2 ^ 60 := by
    have : (2 : Nat) ^ 60 = 1152921504606846976 := by decide
    omega
  calc base.natAbs ^ n ≤ (2 ^ 60) ^ n := Nat.pow_le_pow_left h1 n
    _ = 2 ^ (60 * n) := by rw [← Nat.pow_mul]
    _ < 2 ^ 9000 := Nat.pow_lt_pow_right (by decide) (by omega)
theorem law_from15 {body : List Stmt} {scope : Scope} (hlaw : LawIs w body scope) (X : (hd.heap_39 w.params).In G) (T : Top p loose mean mg mb G) (C30 : CodeHd G 34 30) (C37 : CodeHd G 41 37) (hG30 : G.get? 30 = none) (hG37 : G.get? 37 = none)
    {B : Heap} (GB : G.StaysIn B) {L fa fl c1 c2 : Addr} {cd : Value} {s : Shared} {m : Str → Option Value} {vs : List Value} {fr : List Int} {ef : Nat} {ob4 ob3 oc1 oc2 : Obj} {width base bel number : Int} {tw tb tba tn : Tok} {Q : Flow → Shared → Prop}
    (F : Fr B L s.heap m) (mf : m (PySem.Str.ofString "friends") = some (.ref fl)) (mw : m (PySem.Str.ofString "width") = some (.int width tw)) (mn : m (PySem.Str.ofString "number") = some (.int number tn))
    (N : News B L s.heap [(c1, oc1), (c2, oc2), (30, tabObj #[rawInt (32 : Nat), rawInt (4 : Nat), .ref c1]), (37, tabObj #[rawInt (47 : Nat), rawInt (4 : Nat), .ref c2]), (fl, W.listOf vs.toArray ef), (L + 1 + 1 + 1 + 1, ob4), (L + 1 + 1 + 1, ob3)])
    (ir1 : IsRec q30 oc1) (ir2 : IsRec q37 oc2) (hG1 : G.get? c1 = none) (hG2 : G.get? c2 = none)
    (d4 : ob4.data = .cell (some (.int bel tb))) (d3 : ob3.data = .cell (some (.int base tba))) (hI : IntsAre vs fr) (hfl : fr.length = 4)
    (hb2 : 2 ≤ base) (hb60 : base ≤ 1152921504606846976) (hw1 : 0 < width) (hw60 : width ≤ 60)
    (k1 : 0 ≤ bel) (k2 : Builtin.Int.intBits bel ≤ 4000) (k3 : digN bel width ≤ 64) (hd1 : int2digits bel width = (List.range 4).map fun k : Nat => (bel.fdiv (base ^ k)).fmod base)
    (k4 : 0 ≤ number) (k5 : Builtin.Int.intBits number ≤ 4000) (k6 : digN number width ≤ 64) (hd2 : int2digits number width = (lawCounts fr 4).reverse)
    (hQ : ∀ h' tk, G.StaysIn h' → GrownAt 37 h' → GrownAt 30 h' → Q (.ret (.bool true)) { s with heap := h', toks := tk }) :
    wpAny (model prog w) (callerA.deeper (lawEnv scope L fa cd)) (execs (body.drop 15) (lawEnv scope L fa cd)) Q (fun _ _ => False) s := by
  refine' law_elim hlaw ?k ?_
  case k => k_is
  intro e1 e2
  subst e1 e2
  simp only [List.drop_succ_cons, List.drop_zero]
  have F2 := fr_put (fr_put (fr_put F (x := PySem.Str.ofString "friends") (v := .ref fl) mf) (x := PySem.Str.ofString "width") (v := .int width tw) mw) (x := PySem.Str.ofString "number") (v := .int number tn) mn
  clear F
  have hd1' : int2digits bel width = List.map (fun k => (bel.fdiv (base ^ k.toNat)).fmod base) (rangeKs 0 4) := hd1
  clear hd1
  obtain ⟨h0, gs, dr, tk0, os⟩ := s
  dsimp only at *
  have XB := X.keeps GB
  have TB := T.keeps GB
  k_steps
  have c30 := N _ (.tail _ (.tail _ (.head _)))
  have c37 := N _ (.tail _ (.tail _ (.tail _ (.head _))))
  have cc1 := N _ (.head _)
  have cc2 := N _ (.tail _ (.head _))
  have nfl := N _ (.tail _ (.tail _ (.tail _ (.tail _ (.head _)))))
  have nb4 := N _ (.tail _ (.tail _ (.tail _ (.tail _ (.tail _ (.head _))))))
  have nb3 := N _ (.tail _ (.tail _ (.tail _ (.tail _ (.tail _ (.tail _ (.head _)))))))
  dsimp only at c30 c37 cc1 cc2 nfl nb4 nb3
  have x4 : c2 ≠ 30 := fun z => by rw [z, c30.1] at cc2; have := Option.some.inj cc2.1; rw [← this] at ir2; exact not_rec_tab ir2
  refine int2_spec X T C30 hG30 k1 k2 hw1 (by omega) k3 (stays_trans GB F2.keep) (.inr ⟨c1, c30.1, of_rec cc1.1 ir1, hG1⟩) (by decide) (by decide) ?_
  intro D1 ws1 h1 tk1 KB1 r30 hD1 hDo1 hI1
  have nrl : ∀ p ∈ [(fl, W.listOf vs.toArray ef), (L + 1 + 1 + 1 + 1, ob4), (L + 1 + 1 + 1, ob3)], ∀ q, ¬ IsRec q p.2 :=
    List.forall_mem_cons.mpr ⟨fun _ => not_rec_seq, List.forall_mem_cons.mpr ⟨fun _ ⟨_, _, h, _⟩ => (by rw [d4] at h; cases h), List.forall_mem_cons.mpr ⟨fun _ ⟨_, _, h, _⟩ => (by rw [d3] at h; cases h), List.forall_mem_nil _⟩⟩⟩
  have nel : ∀ {a : Addr} {o : Obj}, h0.get? a = some o → (∀ ps, o ≠ tabObj ps) → a ≠ 30 ∧ a ≠ 37 := fun {a o} e hne => ⟨fun z => by rw [z, c30.1] at e; exact hne _ (Option.some.inj e).symm, fun z => by rw [z, c37.1] at e; exact hne _ (Option.some.inj e).symm⟩
  have ne3 : ∀ p ∈ [(fl, W.listOf vs.toArray ef), (L + 1 + 1 + 1 + 1, ob4), (L + 1 + 1 + 1, ob3)], p.1 ≠ 30 ∧ p.1 ≠ 37 :=
    List.forall_mem_cons.mpr ⟨nel nfl.1 (fun _ z => by cases z), List.forall_mem_cons.mpr ⟨nel nb4.1 (fun _ z => by rw [z] at d4; cases d4), List.forall_mem_cons.mpr ⟨nel nb3.1 (fun _ z => by rw [z] at d3; cases d3), List.forall_mem_nil _⟩⟩⟩
  have N' : News B L h0 [(fl, W.listOf vs.toArray ef), (L + 1 + 1 + 1 + 1, ob4), (L + 1 + 1 + 1, ob3)] := fun q hq => N q (.tail _ (.tail _ (.tail _ (.tail _ hq))))
  have r37 : TabR G h1 37 47 4 q37 := ⟨c2, KB1 _ _ (by decide) c37.1, of_rec (KB1 _ _ x4 cc2.1) ir2, hG2⟩
  obtain ⟨B', c1', oc1', c2', oc2', GB', hB'', hB3, isc1', isc2', ir1', ir2', hG1', hG2', F9, N9, x1', x2', x3', x4', x5'⟩ := rebase2 F2 N' c30.2.1.symm c37.2.1.symm c30.2.2 c37.2.2 (fun b o e _ z => KB1 b o e z) ne3 nrl r30 r37 GB
  obtain ⟨e1, hDo1'⟩ := id hDo1
  have N10 := news_new F2 hB'' N9 hDo1' hD1
  have XB' := X.keeps GB'
  have TB' := T.keeps GB'
  clear F2 N N' N9 XB TB
  dsimp only
  repeat' ((fail_if_success (with_reducible show wpAny _ _ (eval (Expr.ListComp _ _ _ _) _) _ _ _)); (first | (k_unfold; (try dsimp only)) | walk1 | (dsimp only; walk1)))
  refine LCg.ListComp_U (F₀ := by k_asm) (by with_unfolding_all rfl) (by decide) (by rfl) (by decide) (by rfl) ?_
  repeat ((with_reducible show wpAny _ _ _ _ _ _); (first | (k_unfold; (try dsimp only)) | walk1 | (dsimp only; walk1)))
  refine LCg.CompSrc.range (n := 4) (by rfl) (by k_asm) (by k_asm) (by assumption) (by decide) (by rfl) (by decide) ?_
  intro g'
  refine' kcf_range (fun k => (bel.fdiv (base ^ k.toNat)).fmod base) (fun k' t' I' oI' C' oC' D' m' ys' h' tk' E' hlo' hhi' hC' hx' F' N' off' ne' hMark' => ?turn) ?fin
  case turn =>
    simp only [LCg.Off3, and_true] at off'
    have hpos : ∀ n : Nat, 0 < base ^ n := fun n => Int.pow_pos (by omega)
    have hk : k' = 0 ∨ k' = 1 ∨ k' = 2 ∨ k' = 3 := by omega
    have hlg : ∀ n : Nat, n ≤ 8 → (base ^ n).natAbs.log2 < 9000 := fun n hn => base_log hb2 hb60 hn
    rcases hk with rfl | rfl | rfl | rfl
    all_goals k_steps
    all_goals refine floordiv_int (Int.ne_of_gt (hpos _)) ?_ (Or.inl (PyProof.noPylong_of_log2 (hlg _ (by decide))))
    all_goals k_steps
    all_goals refine mod_int (by omega) ?_ (Or.inl (PyProof.noPylong_of_log2 (by simpa using hlg 1 (by decide))))
    all_goals k_steps
  k_steps
  all_goals try (exact absurd hd1' ‹_›)
  rename_i D2 h2 tk2 F2 N2 o2
  dsimp only at *
  have e30 := N2 _ (.tail _ (.tail _ (.tail _ (.tail _ (.head _)))))
  have e37 := N2 _ (.tail _ (.tail _ (.tail _ (.tail _ (.tail _ (.head _))))))
  have ec1 := N2 _ (.tail _ (.tail _ (.head _)))
  have ec2 := N2 _ (.tail _ (.tail _ (.tail _ (.head _))))
  have efl := N2 _ (.tail _ (.tail _ (.tail _ (.tail _ (.tail _ (.tail _ (.head _)))))))
  dsimp only at e30 e37 ec1 ec2 efl
  have nfl30 := (ne3 _ (.head _)).1
  refine int2_spec X T C30 hG30 k4 k5 hw1 (by omega) k6 (stays_trans GB' F2.keep) (.inr ⟨c1', e30.1, of_rec ec1.1 ir1', hG1'⟩) (by decide) (by decide) ?_
  intro D3 ws3 h3 tk3 KB3 r30'' hD3 hDo3 hI3
  have N2' : News B' L h2 [(fl, W.listOf vs.toArray ef)] := fun q hq => N2 q (by
    simp only [List.mem_cons, List.not_mem_nil, or_false] at hq ⊢
    simp [hq])
  have r37'' : TabR G h3 37 47 4 q37 := ⟨c2', KB3 _ _ (by decide) e37.1, of_rec (KB3 _ _ x3' ec2.1) ir2', hG2'⟩
  obtain ⟨B3, c1'', oc1'', c2'', oc2'', GB3, hB3', hB3'', isc1'', isc2'', ir1'', ir2'', hG1'', hG2'', F4, N4, y1, y2, y3, y4, y5⟩ := rebase2 F2 N2' e30.2.1.symm e37.2.1.symm e30.2.2 e37.2.2 (fun b o e _ z => KB3 b o e z) (fun p hp => ne3 p (by
    simp only [List.mem_cons, List.not_mem_nil, or_false] at hp ⊢
    simp [hp])) (fun p hp => nrl p (by
    simp only [List.mem_cons, List.not_mem_nil, or_false] at hp ⊢
    simp [hp])) r30'' r37'' GB'
  obtain ⟨e3, hDo3'⟩ := id hDo3
  have N5 := news_new F2 hB3' N4 hDo3' hD3
  have XB3 := X.keeps GB3
  have TB3 := T.keeps GB3
  clear F2 N2 N2' N4 XB' TB'
  rw [hd2] at hI3
  dsimp only
  k_steps
  have m30 := N5 _ (.tail _ (.tail _ (.tail _ (.head _))))
  have m37 := N5 _ (.tail _ (.tail _ (.tail _ (.tail _ (.head _)))))
  have mfl := N5 _ (.tail _ (.tail _ (.tail _ (.tail _ (.tail _ (.head _))))))
  dsimp only at m30 m37 mfl
  refine counts_spec X T hI hfl (stays_trans GB3 F4.keep) ⟨_, mfl.1, rfl, _, rfl⟩ (by decide) (by decide) ?_
  intro D5 ws5 h5 tk5 S5 hD5 hDo5 hI5
  have F5 := F4.keeps S5
  obtain ⟨e5, hDo5'⟩ := id hDo5
  have N6 := news_add F4 N5 S5 hDo5' hD5
  clear F4 N5
  dsimp only
  have hl5 : ws5.length = 5 := hI5.length.trans (by simp [lawCounts])
  have hz5 : ws5.toArray.size ≤ sizeLine := by rw [List.size_toArray, hl5, PySem.sizeLine_eq]; decide
  repeat' ((fail_if_success (with_reducible show wpAny _ _ (subscriptTail (Expr.Name _ _) _ _ _) _ _ _)); (first | (k_unfold; (try dsimp only)) | walk1 | (dsimp only; walk1)))
  refine krv_ints F5 N6 ⟨_, hDo5', rfl, _, rfl⟩ (IsPart.int _ _) hI5 ?_ (by with_unfolding_all rfl) (by kmk_pure) hz5
  intro D7 ws7 h7 F7 N7 l7 hI7 hC7
  have q3 := N7 _ (.tail _ (.tail _ (.head _)))
  have q7 := N7 _ (.head _)
  have q30 := N7 _ (.tail _ (.tail _ (.tail _ (.tail _ (.tail _ (.head _))))))
  have q37 := N7 _ (.tail _ (.tail _ (.tail _ (.tail _ (.tail _ (.tail _ (.head _)))))))
  dsimp only at q3 q7 q30 q37
  refine eq_ints ⟨_, q3.1, rfl, _, rfl⟩ ⟨_, q7.1, rfl, _, rfl⟩ hI3 hI7 (show callerA.units + 3 < cLine by decide) ?_
  dsimp only
  exact hQ h7 _ (stays_trans GB3 F7.keep) ⟨_, q37.1⟩ ⟨_, q30.1⟩
end
end Mine
end

section
open PySem PySem.Calls PySem.W PyProof.Rows
set_option maxRecDepth 100000
set_option maxHeartbeats 8000000
set_option Elab.async false
set_option linter.unusedVariables false
set_option linter.unusedSimpArgs false
namespace Mine
theorem freshRsLawA : True := by
  w_top off
  exact True.intro
section
variable {prog : Program} {w : World} {G : Heap} {mg mb : Str → Option Value} {p : Program} {loose : List Str} {mean : ExcName → Option Value}
theorem law_from13 {body : List Stmt} {scope : Scope} (hlaw : LawIs w body scope) (X : (hd.heap_39 w.params).In G) (T : Top p loose mean mg mb G) (C30 : CodeHd G 34 30) (C37 : CodeHd G 41 37) (hG30 : G.get? 30 = none) (hG37 : G.get? 37 = none)
    {B : Heap} (GB : G.StaysIn B) {L fa fl c1 c2 : Addr} {cd : Value} {s : Shared} {m : Str → Option Value} {vs : List Value} {fr : List Int} {ef : Nat} {ob4 ob3 oc1 oc2 : Obj} {width base bel number : Int} {tw tb tba tn : Tok} {Q : Flow → Shared → Prop}
    (F : Fr B L s.heap m) (mf : m (PySem.Str.ofString "friends") = some (.ref fl)) (mw : m (PySem.Str.ofString "width") = some (.int width tw)) (mn : m (PySem.Str.ofString "number") = some (.int number tn))
    (N : News B L s.heap [(c1, oc1), (c2, oc2), (30, tabObj #[rawInt (32 : Nat), rawInt (4 : Nat), .ref c1]), (37, tabObj #[rawInt (47 : Nat), rawInt (4 : Nat), .ref c2]), (fl, W.listOf vs.toArray ef), (L + 1 + 1 + 1 + 1, ob4), (L + 1 + 1 + 1, ob3)])
    (ir1 : IsRec q30 oc1) (ir2 : IsRec q37 oc2) (hG1 : G.get? c1 = none) (hG2 : G.get? c2 = none)
    (d4 : ob4.data = .cell (some (.int bel tb))) (d3 : ob3.data = .cell (some (.int base tba))) (hI : IntsAre vs fr) (hfl : fr.length = 4)
    (hb2 : 2 ≤ base) (hb60 : base ≤ 1152921504606846976) (hw1 : 0 < width) (hw60 : width ≤ 60)
    (hh0 : highBit 0 = -1) (hh1 : highBit (base ^ 8) = 8 * width) (hh2 : highBit bel = 4 * width - 1) (hh3 : highBit number = 4 * width)
    (hs1 : isSingle base = true) (hs2 : isSingle bel = false)
    (k1 : 0 ≤ bel) (k2 : Builtin.Int.intBits bel ≤ 4000) (k3 : digN bel width ≤ 64) (hd1 : int2digits bel width = (List.range 4).map fun k : Nat => (bel.fdiv (base ^ k)).fmod base)
    (k4 : 0 ≤ number) (k5 : Builtin.Int.intBits number ≤ 4000) (k6 : digN number width ≤ 64) (hd2 : int2digits number width = (lawCounts fr 4).reverse)
    (hQ : ∀ h' tk, G.StaysIn h' → GrownAt 37 h' → GrownAt 30 h' → Q (.ret (.bool true)) { s with heap := h', toks := tk }) :
    wpAny (model prog w) (callerA.deeper (lawEnv scope L fa cd)) (execs (body.drop 13) (lawEnv scope L fa cd)) Q (fun _ _ => False) s := by
  refine' law_elim hlaw ?k ?_
  case k => k_is
  intro e1 e2
  subst e1 e2
  simp only [List.drop_succ_cons, List.drop_zero]
  have F2 := fr_put (fr_put (fr_put F (x := PySem.Str.ofString "friends") (v := .ref fl) mf) (x := PySem.Str.ofString "width") (v := .int width tw) mw) (x := PySem.Str.ofString "number") (v := .int number tn) mn
  clear F
  obtain ⟨h0, gs, dr, tk0, os⟩ := s
  dsimp only at *
  have XB := X.keeps GB
  have TB := T.keeps GB
  repeat' ((fail_if_success (with_reducible show wpAny _ _ (eval (Expr.ListComp _ _ _ _) _) _ _ _)); (first | (k_unfold; (try dsimp only)) | walk1 | (dsimp only; walk1)))
  refine LCg.ListComp_U (F₀ := by k_asm) (by with_unfolding_all rfl) (by decide) (by rfl) (by decide) (by rfl) ?_
  repeat ((with_reducible show wpAny _ _ _ _ _ _); (first | (k_unfold; (try dsimp only)) | walk1 | (dsimp only; walk1)))
  refine LCg.CompSrc.ledger (by rfl) (by k_asm) (by k_asm) (by k_mem) (by kcf_size) ?_
  intro g'
  refine' kcf_list highBit (ns := [0, base ^ 8, bel, number]) (.cons _ _ (.cons _ _ (.cons _ _ (.cons _ _ .nil)))) (fun k' t' I' oI' C' oC' D' m' ys' h' tk' E' hk' hC' hx' F' N' off' ne' hMark' => ?turn) ?fin
  case turn =>
    simp only [LCg.Off3, and_true] at off'
    k_steps
    refine high_spec X T (stays_trans GB F'.keep) (show callerA.depth + 1 < recursionLimit by decide) ?_
    intro t'' h'' tk'' S''
    have F3 := F'.keeps S''
    have N3 := N'.grown S''
    try k_unfold
    dsimp only
    k_steps
  dsimp only [List.map]
  rw [hh0, hh1, hh2, hh3]
  k_steps
  all_goals try (exfalso; exact ‹¬ ([-1, 8 * width, 4 * width - 1, 4 * width] : List Int) = _› rfl)
  refine single_spec X T (stays_trans GB (Fr.keep (by assumption))) (show callerA.depth + 1 < recursionLimit by decide) ?_
  rename_i h5 F5 N5 l5
  rw [show isSingle 0 = false from rfl]
  intro h6 tk6 S6
  have F6 := F5.keeps S6
  have N6 := N5.grown S6
  clear F5 N5
  dsimp only
  k_steps
  refine single_spec X T (stays_trans GB F6.keep) (show callerA.depth + 1 < recursionLimit by decide) ?_
  rw [hs1]
  intro h7 tk7 S7
  have F7 := F6.keeps S7
  have N7 := N6.grown S7
  clear F6 N6
  dsimp only
  k_steps
  refine single_spec X T (stays_trans GB F7.keep) (show callerA.depth + 1 < recursionLimit by decide) ?_
  rw [hs2]
  intro h8 tk8 S8
  have F8 := F7.keeps S8
  have N8 := N7.grown S8
  clear F7 N7
  dsimp only
  repeat' ((fail_if_success (with_reducible show wpAny _ _ (execs [_, _] _) _ _ _)); (first | (k_unfold; (try dsimp only)) | walk1 | (dsimp only; walk1)))
  have N9 : News B L h8 [(c1, oc1), (c2, oc2), (30, tabObj #[rawInt (32 : Nat), rawInt (4 : Nat), .ref c1]), (37, tabObj #[rawInt (47 : Nat), rawInt (4 : Nat), .ref c2]), (fl, W.listOf vs.toArray ef), (L + 1 + 1 + 1 + 1, ob4), (L + 1 + 1 + 1, ob3)] := fun q hq => N8 q (by
    simp only [List.mem_cons, List.not_mem_nil, or_false] at hq ⊢
    rcases hq with h | h | h | h | h | h | h <;> simp [h])
  dsimp only
  exact law_from15 hlaw X T C30 C37 hG30 hG37 GB F8 rfl rfl rfl N9 ir1 ir2 hG1 hG2 d4 d3 hI hfl hb2 hb60 hw1 hw60 k1 k2 k3 hd1 k4 k5 k6 hd2 hQ
end
end Mine
end

section
open PySem PySem.Calls PySem.W PyProof.Rows
set_option maxRecDepth 100000
set_option maxHeartbeats 8000000
set_option Elab.async false
set_option linter.unusedVariables false
set_option linter.unusedSimpArgs false
namespace Mine
theorem freshRsLawB : True := by
  w_top off
  exact True.intro
section
variable {prog : Program} {w : World} {G : Heap} {mg mb : Str → Option Value} {p : Program} {loose : List Str} {mean : ExcName → Option Value}
theorem law_from10 {body : List Stmt} {scope : Scope} (hlaw : LawIs w body scope) (X : (hd.heap_39 w.params).In G) (T : Top p loose mean mg mb G) (C30 : CodeHd G 34 30) (C37 : CodeHd G 41 37) (hG30 : G.get? 30 = none) (hG37 : G.get? 37 = none)
    {L fa fl : Addr} {cd : Value} {s : Shared} {m : Str → Option Value} {vs : List Value} {fr : List Int} {ef : Nat} {ob4 ob3 : Obj} {tot width base bel above q r number : Int} {tt tw tb tba ta : Tok} {Q : Flow → Shared → Prop}
    (F : Fr G L s.heap m) (mt : m (PySem.Str.ofString "total") = some (.int tot tt)) (mf : m (PySem.Str.ofString "friends") = some (.ref fl)) (mw : m (PySem.Str.ofString "width") = some (.int width tw)) (ma : m (PySem.Str.ofString "above") = some (.int above ta))
    (N : News G L s.heap [(fl, W.listOf vs.toArray ef), (L + 1 + 1 + 1 + 1, ob4), (L + 1 + 1 + 1, ob3), (37, tabObj #[]), (30, tabObj #[])]) (d4 : ob4.data = .cell (some (.int bel tb))) (d3 : ob3.data = .cell (some (.int base tba))) (hI : IntsAre vs fr) (hfl : fr.length = 4)
    (o1 : Builtin.Int.intBits above ≤ 2900) (o2 : 0 < bel) (o3 : Builtin.Int.intBits bel ≤ 1000) (o4 : digN above (Builtin.Int.intBits bel) ≤ 64) (o5 : digN (-above - 1) (Builtin.Int.intBits bel) ≤ 64)
    (hqr : intDivmod above bel = (q, r)) (hq1 : q * bel + r = above) (hqb : Builtin.Int.intBits q ≤ 1000)
    (p1 : Builtin.Int.intBits (above - r) ≤ 2900) (p4 : digN (above - r) (Builtin.Int.intBits bel) ≤ 64) (p5 : digN (-(above - r) - 1) (Builtin.Int.intBits bel) ≤ 64) (hqr2 : intDivmod (above - r) bel = (q, 0))
    (hb2 : 2 ≤ base) (hb60 : base ≤ 1152921504606846976) (hw1 : 0 < width) (hw60 : width ≤ 60) (hnum : number = if tot.fmod 2 = 0 then q else -1 - q)
    (hh0 : highBit 0 = -1) (hh1 : highBit (base ^ 8) = 8 * width) (hh2 : highBit bel = 4 * width - 1) (hh3 : highBit number = 4 * width)
    (hs1 : isSingle base = true) (hs2 : isSingle bel = false)
    (k3 : digN bel width ≤ 64) (hd1 : int2digits bel width = (List.range 4).map fun k : Nat => (bel.fdiv (base ^ k)).fmod base)
    (k4 : 0 ≤ number) (k5 : Builtin.Int.intBits number ≤ 4000) (k6 : digN number width ≤ 64) (hd2 : int2digits number width = (lawCounts fr 4).reverse)
    (hQ : ∀ h' tk, G.StaysIn h' → GrownAt 37 h' → GrownAt 30 h' → Q (.ret (.bool true)) { s with heap := h', toks := tk }) :
    wpAny (model prog w) (callerA.deeper (lawEnv scope L fa cd)) (execs (body.drop 10) (lawEnv scope L fa cd)) Q (fun _ _ => False) s := by
  refine' law_elim hlaw ?k ?_
  case k => k_is
  intro e1 e2
  subst e1 e2
  simp only [List.drop_succ_cons, List.drop_zero]
  have F2 := fr_put (fr_put (fr_put (fr_put F (x := PySem.Str.ofString "total") (v := .int tot tt) mt) (x := PySem.Str.ofString "friends") (v := .ref fl) mf) (x := PySem.Str.ofString "width") (v := .int width tw) mw) (x := PySem.Str.ofString "above") (v := .int above ta) ma
  clear F
  obtain ⟨h0, gs, dr, tk0, os⟩ := s
  dsimp only at *
  k_steps
  have n30 := N _ (.tail _ (.tail _ (.tail _ (.tail _ (.head _)))))
  have n37 := N _ (.tail _ (.tail _ (.tail _ (.head _))))
  have nfl := N _ (.head _)
  have nb4 := N _ (.tail _ (.head _))
  have nb3 := N _ (.tail _ (.tail _ (.head _)))
  dsimp only at n30 n37 nfl nb4 nb3
  refine idm_spec X T C30 C37 hG30 hG37 o1 o2 o3 o4 o5 F2.keep (.inl n30.1) (.inl n37.1) (by decide) (by decide) ?_
  rw [hqr]
  intro d t1 t2 h2 tk2 KB2 r30 r37 hd hdo
  have nrl : ∀ p ∈ [(fl, W.listOf vs.toArray ef), (L + 1 + 1 + 1 + 1, ob4), (L + 1 + 1 + 1, ob3)], ∀ q, ¬ IsRec q p.2 :=
    List.forall_mem_cons.mpr ⟨fun _ => not_rec_seq, List.forall_mem_cons.mpr ⟨fun _ ⟨_, _, h, _⟩ => (by rw [d4] at h; cases h), List.forall_mem_cons.mpr ⟨fun _ ⟨_, _, h, _⟩ => (by rw [d3] at h; cases h), List.forall_mem_nil _⟩⟩⟩
  have nel : ∀ {a : Addr} {o : Obj}, h0.get? a = some o → o ≠ tabObj #[] → a ≠ 30 ∧ a ≠ 37 := fun {a o} e hne => ⟨fun z => by rw [z, n30.1] at e; exact hne (Option.some.inj e).symm, fun z => by rw [z, n37.1] at e; exact hne (Option.some.inj e).symm⟩
  have ne3 : ∀ p ∈ [(fl, W.listOf vs.toArray ef), (L + 1 + 1 + 1 + 1, ob4), (L + 1 + 1 + 1, ob3)], p.1 ≠ 30 ∧ p.1 ≠ 37 :=
    List.forall_mem_cons.mpr ⟨nel nfl.1 (fun z => by cases z), List.forall_mem_cons.mpr ⟨nel nb4.1 (fun z => by rw [z] at d4; cases d4), List.forall_mem_cons.mpr ⟨nel nb3.1 (fun z => by rw [z] at d3; cases d3), List.forall_mem_nil _⟩⟩⟩
  have N' : News G L h0 [(fl, W.listOf vs.toArray ef), (L + 1 + 1 + 1 + 1, ob4), (L + 1 + 1 + 1, ob3)] := fun q hq => N q (by
    simp only [List.mem_cons, List.not_mem_nil, or_false] at hq ⊢
    rcases hq with h | h | h <;> simp [h])
  obtain ⟨B, c1, oc1, c2, oc2, GB, hB', hB, isc1, isc2, ir1, ir2, hG1, hG2, F3, N3, x1, x2, x3, x4, x5⟩ := rebase2 F2 N' n30.2.1.symm n37.2.1.symm n30.2.2 n37.2.2 KB2 ne3 nrl r30 r37 (fun _ _ e => e)
  have N4 := news_new F2 hB' N3 hdo hd
  have XB := X.keeps GB
  have TB := T.keeps GB
  clear F2 N N' N3
  dsimp only
  repeat' ((fail_if_success (with_reducible show wpAny _ _ (binaryOp Operator.Mult _ _) _ _ _)); (first | (k_unfold; (try dsimp only)) | walk1 | (dsimp only; walk1)))
  refine mul_int ?_ (IntMulOk.of_le hqb o3 (by omega))
  k_steps
  all_goals try (exact absurd hq1 ‹(q, r).fst * bel + (q, r).snd ≠ above›)
  rename_i h7 F7 N7 e7
  dsimp only at F7 N7
  have c30 := N7 _ (.tail _ (.tail _ (.tail _ (.head _))))
  have c37 := N7 _ (.tail _ (.tail _ (.tail _ (.tail _ (.head _)))))
  have cc1 := N7 _ (.tail _ (.head _))
  have cc2 := N7 _ (.tail _ (.tail _ (.head _)))
  have cd0 := N7 _ (.head _)
  dsimp only at c30 c37 cc1 cc2 cd0
  refine idm_spec X T C30 C37 hG30 hG37 p1 o2 o3 p4 p5 (stays_trans GB F7.keep) (.inr ⟨c1, c30.1, of_rec cc1.1 ir1, hG1⟩) (.inr ⟨c2, c37.1, of_rec cc2.1 ir2, hG2⟩) (by decide) (by decide) ?_
  rw [hqr2]
  intro d' t1' t2' h8 tk8 KB8 r30' r37' hd' hdo'
  have nrl' : ∀ p ∈ [(d, tupObj #[Value.int q t1, Value.int r t2]), (fl, W.listOf vs.toArray ef), (L + 1 + 1 + 1 + 1, ob4), (L + 1 + 1 + 1, ob3)], ∀ q, ¬ IsRec q p.2 :=
    List.forall_mem_cons.mpr ⟨fun _ => not_rec_seq, nrl⟩
  have ne4 : ∀ p ∈ [(d, tupObj #[Value.int q t1, Value.int r t2]), (fl, W.listOf vs.toArray ef), (L + 1 + 1 + 1 + 1, ob4), (L + 1 + 1 + 1, ob3)], p.1 ≠ 30 ∧ p.1 ≠ 37 :=
    List.forall_mem_cons.mpr ⟨And.intro (fun z => by have z' : d = 30 := z; rw [z', c30.1] at cd0; cases cd0.1) (fun z => by have z' : d = 37 := z; rw [z', c37.1] at cd0; cases cd0.1), ne3⟩
  have N8 : News B L h7 [(d, tupObj #[Value.int q t1, Value.int r t2]), (fl, W.listOf vs.toArray ef), (L + 1 + 1 + 1 + 1, ob4), (L + 1 + 1 + 1, ob3)] := fun q hq => N7 q (by
    simp only [List.mem_cons, List.not_mem_nil, or_false] at hq ⊢
    rcases hq with h | h | h | h <;> simp [h])
  obtain ⟨B', c1', oc1', c2', oc2', GB', hB'', hB3, isc1', isc2', ir1', ir2', hG1', hG2', F9, N9, x1', x2', x3', x4', x5'⟩ := rebase2 F7 N8 c30.2.1.symm c37.2.1.symm c30.2.2 c37.2.2 KB8 ne4 nrl' r30' r37' GB
  have N10 := news_new F7 hB'' N9 hdo' hd'
  have XB' := X.keeps GB'
  have TB' := T.keeps GB'
  clear F7 N7 N8 N9 XB TB
  dsimp only
  repeat' ((fail_if_success (with_reducible show wpAny _ _ (compareOp _ _ _) _ _ _)); (first | (k_unfold; (try dsimp only)) | walk1 | (dsimp only; walk1)))
  rename_i D9 h9 F9 N9 l9
  have cD := N9 _ (.head _)
  have cd' := N9 _ (.tail _ (.head _))
  dsimp only at cD cd'
  refine ne_tints (vs := [.int q t1', .int 0 t2']) (ws := [.int q t1, .int 0 tk8]) (xs := [q, 0]) ⟨_, cd'.1, rfl, _, rfl⟩ ⟨_, cD.1, rfl, _, rfl⟩ (.cons _ _ (.cons _ _ .nil)) (.cons _ _ (.cons _ _ .nil)) (show callerA.units + 3 < cLine by decide) ?_
  repeat' ((fail_if_success (with_reducible show wpAny _ _ (execs [_, _, _, _] _) _ _ _)); (first | (k_unfold; (try dsimp only)) | walk1 | (dsimp only; walk1)))
  · rename_i e0 h' Fq Nq
    rw [if_pos e0] at hnum
    subst hnum
    have N' : News B' L h' [(c1', oc1'), (c2', oc2'), (30, tabObj #[rawInt (32 : Nat), rawInt (4 : Nat), .ref c1']), (37, tabObj #[rawInt (47 : Nat), rawInt (4 : Nat), .ref c2']), (fl, W.listOf vs.toArray ef), (L + 1 + 1 + 1 + 1, ob4), (L + 1 + 1 + 1, ob3)] := fun q hq => Nq q (by
      simp only [List.mem_cons, List.not_mem_nil, or_false] at hq ⊢
      rcases hq with h | h | h | h | h | h | h <;> simp [h])
    dsimp only
    exact law_from13 hlaw X T C30 C37 hG30 hG37 GB' Fq rfl rfl rfl N' ir1' ir2' hG1' hG2' d4 d3 hI hfl hb2 hb60 hw1 hw60 hh0 hh1 hh2 hh3 hs1 hs2 (Int.le_of_lt o2) (Nat.le_trans o3 (by decide)) k3 hd1 k4 k5 k6 hd2 hQ
  · rename_i e0 h' Fq Nq
    rw [if_neg e0] at hnum
    subst hnum
    have N' : News B' L h' [(c1', oc1'), (c2', oc2'), (30, tabObj #[rawInt (32 : Nat), rawInt (4 : Nat), .ref c1']), (37, tabObj #[rawInt (47 : Nat), rawInt (4 : Nat), .ref c2']), (fl, W.listOf vs.toArray ef), (L + 1 + 1 + 1 + 1, ob4), (L + 1 + 1 + 1, ob3)] := fun q hq => Nq q (by
      simp only [List.mem_cons, List.not_mem_nil, or_false] at hq ⊢
      rcases hq with h | h | h | h | h | h | h <;> simp [h])
    dsimp only
    exact law_from13 hlaw X T C30 C37 hG30 hG37 GB' Fq rfl rfl rfl N' ir1' ir2' hG1' hG2' d4 d3 hI hfl hb2 hb60 hw1 hw60 hh0 hh1 hh2 hh3 hs1 hs2 (Int.le_of_lt o2) (Nat.le_trans o3 (by decide)) k3 hd1 k4 k5 k6 hd2 hQ
end
end Mine
end

section
open PySem PySem.Calls PySem.W PyProof.Rows
set_option maxRecDepth 100000
set_option maxHeartbeats 8000000
set_option Elab.async false
set_option linter.unusedVariables false
set_option linter.unusedSimpArgs false
namespace Mine
theorem freshRsLawD : True := by
  w_top off
  exact True.intro
/-- all that the law asks of its numbers -/
structure LF (tot width base bel : Int) (fr : List Int) (above q r number : Int) : Prop where
  hab : above = if tot.fmod 2 = 0 then base ^ 8 else -(base ^ 8)
  o1 : Builtin.Int.intBits above ≤ 2900
  o2 : 0 < bel
  o3 : Builtin.Int.intBits bel ≤ 1000
  o4 : digN above (Builtin.Int.intBits bel) ≤ 64
  o5 : digN (-above - 1) (Builtin.Int.intBits bel) ≤ 64
  hqr : intDivmod above bel = (q, r)
  hq1 : q * bel + r = above
  hqb : Builtin.Int.intBits q ≤ 1000
  p1 : Builtin.Int.intBits (above - r) ≤ 2900
  p4 : digN (above - r) (Builtin.Int.intBits bel) ≤ 64
  p5 : digN (-(above - r) - 1) (Builtin.Int.intBits bel) ≤ 64
  hqr2 : intDivmod (above - r) bel = (q, 0)
  hb2 : 2 ≤ base
  hb60 : base ≤ 1152921504606846976
  hw1 : 0 < width
  hw60 : width ≤ 60
  hnum : number = if tot.fmod 2 = 0 then q else -1 - q
  hh0 : highBit 0 = -1
  hh1 : highBit (base ^ 8) = 8 * width
  hh2 : highBit bel = 4 * width - 1
  hh3 : highBit number = 4 * width
  hs1 : isSingle base = true
  hs2 : isSingle bel = false
  k3 : digN bel width ≤ 64
  hd1 : int2digits bel width = (List.range 4).map fun k : Nat => (bel.fdiv (base ^ k)).fmod base
  k4 : 0 ≤ number
  k5 : Builtin.Int.intBits number ≤ 4000
  k6 : digN number width ≤ 64
  hd2 : int2digits number width = (lawCounts fr 4).reverse
section
variable {prog : Program} {w : World} {G : Heap} {mg mb : Str → Option Value} {p : Program} {loose : List Str} {mean : ExcName → Option Value}
theorem law_from9 {body : List Stmt} {scope : Scope} (hlaw : LawIs w body scope) (X : (hd.heap_39 w.params).In G) (T : Top p loose mean mg mb G) (C30 : CodeHd G 34 30) (C37 : CodeHd G 41 37) (hG30 : G.get? 30 = none) (hG37 : G.get? 37 = none)
    {L fa fl : Addr} {cd : Value} {s : Shared} {m : Str → Option Value} {vs : List Value} {fr : List Int} {ef : Nat} {ob4 ob3 : Obj} {tot width base bel above q r number : Int} {tt tw tb tba : Tok} {Q : Flow → Shared → Prop}
    (F : Fr G L s.heap m) (mt : m (PySem.Str.ofString "total") = some (.int tot tt)) (mf : m (PySem.Str.ofString "friends") = some (.ref fl)) (mw : m (PySem.Str.ofString "width") = some (.int width tw))
    (N : News G L s.heap [(fl, W.listOf vs.toArray ef), (L + 1 + 1 + 1 + 1, ob4), (L + 1 + 1 + 1, ob3), (37, tabObj #[]), (30, tabObj #[])]) (d4 : ob4.data = .cell (some (.int bel tb))) (d3 : ob3.data = .cell (some (.int base tba))) (hI : IntsAre vs fr) (hfl : fr.length = 4)
    (f : LF tot width base bel fr above q r number)
    (hQ : ∀ h' tk, G.StaysIn h' → GrownAt 37 h' → GrownAt 30 h' → Q (.ret (.bool true)) { s with heap := h', toks := tk }) :
    wpAny (model prog w) (callerA.deeper (lawEnv scope L fa cd)) (execs (body.drop 9) (lawEnv scope L fa cd)) Q (fun _ _ => False) s := by
  refine' law_elim hlaw ?k ?_
  case k => k_is
  intro e1 e2
  subst e1 e2
  simp only [List.drop_succ_cons, List.drop_zero]
  have F2 := fr_put (fr_put (fr_put F (x := PySem.Str.ofString "total") (v := .int tot tt) mt) (x := PySem.Str.ofString "friends") (v := .ref fl) mf) (x := PySem.Str.ofString "width") (v := .int width tw) mw
  clear F
  obtain ⟨h0, gs, dr, tk0, os⟩ := s
  dsimp only at *
  obtain ⟨hab, o1, o2, o3, o4, o5, hqr, hq1, hqb, p1, p4, p5, hqr2, hb2, hb60, hw1, hw60, hnum, hh0, hh1, hh2, hh3, hs1, hs2, k3, hd1, k4, k5, k6, hd2⟩ := f
  repeat' ((fail_if_success (with_reducible show wpAny _ _ (execs [_, _, _, _, _, _, _] _) _ _ _)); (first | (k_unfold; (try dsimp only)) | walk1 | (dsimp only; walk1)))
  · rename_i e0 h' Fq Nq
    rw [if_pos e0] at hab
    subst hab
    dsimp only
    exact law_from10 hlaw X T C30 C37 hG30 hG37 Fq rfl rfl rfl rfl Nq d4 d3 hI hfl o1 o2 o3 o4 o5 hqr hq1 hqb p1 p4 p5 hqr2 hb2 hb60 hw1 hw60 hnum hh0 hh1 hh2 hh3 hs1 hs2 k3 hd1 k4 k5 k6 hd2 hQ
  · rename_i e0 h' Fq Nq
    rw [if_neg e0] at hab
    subst hab
    dsimp only
    exact law_from10 hlaw X T C30 C37 hG30 hG37 Fq rfl rfl rfl rfl Nq d4 d3 hI hfl o1 o2 o3 o4 o5 hqr hq1 hqb p1 p4 p5 hqr2 hb2 hb60 hw1 hw60 hnum hh0 hh1 hh2 hh3 hs1 hs2 k3 hd1 k4 k5 k6 hd2 hQ
end
end Mine
end

section
open PySem PySem.Calls PySem.W PyProof.Rows
set_option maxRecDepth 100000
set_option Elab.async false
set_option linter.unusedVariables false
namespace Mine
theorem freshRsFin3 : True := by
  w_top off
  exact True.intro
theorem okDiv_of {a b : Int} (h : okDivB Builtin.Int.intBits a b = true) : Builtin.Int.intBits a ≤ 2900 ∧ 0 < b ∧ Builtin.Int.intBits b ≤ 1000 ∧ digN a (Builtin.Int.intBits b) ≤ 64 ∧ digN (-a - 1) (Builtin.Int.intBits b) ≤ 64 := by
  unfold okDivB at h
  simp only [Bool.and_eq_true, decide_eq_true_eq] at h
  obtain ⟨⟨⟨⟨h1, h2⟩, h3⟩, h4⟩, h5⟩ := h
  exact ⟨h1, h2, h3, h4, h5⟩
theorem okDig_of {a n : Int} (h : okDigB Builtin.Int.intBits a n = true) : 0 ≤ a ∧ Builtin.Int.intBits a ≤ 4000 ∧ digN a n ≤ 64 := by
  unfold okDigB at h
  simp only [Bool.and_eq_true, decide_eq_true_eq] at h
  exact ⟨h.1.1, h.1.2, h.2⟩
theorem lf_of_check {tot width base bel : Int} {fr : List Int} (hb2 : 2 ≤ base) (hb60 : base ≤ 1152921504606846976) (hw1 : 0 < width) (hw60 : width ≤ 60) {even : Bool} (he : even = decide (tot.fmod 2 = 0))
    (h : checkB Builtin.Int.intBits (lawCounts fr 4) width base bel even = true) : ∃ above q r number, LF tot width base bel fr above q r number := by
  unfold checkB at h
  simp only [forceI_eq] at h
  rw [← idmB_eq] at h
  unfold check1 at h
  rw [← idmB_eq, ← int2B_eq, ← highB_eq] at h
  simp only [Bool.and_eq_true, decide_eq_true_eq, beq_iff_eq, Bool.not_eq_true'] at h
  obtain ⟨⟨⟨⟨⟨⟨⟨⟨⟨⟨h1, h2⟩, h3⟩, h4⟩, h5⟩, h6, h7⟩, h8⟩, h9⟩, h10⟩, h11⟩, h12⟩ := h
  have hb0 : 0 ≤ base := by omega
  have p8 : ((base.toNat ^ 8 : Nat) : Int) = base ^ 8 := pow_cast hb0 8
  have hab : aboveOf base even = if tot.fmod 2 = 0 then base ^ 8 else -(base ^ 8) := by
    unfold aboveOf
    rw [p8, he]
    simp
  have hnum : numberOf (intDivmod (aboveOf base even) bel).1 even = if tot.fmod 2 = 0 then (intDivmod (aboveOf base even) bel).1 else -1 - (intDivmod (aboveOf base even) bel).1 := by
    unfold numberOf
    rw [he]
    simp
  obtain ⟨o1, o2, o3, o4, o5⟩ := okDiv_of h1
  obtain ⟨p1, _, _, p4, p5⟩ := okDiv_of h3
  obtain ⟨k1, k2, k3⟩ := okDig_of h8
  obtain ⟨k4, k5, k6⟩ := okDig_of h10
  rw [p8] at h5
  simp only [List.cons.injEq, and_true] at h5
  obtain ⟨q0, q1, q2, q3⟩ := h5
  have hd1 : int2digits bel width = (List.range 4).map fun k : Nat => (bel.fdiv (base ^ k)).fmod base := by
    rw [h9]
    refine List.map_congr_left fun k _ => ?_
    rw [pow_cast hb0]
  exact ⟨_, (intDivmod (aboveOf base even) bel).1, (intDivmod (aboveOf base even) bel).2, _, ⟨hab, o1, o2, o3, o4, o5, rfl, h2, h12, p1, p4, p5, h4, hb2, hb60, hw1, hw60, hnum, q0, q1, q2, q3, h6, h7, k3, hd1, k4, k5, k6, h11⟩⟩
theorem lf_any (tot : Int) : ∃ bel above q r number,
    (∀ i : Nat, i < 16 → -1 ≤ lawSize 4 (i : Nat) (friendsOf (11 + tot.fdiv 2)) ∧ lawSize 4 (i : Nat) (friendsOf (11 + tot.fdiv 2)) ≤ 4) ∧
    belW (friendsOf (11 + tot.fdiv 2)) (2 ^ (11 + ((tot.fdiv 2).fdiv 64).fmod 50).toNat) 16 = bel ∧
    LF tot (11 + ((tot.fdiv 2).fdiv 64).fmod 50) (2 ^ (11 + ((tot.fdiv 2).fdiv 64).fmod 50).toNat) bel (friendsOf (11 + tot.fdiv 2)) above q r number := by
  obtain ⟨e, t, k, h1, h2, h3⟩ := hb_any (11 + tot.fdiv 2)
  have hc := rows_ok h1
  have w0 := Int.fmod_nonneg_of_pos ((tot.fdiv 2).fdiv 64) (show (0 : Int) < 50 by decide)
  have w1 := Int.fmod_lt_of_pos ((tot.fdiv 2).fdiv 64) (show (0 : Int) < 50 by decide)
  generalize ((tot.fdiv 2).fdiv 64).fmod 50 = wd at w0 w1
  obtain ⟨wn, rfl⟩ := Int.eq_ofNat_of_zero_le w0
  unfold checkRow at hc
  rw [List.all_eq_true] at hc
  have hc := hc wn (by simpa using by omega)
  simp only [forceI_eq, ← fastC_eq, Bool.and_eq_true] at hc
  have hbase : (2 : Int) ^ (11 + (wn : Int)).toNat = p2 (11 + (wn : Nat)) := p2_eq _
  have hp : (11 + (wn : Int)).toNat = 11 + wn := by omega
  have hb2 : 2 ≤ p2 (11 + (wn : Nat)) := by
    unfold p2
    rw [hp]
    have : 2 ^ 1 ≤ 2 ^ (11 + wn) := Nat.pow_le_pow_right (by decide) (by omega)
    omega
  have hb60 : p2 (11 + (wn : Nat)) ≤ 1152921504606846976 := by
    unfold p2
    rw [hp]
    have h : 2 ^ (11 + wn) ≤ 2 ^ 60 := Nat.pow_le_pow_right (by decide) (by omega)
    have e : (2 : Nat) ^ 60 = 1152921504606846976 := by decide
    rw [e] at h
    omega
  rw [hbase]
  refine ⟨belowF e t k (p2 (11 + (wn : Nat))), ?_⟩
  have key : ∃ above q r number, LF tot (11 + (wn : Nat)) (p2 (11 + (wn : Nat))) (belowF e t k (p2 (11 + (wn : Nat)))) (friendsOf (11 + tot.fdiv 2)) above q r number := by
    by_cases hev : tot.fmod 2 = 0
    · exact lf_of_check hb2 hb60 (by omega) (by omega) (even := true) (by simp [hev]) hc.1
    · exact lf_of_check hb2 hb60 (by omega) (by omega) (even := false) (by simp [hev]) hc.2
  obtain ⟨above, q, r, number, f⟩ := key
  exact ⟨above, q, r, number, h2, h3 _ (by omega), f⟩
end Mine
end

section
open PySem PySem.Calls PySem.W PyProof.Rows
set_option maxRecDepth 100000
set_option maxHeartbeats 8000000
set_option Elab.async false
set_option linter.unusedVariables false
set_option linter.unusedSimpArgs false
namespace Mine
theorem freshRsLawE : True := by
  w_top off
  exact True.intro
theorem bits_m1 (n : Nat) : Builtin.Int.intBits ((-1) ^ n) ≤ 1 := by
  rw [intBits_le_iff, Int.natAbs_pow]
  simp
theorem bits_base {base : Int} (h2 : 2 ≤ base) (h60 : base ≤ 1152921504606846976) {n : Nat} (hn : n ≤ 8) : Builtin.Int.intBits (base ^ n) ≤ 481 := by
  rw [intBits_le_iff, Int.natAbs_pow]
  have h1 : base.natAbs ≤ 2 ^ 60 := by
    have : (2 : Nat) ^ 60 = 1152921504606846976 := by decide
    omega
  calc base.natAbs ^ n ≤ (2 ^ 60) ^ n := Nat.pow_le_pow_left h1 n
    _ = 2 ^ (60 * n) := by rw [← Nat.pow_mul]
    _ < 2 ^ 481 := Nat.pow_lt_pow_right (by decide) (by omega)
section
variable {prog : Program} {w : World} {G : Heap} {mg mb : Str → Option Value} {p : Program} {loose : List Str} {mean : ExcName → Option Value}
theorem law_from8 {body : List Stmt} {scope : Scope} (hlaw : LawIs w body scope) (X : (hd.heap_39 w.params).In G) (T : Top p loose mean mg mb G) (C30 : CodeHd G 34 30) (C37 : CodeHd G 41 37) (hG30 : G.get? 30 = none) (hG37 : G.get? 37 = none)
    {L fa fl : Addr} {cd : Value} {s : Shared} {m : Str → Option Value} {vs : List Value} {fr : List Int} {ef : Nat} {ob4 ob3 : Obj} {tot width base bel above q r number : Int} {tt tw tb tba : Tok} {Q : Flow → Shared → Prop}
    (F : Fr G L s.heap m) (mt : m (PySem.Str.ofString "total") = some (.int tot tt)) (mf : m (PySem.Str.ofString "friends") = some (.ref fl)) (mw : m (PySem.Str.ofString "width") = some (.int width tw))
    (N : News G L s.heap [(fl, W.listOf vs.toArray ef), (L + 1 + 1 + 1 + 1, ob4), (L + 1 + 1 + 1, ob3), (37, tabObj #[]), (30, tabObj #[])]) (d4 : ob4.data = .cell (some (.int 0 tb))) (d3 : ob3.data = .cell (some (.int base tba))) (hI : IntsAre vs fr) (hfl : fr.length = 4)
    (hsz : ∀ i : Nat, i < 16 → -1 ≤ lawSize 4 (i : Nat) fr ∧ lawSize 4 (i : Nat) fr ≤ 4) (hbel : belW fr base 16 = bel)
    (f : LF tot width base bel fr above q r number)
    (hQ : ∀ h' tk, G.StaysIn h' → GrownAt 37 h' → GrownAt 30 h' → Q (.ret (.bool true)) { s with heap := h', toks := tk }) :
    wpAny (model prog w) (callerA.deeper (lawEnv scope L fa cd)) (execs (body.drop 8) (lawEnv scope L fa cd)) Q (fun _ _ => False) s := by
  refine' law_elim hlaw ?k ?_
  case k => k_is
  intro e1 e2
  subst e1 e2
  simp only [List.drop_succ_cons, List.drop_zero]
  obtain ⟨h0, gs, dr, tk0, os⟩ := s
  dsimp only at *
  refine wpAny_execs_cons ?_
  refine wpAny_For ?_
  k_steps
  rename_i hr' tk' t1 u1 v1 hR FF NN hK
  refine wpAny_pyIter_range hR (by decide) ?_
  dsimp only
  have aL : L < hr'.objs.size := FF.ns.lt
  have nfl := NN _ (.head _)
  have nb4 := NN _ (.tail _ (.head _))
  have nb3 := NN _ (.tail _ (.tail _ (.head _)))
  have n37 := NN _ (.tail _ (.tail _ (.tail _ (.head _))))
  have n30 := NN _ (.tail _ (.tail _ (.tail _ (.tail _ (.head _)))))
  dsimp only at nfl nb4 nb3 n37 n30
  have allI : ∀ p ∈ [(fl, W.listOf vs.toArray ef), (L + 1 + 1 + 1 + 1, ob4), (L + 1 + 1 + 1, ob3), (37, tabObj #[]), (30, tabObj #[])], p.1 ≠ hr'.objs.size := fun p hp => Nat.ne_of_lt (Heap.lt_size (NN p hp).1)
  have allI' : ∀ {ob : Obj}, ∀ p ∈ [(fl, W.listOf vs.toArray ef), (L + 1 + 1 + 1 + 1, ob), (L + 1 + 1 + 1, ob3), (37, tabObj #[]), (30, tabObj #[])], p.1 ≠ hr'.objs.size := fun {ob} => List.forall_mem_cons.mpr ⟨allI _ (.head _), List.forall_mem_cons.mpr ⟨Nat.ne_of_lt (Heap.lt_size nb4.1), fun p hp => allI p (.tail _ (.tail _ hp))⟩⟩
  have hGI : G.get? hr'.objs.size = none := by
    cases q : G.get? hr'.objs.size with
    | none => rfl
    | some o => exact absurd (Heap.lt_size (FF.keep _ _ q)) (Nat.lt_irrefl _)
  refine for_walk (m := m) (Walks.range (prog := prog) (w := w) rfl hr'.objs.size 0 1 16) rfl rfl (by show L ∉ [hr'.objs.size]; simpa using neN (Nat.ne_of_lt aL))
    (fun i m' h => ∃ ob tb', Fr G L h m' ∧ (∀ y, y ≠ PySem.Str.ofString "flags" → y ≠ PySem.Str.ofString "size" → m' y = m y) ∧
      News G L h [(fl, W.listOf vs.toArray ef), (L + 1 + 1 + 1 + 1, ob), (L + 1 + 1 + 1, ob3), (37, tabObj #[]), (30, tabObj #[])] ∧ ob.data = .cell (some (.int (belW fr base i) tb')))
    (fun i m h ⟨_, _, F', _⟩ => F'.ns) ?stab ?init ?iter ?turn ?done
  case stab =>
    rintro i m1 h h' ⟨ob, tb', F1, hm, N1, hd⟩ k
    exact ⟨ob, tb', fr_frame F1 k (by simpa using neN (Nat.ne_of_lt aL)) (by simpa using hGI), hm, news_frame N1 k (fun q hq => by simpa using allI' q hq), hd⟩
  case init => exact ⟨ob4, tb, FF.push _, fun _ _ _ => rfl, fun q hq => ⟨Heap.get?_push_of_some _ (NN q hq).1, (NN q hq).2⟩, d4⟩
  case iter => exact Heap.get?_push_size _ rfl
  case turn =>
    rintro i v m1 h h' tk hi ⟨tv, rfl⟩ ⟨ob, tb', F1, hm, N1, hd⟩ hns hs hst
    have F2 := fr_put (F1.set hns hs) (x := PySem.Str.ofString "friends") (v := .ref fl) (by rw [if_neg (by decide), hm _ (by decide) (by decide)]; exact mf)
    have hs' : Heap.SameBut L h h' := hs
    have N2 : News G L h' [(hr'.objs.size, ⟨.type "range_iterator", none, .fields #[rawInt (0 + ((i + 1 : Nat) : Int) * 1), rawInt ((16 : Nat) - ((i + 1 : Nat) : Int)), rawInt 1], #[]⟩), (fl, W.listOf vs.toArray ef), (L + 1 + 1 + 1 + 1, ob), (L + 1 + 1 + 1, ob3), (37, tabObj #[]), (30, tabObj #[])] :=
      List.forall_mem_cons.mpr ⟨⟨hst, (Nat.ne_of_lt aL).symm, hGI⟩, N1.set hs'⟩
    obtain ⟨hz1, hz2⟩ := hsz i hi
    have hb2 := f.hb2
    have hb60 := f.hb60
    clear F1 N1 hs hns hs' hst FF NN
    k_steps
    have n1 := N2 _ (.tail _ (.head _))
    dsimp only at n1
    refine size_spec X T hI hfl 4 (by decide) F2.keep ⟨_, n1.1, rfl, _, rfl⟩ (by decide) (by decide) (by omega) (by omega) ?_
    intro t3 h3 tk3 S3
    have F3 := F2.keeps S3
    have N3 := N2.grown S3
    clear F2 N2
    rw [show (0 : Int) + (i : Nat) * 1 = (i : Nat) by omega]
    generalize hsv : lawSize 4 (i : Nat) fr = sz at hz1 hz2
    dsimp only
    k_steps
    · rename_i h4 F4 N4 p4
      refine mul_int ?_ (IntMulOk.of_le (bits_m1 _) (bits_base hb2 hb60 (by omega)) (by omega))
      k_steps
      rename_i h5 o5 F5 N5 d5
      refine ⟨h5, _, _, rfl, (N5 _ (.head _)).1, o5, ?tk, F5, ?hm, fun q hq => N5 q (.tail _ hq), ?hd⟩
      case hd =>
        rw [belW, hsv, termW, if_pos p4]
        exact d5
      · intro y h1 h2
        rw [if_neg h2]
        by_cases h3 : y = PySem.Str.ofString "friends"
        · rw [if_pos h3, h3, mf]
        · rw [if_neg h3, if_neg h1, hm y h1 h2]
    · rename_i h4 F4 N4 _ p4
      refine ⟨h4, _, _, rfl, (N4 _ (.head _)).1, ob, tb', F4, ?_, fun q hq => N4 q (.tail _ hq), ?_⟩
      · intro y h1 h2
        rw [if_neg h2]
        by_cases h3 : y = PySem.Str.ofString "friends"
        · rw [if_pos h3, h3, mf]
        · rw [if_neg h3, if_neg h1, hm y h1 h2]
      · rw [belW, hsv, termW, if_neg p4, Int.add_zero]
        exact hd
  case done =>
    rintro m1 h tk ⟨ob, tb', F1, hm, N1, hd⟩
    dsimp only
    rw [hbel] at hd
    exact law_from9 hlaw X T C30 C37 hG30 hG37 F1 ((hm _ (by decide) (by decide)).trans mt) ((hm _ (by decide) (by decide)).trans mf) ((hm _ (by decide) (by decide)).trans mw) N1 hd d3 hI hfl f hQ
end
end Mine
end

section
open PySem PySem.Calls PySem.W PyProof.Rows
set_option maxRecDepth 100000
set_option maxHeartbeats 8000000
set_option Elab.async false
set_option linter.unusedVariables false
set_option linter.unusedSimpArgs false
namespace Mine
theorem freshRsLawF : True := by
  w_top off
  exact True.intro
section
variable {prog : Program} {w : World} {G : Heap} {mg mb : Str → Option Value} {p : Program} {loose : List Str} {mean : ExcName → Option Value}
theorem law_from5 {body : List Stmt} {scope : Scope} (hlaw : LawIs w body scope) (X : (hd.heap_39 w.params).In G) (T : Top p loose mean mg mb G) (C30 : CodeHd G 34 30) (C37 : CodeHd G 41 37) (hG30 : G.get? 30 = none) (hG37 : G.get? 37 = none)
    {L fa fl : Addr} {cd : Value} {s : Shared} {m : Str → Option Value} {vs : List Value} {fr : List Int} {ef : Nat} {ob4 ob3 ob1 : Obj} {tot half width bel above q r number : Int} {tt th : Tok} {Q : Flow → Shared → Prop}
    (F : Fr G L s.heap m) (mt : m (PySem.Str.ofString "total") = some (.int tot tt)) (mf : m (PySem.Str.ofString "friends") = some (.ref fl))
    (N : News G L s.heap [(fl, W.listOf vs.toArray ef), (L + 1 + 1 + 1 + 1, ob4), (L + 1 + 1 + 1, ob3), (L + 1, ob1), (37, tabObj #[]), (30, tabObj #[])]) (d4 : ob4.data = .cell none) (d3 : ob3.data = .cell none) (d1 : ob1.data = .cell (some (.int half th))) (hI : IntsAre vs fr) (hfl : fr.length = 4)
    (hL41 : @LT.lt Nat _ 37 L) (hLfl : @LT.lt Nat _ (L + 1 + 1 + 1 + 1) fl) (hwd : width = 11 + (half.fdiv 64).fmod 50)
    (hsz : ∀ i : Nat, i < 16 → -1 ≤ lawSize 4 (i : Nat) fr ∧ lawSize 4 (i : Nat) fr ≤ 4) (hbel : belW fr (2 ^ width.toNat) 16 = bel)
    (f : LF tot width (2 ^ width.toNat) bel fr above q r number)
    (hQ : ∀ h' tk, G.StaysIn h' → GrownAt 37 h' → GrownAt 30 h' → Q (.ret (.bool true)) { s with heap := h', toks := tk }) :
    wpAny (model prog w) (callerA.deeper (lawEnv scope L fa cd)) (execs (body.drop 5) (lawEnv scope L fa cd)) Q (fun _ _ => False) s := by
  refine' law_elim hlaw ?k ?_
  case k => k_is
  intro e1 e2
  subst e1 e2
  simp only [List.drop_succ_cons, List.drop_zero]
  have F2 := fr_put (fr_put F (x := PySem.Str.ofString "total") (v := .int tot tt) mt) (x := PySem.Str.ofString "friends") (v := .ref fl) mf
  clear F
  obtain ⟨h0, gs, dr, tk0, os⟩ := s
  dsimp only at *
  repeat' ((fail_if_success (with_reducible show wpAny _ _ (execs [_, _, _, _, _, _, _, _, _] _) _ _ _)); (first | (k_unfold; (try dsimp only)) | walk1 | (dsimp only; walk1)))
  rename_i o3 d3' h4 o4 F4 N4 d4'
  subst hwd
  have N5 : News G L h4 [(fl, W.listOf vs.toArray ef), (L + 1 + 1 + 1 + 1, o4), (L + 1 + 1 + 1, o3), (37, tabObj #[]), (30, tabObj #[])] := fun q hq => N4 q (by
    simp only [List.mem_cons, List.not_mem_nil, or_false] at hq ⊢
    rcases hq with h | h | h | h | h <;> simp [h])
  dsimp only
  exact law_from8 hlaw X T C30 C37 hG30 hG37 F4 rfl rfl rfl N5 d4' d3' hI hfl hsz hbel f hQ
end
end Mine
end

section
open PySem PySem.Calls PySem.W PyProof.Rows
set_option maxRecDepth 100000
set_option Elab.async false
set_option linter.unusedVariables false
namespace Mine
theorem freshRsCompT : True := by
  w_top off
  exact True.intro
def TEl (news : List (Addr × Obj)) (b : Bool) (R : Value → Prop) (y : Value) (news' : List (Addr × Obj)) : Prop := news' = news ∧ b = true ∧ R y
def TNo (news : List (Addr × Obj)) (b : Bool) (news' : List (Addr × Obj)) : Prop := news' = news ∧ b = false
section
variable {prog : Program} {w : World} {A : Around} {h₀ : Heap} {L : Addr} {m : Str → Option Value} {env : Env} {ct elt : Expr} {x : Str} {scope : Scope} {cl : List (Str × Addr)} {s : Shared} {S : List (Addr × Obj) → Prop} {P : Nat → Value → Prop} {Fin : List Value → List (Addr × Obj) → Prop} {news : List (Addr × Obj)}
/-- the turns of a comprehension with one test: what it keeps is told by a flag a turn -/
theorem crt {n : Nat} (p : Nat → Bool) (R : Nat → Value → Prop)
    (turn : ∀ i v I oI C oC D m₂ ys h tk (E' : Value → Shared → Prop), i < n → P i v → LCg.NsObj oC m₂ → m₂ x = some v → Fr h₀ L h m → News h₀ L h ((I, oI) :: (C, oC) :: (D, LCg.lst ys) :: news) → LCg.Off3 I C D news → ((@Ne Nat I C) ∧ (@Ne Nat I D) ∧ (@Ne Nat C D)) →
      wpAny (model prog w) A (isTrue ct (compEnvC scope cl C env) (eval ct (compEnvC scope cl C env))) (fun b s' => if b = true then wpAny (model prog w) A (eval elt (compEnvC scope cl C env)) (LCg.CompEnd h₀ L m { s with heap := h, toks := tk } I oI C oC D (LCg.lst ys) S (fun y news' => TEl news (p i) (R i) y news')) E' s'
        else LCg.CompEnd h₀ L m { s with heap := h, toks := tk } I oI C oC D (LCg.lst ys) S (fun _ news' => TNo news (p i) news') Value.none s') E' { s with heap := h, toks := tk })
    (fin : ∀ ys, Paired R ((List.range n).filter p) ys → Fin ys news) : LCt.CompRestT prog w A h₀ L m env ct elt x scope cl s S P Fin n 0 [] news := by
  have key : ∀ (j i : Nat) (ys : List Value), i + j = n → Paired R ((List.range i).filter p) ys → LCt.CompRestT prog w A h₀ L m env ct elt x scope cl s S P Fin j i ys news := by
    intro j
    induction j with
    | zero =>
      intro i ys hi hy
      have e : i = n := by omega
      subst e
      exact LCt.CompRestT.zero (fin ys hy)
    | succ j ih =>
      intro i ys hi hy
      refine LCt.CompRestT.succ ?_
      intro v I oI C oC D m₂ h tk E' hv hC hx F N off ne
      have hs : (List.range (i + 1)).filter p = (List.range i).filter p ++ (if p i = true then [i] else []) := by
        rw [List.range_succ, List.filter_append]
        by_cases h : p i = true <;> simp [h]
      refine wpAny_mono (turn i v I oI C oC D m₂ ys h tk E' (by omega) hv hC hx F N off ne) (fun b s₂ hq => ?_) fun _ _ e => e
      cases b with
      | true =>
        simp only [if_true] at hq ⊢
        refine wpAny_mono hq (fun y s₃ hr => ?_) fun _ _ e => e
        obtain ⟨h', tk', nw, e, F', N', off', hS, hn, hp, hR⟩ := hr
        rw [hn] at N' off' hS
        refine ⟨h', tk', news, e, F', N', off', hS, ih (i + 1) _ (by omega) ?_⟩
        rw [hs, if_pos hp]
        exact hy.snoc hR
      | false =>
        simp only [Bool.false_eq_true, if_false] at hq ⊢
        obtain ⟨h', tk', nw, e, F', N', off', hS, hn, hp⟩ := hq
        rw [hn] at N' off' hS
        refine ⟨h', tk', news, e, F', N', off', hS, ih (i + 1) _ (by omega) ?_⟩
        rw [hs, if_neg (by rw [hp]; decide), List.append_nil]
        exact hy
  exact key n 0 [] (by omega) .nil
end
end Mine
end

section
open PySem PySem.Calls PySem.W PyProof.Rows
set_option maxRecDepth 100000
set_option Elab.async false
set_option linter.unusedVariables false
namespace Mine
theorem freshRsCompC : True := by
  w_top off
  exact True.intro
abbrev cellObj (v : Option Value) : Obj := { cls := .type "cell", data := .cell v }
section
variable {prog : Program} {w : World} {A : Around} {E : Value → Shared → Prop} {s : Shared} {env : Env}
/-- the frame of a comprehension whose one letter is a cell -/
theorem newEnv_cell {scope : Scope} {cl : List (Str × Addr)} {x : Str} {Q : Env → Shared → Prop}
    (hce : ∀ C acc, cellsFrom C scope.names acc = (x, C) :: acc) (hpc : ∀ h : Heap, pushCells h scope.names = h.push (cellObj none))
    (h : Q { scope, locals := s.heap.objs.size, globals := env.globals, cells := (x, s.heap.objs.size + 1) :: cl, qual := env.qual, func := none, code := env.code, frame := env.frame, builtins := env.builtins }
      { s with heap := (s.heap.push { cls := .type "dict", data := .dict #[] }).push (cellObj none) }) :
    wpAny (model prog w) A (newFunctionEnv scope env.globals cl [] env.qual none .none (some env)) Q E s := by
  simp only [newFunctionEnv, Option.isSome_some, if_true]
  refine wpAny_bind (wpAny_alloc ?_)
  refine wpAny_bind (wpAny_layCells _ (fun name kind cells => by cases hkc : kind == NameKind.cell <;> simp [hkc]) _ _ _ _ ?_)
  rw [show ({ s with heap := s.heap.push { cls := .type "dict", data := .dict #[] } } : Shared).heap.objs.size = s.heap.objs.size + 1 from Heap.size_push .., hce]
  dsimp only
  rw [hpc]
  exact wpAny_bind (wpAny_pure (wpAny_pure h))

def CStep (s₁ : Shared) (C : Addr) (m : Str → Option Value) (news : List (Addr × Obj)) (r : Int) (y : Value) (s' : Shared) : Prop :=
  ∃ h' tk' t', s' = { s₁ with heap := h', toks := tk' } ∧ Fr s₁.heap C h' m ∧ News s₁.heap C h' news ∧ y = .int r t'

theorem compc_run {elt iter : Expr} {x : Str} {px : Pos} {scope : Scope} {cl : List (Str × Addr)} {pos : Pos} {s₁ : Shared} {r : Addr} {t u v : Tok} {n : Nat} {RR : Value → Addr → Result → Shared → Prop} (g : Nat → Int)
    (hh : A.handled = none) (hr : IsRange s₁.heap r 0 (n : Int) 1 t u v) (hsm : Builtin.Range.small 0 (n : Int) 1 = true) (hn : Builtin.Range.rangeSize 0 (n : Int) 1 = ((n : Nat) : Int)) (hsz : n ≤ sizeLine)
    (hce : ∀ C acc, cellsFrom C scope.names acc = (x, C) :: acc) (hpc : ∀ h : Heap, pushCells h scope.names = h.push (cellObj none))
    (hkind : scope.kind = .function) (hx : ∀ C c, (compEnvC scope ((x, c) :: cl) C env).kindOf x = some .cell)
    (turn : ∀ k C h m tk I oI D ys oc (t : Tok), k < n → C = s₁.heap.objs.size + 2 → I = s₁.heap.objs.size → D = s₁.heap.objs.size + 1 → oc.data = .cell (some (.int (k : Nat) t)) → Fr s₁.heap C h m → News s₁.heap C h [(C + 1, oc), (I, oI), (D, LCg.lst ys)] →
      wpAny (model prog w) A (eval elt (compEnvC scope ((x, C + 1) :: cl) C env)) (CStep s₁ C m [(C + 1, oc), (I, oI), (D, LCg.lst ys)] (g k)) NoE { s₁ with heap := h, toks := tk })
    (done : ∀ h tk ys m, IntsAre ys ((List.range n).map g) → h.get? (s₁.heap.objs.size + 1) = some (LCg.lst ys) → Fr s₁.heap (s₁.heap.objs.size + 2) h m → RR (.ref (s₁.heap.objs.size + 1)) (s₁.heap.objs.size + 2) (.ok .next) { s₁ with heap := h, toks := tk }) :
    wpAny (model prog w) A (pyIter (.ref r)) (fun it s₂ => wpAny (model prog w) A (newList []) (fun acc s₃ => wpAny (model prog w) A (newFunctionEnv scope env.globals cl [] env.qual none .none (some env)) (fun cenv s₄ =>
      codeAny (model prog w) A (.compStart (.ListComp elt [⟨.Name x px, iter, [], 0⟩] scope pos) 0 it acc { cenv with scope := relabel scope env }) (RR acc cenv.locals) s₄) E s₃) E s₂) E s₁ := by
  refine wpAny_pyIter_range hr hsm (wpAny_newObj_type (hd := by size_fits) (newEnv_cell hce hpc ?_))
  dsimp only
  have hD : (s₁.heap.push { cls := .type "range_iterator", data := .fields #[rawInt 0, rawInt (Builtin.Range.rangeSize 0 (n : Int) 1), rawInt 1] }).objs.size = s₁.heap.objs.size + 1 := by rw [Heap.size_push]
  generalize hH1 : s₁.heap.push { cls := .type "range_iterator", data := .fields #[rawInt 0, rawInt (Builtin.Range.rangeSize 0 (n : Int) 1), rawInt 1] } = H1 at hD ⊢
  generalize hH2 : H1.push { cls := .type "list", dict := none, data := .seq ([] : List Value).toArray } = H2
  have hC : H2.objs.size = s₁.heap.objs.size + 2 := by rw [← hH2, Heap.size_push, hD]
  generalize hH3 : H2.push { cls := .type "dict", data := .dict #[] } = H3
  have hc : H3.objs.size = s₁.heap.objs.size + 3 := by rw [← hH3, Heap.size_push, hC]
  generalize hH4 : H3.push (cellObj none) = H4
  rw [hC, hD]
  have old : ∀ b o, s₁.heap.get? b = some o → H4.get? b = some o := fun b o e =>
    hH4 ▸ Heap.get?_push_of_some _ (hH3 ▸ Heap.get?_push_of_some _ (hH2 ▸ Heap.get?_push_of_some _ (hH1 ▸ Heap.get?_push_of_some _ e)))
  have gI : H4.get? s₁.heap.objs.size = some { cls := .type "range_iterator", data := .fields #[rawInt 0, rawInt (Builtin.Range.rangeSize 0 (n : Int) 1), rawInt 1] } :=
    hH4 ▸ Heap.get?_push_of_some _ (hH3 ▸ Heap.get?_push_of_some _ (hH2 ▸ Heap.get?_push_of_some _ (hH1 ▸ Heap.get?_push_size _ rfl)))
  have gD : H4.get? (s₁.heap.objs.size + 1) = some (LCg.lst []) :=
    hH4 ▸ Heap.get?_push_of_some _ (hH3 ▸ Heap.get?_push_of_some _ (hH2 ▸ hD ▸ Heap.get?_push_size _ rfl))
  have gc : H4.get? (s₁.heap.objs.size + 3) = some (cellObj none) := hH4 ▸ hc ▸ Heap.get?_push_size _ rfl
  have ns : H4.Ns (s₁.heap.objs.size + 2) (fun _ => none) := by
    rw [← hH4, ← hC, ← hH3]
    exact (Heap.Ns.new H2 (.type "dict")).keeps fun b o e => Heap.get?_push_of_some _ e
  have F0 : Fr s₁.heap (s₁.heap.objs.size + 2) H4 (fun _ => none) := ⟨ns, old, by omega⟩
  have fresh₀ : ∀ a, s₁.heap.objs.size ≤ a → s₁.heap.get? a = none := fun a ha => Heap.get?_none_of_le ha
  show codeAny (model prog w) A (.compStart (.ListComp elt [⟨.Name x px, iter, [], 0⟩] scope pos) 0 (.ref s₁.heap.objs.size) (.ref (s₁.heap.objs.size + 1)) (compEnvC scope ((x, s₁.heap.objs.size + 2 + 1) :: cl) (s₁.heap.objs.size + 2) env)) (RR (.ref (s₁.heap.objs.size + 1)) (s₁.heap.objs.size + 2)) _
  have nIC : (s₁.heap.objs.size : Nat) ≠ s₁.heap.objs.size + 2 := by omega
  have nIc : (s₁.heap.objs.size : Nat) ≠ s₁.heap.objs.size + 2 + 1 := by omega
  have nID : (s₁.heap.objs.size : Nat) ≠ s₁.heap.objs.size + 1 := by omega
  have nDC : s₁.heap.objs.size + 1 ≠ s₁.heap.objs.size + 2 := by omega
  have nDc : s₁.heap.objs.size + 1 ≠ s₁.heap.objs.size + 2 + 1 := by omega
  have nCc : s₁.heap.objs.size + 2 ≠ s₁.heap.objs.size + 2 + 1 := by omega
  have loop : ∀ s₂ : Shared, s₂ = { s₁ with heap := H4 } →
      codeAny (model prog w) A (.compLoop (.ListComp elt [⟨.Name x px, iter, [], 0⟩] scope pos) 0 (.ref s₁.heap.objs.size) (.ref (s₁.heap.objs.size + 1)) (compEnvC scope ((x, s₁.heap.objs.size + 2 + 1) :: cl) (s₁.heap.objs.size + 2) env))
        (RR (.ref (s₁.heap.objs.size + 1)) (s₁.heap.objs.size + 2)) s₂ := by
    rintro s₂ rfl
    refine codeAny_compLoop_tests (fun k s' => ∃ h tk m ys i oc, s' = { s₁ with heap := h, toks := tk } ∧ IsRangeIter h s₁.heap.objs.size (0 + (i : Nat) * 1) ((n : Int) - (i : Nat)) 1 ∧ Fr s₁.heap (s₁.heap.objs.size + 2) h m ∧ h.get? (s₁.heap.objs.size + 1) = some (LCg.lst ys) ∧ h.get? (s₁.heap.objs.size + 2 + 1) = some oc ∧ (∃ v₀, oc.data = .cell v₀) ∧ IntsAre ys ((List.range i).map g) ∧ i ≤ n ∧ k = n + 1 - i)
      ?_ (n + 1) ⟨H4, _, _, [], 0, _, rfl, by show H4.get? _ = some _; rw [gI, hn]; simp, F0, gD, gc, ⟨_, rfl⟩, .nil, Nat.zero_le _, rfl⟩
    rintro k s' ⟨h, tk, m, ys, i, oc, rfl, hit, F, hDl, hcl, ⟨v₀, hcd⟩, hI, hi, rfl⟩
    by_cases hlt : i < n
    · refine (LCg.range_walks hh 0 n).item i _ _ _ hlt hit fun vv h₂ tk₂ hPv hit₂ hk₂ => ?_
      obtain ⟨tv, rfl⟩ := hPv
      have k₂ : ∀ b o, b ≠ s₁.heap.objs.size → h.get? b = some o → h₂.get? b = some o := fun b o hb e => hk₂ b o (by simpa using hb) e
      refine wpAny_assign_Name (wpAny_storeName_cell (by show (relabel scope env).kind = _; simp [relabel, hkind]) (hx _ _) (by simp [compEnvC]) ⟨_, k₂ _ _ nIc.symm hcl, hcd⟩ fun h₃ hv hs₃ => ?_)
      refine wpAny_tests_nil ?_
      simp only [if_true]
      obtain ⟨oc', ho', hd'⟩ := hv
      have e3 : h₃.get? (s₁.heap.objs.size + 2 + 1) = some oc' := ho'
      have hit₃ : IsRangeIter h₃ s₁.heap.objs.size (0 + ((i + 1 : Nat) : Int) * 1) ((n : Int) - ((i + 1 : Nat) : Int)) 1 := hs₃.extBut _ _ nIc hit₂
      have F₃ : Fr s₁.heap (s₁.heap.objs.size + 2) h₃ m := (LCg.fr_but F hk₂ nIC.symm (fresh₀ _ (Nat.le_refl _))).change hs₃ nCc.symm (fresh₀ _ (by omega))
      have eD : h₃.get? (s₁.heap.objs.size + 1) = some (LCg.lst ys) := hs₃.extBut _ _ nDc (k₂ _ _ nID.symm hDl)
      have N₃ : News s₁.heap (s₁.heap.objs.size + 2) h₃ [(s₁.heap.objs.size + 2 + 1, oc'), (s₁.heap.objs.size, ⟨.type "range_iterator", none, .fields #[rawInt (0 + ((i + 1 : Nat) : Int) * 1), rawInt ((n : Int) - ((i + 1 : Nat) : Int)), rawInt 1], #[]⟩), (s₁.heap.objs.size + 1, LCg.lst ys)] :=
        List.forall_mem_cons.mpr ⟨⟨e3, nCc.symm, fresh₀ _ (by show s₁.heap.objs.size ≤ s₁.heap.objs.size + 2 + 1; omega)⟩, List.forall_mem_cons.mpr ⟨⟨hit₃, nIC, fresh₀ _ (Nat.le_refl _)⟩, List.forall_mem_cons.mpr ⟨⟨eD, nDC, fresh₀ _ (Nat.le_succ _)⟩, List.forall_mem_nil _⟩⟩⟩
      refine wpAny_mono (turn i (s₁.heap.objs.size + 2) h₃ m _ _ _ _ ys oc' tv hlt rfl rfl rfl (by simpa using hd') F₃ N₃) (fun y s₄ h₄ => ?_) fun _ _ e => e.elim
      obtain ⟨h5, tk5, t5, rfl, F5, N5, rfl⟩ := h₄
      have q1 := (N5 _ (.head _)).1
      have q2 := (N5 _ (.tail _ (.head _))).1
      have q3 := (N5 _ (.tail _ (.tail _ (.head _)))).1
      dsimp only at q1 q2 q3
      have hyl : ys.length = i := by have := hI.length; simpa using this
      refine append_at (hsz := by show ys.toArray.size ≤ sizeLine; rw [List.size_toArray, hyl]; exact Nat.le_trans hi hsz) q3 fun h₆ hs₆ hD₆ => ?_
      refine ⟨n + 1 - (i + 1), by omega, h₆, tk5, m, ys ++ [.int (g i) t5], i + 1, oc', rfl, hs₆.extBut _ _ nID q2, F5.change hs₆ nDC (fresh₀ _ (Nat.le_succ _)), hD₆.trans (congrArg some (LCg.lst_snoc ys _)), hs₆.extBut _ _ nDc.symm q1, ⟨_, hd'⟩, ?_, hlt, rfl⟩
      rw [List.range_succ, List.map_append]
      exact hI.append (.cons _ _ .nil)
    · have hin : i = n := by omega
      subst hin
      refine (LCg.range_walks hh 0 i).done _ _ _ hit fun h₂ tk₂ hk₂ => ?_
      have k₂ : ∀ b o, b ≠ s₁.heap.objs.size → h.get? b = some o → h₂.get? b = some o := fun b o hb e => hk₂ b o (by simpa using hb) e
      exact done h₂ tk₂ ys m hI (k₂ _ _ nID.symm hDl) (LCg.fr_but F hk₂ nIC.symm (fresh₀ _ (Nat.le_refl _)))
  exact codeAny_compStart_list (loop _ rfl) ((LCg.range_walks hh 0 n).self 0 _ _ _ (by show H4.get? _ = some _; rw [gI, hn]; simp) (loop _ rfl))
end
end Mine
end

section
open PySem PySem.Calls PySem.W PyProof.Rows
set_option maxRecDepth 100000
set_option maxHeartbeats 8000000
set_option Elab.async false
set_option linter.unusedVariables false
set_option linter.unusedSimpArgs false
namespace Mine
theorem freshRsLawG : True := by
  w_top off
  exact True.intro
/-- a tie as it lies: a list of two letters -/
def TieAt (h : Heap) (v : Value) (t : List Int) : Prop := ∃ (a : Addr) (i j : Int) (t1 t2 : Tok), v = .ref a ∧ t = [i, j] ∧ 0 ≤ i ∧ i < j ∧ j < 4 ∧ h.IsList a [Value.int i t1, Value.int j t2].toArray
theorem TieAt.mono {h h' : Heap} {v : Value} {t : List Int} (x : TieAt h v t) (k : h.StaysIn h') : TieAt h' v t := by
  obtain ⟨a, i, j, t1, t2, e1, e2, e3, e4, e5, l⟩ := x
  exact ⟨a, i, j, t1, t2, e1, e2, e3, e4, e5, l.at fun o e => k _ o e⟩
theorem range_get {α β : Type} (q : α → Bool) (f : α → β) (d : α) : ∀ ts : List α, ((List.range ts.length).filter fun i => q (ts.getD i d)).map (fun i => f (ts.getD i d)) = (ts.filter q).map f := by
  intro ts
  have e : ts = (List.range ts.length).map fun i => ts.getD i d := by
    refine List.ext_getElem (by simp) fun i h1 h2 => ?_
    simp [h1]
  conv => rhs; rw [e, List.filter_map, List.map_map]
  rfl
theorem paired_ints {g : Nat → Int} {l : List Nat} {ys : List Value} (h : Paired (fun i v => ∃ t, v = Value.int (g i) t) l ys) : IntsAre ys (l.map g) := by
  induction h with
  | nil => exact .nil
  | cons h _ ih =>
    obtain ⟨t, rfl⟩ := h
    exact .cons _ _ ih
theorem paired_at {α β : Type} {R : α → β → Prop} {d : β} {xs : List α} {ys : List β} (h : Paired R xs ys) : ∀ {i : Nat} {v : α}, xs[i]? = some v → R v (ys.getD i d) ∧ i < ys.length := by
  induction h with
  | nil => intro i v hv; simp at hv
  | cons h _ ih =>
    intro i v hv
    cases i with
    | zero => simp at hv; subst hv; exact ⟨by simpa using h, by simp⟩
    | succ i => simp at hv; have := ih hv; exact ⟨by simpa using this.1, by simpa using this.2⟩
section
variable {prog : Program} {w : World} {A : Around} {env : Env} {s : Shared}
theorem assign_comp1 {elt iter : Expr} {x : Str} {px : Pos} {scope : Scope} {pos : Pos} {cl : List (Str × Addr)} {t : Str} {pt spos : Pos} {Q : Flow → Shared → Prop} {E : Value → Shared → Prop}
    (hsw : swapsWith (.ListComp elt [⟨.Name x px, iter, [], 0⟩] scope pos) (some (.Name t pt)) spos.line env = pure true)
    (hclos : closureFor scope env = pure cl) (hkind : scope.kind = .function) (hnames : ∀ z ∈ scope.names, z.2 = .local → scope.names.lookup z.1 = some .local) (hs0 : ∀ x, foldedSetIterable iter env x = pure x)
    (h : wpAny (model prog w) A (eval iter env) (fun xv s₁ => wpAny (model prog w) A (pyIter xv) (fun it s₂ => wpAny (model prog w) A (newList []) (fun acc s₃ => wpAny (model prog w) A (newFunctionEnv scope env.globals cl [] env.qual none .none (some env)) (fun cenv s₄ =>
      codeAny (model prog w) A (.compStart (.ListComp elt [⟨.Name x px, iter, [], 0⟩] scope pos) 0 it acc { cenv with scope := relabel scope env }) (compPost (model prog w) A E (some (assign (.Name t pt) env)) (fun _ s' => Q .next s') acc cenv.locals) s₄) E s₃) E s₂) E s₁) E s) :
    wpAny (model prog w) A (exec (.Assign [.Name t pt] (.ListComp elt [⟨.Name x px, iter, [], 0⟩] scope pos) spos) env) Q E s := by
  rw [exec_Assign_Name_used _ _ _ _ hsw]
  refine wpAny_bind (wpAny_standAt (wpAny_bind ?_))
  show wpAny _ A (do let _ ← comprehension (.ListComp elt [⟨.Name x px, iter, [], 0⟩] scope pos) scope env _ (newList []) false (eval iter env) (some (assign (.Name t pt) env))) _ _ s
  exact wpAny_bind (wpAny_mono (wpAny_comprehension_free (use := some (assign (.Name t pt) env)) (Q := fun _ s' => Q .next s') rfl hs0 hclos hkind hnames h) (fun _ s' hq => wpAny_pure (wpAny_pure hq)) fun _ _ e => e)
end
local macro_rules | `(tactic| walk_at "eval Name") => `(tactic| ((with_reducible show wpAny _ _ (eval (Expr.Name _ _) (compEnvC _ _ _ _)) _ _ _); k_dflt (first
  | (refine' cn_cell ?F ?v ?_ ?a ?b ?c; (case a => exact rfl); (case b => exact rfl); (case c => decide); (case v => exact rfl); (case F => assumption))
  | (refine' cn_glob ?F ?X ?T ?e ?_ ?g ?a ?b ?c; (case F => assumption); (case X => assumption); (case T => assumption); (case g => exact rfl); (case a => exact rfl); (case b => exact rfl); (case c => decide); (case e => k_is))
  | (refine' cn_boot ?F ?X ?T ?e ?v ?n ?_ ?g ?g2 ?a ?b ?c; (case F => assumption); (case X => assumption); (case T => assumption); (case g => exact rfl); (case g2 => exact rfl); (case a => exact rfl); (case b => exact rfl); (case c => decide); (case n => decide); (case e => k_is); (case v => boot_fast)))))
section
variable {prog : Program} {w : World} {G : Heap} {mg mb : Str → Option Value} {p : Program} {loose : List Str} {mean : ExcName → Option Value}
theorem law_from4 {body : List Stmt} {scope : Scope} (hlaw : LawIs w body scope) (X : (hd.heap_39 w.params).In G) (T : Top p loose mean mg mb G) (C30 : CodeHd G 34 30) (C37 : CodeHd G 41 37) (hG30 : G.get? 30 = none) (hG37 : G.get? 37 = none)
    {L fa tl : Addr} {cd : Value} {s : Shared} {m : Str → Option Value} {tv : List Value} {ts : List (List Int)} {fr : List Int} {ob4 ob3 ob2 ob1 : Obj} {tot half width bel above q r number : Int} {tt th : Tok} {Q : Flow → Shared → Prop}
    (F : Fr G L s.heap m) (mt : m (PySem.Str.ofString "total") = some (.int tot tt))
    (N : News G L s.heap [(tl, LCg.lst tv), (L + 1 + 1 + 1 + 1, ob4), (L + 1 + 1 + 1, ob3), (L + 1 + 1, ob2), (L + 1, ob1), (37, tabObj #[]), (30, tabObj #[])]) (d4 : ob4.data = .cell none) (d3 : ob3.data = .cell none) (d2 : ob2.data = .cell (some (.ref tl))) (d1 : ob1.data = .cell (some (.int half th)))
    (hT : Paired (TieAt s.heap) tv ts) (hts : ts.length ≤ 6) (hfr : fr = (List.range 4).map fun k : Nat => friendOf ts k)
    (hL41 : @LT.lt Nat _ 37 L) (hwd : width = 11 + (half.fdiv 64).fmod 50)
    (hsz : ∀ i : Nat, i < 16 → -1 ≤ lawSize 4 (i : Nat) fr ∧ lawSize 4 (i : Nat) fr ≤ 4) (hbel : belW fr (2 ^ width.toNat) 16 = bel)
    (f : LF tot width (2 ^ width.toNat) bel fr above q r number)
    (hQ : ∀ h' tk, G.StaysIn h' → GrownAt 37 h' → GrownAt 30 h' → Q (.ret (.bool true)) { s with heap := h', toks := tk }) :
    wpAny (model prog w) (callerA.deeper (lawEnv scope L fa cd)) (execs (body.drop 4) (lawEnv scope L fa cd)) Q (fun _ _ => False) s := by
  refine' law_elim hlaw ?k ?_
  case k => k_is
  intro e1 e2
  subst e1 e2
  simp only [List.drop_succ_cons, List.drop_zero]
  have F2 := fr_put F (x := PySem.Str.ofString "total") (v := .int tot tt) mt
  clear F
  obtain ⟨h0, gs, dr, tk0, os⟩ := s
  dsimp only at *
  refine wpAny_execs_cons ?_
  refine assign_comp1 rfl rfl rfl (by decide) (fun _ => rfl) ?_
  repeat' ((fail_if_success (with_reducible show wpAny _ _ (pyIter _) _ _ _)); (first | (k_unfold; (try dsimp only)) | walk1 | (dsimp only; walk1)))
  rename_i F2 h1 tk1 ta ua va hR F1 N1 hK
  dsimp only at hR F1 N1 hK ⊢
  have X1 := X.keeps F1.keep
  have T1 := T.keeps F1.keep
  have ntl := N1 _ (.head _)
  have nb2 := N1 _ (.tail _ (.tail _ (.tail _ (.head _))))
  dsimp only at ntl nb2
  have hT1 : ∀ i v, tv.toArray[i]? = some v → TieAt h1 v (ts.getD i []) ∧ i < ts.length := by
    intro i v hv
    obtain ⟨h2, h3⟩ := paired_at (d := []) hT (i := i) (v := v) (by simpa using hv)
    exact ⟨h2.mono hK, h3⟩
  have hsz6 : tv.toArray.size ≤ sizeLine := by
    have h1 := hT.length
    have h2 : sizeLine = 16777216 := rfl
    rw [List.size_toArray]
    omega
  have hcl1 : h1.IsCell (L + 1 + 1) (some (.ref tl)) := ⟨ob2, nb2.1, d2⟩
  have hl1 : h1.IsList tl tv.toArray := ⟨_, ntl.1, rfl, _, rfl⟩
  refine compc_run (n := 4) (fun k => friendOf ts (k : Nat)) rfl hR (by decide) (by decide) (by decide) (fun _ _ => by rfl) (fun _ => by rfl) rfl (fun _ _ => by rfl) ?turn ?done
  case turn =>
    intro k C h m tk I oI D ys oc t hk hC hI hD hoc FC NC
    dsimp only at FC NC ⊢
    have hcl2 : h.IsCell (L + 1 + 1) (some (.ref tl)) := ⟨ob2, FC.keep _ _ nb2.1, d2⟩
    clear F2 F1 N1
    repeat' ((fail_if_success (with_reducible show wpAny _ _ (eval (Expr.ListComp _ _ _ _) _) _ _ _)); (first | (k_unfold; (try dsimp only)) | walk1 | (dsimp only; walk1)))
    refine LCt.ListComp_T (F₀ := FC) (by with_unfolding_all rfl) (by decide) (by rfl) (by decide) (by rfl) ?_
    refine cn_cell hcl2 (by exact rfl) ?_ (by exact rfl) (by exact rfl) (by decide)
    refine LCt.CompSrcT.base (by rfl) FC NC hl1 hsz6 ?_
    intro g'
    refine crt (fun i => (ts.getD i []).contains (k : Int)) (fun i v => ∃ t, v = .int (p2 ((ts.getD i []).getD 0 0 + (ts.getD i []).getD 1 0 - k)) t) ?turn2 ?fin2
    case turn2 =>
      intro i v I' oI' C' oC' D' m' ys' h' tk' E' hi' hv' hC' hx' F' N' off' ne'
      simp only [LCg.Off3, and_true] at off'
      obtain ⟨⟨a, x, y, t1, t2, rfl, e2, h0x, hxy, hy4, hla⟩, hil⟩ := hT1 i v hv'
      rw [e2]
      have hla' : h'.IsList a [Value.int x t1, Value.int y t2].toArray := F'.lst hla
      have hin : IntsAre [Value.int x t1, Value.int y t2] [x, y] := .cons _ _ (.cons _ _ .nil)
      repeat' ((fail_if_success (with_reducible show wpAny _ _ (eval (Expr.BinOp _ _ _ _) _) _ _ _)); (first | (k_unfold; (try dsimp only)) | walk1 | (dsimp only; walk1)))
      · rename_i hany
        have hm : x = k ∨ y = k := by simpa using hany
        have p1 : 0 ≤ [x, y].getD (Int.toNat 0) 0 + [x, y].getD (Int.toNat 1) 0 - (k : Nat) := by show 0 ≤ x + y - (k : Nat); omega
        have p2 : [x, y].getD (Int.toNat 0) 0 + [x, y].getD (Int.toNat 1) 0 - (k : Nat) ≤ 1000000 := by show x + y - (k : Nat) ≤ 1000000; omega
        k_steps
        refine ⟨rfl, ?_, ?tok, ?eq⟩
        case eq => rw [p2_eq]; rfl
        · rcases hm with h | h <;> simp [h]
      · rename_i hany
        refine ⟨rfl, ?_⟩
        have h2 : ¬ x = (k : Int) ∧ ¬ y = (k : Int) := by simpa using hany
        have g2 : ¬ (k : Int) = x ∧ ¬ (k : Int) = y := ⟨fun e => h2.1 e.symm, fun e => h2.2 e.symm⟩
        simpa using g2
    case fin2 =>
      intro ys1 hys
      intro D1 h3 tk3 F3 N3 o3
      dsimp only
      repeat' ((fail_if_success (with_reducible show wpAny _ _ (call _ _) _ _ _)); (first | (k_unfold; (try dsimp only)) | walk1 | (dsimp only; walk1)))
      have hI1 := paired_ints hys
      have hl3 : h3.IsList D1 ys1.toArray := ⟨_, (N3 _ (.head _)).1, rfl, _, rfl⟩
      refine sumK (by rfl) F3 N3 hl3 hI1 (fun h4 tk4 t4 F4 N4 => ?_)
      refine ⟨h4, tk4, t4, rfl, F4, fun q hq => N4 q (.tail _ hq), ?_⟩
      have hlen : tv.toArray.size = ts.length := by rw [List.size_toArray]; exact hT.length
      rw [hlen, range_get (fun t => t.contains (k : Int)) (fun t => p2 (t.getD 0 0 + t.getD 1 0 - k)) [] ts]
      rfl
  case done =>
    intro h tk ys m' hI hD FC
    dsimp only at hI hD FC ⊢
    have F3 := F1.keeps FC.keep
    have N3 := N1.grown FC.keep
    have zL := ltN F1.ns.lt
    show wpAny _ _ (assign (Expr.Name _ _) _ (Value.ref (h1.objs.size + 1))) _ _ _
    refine wpAny_assign_Name (wpAny_storeName_local rfl F3.ns (fun h5 hn5 hs5 => ?_) rfl)
    have hs5' : Heap.SameBut L h h5 := hs5
    refine ⟨m', FC.ns.sameBut hs5' (neN (by omega)), fun h6 hs6 => ?_⟩
    have F6 := fr_at (F3.set hn5 hs5) hs6.extBut (Nat.ne_of_lt (by omega)) (Nat.le_trans F1.above (by omega))
    have lo : ∀ p ∈ [(tl, LCg.lst tv), (L + 1 + 1 + 1 + 1, ob4), (L + 1 + 1 + 1, ob3), (L + 1 + 1, ob2), (L + 1, ob1), (37, tabObj #[]), (30, tabObj #[])], @LT.lt Nat _ p.1 h1.objs.size := fun p hp => Heap.lt_size (N1 p hp).1
    have N6 : News G L h6 [(tl, LCg.lst tv), (L + 1 + 1 + 1 + 1, ob4), (L + 1 + 1 + 1, ob3), (L + 1 + 1, ob2), (L + 1, ob1), (37, tabObj #[]), (30, tabObj #[])] := fun q hq => by
      have h1' := (N3.set hs5') q hq
      have := lo q hq
      exact ⟨hs6.extBut _ _ (Nat.ne_of_lt (by omega)) h1'.1, h1'.2⟩
    have hD6 : h6.get? (h1.objs.size + 1) = some (W.listOf ys.toArray ys.length) := hs6.extBut _ _ (Nat.ne_of_lt (by omega)) (hs5'.extBut _ _ (Nat.ne_of_gt (by omega)) hD)
    have lo4 := lo _ (.tail _ (.head _))
    dsimp only at lo4
    have N7 : News G L h6 [(h1.objs.size + 1, W.listOf ys.toArray ys.length), (L + 1 + 1 + 1 + 1, ob4), (L + 1 + 1 + 1, ob3), (L + 1, ob1), (37, tabObj #[]), (30, tabObj #[])] :=
      List.forall_mem_cons.mpr ⟨⟨hD6, Nat.ne_of_gt (by omega), by
        cases q : G.get? (h1.objs.size + 1) with
        | none => rfl
        | some o => exact absurd (Nat.lt_trans (Nat.lt_succ_self _) (Heap.lt_size (F1.keep _ _ q))) (Nat.lt_irrefl _)⟩, fun q hq => N6 q (by
        simp only [List.mem_cons, List.not_mem_nil, or_false] at hq ⊢
        rcases hq with h | h | h | h | h <;> simp [h])⟩
    subst hfr
    dsimp only
    exact law_from5 hlaw X T C30 C37 hG30 hG37 F6 rfl rfl N7 d4 d3 d1 hI (by simp) hL41 (Nat.lt_succ_of_lt lo4) hwd hsz hbel f hQ
end
end Mine
end

section
open PySem PySem.Calls PySem.W PyProof.Rows
set_option maxRecDepth 100000
set_option maxHeartbeats 8000000
set_option Elab.async false
set_option linter.unusedVariables false
set_option linter.unusedSimpArgs false
namespace Mine
theorem freshRsLawH : True := by
  w_top off
  exact True.intro
theorem paired_map {α β γ : Type} {R : α → β → Prop} {S : β → γ → Prop} {f : α → γ} (k : ∀ a b, R a b → S b (f a)) {xs : List α} {ys : List β} (h : Paired R xs ys) : Paired S ys (xs.map f) := by
  induction h with
  | nil => exact .nil
  | cons h _ ih => exact .cons (k _ _ h) ih
theorem bit_yes {half : Int} {i : Nat} (h : ((11 + half).fdiv (2 ^ ((i : Nat) : Int).toNat)).fmod 2 = 1) : (((11 + half).fdiv (p2 (i : Nat))).fmod 2 == 1) = true := by
  rw [p2_eq] at h
  simpa using h
theorem bit_no {half : Int} {i : Nat} (h : ((11 + half).fdiv (2 ^ ((i : Nat) : Int).toNat)).fmod 2 ≠ 1) : (((11 + half).fdiv (p2 (i : Nat))).fmod 2 == 1) = false := by
  rw [p2_eq] at h
  simpa using h
section
variable {prog : Program} {w : World} {G : Heap} {mg mb : Str → Option Value} {p : Program} {loose : List Str} {mean : ExcName → Option Value}
theorem law_from3 {body : List Stmt} {scope : Scope} (hlaw : LawIs w body scope) (X : (hd.heap_39 w.params).In G) (T : Top p loose mean mg mb G) (C30 : CodeHd G 34 30) (C37 : CodeHd G 41 37) (hG30 : G.get? 30 = none) (hG37 : G.get? 37 = none)
    {L fa tl a0 a1 a2 a3 a4 a5 : Addr} {cd : Value} {s : Shared} {m : Str → Option Value} {fr : List Int} {et e0 e1 e2 e3 e4 e5 : Nat} {ob4 ob3 ob2 ob1 : Obj} {tot half width bel above q r number : Int} {tt th u0 u1 u2 u3 u4 u5 v0 v1 v2 v3 v4 v5 : Tok} {Q : Flow → Shared → Prop}
    (F : Fr G L s.heap m) (mt : m (PySem.Str.ofString "total") = some (.int tot tt))
    (N : News G L s.heap [(tl, W.listOf #[Value.ref a0, Value.ref a1, Value.ref a2, Value.ref a3, Value.ref a4, Value.ref a5] et), (a5, W.listOf #[Value.int 2 u5, Value.int 3 v5] e5), (a4, W.listOf #[Value.int 1 u4, Value.int 3 v4] e4), (a3, W.listOf #[Value.int 1 u3, Value.int 2 v3] e3), (a2, W.listOf #[Value.int 0 u2, Value.int 3 v2] e2), (a1, W.listOf #[Value.int 0 u1, Value.int 2 v1] e1), (a0, W.listOf #[Value.int 0 u0, Value.int 1 v0] e0),
      (L + 1 + 1 + 1 + 1, ob4), (L + 1 + 1 + 1, ob3), (L + 1 + 1, ob2), (L + 1, ob1), (37, tabObj #[]), (30, tabObj #[])]) (d4 : ob4.data = .cell none) (d3 : ob3.data = .cell none) (d2 : ob2.data = .cell (some (.ref tl))) (d1 : ob1.data = .cell (some (.int half th)))
    (l0 : @LT.lt Nat _ (L + 1 + 1 + 1 + 1) a0) (l1 : @LT.lt Nat _ (L + 1 + 1 + 1 + 1) a1) (l2 : @LT.lt Nat _ (L + 1 + 1 + 1 + 1) a2) (l3 : @LT.lt Nat _ (L + 1 + 1 + 1 + 1) a3) (l4 : @LT.lt Nat _ (L + 1 + 1 + 1 + 1) a4) (l5 : @LT.lt Nat _ (L + 1 + 1 + 1 + 1) a5) (lt : @LT.lt Nat _ (L + 1 + 1 + 1 + 1) tl)
    (hfr : fr = friendsOf (11 + half))
    (hL41 : @LT.lt Nat _ 37 L) (hwd : width = 11 + (half.fdiv 64).fmod 50)
    (hsz : ∀ i : Nat, i < 16 → -1 ≤ lawSize 4 (i : Nat) fr ∧ lawSize 4 (i : Nat) fr ≤ 4) (hbel : belW fr (2 ^ width.toNat) 16 = bel)
    (f : LF tot width (2 ^ width.toNat) bel fr above q r number)
    (hQ : ∀ h' tk, G.StaysIn h' → GrownAt 37 h' → GrownAt 30 h' → Q (.ret (.bool true)) { s with heap := h', toks := tk }) :
    wpAny (model prog w) (callerA.deeper (lawEnv scope L fa cd)) (execs (body.drop 3) (lawEnv scope L fa cd)) Q (fun _ _ => False) s := by
  refine' law_elim hlaw ?k ?_
  case k => k_is
  intro e1 e2
  subst e1 e2
  simp only [List.drop_succ_cons, List.drop_zero]
  have F2 := fr_put F (x := PySem.Str.ofString "total") (v := .int tot tt) mt
  clear F
  obtain ⟨h0, gs, dr, tk0, os⟩ := s
  dsimp only at *
  repeat' ((fail_if_success (with_reducible show wpAny _ _ (eval (Expr.ListComp _ _ _ _) _) _ _ _)); (first | (k_unfold; (try dsimp only)) | walk1 | (dsimp only; walk1)))
  refine LCt.ListComp_T (F₀ := F2) (by with_unfolding_all rfl) (by decide) (by rfl) (by decide) (by rfl) ?_
  repeat ((with_reducible show wpAny _ _ _ _ _ _); (first | (k_unfold; (try dsimp only)) | walk1 | (dsimp only; walk1)))
  rename_i F2 h1 tk1 ta ua va hR F1 N1 hK
  dsimp only at hR F1 N1 hK ⊢
  refine LCt.CompSrcT.range (n := 6) (by rfl) F1 N1 hR (by decide) (by rfl) (by decide) ?_
  intro g'
  refine crt (fun i => ((11 + half).fdiv (p2 (i : Nat))).fmod 2 == 1) (fun i v => i < 6 ∧ v = #[Value.ref a0, Value.ref a1, Value.ref a2, Value.ref a3, Value.ref a4, Value.ref a5].getD i .none) ?turn ?fin
  case turn =>
    intro i v I' oI' C' oC' D' m' ys' h' tk' E' hi' hv' hC' hx' F' N' off' ne'
    obtain ⟨t9, hv9⟩ := hv'
    subst hv9
    have hk : i = 0 ∨ i = 1 ∨ i = 2 ∨ i = 3 ∨ i = 4 ∨ i = 5 := by omega
    clear F2 F1 N1
    rcases hk with rfl | rfl | rfl | rfl | rfl | rfl
    · have hx2 : m' (PySem.Str.ofString "k") = some (.int 0 t9) := hx'
      clear hx'
      repeat' ((fail_if_success (with_reducible show wpAny _ _ (binaryOp Operator.FloorDiv _ _) _ _ _)); (first | (k_unfold; (try dsimp only)) | walk1 | (dsimp only; walk1)))
      refine floordiv_int (by decide) ?_ (Or.inl (PyProof.noPylong_of_log2 (by decide)))
      repeat' ((fail_if_success (with_reducible show LCg.CompEnd _ _ _ _ _ _ _ _ _ _ _ _ _ _)); (first | (k_unfold; (try dsimp only)) | walk1 | (dsimp only; walk1)))
      · exact ⟨_, _, _, rfl, F', fun q hq => N' q hq, off', trivial, rfl, bit_yes (i := 0) ‹_›, by decide, rfl⟩
      · exact ⟨_, _, _, rfl, F', fun q hq => N' q hq, off', trivial, rfl, bit_no (i := 0) ‹_›⟩
    · have hx2 : m' (PySem.Str.ofString "k") = some (.int 1 t9) := hx'
      clear hx'
      repeat' ((fail_if_success (with_reducible show wpAny _ _ (binaryOp Operator.FloorDiv _ _) _ _ _)); (first | (k_unfold; (try dsimp only)) | walk1 | (dsimp only; walk1)))
      refine floordiv_int (by decide) ?_ (Or.inl (PyProof.noPylong_of_log2 (by decide)))
      repeat' ((fail_if_success (with_reducible show LCg.CompEnd _ _ _ _ _ _ _ _ _ _ _ _ _ _)); (first | (k_unfold; (try dsimp only)) | walk1 | (dsimp only; walk1)))
      · exact ⟨_, _, _, rfl, F', fun q hq => N' q hq, off', trivial, rfl, bit_yes (i := 1) ‹_›, by decide, rfl⟩
      · exact ⟨_, _, _, rfl, F', fun q hq => N' q hq, off', trivial, rfl, bit_no (i := 1) ‹_›⟩
    · have hx2 : m' (PySem.Str.ofString "k") = some (.int 2 t9) := hx'
      clear hx'
      repeat' ((fail_if_success (with_reducible show wpAny _ _ (binaryOp Operator.FloorDiv _ _) _ _ _)); (first | (k_unfold; (try dsimp only)) | walk1 | (dsimp only; walk1)))
      refine floordiv_int (by decide) ?_ (Or.inl (PyProof.noPylong_of_log2 (by decide)))
      repeat' ((fail_if_success (with_reducible show LCg.CompEnd _ _ _ _ _ _ _ _ _ _ _ _ _ _)); (first | (k_unfold; (try dsimp only)) | walk1 | (dsimp only; walk1)))
      · exact ⟨_, _, _, rfl, F', fun q hq => N' q hq, off', trivial, rfl, bit_yes (i := 2) ‹_›, by decide, rfl⟩
      · exact ⟨_, _, _, rfl, F', fun q hq => N' q hq, off', trivial, rfl, bit_no (i := 2) ‹_›⟩
    · have hx2 : m' (PySem.Str.ofString "k") = some (.int 3 t9) := hx'
      clear hx'
      repeat' ((fail_if_success (with_reducible show wpAny _ _ (binaryOp Operator.FloorDiv _ _) _ _ _)); (first | (k_unfold; (try dsimp only)) | walk1 | (dsimp only; walk1)))
      refine floordiv_int (by decide) ?_ (Or.inl (PyProof.noPylong_of_log2 (by decide)))
      repeat' ((fail_if_success (with_reducible show LCg.CompEnd _ _ _ _ _ _ _ _ _ _ _ _ _ _)); (first | (k_unfold; (try dsimp only)) | walk1 | (dsimp only; walk1)))
      · exact ⟨_, _, _, rfl, F', fun q hq => N' q hq, off', trivial, rfl, bit_yes (i := 3) ‹_›, by decide, rfl⟩
      · exact ⟨_, _, _, rfl, F', fun q hq => N' q hq, off', trivial, rfl, bit_no (i := 3) ‹_›⟩
    · have hx2 : m' (PySem.Str.ofString "k") = some (.int 4 t9) := hx'
      clear hx'
      repeat' ((fail_if_success (with_reducible show wpAny _ _ (binaryOp Operator.FloorDiv _ _) _ _ _)); (first | (k_unfold; (try dsimp only)) | walk1 | (dsimp only; walk1)))
      refine floordiv_int (by decide) ?_ (Or.inl (PyProof.noPylong_of_log2 (by decide)))
      repeat' ((fail_if_success (with_reducible show LCg.CompEnd _ _ _ _ _ _ _ _ _ _ _ _ _ _)); (first | (k_unfold; (try dsimp only)) | walk1 | (dsimp only; walk1)))
      · exact ⟨_, _, _, rfl, F', fun q hq => N' q hq, off', trivial, rfl, bit_yes (i := 4) ‹_›, by decide, rfl⟩
      · exact ⟨_, _, _, rfl, F', fun q hq => N' q hq, off', trivial, rfl, bit_no (i := 4) ‹_›⟩
    · have hx2 : m' (PySem.Str.ofString "k") = some (.int 5 t9) := hx'
      clear hx'
      repeat' ((fail_if_success (with_reducible show wpAny _ _ (binaryOp Operator.FloorDiv _ _) _ _ _)); (first | (k_unfold; (try dsimp only)) | walk1 | (dsimp only; walk1)))
      refine floordiv_int (by decide) ?_ (Or.inl (PyProof.noPylong_of_log2 (by decide)))
      repeat' ((fail_if_success (with_reducible show LCg.CompEnd _ _ _ _ _ _ _ _ _ _ _ _ _ _)); (first | (k_unfold; (try dsimp only)) | walk1 | (dsimp only; walk1)))
      · exact ⟨_, _, _, rfl, F', fun q hq => N' q hq, off', trivial, rfl, bit_yes (i := 5) ‹_›, by decide, rfl⟩
      · exact ⟨_, _, _, rfl, F', fun q hq => N' q hq, off', trivial, rfl, bit_no (i := 5) ‹_›⟩
  case fin =>
    intro ys hys D h3 tk3 F3 N3 o3
    have oD : @Ne Nat (L + 1 + 1) D := o3.2.2.2.2.2.2.2.2.2.1
    clear F2 F1 N1
    dsimp only
    repeat' ((fail_if_success (with_reducible show wpAny _ _ (execs [_, _, _, _, _, _, _, _, _, _, _, _, _] _) _ _ _)); (first | (k_unfold; (try dsimp only)) | walk1 | (dsimp only; walk1)))
    rename_i h4 o4 F4 N4 d4'
    have q0 := (N4 _ (.tail _ (.tail _ (.tail _ (.tail _ (.tail _ (.tail _ (.tail _ (.head _))))))))).1
    have q1 := (N4 _ (.tail _ (.tail _ (.tail _ (.tail _ (.tail _ (.tail _ (.head _)))))))).1
    have q2 := (N4 _ (.tail _ (.tail _ (.tail _ (.tail _ (.tail _ (.head _))))))).1
    have q3 := (N4 _ (.tail _ (.tail _ (.tail _ (.tail _ (.head _)))))).1
    have q4 := (N4 _ (.tail _ (.tail _ (.tail _ (.head _))))).1
    have q5 := (N4 _ (.tail _ (.tail _ (.head _)))).1
    dsimp only at q0 q1 q2 q3 q4 q5
    have hT : Paired (TieAt h4) ys (tiesOf (11 + half)) := paired_map (fun i v => by
      rintro ⟨hi, rfl⟩
      have hk : i = 0 ∨ i = 1 ∨ i = 2 ∨ i = 3 ∨ i = 4 ∨ i = 5 := by omega
      rcases hk with rfl | rfl | rfl | rfl | rfl | rfl
      · exact ⟨a0, _, _, _, _, rfl, rfl, by decide, by decide, by decide, ⟨_, q0, rfl, _, rfl⟩⟩
      · exact ⟨a1, _, _, _, _, rfl, rfl, by decide, by decide, by decide, ⟨_, q1, rfl, _, rfl⟩⟩
      · exact ⟨a2, _, _, _, _, rfl, rfl, by decide, by decide, by decide, ⟨_, q2, rfl, _, rfl⟩⟩
      · exact ⟨a3, _, _, _, _, rfl, rfl, by decide, by decide, by decide, ⟨_, q3, rfl, _, rfl⟩⟩
      · exact ⟨a4, _, _, _, _, rfl, rfl, by decide, by decide, by decide, ⟨_, q4, rfl, _, rfl⟩⟩
      · exact ⟨a5, _, _, _, _, rfl, rfl, by decide, by decide, by decide, ⟨_, q5, rfl, _, rfl⟩⟩) hys
    have N5 : News G L h4 [(D, LCg.lst ys), (L + 1 + 1 + 1 + 1, ob4), (L + 1 + 1 + 1, ob3), (L + 1 + 1, o4), (L + 1, ob1), (37, tabObj #[]), (30, tabObj #[])] := fun q hq => N4 q (by
      simp only [List.mem_cons, List.not_mem_nil, or_false] at hq ⊢
      rcases hq with h | h | h | h | h | h | h <;> simp [h])
    have hlen : (tiesOf (11 + half)).length ≤ 6 := by
      unfold tiesOf
      rw [List.length_map]
      exact Nat.le_trans (List.length_filter_le _ _) (by simp)
    dsimp only
    exact law_from4 hlaw X T C30 C37 hG30 hG37 F4 rfl N5 d4 d3 d4' d1 hT hlen hfr hL41 hwd hsz hbel f hQ
end
end Mine
end

section
open PySem PySem.Calls PySem.W PyProof.Rows
set_option maxRecDepth 100000
set_option maxHeartbeats 8000000
set_option Elab.async false
set_option linter.unusedVariables false
set_option linter.unusedSimpArgs false
namespace Mine
theorem freshRsLaw : True := by
  w_top off
  exact True.intro
theorem law_here {w : World} {body : List Stmt} {scope : Scope} {goal : Prop} {oc : Value} {od : Option Addr} {name qual : Str} {params : Arguments} {dV kV doc pm : Value} {an : Option Addr} {cdv ct : Value} {osl : Array (Option Value)} {G : Heap} (X : (hd.heap_39 w.params).In G)
    (h2 : (hd.heap_39 w.params).lookup 94 = some ⟨oc, od, .func (fnOf name qual params body scope dV kV doc pm an cdv ct), osl⟩) (h : LawIs w body scope → goal) : goal := h ⟨_, _, _, _, _, _, _, _, _, _, _, _, _, h2⟩
theorem law_holds : PySem.Challenge.rw_rs0076_01.Holds := hd (by
  k_go0
  repeat' ((fail_if_success (with_reducible show wpAny _ _ (execs [_, _, _, _, _, _, _, _, _, _, _, _, _, _] _) _ _ _)); (first | (k_unfold; (try dsimp only)) | walk1 | (dsimp only; walk1)))
  rename_i hH oH dH la0 ha0 lt0 la1 ha1 lt1 la2 ha2 lt2 la3 ha3 lt3 la4 ha4 lt4 la5 ha5 lt5 lta hta lttl h4 o4 F4 N4 d4
  refine' law_here (by assumption) ?zk ?_
  case zk => k_is
  intro hlaw
  obtain ⟨bel, above, q, r, number, hsz, hbel, f⟩ := lf_any (List.sum _)
  refine wpAny_mono (law_from3 hlaw (by assumption) (by assumption) (by assumption) (by assumption) ?zg30 ?zg37 F4 rfl N4 ?zd4 ?zd3 d4 dH lt0.1 lt1.2.1 lt2.2.2.1 lt3.2.2.2.1 lt4.2.2.2.2.1 lt5.2.2.2.2.2.1 lttl.2.2.2.2.2.2.1 rfl (by omega) rfl hsz hbel f ?zhQ) (fun _ _ x => x) fun _ _ x => x.elim
  case zg30 => exact (N4 _ (.tail _ (.tail _ (.tail _ (.tail _ (.tail _ (.tail _ (.tail _ (.tail _ (.tail _ (.tail _ (.tail _ (.tail _ (.head _)))))))))))))).2.2
  case zg37 => exact (N4 _ (.tail _ (.tail _ (.tail _ (.tail _ (.tail _ (.tail _ (.tail _ (.tail _ (.tail _ (.tail _ (.tail _ (.head _))))))))))))).2.2
  case zd4 => assumption
  case zd3 => assumption
  case zhQ =>
    intro h9 tk9 hG9 g37 g30
    refine ⟨⟨.inl ⟨.bool true, .bool true, [], rfl, raisesW_false ?_, .bool true, ?_, unshared_nil⟩, hG9, rfl, by assumption⟩, g37, g30, trivial⟩
    · wrow_none_raised
    · wrow_post)
end Mine
end

theorem PySem.Challenge.cw_rs0076_01_holds : PySem.Challenge.rw_rs0076_01.Holds := by
  exact Mine.law_holds
