import PyProof.Rows.All
import Wide.All
import OpenK.AllK
import Wide.FinOn
import PySem.Challenge.RW_rl0002_01
set_option rowWalk.seconds 0
section
open PySem PySem.W PyProof.Rows
set_option Elab.async false
set_option maxRecDepth 100000
set_option maxHeartbeats 8000000
namespace Mine
open_top hd for PySem.Challenge.rw_rl0002_01
end Mine
end
section
open PySem PySem.W PyProof.Rows
open PySem.Builtin PySem.Builtin.Str
set_option Elab.async false
namespace Mine
def find4 (x y : Str) (i j : Int) : Int := match occurrences x y (fromIndex x.length i) (min x.length (fromIndex x.length j)) 1 with | k :: _ => (k : Int) | [] => -1
def rfind4 (x y : Str) (i j : Int) : Int := match lastOccurrence x y (fromIndex x.length i) (min x.length (fromIndex x.length j)) with | some k => (k : Int) | none => -1
theorem gives_find4 (x y : Str) (i j : Int) (t u v v' : Tok) : Gives («str.find» ⟨[.str x t, .str y u, .int i v, .int j v'], []⟩) (.int (find4 x y i j)) := by
  show Gives (match occurrences x y (fromIndex x.length i) (min (fromIndex x.length j) x.length) 1 with | k :: _ => retInt k | [] => (do rule "str.find.not-found"; retInt (-1))) _
  unfold find4
  rw [Nat.min_comm]
  cases occurrences x y (fromIndex x.length i) (min x.length (fromIndex x.length j)) 1 with
  | nil => exact .rule (.of_eq rfl)
  | cons k _ => exact .of_eq rfl
theorem gives_rfind4 (x y : Str) (i j : Int) (t u v v' : Tok) : Gives («str.rfind» ⟨[.str x t, .str y u, .int i v, .int j v'], []⟩) (.int (rfind4 x y i j)) := by
  show Gives (match lastOccurrence x y (fromIndex x.length i) (min (fromIndex x.length j) x.length) with | some k => retInt k | none => (do rule "str.rfind.not-found"; retInt (-1))) _
  unfold rfind4
  rw [Nat.min_comm]
  cases lastOccurrence x y (fromIndex x.length i) (min x.length (fromIndex x.length j)) with
  | none => exact .rule (.of_eq rfl)
  | some k => exact .of_eq rfl
section
variable {prog : Program} {w : World} {A : Around} {E : Value → Shared → Prop} {s : Shared} {x y : Str} {t u v v' : Tok} {i j : Int} {Q : Value → Shared → Prop}
theorem call_find4 (hq : Q (.int (find4 x y i j) s.toks) { s with toks := s.toks + 1 }) : wpAny (model prog w) A (call (.builtin "str.find") [.str x t, .str y u, .int i v, .int j v']) Q E s :=
  call_gives F.slot_str_find (typeIs_str _ _ _) F.entry_str_find (F.args_str_find_4 _ _ _ _) (gives_find4 x y i j t u v v') hq
theorem call_rfind4 (hq : Q (.int (rfind4 x y i j) s.toks) { s with toks := s.toks + 1 }) : wpAny (model prog w) A (call (.builtin "str.rfind") [.str x t, .str y u, .int i v, .int j v']) Q E s :=
  call_gives F.slot_str_rfind (typeIs_str _ _ _) F.entry_str_rfind (F.args_str_rfind_4 _ _ _ _) (gives_rfind4 x y i j t u v v') hq
end
end Mine
end
section
open PySem PySem.W PyProof.Rows
set_option Elab.async false
set_option maxRecDepth 100000
set_option maxHeartbeats 8000000
namespace Mine
def pathsOf (pl : Int) (a : Int) : Int := if a ≠ 0 then (pl + 1) ^ (a - 1).toNat else 1
def tailsOf (pl : Int) (b : Int) : Int := if b ≠ 0 then 2 * (pl + 3) ^ (b - 1).toNat else 1
def aroundOn (sp pl : Int) (l : List Int) : Int := (l.map fun a => pathsOf pl a * tailsOf pl (sp - a)).sum
theorem pow_le_8 {b : Int} (h0 : 0 ≤ b) (h1 : b ≤ 8) : ∀ n : Nat, 0 ≤ b ^ n ∧ b ^ n ≤ 8 ^ n
  | 0 => by simp
  | n + 1 => by
    obtain ⟨p, q⟩ := pow_le_8 h0 h1 n
    rw [Int.pow_succ, Int.pow_succ]
    exact ⟨Int.mul_nonneg p h0, Int.mul_le_mul q h1 h0 (Int.le_trans p q)⟩
theorem mulOk_pow {b e c : Int} (h0 : 0 ≤ b) (h1 : b ≤ 8) (h2 : e ≤ 8) : IntMulOk (b ^ e.toNat) c := by
  obtain ⟨p, q⟩ := pow_le_8 h0 h1 e.toNat
  have h3 : (8 : Int) ^ e.toNat ≤ 8 ^ 8 := by
    have h4 : e.toNat ≤ 8 := by omega
    generalize e.toNat = n at h4
    have : n = 0 ∨ n = 1 ∨ n = 2 ∨ n = 3 ∨ n = 4 ∨ n = 5 ∨ n = 6 ∨ n = 7 ∨ n = 8 := by omega
    rcases this with rfl | rfl | rfl | rfl | rfl | rfl | rfl | rfl | rfl <;> decide
  exact .of_left (intBits_le_64 (by omega) (by omega))
local macro_rules | `(tactic| mul_fits) => `(tactic| exact mulOk_pow (by omega) (by omega) (by omega))
local macro_rules | `(tactic| walk_at "exec For Name Call cons nil") => `(tactic| (k_here; (rename Fr _ _ _ _ => lF'); (with_unfolding_all refine' For_invVF lF' ?k1 ?k2 ?_; (case k1 => exact rfl); (case k2 => exact rfl); k_whole)))
theorem cases5 {n : Int} (h0 : 0 ≤ n) (h1 : n ≤ 4) : n = 0 ∨ n = 1 ∨ n = 2 ∨ n = 3 ∨ n = 4 := by omega
theorem cases3 {n : Int} (h0 : 1 ≤ n) (h1 : n ≤ 3) : n = 1 ∨ n = 2 ∨ n = 3 := by omega
def aroundS (sp pl : Int) : Int := aroundOn sp pl (rangeInts 0 1 (sp + 1).toNat)
theorem c_around (w : World) (mean : ExcName → Option Value) (mg mb : Str → Option Value) (news : List (Addr × Obj)) (sp pl : Int) (t t2 : Tok) :
   CbClaim PySem.Challenge.rw_rl0002_01.row.toRowW.prog w (hd.heap_39 w.params) hd.view_39 (looseW hd.view_39 []) mean mg mb 42 news [] (0 ≤ sp ∧ sp ≤ 4 ∧ 1 ≤ pl ∧ pl ≤ 3) [.int sp t, .int pl t2] (fun t => .int (aroundS sp pl) t) := by
  k_fill
  w_on
  dsimp only [CbClaim, CbLists, CbRet]; intros; rename_i hret
  refine wpAny_call ?_
  k_dflt cell_enter
  k_steps
  rename (0 ≤ sp ∧ _) => hsp
  refine cb_retI hret ?e1 ?e2 ?e3
  (case e2 => k_asm)
  (case e3 => first | k_asm | (refine' cb_drop ?cbN ?cbS; (case cbN => assumption); (case cbS => kcj_all)))
  (case e1 => (
    rcases cases5 hsp.1 hsp.2.1 with h | h | h | h | h <;> rcases cases3 hsp.2.2.1 hsp.2.2.2 with h' | h' | h' <;> subst h <;> subst h' <;> rfl))
end Mine
end
section
open PySem PySem.W PyProof.Rows PySem.Spec PySem.Calls
set_option Elab.async false
set_option maxRecDepth 100000
set_option maxHeartbeats 4000000
namespace Mine
section
variable {prog : Program} {w : World} {A : Around} {E : Value → Shared → Prop} {s : Shared} {env : Env} {h₀ : Heap} {x : Str} {body : List Stmt} {Q : Flow → Shared → Prop}

/-- what holds between two turns: a state c, its ledger, its names, its word -/
def LS {σ : Type} (Led : σ → List (Addr × Obj)) (ps : σ → List (Str × Value)) (x : Str) (stored : List Str) (m₀ : Str → Option Value) (P : σ → Prop) (m : Str → Option Value) (nx : List (Addr × Obj)) : Prop :=
  ∃ c : σ, nx = Led c ∧ P c ∧ (∀ p ∈ ps c, m p.1 = some p.2) ∧ (∀ z, z ≠ x → (∀ p ∈ ps c, z ≠ p.1) → stored.contains z = false → m z = m₀ z)
theorem ls_end {σ : Type} {Led : σ → List (Addr × Obj)} {ps : σ → List (Str × Value)} {stored : List Str} {m₀ : Str → Option Value} {P : σ → Prop} (c : σ) {L : Addr} {m' : Str → Option Value} {own news' : List (Addr × Obj)} {s₁ : Shared} {h' : Heap} {tk : Nat}
    (F : Fr h₀ L h' m') (N : News h₀ L h' news') (hn : ∀ p ∈ Led c, p ∈ news') (ho : ∀ p ∈ own, p ∈ news') (ha : OwnOff own ((Led c).map (·.1))) (hk : ∀ p ∈ ps c, m' p.1 = some p.2)
    (hr : ∀ z, z ≠ x → (∀ p ∈ ps c, z ≠ p.1) → stored.contains z = false → m' z = m₀ z) (hp : P c) :
    InvEndG h₀ L (LS Led ps x stored m₀ P) own s₁ { s₁ with heap := h', toks := tk } := InvEndG.intro F N ⟨c, rfl, hp, hk, hr⟩ ha hn ho

abbrev lsIn (x : Str) (v : Value) (stored : List Str) (u m₀ : Str → Option Value) (ps : List (Str × Value)) : Str → Option Value := fun y => if y = x then some v else kstB (fun z => if stored.contains z then u z else m₀ z) ps y
abbrev lsOut (x : Str) (stored : List Str) (u m₀ : Str → Option Value) (ps : List (Str × Value)) : Str → Option Value := fun y => if y = x then u y else kstB (fun z => if stored.contains z then u z else m₀ z) ps y

/-- over a list of the ledger's -/
theorem ls_list {σ : Type} {l : Addr} {vs : List Value} {nn : Nat} {m₀ : Str → Option Value} (Led : σ → List (Addr × Obj)) (ps : σ → List (Str × Value)) (stored : List Str) (P : Nat → σ → Prop) (c₀ : σ)
    (hh : A.handled = none) (hl : ∀ c : σ, (l, listOf vs.toArray nn) ∈ Led c) (F : Fr h₀ env.locals s.heap m₀) (N : News h₀ env.locals s.heap (Led c₀)) (hk : ∀ p ∈ ps c₀, m₀ p.1 = some p.2) (hp : P 0 c₀)
    (turn : ∀ (c : σ) (i : Nat) (v : Value) (u : Str → Option Value) (h : Heap) (tk : Nat) (own : List (Addr × Obj)), vs[i]? = some v → OwnOff own ((Led c).map (·.1)) → P i c →
      Fr h₀ env.locals h (lsIn x v stored u m₀ (ps c)) → News h₀ env.locals h (Led c ++ own) →
      wpAny (model prog w) A (execs body env) (InvPostG h₀ env.locals (LS Led ps x stored m₀ (P (i + 1))) own { s with heap := h, toks := tk } Q) E { s with heap := h, toks := tk })
    (done : ∀ (c : σ) (u : Str → Option Value) (h : Heap) (tk : Nat), P vs.length c → Fr h₀ env.locals h (lsOut x stored u m₀ (ps c)) → News h₀ env.locals h (Led c) → Q .next { s with heap := h, toks := tk }) :
    wpAny (model prog w) A (pyIter (.ref l)) (fun it s₂ => LoopAtV prog w A h₀ env x body Q E it s₂) E s := by
  refine kdl_iter (fun i m nx => LS Led ps x stored m₀ (P i) m nx) hh (hl c₀) F N ⟨c₀, rfl, hp, hk, fun _ _ _ _ => rfl⟩ ?_ ?_
  · rintro i v m₁ nx h tk own hv hoff _ ⟨c, rfl, hp', h1, h2⟩ F₁ N₁
    refine wpAny_mono (turn c i v m₁ h tk own hv hoff hp' (kst_fr h1 h2 F₁) N₁) (fun f s₂ p => ?_) fun _ _ x => x
    have up : InvEndG h₀ env.locals (LS Led ps x stored m₀ (P (i + 1))) own { s with heap := h, toks := tk } s₂ →
        InvEndG h₀ env.locals (fun m' nx => (l, listOf vs.toArray nn) ∈ nx ∧ LS Led ps x stored m₀ (P (i + 1)) m' nx) own { s with heap := h, toks := tk } s₂ := by
      rintro ⟨h', tk', m', news', nx', e', F', N', hn', ho', ha, hS⟩
      refine ⟨h', tk', m', news', nx', e', F', N', hn', ho', ha, ?_, hS⟩
      obtain ⟨c', rfl, _⟩ := hS
      exact hl c'
    cases f with
    | ret v => exact p
    | brk => exact p
    | next => exact up p
    | cont => exact up p
  · rintro m₁ nx h tk ⟨c, rfl, hp', h1, h2⟩ F₁ N₁
    exact done c m₁ h tk hp' (kst_frOut h1 h2 F₁) N₁

/-- over a range by ones -/
theorem ls_range {σ : Type} {r : Addr} {a₀ b₀ : Int} {t₀ u₀ v₀ : Tok} {n : Nat} {m₀ : Str → Option Value} (Led : σ → List (Addr × Obj)) (ps : σ → List (Str × Value)) (stored : List Str) (P : Nat → σ → Prop) (c₀ : σ)
    (hh : A.handled = none) (hr : IsRange s.heap r a₀ b₀ 1 t₀ u₀ v₀) (hsmall : Builtin.Range.small a₀ b₀ 1 = true) (hsz : Builtin.Range.rangeSize a₀ b₀ 1 = (n : Int)) (F : Fr h₀ env.locals s.heap m₀) (N : News h₀ env.locals s.heap (Led c₀)) (hk : ∀ p ∈ ps c₀, m₀ p.1 = some p.2) (hp : P 0 c₀)
    (turn : ∀ (c : σ) (i : Nat) (k : Int) (t : Tok) (u : Str → Option Value) (h : Heap) (tk : Nat) (own : List (Addr × Obj)), k = a₀ + (i : Int) → i < n → OwnOff own ((Led c).map (·.1)) → P i c →
      Fr h₀ env.locals h (lsIn x (.int k t) stored u m₀ (ps c)) → News h₀ env.locals h (Led c ++ own) →
      wpAny (model prog w) A (execs body env) (InvPostG h₀ env.locals (LS Led ps x stored m₀ (P (i + 1))) own { s with heap := h, toks := tk } Q) E { s with heap := h, toks := tk })
    (done : ∀ (c : σ) (u : Str → Option Value) (h : Heap) (tk : Nat), P n c → Fr h₀ env.locals h (lsOut x stored u m₀ (ps c)) → News h₀ env.locals h (Led c) → Q .next { s with heap := h, toks := tk }) :
    wpAny (model prog w) A (pyIter (.ref r)) (fun it s₂ => LoopAtV prog w A h₀ env x body Q E it s₂) E s := by
  refine wpAny_pyIter_range hr hsmall ?_
  have W : Walks prog w A s.heap.objs.size [s.heap.objs.size] [s.heap.objs.size] n (fun i v => i < n ∧ ∃ t, v = .int (a₀ + i * 1) t)
      (fun i h => IsRangeIter h s.heap.objs.size (a₀ + (i : Nat) * 1) ((n : Int) - (i : Nat)) 1) := (Walks.range hh _ a₀ 1 n).bound
  refine kdr_loop (fun i m nx => LS Led ps x stored m₀ (P i) m nx) W (fun _ h => h) (fun _ h => h) ?_ ?_ ?_ ?_ (by show IsRangeIter _ _ _ _ _; rw [hsz]; simpa using Heap.get?_push_size _ rfl) (F.push _) (fun p hp => ⟨Heap.get?_push_of_some _ (N p hp).1, (N p hp).2⟩) ⟨c₀, rfl, hp, hk, fun _ _ _ _ => rfl⟩ ?_ ?_
  · intro i h hi b hb
    rw [List.mem_singleton.mp hb]
    exact ⟨_, hi⟩
  · intro hm
    exact absurd F.ns.lt ((List.mem_singleton.mp hm) ▸ Nat.lt_irrefl _)
  · intro b hb
    rw [List.mem_singleton.mp hb]
    exact next_is_new F
  · intro p hp hI
    exact absurd (Heap.lt_size (N p hp).1) ((List.mem_singleton.mp hI) ▸ Nat.lt_irrefl _)
  · rintro i v m₁ nx h tk own hi ⟨_, t, rfl⟩ hoff ⟨c, rfl, hp', h1, h2⟩ F₁ N₁
    exact turn c i _ t m₁ h tk own (by omega) hi hoff hp' (kst_fr h1 h2 F₁) N₁
  · rintro m₁ nx h tk ⟨c, rfl, hp', h1, h2⟩ F₁ N₁
    exact done c m₁ h tk hp' (kst_frOut h1 h2 F₁) N₁

/-- over a text's signs -/
theorem ls_text {σ : Type} {y : Str} {t₀ : Tok} {m₀ : Str → Option Value} (Led : σ → List (Addr × Obj)) (ps : σ → List (Str × Value)) (stored : List Str) (P : Nat → σ → Prop) (c₀ : σ)
    (hh : A.handled = none) (F : Fr h₀ env.locals s.heap m₀) (N : News h₀ env.locals s.heap (Led c₀)) (hk : ∀ p ∈ ps c₀, m₀ p.1 = some p.2) (hp : P 0 c₀)
    (turn : ∀ (c : σ) (i : Nat) (k : Nat) (t : Tok) (u : Str → Option Value) (h : Heap) (tk : Nat) (own : List (Addr × Obj)), y.cps[i]? = some k → OwnOff own ((Led c).map (·.1)) → P i c →
      Fr h₀ env.locals h (lsIn x (.str ⟨#[k]⟩ t) stored u m₀ (ps c)) → News h₀ env.locals h (Led c ++ own) →
      wpAny (model prog w) A (execs body env) (InvPostG h₀ env.locals (LS Led ps x stored m₀ (P (i + 1))) own { s with heap := h, toks := tk } Q) E { s with heap := h, toks := tk })
    (done : ∀ (c : σ) (u : Str → Option Value) (h : Heap) (tk : Nat), P y.cps.size c → Fr h₀ env.locals h (lsOut x stored u m₀ (ps c)) → News h₀ env.locals h (Led c) → Q .next { s with heap := h, toks := tk }) :
    wpAny (model prog w) A (pyIter (.str y t₀)) (fun it s₂ => LoopAtV prog w A h₀ env x body Q E it s₂) E s := by
  refine wpAny_pyIter_strU ?_
  have Wf : ∀ St : Nat → Heap → Prop, (∀ i h, St i h → ∃ o, h.get? s.heap.objs.size = some o) → Walks prog w A s.heap.objs.size [s.heap.objs.size] [s.heap.objs.size] y.cps.size (SignAt y) St →
      St 0 (s.heap.push { cls := .type (strIterType y), data := .fields #[.str y t₀, .int 0 0] }) →
      LoopAtV prog w A h₀ env x body Q E (.ref s.heap.objs.size) { s with heap := s.heap.push { cls := .type (strIterType y), data := .fields #[.str y t₀, .int 0 0] } } := by
    intro St hob W hst
    refine kdr_loop (fun i m nx => LS Led ps x stored m₀ (P i) m nx) W (fun _ h => h) (fun _ h => h) ?_ ?_ ?_ ?_ hst (F.push _) (fun p hp => ⟨Heap.get?_push_of_some _ (N p hp).1, (N p hp).2⟩) ⟨c₀, rfl, hp, hk, fun _ _ _ _ => rfl⟩ ?_ ?_
    · intro i h hi b hb
      rw [List.mem_singleton.mp hb]
      exact hob i h hi
    · intro hm
      exact absurd F.ns.lt ((List.mem_singleton.mp hm) ▸ Nat.lt_irrefl _)
    · intro b hb
      rw [List.mem_singleton.mp hb]
      exact next_is_new F
    · intro p hp hI
      exact absurd (Heap.lt_size (N p hp).1) ((List.mem_singleton.mp hI) ▸ Nat.lt_irrefl _)
    · rintro i v m₁ nx h tk own hi ⟨k, t, hk', rfl⟩ hoff ⟨c, rfl, hp', h1, h2⟩ F₁ N₁
      exact turn c i k t m₁ h tk own hk' hoff hp' (kst_fr h1 h2 F₁) N₁
    · rintro m₁ nx h tk ⟨c, rfl, hp', h1, h2⟩ F₁ N₁
      exact done c m₁ h tk hp' (kst_frOut h1 h2 F₁) N₁
  cases ha : y.cps.all (· < 128)
  · refine Wf _ ?_ (Walks.strWide hh _ y t₀) ⟨_, Heap.get?_push_size _ rfl, by simp [strIterType, ha], rfl⟩
    rintro i h ⟨o, ho, _⟩
    exact ⟨o, ho⟩
  · refine Wf _ ?_ (Walks.strAscii hh _ y t₀) ⟨_, Heap.get?_push_size _ rfl, by simp [strIterType, ha], rfl⟩
    rintro i h ⟨o, ho, _⟩
    exact ⟨o, ho⟩

/-- over the keys of a dict of the ledger's, which the turns leave alone -/
theorem ls_keys {σ : Type} {d : Addr} {o : Obj} {kvs : List (Str × Value)} {m₀ : Str → Option Value} (Led : σ → List (Addr × Obj)) (ps : σ → List (Str × Value)) (stored : List Str) (P : Nat → σ → Prop) (c₀ : σ)
    (hh : A.handled = none) (hl : ∀ c : σ, (d, o) ∈ Led c) (lo : (d == sysModules) = false) (hd : o.IsDictOf (PySem.strKind prog w) kvs) (F : Fr h₀ env.locals s.heap m₀) (N : News h₀ env.locals s.heap (Led c₀)) (hk : ∀ p ∈ ps c₀, m₀ p.1 = some p.2) (hp : P 0 c₀)
    (turn : ∀ (c : σ) (i : Nat) (k : Str) (v : Value) (t : Tok) (u : Str → Option Value) (h : Heap) (tk : Nat) (own : List (Addr × Obj)), kvs[i]? = some (k, v) → OwnOff own ((Led c).map (·.1)) → P i c →
      Fr h₀ env.locals h (lsIn x (.str k t) stored u m₀ (ps c)) → News h₀ env.locals h (Led c ++ own) →
      wpAny (model prog w) A (execs body env) (InvPostG h₀ env.locals (LS Led ps x stored m₀ (P (i + 1))) own { s with heap := h, toks := tk } Q) E { s with heap := h, toks := tk })
    (done : ∀ (c : σ) (u : Str → Option Value) (h : Heap) (tk : Nat), P kvs.length c → Fr h₀ env.locals h (lsOut x stored u m₀ (ps c)) → News h₀ env.locals h (Led c) → Q .next { s with heap := h, toks := tk }) :
    wpAny (model prog w) A (pyIter (.ref d)) (fun it s₂ => LoopAtV prog w A h₀ env x body Q E it s₂) E s := by
  obtain ⟨ep, ha⟩ := KdkAt.of hd
  have hod : s.heap.get? d = some o := (N _ (hl c₀)).1
  have hne : d ≠ s.heap.objs.size := Nat.ne_of_lt (Heap.lt_size hod)
  have hdA : s.heap.DictAt (PySem.strKind prog w) d kvs ep := ha.dictAt hod
  refine wpAny_pyIter_dict lo hdA ?_
  have W := Walks.dictKeys (prog := prog) (w := w) (knd := PySem.strKind prog w) hh s.heap.objs.size d hne kvs ep
  refine ⟨_, _, _, kvs.length, _, _, m₀, Led c₀, (fun i m nx => LS Led ps x stored m₀ (P i) m nx), rfl, W, ?_, ?_, ?_, ⟨⟨_, Heap.get?_push_size _ rfl, rfl, rfl⟩, ha.dictAt (Heap.get?_push_of_some _ hod)⟩, F.push _, (fun p hp => ⟨Heap.get?_push_of_some _ (N p hp).1, (N p hp).2⟩), ⟨c₀, rfl, hp, hk, fun _ _ _ _ => rfl⟩, ?_, ?_⟩
  · intro hm
    rcases List.mem_cons.mp hm with e | hm
    · exact absurd F.ns.lt (e ▸ Nat.lt_irrefl _)
    · exact (N _ (hl c₀)).2.1 ((List.mem_singleton.mp hm).symm)
  · intro b hb
    rw [List.mem_singleton.mp hb]
    exact next_is_new F
  · intro p hp hI
    exact absurd (Heap.lt_size (N p hp).1) ((List.mem_singleton.mp hI) ▸ Nat.lt_irrefl _)
  · rintro i v m₁ nx s₁ own ⟨hh', tk', rfl⟩ hin ⟨k, xv, hkv, hkey⟩ ⟨c, rfl, hp', h1, h2⟩ hoff hown hget hfp hst F₁ N₁
    have hI0 : h₀.get? s.heap.objs.size = none := next_is_new F
    obtain ⟨⟨oI, hoI, _⟩, _⟩ := id hst
    have hIown : (s.heap.objs.size, oI) ∈ own.filter fun p => decide (p.1 = s.heap.objs.size) := List.mem_filter.mpr ⟨hfp _ (List.mem_cons.mpr (.inl rfl)) hI0 _ hoI, by simp⟩
    have hsep : OwnOff (own.filter fun p => decide (p.1 = s.heap.objs.size)) ((Led c).map (·.1)) := by
      intro p hp b hb e
      obtain ⟨q, hq, rfl⟩ := List.mem_map.mp hb
      have h1 : p.1 = s.heap.objs.size := by simpa using (List.mem_filter.mp hp).2
      exact hoff q hq (List.mem_singleton.mpr (e ▸ h1))
    have N₂ : News h₀ env.locals hh' (Led c ++ own.filter fun p => decide (p.1 = s.heap.objs.size)) := fun p hp => N₁ p ((List.mem_append.mp hp).elim (fun h => List.mem_append.mpr (.inr h)) fun h => List.mem_append.mpr (.inl ((List.mem_filter.mp h).1)))
    have hdo : hh'.get? d = some o := (N₁ _ (List.mem_append.mpr (.inr (hl c)))).1
    obtain ⟨t, rfl⟩ : ∃ t, v = .str k t := by
      cases v with
      | str y t =>
        have hy : (y == k) = true := hkey
        exact ⟨t, by rw [eq_of_beq hy]⟩
      | _ => cases hkey
    refine wpAny_mono (turn c i k xv t m₁ hh' tk' _ hkv hsep hp' (kst_fr h1 h2 F₁) N₂) (fun f s₂ p => ?_) fun _ _ e => e
    have fin : InvEndG h₀ env.locals (LS Led ps x stored m₀ (P (i + 1))) (own.filter fun p => decide (p.1 = s.heap.objs.size)) { s with heap := hh', toks := tk' } s₂ →
        LoopStepU h₀ env.locals [s.heap.objs.size] own (LS Led ps x stored m₀ (P (i + 1))) { s with heap := hh', toks := tk' } .next s₂ := by
      rintro ⟨h', tk, m', news', nx, e, F', N', hn, ho, ha, hm⟩
      refine ⟨rfl, h', tk, m', nx, e, F', fun p hp => ?_, fun p hp hq => ?_, hm⟩
      · rcases List.mem_append.mp hp with h | h
        · by_cases hI : p.1 = s.heap.objs.size
          · exact N' p (ho p (List.mem_filter.mpr ⟨h, by simpa using hI⟩))
          · have h1 : p.1 = d := by
              rcases List.mem_cons.mp (hown p h) with h2 | h2
              · exact absurd h2 hI
              · exact List.mem_singleton.mp h2
            have h2 : hh'.get? p.1 = some p.2 := hget p h
            rw [h1, hdo] at h2
            have h3 : p = (d, o) := Prod.ext h1 (Option.some.inj h2).symm
            rw [h3]
            obtain ⟨c', rfl, _⟩ := hm
            exact N' _ (hn _ (hl c'))
        · exact N' p (hn p h)
      · exact ha _ hIown p.1 (List.mem_map.mpr ⟨p, hp, rfl⟩) (List.mem_singleton.mp hq).symm
    cases f with
    | ret v => exact .ret p
    | brk => exact .brk p
    | next => exact .next (fin p)
    | cont => exact .cont (fin p)
  · rintro h' tk m' news' F' N' _ ⟨c, rfl, hp', h1, h2⟩
    exact done c m' h' tk hp' (kst_frOut h1 h2 F') N'
end
end Mine
end
section
open PySem PySem.W PyProof.Rows
set_option Elab.async false
set_option maxRecDepth 100000
set_option maxHeartbeats 8000000
namespace Mine
def stripE1 (x : Str) : Int := if 0 ≤ Txt.find x (Str.ofString "\n") then Txt.find x (Str.ofString "\n") else (x.length : Int)
def stripE2 (x : Str) : Int := if 0 ≤ find4 x (Str.ofString ":") 0 (stripE1 x) then find4 x (Str.ofString ":") 0 (stripE1 x) else stripE1 x
def stripB (x : Str) : Int := if 0 ≤ rfind4 x (Str.ofString ".") 0 (stripE2 x) then rfind4 x (Str.ofString ".") 0 (stripE2 x) + 1 else 0
def stripS (x : Str) : Str := Txt.slice x (some (stripB x)) (some (stripE2 x))
def commentS (x : Str) : Str := if (((Txt.rstrip x).length : Nat) : Int) ≠ 0 then Str.ofString "# " ++ Txt.rstrip x else Str.ofString "#"
theorem stripE1_of {x : Str} {r : Int} (h : (0 ≤ Txt.find x (Str.ofString "\n") ∧ r = Txt.find x (Str.ofString "\n")) ∨ (¬ 0 ≤ Txt.find x (Str.ofString "\n") ∧ r = (x.length : Int))) : stripE1 x = r := by
  unfold stripE1
  rcases h with ⟨h, e⟩ | ⟨h, e⟩
  · rw [if_pos h, e]
  · rw [if_neg h, e]
theorem stripS_of {x : Str} {r e b : Int} (h1 : stripE1 x = r) (h2 : (0 ≤ find4 x (Str.ofString ":") 0 r ∧ e = find4 x (Str.ofString ":") 0 r) ∨ (¬ 0 ≤ find4 x (Str.ofString ":") 0 r ∧ e = r))
    (h3 : (0 ≤ rfind4 x (Str.ofString ".") 0 e ∧ b = rfind4 x (Str.ofString ".") 0 e + 1) ∨ (¬ 0 ≤ rfind4 x (Str.ofString ".") 0 e ∧ b = 0)) : Txt.slice x (some b) (some e) = stripS x := by
  have e2 : stripE2 x = e := by
    unfold stripE2
    rw [h1]
    rcases h2 with ⟨h, q⟩ | ⟨h, q⟩
    · rw [if_pos h, q]
    · rw [if_neg h, q]
  have e3 : stripB x = b := by
    unfold stripB
    rw [e2]
    rcases h3 with ⟨h, q⟩ | ⟨h, q⟩
    · rw [if_pos h, q]
    · rw [if_neg h, q]
  unfold stripS
  rw [e2, e3]
local macro_rules | `(tactic| walk_at "call builtin:str.find") => `(tactic| (refine call_find4 ?_))
local macro_rules | `(tactic| walk_at "call builtin:str.rfind") => `(tactic| (refine call_rfind4 ?_))
theorem c_strip (w : World) (mean : ExcName → Option Value) (mg mb : Str → Option Value) (news : List (Addr × Obj)) (x : Str) (t : Tok) :
   CbClaim PySem.Challenge.rw_rl0002_01.row.toRowW.prog w (hd.heap_39 w.params) hd.view_39 (looseW hd.view_39 []) mean mg mb 35 news [] (x.length ≤ 100) [.str x t] (fun t => .str (stripS x) t) := by
  k_fill
  w_on
  dsimp only [CbClaim, CbLists, CbRet]; intros; rename_i hret
  refine wpAny_call ?_
  k_dflt cell_enter
  k_steps
  all_goals (
    rename ((0 ≤ Txt.find x _ ∧ _) ∨ _) => hE
    have hE1 := stripE1_of hE
    refine cb_retS hret ?e1 ?e2 ?e3
    (case e2 => k_asm)
    (case e3 => first | k_asm | (refine' cb_drop ?cbN ?cbS; (case cbN => assumption); (case cbS => kcj_all)))
    (case e1 => exact (stripS_of hE1 (by first | exact .inl ⟨by assumption, rfl⟩ | exact .inr ⟨by assumption, rfl⟩) (by first | exact .inl ⟨by assumption, rfl⟩ | exact .inr ⟨by assumption, rfl⟩))))
theorem c_comment (w : World) (mean : ExcName → Option Value) (mg mb : Str → Option Value) (news : List (Addr × Obj)) (x : Str) (t : Tok) :
   CbClaim PySem.Challenge.rw_rl0002_01.row.toRowW.prog w (hd.heap_39 w.params) hd.view_39 (looseW hd.view_39 []) mean mg mb 28 news [] (x.length ≤ 100) [.str x t] (fun t => .str (commentS x) t) := by
  k_fill
  w_on
  dsimp only [CbClaim, CbLists, CbRet]; intros; rename_i hret
  refine wpAny_call ?_
  k_dflt cell_enter
  k_steps
  all_goals (
    refine cb_retS hret ?e1 ?e2 ?e3
    (case e2 => k_asm)
    (case e3 => first | k_asm | (refine' cb_drop ?cbN ?cbS; (case cbN => assumption); (case cbS => kcj_all)))
    (case e1 => (unfold commentS; first | rw [if_pos (by assumption)] | rw [if_neg (not_not_intro (by assumption))])))
end Mine
end
section
open PySem PySem.W PyProof.Rows
set_option Elab.async false
set_option maxRecDepth 100000
set_option maxHeartbeats 8000000
namespace Mine
theorem mulOk_powR {b e c : Int} (h0 : 0 ≤ b) (h1 : b ≤ 8) (h2 : e ≤ 8) : IntMulOk c (b ^ e.toNat) := by
  obtain ⟨p, q⟩ := pow_le_8 h0 h1 e.toNat
  have h3 : (8 : Int) ^ e.toNat ≤ 8 ^ 8 := by
    have h4 : e.toNat ≤ 8 := by omega
    generalize e.toNat = n at h4
    have : n = 0 ∨ n = 1 ∨ n = 2 ∨ n = 3 ∨ n = 4 ∨ n = 5 ∨ n = 6 ∨ n = 7 ∨ n = 8 := by omega
    rcases this with rfl | rfl | rfl | rfl | rfl | rfl | rfl | rfl | rfl <;> decide
  exact .of_right (intBits_le_64 (by omega) (by omega))
def holdStep (len held kinds : Int) (σ : Int × Int) (p : Int) : Int × Int :=
  (if held ≤ p then σ.1 + σ.2 * (kinds - 1) ^ (len - p).toNat else σ.1, Int.fdiv (σ.2 * (len - p)) (p + 1))
def holdingS (len held kinds : Int) : Int := ((rangeInts 0 1 (len + 1).toNat).foldl (holdStep len held kinds) (0, 1)).1
local macro_rules | `(tactic| mul_fits) => `(tactic| exact mulOk_powR (by omega) (by omega) (by omega))
theorem c_holding (w : World) (mean : ExcName → Option Value) (mg mb : Str → Option Value) (news : List (Addr × Obj)) (len held kinds : Int) (t t2 t3 : Tok) :
   CbClaim PySem.Challenge.rw_rl0002_01.row.toRowW.prog w (hd.heap_39 w.params) hd.view_39 (looseW hd.view_39 []) mean mg mb 49 news [] (0 ≤ len ∧ len ≤ 4 ∧ 1 ≤ held ∧ held ≤ 3 ∧ 1 ≤ kinds ∧ kinds ≤ 3) [.int len t, .int held t2, .int kinds t3] (fun t => .int (holdingS len held kinds) t) := by
  k_fill
  w_on
  dsimp only [CbClaim, CbLists, CbRet]; intros; rename_i hret
  refine wpAny_call ?_
  k_dflt cell_enter
  k_steps
  rename (0 ≤ len ∧ _) => hsp
  refine cb_retI hret ?e1 ?e2 ?e3
  (case e2 => k_asm)
  (case e3 => first | k_asm | (refine' cb_drop ?cbN ?cbS; (case cbN => assumption); (case cbS => kcj_all)))
  (case e1 => (
    rcases cases5 hsp.1 hsp.2.1 with h | h | h | h | h <;> rcases cases3 hsp.2.2.1 hsp.2.2.2.1 with h' | h' | h' <;> rcases cases3 hsp.2.2.2.2.1 hsp.2.2.2.2.2 with h'' | h'' | h'' <;> subst h <;> subst h' <;> subst h'' <;> rfl))
end Mine
end
section
open PySem PySem.W PyProof.Rows PySem.Spec PySem.Calls PyProof.V
set_option Elab.async false
set_option maxRecDepth 100000
set_option maxHeartbeats 8000000
namespace Mine
def tallyAdd (c : List (Str × Int)) (k : Str) : List (Str × Int) := kdpPut c k (kdpLook c k 0 + 1)
def tallyS (l : List Str) : List (Str × Int) := l.foldl tallyAdd []
theorem tallyAdd_len (c : List (Str × Int)) (k : Str) : (tallyAdd c k).length ≤ c.length + 1 := kdpPut_len _ _ _
theorem tally_len_go : ∀ (l : List Str) (c : List (Str × Int)), (l.foldl tallyAdd c).length ≤ c.length + l.length
  | [], c => by simp
  | k :: l, c => by
    have h1 := tally_len_go l (tallyAdd c k)
    have h2 := tallyAdd_len c k
    simp only [List.foldl_cons, List.length_cons]; omega
theorem tallyS_len (l : List Str) : (tallyS l).length ≤ l.length := by
  have := tally_len_go l []
  simpa [tallyS] using this
theorem tallyS_snoc (l : List Str) (k : Str) : tallyS (l ++ [k]) = kdpPut (tallyS l) k (kdpLook (tallyS l) k 0 + 1) := by
  unfold tallyS; rw [List.foldl_append]; rfl
theorem allLt_mem {d : Addr} {l : List (Addr × Obj)} (h : AllLt d l) : ∀ p ∈ l, p.1 < d := by
  induction l with
  | nil => exact fun _ hp => nomatch hp
  | cons q r ih =>
    have h' : @LT.lt Nat _ q.1 d ∧ AllLt d r := h
    exact List.forall_mem_cons.mpr ⟨h'.1, ih h'.2⟩
theorem offAll {d l : Addr} {o ol : Obj} {news own : List (Addr × Obj)} (l1 : l < d ∧ AllLt d news) (hoff : OwnOff own (((d, o) :: (l, ol) :: news).map (·.1))) : ∀ p ∈ (l, ol) :: (news ++ own), p.1 ≠ d :=
  List.forall_mem_cons.mpr ⟨Nat.ne_of_lt l1.1, fun p hp => (List.mem_append.mp hp).elim (fun h => Nat.ne_of_lt (allLt_mem l1.2 p h)) (fun h => hoff p h d (.head _))⟩
local macro_rules | `(tactic| k_all) => `(tactic| assumption)
local macro_rules | `(tactic| walk_at "exec For Name Name cons nil") => `(tactic| (k_here; (rename Fr _ _ _ _ => lF'); (with_unfolding_all refine' For_invVF lF' ?k1 ?k2 ?_; (case k1 => exact rfl); (case k2 => exact rfl); k_whole)))
local macro_rules | `(tactic| walk_at "call builtin:dict.get") => `(tactic| (k_here; k_dflt (refine kdp_get2 (by k_tabat) ?_); intro _))
theorem c_tally (w : World) (mean : ExcName → Option Value) (mg mb : Str → Option Value) (news : List (Addr × Obj)) (l : Addr) (vs : List Value) (n : Nat) (xs : List Str) (hx : StrsAre vs xs) (hx2 : xs.length ≤ 1000) :
  ∀ (dp un : Nat) (gd : Option (List Code)) (cn : Str) (cs : Scope) (a : Addr) (ccd : Value) (cl : List (Str × Addr)) (outer : List Env) (A₀ : Around) (base h₀ : Heap) (L : Addr) (m : Str → Option Value) (s : Shared) (Q E : Value → Shared → Prop),
  Below A₀ base outer h₀ → Fr h₀ L s.heap m → (hd.heap_39 w.params).In h₀ → News h₀ L s.heap ((l, listOf vs.toArray n) :: news) → Top hd.view_39 (looseW hd.view_39 []) mean mg mb h₀ → cs.kind = .function →
  dp + 1 < recursionLimit → un + 8 < cLine →
  (∀ (d : Addr) (o : Obj) (kvs : List (Str × Value)) (h' : Heap) (tk' : Nat), Fr h₀ L h' m → News h₀ L h' ((d, o) :: (l, listOf vs.toArray n) :: news) → (∀ p ∈ (l, listOf vs.toArray n) :: news, p.1 < d) → (d == sysModules) = false →
     o.IsDictOf (PySem.strKind PySem.Challenge.rw_rl0002_01.row.toRowW.prog w) kvs → FlatPairs PyData.str kvs (kdpD (tallyS xs)) → Q (.ref d) { s with heap := h', toks := tk' }) →
  wpAny (model PySem.Challenge.rw_rl0002_01.row.toRowW.prog w) (ktrTop dp un gd cn cs L a ccd cl outer) (call (.ref 56) [.ref l]) Q E s := by
  k_fill
  intros; rename_i hret
  w_on
  refine wpAny_call ?_
  k_dflt cell_enter
  k_steps
  rename (News _ _ _ _) => N1
  rename (Fr _ _ _ _) => F1
  rename (Obj.IsDictOf (PySem.strKind _ _) _ _) => D1
  rename (FlatPairs PyData.str _ _) => P1
  rename ((_ == sysModules) = false) => lo1
  rename Obj => o1
  rename (_ ∧ AllLt _ _) => l1
  dsimp only at N1 F1 l1 ⊢
  refine ls_list (vs := vs) (nn := n) (σ := Obj × List (Str × Value)) (fun c => (_, c.1) :: (l, listOf vs.toArray n) :: news) (fun _ => []) [] (fun i c => c.1.IsDictOf (PySem.strKind PySem.Challenge.rw_rl0002_01.row.toRowW.prog w) c.2 ∧ FlatPairs PyData.str c.2 (kdpD (tallyS (xs.take i)))) (o1, []) rfl ?hl F1 N1 ?hk ⟨D1, P1⟩ ?turn ?done
  case hl => exact fun c => .tail _ (.head _)
  case hk => exact List.forall_mem_nil _
  case turn =>
    rintro ⟨o2, kvs2⟩ i v u h2 tk2 own hv hoff ⟨D2, P2⟩ F2 N2
    obtain ⟨y, t, rfl, hy⟩ := hx.item i v hv
    delta lsIn at F2
    dsimp only [kstB] at F2
    simp only [List.cons_append] at N2
    have hlen := tallyS_len (xs.take i)
    have hlen2 : (xs.take i).length ≤ xs.length := by rw [List.length_take]; omega
    dsimp only at D2 P2 N2 hoff
    have hU := offAll l1 hoff
    k_steps
    rename (News _ _ _ _) => N3
    rename (Fr _ _ _ _) => F3
    rename (Obj.IsDictOf (PySem.strKind _ _) _ _) => D3
    rename (FlatPairs PyData.str _ _) => P3
    have hs : xs.take (i + 1) = xs.take i ++ [y] := by simp [List.take_add_one, hy]
    try dsimp only at N3
    refine ls_end (_, _) F3 N3 ?hn ?ho ?ha ?hk ?hr ⟨D3, ?hp⟩
    case hn => kst_in
    case ho => intro p hp; kst_mem
    case ha => exact hoff
    case hk => exact List.forall_mem_nil _
    case hr => kst_same
    case hp => rw [hs, tallyS_snoc]; exact P3
  case done =>
    rintro ⟨o2, kvs2⟩ u h2 tk2 ⟨D2, P2⟩ F2 N2
    k_steps
    rename (Fr _ _ _ _) => F3
    rename (News _ _ _ _) => N3
    have e : xs.take vs.length = xs := List.take_of_length_le (Nat.le_of_eq hx.length.symm)
    rw [e] at P2
    exact hret _ _ _ _ _ F3 N3 (List.forall_mem_cons.mpr ⟨l1.1, allLt_mem l1.2⟩) lo1 D2 P2
end Mine
end
section
open PySem PySem.W PyProof.Rows PySem.Spec PySem.Calls PyProof.V
set_option Elab.async false
set_option maxRecDepth 100000
set_option maxHeartbeats 8000000
namespace Mine
def ellGo (y : Str) (e : Int) : List Str → Int → Bool
  | [], _ => true
  | w :: r, p => if find4 y w p e < 0 then false else ellGo y e r (find4 y w p e + (w.length : Int))
def ellS (parts : List Str) (y : Str) : Bool := Txt.startswith y (Str.ofString "# ") && (decide (2 ≤ (y.length : Int)) && ellGo y (y.length : Int) parts 2)
theorem ell_drop {parts : List Str} {i : Nat} {p : Str} (h : parts[i]? = some p) : parts.drop i = p :: parts.drop (i + 1) := by
  obtain ⟨hi, e⟩ := List.getElem?_eq_some_iff.mp h
  rw [List.drop_eq_getElem_cons hi, e]
theorem ell_false {parts : List Str} {y p : Str} {i : Nat} {c : Int} (h : parts[i]? = some p) (hp : ellGo y (y.length : Int) parts 2 = ellGo y (y.length : Int) (parts.drop i) c) (hf : find4 y p c (y.length : Int) < 0) : false = ellS parts y := by
  unfold ellS
  rw [hp, ell_drop h]
  simp [ellGo, hf]
theorem ell_step {parts : List Str} {y p : Str} {i : Nat} {c : Int} (h : parts[i]? = some p) (hp : ellGo y (y.length : Int) parts 2 = ellGo y (y.length : Int) (parts.drop i) c) (hf : ¬ find4 y p c (y.length : Int) < 0) :
    ellGo y (y.length : Int) parts 2 = ellGo y (y.length : Int) (parts.drop (i + 1)) (find4 y p c (y.length : Int) + (p.length : Int)) := by
  rw [hp, ell_drop h]
  simp [ellGo, hf]
theorem ell_done {parts : List Str} {y : Str} {n : Nat} {c : Int} (hn : parts.length = n) (hs : Txt.startswith y (Str.ofString "# ") = true) (h2 : ¬ ((y.length : Nat) : Int) < ((2 : Nat) : Int)) (hp : ellGo y (y.length : Int) parts 2 = ellGo y (y.length : Int) (parts.drop n) c) : true = ellS parts y := by
  unfold ellS
  rw [hs, hp, ← hn, List.drop_length]
  have h3 : (2 : Int) ≤ (y.length : Int) := by omega
  simp [ellGo, h3]
theorem ell_no {parts : List Str} {y : Str} (hs : Txt.startswith y (Str.ofString "# ") = false) : false = ellS parts y := by
  unfold ellS
  rw [hs]; rfl
theorem ell_no2 {parts : List Str} {y : Str} (h2 : ((y.length : Nat) : Int) < ((2 : Nat) : Int)) : false = ellS parts y := by
  unfold ellS
  have h3 : ¬ (2 : Int) ≤ (y.length : Int) := by omega
  simp [h3]
theorem ell_len {parts : List Str} {i : Nat} {p : Str} (h : ∀ q ∈ parts, q.length ≤ 100) (e : parts[i]? = some p) : p.length ≤ 100 := h _ (List.mem_of_getElem? e)
local macro_rules | `(tactic| walk_at "call builtin:str.find") => `(tactic| (refine call_find4 ?_))
local macro_rules | `(tactic| walk_at "exec For Name Name cons nil") => `(tactic| (k_here; (rename Fr _ _ _ _ => lF'); (with_unfolding_all refine' For_invVF lF' ?k1 ?k2 ?_; (case k1 => exact rfl); (case k2 => exact rfl); k_whole)))
local macro_rules | `(tactic| walk_at "call builtin:str.split") => `(tactic| (k_here; (rename Txt.split _ _ = _ => hs9); k_dflt (refine KSpl.split1 (by k_asm) (by k_asm) (by decide) ?_ (by rw [sizeLine_eq]; omega)); intro D' l' h' k' e' a' F' N' l1; (try k_lt l1); (rw [hs9] at e'); (kspl_open e'); (simp only [strValues, List.map_cons, List.map_nil] at N' a')))
theorem c_ell0 (w : World) (mean : ExcName → Option Value) (mg mb : Str → Option Value) (news : List (Addr × Obj)) (x y : Str) (t t2 : Tok)
   (hx : x.length ≤ 100) (hs : Txt.split x (Str.ofString "...") = Str.ofString "# " :: [Str.ofString ""]) (hin : (Builtin.Str.occurrences x (Str.ofString "...") 0 x.length 1).isEmpty = false) :
   CbClaim PySem.Challenge.rw_rl0002_01.row.toRowW.prog w (hd.heap_39 w.params) hd.view_39 (looseW hd.view_39 []) mean mg mb 21 news [] (y.length ≤ 100) [.str x t, .str y t2] (fun _ => .bool (ellS [Str.ofString ""] y)) := by
  k_fill
  w_on
  dsimp only [CbClaim, CbLists, CbRet]; intros; rename_i hret
  refine wpAny_call ?_
  k_dflt cell_enter
  k_steps
  all_goals try (
    refine cb_retB hret ?e1 ?e2 ?e3
    (case e1 => first | exact ell_no (by assumption) | exact ell_no2 (by assumption))
    (case e2 => k_asm)
    (case e3 => first | k_asm | (refine' cb_drop ?cbN ?cbS; (case cbN => assumption); (case cbS => kcj_all))))
  rename (News _ _ _ _) => N1
  rename (Fr _ _ _ _) => F1
  rename (StrsAre _ _) => A1
  rename (Txt.startswith _ _ = true) => hsw
  rename (¬ (_ : Int) < _) => hlt
  obtain ⟨_, _, qe, A2⟩ := StrsAre.cons_inv A1
  rw [← (List.cons.inj qe).2] at A2
  dsimp only at N1 F1 ⊢
  refine ls_list (σ := Int × Tok) (fun _ => _) (fun c => [(Str.ofString "startpos", .int c.1 c.2)]) [] (fun i c => ellGo y (y.length : Int) [Str.ofString ""] 2 = ellGo y (y.length : Int) (List.drop i [Str.ofString ""]) c.1) (2, ?tk0) rfl (fun _ => .tail _ (.head _)) F1 N1 ?hk rfl ?turn ?done
  case hk => (refine List.forall_mem_cons.mpr ⟨?_, List.forall_mem_nil _⟩; with_unfolding_all rfl)
  case turn =>
    rintro ⟨c, ct⟩ i v u h2 tk2 own hv hoff hp F2 N2
    obtain ⟨p, t, rfl, hy⟩ := A2.item i v hv
    have hpl : p.length ≤ 100 := ell_len (by simp only [List.forall_mem_cons]; exact ⟨Nat.le_of_ble_eq_true rfl, List.forall_mem_nil _⟩) hy
    delta lsIn at F2
    dsimp only [kstB] at F2 hp
    simp only [List.cons_append] at N2
    k_steps
    · refine cb_retB hret ?e1 ?e2 ?e3
      (case e1 => exact ell_false hy hp (by assumption))
      (case e2 => k_asm)
      (case e3 => first | k_asm | (refine' cb_drop ?cbN ?cbS; (case cbN => assumption); (case cbS => kcj_all)))
    · rename (News _ _ _ _) => N3
      rename (Fr _ _ _ _) => F3
      refine ls_end (_, ?tk1) F3 N3 ?hn ?ho hoff ?hk ?hr (ell_step hy hp (by assumption))
      case hn => kst_in
      case ho => intro p hp; kst_mem
      case hk => (refine List.forall_mem_cons.mpr ⟨?_, List.forall_mem_nil _⟩; with_unfolding_all rfl)
      case hr => kst_same
  case done =>
    rintro ⟨c, ct⟩ u h2 tk2 hp F2 N2
    k_steps
    refine cb_retB hret ?e1 ?e2 ?e3
    (case e1 => exact ell_done (hn := by rfl) hsw hlt hp)
    (case e2 => k_asm)
    (case e3 => first | k_asm | (refine' cb_drop ?cbN ?cbS; (case cbN => assumption); (case cbS => kcj_all)))
theorem c_ell1 (w : World) (mean : ExcName → Option Value) (mg mb : Str → Option Value) (news : List (Addr × Obj)) (la : Nat) (x y : Str) (t t2 : Tok)
   (hx : x.length ≤ 100) (hs : Txt.split x (Str.ofString "...") = Str.ofString "# " :: [⟨#[la]⟩, Str.ofString ""]) (hin : (Builtin.Str.occurrences x (Str.ofString "...") 0 x.length 1).isEmpty = false) :
   CbClaim PySem.Challenge.rw_rl0002_01.row.toRowW.prog w (hd.heap_39 w.params) hd.view_39 (looseW hd.view_39 []) mean mg mb 21 news [] (y.length ≤ 100) [.str x t, .str y t2] (fun _ => .bool (ellS [⟨#[la]⟩, Str.ofString ""] y)) := by
  k_fill
  w_on
  dsimp only [CbClaim, CbLists, CbRet]; intros; rename_i hret
  refine wpAny_call ?_
  k_dflt cell_enter
  k_steps
  all_goals try (
    refine cb_retB hret ?e1 ?e2 ?e3
    (case e1 => first | exact ell_no (by assumption) | exact ell_no2 (by assumption))
    (case e2 => k_asm)
    (case e3 => first | k_asm | (refine' cb_drop ?cbN ?cbS; (case cbN => assumption); (case cbS => kcj_all))))
  rename (News _ _ _ _) => N1
  rename (Fr _ _ _ _) => F1
  rename (StrsAre _ _) => A1
  rename (Txt.startswith _ _ = true) => hsw
  rename (¬ (_ : Int) < _) => hlt
  obtain ⟨_, _, qe, A2⟩ := StrsAre.cons_inv A1
  rw [← (List.cons.inj qe).2] at A2
  dsimp only at N1 F1 ⊢
  refine ls_list (σ := Int × Tok) (fun _ => _) (fun c => [(Str.ofString "startpos", .int c.1 c.2)]) [] (fun i c => ellGo y (y.length : Int) [⟨#[la]⟩, Str.ofString ""] 2 = ellGo y (y.length : Int) (List.drop i [⟨#[la]⟩, Str.ofString ""]) c.1) (2, ?tk0) rfl (fun _ => .tail _ (.head _)) F1 N1 ?hk rfl ?turn ?done
  case hk => (refine List.forall_mem_cons.mpr ⟨?_, List.forall_mem_nil _⟩; with_unfolding_all rfl)
  case turn =>
    rintro ⟨c, ct⟩ i v u h2 tk2 own hv hoff hp F2 N2
    obtain ⟨p, t, rfl, hy⟩ := A2.item i v hv
    have hpl : p.length ≤ 100 := ell_len (by simp only [List.forall_mem_cons]; exact ⟨Nat.le_of_ble_eq_true rfl, Nat.le_of_ble_eq_true rfl, List.forall_mem_nil _⟩) hy
    delta lsIn at F2
    dsimp only [kstB] at F2 hp
    simp only [List.cons_append] at N2
    k_steps
    · refine cb_retB hret ?e1 ?e2 ?e3
      (case e1 => exact ell_false hy hp (by assumption))
      (case e2 => k_asm)
      (case e3 => first | k_asm | (refine' cb_drop ?cbN ?cbS; (case cbN => assumption); (case cbS => kcj_all)))
    · rename (News _ _ _ _) => N3
      rename (Fr _ _ _ _) => F3
      refine ls_end (_, ?tk1) F3 N3 ?hn ?ho hoff ?hk ?hr (ell_step hy hp (by assumption))
      case hn => kst_in
      case ho => intro p hp; kst_mem
      case hk => (refine List.forall_mem_cons.mpr ⟨?_, List.forall_mem_nil _⟩; with_unfolding_all rfl)
      case hr => kst_same
  case done =>
    rintro ⟨c, ct⟩ u h2 tk2 hp F2 N2
    k_steps
    refine cb_retB hret ?e1 ?e2 ?e3
    (case e1 => exact ell_done (hn := by rfl) hsw hlt hp)
    (case e2 => k_asm)
    (case e3 => first | k_asm | (refine' cb_drop ?cbN ?cbS; (case cbN => assumption); (case cbS => kcj_all)))
theorem c_ell2 (w : World) (mean : ExcName → Option Value) (mg mb : Str → Option Value) (news : List (Addr × Obj)) (la : Nat) (lb : Nat) (x y : Str) (t t2 : Tok)
   (hx : x.length ≤ 100) (hs : Txt.split x (Str.ofString "...") = Str.ofString "# " :: [⟨#[la]⟩, ⟨#[lb]⟩, Str.ofString ""]) (hin : (Builtin.Str.occurrences x (Str.ofString "...") 0 x.length 1).isEmpty = false) :
   CbClaim PySem.Challenge.rw_rl0002_01.row.toRowW.prog w (hd.heap_39 w.params) hd.view_39 (looseW hd.view_39 []) mean mg mb 21 news [] (y.length ≤ 100) [.str x t, .str y t2] (fun _ => .bool (ellS [⟨#[la]⟩, ⟨#[lb]⟩, Str.ofString ""] y)) := by
  k_fill
  w_on
  dsimp only [CbClaim, CbLists, CbRet]; intros; rename_i hret
  refine wpAny_call ?_
  k_dflt cell_enter
  k_steps
  all_goals try (
    refine cb_retB hret ?e1 ?e2 ?e3
    (case e1 => first | exact ell_no (by assumption) | exact ell_no2 (by assumption))
    (case e2 => k_asm)
    (case e3 => first | k_asm | (refine' cb_drop ?cbN ?cbS; (case cbN => assumption); (case cbS => kcj_all))))
  rename (News _ _ _ _) => N1
  rename (Fr _ _ _ _) => F1
  rename (StrsAre _ _) => A1
  rename (Txt.startswith _ _ = true) => hsw
  rename (¬ (_ : Int) < _) => hlt
  obtain ⟨_, _, qe, A2⟩ := StrsAre.cons_inv A1
  rw [← (List.cons.inj qe).2] at A2
  dsimp only at N1 F1 ⊢
  refine ls_list (σ := Int × Tok) (fun _ => _) (fun c => [(Str.ofString "startpos", .int c.1 c.2)]) [] (fun i c => ellGo y (y.length : Int) [⟨#[la]⟩, ⟨#[lb]⟩, Str.ofString ""] 2 = ellGo y (y.length : Int) (List.drop i [⟨#[la]⟩, ⟨#[lb]⟩, Str.ofString ""]) c.1) (2, ?tk0) rfl (fun _ => .tail _ (.head _)) F1 N1 ?hk rfl ?turn ?done
  case hk => (refine List.forall_mem_cons.mpr ⟨?_, List.forall_mem_nil _⟩; with_unfolding_all rfl)
  case turn =>
    rintro ⟨c, ct⟩ i v u h2 tk2 own hv hoff hp F2 N2
    obtain ⟨p, t, rfl, hy⟩ := A2.item i v hv
    have hpl : p.length ≤ 100 := ell_len (by simp only [List.forall_mem_cons]; exact ⟨Nat.le_of_ble_eq_true rfl, Nat.le_of_ble_eq_true rfl, Nat.le_of_ble_eq_true rfl, List.forall_mem_nil _⟩) hy
    delta lsIn at F2
    dsimp only [kstB] at F2 hp
    simp only [List.cons_append] at N2
    k_steps
    · refine cb_retB hret ?e1 ?e2 ?e3
      (case e1 => exact ell_false hy hp (by assumption))
      (case e2 => k_asm)
      (case e3 => first | k_asm | (refine' cb_drop ?cbN ?cbS; (case cbN => assumption); (case cbS => kcj_all)))
    · rename (News _ _ _ _) => N3
      rename (Fr _ _ _ _) => F3
      refine ls_end (_, ?tk1) F3 N3 ?hn ?ho hoff ?hk ?hr (ell_step hy hp (by assumption))
      case hn => kst_in
      case ho => intro p hp; kst_mem
      case hk => (refine List.forall_mem_cons.mpr ⟨?_, List.forall_mem_nil _⟩; with_unfolding_all rfl)
      case hr => kst_same
  case done =>
    rintro ⟨c, ct⟩ u h2 tk2 hp F2 N2
    k_steps
    refine cb_retB hret ?e1 ?e2 ?e3
    (case e1 => exact ell_done (hn := by rfl) hsw hlt hp)
    (case e2 => k_asm)
    (case e3 => first | k_asm | (refine' cb_drop ?cbN ?cbS; (case cbN => assumption); (case cbS => kcj_all)))
theorem c_ell3 (w : World) (mean : ExcName → Option Value) (mg mb : Str → Option Value) (news : List (Addr × Obj)) (la : Nat) (lb : Nat) (lc : Nat) (x y : Str) (t t2 : Tok)
   (hx : x.length ≤ 100) (hs : Txt.split x (Str.ofString "...") = Str.ofString "# " :: [⟨#[la]⟩, ⟨#[lb]⟩, ⟨#[lc]⟩, Str.ofString ""]) (hin : (Builtin.Str.occurrences x (Str.ofString "...") 0 x.length 1).isEmpty = false) :
   CbClaim PySem.Challenge.rw_rl0002_01.row.toRowW.prog w (hd.heap_39 w.params) hd.view_39 (looseW hd.view_39 []) mean mg mb 21 news [] (y.length ≤ 100) [.str x t, .str y t2] (fun _ => .bool (ellS [⟨#[la]⟩, ⟨#[lb]⟩, ⟨#[lc]⟩, Str.ofString ""] y)) := by
  k_fill
  w_on
  dsimp only [CbClaim, CbLists, CbRet]; intros; rename_i hret
  refine wpAny_call ?_
  k_dflt cell_enter
  k_steps
  all_goals try (
    refine cb_retB hret ?e1 ?e2 ?e3
    (case e1 => first | exact ell_no (by assumption) | exact ell_no2 (by assumption))
    (case e2 => k_asm)
    (case e3 => first | k_asm | (refine' cb_drop ?cbN ?cbS; (case cbN => assumption); (case cbS => kcj_all))))
  rename (News _ _ _ _) => N1
  rename (Fr _ _ _ _) => F1
  rename (StrsAre _ _) => A1
  rename (Txt.startswith _ _ = true) => hsw
  rename (¬ (_ : Int) < _) => hlt
  obtain ⟨_, _, qe, A2⟩ := StrsAre.cons_inv A1
  rw [← (List.cons.inj qe).2] at A2
  dsimp only at N1 F1 ⊢
  refine ls_list (σ := Int × Tok) (fun _ => _) (fun c => [(Str.ofString "startpos", .int c.1 c.2)]) [] (fun i c => ellGo y (y.length : Int) [⟨#[la]⟩, ⟨#[lb]⟩, ⟨#[lc]⟩, Str.ofString ""] 2 = ellGo y (y.length : Int) (List.drop i [⟨#[la]⟩, ⟨#[lb]⟩, ⟨#[lc]⟩, Str.ofString ""]) c.1) (2, ?tk0) rfl (fun _ => .tail _ (.head _)) F1 N1 ?hk rfl ?turn ?done
  case hk => (refine List.forall_mem_cons.mpr ⟨?_, List.forall_mem_nil _⟩; with_unfolding_all rfl)
  case turn =>
    rintro ⟨c, ct⟩ i v u h2 tk2 own hv hoff hp F2 N2
    obtain ⟨p, t, rfl, hy⟩ := A2.item i v hv
    have hpl : p.length ≤ 100 := ell_len (by simp only [List.forall_mem_cons]; exact ⟨Nat.le_of_ble_eq_true rfl, Nat.le_of_ble_eq_true rfl, Nat.le_of_ble_eq_true rfl, Nat.le_of_ble_eq_true rfl, List.forall_mem_nil _⟩) hy
    delta lsIn at F2
    dsimp only [kstB] at F2 hp
    simp only [List.cons_append] at N2
    k_steps
    · refine cb_retB hret ?e1 ?e2 ?e3
      (case e1 => exact ell_false hy hp (by assumption))
      (case e2 => k_asm)
      (case e3 => first | k_asm | (refine' cb_drop ?cbN ?cbS; (case cbN => assumption); (case cbS => kcj_all)))
    · rename (News _ _ _ _) => N3
      rename (Fr _ _ _ _) => F3
      refine ls_end (_, ?tk1) F3 N3 ?hn ?ho hoff ?hk ?hr (ell_step hy hp (by assumption))
      case hn => kst_in
      case ho => intro p hp; kst_mem
      case hk => (refine List.forall_mem_cons.mpr ⟨?_, List.forall_mem_nil _⟩; with_unfolding_all rfl)
      case hr => kst_same
  case done =>
    rintro ⟨c, ct⟩ u h2 tk2 hp F2 N2
    k_steps
    refine cb_retB hret ?e1 ?e2 ?e3
    (case e1 => exact ell_done (hn := by rfl) hsw hlt hp)
    (case e2 => k_asm)
    (case e3 => first | k_asm | (refine' cb_drop ?cbN ?cbS; (case cbN => assumption); (case cbS => kcj_all)))
end Mine
end
section
open PySem PySem.W PyProof.Rows PySem.Spec PySem.Calls
set_option Elab.async false
set_option maxRecDepth 100000
set_option maxHeartbeats 4000000
namespace Mine
abbrev e2 (elt t0 i0 t1 i1 : Expr) (scope : Scope) (pos : Pos) : Expr := .ListComp elt [⟨t0, i0, [], 0⟩, ⟨t1, i1, [], 0⟩] scope pos
theorem turn2_0 (elt t0 i0 t1 i1 : Expr) (scope : Scope) (pos : Pos) (it acc : Value) (env : Env) :
    compTurn (e2 elt t0 i0 t1 i1 scope pos) 0 it acc env = (standAt i0.pos >>= fun _ => pyNext it >>= fun r => match r with
      | none => pure (.done .next)
      | some v => letOwnedTupleGo t0 it v >>= fun _ => assign t0 env v >>= fun _ =>
        eval i1 env >>= fun x => standAt i1.pos >>= fun _ => foldedSetIterable i1 env x >>= fun x => holding [x] (pyIter x) >>= fun it1 => runOwn (.compStart (e2 elt t0 i0 t1 i1 scope pos) 1 it1 acc env) env >>= fun _ =>
          again (.compLoop (e2 elt t0 i0 t1 i1 scope pos) 0 it acc env)) := by rfl
theorem turn2_1 (elt t0 i0 t1 i1 : Expr) (scope : Scope) (pos : Pos) (it acc : Value) (env : Env) :
    compTurn (e2 elt t0 i0 t1 i1 scope pos) 1 it acc env = (standAt i1.pos >>= fun _ => pyNext it >>= fun r => match r with
      | none => pure (.done .next)
      | some v => letOwnedTupleGo t1 it v >>= fun _ => assign t1 env v >>= fun _ =>
        (eval elt env >>= fun x => call (.builtin "list.append") [acc, x] >>= fun _ => pure ()) >>= fun _ =>
          again (.compLoop (e2 elt t0 i0 t1 i1 scope pos) 1 it acc env)) := by rfl
section
variable {prog : Program} {w : World} {A : Around} {E : Value → Shared → Prop} {R : Result → Shared → Prop} {s : Shared} {env : Env}
theorem start2_1 {elt t0 i0 t1 i1 : Expr} {scope : Scope} {pos : Pos} {it acc : Value}
    (h0 : codeAny (model prog w) A (.compLoop (e2 elt t0 i0 t1 i1 scope pos) 1 it acc env) R s)
    (h : ∀ E' : Value → Shared → Prop, wpAny (model prog w) A (pyIter it) (fun it' s' => codeAny (model prog w) A (.compLoop (e2 elt t0 i0 t1 i1 scope pos) 1 it' acc env) R s') E' s) :
    codeAny (model prog w) A (.compStart (e2 elt t0 i0 t1 i1 scope pos) 1 it acc env) R s := by
  refine codeAny_of_tree ?_
  show wpAny _ _ ((compStart (e2 elt t0 i0 t1 i1 scope pos) 1 it acc env).onRaise (fun x => do noteFrame x env; standAt theWindowsPlace)) _ _ s
  refine wpAny_notedAt ?_
  unfold compStart
  show wpAny _ _ (ask >>= _) _ _ s
  refine wpAny_bind (wpAny_askSetting (wpAny_ite ?_))
  split
  · first
      | exact wpAny_bind (wpAny_pure (wpAny_pure (And.intro rfl h0)))
      | exact wpAny_pure (And.intro rfl h0)
  · first
      | exact wpAny_bind (wpAny_rule (wpAny_bind (wpAny_standAt (wpAny_bind (wpAny_mono (h _) (fun it' s' h' => wpAny_pure (And.intro rfl h')) fun _ _ x => x)))))
      | (refine wpAny_bind (wpAny_rule ?_); show wpAny _ _ (standAt i1.pos >>= _) _ _ s; exact wpAny_bind (wpAny_standAt (wpAny_bind (wpAny_mono (h _) (fun it' s' h' => wpAny_pure (And.intro rfl h')) fun _ _ x => x))))
theorem loop2_1 {elt t0 i0 t1 i1 : Expr} {scope : Scope} {pos : Pos} {it acc : Value} (I : Nat → Shared → Prop)
    (turn : ∀ n s (E' : Value → Shared → Prop), I n s → wpAny (model prog w) A (pyNext it) (fun r s₁ => match r with
      | none => R (.ok .next) s₁
      | some v => wpAny (model prog w) A (assign t1 env v) (fun _ s₂ => wpAny (model prog w) A (eval elt env) (fun x s₃ =>
          wpAny (model prog w) A (call (.builtin "list.append") [acc, x]) (fun _ s₄ => ∃ m, m < n ∧ I m s₄) E' s₃) E' s₂) E' s₁) E' s)
    (n : Nat) (h : I n s) (ht : ∀ v, letOwnedTupleGo t1 it v = pure () := by intro _; rfl) :
    codeAny (model prog w) A (.compLoop (e2 elt t0 i0 t1 i1 scope pos) 1 it acc env) R s := by
  refine codeAny_loop rfl I (fun n s hI => ?_) n h
  show wpAny _ A ((compTurn (e2 elt t0 i0 t1 i1 scope pos) 1 it acc env).onRaise (fun x => do noteFrame x env; theTreesLotGoes x)) _ _ s
  refine wpAny_noted ?_
  rw [turn2_1]
  refine wpAny_bind (wpAny_standAt (wpAny_bind (wpAny_mono (turn n s _ hI) (fun r s₁ h₁ => ?_) fun _ _ h' => h')))
  cases r with
  | none => exact wpAny_pure h₁
  | some v =>
    refine wpAny_bind (wpAny_of_eq (ht v) ?_)
    exact wpAny_bind (wpAny_mono h₁ (fun _ s₂ h₂ => wpAny_bind (wpAny_bind (wpAny_mono h₂ (fun x s₃ h₃ => wpAny_bind (wpAny_mono h₃
      (fun _ s₄ h₄ => wpAny_pure (wpAny_pure ⟨rfl, h₄⟩)) fun _ _ h' => h')) fun _ _ h' => h'))) fun _ _ h' => h')
theorem loop2_0 {elt t0 i0 t1 i1 : Expr} {scope : Scope} {pos : Pos} {it acc : Value} (I : Nat → Shared → Prop)
    (turn : ∀ n s (E' : Value → Shared → Prop), I n s → wpAny (model prog w) A (pyNext it) (fun r s₁ => match r with
      | none => R (.ok .next) s₁
      | some v => wpAny (model prog w) A (assign t0 env v) (fun _ s₂ => wpAny (model prog w) A (eval i1 env) (fun x s₃ =>
          wpAny (model prog w) A (pyIter x) (fun it1 s₄ => ∀ E'' : Value → Shared → Prop, codeAny (model prog w) A (.compStart (e2 elt t0 i0 t1 i1 scope pos) 1 it1 acc env) (fun r s₅ => match r with | .ok _ => ∃ m, m < n ∧ I m s₅ | .error e => E'' e s₅) s₄) E' s₃) E' s₂) E' s₁) E' s)
    (n : Nat) (h : I n s) (ht : ∀ v, letOwnedTupleGo t0 it v = pure () := by intro _; rfl) (hs : ∀ x, foldedSetIterable i1 env x = pure x := by intro _; rfl) :
    codeAny (model prog w) A (.compLoop (e2 elt t0 i0 t1 i1 scope pos) 0 it acc env) R s := by
  refine codeAny_loop rfl I (fun n s hI => ?_) n h
  show wpAny _ A ((compTurn (e2 elt t0 i0 t1 i1 scope pos) 0 it acc env).onRaise (fun x => do noteFrame x env; theTreesLotGoes x)) _ _ s
  refine wpAny_noted ?_
  rw [turn2_0]
  refine wpAny_bind (wpAny_standAt (wpAny_bind (wpAny_mono (turn n s _ hI) (fun r s₁ h₁ => ?_) fun _ _ h' => h')))
  cases r with
  | none => exact wpAny_pure h₁
  | some v =>
    refine wpAny_bind (wpAny_of_eq (ht v) ?_)
    refine wpAny_bind (wpAny_mono h₁ (fun _ s₂ h₂ => ?_) fun _ _ h' => h')
    refine wpAny_bind (wpAny_mono h₂ (fun x s₃ h₃ => ?_) fun _ _ h' => h')
    refine wpAny_bind (wpAny_standAt ?_)
    refine wpAny_bind (wpAny_of_eq (hs x) ?_)
    refine wpAny_bind (wpAny_holding ?_)
    refine wpAny_mono h₃ (fun it1 s₄ h₄ => ?_) fun _ _ h' => h'
    refine wpAny_bind (wpAny_runOwn (h := none) ?_)
    refine codeAny_mono (h₄ (cameBackBy (model prog w) A env (notedBy (model prog w) A env fun e s' => R (Except.error e) s'))) (fun r s₅ h₅ => ?_)
    cases r with
    | ok f => exact wpAny_pure ⟨rfl, h₅⟩
    | error e => exact h₅
end
end Mine
end
section
open PySem PySem.W PyProof.Rows PySem.Spec PySem.Calls
set_option Elab.async false
set_option maxRecDepth 100000
set_option maxHeartbeats 4000000
namespace Mine
def prodL (xs ys : List Str) : List Str := xs.flatMap fun x => ys.map fun y => x ++ y
theorem prodL_len (xs ys : List Str) : (prodL xs ys).length = xs.length * ys.length := by
  induction xs with
  | nil => simp [prodL]
  | cons x r ih =>
    have : prodL (x :: r) ys = (ys.map fun y => x ++ y) ++ prodL r ys := by simp [prodL]
    rw [this, List.length_append, List.length_map, ih, List.length_cons, Nat.succ_mul]; omega
theorem prodL_snoc (xs ys : List Str) (x : Str) : prodL (xs ++ [x]) ys = prodL xs ys ++ ys.map fun y => x ++ y := by simp [prodL]
theorem strsAre_snoc {vs : List Value} {ss : List Str} (h : StrsAre vs ss) (x : Str) (t : Tok) : StrsAre (vs ++ [.str x t]) (ss ++ [x]) := h.append' (.cons _ _ .nil)
section
variable {prog : Program} {w : World} {A : Around} {E : Value → Shared → Prop} {env : Env} {h₀ : Heap} {L : Addr} {m : Str → Option Value}
/-- what lay before the block keeps, but the outer walk's own object -/
def Kept (I : Addr) (g h : Heap) : Prop := ∀ b o, b ≠ I → g.get? b = some o → h.get? b = some o
theorem Kept.fr {I : Addr} {g h : Heap} (k : Kept I g h) (F : Fr h₀ L g m) (hIL : L ≠ I) (hI₀ : h₀.get? I = none) : Fr h₀ L h m :=
  ⟨F.ns.at' fun o e => k _ o hIL e, fun b o e => k b o (fun q => by rw [q, hI₀] at e; cases e) (F.keep b o e), F.above⟩
theorem Kept.news {I : Addr} {g h : Heap} {news : List (Addr × Obj)} (k : Kept I g h) (N : News h₀ L g news) (off : ∀ p ∈ news, p.1 ≠ I) : News h₀ L h news :=
  fun p hp => ⟨k _ _ (off p hp) (N p hp).1, (N p hp).2⟩
theorem block2 {x0 x1 : Str} {px0 px1 : Pos} {i0 i1 elt : Expr} {scope : Scope} {cl : List (Str × Addr)} {pos : Pos} {s₂ : Shared} {L I ax bx : Nat} {vs ws : List Value} {n1 n2 : Nat} {xs ys : List Str} {news : List (Addr × Obj)} {RR : Value → Addr → Result → Shared → Prop}
    (hh : A.handled = none) (hcell : ∀ y ∈ scope.names, y.2 ≠ .cell) (hkind : scope.kind = .function) (hx0 : scope.names.lookup x0 = some .local) (hx1 : scope.names.lookup x1 = some .local) (hx01 : x0 ≠ x1)
    (F : Fr h₀ L s₂.heap m) (N : News h₀ L s₂.heap news) (hIL : L ≠ I) (hI₀ : h₀.get? I = none) (off : ∀ p ∈ news, p.1 ≠ I) (hit : s₂.heap.IsListIter I ax 0)
    (hax : (ax, listOf vs.toArray n1) ∈ news) (hbx : (bx, listOf ws.toArray n2) ∈ news) (hv : StrsAre vs xs) (hw : StrsAre ws ys) (hsz : xs.length * ys.length + ys.length ≤ 100000)
    (hi1 : ∀ C oC m₂ h tk (E' : Value → Shared → Prop), LCg.NsObj oC m₂ → Fr h₀ L h m → News h₀ L h ((C, oC) :: news) →
      wpAny (model prog w) A (eval i1 (compEnvC scope cl C env)) (fun x s' => x = .ref bx ∧ ∃ tk', s' = { s₂ with heap := h, toks := tk' }) E' { s₂ with heap := h, toks := tk })
    (helt : ∀ C oC m₂ h tk (E' : Value → Shared → Prop) x t y u, x ∈ xs → y ∈ ys → LCg.NsObj oC m₂ → m₂ x0 = some (.str x t) → m₂ x1 = some (.str y u) → Fr h₀ L h m → News h₀ L h ((C, oC) :: news) →
      wpAny (model prog w) A (eval elt (compEnvC scope cl C env)) (fun z s' => (∃ t', z = .str (x ++ y) t') ∧ ∃ tk', s' = { s₂ with heap := h, toks := tk' }) E' { s₂ with heap := h, toks := tk })
    (hs1 : ∀ C x, foldedSetIterable i1 (compEnvC scope cl C env) x = pure x)
    (hRR : ∀ D C h tk m' zs, Fr h₀ L h m → News h₀ L h ((D, LCg.lst zs) :: news) → (∀ p ∈ news, p.1 < D) → h.Ns C m' → h₀.get? C = none → C ≠ L → D ≠ L → C ≠ D → (∀ p ∈ news, p.1 ≠ C) → StrsAre zs (prodL xs ys) → RR (.ref D) C (.ok .next) { s₂ with heap := h, toks := tk }) :
    wpAny (model prog w) A (newList []) (fun acc s₃ => wpAny (model prog w) A (newFunctionEnv scope env.globals cl [] env.qual none .none (some env)) (fun cenv s₄ =>
      codeAny (model prog w) A (.compStart (e2 elt (.Name x0 px0) i0 (.Name x1 px1) i1 scope pos) 0 (.ref I) acc { cenv with scope := relabel scope env }) (RR acc cenv.locals) s₄) E s₃) E s₂ := by
  refine wpAny_newObj_type (wpAny_newFunctionEnv hcell (by intro y hy; simp at hy) (fun h₁ hns₁ hsb₁ => ?_) hkind)
  dsimp only at hns₁ hsb₁ ⊢
  generalize hH2 : s₂.heap.push { cls := .type "list", dict := none, data := .seq ([] : List Value).toArray } = H2 at hns₁ hsb₁ ⊢
  have hC : H2.objs.size = s₂.heap.objs.size + 1 := by rw [← hH2, Heap.size_push]
  generalize hCn : H2.objs.size = C at hns₁ hsb₁ hC ⊢
  generalize hDn : s₂.heap.objs.size = D at hC ⊢
  have hDC : D ≠ C := by omega
  have ltS : ∀ (h : Heap) (b : Nat) (o : Obj), h.get? b = some o → @LT.lt Nat _ b h.objs.size := fun h b o e => Heap.lt_size e
  have below : ∀ (b : Nat) o, s₂.heap.get? b = some o → @Ne Nat b C ∧ @Ne Nat b D := fun b o e => by have := ltS _ _ _ e; omega
  have hIlt : I < D := by obtain ⟨o, e, _⟩ := hit; have := ltS _ _ _ e; omega
  have old : ∀ b o, s₂.heap.get? b = some o → h₁.get? b = some o := fun b o e => hsb₁.extBut b o (below b o e).1 (Heap.get?_push_of_some _ (hH2 ▸ Heap.get?_push_of_some _ e))
  have hacc : h₁.get? D = some (LCg.lst []) := hsb₁.extBut _ _ hDC (Heap.get?_push_of_some _ (by rw [← hDn]; exact hH2 ▸ Heap.get?_push_size _ rfl))
  have fresh₀ : ∀ a : Nat, D ≤ a → h₀.get? a = none := fun a ha => by
    cases e : h₀.get? a with
    | none => rfl
    | some o' => have := ltS _ _ _ (F.keep a o' e); omega
  have hLlt : L < D := by have h9 : @LT.lt Nat _ L s₂.heap.objs.size := F.ns.lt; omega
  have hlen1 : vs.length = xs.length := hv.length
  have hlen2 : ws.length = ys.length := hw.length
  have loop : ∀ s₃ : Shared, s₃ = { s₂ with heap := h₁, toks := s₂.toks + ([] : List (Str × Value)).length } →
      codeAny (model prog w) A (.compLoop (e2 elt (.Name x0 px0) i0 (.Name x1 px1) i1 scope pos) 0 (.ref I) (.ref D) (compEnvC scope cl C env)) (RR (.ref D) C) s₃ := by
    rintro s₃ rfl
    have W := Walks.list (prog := prog) (w := w) hh I ax (fun q => off _ hax q) vs.toArray
    refine loop2_0 (hs := hs1 C)
      (fun k s' => ∃ h' tk i zs m', s' = { s₂ with heap := h', toks := tk } ∧ i ≤ vs.length ∧ k = vs.length + 1 - i ∧ Kept I s₂.heap h' ∧ h'.IsListIter I ax i ∧ h'.get? D = some (LCg.lst zs) ∧ h'.Ns C m' ∧ StrsAre zs (prodL (xs.take i) ys)) ?_ (vs.length + 1)
      ⟨h₁, _, 0, [], _, rfl, Nat.zero_le _, rfl, fun b o _ e => old b o e, hit.at fun o e => old _ o e, hacc, hns₁, .nil⟩
    rintro k s' E' ⟨h', tk, i, zs, m', rfl, hi, rfl, K', hit', hD', hn', hz⟩
    have hl' : h'.IsList ax vs.toArray := ⟨_, K' _ _ (off _ hax) (N _ hax).1, rfl, n1, rfl⟩
    have hst : h'.IsListIter I ax i ∧ h'.IsList ax vs.toArray := ⟨hit', hl'⟩
    by_cases hlt : i < vs.length
    · refine W.item i _ _ _ (by simpa using hlt) hst fun v h₂ tk₂ hPv hst₂ hk₂ => ?_
      have hPv' : vs[i]? = some v := by simpa using hPv
      obtain ⟨x, t, rfl, hx⟩ := hv.item i v hPv'
      have hxm : x ∈ xs := List.mem_of_getElem? hx
      have hCI : @Ne Nat C I := by omega
      have hDI : @Ne Nat D I := by omega
      refine wpAny_assign_Name (wpAny_storeName_local (lookup_relabel_local hx0) (hn'.at' fun o e => hk₂ _ o (by simpa using hCI) e) (fun h₃ hn₃ hs₃ => ?_) (by simp [compEnvC, relabel, hkind]))
      have K₃ : Kept I s₂.heap h₃ := fun b o hb e => hs₃.extBut b o (below b o e).1 (hk₂ b o (by simpa using hb) (K' b o hb e))
      have hit₃ : h₃.IsListIter I ax (i + 1) := hst₂.1.at fun o e => hs₃.extBut _ _ (Ne.symm hCI) e
      have hD₃ : h₃.get? D = some (LCg.lst zs) := hs₃.extBut _ _ hDC (hk₂ _ _ (by simpa using hDI) hD')
      obtain ⟨oC, heC, hoC⟩ := LCg.ns_obj hn₃
      have F₃ := K₃.fr F hIL hI₀
      have N₃ := K₃.news N off
      have hCL : @Ne Nat C L := by omega
      have NC : ∀ h oC, h.get? C = some oC → News h₀ L h news → News h₀ L h ((C, oC) :: news) := fun h oC e n => List.forall_mem_cons.mpr ⟨⟨e, hCL, fresh₀ _ (by omega)⟩, n⟩
      refine wpAny_mono (hi1 C oC _ h₃ _ _ hoC F₃ (NC _ _ heC N₃)) (fun xv s₄ h₄ => ?_) fun _ _ e => e
      obtain ⟨rfl, tk₄, rfl⟩ := h₄
      have hb₃ : h₃.IsList bx ws.toArray := ⟨_, (N₃ _ hbx).1, rfl, n2, rfl⟩
      refine wpAny_pyIter_list hb₃ ?_
      intro E''
      generalize hJn : h₃.objs.size = J
      have hCJ : C < J := hJn ▸ ltS _ _ _ heC
      have up : ∀ b o, h₃.get? b = some o → (h₃.push { cls := .type "list_iterator", data := .fields #[.ref bx, .int 0 0] }).get? b = some o := fun b o e => Heap.get?_push_of_some _ e
      have hJ₀ : (h₃.push { cls := .type "list_iterator", data := .fields #[.ref bx, .int 0 0] }).IsListIter J bx 0 := ⟨_, hJn ▸ Heap.get?_push_size _ rfl, rfl, rfl⟩
      have hbJ : @Ne Nat bx J := by have := ltS _ _ _ (N₃ _ hbx).1; omega
      have W2 := Walks.list (prog := prog) (w := w) hh J bx hbJ ws.toArray
      have hxi : xs.take (i + 1) = xs.take i ++ [x] := by simp [List.take_add_one, hx]
      have inner : ∀ s₅ : Shared, s₅ = { s₂ with heap := h₃.push { cls := .type "list_iterator", data := .fields #[.ref bx, .int 0 0] }, toks := tk₄ } →
          codeAny (model prog w) A (.compLoop (e2 elt (.Name x0 px0) i0 (.Name x1 px1) i1 scope pos) 1 (.ref J) (.ref D) (compEnvC scope cl C env))
            (fun r s₅ => match r with
              | .ok _ => ∃ k', k' < vs.length + 1 - i ∧ ∃ h' tk i zs m', s₅ = { s₂ with heap := h', toks := tk } ∧ i ≤ vs.length ∧ k' = vs.length + 1 - i ∧ Kept I s₂.heap h' ∧ h'.IsListIter I ax i ∧ h'.get? D = some (LCg.lst zs) ∧ h'.Ns C m' ∧ StrsAre zs (prodL (xs.take i) ys)
              | .error e => E'' e s₅) s₅ := by
        rintro s₅ rfl
        refine loop2_1
          (fun k s' => ∃ h' tk j zs' m', s' = { s₂ with heap := h', toks := tk } ∧ j ≤ ws.length ∧ k = ws.length + 1 - j ∧ Kept I s₂.heap h' ∧ h'.IsListIter I ax (i + 1) ∧ h'.IsListIter J bx j ∧ h'.get? D = some (LCg.lst zs') ∧ h'.Ns C m' ∧ m' x0 = some (.str x t) ∧
            StrsAre zs' (prodL (xs.take i) ys ++ (ys.take j).map fun y => x ++ y)) ?_ (ws.length + 1)
          ⟨_, _, 0, zs, _, rfl, Nat.zero_le _, rfl, fun b o hb e => up b o (K₃ b o hb e), hit₃.at fun o e => up _ o e, hJ₀, up _ _ hD₃, hn₃.at' fun o e => up _ o e, by simp, by simpa using hz⟩
        rintro k₁ s₁ E₁ ⟨h₅, tk₅, j, zs', m₅, rfl, hj, rfl, K₅, hit₅, hJ₅, hD₅, hn₅, hm₅, hz₅⟩
        have hb₅ : h₅.IsList bx ws.toArray := ⟨_, K₅ _ _ (off _ hbx) (N _ hbx).1, rfl, n2, rfl⟩
        by_cases hlj : j < ws.length
        · refine W2.item j _ _ _ (by simpa using hlj) ⟨hJ₅, hb₅⟩ fun v' h₆ tk₆ hPv₆ hst₆ hk₆ => ?_
          have hPw' : ws[j]? = some v' := by simpa using hPv₆
          obtain ⟨y, u, rfl, hy⟩ := hw.item j v' hPw'
          have hym : y ∈ ys := List.mem_of_getElem? hy
          have keepJ : ∀ b o, b ≠ J → h₅.get? b = some o → h₆.get? b = some o := fun b o hb e => hk₆ b o (by simpa using hb) e
          have hCJ' : @Ne Nat C J := by omega
          have hIJ : @Ne Nat I J := by omega
          have hDJ : @Ne Nat D J := by omega
          refine wpAny_assign_Name (wpAny_storeName_local (lookup_relabel_local hx1) (hn₅.at' fun o e => keepJ _ o hCJ' e) (fun h₇ hn₇ hs₇ => ?_) (by simp [compEnvC, relabel, hkind]))
          have keep7 : ∀ b o, b ≠ J → b ≠ C → h₅.get? b = some o → h₇.get? b = some o := fun b o hb hc e => hs₇.extBut b o hc (keepJ b o hb e)
          have K₇ : Kept I s₂.heap h₇ := fun b o hb e => keep7 b o (Nat.ne_of_lt (Nat.lt_trans (Nat.lt_of_lt_of_le (ltS _ _ _ e) (by omega)) hCJ)) (below b o e).1 (K₅ b o hb e)
          have hit₇ : h₇.IsListIter I ax (i + 1) := hit₅.at fun o e => keep7 _ o hIJ (Ne.symm hCI) e
          have hJ₇ : h₇.IsListIter J bx (j + 1) := hst₆.1.at fun o e => hs₇.extBut _ _ (Ne.symm hCJ') e
          have hD₇ : h₇.get? D = some (LCg.lst zs') := keep7 _ _ hDJ hDC hD₅
          obtain ⟨oC₇, heC₇, hoC₇⟩ := LCg.ns_obj hn₇
          have F₇ := K₇.fr F hIL hI₀
          have N₇ := K₇.news N off
          refine wpAny_mono (helt C oC₇ _ h₇ _ _ x t y u hxm hym hoC₇ (by simpa [hx01] using hm₅) (by simp) F₇ (NC _ _ heC₇ N₇)) (fun z s₈ h₈ => ?_) fun _ _ e => e
          obtain ⟨⟨t', rfl⟩, tk₈, rfl⟩ := h₈
          have hzl : zs'.length ≤ 100000 := by
            have e1 := hz₅.length
            rw [List.length_append, prodL_len, List.length_map, List.length_take, List.length_take] at e1
            have e2 : min i xs.length * ys.length ≤ xs.length * ys.length := Nat.mul_le_mul_right _ (Nat.min_le_right _ _)
            omega
          refine append_at (hsz := by show zs'.toArray.size ≤ sizeLine; rw [List.size_toArray, sizeLine_eq]; omega) hD₇ fun h₉ hs₉ hD₉ => ?_
          have hys : ys.take (j + 1) = ys.take j ++ [y] := by simp [List.take_add_one, hy]
          refine ⟨ws.length + 1 - (j + 1), by omega, h₉, tk₈, j + 1, zs' ++ [.str (x ++ y) t'], _, rfl, hlj, rfl, fun b o hb e => hs₉.extBut _ _ (below b o e).2 (K₇ b o hb e), hit₇.at fun o e => hs₉.extBut _ _ (Ne.symm hDI) e, hJ₇.at fun o e => hs₉.extBut _ _ (Ne.symm hDJ) e,
            hD₉.trans (congrArg some (LCg.lst_snoc zs' _)), hn₇.sameBut hs₉ (Ne.symm hDC), by simpa [hx01] using hm₅, ?_⟩
          rw [hys, List.map_append, ← List.append_assoc]
          exact strsAre_snoc hz₅ _ _
        · obtain rfl : j = ws.length := Nat.le_antisymm hj (Nat.not_lt.mp hlj)
          refine W2.done _ _ _ ⟨by simpa using hJ₅, hb₅⟩ fun h₆ tk₆ hk₆ => ?_
          have keepJ : ∀ b o, b ≠ J → h₅.get? b = some o → h₆.get? b = some o := fun b o hb e => hk₆ b o (by simpa using hb) e
          refine ⟨vs.length + 1 - (i + 1), by omega, h₆, tk₆, i + 1, zs', m₅, rfl, hlt, rfl, fun b o hb e => keepJ b o (Nat.ne_of_lt (Nat.lt_trans (Nat.lt_of_lt_of_le (ltS _ _ _ e) (by omega)) hCJ)) (K₅ b o hb e), hit₅.at fun o e => keepJ _ o (neN (by omega)) e, keepJ _ _ (neN (by omega)) hD₅, hn₅.at' fun o e => keepJ _ o (neN (by omega)) e, ?_⟩
          rw [hxi, prodL_snoc]
          have e1 : ys.take ws.length = ys := List.take_of_length_le (by omega)
          rw [e1] at hz₅
          exact hz₅
      exact start2_1 (inner _ rfl) (fun E₂ => W2.self 0 _ _ _ ⟨hJ₀, hb₃.push _⟩ (inner _ rfl))
    · obtain rfl : i = vs.length := Nat.le_antisymm hi (Nat.not_lt.mp hlt)
      refine W.done _ _ _ ⟨by simpa using hit', hl'⟩ fun h₂ tk₂ hk₂ => ?_
      have keepI : ∀ b o, b ≠ I → h'.get? b = some o → h₂.get? b = some o := fun b o hb e => hk₂ b o (by simpa using hb) e
      have K₂ : Kept I s₂.heap h₂ := fun b o hb e => keepI b o hb (K' b o hb e)
      have e1 : xs.take vs.length = xs := List.take_of_length_le (by omega)
      rw [e1] at hz
      refine hRR D C h₂ tk₂ m' zs (K₂.fr F hIL hI₀) (List.forall_mem_cons.mpr ⟨⟨keepI _ _ (neN (by omega)) hD', neN (by omega), fresh₀ _ (Nat.le_refl _)⟩, K₂.news N off⟩) (fun p hp => by have := ltS _ _ _ (N p hp).1; exact ltN (by omega))
        (hn'.at' fun o e => keepI _ o (neN (by omega)) e) (fresh₀ _ (by omega)) (neN (by omega)) (neN (by omega)) (neN (by omega)) (fun p hp => by have := ltS _ _ _ (N p hp).1; exact neN (by omega)) hz
  exact codeAny_compStart_list (loop _ rfl) (by
    have W := Walks.list (prog := prog) (w := w) hh I ax (fun q => off _ hax q) vs.toArray
    exact W.self 0 _ _ _ ⟨hit.at fun o e => old _ o e, (⟨_, old _ _ (N _ hax).1, rfl, n1, rfl⟩ : h₁.IsList ax vs.toArray)⟩ (loop _ rfl))
end
end Mine
end
section
open PySem PySem.W PyProof.Rows PySem.Spec PySem.Calls
set_option Elab.async false
set_option maxRecDepth 100000
set_option maxHeartbeats 4000000
namespace Mine
section
variable {prog : Program} {w : World} {A : Around} {E : Value → Shared → Prop} {s : Shared} {env : Env} {h₀ : Heap} {m : Str → Option Value}
theorem assign_comp2 {x0 x1 y : Str} {px0 px1 py : Pos} {i0 i1 elt : Expr} {scope : Scope} {cl : List (Str × Addr)} {pos spos : Pos} {ax bx : Nat} {vs ws : List Value} {n1 n2 : Nat} {xs ys : List Str} {news : List (Addr × Obj)} {Q : Flow → Shared → Prop}
    (hh : A.handled = none)
    (hsw : swapsWith (e2 elt (.Name x0 px0) i0 (.Name x1 px1) i1 scope pos) (some (.Name y py)) spos.line env = pure true)
    (hclos : closureFor scope env = pure cl) (hcell : ∀ z ∈ scope.names, z.2 ≠ .cell) (hkind : scope.kind = .function)
    (hnames : ∀ z ∈ scope.names, z.2 = .local → scope.names.lookup z.1 = some .local) (hx0 : scope.names.lookup x0 = some .local) (hx1 : scope.names.lookup x1 = some .local) (hx01 : x0 ≠ x1)
    (hy : env.kindOf y = some .local) (hp : (env.scope.kind == .class || (env.scope.kind == .module && env.locals != env.globals)) = false)
    (F : Fr h₀ env.locals s.heap m) (N : News h₀ env.locals s.heap news) (hax : (ax, listOf vs.toArray n1) ∈ news) (hbx : (bx, listOf ws.toArray n2) ∈ news) (hv : StrsAre vs xs) (hw : StrsAre ws ys) (hsz : xs.length * ys.length + ys.length ≤ 100000)
    (hi0 : wpAny (model prog w) A (eval i0 env) (fun xv s₁ => xv = .ref ax ∧ s₁ = s) E s)
    (hi1 : ∀ C oC m₂ h tk (s₂ : Shared) (E' : Value → Shared → Prop), LCg.NsObj oC m₂ → Fr h₀ env.locals h m → News h₀ env.locals h ((C, oC) :: news) →
      wpAny (model prog w) A (eval i1 (compEnvC scope cl C env)) (fun x s' => x = .ref bx ∧ ∃ tk', s' = { s₂ with heap := h, toks := tk' }) E' { s₂ with heap := h, toks := tk })
    (helt : ∀ C oC m₂ h tk (s₂ : Shared) (E' : Value → Shared → Prop) x t y u, x ∈ xs → y ∈ ys → LCg.NsObj oC m₂ → m₂ x0 = some (.str x t) → m₂ x1 = some (.str y u) → Fr h₀ env.locals h m → News h₀ env.locals h ((C, oC) :: news) →
      wpAny (model prog w) A (eval elt (compEnvC scope cl C env)) (fun z s' => (∃ t', z = .str (x ++ y) t') ∧ ∃ tk', s' = { s₂ with heap := h, toks := tk' }) E' { s₂ with heap := h, toks := tk })
    (hs0 : ∀ x, foldedSetIterable i0 env x = pure x)
    (hs1 : ∀ C x, foldedSetIterable i1 (compEnvC scope cl C env) x = pure x)
    (done : ∀ D h tk zs, Fr h₀ env.locals h (fun z => if z = y then some (.ref D) else m z) → News h₀ env.locals h ((D, LCg.lst zs) :: news) → (∀ p ∈ news, p.1 < D) → StrsAre zs (prodL xs ys) → Q .next { s with heap := h, toks := tk }) :
    wpAny (model prog w) A (exec (.Assign [.Name y py] (e2 elt (.Name x0 px0) i0 (.Name x1 px1) i1 scope pos) spos) env) Q E s := by
  rw [exec_Assign_Name_used _ _ _ _ hsw]
  refine wpAny_bind (wpAny_standAt (wpAny_bind ?_))
  show wpAny _ A (do let _ ← comprehension (e2 elt (.Name x0 px0) i0 (.Name x1 px1) i1 scope pos) scope env _ (newList []) false (eval i0 env) (some (assign (.Name y py) env))) _ _ s
  refine wpAny_bind (wpAny_mono (wpAny_comprehension_free (use := some (assign (.Name y py) env)) (Q := fun _ s' => Q .next s') rfl hs0 hclos hkind hnames
    (wpAny_mono hi0 (fun xv s₁ h₁ => ?_) fun _ _ e => e)) (fun _ s' hq => wpAny_pure (wpAny_pure hq)) fun _ _ e => e)
  obtain ⟨rfl, rfl⟩ := h₁
  have hl : s₁.heap.IsList ax vs.toArray := ⟨_, (N _ hax).1, rfl, n1, rfl⟩
  refine wpAny_pyIter_list hl ?_
  have up : ∀ b o, s₁.heap.get? b = some o → (s₁.heap.push { cls := .type "list_iterator", data := .fields #[.ref ax, .int 0 0] }).get? b = some o := fun b o e => Heap.get?_push_of_some _ e
  refine block2 hh hcell hkind hx0 hx1 hx01 (F.keeps up) (N.grown up) (Nat.ne_of_lt F.ns.lt) (next_is_new F) (fun p hp => Nat.ne_of_lt (Heap.lt_size (N p hp).1)) ⟨_, Heap.get?_push_size _ rfl, rfl, rfl⟩ hax hbx hv hw hsz
    (fun C oC m₂ h tk E' => hi1 C oC m₂ h tk _ E') (fun C oC m₂ h tk E' => helt C oC m₂ h tk _ E') hs1 ?_
  intro D C h' tk m' zs F' N' lt hn hC₀ hCL hDL hCD offC hz
  show wpAny _ A (assign (.Name y py) env (.ref D)) _ _ _
  refine wpAny_assign_Name (wpAny_storeName_local hy F'.ns (fun h₂ hn₂ hs₂ => ?_) hp)
  have hL₀ : h₀.get? env.locals = none := Heap.get?_none_of_le F'.above
  have F₂ : Fr h₀ env.locals h₂ (fun z => if z = y then some (.ref D) else m z) := ⟨hn₂, fun b o e => hs₂.extBut b o (fun q => by rw [q, hL₀] at e; cases e) (F'.keep b o e), F'.above⟩
  refine ⟨m', hn.sameBut hs₂ hCL, fun h'' hs'' => done D h'' _ zs (F₂.change hs'' hCL hC₀) (fun p hp => ?_) lt hz⟩
  have z : h₂.get? p.1 = some p.2 := hs₂.extBut _ _ (N' p hp).2.1 (N' p hp).1
  refine ⟨hs''.extBut _ _ ?_ z, (N' p hp).2⟩
  rcases List.mem_cons.mp hp with rfl | hp
  · exact Ne.symm hCD
  · exact offC p hp
end
end Mine
end
section
open PySem PySem.W PyProof.Rows PySem.Spec PySem.Calls PyProof.V
set_option Elab.async false
set_option maxRecDepth 100000
set_option maxHeartbeats 8000000
namespace Mine
def fnBody : Stmt → List Stmt
  | .FunctionDef _ _ b _ _ _ _ _ _ _ => b
  | _ => []
def fnScope : Stmt → Scope
  | .FunctionDef _ _ _ _ _ _ s _ _ _ => s
  | _ => { kind := .function, names := [], isGenerator := false, isCoroutine := false, more := [] }
def lawStmt : Stmt := (PySem.Challenge.pw_rl0002_01.main.body.drop 9).headD (.Pass ⟨0, 0, 0, 0⟩)
def lawBody : List Stmt := fnBody lawStmt
def lawScope : Scope := fnScope lawStmt
theorem lawBody_len : lawBody.length = 25 := by decide +kernel
theorem fr_canon {h₀ h : Heap} {L : Addr} {m' : Str → Option Value} {ps : List (Str × Value)} (F : Fr h₀ L h m') (hk : ∀ p ∈ ps, m' p.1 = some p.2) : Fr h₀ L h (kstB m' ps) := by
  have e : kstB m' ps = m' := funext fun z => kstB_eq hk fun _ => rfl
  rw [e]; exact F
section
variable {w : World} {mean : ExcName → Option Value} {mg mb : Str → Option Value} {news : List (Addr × Obj)} {dp un : Nat} {gd : Option (List Code)} {cn : Str} {cs : Scope} {a : Addr} {ccd : Value} {cl : List (Str × Addr)} {outer : List Env} {A₀ : Around} {base h₀ : Heap} {L : Addr} {m : Str → Option Value} {s : Shared} {Q E : Value → Shared → Prop}
theorem u_around {sp pl : Int} {t t2 : Tok} (B : Below A₀ base outer h₀) (F : Fr h₀ L s.heap m) (X : (hd.heap_39 w.params).In h₀) (N : News h₀ L s.heap news) (T : Top hd.view_39 (looseW hd.view_39 []) mean mg mb h₀) (hcs : cs.kind = .function)
    (pre : 0 ≤ sp ∧ sp ≤ 4 ∧ 1 ≤ pl ∧ pl ≤ 3) (hdp : dp + 1 < recursionLimit) (hun : un + 8 < cLine)
    (ret : ∀ (t : Tok) (h' : Heap) (tk' : Nat), Fr h₀ L h' m → News h₀ L h' news → Q (.int (aroundS sp pl) t) { s with heap := h', toks := tk' }) :
    wpAny (model PySem.Challenge.rw_rl0002_01.row.toRowW.prog w) (ktrTop dp un gd cn cs L a ccd cl outer) (call (.ref 42) [.int sp t, .int pl t2]) Q E s :=
  c_around w mean mg mb news sp pl t t2 dp un gd cn cs a ccd cl outer A₀ base h₀ L m s Q E B F X N T hcs pre hdp hun ret
theorem u_holding {len held kinds : Int} {t t2 t3 : Tok} (B : Below A₀ base outer h₀) (F : Fr h₀ L s.heap m) (X : (hd.heap_39 w.params).In h₀) (N : News h₀ L s.heap news) (T : Top hd.view_39 (looseW hd.view_39 []) mean mg mb h₀) (hcs : cs.kind = .function)
    (pre : 0 ≤ len ∧ len ≤ 4 ∧ 1 ≤ held ∧ held ≤ 3 ∧ 1 ≤ kinds ∧ kinds ≤ 3) (hdp : dp + 1 < recursionLimit) (hun : un + 8 < cLine)
    (ret : ∀ (t : Tok) (h' : Heap) (tk' : Nat), Fr h₀ L h' m → News h₀ L h' news → Q (.int (holdingS len held kinds) t) { s with heap := h', toks := tk' }) :
    wpAny (model PySem.Challenge.rw_rl0002_01.row.toRowW.prog w) (ktrTop dp un gd cn cs L a ccd cl outer) (call (.ref 49) [.int len t, .int held t2, .int kinds t3]) Q E s :=
  c_holding w mean mg mb news len held kinds t t2 t3 dp un gd cn cs a ccd cl outer A₀ base h₀ L m s Q E B F X N T hcs pre hdp hun ret
theorem u_strip {x : Str} {t : Tok} (B : Below A₀ base outer h₀) (F : Fr h₀ L s.heap m) (X : (hd.heap_39 w.params).In h₀) (N : News h₀ L s.heap news) (T : Top hd.view_39 (looseW hd.view_39 []) mean mg mb h₀) (hcs : cs.kind = .function)
    (pre : x.length ≤ 100) (hdp : dp + 1 < recursionLimit) (hun : un + 8 < cLine)
    (ret : ∀ (t : Tok) (h' : Heap) (tk' : Nat), Fr h₀ L h' m → News h₀ L h' news → Q (.str (stripS x) t) { s with heap := h', toks := tk' }) :
    wpAny (model PySem.Challenge.rw_rl0002_01.row.toRowW.prog w) (ktrTop dp un gd cn cs L a ccd cl outer) (call (.ref 35) [.str x t]) Q E s :=
  c_strip w mean mg mb news x t dp un gd cn cs a ccd cl outer A₀ base h₀ L m s Q E B F X N T hcs pre hdp hun ret
theorem u_comment {x : Str} {t : Tok} (B : Below A₀ base outer h₀) (F : Fr h₀ L s.heap m) (X : (hd.heap_39 w.params).In h₀) (N : News h₀ L s.heap news) (T : Top hd.view_39 (looseW hd.view_39 []) mean mg mb h₀) (hcs : cs.kind = .function)
    (pre : x.length ≤ 100) (hdp : dp + 1 < recursionLimit) (hun : un + 8 < cLine)
    (ret : ∀ (t : Tok) (h' : Heap) (tk' : Nat), Fr h₀ L h' m → News h₀ L h' news → Q (.str (commentS x) t) { s with heap := h', toks := tk' }) :
    wpAny (model PySem.Challenge.rw_rl0002_01.row.toRowW.prog w) (ktrTop dp un gd cn cs L a ccd cl outer) (call (.ref 28) [.str x t]) Q E s :=
  c_comment w mean mg mb news x t dp un gd cn cs a ccd cl outer A₀ base h₀ L m s Q E B F X N T hcs pre hdp hun ret
end
theorem loadX_L {M : Model} {A : Around} {E : Value → Shared → Prop} {s : Shared} {h₀ : Heap} {L a : Addr} {m : Str → Option Value} {cn : Str} {cs : Scope} {ccd : Value} {cl : List (Str × Addr)} {x : Str} {v : Value} {Q : Value → Shared → Prop} (F : Fr h₀ L s.heap m) (hv : m x = some v) (h : Q v s)
    (hk : cs.kind = .function := by rfl) (hx : (envX cn cs L a ccd cl).kindOf x = some .local := by rfl) :
    wpAny M A (loadName (envX cn cs L a ccd cl) x) Q E s := wpAny_loadName_local hk hx F.ns hv h
theorem len_pos_of {vs : List Value} (h : vs.isEmpty = false) : 1 ≤ vs.length := by
  cases vs with
  | nil => cases h
  | cons v r => simp
theorem len_zero_of {vs : List Value} (h : vs.isEmpty = true) : vs.length = 0 := by
  cases vs with
  | nil => rfl
  | cons v r => cases h
theorem around_bd {sp pl : Int} (h : 0 ≤ sp ∧ sp ≤ 4 ∧ 1 ≤ pl ∧ pl ≤ 3) : 0 ≤ aroundS sp pl ∧ aroundS sp pl ≤ 10000 := by
  rcases cases5 h.1 h.2.1 with h1 | h1 | h1 | h1 | h1 <;> rcases cases3 h.2.2.1 h.2.2.2 with h2 | h2 | h2 <;> subst h1 <;> subst h2 <;> decide +kernel
theorem mulOk_around {c sp pl : Int} (h : 0 ≤ sp ∧ sp ≤ 4 ∧ 1 ≤ pl ∧ pl ≤ 3) : IntMulOk c (aroundS sp pl) := by
  obtain ⟨p, q⟩ := around_bd h
  exact .of_right (intBits_le_64 (by omega) (by omega))
theorem passes_false {M : Model} {A : Around} {env : Env} : PassesOwn M A env (fun _ _ => False) := fun _ _ h => h.elim
def Hold (P : Prop) : Prop := P
theorem For_stop {prog : Program} {w : World} {A : Around} {E : Value → Shared → Prop} {s : Shared} {env : Env} {h₀ : Heap} {x : Str} {body : List Stmt} {Q : Flow → Shared → Prop} {m : Str → Option Value} {px pos : Pos} {iter : Expr} (F : Fr h₀ env.locals s.heap m) (hx : env.kindOf x = some .local)
    (hp : (env.scope.kind == .class || (env.scope.kind == .module && env.locals != env.globals)) = false)
    (h : wpAny (model prog w) A (eval iter env) (fun xv s₁ => Hold (wpAny (model prog w) A (pyIter xv) (fun it s₂ => LoopAtV prog w A h₀ env x body Q E it s₂) E s₁)) E s)
    (hE : PassesOwn (model prog w) A env E)
    (hs : ∀ x, foldedSetIterable iter env x = pure x := by intro _; rfl) :
    wpAny (model prog w) A (exec (.For (.Name x px) iter body [] pos) env) Q E s := For_invVF F hx hp h hs hE
end Mine
end
section
open PySem PySem.W PyProof.Rows PySem.Spec PySem.Calls PyProof.V
set_option Elab.async false
set_option maxRecDepth 100000
set_option maxHeartbeats 8000000
namespace Mine
local macro_rules | `(tactic| walk_at "no such key") => `(tactic| fail)
def bearingS (k : Nat) (pl bl size : Int) : Int := if k ≠ 0 then holdingS size (k : Int) pl else pl ^ size.toNat - bl ^ size.toNat
def toldGo (k : Nat) (pl bl len : Int) : Nat → Int
  | 0 => 0
  | i + 1 => toldGo k pl bl len i + bearingS k pl bl (i : Int) * aroundS (len - (i : Int)) pl
theorem small_of {a b : Int} (h0 : 0 ≤ a ∧ a ≤ 100) (h1 : 0 ≤ b ∧ b ≤ 100) : Builtin.Range.small a b 1 = true := small_one (by omega) (by omega) (by omega) (by omega)
theorem size_of {a b : Int} (h0 : 0 ≤ b) (h1 : a ≤ b) : Builtin.Range.rangeSize a b 1 = (((b - a).toNat : Nat) : Int) := by
  unfold Builtin.Range.rangeSize
  simp; omega
local macro_rules | `(tactic| walk_at "exec For Name Call cons nil") => `(tactic| (k_here; (rename Fr _ _ _ _ => lF'); (with_unfolding_all refine' For_stop lF' ?k1 ?k2 ?_ ?k3; (case k1 => exact rfl); (case k2 => exact rfl); (case k3 => first | exact passes_false | passes_own); k_whole)))
local macro_rules | `(tactic| walk_at "call ref") => `(tactic| (k_here; k_dflt (first
  | refine u_holding (by k_asm) (by k_asm) (by k_asm) (by k_asm) (by k_asm) (by first | exact rfl | assumption) (by first | omega | ((have q9 := len_pos_of (by assumption)); omega)) (by ktr_room) (by ktr_units) ?_
  | refine u_around (by k_asm) (by k_asm) (by k_asm) (by k_asm) (by k_asm) (by first | exact rfl | assumption) (by first | omega | ((have q9 := len_pos_of (by assumption)); omega)) (by ktr_room) (by ktr_units) ?_); intro t9 h9 tk9 F9 N9; (try dsimp only)))
local macro_rules | `(tactic| walk_at "loadName") => `(tactic| (k_here; k_dflt (refine' loadX_L ?k1 ?k2 ?_; (case k1 => k_asm); (case k2 => with_unfolding_all rfl); k_whole)))
local macro_rules | `(tactic| mul_fits) => `(tactic| exact mulOk_around (by omega))
theorem toldGo_step0 {k i : Nat} {pl bl len kk c : Int} (hk : k = 0) (hi : kk = 0 + (i : Int)) (hp : c = toldGo k pl bl len i) : c + (pl ^ kk.toNat - bl ^ kk.toNat) * aroundS (len - kk) pl = toldGo k pl bl len (i + 1) := by
  have e : kk = (i : Int) := by omega
  subst e
  rw [hp]
  simp [toldGo, bearingS, hk]
theorem toldGo_step1 {k i : Nat} {pl bl len kk c : Int} (hk : 1 ≤ k) (hi : kk = 0 + (i : Int)) (hp : c = toldGo k pl bl len i) : c + holdingS kk (k : Int) pl * aroundS (len - kk) pl = toldGo k pl bl len (i + 1) := by
  have e : kk = (i : Int) := by omega
  subst e
  rw [hp]
  have : k ≠ 0 := by omega
  simp [toldGo, bearingS, this]
theorem law_p5 (w : World) (mean : ExcName → Option Value) (mg mb : Str → Option Value) :
  ∀ (dp un : Nat) (gd : Option (List Code)) (cn : Str) (fa : Addr) (ccd : Value) (cl : List (Str × Addr)) (outer : List Env) (A₀ : Around) (base h₀ : Heap) (L : Addr) (u : Str → Option Value) (s : Shared) (qk : Flow → Shared → Prop)
    (wa : Addr) (wvs : List Value) (wn : Nat) (wds : List Str) (pl bl len fit : Int) (t1 t2 t3 t4 : Tok),
  Below A₀ base outer h₀ → Fr h₀ L s.heap (kstB u [(Str.ofString "word", .ref wa), (Str.ofString "plain", .int pl t1), (Str.ofString "blank", .int bl t2), (Str.ofString "length", .int len t3), (Str.ofString "fitting", .int fit t4)]) →
  (hd.heap_39 w.params).In h₀ → News h₀ L s.heap [(wa, listOf wvs.toArray wn)] → StrsAre wvs wds → wds.length ≤ 3 → Top hd.view_39 (looseW hd.view_39 []) mean mg mb h₀ →
  1 ≤ pl ∧ pl ≤ 3 → 0 ≤ bl ∧ bl ≤ 2 → 1 ≤ len ∧ len ≤ 4 → dp + 1 < recursionLimit → un + 8 < cLine →
  (∀ (h' : Heap) (tk' : Nat) (m' : Str → Option Value), Fr h₀ L h' m' → qk (.ret (.bool (fit == toldGo wds.length pl bl len (len + 1).toNat))) { s with heap := h', toks := tk' }) →
  wpAny (model PySem.Challenge.rw_rl0002_01.row.toRowW.prog w) (ktrTop dp un gd cn lawScope L fa ccd cl outer) (execs (lawBody.drop 22) (envX cn lawScope L fa ccd cl)) qk (fun _ _ => False) s := by
  k_fill
  w_on
  intro dp un gd cn fa ccd cl outer A₀ base h₀ L u s qk wa wvs wn wds pl bl len fit t1 t2 t3 t4 hB hF hK hN hW hwl hT hpl hbl hlen hdp hun hret
  have hW2 : wvs.length = wds.length := hW.length
  delta lawScope lawBody
  dsimp only [lawStmt, PySem.Challenge.pw_rl0002_01, List.drop, List.headD, fnBody, fnScope]
  k_steps
  rename (IsRange _ _ _ _ _ _ _ _) => R1
  rename (News _ _ _ _) => N1
  rename (Fr _ _ _ _) => F1
  delta Hold
  dsimp only at N1 F1 R1 ⊢
  refine ls_range (n := (len + 1).toNat) (σ := Int × Tok) (fun _ => [(wa, listOf wvs.toArray wn)]) (fun c => [(Str.ofString "told", .int c.1 c.2)]) [Str.ofString "bearing"] (fun i c => c.1 = toldGo wds.length pl bl len i) (0, ?tk0) rfl R1 (small_of (by omega) (by omega)) (by rw [size_of (by omega) (by omega)]; simp) F1 N1 ?hk rfl ?turn ?done
  case hk => (refine List.forall_mem_cons.mpr ⟨?_, List.forall_mem_nil _⟩; with_unfolding_all rfl)
  case turn =>
    rintro ⟨c, ct⟩ i k t u h2 tk2 own hki hin hoff hp F2 N2
    delta lsIn at F2
    dsimp only [kstB] at F2 hp
    simp only [List.cons_append, List.nil_append] at N2
    k_steps
    all_goals (
      rename (News _ _ _ _) => N3
      rename (Fr _ _ _ _) => F3
      refine ls_end (?_, ?_) F3 N3 ?hn ?ho hoff ?hk ?hr ?hq
      case hk => (refine List.forall_mem_cons.mpr ⟨?_, List.forall_mem_nil _⟩; with_unfolding_all rfl)
      case hn => kst_in
      case ho => (intro p hp; kst_mem)
      case hr => (intro z h1 h2 h3; simp only [List.forall_mem_cons, List.not_mem_nil, false_implies, implies_true, and_true, ne_eq] at h2; simp only [List.contains_cons, List.contains_nil, Bool.or_false, Bool.or_eq_false_iff, beq_eq_false_iff_ne, ne_eq] at h3; simp [h1, h2, h3, kstB])
      case hq => first
        | exact toldGo_step0 (by rw [← hW2]; exact len_zero_of (by assumption)) hki hp
        | exact toldGo_step1 (by rw [← hW2]; exact len_pos_of (by assumption)) hki hp)
  case done =>
    rintro ⟨c, ct⟩ u h2 tk2 hp F2 N2
    k_steps
    dsimp only at hp ⊢
    rw [hp]
    exact hret _ _ _ F2
end Mine
end
section
open PySem PySem.W PyProof.Rows PySem.Spec PySem.Calls PyProof.V
set_option Elab.async false
set_option maxRecDepth 100000
set_option maxHeartbeats 8000000
namespace Mine
section
variable {prog : Program} {w : World} {A : Around} {E : Value → Shared → Prop} {s : Shared} {h₀ : Heap} {L : Addr} {m : Str → Option Value} {env : Env}
theorem LC_stop {elt iter : Expr} {x : Str} {px : Pos} {scope : Scope} {cl : List (Str × Addr)} {pos : Pos} {Q : Value → Shared → Prop} (F₀ : Fr h₀ L s.heap m)
    (hclos : closureFor scope env = pure cl) (hcell : ∀ y ∈ scope.names, y.2 ≠ .cell) (hkind : scope.kind = .function)
    (hnames : ∀ y ∈ scope.names, y.2 = .local → scope.names.lookup y.1 = some .local) (hx : scope.names.lookup x = some .local)
    (h : wpAny (model prog w) A (eval iter env) (fun xv s₁ => Hold (LCg.CompSrc prog w A h₀ L m env elt x scope cl (fun s₂ => LCg.FinE h₀ L m s₂ Q) xv s₁)) E s)
    (hs : ∀ x, foldedSetIterable iter env x = pure x := by intro _; rfl) :
    wpAny (model prog w) A (eval (.ListComp elt [⟨.Name x px, iter, [], 0⟩] scope pos) env) Q E s := LCg.ListComp_U F₀ hclos hcell hkind hnames hx h hs
theorem ALC_stop {elt iter : Expr} {x y : Str} {px py : Pos} {scope : Scope} {cl : List (Str × Addr)} {pos spos : Pos} {Q : Flow → Shared → Prop} (F₀ : Fr h₀ L s.heap m) (hLe : env.locals = L)
    (hsw : swapsWith (.ListComp elt [⟨.Name x px, iter, [], 0⟩] scope pos) (some (.Name y py)) spos.line env = pure true)
    (hclos : closureFor scope env = pure cl) (hcell : ∀ z ∈ scope.names, z.2 ≠ .cell) (hkind : scope.kind = .function)
    (hnames : ∀ z ∈ scope.names, z.2 = .local → scope.names.lookup z.1 = some .local) (hx : scope.names.lookup x = some .local)
    (hy : env.kindOf y = some .local) (hp : (env.scope.kind == .class || (env.scope.kind == .module && env.locals != env.globals)) = false)
    (h : wpAny (model prog w) A (eval iter env) (fun xv s₁ => Hold (LCg.CompSrc prog w A h₀ L m env elt x scope cl (fun s₂ => LCg.FinA h₀ L m s₂ y Q) xv s₁)) E s)
    (hs : ∀ x, foldedSetIterable iter env x = pure x := by intro _; rfl) :
    wpAny (model prog w) A (exec (.Assign [.Name y py] (.ListComp elt [⟨.Name x px, iter, [], 0⟩] scope pos) spos) env) Q E s := LCg.Assign_ListComp_U F₀ hLe hsw hclos hcell hkind hnames hx hy hp h hs
/-- a block whose element is a text told by its turn, the ledger kept -/
theorem rest_strs {elt : Expr} {x : Str} {scope : Scope} {cl : List (Str × Addr)} {S : List (Addr × Obj) → Prop} {P : Nat → Value → Prop} {Fin : List Value → List (Addr × Obj) → Prop} {news : List (Addr × Obj)} {n : Nat} (G : Nat → Str) (hS : S news)
    (helt : ∀ i v I oI C oC D ys m₂ h tk (E' : Value → Shared → Prop), i < n → P i v → LCg.NsObj oC m₂ → m₂ x = some v → Fr h₀ L h m → News h₀ L h ((I, oI) :: (C, oC) :: (D, LCg.lst ys) :: news) → LCg.Off3 I C D news → ((@Ne Nat I C) ∧ (@Ne Nat I D) ∧ (@Ne Nat C D)) →
      wpAny (model prog w) A (eval elt (compEnvC scope cl C env)) (fun y s' => ∃ t h' tk', y = .str (G i) t ∧ s' = { s with heap := h', toks := tk' } ∧ Fr h₀ L h' m ∧ News h₀ L h' ((I, oI) :: (C, oC) :: (D, LCg.lst ys) :: news)) E' { s with heap := h, toks := tk })
    (hF : ∀ ys, StrsAre ys ((List.range n).map G) → Fin ys news) :
    ∀ (k i : Nat) (ys : List Value), i + k = n → StrsAre ys ((List.range i).map G) → LCg.CompRest prog w A h₀ L m env elt x scope cl s S P Fin k i ys news
  | 0, i, ys, e, hy => by
    have e' : i = n := by omega
    subst e'
    exact LCg.CompRest.zero (hF ys hy)
  | k + 1, i, ys, e, hy => by
    refine LCg.CompRest.succ ?_
    intro v I oI C oC D m₂ h tk E' hP hN hm F N off ne
    refine wpAny_mono (helt i v I oI C oC D ys m₂ h tk E' (by omega) hP hN hm F N off ne) (fun y s' hh => ?_) fun _ _ q => q
    obtain ⟨t, h', tk', rfl, rfl, F', N'⟩ := hh
    refine ⟨h', tk', news, rfl, F', N', off, hS, rest_strs G hS helt hF k (i + 1) (ys ++ [.str (G i) t]) (by omega) ?_⟩
    rw [List.range_succ, List.map_append]
    exact strsAre_snoc hy _ _
theorem src_list {elt : Expr} {x : Str} {scope : Scope} {cl : List (Str × Addr)} {Fin : Shared → List Value → List (Addr × Obj) → Prop} {ax : Addr} {vs : List Value} {k : Nat} {news : List (Addr × Obj)} {s₁ : Shared} (G : Nat → Str)
    (hh : A.handled = none) (F : Fr h₀ L s₁.heap m) (N : News h₀ L s₁.heap news) (hm : (ax, listOf vs.toArray k) ∈ news) (hsz : vs.length ≤ 10000)
    (helt : ∀ g i v I oI C oC D ys m₂ h tk (E' : Value → Shared → Prop), vs[i]? = some v → LCg.NsObj oC m₂ → m₂ x = some v → Fr h₀ L h m → News h₀ L h ((I, oI) :: (C, oC) :: (D, LCg.lst ys) :: news) → LCg.Off3 I C D news → ((@Ne Nat I C) ∧ (@Ne Nat I D) ∧ (@Ne Nat C D)) →
      wpAny (model prog w) A (eval elt (compEnvC scope cl C env)) (fun y s' => Hold (∃ t h' tk', y = .str (G i) t ∧ s' = { ({ s₁ with heap := g } : Shared) with heap := h', toks := tk' } ∧ Fr h₀ L h' m ∧ News h₀ L h' ((I, oI) :: (C, oC) :: (D, LCg.lst ys) :: news))) E' { ({ s₁ with heap := g } : Shared) with heap := h, toks := tk })
    (hF : ∀ g ys, StrsAre ys ((List.range vs.length).map G) → Fin { s₁ with heap := g } ys news) :
    LCg.CompSrc prog w A h₀ L m env elt x scope cl Fin (.ref ax) s₁ := by
  refine LCg.CompSrc.ledger hh F N hm (by rw [List.size_toArray, sizeLine_eq]; omega) fun g => ?_
  rw [List.size_toArray]
  refine rest_strs G (.inr ⟨_, hm, rfl, _, rfl⟩) (fun i v I oI C oC D ys m₂ h tk E' _ hP hN hm' F' N' off ne => helt g i v I oI C oC D ys m₂ h tk E' (by simpa using hP) hN hm' F' N' off ne) (hF g) _ _ _ (by simp) .nil
theorem src_range {elt : Expr} {x : Str} {scope : Scope} {cl : List (Str × Addr)} {Fin : Shared → List Value → List (Addr × Obj) → Prop} {r : Addr} {a b : Int} {t u v : Tok} {n : Nat} {news : List (Addr × Obj)} {s₁ : Shared} (G : Nat → Str)
    (hh : A.handled = none) (F : Fr h₀ L s₁.heap m) (N : News h₀ L s₁.heap news) (hr : IsRange s₁.heap r a b 1 t u v) (hsm : Builtin.Range.small a b 1 = true) (hn : Builtin.Range.rangeSize a b 1 = ((n : Nat) : Int)) (hsz : n ≤ 10000)
    (helt : ∀ g i k kt I oI C oC D ys m₂ h tk (E' : Value → Shared → Prop), i < n → k = a + (i : Int) → LCg.NsObj oC m₂ → m₂ x = some (.int k kt) → Fr h₀ L h m → News h₀ L h ((I, oI) :: (C, oC) :: (D, LCg.lst ys) :: news) → LCg.Off3 I C D news → ((@Ne Nat I C) ∧ (@Ne Nat I D) ∧ (@Ne Nat C D)) →
      wpAny (model prog w) A (eval elt (compEnvC scope cl C env)) (fun y s' => Hold (∃ t h' tk', y = .str (G i) t ∧ s' = { ({ s₁ with heap := g } : Shared) with heap := h', toks := tk' } ∧ Fr h₀ L h' m ∧ News h₀ L h' ((I, oI) :: (C, oC) :: (D, LCg.lst ys) :: news))) E' { ({ s₁ with heap := g } : Shared) with heap := h, toks := tk })
    (hF : ∀ g ys, StrsAre ys ((List.range n).map G) → Fin { s₁ with heap := g } ys news) :
    LCg.CompSrc prog w A h₀ L m env elt x scope cl Fin (.ref r) s₁ := by
  refine LCg.CompSrc.range hh F N hr hsm hn (by rw [sizeLine_eq]; omega) fun g => ?_
  refine rest_strs G trivial (fun i v I oI C oC D ys m₂ h tk E' hi hP hN hm' F' N' off ne => ?_) (hF g) _ _ _ (by simp) .nil
  obtain ⟨kt, rfl⟩ := hP
  exact helt g i _ kt I oI C oC D ys m₂ h tk E' hi rfl hN hm' F' N' off ne
end
end Mine
end
section
open PySem PySem.W PyProof.Rows PySem.Spec PySem.Calls PyProof.V
set_option Elab.async false
set_option maxRecDepth 100000
set_option maxHeartbeats 8000000
namespace Mine
def remS (y : List Nat) : Str := if y = [] then ⟨#[35]⟩ else ⟨(35 :: 32 :: y).toArray⟩
def one1 (c : Nat) : Str := ⟨#[c]⟩
def toldRGo (pl bl r : Int) : Nat → Int
  | 0 => 0
  | i + 1 => toldRGo pl bl r i + bl ^ i * aroundS (r - (i : Int)) pl
def toldR (pl bl len : Int) (size : Nat) : Int := toldRGo pl bl (len - (size : Int)) (len - (size : Int) + 1).toNat
def fitS (parts : List Str) : List (Str × Int) → Int
  | [] => 0
  | p :: r => (if ellS parts p.1 then p.2 else 0) + fitS parts r
structure GoodT (lets wits : List Nat) (pl bl len : Int) (T : List (List Nat × Int)) : Prop where
  short : ∀ p ∈ T, (p.1.length : Int) ≤ len
  last : ∀ p ∈ T, ∀ q, p.1.getLast? = some q → q ∈ lets
  within : ∀ p ∈ T, ∀ q ∈ p.1, q ∈ wits
  told : ∀ p ∈ T, p.2 = toldR pl bl len p.1.length
  has : ∀ p ∈ T, kdpHas (T.map fun p => (remS p.1, p.2)) (remS p.1) = true ∧ kdpLook (T.map fun p => (remS p.1, p.2)) (remS p.1) 0 = p.2
theorem flat_get : ∀ {kvs : List (Str × Value)} {C : List (Str × Int)}, FlatPairs PyData.str kvs (kdpD C) → ∀ {i : Nat} {k : Str} {v : Value}, kvs[i]? = some (k, v) → ∃ c t, C[i]? = some (k, c) ∧ v = .int c t
  | [], _, _, _, _, _, h => by simp at h
  | (k', v') :: kvs, C, h, i, k, v, e => by
    cases C with
    | nil => cases h
    | cons p C =>
      have h' : FlatPairs PyData.str ((k', v') :: kvs) ((PyData.str p.1, PyData.int p.2) :: kdpD C) := h
      cases h' with
      | cons hf hr =>
        cases i with
        | zero =>
          obtain ⟨t, rfl⟩ := Flat.int_inv hf
          simp at e
          refine ⟨p.2, t, ?_, e.2.symm⟩
          simp [← e.1]
        | succ i =>
          simp at e
          obtain ⟨c, t, h1, h2⟩ := flat_get hr e
          exact ⟨c, t, by simpa using h1, h2⟩
theorem flat_len : ∀ {kvs : List (Str × Value)} {C : List (Str × Int)}, FlatPairs PyData.str kvs (kdpD C) → kvs.length = C.length
  | [], C, h => by
    cases C with
    | nil => rfl
    | cons p C => cases h
  | (k', v') :: kvs, C, h => by
    cases C with
    | nil => cases h
    | cons p C =>
      have h' : FlatPairs PyData.str ((k', v') :: kvs) ((PyData.str p.1, PyData.int p.2) :: kdpD C) := h
      cases h' with
      | cons hf hr => simp [flat_len hr]
theorem remS_nil : remS [] = Str.ofString "#" := by decide +kernel
theorem remS_ne {y : List Nat} (h : y ≠ []) : remS y = ⟨(35 :: 32 :: y).toArray⟩ := by unfold remS; rw [if_neg h]
theorem remS_bne {y : List Nat} (h : y ≠ []) : (remS y != Str.ofString "#") = true := by
  rw [remS_ne h]
  have e : Str.ofString "#" = ⟨#[35]⟩ := by decide +kernel
  rw [e, bne_iff_ne]
  intro q
  have q1 : ((35 :: 32 :: y).toArray : Array Nat) = #[35] := congrArg Str.cps q
  have q2 := congrArg Array.size q1
  simp at q2
theorem remS_len {y : List Nat} (h : y ≠ []) : (remS y).length = y.length + 2 := by
  rw [remS_ne h]
  show ((35 :: 32 :: y).toArray).size = _
  simp
theorem fitS_snoc (parts : List Str) : ∀ (l : List (Str × Int)) (p : Str × Int), fitS parts (l ++ [p]) = fitS parts l + (if ellS parts p.1 then p.2 else 0)
  | [], p => by simp [fitS]
  | q :: l, p => by
    simp only [List.cons_append, fitS]
    rw [fitS_snoc parts l p]; omega
def forBody : Stmt → List Stmt
  | .For _ _ b _ _ => b
  | _ => []
def loopBody : List Stmt := forBody ((lawBody.drop 21).headD (.Pass ⟨0, 0, 0, 0⟩))
theorem execs_cut {M : Model} {A : Around} {env : Env} {l : List Stmt} {Q : Flow → Shared → Prop} {E : Value → Shared → Prop} {s : Shared} (n : Nat) (h : ∀ R, R = l.drop n → wpAny M A (execs (l.take n ++ R) env) Q E s) : wpAny M A (execs l env) Q E s := by
  have := h _ rfl
  rwa [List.take_append_drop] at this
theorem toldR_step {pl bl r c : Int} {i : Nat} {k : Int} (hk : k = 0 + (i : Int)) (hp : c = toldRGo pl bl r i) : c + bl ^ k.toNat * aroundS (r - k) pl = toldRGo pl bl r (i + 1) := by
  have e : k = (i : Int) := by omega
  subst e
  rw [hp]
  simp [toldRGo]
local macro_rules | `(tactic| walk_at "exec For Name Call cons nil") => `(tactic| (k_here; (rename Fr _ _ _ _ => lF'); (with_unfolding_all refine' For_stop lF' ?k1 ?k2 ?_ ?k3; (case k1 => exact rfl); (case k2 => exact rfl); (case k3 => first | exact passes_false | passes_own); k_whole)))
local macro_rules | `(tactic| walk_at "exec For Name Name cons nil") => `(tactic| (k_here; (rename Fr _ _ _ _ => lF'); (with_unfolding_all refine' For_stop lF' ?k1 ?k2 ?_ ?k3; (case k1 => exact rfl); (case k2 => exact rfl); (case k3 => first | exact passes_false | passes_own); k_whole)))
local macro_rules | `(tactic| walk_at "exec For Name Subscript cons nil") => `(tactic| (k_here; (rename Fr _ _ _ _ => lF'); (with_unfolding_all refine' For_stop lF' ?k1 ?k2 ?_ ?k3; (case k1 => exact rfl); (case k2 => exact rfl); (case k3 => first | exact passes_false | passes_own); k_whole)))
theorem u_ell {w : World} {mean : ExcName → Option Value} {mg mb : Str → Option Value} {news : List (Addr × Obj)} {dp un : Nat} {gd : Option (List Code)} {cn : Str} {cs : Scope} {a : Addr} {ccd : Value} {cl : List (Str × Addr)} {outer : List Env} {A₀ : Around} {base h₀ : Heap} {L : Addr} {m : Str → Option Value} {s : Shared} {Q E : Value → Shared → Prop} {form y : Str} {parts : List Str} {t t2 : Tok}
    (C : ∀ (y : Str) (t t2 : Tok) (news : List (Addr × Obj)), CbClaim PySem.Challenge.rw_rl0002_01.row.toRowW.prog w (hd.heap_39 w.params) hd.view_39 (looseW hd.view_39 []) mean mg mb 21 news [] (y.length ≤ 100) [.str form t, .str y t2] (fun _ => .bool (ellS parts y)))
    (B : Below A₀ base outer h₀) (F : Fr h₀ L s.heap m) (X : (hd.heap_39 w.params).In h₀) (N : News h₀ L s.heap news) (T : Top hd.view_39 (looseW hd.view_39 []) mean mg mb h₀) (hcs : cs.kind = .function)
    (pre : y.length ≤ 100) (hdp : dp + 1 < recursionLimit) (hun : un + 8 < cLine)
    (ret : ∀ (h' : Heap) (tk' : Nat), Fr h₀ L h' m → News h₀ L h' news → Q (.bool (ellS parts y)) { s with heap := h', toks := tk' }) :
    wpAny (model PySem.Challenge.rw_rl0002_01.row.toRowW.prog w) (ktrTop dp un gd cn cs L a ccd cl outer) (call (.ref 21) [.str form t, .str y t2]) Q E s :=
  C y t t2 news dp un gd cn cs a ccd cl outer A₀ base h₀ L m s Q E B F X N T hcs pre hdp hun (fun _ => ret)
local macro_rules | `(tactic| walk_at "call ref") => `(tactic| (k_here; (rename (∀ (y : Str) (t t2 : Tok) (news : List (Addr × Obj)), CbClaim _ _ _ _ _ _ _ _ _ _ _ _ _ _) => c9); k_dflt (refine u_ell c9 (by k_asm) (by k_asm) (by k_asm) (by k_asm) (by k_asm) (by first | exact rfl | assumption) (by omega) (by ktr_room) (by ktr_units) ?_); intro h9 tk9 F9 N9; (try dsimp only)))
local macro_rules | `(tactic| walk_at "call ref") => `(tactic| (k_here; k_dflt (refine u_around (by k_asm) (by k_asm) (by k_asm) (by k_asm) (by k_asm) (by first | exact rfl | assumption) (by omega) (by ktr_room) (by ktr_units) ?_); intro t9 h9 tk9 F9 N9; (try dsimp only)))
local macro_rules | `(tactic| walk_at "loadName") => `(tactic| (k_here; k_dflt (refine' loadX_L ?k1 ?k2 ?_; (case k1 => k_asm); (case k2 => with_unfolding_all rfl); k_whole)))
local macro_rules | `(tactic| mul_fits) => `(tactic| exact mulOk_around (by omega))

theorem law_p4t (w : World) (mean : ExcName → Option Value) (mg mb : Str → Option Value) :
  ∀ (dp un : Nat) (gd : Option (List Code)) (cn : Str) (fa : Addr) (ccd : Value) (cl : List (Str × Addr)) (outer : List Env) (A₀ : Around) (base h₀ : Heap) (L : Addr) (u : Str → Option Value) (s : Shared) (Q : Flow → Shared → Prop)
    (da : Addr) (od : Obj) (kvs : List (Str × Value)) (rest : List (Addr × Obj)) (T : List (Str × Int)) (parts : List Str) (form k : Str) (pl bl len sz c cc : Int) (t1 t2 t3 t4 t5 t6 t7 : Tok),
  Below A₀ base outer h₀ → Fr h₀ L s.heap (kstB u [(Str.ofString "remark", .str k t1), (Str.ofString "size", .int sz t2), (Str.ofString "fitting", .int c t3), (Str.ofString "plain", .int pl t4), (Str.ofString "blank", .int bl t5), (Str.ofString "length", .int len t6), (Str.ofString "form", .str form t7), (Str.ofString "tally", .ref da)]) →
  (hd.heap_39 w.params).In h₀ → News h₀ L s.heap ((da, od) :: rest) →
  (da == sysModules) = false → od.IsDictOf (PySem.strKind PySem.Challenge.rw_rl0002_01.row.toRowW.prog w) kvs → FlatPairs PyData.str kvs (kdpD T) → T.length ≤ 1000 → kdpHas T k = true → kdpLook T k 0 = cc → k.length ≤ 100 →
  (∀ (y : Str) (t t2 : Tok) (news : List (Addr × Obj)), CbClaim PySem.Challenge.rw_rl0002_01.row.toRowW.prog w (hd.heap_39 w.params) hd.view_39 (looseW hd.view_39 []) mean mg mb 21 news [] (y.length ≤ 100) [.str form t, .str y t2] (fun _ => .bool (ellS parts y))) →
  Top hd.view_39 (looseW hd.view_39 []) mean mg mb h₀ →
  1 ≤ pl ∧ pl ≤ 3 → 0 ≤ bl ∧ bl ≤ 2 → 1 ≤ len ∧ len ≤ 4 → 0 ≤ sz ∧ sz ≤ len → dp + 1 < recursionLimit → un + 8 < cLine →
  cc = toldRGo pl bl (len - sz) (len - sz + 1).toNat →
  (∀ (h' : Heap) (tk' : Nat) (m' : Str → Option Value) (ct : Tok), Fr h₀ L h' m' → m' (Str.ofString "fitting") = some (.int (c + (if ellS parts k then cc else 0)) ct) →
    (∀ z, z ≠ Str.ofString "fitting" → z ≠ Str.ofString "told" → z ≠ Str.ofString "dropped" → z ≠ Str.ofString "fit" → m' z = kstB u [(Str.ofString "remark", .str k t1), (Str.ofString "size", .int sz t2), (Str.ofString "fitting", .int c t3), (Str.ofString "plain", .int pl t4), (Str.ofString "blank", .int bl t5), (Str.ofString "length", .int len t6), (Str.ofString "form", .str form t7), (Str.ofString "tally", .ref da)] z) →
    News h₀ L h' ((da, od) :: rest) → Q .next { s with heap := h', toks := tk' }) →
  wpAny (model PySem.Challenge.rw_rl0002_01.row.toRowW.prog w) (ktrTop dp un gd cn lawScope L fa ccd cl outer) (execs (loopBody.drop 2) (envX cn lawScope L fa ccd cl)) Q (fun _ _ => False) s := by
  k_fill
  w_on
  intro dp un gd cn fa ccd cl outer A₀ base h₀ L u s Q da od kvs rest T parts form k pl bl len sz c cc t1 t2 t3 t4 t5 t6 t7 hB hF hK hN hlo hD hP hTl hHas hLook hkl hE hT hpl hbl hlen hsz hdp hun hcc hret
  delta loopBody lawScope lawBody
  dsimp only [lawStmt, PySem.Challenge.pw_rl0002_01, List.drop, List.headD, fnBody, fnScope, forBody]
  k_steps
  rename (IsRange _ _ _ _ _ _ _ _) => R1
  rename (News _ _ _ _) => N1
  rename (Fr _ _ _ _) => F1
  delta Hold
  dsimp only at N1 F1 R1 ⊢
  refine ls_range (n := (len - sz + 1).toNat) (σ := Int × Tok) (fun _ => (da, od) :: rest) (fun c => [(Str.ofString "told", .int c.1 c.2)]) [] (fun i c => c.1 = toldRGo pl bl (len - sz) i) (0, ?tk0) rfl R1 (small_of (by omega) (by omega)) (by rw [size_of (by omega) (by omega)]; simp) F1 N1 ?hk rfl ?turn ?done
  case hk => (refine List.forall_mem_cons.mpr ⟨?_, List.forall_mem_nil _⟩; with_unfolding_all rfl)
  case turn =>
    rintro ⟨d, dt⟩ i kk t u2 h2 tk2 own hki hin hoff hp F2 N2
    delta lsIn at F2
    dsimp only [kstB] at F2 hp
    simp only [List.cons_append, List.nil_append] at N2
    k_steps
    rename (News _ _ _ _) => N3
    rename (Fr _ _ _ _) => F3
    refine ls_end (?_, ?_) F3 N3 ?hn ?ho hoff ?hk ?hr ?hq
    case hk => (refine List.forall_mem_cons.mpr ⟨?_, List.forall_mem_nil _⟩; with_unfolding_all rfl)
    case hn => kst_in
    case ho => (intro p hp; kst_mem)
    case hr => (intro z h1 h2 h3; simp only [List.forall_mem_cons, List.not_mem_nil, false_implies, implies_true, and_true, ne_eq] at h2; simp [h1, h2, kstB])
    case hq => exact toldR_step hki hp
  case done =>
    rintro ⟨d, dt⟩ u2 h2 tk2 hp F2 N2
    dsimp only at hp
    rw [← hcc] at hp
    subst hp
    k_steps
    · exact absurd hLook (by assumption)
    · rename (News _ _ _ _) => N3
      rename (Fr _ _ _ _) => F3
      rename ((ellS parts k == true) = true) => hb
      have e : ellS parts k = true := by simpa using hb
      refine hret _ _ _ ?_ F3 ?_ ?_ N3
      rotate_left
      · rw [if_pos e, ← hLook]; with_unfolding_all rfl
      · intro z h1 h2 h3 h4; simp [h1, h2, h3, h4, kstB, lsOut]
    · rename ((ellS parts k == true) = false) => hb
      rename ((ellS parts k != false) = true) => hb2
      cases hq : ellS parts k <;> rw [hq] at hb hb2 <;> simp at hb hb2
    · rename (News _ _ _ _) => N3
      rename (Fr _ _ _ _) => F3
      rename ((ellS parts k == true) = false) => hb
      have e : ¬ (ellS parts k = true) := by simpa using hb
      refine hret _ _ _ ?_ F3 ?_ ?_ N3
      rotate_left
      · rw [if_neg e, Int.add_zero]; with_unfolding_all rfl
      · intro z h1 h2 h3 h4; simp [h1, h2, h3, h4, kstB, lsOut]
end Mine
end
section
open PySem PySem.W PyProof.Rows PySem.Spec PySem.Calls PyProof.V
open PySem.Builtin PySem.Builtin.Str
set_option Elab.async false
namespace Mine
theorem pick_range (xs : List Nat) (a : Nat) : ∀ n, a + n ≤ xs.length → ((List.range n).map fun k => a + k).filterMap (fun q => xs[q]?) = (xs.drop a).take n
  | 0, _ => by simp
  | n + 1, h => by
    have ih := pick_range xs a n (by omega)
    rw [List.range_succ, List.map_append, List.filterMap_append, ih]
    have e : xs[a + n]? = some xs[a + n] := List.getElem?_eq_getElem (by omega)
    simp only [List.map_cons, List.map_nil, List.filterMap_cons, List.filterMap_nil, e]
    rw [List.take_add_one]
    have e2 : (xs.drop a)[n]? = some xs[a + n] := by rw [List.getElem?_drop]; exact e
    rw [e2]; rfl
theorem slice_core (x : Str) (l u : Option Int) (a b : Nat) (hab : a ≤ b) (hb : b ≤ x.length) (hi : strSliceIndices l u 1 x.length = sliceRange (a : Int) (b : Int) 1) :
    Txt.slice x l u = ⟨((x.cps.toList.drop a).take (b - a)).toArray⟩ := by
  have hr : sliceRange (a : Int) (b : Int) 1 = (List.range (b - a)).map fun k => a + k := by
    unfold sliceRange
    have hc : (if (1 : Int) > 0 then (if (a : Int) < (b : Int) then ((b : Int) - a + 1 - 1) / 1 else 0) else (if (a : Int) > (b : Int) then ((a : Int) - b - 1 - 1) / (-1) else 0)).toNat = b - a := by
      rw [if_pos (by decide)]
      split
      · rw [Int.ediv_one]; omega
      · omega
    simp only [hc]
    refine List.map_congr_left fun k _ => ?_
    omega
  unfold Txt.slice
  rw [hi, hr]
  have hlen : x.cps.toList.length = x.length := by simp [Str.length]
  have hp := pick_range x.cps.toList a (b - a) (by rw [hlen]; omega)
  have hp' : ((List.range (b - a)).map fun k => a + k).filterMap (fun q => x.cps[q]?) = (x.cps.toList.drop a).take (b - a) := by
    rw [← hp]; congr 1; funext q; simp
  split
  · rename_i h
    have h2 : b - a = x.length := by simpa using h
    have ha : a = 0 := by omega
    have hb' : b = x.length := by omega
    subst ha
    rw [List.drop_zero, hb', Nat.sub_zero, ← hlen, List.take_length]
  · rw [hp']
theorem slice_some_some (x : Str) (a b : Nat) (hab : a ≤ b) (hb : b ≤ x.length) : Txt.slice x (some (a : Int)) (some (b : Int)) = ⟨((x.cps.toList.drop a).take (b - a)).toArray⟩ := by
  refine slice_core x _ _ a b hab hb ?_
  unfold strSliceIndices
  simp only [show (1 : Int) > 0 by decide, if_true]
  have e1 : ¬ ((a : Int) < 0) := by omega
  have e2 : ¬ ((b : Int) < 0) := by omega
  rw [if_neg e1, if_neg e2]
  congr 1 <;> omega
theorem slice_none_some (x : Str) (b : Nat) (hb : b ≤ x.length) : Txt.slice x none (some (b : Int)) = ⟨(x.cps.toList.take b).toArray⟩ := by
  have h := slice_core x none (some (b : Int)) 0 b (Nat.zero_le _) hb ?_
  · simpa using h
  unfold strSliceIndices
  simp only [show (1 : Int) > 0 by decide, if_true]
  have e2 : ¬ ((b : Int) < 0) := by omega
  rw [if_neg e2]
  congr 1
  omega
theorem slice_some_none (x : Str) (a : Nat) (ha : a ≤ x.length) : Txt.slice x (some (a : Int)) none = ⟨(x.cps.toList.drop a).toArray⟩ := by
  have h := slice_core x (some (a : Int)) none a x.length ha (Nat.le_refl _) ?_
  · rw [h]
    have hlen : x.cps.toList.length = x.length := by simp [Str.length]
    rw [List.take_of_length_le (by rw [List.length_drop, hlen]; exact Nat.le_refl _)]
  unfold strSliceIndices
  simp only [show (1 : Int) > 0 by decide, if_true]
  have e1 : ¬ ((a : Int) < 0) := by omega
  rw [if_neg e1]
  congr 1
  omega
theorem remS_head {y : List Nat} (h : y ≠ []) : (Txt.slice (remS y) none (some 2) != Str.ofString "# ") = false := by
  have hl := remS_len h
  have e := slice_none_some (remS y) 2 (by omega)
  have e' : Txt.slice (remS y) none (some 2) = Str.ofString "# " := by
    refine Eq.trans e ?_
    rw [remS_ne h]
    have e3 : Str.ofString "# " = ⟨#[35, 32]⟩ := by decide +kernel
    rw [e3]; simp
  rw [e']; simp
theorem remS_tail {y : List Nat} (h : y ≠ []) : Txt.slice (remS y) (some 2) none = ⟨y.toArray⟩ := by
  have hl := remS_len h
  have e := slice_some_none (remS y) 2 (by omega)
  refine Eq.trans e ?_
  rw [remS_ne h]; simp
theorem remS_item {y : List Nat} {q : Nat} (h : y.getLast? = some q) : Txt.item (remS y) (-1) = one1 q := by
  have h0 : y ≠ [] := by rintro rfl; simp at h
  have hl := remS_len h0
  have hy1 : 1 ≤ y.length := by cases y with | nil => exact absurd rfl h0 | cons a r => simp
  unfold Txt.item Txt.charAt one1
  have e1 : seqIndex? (-1) (remS y).length = some (y.length + 1) := by
    unfold seqIndex?
    rw [hl]
    simp
    omega
  rw [e1]
  show (⟨#[((remS y).cps[y.length + 1]?).getD 0]⟩ : Str) = _
  rw [remS_ne h0]
  have e2 : ((35 :: 32 :: y).toArray : Array Nat)[y.length + 1]? = some q := by
    rw [List.getElem?_toArray]
    have e4 : y.length + 1 = (y.length - 1) + 1 + 1 := by omega
    rw [e4, List.getElem?_cons_succ, List.getElem?_cons_succ, ← List.getLast?_eq_getElem?]
    exact h
  rw [e2]; rfl
end Mine
end
section
open PySem PySem.W PyProof.Rows PySem.Spec PySem.Calls PyProof.V
set_option Elab.async false
set_option maxRecDepth 100000
set_option maxHeartbeats 8000000
namespace Mine
local macro_rules | `(tactic| walk_at "exec For Name Call cons nil") => `(tactic| (k_here; (rename Fr _ _ _ _ => lF'); (with_unfolding_all refine' For_stop lF' ?k1 ?k2 ?_ ?k3; (case k1 => exact rfl); (case k2 => exact rfl); (case k3 => first | exact passes_false | passes_own); k_whole)))
local macro_rules | `(tactic| walk_at "exec For Name Name cons nil") => `(tactic| (k_here; (rename Fr _ _ _ _ => lF'); (with_unfolding_all refine' For_stop lF' ?k1 ?k2 ?_ ?k3; (case k1 => exact rfl); (case k2 => exact rfl); (case k3 => first | exact passes_false | passes_own); k_whole)))
local macro_rules | `(tactic| walk_at "exec For Name Subscript cons nil") => `(tactic| (k_here; (rename Fr _ _ _ _ => lF'); (with_unfolding_all refine' For_stop lF' ?k1 ?k2 ?_ ?k3; (case k1 => exact rfl); (case k2 => exact rfl); (case k3 => first | exact passes_false | passes_own); k_whole)))
local macro_rules | `(tactic| walk_at "call ref") => `(tactic| (k_here; k_dflt (refine u_around (by k_asm) (by k_asm) (by k_asm) (by k_asm) (by k_asm) (by first | exact rfl | assumption) (by omega) (by ktr_room) (by ktr_units) ?_); intro t9 h9 tk9 F9 N9; (try dsimp only)))
local macro_rules | `(tactic| walk_at "loadName") => `(tactic| (k_here; k_dflt (refine' loadX_L ?k1 ?k2 ?_; (case k1 => k_asm); (case k2 => with_unfolding_all rfl); k_whole)))
local macro_rules | `(tactic| mul_fits) => `(tactic| exact mulOk_around (by omega))
theorem kst_canon {m' : Str → Option Value} {ps : List (Str × Value)} (hk : ∀ p ∈ ps, m' p.1 = some p.2) : kstB m' ps = m' := funext fun z => kstB_eq hk fun _ => rfl
theorem law_p4 (w : World) (mean : ExcName → Option Value) (mg mb : Str → Option Value) :
  ∀ (dp un : Nat) (gd : Option (List Code)) (cn : Str) (fa : Addr) (ccd : Value) (c1 c2 c3 c4 : Addr) (outer : List Env) (A₀ : Around) (base h₀ : Heap) (L : Addr) (u : Str → Option Value) (s : Shared) (qk : Flow → Shared → Prop)
    (wa da wia la : Addr) (wvs wivs lvs : List Value) (wn win ln : Nat) (od oL : Obj) (kvs : List (Str × Value)) (wcs lets wits : List Nat) (Tc : List (List Nat × Int)) (form : Str) (pl bl len : Int) (t1 t2 t3 t4 : Tok),
  Below A₀ base outer h₀ → Fr h₀ L s.heap (kstB u [(Str.ofString "word", .ref wa), (Str.ofString "plain", .int pl t1), (Str.ofString "blank", .int bl t2), (Str.ofString "length", .int len t3), (Str.ofString "form", .str form t4), (Str.ofString "tally", .ref da), (Str.ofString "within", .ref wia)]) →
  (hd.heap_39 w.params).In h₀ → News h₀ L s.heap [(wa, listOf wvs.toArray wn), (da, od), (wia, listOf wivs.toArray win), (c3, oL), (la, listOf lvs.toArray ln)] → oL.data = .cell (some (.ref la)) → StrsAre wvs (wcs.map one1) → wcs.length ≤ 3 → StrsAre wivs (wits.map one1) → StrsAre lvs (lets.map one1) → wits.length ≤ 3 → lets.length ≤ 3 →
  (da == sysModules) = false → od.IsDictOf (PySem.strKind PySem.Challenge.rw_rl0002_01.row.toRowW.prog w) kvs → FlatPairs PyData.str kvs (kdpD (Tc.map fun p => (remS p.1, p.2))) → Tc.length ≤ 1000 → GoodT lets wits pl bl len Tc →
  (∀ (y : Str) (t t2 : Tok) (news : List (Addr × Obj)), CbClaim PySem.Challenge.rw_rl0002_01.row.toRowW.prog w (hd.heap_39 w.params) hd.view_39 (looseW hd.view_39 []) mean mg mb 21 news [] (y.length ≤ 100) [.str form t, .str y t2] (fun _ => .bool (ellS (wcs.map one1 ++ [Str.ofString ""]) y))) →
  Top hd.view_39 (looseW hd.view_39 []) mean mg mb h₀ →
  1 ≤ pl ∧ pl ≤ 3 → 0 ≤ bl ∧ bl ≤ 2 → 1 ≤ len ∧ len ≤ 4 → dp + 1 < recursionLimit → un + 8 < cLine →
  (fitS (wcs.map one1 ++ [Str.ofString ""]) (Tc.map fun p => (remS p.1, p.2)) = toldGo wcs.length pl bl len (len + 1).toNat) →
  (∀ (h' : Heap) (tk' : Nat) (m' : Str → Option Value), Fr h₀ L h' m' → qk (.ret (.bool true)) { s with heap := h', toks := tk' }) →
  wpAny (model PySem.Challenge.rw_rl0002_01.row.toRowW.prog w) (ktrTop dp un gd cn lawScope L fa ccd [(Str.ofString "signs", c4), (Str.ofString "letters", c3), (Str.ofString "base", c2), (Str.ofString "solid", c1)] outer) (execs (lawBody.drop 20) (envX cn lawScope L fa ccd [(Str.ofString "signs", c4), (Str.ofString "letters", c3), (Str.ofString "base", c2), (Str.ofString "solid", c1)])) qk (fun _ _ => False) s := by
  k_fill
  w_on
  intro dp un gd cn fa ccd c1 c2 c3 c4 outer A₀ base h₀ L u s qk wa da wia la wvs wivs lvs wn win ln od oL kvs wcs lets wits Tc form pl bl len t1 t2 t3 t4 hB hF hK hN hoL hW hwl hWi hLe hwil hlel hlo hD hP hTl hG hE hT hpl hbl hlen hdp hun hfit hret
  delta lawScope lawBody
  dsimp only [lawStmt, PySem.Challenge.pw_rl0002_01, List.drop, List.headD, fnBody, fnScope]
  k_steps
  rename (News _ _ _ _) => N1
  rename (Fr _ _ _ _) => F1
  delta Hold
  dsimp only at N1 F1 ⊢
  refine ls_keys (o := od) (kvs := kvs) (σ := Int × Tok) (fun _ => [(wa, listOf wvs.toArray wn), (da, od), (wia, listOf wivs.toArray win), (c3, oL), (la, listOf lvs.toArray ln)]) (fun c => [(Str.ofString "fitting", .int c.1 c.2)]) [Str.ofString "size", Str.ofString "told", Str.ofString "dropped", Str.ofString "sign", Str.ofString "fit"]
    (fun i c => c.1 = fitS (wcs.map one1 ++ [Str.ofString ""]) ((Tc.map fun p => (remS p.1, p.2)).take i)) (0, ?tk0) rfl (fun _ => .tail _ (.head _)) hlo hD F1 N1 ?hk rfl ?turn ?done
  case hk => (refine List.forall_mem_cons.mpr ⟨?_, List.forall_mem_nil _⟩; with_unfolding_all rfl)
  case turn =>
    rintro ⟨c, ct⟩ i k v t u h2 tk2 own hki hoff hp F2 N2
    delta lsIn at F2
    dsimp only [kstB] at F2 hp
    simp only [List.cons_append, List.nil_append] at N2
    obtain ⟨cc, vt, hC, rfl⟩ := flat_get hP hki
    rw [List.getElem?_map] at hC
    obtain ⟨⟨y, cc'⟩, hy, hyk⟩ := Option.map_eq_some_iff.mp hC
    obtain ⟨rfl, rfl⟩ : remS y = k ∧ cc' = cc := by simpa using hyk
    have hmem : (y, cc') ∈ Tc := List.mem_of_getElem? hy
    have g1 := hG.short _ hmem
    have g2 := hG.last _ hmem
    have g3 := hG.within _ hmem
    have g4 := hG.told _ hmem
    have g5 := hG.has _ hmem
    dsimp only at g1 g2 g3 g4 g5
    generalize hk : remS y = k at *
    refine execs_cut 2 ?_
    intro R hR
    simp only [List.take_succ_cons, List.take_zero, List.cons_append, List.nil_append]
    by_cases hy0 : y = []
    · have f1 : (k != Str.ofString "#") = false := by rw [← hk, hy0, remS_nil]; simp
      have f2 : k.length ≤ 100 := by rw [← hk, hy0, remS_nil]; decide +kernel
      k_steps
      rename (News _ _ _ _) => N3
      rename (Fr _ _ _ _) => F3
      dsimp only at N3 F3 ⊢
      rw [hR]
      refine law_p4t w mean mg mb dp un gd cn fa ccd _ outer A₀ base h₀ L _ _ _ da od kvs ([(wa, listOf wvs.toArray wn), (wia, listOf wivs.toArray win), (c3, oL), (la, listOf lvs.toArray ln)] ++ own) (Tc.map fun p => (remS p.1, p.2)) (wcs.map one1 ++ [Str.ofString ""]) form k pl bl len 0 c cc' t ?_ ct t1 t2 t3 t4 hB (fr_canon F3 ?_) hK (cb_drop N3 ?_) hlo hD hP (by rw [List.length_map]; exact hTl) g5.1 g5.2 (by omega) hE hT hpl hbl hlen (by omega) hdp hun (by rw [g4, hy0]; rfl) ?_
      rotate_left
      · simp only [List.forall_mem_cons]
        exact ⟨by with_unfolding_all rfl, by with_unfolding_all rfl, by with_unfolding_all rfl, by with_unfolding_all rfl, by with_unfolding_all rfl, by with_unfolding_all rfl, by with_unfolding_all rfl, by with_unfolding_all rfl, List.forall_mem_nil _⟩
      · simp only [List.cons_append, List.nil_append]
        refine List.forall_mem_cons.mpr ⟨by k_memK, List.forall_mem_cons.mpr ⟨by k_memK, List.forall_mem_cons.mpr ⟨by k_memK, List.forall_mem_cons.mpr ⟨by k_memK, List.forall_mem_cons.mpr ⟨by k_memK, ?_⟩⟩⟩⟩⟩
        intro p9 h9; kst_mem
      · intro h' tk' m' ct' Fx hfx hzx Nx
        show InvEndG _ _ _ _ _ _
        simp only [List.cons_append, List.nil_append] at Nx
        refine ls_end (c + (if ellS (wcs.map one1 ++ [Str.ofString ""]) k then cc' else 0), ct') Fx Nx ?hn ?ho hoff ?hk2 ?hr ?hq
        case hn => (refine List.forall_mem_cons.mpr ⟨by k_memK, List.forall_mem_cons.mpr ⟨by k_memK, List.forall_mem_cons.mpr ⟨by k_memK, List.forall_mem_cons.mpr ⟨by k_memK, List.forall_mem_cons.mpr ⟨by k_memK, List.forall_mem_nil _⟩⟩⟩⟩⟩)
        case ho => (intro p9 h9; kst_mem)
        case hk2 => exact List.forall_mem_cons.mpr ⟨hfx, List.forall_mem_nil _⟩
        case hr =>
          intro z h1 h2 h3
          simp only [List.forall_mem_cons, List.not_mem_nil, false_implies, implies_true, and_true, ne_eq] at h2
          simp only [List.contains_cons, List.contains_nil, Bool.or_false, Bool.or_eq_false_iff, beq_eq_false_iff_ne, ne_eq] at h3
          rw [hzx z h2 h3.2.1 h3.2.2.1 h3.2.2.2.2, kst_canon (by simp only [List.forall_mem_cons]; exact ⟨by with_unfolding_all rfl, by with_unfolding_all rfl, by with_unfolding_all rfl, by with_unfolding_all rfl, by with_unfolding_all rfl, by with_unfolding_all rfl, by with_unfolding_all rfl, by with_unfolding_all rfl, List.forall_mem_nil _⟩)]
          simp [kstB, lsOut, h1, h2, h3]
        case hq =>
          have hs : (Tc.map fun p => (remS p.1, p.2)).take (i + 1) = (Tc.map fun p => (remS p.1, p.2)).take i ++ [(k, cc')] := by
            rw [List.take_add_one, List.getElem?_map, hy]
            simp [hk]
          rw [hs, fitS_snoc, ← hp]
    · have f1 : (k != Str.ofString "#") = true := by rw [← hk]; exact remS_bne hy0
      have f2 : k.length = y.length + 2 := by rw [← hk]; exact remS_len hy0
      have f3 : k.length ≤ 100 := by omega
      have f4 : (Txt.slice k none (some 2) != Str.ofString "# ") = false := by rw [← hk]; exact remS_head hy0
      have f5 : 1 ≤ y.length := by cases y with | nil => exact absurd rfl hy0 | cons a r => simp
      have f6 : (lets.map one1).any (fun x => x == Txt.item k (-1)) = true := by
        cases hq : y.getLast? with
        | none => exact absurd (List.getLast?_eq_none_iff.mp hq) hy0
        | some q =>
          rw [← hk, remS_item hq]
          exact List.any_eq_true.mpr ⟨one1 q, List.mem_map.mpr ⟨q, g2 q hq, rfl⟩, by simp⟩
      have g4' : cc' = toldRGo pl bl (len - ((k.length : Int) - 2)) (len - ((k.length : Int) - 2) + 1).toNat := by
        have e9 : ((k.length : Int) - 2) = ((y.length : Nat) : Int) := by omega
        rw [e9, g4]; rfl
      have f7 : Txt.slice k (some 2) none = ⟨y.toArray⟩ := by rw [← hk]; exact remS_tail hy0
      k_steps
      rename (News _ _ _ _) => N3
      rename (Fr _ _ _ _) => F3
      delta Hold
      dsimp only at N3 F3 ⊢
      rw [f7]
      refine ls_text (σ := Unit) (fun _ => _) (fun _ => []) [] (fun _ _ => True) () rfl F3 N3 (List.forall_mem_nil _) trivial ?turn2 ?done2
      case turn2 =>
        intro _ j q qt u4 h4 tk4 own4 hq hoff4 _ F4 N4
        have hqy : q ∈ y := by
          have : y[j]? = some q := by simpa using hq
          exact List.mem_of_getElem? this
        have f8 : (wits.map one1).any (fun x => x == (⟨#[q]⟩ : Str)) = true := List.any_eq_true.mpr ⟨one1 q, List.mem_map.mpr ⟨q, g3 q hqy, rfl⟩, by simp [one1]⟩
        delta lsIn at F4
        dsimp only [kstB] at F4
        simp only [List.cons_append, List.nil_append] at N4
        k_steps
        refine ls_end () F4 N4 ?hn ?ho hoff4 (List.forall_mem_nil _) ?hr trivial
        case hn => (refine List.forall_mem_cons.mpr ⟨by k_memK, List.forall_mem_cons.mpr ⟨by k_memK, List.forall_mem_cons.mpr ⟨by k_memK, List.forall_mem_cons.mpr ⟨by k_memK, List.forall_mem_cons.mpr ⟨by k_memK, ?_⟩⟩⟩⟩⟩; intro p9 h9; kst_mem)
        case ho => (intro p9 h9; kst_mem)
        case hr => (intro z h1 h2 h3; simp [h1, kstB])
      case done2 =>
        intro _ u4 h4 tk4 _ F4 N4
        k_steps
        rename (News _ _ _ _) => N3
        rename (Fr _ _ _ _) => F3
        dsimp only at N3 F3 ⊢
        rw [hR]
        refine law_p4t w mean mg mb dp un gd cn fa ccd _ outer A₀ base h₀ L _ _ _ da od kvs ([(wa, listOf wvs.toArray wn), (wia, listOf wivs.toArray win), (c3, oL), (la, listOf lvs.toArray ln)] ++ own) (Tc.map fun p => (remS p.1, p.2)) (wcs.map one1 ++ [Str.ofString ""]) form k pl bl len ((k.length : Int) - 2) c cc' t ?_ ct t1 t2 t3 t4 hB (fr_canon F3 ?_) hK (cb_drop N3 ?_) hlo hD hP (by rw [List.length_map]; exact hTl) g5.1 g5.2 (by omega) hE hT hpl hbl hlen (by omega) hdp hun g4' ?_
        rotate_left
        · simp only [List.forall_mem_cons]
          exact ⟨by with_unfolding_all rfl, by with_unfolding_all rfl, by with_unfolding_all rfl, by with_unfolding_all rfl, by with_unfolding_all rfl, by with_unfolding_all rfl, by with_unfolding_all rfl, by with_unfolding_all rfl, List.forall_mem_nil _⟩
        · simp only [List.cons_append, List.nil_append]
          refine List.forall_mem_cons.mpr ⟨by k_memK, List.forall_mem_cons.mpr ⟨by k_memK, List.forall_mem_cons.mpr ⟨by k_memK, List.forall_mem_cons.mpr ⟨by k_memK, List.forall_mem_cons.mpr ⟨by k_memK, ?_⟩⟩⟩⟩⟩
          intro p9 h9; kst_mem
        · intro h' tk' m' ct' Fx hfx hzx Nx
          show InvEndG _ _ _ _ _ _
          simp only [List.cons_append, List.nil_append] at Nx
          refine ls_end (c + (if ellS (wcs.map one1 ++ [Str.ofString ""]) k then cc' else 0), ct') Fx Nx ?hn ?ho hoff ?hk2 ?hr ?hq
          case hn => (refine List.forall_mem_cons.mpr ⟨by k_memK, List.forall_mem_cons.mpr ⟨by k_memK, List.forall_mem_cons.mpr ⟨by k_memK, List.forall_mem_cons.mpr ⟨by k_memK, List.forall_mem_cons.mpr ⟨by k_memK, List.forall_mem_nil _⟩⟩⟩⟩⟩)
          case ho => (intro p9 h9; kst_mem)
          case hk2 => exact List.forall_mem_cons.mpr ⟨hfx, List.forall_mem_nil _⟩
          case hr =>
            intro z h1 h2 h3
            simp only [List.forall_mem_cons, List.not_mem_nil, false_implies, implies_true, and_true, ne_eq] at h2
            simp only [List.contains_cons, List.contains_nil, Bool.or_false, Bool.or_eq_false_iff, beq_eq_false_iff_ne, ne_eq] at h3
            rw [hzx z h2 h3.2.1 h3.2.2.1 h3.2.2.2.2, kst_canon (by simp only [List.forall_mem_cons]; exact ⟨by with_unfolding_all rfl, by with_unfolding_all rfl, by with_unfolding_all rfl, by with_unfolding_all rfl, by with_unfolding_all rfl, by with_unfolding_all rfl, by with_unfolding_all rfl, by with_unfolding_all rfl, List.forall_mem_nil _⟩)]
            simp [kstB, lsOut, h1, h2, h3]
          case hq =>
            have hs : (Tc.map fun p => (remS p.1, p.2)).take (i + 1) = (Tc.map fun p => (remS p.1, p.2)).take i ++ [(k, cc')] := by
              rw [List.take_add_one, List.getElem?_map, hy]
              simp [hk]
            rw [hs, fitS_snoc, ← hp]
  case done =>
    rintro ⟨c, ct⟩ u h2 tk2 hp F2 N2
    rw [flat_len hP, List.take_length, hfit] at hp
    delta lsOut at F2
    refine law_p5 w mean mg mb dp un gd cn fa ccd _ outer A₀ base h₀ L _ _ qk wa wvs wn (wcs.map one1) pl bl len c t1 t2 t3 ct hB (fr_canon F2 ?_) hK (cb_drop N2 ?_) hW (by rw [List.length_map]; exact hwl) hT hpl hbl hlen hdp hun ?_
    · simp only [List.forall_mem_cons]
      exact ⟨by with_unfolding_all rfl, by with_unfolding_all rfl, by with_unfolding_all rfl, by with_unfolding_all rfl, by with_unfolding_all rfl, List.forall_mem_nil _⟩
    · exact List.forall_mem_cons.mpr ⟨.head _, List.forall_mem_nil _⟩
    · intro h' tk' m' F'
      dsimp only at hp
      rw [List.length_map, ← hp, beq_self_eq_true]
      exact hret h' tk' m' F'
end Mine
end
section
open PySem PySem.W PyProof.Rows PySem.Spec PySem.Calls PyProof.V
set_option Elab.async false
set_option maxRecDepth 100000
set_option maxHeartbeats 8000000
namespace Mine
local macro_rules | `(tactic| walk_at "exec Assign cons ListComp") => `(tactic| (k_here; k_dflt (refine ALC_stop (F₀ := by k_asm) (by rfl) (by with_unfolding_all rfl) (by with_unfolding_all rfl) (by decide) (by rfl) (by decide) (by rfl) (by rfl) (by rfl) ?_)))
local macro_rules | `(tactic| walk_at "eval ListComp") => `(tactic| (k_here; k_dflt (refine LC_stop (F₀ := by k_asm) (by with_unfolding_all rfl) (by decide) (by rfl) (by decide) (by rfl) ?_)))
local macro_rules | `(tactic| walk_at "loadName") => `(tactic| (k_here; k_dflt (refine' loadX_L ?k1 ?k2 ?_; (case k1 => k_asm); (case k2 => with_unfolding_all rfl); k_whole)))
theorem range_elim {α : Type} (l : List α) (g : Nat → Str) (f : α → Str) (hg : ∀ i c, l[i]? = some c → g i = f c) : (List.range l.length).map g = l.map f := by
  refine List.ext_getElem? fun i => ?_
  rw [List.getElem?_map, List.getElem?_map]
  by_cases h : i < l.length
  · rw [List.getElem?_range h, List.getElem?_eq_getElem h]
    exact congrArg some (hg i _ (List.getElem?_eq_getElem h))
  · rw [List.getElem?_eq_none (by rw [List.length_range]; omega), List.getElem?_eq_none (by omega)]; rfl
def formS (ls : List Nat) : Str := Str.ofString "# ..." ++ Txt.join (Str.ofString "") (ls.map fun c => one1 c ++ Str.ofString "...")
theorem formS_len (ls : List Nat) (h : ls.length ≤ 3) : (Txt.join (Str.ofString "") (ls.map fun c => one1 c ++ Str.ofString "...")).length ≤ 100 := by
  match ls, h with
  | [], _ => decide +kernel
  | [_], _ => exact Nat.le_of_ble_eq_true rfl
  | [_, _], _ => exact Nat.le_of_ble_eq_true rfl
  | [_, _, _], _ => exact Nat.le_of_ble_eq_true rfl
def wordAt (lets : List Nat) (solid : Int) (k : Int) : Nat := (lets[(k.fmod solid).toNat]?).getD 0
theorem law_p3b (w : World) (mean : ExcName → Option Value) (mg mb : Str → Option Value) :
  ∀ (dp un : Nat) (gd : Option (List Code)) (cn : Str) (fa : Addr) (ccd : Value) (c1 c2 c3 c4 : Addr) (outer : List Env) (A₀ : Around) (base h₀ : Heap) (L : Addr) (u : Str → Option Value) (s : Shared) (qk : Flow → Shared → Prop)
    (da wia la sa : Addr) (wivs lvs svs : List Value) (win ln sn : Nat) (od oL oS : Obj) (sns : List Int) (kvs : List (Str × Value)) (lets wits : List Nat) (Tc : List (List Nat × Int)) (solid : Int) (pl bl len : Int) (t1 t2 t3 t4 : Tok),
  Below A₀ base outer h₀ → Fr h₀ L s.heap (kstB u [(Str.ofString "s", .ref sa), (Str.ofString "plain", .int pl t1), (Str.ofString "blank", .int bl t2), (Str.ofString "length", .int len t3), (Str.ofString "tally", .ref da), (Str.ofString "within", .ref wia)]) →
  (hd.heap_39 w.params).In h₀ → News h₀ L s.heap [(da, od), (wia, listOf wivs.toArray win), (c3, oL), (la, listOf lvs.toArray ln), (c1, oS), (sa, listOf svs.toArray sn)] → oL.data = .cell (some (.ref la)) → oS.data = .cell (some (.int solid t4)) → IntsAre svs sns → sns.length ≤ 6 → StrsAre lvs (lets.map one1) → (lets.length : Int) = solid → 1 ≤ solid ∧ solid ≤ 2 →
  StrsAre wivs (wits.map one1) → wits.length ≤ 3 →
  (da == sysModules) = false → od.IsDictOf (PySem.strKind PySem.Challenge.rw_rl0002_01.row.toRowW.prog w) kvs → FlatPairs PyData.str kvs (kdpD (Tc.map fun p => (remS p.1, p.2))) → Tc.length ≤ 1000 → GoodT lets wits pl bl len Tc →
  (∀ (y : Str) (t t2 : Tok) (news : List (Addr × Obj)), CbClaim PySem.Challenge.rw_rl0002_01.row.toRowW.prog w (hd.heap_39 w.params) hd.view_39 (looseW hd.view_39 []) mean mg mb 21 news [] (y.length ≤ 100) [.str (formS ((sns.drop 3).map (wordAt lets solid))) t, .str y t2] (fun _ => .bool (ellS (((sns.drop 3).map (wordAt lets solid)).map one1 ++ [Str.ofString ""]) y))) →
  Top hd.view_39 (looseW hd.view_39 []) mean mg mb h₀ →
  1 ≤ pl ∧ pl ≤ 3 → 0 ≤ bl ∧ bl ≤ 2 → 1 ≤ len ∧ len ≤ 4 → dp + 1 < recursionLimit → un + 8 < cLine →
  (fitS (((sns.drop 3).map (wordAt lets solid)).map one1 ++ [Str.ofString ""]) (Tc.map fun p => (remS p.1, p.2)) = toldGo ((sns.drop 3).map (wordAt lets solid)).length pl bl len (len + 1).toNat) →
  (∀ (h' : Heap) (tk' : Nat) (m' : Str → Option Value), Fr h₀ L h' m' → qk (.ret (.bool true)) { s with heap := h', toks := tk' }) →
  wpAny (model PySem.Challenge.rw_rl0002_01.row.toRowW.prog w) (ktrTop dp un gd cn lawScope L fa ccd [(Str.ofString "signs", c4), (Str.ofString "letters", c3), (Str.ofString "base", c2), (Str.ofString "solid", c1)] outer) (execs (lawBody.drop 18) (envX cn lawScope L fa ccd [(Str.ofString "signs", c4), (Str.ofString "letters", c3), (Str.ofString "base", c2), (Str.ofString "solid", c1)])) qk (fun _ _ => False) s := by
  k_fill
  w_on
  intro dp un gd cn fa ccd c1 c2 c3 c4 outer A₀ base h₀ L u s qk da wia la sa wivs lvs svs win ln sn od oL oS sns kvs lets wits Tc solid pl bl len t1 t2 t3 t4 hB hF hK hN hoL hoS hS hSl hLe hLl hso hWi hwil hlo hD hP hTl hG hE hT hpl hbl hlen hdp hun hfit hret
  delta lawScope lawBody
  dsimp only [lawStmt, PySem.Challenge.pw_rl0002_01, List.drop, List.headD, fnBody, fnScope]
  refine execs_cut 2 ?_
  intro R hR
  simp only [List.take_succ_cons, List.take_zero, List.cons_append, List.nil_append]
  k_steps
  rename (News _ _ _ _) => N1
  rename (Fr _ _ _ _) => F1
  rename (IntsAre _ (List.drop 3 _)) => I1
  rename List Value => ws1
  delta Hold
  dsimp only at N1 F1 ⊢
  refine src_list (fun i => one1 ((sns.drop 3)[i]?.elim 0 (wordAt lets solid))) rfl F1 N1 (.head _) ?hsz ?helt ?hF
  case hsz => (rw [I1.length, List.length_drop]; omega)
  case helt =>
    intro g i v I oI C oC D ys m2 h4 tk4 E' hv hNs hm2 F2 N2 hoff hne
    obtain ⟨k, kt, rfl, hk⟩ := I1.at i v hv
    have hi : (k.fmod solid).toNat < lets.length := by
      have h1 := fdiv_fmod_facts k solid
      have h2 := Int.fmod_lt_of_pos k (show 0 < solid by omega)
      have h3 := Int.fmod_nonneg_of_pos k (show 0 < solid by omega)
      omega
    have h3 := Int.fmod_nonneg_of_pos k (show 0 < solid by omega)
    have h4' := Int.fmod_lt_of_pos k (show 0 < solid by omega)
    obtain ⟨lt, hlt⟩ := hLe.at (show (lets.map one1)[(k.fmod solid).toNat]? = some (one1 (wordAt lets solid k)) by
      rw [List.getElem?_map]; unfold wordAt; rw [List.getElem?_eq_getElem hi]; rfl)
    k_steps
    refine ⟨_, _, _, congrArg (fun q => Value.str q _) ?_, rfl, F2, N2⟩
    rw [hk]
    show (List.map one1 lets).getD _ _ = one1 (wordAt lets solid k)
    unfold wordAt
    rw [List.getD_eq_getElem?_getD, List.getElem?_map, List.getElem?_eq_getElem hi]; rfl
  case hF =>
    intro g ys hys
    unfold LCg.FinA
    intro D h4 tk4 F2 N2 hoff
    show wpAny _ _ _ _ _ _
    have hys' : StrsAre ys (((sns.drop 3).map (wordAt lets solid)).map one1) := by
      have e : (List.range ws1.length).map (fun i => one1 ((sns.drop 3)[i]?.elim 0 (wordAt lets solid))) = ((sns.drop 3).map (wordAt lets solid)).map one1 := by
        rw [I1.length, List.map_map]
        exact range_elim _ _ _ fun i c h => by rw [h]; rfl
      rw [← e]; exact hys
    k_steps
    delta Hold
    dsimp only
    refine src_list (fun i => ((sns.drop 3).map (wordAt lets solid))[i]?.elim ⟨#[]⟩ fun c => one1 c ++ Str.ofString "...") rfl F2 N2 (.head _) ?hsz2 ?helt2 ?hF2
    case hsz2 => (rw [hys'.length, List.length_map, List.length_map, List.length_drop]; omega)
    case helt2 =>
      intro g2 i v I oI C oC D2 ys2 m2 h5 tk5 E' hv hNs hm2 F3 N3 hoff2 hne2
      obtain ⟨y, yt, rfl, hy⟩ := hys'.item i v hv
      rw [List.getElem?_map] at hy
      obtain ⟨c, hc, rfl⟩ := Option.map_eq_some_iff.mp hy
      k_steps
      refine ⟨_, _, _, congrArg (fun q => Value.str q _) ?_, rfl, F3, N3⟩
      rw [hc]; rfl
    case hF2 =>
      intro g2 ys2 hys2
      unfold LCg.FinE
      intro D2 h5 tk5 F3 N3 hoff2
      show wpAny _ _ _ _ _ _
      have hys2' : StrsAre ys2 (((sns.drop 3).map (wordAt lets solid)).map fun c => one1 c ++ Str.ofString "...") := by
        have e : (List.range ys.length).map (fun i => ((sns.drop 3).map (wordAt lets solid))[i]?.elim ⟨#[]⟩ fun c => one1 c ++ Str.ofString "...") = (((sns.drop 3).map (wordAt lets solid)).map fun c => one1 c ++ Str.ofString "...") := by
          rw [hys'.length, List.length_map]
          exact range_elim _ _ _ fun i c h => by rw [h]; rfl
        rw [← e]; exact hys2
      k_steps
      dsimp only
      have hsum : (((((sns.drop 3).map (wordAt lets solid)).map fun c => one1 c ++ Str.ofString "...").map (·.length)).sum + ((((sns.drop 3).map (wordAt lets solid)).map fun c => one1 c ++ Str.ofString "...")).length ≤ 1048576) := by
        have e1 : (((sns.drop 3).map (wordAt lets solid)).map fun c => one1 c ++ Str.ofString "...").map (·.length) = (sns.drop 3).map fun _ => 4 := by
          rw [List.map_map, List.map_map]
          refine List.map_congr_left fun a _ => ?_
          show (one1 (wordAt lets solid a) ++ Str.ofString "...").length = 4
          rw [Str.length_append]; rfl
        rw [e1, List.length_map, List.length_map, List.map_const', List.sum_replicate_nat, List.length_drop]
        omega
      refine join_listW (News.isList (items := ys2.toArray) (n := ys2.length) (d := none) (sl := #[]) N3 (.head _)) (by simpa using hys2') (by decide +kernel) hsum ?_
      intro t9 tk9
      have hfl : (Txt.join (Str.ofString "") (((sns.drop 3).map (wordAt lets solid)).map fun c => one1 c ++ Str.ofString "...")).length ≤ 100 := formS_len _ (by rw [List.length_map, List.length_drop]; omega)
      k_steps
      rename (News _ _ _ _) => N4
      rename (Fr _ _ _ _) => F4
      dsimp only at N4 F4 ⊢
      rw [hR]
      refine law_p4 w mean mg mb dp un gd cn fa ccd c1 c2 c3 c4 outer A₀ base h₀ L _ _ qk D da wia la ys wivs lvs ys.length win ln od oL kvs ((sns.drop 3).map (wordAt lets solid)) lets wits Tc (formS ((sns.drop 3).map (wordAt lets solid))) pl bl len t1 t2 t3 ?_ hB (fr_canon F4 ?_) hK (cb_drop N4 ?_) hoL hys' (by rw [List.length_map, List.length_drop]; omega) hWi hLe hwil (by omega) hlo hD hP hTl hG hE hT hpl hbl hlen hdp hun hfit hret
      rotate_left
      · simp only [List.forall_mem_cons]
        exact ⟨by with_unfolding_all rfl, by with_unfolding_all rfl, by with_unfolding_all rfl, by with_unfolding_all rfl, by with_unfolding_all rfl, by with_unfolding_all rfl, by with_unfolding_all rfl, List.forall_mem_nil _⟩
      · exact List.forall_mem_cons.mpr ⟨by k_memK, List.forall_mem_cons.mpr ⟨by k_memK, List.forall_mem_cons.mpr ⟨by k_memK, List.forall_mem_cons.mpr ⟨by k_memK, List.forall_mem_cons.mpr ⟨by k_memK, List.forall_mem_nil _⟩⟩⟩⟩⟩
end Mine
end
section
open PySem PySem.W PyProof.Rows PySem.Spec PySem.Calls PyProof.V
set_option Elab.async false
set_option maxRecDepth 100000
set_option maxHeartbeats 8000000
namespace Mine
def sortsGo (so pl : Int) : Nat → Int
  | 0 => 1
  | i + 1 => sortsGo so pl i + so * pl ^ i
theorem sorts_step {so pl c kk : Int} {i : Nat} (hi : kk = 1 + (i : Int)) (hp : c = sortsGo so pl i) : c + so * pl ^ (kk - 1).toNat = sortsGo so pl (i + 1) := by
  have e : (kk - 1).toNat = i := by omega
  rw [e, hp]; rfl
local macro_rules | `(tactic| walk_at "exec For Name Call cons nil") => `(tactic| (k_here; (rename Fr _ _ _ _ => lF'); (with_unfolding_all refine' For_stop lF' ?k1 ?k2 ?_ ?k3; (case k1 => exact rfl); (case k2 => exact rfl); (case k3 => first | exact passes_false | passes_own); k_whole)))
local macro_rules | `(tactic| walk_at "loadName") => `(tactic| (k_here; k_dflt (refine' loadX_L ?k1 ?k2 ?_; (case k1 => k_asm); (case k2 => with_unfolding_all rfl); k_whole)))
local macro_rules | `(tactic| mul_fits) => `(tactic| exact mulOk_powR (by omega) (by omega) (by omega))
theorem law_p3c (w : World) (mean : ExcName → Option Value) (mg mb : Str → Option Value) :
  ∀ (dp un : Nat) (gd : Option (List Code)) (cn : Str) (fa : Addr) (ccd : Value) (c1 c2 c3 c4 : Addr) (outer : List Env) (A₀ : Around) (base h₀ : Heap) (L : Addr) (u : Str → Option Value) (s : Shared) (qk : Flow → Shared → Prop)
    (da wia la sa : Addr) (wivs lvs svs : List Value) (win ln sn : Nat) (od oL oS : Obj) (sns : List Int) (kvs : List (Str × Value)) (lets wits : List Nat) (Tc : List (List Nat × Int)) (solid : Int) (pl bl len : Int) (t1 t2 t3 t4 : Tok),
  Below A₀ base outer h₀ → Fr h₀ L s.heap (kstB u [(Str.ofString "s", .ref sa), (Str.ofString "plain", .int pl t1), (Str.ofString "blank", .int bl t2), (Str.ofString "length", .int len t3), (Str.ofString "tally", .ref da), (Str.ofString "within", .ref wia)]) →
  (hd.heap_39 w.params).In h₀ → News h₀ L s.heap [(da, od), (wia, listOf wivs.toArray win), (c3, oL), (la, listOf lvs.toArray ln), (c1, oS), (sa, listOf svs.toArray sn)] → oL.data = .cell (some (.ref la)) → oS.data = .cell (some (.int solid t4)) → IntsAre svs sns → sns.length ≤ 6 → StrsAre lvs (lets.map one1) → (lets.length : Int) = solid → 1 ≤ solid ∧ solid ≤ 2 →
  StrsAre wivs (wits.map one1) → wits.length ≤ 3 →
  (da == sysModules) = false → od.IsDictOf (PySem.strKind PySem.Challenge.rw_rl0002_01.row.toRowW.prog w) kvs → FlatPairs PyData.str kvs (kdpD (Tc.map fun p => (remS p.1, p.2))) → Tc.length ≤ 1000 → GoodT lets wits pl bl len Tc →
  (∀ (y : Str) (t t2 : Tok) (news : List (Addr × Obj)), CbClaim PySem.Challenge.rw_rl0002_01.row.toRowW.prog w (hd.heap_39 w.params) hd.view_39 (looseW hd.view_39 []) mean mg mb 21 news [] (y.length ≤ 100) [.str (formS ((sns.drop 3).map (wordAt lets solid))) t, .str y t2] (fun _ => .bool (ellS (((sns.drop 3).map (wordAt lets solid)).map one1 ++ [Str.ofString ""]) y))) →
  Top hd.view_39 (looseW hd.view_39 []) mean mg mb h₀ →
  1 ≤ pl ∧ pl ≤ 3 → 0 ≤ bl ∧ bl ≤ 2 → 1 ≤ len ∧ len ≤ 4 → dp + 1 < recursionLimit → un + 8 < cLine →
  ((Tc.length : Nat) : Int) = sortsGo solid pl len.toNat →
  (fitS (((sns.drop 3).map (wordAt lets solid)).map one1 ++ [Str.ofString ""]) (Tc.map fun p => (remS p.1, p.2)) = toldGo ((sns.drop 3).map (wordAt lets solid)).length pl bl len (len + 1).toNat) →
  (∀ (h' : Heap) (tk' : Nat) (m' : Str → Option Value), Fr h₀ L h' m' → qk (.ret (.bool true)) { s with heap := h', toks := tk' }) →
  wpAny (model PySem.Challenge.rw_rl0002_01.row.toRowW.prog w) (ktrTop dp un gd cn lawScope L fa ccd [(Str.ofString "signs", c4), (Str.ofString "letters", c3), (Str.ofString "base", c2), (Str.ofString "solid", c1)] outer) (execs (lawBody.drop 15) (envX cn lawScope L fa ccd [(Str.ofString "signs", c4), (Str.ofString "letters", c3), (Str.ofString "base", c2), (Str.ofString "solid", c1)])) qk (fun _ _ => False) s := by
  k_fill
  w_on
  intro dp un gd cn fa ccd c1 c2 c3 c4 outer A₀ base h₀ L u s qk da wia la sa wivs lvs svs win ln sn od oL oS sns kvs lets wits Tc solid pl bl len t1 t2 t3 t4 hB hF hK hN hoL hoS hS hSl hLe hLl hso hWi hwil hlo hD hP hTl hG hE hT hpl hbl hlen hdp hun hsorts hfit hret
  delta lawScope lawBody
  dsimp only [lawStmt, PySem.Challenge.pw_rl0002_01, List.drop, List.headD, fnBody, fnScope]
  refine execs_cut 3 ?_
  intro R hR
  simp only [List.take_succ_cons, List.take_zero, List.cons_append, List.nil_append]
  k_steps
  rename (IsRange _ _ _ _ _ _ _ _) => R1
  rename (News _ _ _ _) => N1
  rename (Fr _ _ _ _) => F1
  delta Hold
  dsimp only at N1 F1 R1 ⊢
  refine ls_range (n := len.toNat) (σ := Int × Tok) (fun _ => _) (fun c => [(Str.ofString "sorts", .int c.1 c.2)]) [] (fun i c => c.1 = sortsGo solid pl i) (1, ?tk0) rfl R1 (small_of (by omega) (by omega)) (by rw [size_of (by omega) (by omega)]; simp) F1 N1 ?hk rfl ?turn ?done
  case hk => (refine List.forall_mem_cons.mpr ⟨?_, List.forall_mem_nil _⟩; with_unfolding_all rfl)
  case turn =>
    rintro ⟨c, ct⟩ i k t u h2 tk2 own hki hin hoff hp F2 N2
    delta lsIn at F2
    dsimp only [kstB] at F2 hp
    simp only [List.cons_append, List.nil_append] at N2
    k_steps
    rename (News _ _ _ _) => N3
    rename (Fr _ _ _ _) => F3
    refine ls_end (?_, ?_) F3 N3 ?hn ?ho hoff ?hk ?hr ?hq
    case hk => (refine List.forall_mem_cons.mpr ⟨?_, List.forall_mem_nil _⟩; with_unfolding_all rfl)
    case hn => kst_in
    case ho => (intro p hp; kst_mem)
    case hr => (intro z h1 h2 h3; simp only [List.forall_mem_cons, List.not_mem_nil, false_implies, implies_true, and_true, ne_eq] at h2; simp [h1, h2, kstB])
    case hq => exact sorts_step hki hp
  case done =>
    rintro ⟨c, ct⟩ u2 h2 tk2 hp F2 N2
    dsimp only at hp
    have hk9 : (((kdpD (Tc.map fun p => (remS p.1, p.2))).length : Nat) : Int) = c := by
      rw [hp, ← hsorts]; simp [kdpD]
    k_steps
    · exact absurd hk9 (by assumption)
    · rename (News _ _ _ _) => N4
      rename (Fr _ _ _ _) => F4
      delta lsOut at F4
      dsimp only at N4 F4 ⊢
      rw [hR]
      refine law_p3b w mean mg mb dp un gd cn fa ccd c1 c2 c3 c4 outer A₀ base h₀ L _ _ qk da wia la sa wivs lvs svs win ln sn od oL oS sns kvs lets wits Tc solid pl bl len t1 t2 t3 t4 hB (fr_canon F4 ?_) hK N4 hoL hoS (by assumption) hSl hLe hLl hso hWi hwil hlo hD hP hTl hG hE hT hpl hbl hlen hdp hun hfit hret
      simp only [List.forall_mem_cons]
      exact ⟨by with_unfolding_all rfl, by with_unfolding_all rfl, by with_unfolding_all rfl, by with_unfolding_all rfl, by with_unfolding_all rfl, by with_unfolding_all rfl, List.forall_mem_nil _⟩
end Mine
end
section
open PySem PySem.W PyProof.Rows PySem.Spec PySem.Calls PyProof.V
set_option Elab.async false
set_option maxRecDepth 100000
set_option maxHeartbeats 8000000
namespace Mine
def textsGo (gs : List Str) : Nat → List Str
  | 0 => [Str.ofString ""]
  | i + 1 => prodL (textsGo gs i) gs
theorem textsGo_len (gs : List Str) : ∀ i, (textsGo gs i).length = gs.length ^ i
  | 0 => rfl
  | i + 1 => by show (prodL _ _).length = _; rw [prodL_len, textsGo_len gs i, Nat.pow_succ]
theorem textsGo_mem {gcs : List Nat} : ∀ {i : Nat} {x : Str}, x ∈ textsGo (gcs.map one1) i → x.length = i
  | 0, x, h => by rw [List.mem_singleton.mp h]; rfl
  | i + 1, x, h => by
    obtain ⟨y, hy, h2⟩ := List.mem_flatMap.mp h
    obtain ⟨z, hz, rfl⟩ := List.mem_map.mp h2
    obtain ⟨c, _, rfl⟩ := List.mem_map.mp hz
    rw [Str.length_append, textsGo_mem hy]; rfl
theorem textsGo_le {gs : List Str} {i : Nat} (h : gs.length ≤ 6) (hi : i ≤ 4) : (textsGo gs i).length ≤ 1296 := by
  rw [textsGo_len]
  have h1 : gs.length ^ i ≤ 6 ^ i := Nat.pow_le_pow_left h i
  have h2 : 6 ^ i ≤ 6 ^ 4 := Nat.pow_le_pow_right (by omega) hi
  omega
local macro_rules | `(tactic| walk_at "exec For Name Call cons nil") => `(tactic| (k_here; (rename Fr _ _ _ _ => lF'); (with_unfolding_all refine' For_stop lF' ?k1 ?k2 ?_ ?k3; (case k1 => exact rfl); (case k2 => exact rfl); (case k3 => first | exact passes_false | passes_own); k_whole)))
local macro_rules | `(tactic| walk_at "eval ListComp") => `(tactic| (k_here; k_dflt (refine LC_stop (F₀ := by k_asm) (by with_unfolding_all rfl) (by decide) (by rfl) (by decide) (by rfl) ?_)))
local macro_rules | `(tactic| walk_at "loadName") => `(tactic| (k_here; k_dflt (refine' loadX_L ?k1 ?k2 ?_; (case k1 => k_asm); (case k2 => with_unfolding_all rfl); k_whole)))
theorem stripS_len (x : Str) : (stripS x).length ≤ x.length := Txt.slice_le x _ _
local macro_rules | `(tactic| walk_at "call ref") => `(tactic| (k_here; k_dflt (first
  | refine u_strip (by k_asm) (by k_asm) (by k_asm) (by k_asm) (by k_asm) (by first | exact rfl | assumption) (by omega) (by ktr_room) (by ktr_units) ?_
  | refine u_comment (by k_asm) (by k_asm) (by k_asm) (by k_asm) (by k_asm) (by first | exact rfl | assumption) (Nat.le_trans (stripS_len _) (by omega)) (by ktr_room) (by ktr_units) ?_); intro t9 h9 tk9 F9 N9; (try dsimp only)))
theorem law_p2b (w : World) (mean : ExcName → Option Value) (mg mb : Str → Option Value) :
  ∀ (dp un : Nat) (gd : Option (List Code)) (cn : Str) (fa : Addr) (ccd : Value) (c1 c2 c3 c4 : Addr) (outer : List Env) (A₀ : Around) (base h₀ : Heap) (L : Addr) (u : Str → Option Value) (s : Shared) (qk : Flow → Shared → Prop)
    (wia la sa ga : Addr) (wivs lvs svs gvs : List Value) (win ln sn gn : Nat) (oL oS oG : Obj) (sns : List Int) (lets wits gcs : List Nat) (Tc : List (List Nat × Int)) (solid : Int) (pl bl len : Int) (t1 t2 t3 t4 : Tok),
  Below A₀ base outer h₀ → Fr h₀ L s.heap (kstB u [(Str.ofString "s", .ref sa), (Str.ofString "plain", .int pl t1), (Str.ofString "blank", .int bl t2), (Str.ofString "length", .int len t3), (Str.ofString "within", .ref wia)]) →
  (hd.heap_39 w.params).In h₀ → News h₀ L s.heap [(wia, listOf wivs.toArray win), (c3, oL), (la, listOf lvs.toArray ln), (c1, oS), (sa, listOf svs.toArray sn), (c4, oG), (ga, listOf gvs.toArray gn)] → oL.data = .cell (some (.ref la)) → oS.data = .cell (some (.int solid t4)) → oG.data = .cell (some (.ref ga)) → IntsAre svs sns → sns.length ≤ 6 → StrsAre lvs (lets.map one1) → (lets.length : Int) = solid → 1 ≤ solid ∧ solid ≤ 2 →
  StrsAre wivs (wits.map one1) → wits.length ≤ 3 → StrsAre gvs (gcs.map one1) → gcs.length ≤ 6 →
  Top hd.view_39 (looseW hd.view_39 []) mean mg mb h₀ →
  1 ≤ pl ∧ pl ≤ 3 → 0 ≤ bl ∧ bl ≤ 2 → 1 ≤ len ∧ len ≤ 4 → dp + 1 < recursionLimit → un + 8 < cLine →
  gcs.length ^ len.toNat ≤ 1000 → tallyS ((textsGo (gcs.map one1) len.toNat).map fun x => commentS (stripS x)) = (Tc.map fun p => (remS p.1, p.2)) → Tc.length ≤ 1000 → GoodT lets wits pl bl len Tc →
  (∀ (y : Str) (t t2 : Tok) (news : List (Addr × Obj)), CbClaim PySem.Challenge.rw_rl0002_01.row.toRowW.prog w (hd.heap_39 w.params) hd.view_39 (looseW hd.view_39 []) mean mg mb 21 news [] (y.length ≤ 100) [.str (formS ((sns.drop 3).map (wordAt lets solid))) t, .str y t2] (fun _ => .bool (ellS (((sns.drop 3).map (wordAt lets solid)).map one1 ++ [Str.ofString ""]) y))) →
  ((Tc.length : Nat) : Int) = sortsGo solid pl len.toNat →
  (fitS (((sns.drop 3).map (wordAt lets solid)).map one1 ++ [Str.ofString ""]) (Tc.map fun p => (remS p.1, p.2)) = toldGo ((sns.drop 3).map (wordAt lets solid)).length pl bl len (len + 1).toNat) →
  (∀ (h' : Heap) (tk' : Nat) (m' : Str → Option Value), Fr h₀ L h' m' → qk (.ret (.bool true)) { s with heap := h', toks := tk' }) →
  wpAny (model PySem.Challenge.rw_rl0002_01.row.toRowW.prog w) (ktrTop dp un gd cn lawScope L fa ccd [(Str.ofString "signs", c4), (Str.ofString "letters", c3), (Str.ofString "base", c2), (Str.ofString "solid", c1)] outer) (execs (lawBody.drop 12) (envX cn lawScope L fa ccd [(Str.ofString "signs", c4), (Str.ofString "letters", c3), (Str.ofString "base", c2), (Str.ofString "solid", c1)])) qk (fun _ _ => False) s := by
  k_fill
  w_on
  intro dp un gd cn fa ccd c1 c2 c3 c4 outer A₀ base h₀ L u s qk wia la sa ga wivs lvs svs gvs win ln sn gn oL oS oG sns lets wits gcs Tc solid pl bl len t1 t2 t3 t4 hB hF hK hN hoL hoS hoG hS hSl hLe hLl hso hWi hwil hGs hgl hT hpl hbl hlen hdp hun hgn hTal hTl hG hE hsorts hfit hret
  delta lawScope lawBody
  dsimp only [lawStmt, PySem.Challenge.pw_rl0002_01, List.drop, List.headD, fnBody, fnScope]
  refine execs_cut 3 ?_
  intro R hR
  simp only [List.take_succ_cons, List.take_zero, List.cons_append, List.nil_append]
  k_steps
  rename (IsRange _ _ _ _ _ _ _ _) => R1
  rename (News _ _ _ _) => N1
  rename (Fr _ _ _ _) => F1
  rename (_ < _ ∧ _ < _ ∧ _) => lx
  delta Hold
  dsimp only at N1 F1 R1 ⊢
  refine ls_range (n := len.toNat) (σ := Addr × List Value × Nat × List Str) (fun c => (c.1, listOf c.2.1.toArray c.2.2.1) :: _) (fun c => [(Str.ofString "texts", .ref c.1)]) [] (fun i c => StrsAre c.2.1 c.2.2.2 ∧ c.2.2.2 = textsGo (gcs.map one1) i ∧ @LT.lt Nat _ wia c.1) (_, _, _, [Str.ofString ""]) rfl R1 (small_of (by omega) (by omega)) (by rw [size_of (by omega) (by omega)]; simp) F1 N1 ?hk ⟨.cons _ _ .nil, rfl, lx.1⟩ ?turn ?done
  case hk => (refine List.forall_mem_cons.mpr ⟨?_, List.forall_mem_nil _⟩; with_unfolding_all rfl)
  case turn =>
    rintro ⟨cx, cvs, cnn, cts⟩ i k t u h2 tk2 own hki hin hoff ⟨hp, hp2, hp3⟩ F2 N2
    delta lsIn at F2
    dsimp only [kstB] at F2 hp hp2 hp3
    simp only [List.cons_append, List.nil_append] at N2
    k_steps
    refine assign_comp2 (news := (cx, listOf cvs.toArray cnn) :: _) (xs := cts) (ys := gcs.map one1) rfl (by with_unfolding_all rfl) (by with_unfolding_all rfl) (by decide) (by rfl) (by decide) (by rfl) (by rfl) (by decide) (by rfl) (by rfl) F2 N2 (ax := cx) (vs := cvs) (n1 := cnn) (.head _) (bx := ga) (ws := gvs) (n2 := gn) (by k_memK) hp hGs ?hsz ?hi0 ?hi1 ?helt ?hs0 ?hs1 ?hdone
    case hsz =>
      have h1 := textsGo_le (gs := gcs.map one1) (i := i) (by rw [List.length_map]; omega) (by omega)
      have h2 : (gcs.map one1).length ≤ 6 := by rw [List.length_map]; omega
      rw [hp2]
      have h3 : (textsGo (gcs.map one1) i).length * (gcs.map one1).length ≤ 1296 * 6 := Nat.mul_le_mul h1 h2
      omega
    case hs0 => (intro _; with_unfolding_all rfl)
    case hs1 => (intro _ _; with_unfolding_all rfl)
    case hi0 => k_steps
    case hi1 =>
      intro C oC m2 h3 tk3 s3 E' hNs F3 N3
      k_steps
    case helt =>
      intro C oC m2 h3 tk3 s3 E' x xt y yt hx hy hNs hm0 hm1 F3 N3
      have hxl : x.length = i := by rw [hp2] at hx; exact textsGo_mem hx
      have hyl : y.length = 1 := by obtain ⟨q, _, rfl⟩ := List.mem_map.mp hy; rfl
      k_steps
    case hdone =>
      intro D h3 tk3 zs F3 N3 lt3 hz
      k_steps
      refine ls_end (D, zs, zs.length, prodL cts (gcs.map one1)) F3 N3 ?hn ?ho ?ha ?hk ?hr ⟨hz, ?hq, ?hq2⟩
      case hk => (refine List.forall_mem_cons.mpr ⟨?_, List.forall_mem_nil _⟩; with_unfolding_all rfl)
      case hn => kst_in
      case ho => (intro p hp; kst_mem)
      case ha =>
        intro p hp b hb
        rcases List.mem_cons.mp hb with rfl | hb
        · exact Nat.ne_of_lt (lt3 p (by kst_mem))
        · exact hoff p hp b (.tail _ hb)
      case hr => (intro z h1 h2 h3; simp only [List.forall_mem_cons, List.not_mem_nil, false_implies, implies_true, and_true, ne_eq] at h2; simp [h1, h2, kstB])
      case hq => (dsimp only; rw [hp2]; rfl)
      case hq2 => exact lt3 (wia, listOf wivs.toArray win) (by k_memK)
  case done =>
    rintro ⟨cx, cvs, cnn, cts⟩ u2 h2 tk2 ⟨hp, hp2, hp3⟩ F2 N2
    delta lsOut at F2
    dsimp only at hp hp2 hp3 F2 N2
    k_steps
    delta Hold
    dsimp only
    have hlc : cts.length ≤ 1296 := by rw [hp2]; exact textsGo_le (by rw [List.length_map]; omega) (by omega)
    refine src_list (fun i => (cts[i]?).elim ⟨#[]⟩ fun x => commentS (stripS x)) rfl F2 N2 (.head _) ?hsz ?helt ?hF
    case hsz => (rw [hp.length]; omega)
    case helt =>
      intro g i v I oI C oC D ys m2 h4 tk4 E' hv hNs hm2 F3 N3 hoff hne
      obtain ⟨x, xt, rfl, hx⟩ := hp.item i v hv
      have hxl : x.length = len.toNat := by
        have hxm := List.mem_of_getElem? hx
        rw [hp2] at hxm; exact textsGo_mem hxm
      k_steps
      rename (News _ _ _ _) => N4
      rename (Fr _ _ _ _) => F4
      refine ⟨_, _, _, congrArg (fun q => Value.str q _) ?_, rfl, F4, N4⟩
      rw [hx]; rfl
    case hF =>
      intro g ys hys
      unfold LCg.FinE
      intro D h4 tk4 F3 N3 hoff
      show wpAny _ _ _ _ _ _
      have hys' : StrsAre ys ((textsGo (gcs.map one1) len.toNat).map fun x => commentS (stripS x)) := by
        have e : (List.range cvs.length).map (fun i => (cts[i]?).elim ⟨#[]⟩ fun x => commentS (stripS x)) = cts.map fun x => commentS (stripS x) := by
          rw [hp.length]
          exact range_elim _ _ _ fun i c h => by rw [h]; rfl
        rw [e, hp2] at hys; exact hys
      k_steps
      refine c_tally w mean mg mb _ D ys ys.length _ hys' (by rw [List.length_map, textsGo_len, List.length_map]; exact hgn) _ _ _ _ _ _ _ _ _ _ _ _ _ _ _ _ _ hB F3 hK N3 hT rfl hdp hun ?_
      intro d o kvs h9 tk9 F9 N9 lt9 hlo9 hD9 hP9
      rw [hTal] at hP9
      k_steps
      rename (News _ _ _ _) => N4
      rename (Fr _ _ _ _) => F4
      dsimp only at N4 F4 ⊢
      rw [hR]
      refine law_p3c w mean mg mb dp un gd cn fa ccd c1 c2 c3 c4 outer A₀ base h₀ L _ _ qk d wia la sa wivs lvs svs win ln sn o oL oS sns kvs lets wits Tc solid pl bl len t1 t2 t3 t4 hB (fr_canon F4 ?_) hK (cb_drop N4 ?_) hoL hoS (by assumption) hSl hLe hLl hso hWi hwil hlo9 hD9 hP9 hTl hG hE hT hpl hbl hlen hdp hun hsorts hfit hret
      · simp only [List.forall_mem_cons]
        exact ⟨by with_unfolding_all rfl, by with_unfolding_all rfl, by with_unfolding_all rfl, by with_unfolding_all rfl, by with_unfolding_all rfl, by with_unfolding_all rfl, List.forall_mem_nil _⟩
      · exact List.forall_mem_cons.mpr ⟨by k_memK, List.forall_mem_cons.mpr ⟨by k_memK, List.forall_mem_cons.mpr ⟨by k_memK, List.forall_mem_cons.mpr ⟨by k_memK, List.forall_mem_cons.mpr ⟨by k_memK, List.forall_mem_cons.mpr ⟨by k_memK, List.forall_mem_nil _⟩⟩⟩⟩⟩⟩
end Mine
end
section
open PySem PySem.W PyProof.Rows PySem.Spec PySem.Calls PyProof.V
open PySem.Builtin PySem.Builtin.Str
set_option Elab.async false
set_option maxRecDepth 100000
set_option maxHeartbeats 4000000
namespace Mine
theorem formS0 : formS [] = ⟨#[35, 32, 46, 46, 46]⟩ := by decide +kernel
theorem join_flat : ∀ l : List Str, (Str.join ⟨#[]⟩ l).cps.toList = l.flatMap fun x => x.cps.toList
  | [] => rfl
  | [x] => by simp [Str.join]
  | x :: y :: r => by
    show (x ++ ⟨#[]⟩ ++ Str.join ⟨#[]⟩ (y :: r)).cps.toList = _
    rw [Str.cps_append, Str.cps_append, Array.toList_append, Array.toList_append, join_flat (y :: r)]
    simp
theorem hash5 : Str.ofString "# ..." = ⟨#[35, 32, 46, 46, 46]⟩ := by decide +kernel
theorem dots : Str.ofString "..." = ⟨#[46, 46, 46]⟩ := by decide +kernel
theorem nothing : Str.ofString "" = ⟨#[]⟩ := by decide +kernel
theorem formS_list (ls : List Nat) : formS ls = ⟨([35, 32, 46, 46, 46] ++ ls.flatMap fun c => [c, 46, 46, 46]).toArray⟩ := by
  refine Str.ext' (Array.toList_inj.mp ?_)
  unfold formS
  rw [Str.cps_append, Array.toList_append, hash5, nothing]
  show _ ++ (glued ⟨#[]⟩ _).cps.toList = _
  rw [StrLaws.glued_eq_join, join_flat, List.flatMap_map, dots]
  rfl
theorem formS1 (a : Nat) : formS [a] = ⟨#[35, 32, 46, 46, 46, a, 46, 46, 46]⟩ := formS_list [a]
theorem formS2 (a b : Nat) : formS [a, b] = ⟨#[35, 32, 46, 46, 46, a, 46, 46, 46, b, 46, 46, 46]⟩ := formS_list [a, b]
theorem formS3 (a b c : Nat) : formS [a, b, c] = ⟨#[35, 32, 46, 46, 46, a, 46, 46, 46, b, 46, 46, 46, c, 46, 46, 46]⟩ := formS_list [a, b, c]
def occL (xs sub : List Nat) (hi limit : Nat) : List Nat → List Nat → Nat → List Nat
  | [], acc, _ => acc
  | i :: l, acc, free => if ((acc.length < limit ∧ free ≤ i) ∧ i + sub.length ≤ hi) ∧ (xs.drop i).take sub.length = sub then occL xs sub hi limit l (acc ++ [i]) (i + sub.length) else occL xs sub hi limit l acc free
theorem occL_run (s sub : Str) (hi limit : Nat) : ∀ (l : List Nat) (st : Array Nat × Nat), (forIn l st (StrLaws.occBody s sub hi limit)).run.fst.toList = occL s.cps.toList sub.cps.toList hi limit l st.1.toList st.2
  | [], st => rfl
  | i :: l, st => by
    have e1 : sub.length = sub.cps.toList.length := by simp [Str.length]
    have e2 : st.fst.size = st.fst.toList.length := by simp
    rw [List.forIn_cons]
    unfold StrLaws.occBody occL
    rw [StrLaws.subAt_eq]
    simp only [beq_iff_eq]
    rw [e1, e2]
    split
    · exact (occL_run s sub hi limit l (st.fst.push i, i + sub.cps.toList.length)).trans (by simp)
    · exact occL_run s sub hi limit l st
theorem occ_occL (s sub : Str) (lo hi limit : Nat) : occurrences s sub lo hi limit = occL s.cps.toList sub.cps.toList hi limit (List.range' lo (hi + 1 - lo)) [] lo := by
  rw [StrLaws.occ_eq, occL_run]
theorem occ1 (a : Nat) (h : a ≠ 46) : occurrences (⟨#[35, 32, 46, 46, 46, a, 46, 46, 46]⟩ : Str) ⟨#[46, 46, 46]⟩ 0 9 10 = [2, 6] := by
  rw [occ_occL]
  simp [List.range', occL, h]
theorem occ2 (a b : Nat) (h : a ≠ 46) (hb : b ≠ 46) : occurrences (⟨#[35, 32, 46, 46, 46, a, 46, 46, 46, b, 46, 46, 46]⟩ : Str) ⟨#[46, 46, 46]⟩ 0 13 14 = [2, 6, 10] := by
  rw [occ_occL]
  simp [List.range', occL, h, hb]
theorem occ3 (a b c : Nat) (h : a ≠ 46) (hb : b ≠ 46) (hc : c ≠ 46) : occurrences (⟨#[35, 32, 46, 46, 46, a, 46, 46, 46, b, 46, 46, 46, c, 46, 46, 46]⟩ : Str) ⟨#[46, 46, 46]⟩ 0 17 18 = [2, 6, 10, 14] := by
  rw [occ_occL]
  simp [List.range', occL, h, hb, hc]
theorem occ0 : occurrences (⟨#[35, 32, 46, 46, 46]⟩ : Str) ⟨#[46, 46, 46]⟩ 0 5 6 = [2] := by
  rw [occ_occL]
  simp [List.range', occL]
theorem kind_dots : Builtin.Str.strKind (⟨#[46, 46, 46]⟩ : Str) = 1 := by decide +kernel
theorem kind_ge (x : Str) : ¬ Builtin.Str.strKind x < 1 := by
  unfold Builtin.Str.strKind; split
  · omega
  · split <;> omega
theorem split_of {x y : Str} {cuts : List Nat} (h : occurrences x y 0 x.length (x.length + 1) = cuts) (hl : ¬ x.length < y.length) (hk : Builtin.Str.strKind y = 1) (hn : cuts.isEmpty = false) : Txt.split x y = partsBetween x cuts y.length := by
  unfold Txt.split
  rw [h, hn, hk]
  have h1 := kind_ge x
  simp [hl, h1]
theorem ne_of {x y : Str} {cuts : List Nat} (h : occurrences x y 0 x.length 1 = cuts) (hn : cuts.isEmpty = false) : (occurrences x y 0 x.length 1).isEmpty = false := by rw [h]; exact hn
theorem hashes : Str.ofString "# " = ⟨#[35, 32]⟩ := by decide +kernel
theorem split0 : Txt.split (formS []) (Str.ofString "...") = Str.ofString "# " :: [Str.ofString ""] := by
  rw [formS0, dots, hashes, nothing, split_of (cuts := [2]) occ0 (by decide) kind_dots rfl]; rfl
theorem split1 (a : Nat) (h : a ≠ 46) : Txt.split (formS [a]) (Str.ofString "...") = Str.ofString "# " :: [⟨#[a]⟩, Str.ofString ""] := by
  rw [formS1, dots, hashes, nothing, split_of (cuts := [2, 6]) (occ1 a h) (by show ¬ 9 < 3; decide) kind_dots rfl]; rfl
theorem split2 (a b : Nat) (h : a ≠ 46) (hb : b ≠ 46) : Txt.split (formS [a, b]) (Str.ofString "...") = Str.ofString "# " :: [⟨#[a]⟩, ⟨#[b]⟩, Str.ofString ""] := by
  rw [formS2, dots, hashes, nothing, split_of (cuts := [2, 6, 10]) (occ2 a b h hb) (by show ¬ 13 < 3; decide) kind_dots rfl]; rfl
theorem split3 (a b c : Nat) (h : a ≠ 46) (hb : b ≠ 46) (hc : c ≠ 46) : Txt.split (formS [a, b, c]) (Str.ofString "...") = Str.ofString "# " :: [⟨#[a]⟩, ⟨#[b]⟩, ⟨#[c]⟩, Str.ofString ""] := by
  rw [formS3, dots, hashes, nothing, split_of (cuts := [2, 6, 10, 14]) (occ3 a b c h hb hc) (by show ¬ 17 < 3; decide) kind_dots rfl]; rfl
theorem in_of {x : Str} (h : occL x.cps.toList [46, 46, 46] x.length 1 (List.range' 0 (x.length + 1 - 0)) [] 0 = [2]) : (occurrences x (Str.ofString "...") 0 x.length 1).isEmpty = false := by
  rw [dots, occ_occL]
  show (occL x.cps.toList [46, 46, 46] x.length 1 (List.range' 0 (x.length + 1 - 0)) [] 0).isEmpty = false
  rw [h]; rfl
theorem in0 : (occurrences (formS []) (Str.ofString "...") 0 (formS []).length 1).isEmpty = false := by
  rw [formS0]
  refine in_of ?_
  show occL [35, 32, 46, 46, 46] _ 5 1 (List.range' 0 6) [] 0 = [2]
  simp [List.range', occL]
theorem in1 (a : Nat) : (occurrences (formS [a]) (Str.ofString "...") 0 (formS [a]).length 1).isEmpty = false := by
  rw [formS1]
  refine in_of ?_
  show occL [35, 32, 46, 46, 46, a, 46, 46, 46] _ 9 1 (List.range' 0 10) [] 0 = [2]
  simp [List.range', occL]
theorem in2 (a b : Nat) : (occurrences (formS [a, b]) (Str.ofString "...") 0 (formS [a, b]).length 1).isEmpty = false := by
  rw [formS2]
  refine in_of ?_
  show occL [35, 32, 46, 46, 46, a, 46, 46, 46, b, 46, 46, 46] _ 13 1 (List.range' 0 14) [] 0 = [2]
  simp [List.range', occL]
theorem in3 (a b c : Nat) : (occurrences (formS [a, b, c]) (Str.ofString "...") 0 (formS [a, b, c]).length 1).isEmpty = false := by
  rw [formS3]
  refine in_of ?_
  show occL [35, 32, 46, 46, 46, a, 46, 46, 46, b, 46, 46, 46, c, 46, 46, 46] _ 17 1 (List.range' 0 18) [] 0 = [2]
  simp [List.range', occL]
theorem formS_le (ls : List Nat) (h : ls.length ≤ 3) : (formS ls).length ≤ 100 := by
  match ls, h with
  | [], _ => rw [formS0]; decide
  | [a], _ => rw [formS1]; exact Nat.le_of_ble_eq_true rfl
  | [a, b], _ => rw [formS2]; exact Nat.le_of_ble_eq_true rfl
  | [a, b, c], _ => rw [formS3]; exact Nat.le_of_ble_eq_true rfl
theorem c_form (w : World) (mean : ExcName → Option Value) (mg mb : Str → Option Value) (ls : List Nat) (h3 : ls.length ≤ 3) (hd : ∀ c ∈ ls, c ≠ 46) :
    ∀ (y : Str) (t t2 : Tok) (news : List (Addr × Obj)), CbClaim PySem.Challenge.rw_rl0002_01.row.toRowW.prog w (Mine.hd.heap_39 w.params) Mine.hd.view_39 (looseW Mine.hd.view_39 []) mean mg mb 21 news [] (y.length ≤ 100) [.str (formS ls) t, .str y t2] (fun _ => .bool (ellS (ls.map one1 ++ [Str.ofString ""]) y)) := by
  intro y t t2 news
  have hl := formS_le ls h3
  rcases ls with _ | ⟨a, _ | ⟨b, _ | ⟨c, _ | ⟨d, r⟩⟩⟩⟩
  · have e : ([] : List Nat).map one1 ++ [Str.ofString ""] = [Str.ofString ""] := rfl
    rw [e]
    exact c_ell0 w mean mg mb news _ y t t2 hl split0 in0
  · have e : [a].map one1 ++ [Str.ofString ""] = [⟨#[a]⟩, Str.ofString ""] := rfl
    rw [e]
    exact c_ell1 w mean mg mb news a _ y t t2 hl (split1 a (hd a (by simp))) (in1 a)
  · have e : [a, b].map one1 ++ [Str.ofString ""] = [⟨#[a]⟩, ⟨#[b]⟩, Str.ofString ""] := rfl
    rw [e]
    exact c_ell2 w mean mg mb news a b _ y t t2 hl (split2 a b (hd a (by simp)) (hd b (by simp))) (in2 a b)
  · have e : [a, b, c].map one1 ++ [Str.ofString ""] = [⟨#[a]⟩, ⟨#[b]⟩, ⟨#[c]⟩, Str.ofString ""] := rfl
    rw [e]
    exact c_ell3 w mean mg mb news a b c _ y t t2 hl (split3 a b c (hd a (by simp)) (hd b (by simp)) (hd c (by simp))) (in3 a b c)
  · simp at h3
end Mine
end
section
open PySem PySem.W PyProof.Rows PySem.Spec PySem.Calls PyProof.V
set_option Elab.async false
set_option maxRecDepth 100000
set_option maxHeartbeats 8000000
namespace Mine
/-- what the law's tally has to be, program apart -/
def PlanOk (lets wits gcs : List Nat) (solid pl bl len : Int) (ws : List Nat) : Prop :=
  ∃ Tc : List (List Nat × Int), gcs.length ^ len.toNat ≤ 1000 ∧ tallyS ((textsGo (gcs.map one1) len.toNat).map fun x => commentS (stripS x)) = (Tc.map fun p => (remS p.1, p.2)) ∧ Tc.length ≤ 1000 ∧ GoodT lets wits pl bl len Tc ∧
    ((Tc.length : Nat) : Int) = sortsGo solid pl len.toNat ∧ fitS (ws.map one1 ++ [Str.ofString ""]) (Tc.map fun p => (remS p.1, p.2)) = toldGo ws.length pl bl len (len + 1).toNat
def lenS (two pl : Int) : Int := if 1 < pl then (if 3 < 1 + two.fmod 4 then 3 else 1 + two.fmod 4) else 1 + two.fmod 4
theorem lenS_bd (two pl : Int) : 1 ≤ lenS two pl ∧ lenS two pl ≤ 4 := by
  have h1 := Int.fmod_nonneg_of_pos two (show (0 : Int) < 4 by decide)
  have h2 := Int.fmod_lt_of_pos two (show (0 : Int) < 4 by decide)
  unfold lenS
  split
  · split <;> omega
  · omega
theorem wordAt_mem {lets : List Nat} {solid k : Int} (hl : (lets.length : Int) = solid) (hs : 1 ≤ solid) : wordAt lets solid k ∈ lets := by
  have h1 := Int.fmod_nonneg_of_pos k (show (0 : Int) < solid by omega)
  have h2 := Int.fmod_lt_of_pos k (show (0 : Int) < solid by omega)
  have hi : (k.fmod solid).toNat < lets.length := by omega
  unfold wordAt
  rw [List.getElem?_eq_getElem hi]
  exact List.getElem_mem hi
local macro_rules | `(tactic| walk_at "loadName") => `(tactic| (k_here; k_dflt (refine' loadX_L ?k1 ?k2 ?_; (case k1 => k_asm); (case k2 => with_unfolding_all rfl); k_whole)))
theorem law_p2 (w : World) (mean : ExcName → Option Value) (mg mb : Str → Option Value) :
  ∀ (dp un : Nat) (gd : Option (List Code)) (cn : Str) (fa : Addr) (ccd : Value) (c1 c2 c3 c4 : Addr) (outer : List Env) (A₀ : Around) (base h₀ : Heap) (L : Addr) (u : Str → Option Value) (s : Shared) (qk : Flow → Shared → Prop)
    (wia la sa ga : Addr) (wivs lvs svs gvs : List Value) (win ln sn gn : Nat) (oL oS oG : Obj) (sns : List Int) (lets wits gcs : List Nat) (solid : Int) (pl bl two : Int) (t1 t2 t3 t4 : Tok),
  Below A₀ base outer h₀ → Fr h₀ L s.heap (kstB u [(Str.ofString "s", .ref sa), (Str.ofString "plain", .int pl t1), (Str.ofString "blank", .int bl t2), (Str.ofString "two", .int two t3), (Str.ofString "within", .ref wia)]) →
  (hd.heap_39 w.params).In h₀ → News h₀ L s.heap [(wia, listOf wivs.toArray win), (c3, oL), (la, listOf lvs.toArray ln), (c1, oS), (sa, listOf svs.toArray sn), (c4, oG), (ga, listOf gvs.toArray gn)] → oL.data = .cell (some (.ref la)) → oS.data = .cell (some (.int solid t4)) → oG.data = .cell (some (.ref ga)) → IntsAre svs sns → sns.length ≤ 6 → StrsAre lvs (lets.map one1) → (lets.length : Int) = solid → 1 ≤ solid ∧ solid ≤ 2 →
  StrsAre wivs (wits.map one1) → wits.length ≤ 3 → StrsAre gvs (gcs.map one1) → gcs.length ≤ 6 → (∀ c ∈ lets, c ≠ 46) →
  Top hd.view_39 (looseW hd.view_39 []) mean mg mb h₀ →
  1 ≤ pl ∧ pl ≤ 3 → 0 ≤ bl ∧ bl ≤ 2 → dp + 1 < recursionLimit → un + 8 < cLine →
  PlanOk lets wits gcs solid pl bl (lenS two pl) ((sns.drop 3).map (wordAt lets solid)) →
  (∀ (h' : Heap) (tk' : Nat) (m' : Str → Option Value), Fr h₀ L h' m' → qk (.ret (.bool true)) { s with heap := h', toks := tk' }) →
  wpAny (model PySem.Challenge.rw_rl0002_01.row.toRowW.prog w) (ktrTop dp un gd cn lawScope L fa ccd [(Str.ofString "signs", c4), (Str.ofString "letters", c3), (Str.ofString "base", c2), (Str.ofString "solid", c1)] outer) (execs (lawBody.drop 10) (envX cn lawScope L fa ccd [(Str.ofString "signs", c4), (Str.ofString "letters", c3), (Str.ofString "base", c2), (Str.ofString "solid", c1)])) qk (fun _ _ => False) s := by
  k_fill
  w_on
  intro dp un gd cn fa ccd c1 c2 c3 c4 outer A₀ base h₀ L u s qk wia la sa ga wivs lvs svs gvs win ln sn gn oL oS oG sns lets wits gcs solid pl bl two t1 t2 t3 t4 hB hF hK hN hoL hoS hoG hS hSl hLe hLl hso hWi hwil hGs hgl hdot hT hpl hbl hdp hun hplan hret
  obtain ⟨Tc, hgn, hTal, hTl, hG, hsorts, hfit⟩ := hplan
  have hlen := lenS_bd two pl
  have hE := c_form w mean mg mb ((sns.drop 3).map (wordAt lets solid)) (by rw [List.length_map, List.length_drop]; omega) (fun c hc => by
    obtain ⟨k, _, rfl⟩ := List.mem_map.mp hc
    exact hdot _ (wordAt_mem hLl hso.1))
  generalize hl : lenS two pl = len at *
  delta lawScope lawBody
  dsimp only [lawStmt, PySem.Challenge.pw_rl0002_01, List.drop, List.headD, fnBody, fnScope]
  refine execs_cut 2 ?_
  intro R hR
  simp only [List.take_succ_cons, List.take_zero, List.cons_append, List.nil_append]
  k_steps
  all_goals (
    rename (News _ _ _ _) => N4
    rename (Fr _ _ _ _) => F4
    try dsimp only at N4 F4 ⊢
    rw [hR])
  · have e : (if (3 : Int) < 1 + two.fmod 4 then (3 : Int) else 1 + two.fmod 4) = len := by
      rw [← hl]; unfold lenS; exact (if_pos (by assumption)).symm
    refine law_p2b w mean mg mb dp un gd cn fa ccd c1 c2 c3 c4 outer A₀ base h₀ L _ _ qk wia la sa ga wivs lvs svs gvs win ln sn gn oL oS oG sns lets wits gcs Tc solid pl bl len t1 t2 ?_ t4 hB (fr_canon F4 ?_) hK N4 hoL hoS hoG (by assumption) hSl hLe hLl hso hWi hwil hGs hgl hT hpl hbl hlen hdp hun hgn hTal hTl hG hE hsorts hfit hret
    rotate_left
    simp only [List.forall_mem_cons]
    exact ⟨by with_unfolding_all rfl, by with_unfolding_all rfl, by with_unfolding_all rfl, by rw [← e]; with_unfolding_all rfl, by with_unfolding_all rfl, List.forall_mem_nil _⟩
  · have e : 1 + two.fmod 4 = len := by
      rw [← hl]; unfold lenS; exact (if_neg (by assumption)).symm
    refine law_p2b w mean mg mb dp un gd cn fa ccd c1 c2 c3 c4 outer A₀ base h₀ L _ _ qk wia la sa ga wivs lvs svs gvs win ln sn gn oL oS oG sns lets wits gcs Tc solid pl bl len t1 t2 ?_ t4 hB (fr_canon F4 ?_) hK N4 hoL hoS hoG (by assumption) hSl hLe hLl hso hWi hwil hGs hgl hT hpl hbl hlen hdp hun hgn hTal hTl hG hE hsorts hfit hret
    rotate_left
    simp only [List.forall_mem_cons]
    exact ⟨by with_unfolding_all rfl, by with_unfolding_all rfl, by with_unfolding_all rfl, by rw [← e]; with_unfolding_all rfl, by with_unfolding_all rfl, List.forall_mem_nil _⟩
end Mine
end
section
open PySem PySem.W PyProof.Rows PySem.Spec PySem.Calls PyProof.V
set_option Elab.async false
set_option maxRecDepth 100000
set_option maxHeartbeats 8000000
namespace Mine
def whitesOf (one : Int) : List Nat := if (Int.fmod (Int.fdiv one 6) 2) ≠ 0 then [9, 32] else [32, 9]
def witsOf (lets : List Nat) (one bl : Int) : List Nat := lets ++ (whitesOf one).take bl.toNat
def gcsOf (lets : List Nat) (one bl : Int) : List Nat := witsOf lets one bl ++ [46, 58, 10]
theorem slice_strs {prog : Program} {w : World} {A : Around} {E : Value → Shared → Prop} {s : Shared} {h₀ : Heap} {L l : Addr} {m : Str → Option Value} {news : List (Addr × Obj)} {value slice : PySem.Expr} {vs : List Value} {ss : List Str} {y : Int} {ty : Tok} {Q : Value → Shared → Prop}
    (F : Fr h₀ L s.heap m) (N : News h₀ L s.heap news) (hl : s.heap.IsList l vs.toArray) (hS : StrsAre vs ss) (hy : 0 ≤ y)
    (h : ∀ D ws h', Fr h₀ L h' m → News h₀ L h' ((D, listOf (List.toArray ws) 0) :: news) → (∀ p ∈ news, p.1 < D) → StrsAre ws (ss.take y.toNat) → Q (.ref D) { s with heap := h' })
    (hs : subscripted slice false (.ref l) (.ref s.heap.objs.size) = operate [.ref s.heap.objs.size, .ref l] (getItem (.ref l) (.ref s.heap.objs.size))) (ht : ∀ r, letTemporaryGo value (.ref l) r = pure ()) (hz : vs.toArray.size ≤ sizeLine) :
    wpAny (model prog w) A (subscriptTail value slice (.ref l) (.ref s.heap.objs.size)) Q E { s with heap := s.heap.push { cls := .type "slice", data := .fields #[.none, .int y ty, .none] } } := by
  refine kmk_slice F N hl .none (.int y ty) (fun D h' F' N' l1 => ?_) hs ht hz
  refine h D (slicePick vs.toArray none (some y) none).toList h' F' ?_ l1 ?_
  · rw [Array.toArray_toList]; exact N'
  · have e : sliceBounds none (some y) none vs.toArray.size = (((0 : Nat) : Int), ((min y.toNat vs.toArray.size : Nat) : Int), 1) := by
      simp only [sliceBounds, Option.getD_none, show (1 : Int) > 0 by decide, if_true, if_neg (show ¬ (y < 0) by omega)]
      congr 1
      congr 1
      omega
    rw [kmk_pick_nat _ e]
    show StrsAre ((vs.drop 0).take (min y.toNat vs.toArray.size - 0)) _
    rw [List.drop_zero, Nat.sub_zero, List.size_toArray, kmk_take_min]
    exact hS.take' _
theorem add_strs {prog : Program} {w : World} {A : Around} {E : Value → Shared → Prop} {s : Shared} {h₀ : Heap} {L a b : Addr} {m : Str → Option Value} {news : List (Addr × Obj)} {vs ws : List Value} {ss ts : List Str} {Q : Value → Shared → Prop}
    (F : Fr h₀ L s.heap m) (N : News h₀ L s.heap news) (ha : s.heap.IsList a vs.toArray) (hb : s.heap.IsList b ws.toArray) (hS : StrsAre vs ss) (hT : StrsAre ws ts)
    (h : ∀ D us h', Fr h₀ L h' m → News h₀ L h' ((D, listOf (List.toArray us) 0) :: news) → (∀ p ∈ news, p.1 < D) → StrsAre us (ss ++ ts) → Q (.ref D) { s with heap := h' })
    (hz : ss.length + ts.length ≤ 1000) : wpAny (model prog w) A (binaryOp .Add (.ref a) (.ref b)) Q E s := by
  refine kmk_add_lit F N ha hb rfl (fun D h' F' N' l1 => h D (vs ++ ws) h' F' N' l1 (hS.append' hT)) ?_
  show vs.length + ws.length ≤ sizeLine
  rw [hS.length, hT.length, sizeLine_eq]; omega
local macro_rules | `(tactic| walk_at "loadName") => `(tactic| (k_here; k_dflt (refine' loadX_L ?k1 ?k2 ?_; (case k1 => k_asm); (case k2 => with_unfolding_all rfl); k_whole)))
theorem hold_in {P : Prop} (h : Hold P) : P := h
local macro_rules | `(tactic| walk_at "subscriptTail Name Slice ref ref") => `(tactic| (k_here; (with_reducible show wpAny _ _ (subscriptTail _ _ _ _) _ _ _); refine hold_in ?_))
local macro_rules | `(tactic| walk_at "binaryOp Add ref ref") => `(tactic| (k_here; (with_reducible show wpAny _ _ (binaryOp _ (Value.ref _) (Value.ref _)) _ _ _); refine hold_in ?_))
theorem whites1 : [Str.ofString "\t", Str.ofString " "] = [9, 32].map one1 := by decide +kernel
theorem whites2 : [Str.ofString " ", Str.ofString "\t"] = [32, 9].map one1 := by decide +kernel
theorem signs3 : [Str.ofString ".", Str.ofString ":", Str.ofString "\n"] = [46, 58, 10].map one1 := by decide +kernel
theorem law_p1c2 (w : World) (mean : ExcName → Option Value) (mg mb : Str → Option Value) :
  ∀ (dp un : Nat) (gd : Option (List Code)) (cn : Str) (fa : Addr) (ccd : Value) (c1 c2 c3 c4 : Addr) (outer : List Env) (A₀ : Around) (base h₀ : Heap) (L : Addr) (u : Str → Option Value) (s : Shared) (qk : Flow → Shared → Prop)
    (sa la ha : Addr) (svs lvs hvs : List Value) (sn ln hn : Nat) (oS oB oL oG : Obj) (sns : List Int) (lets : List Nat) (solid : Int) (pl bl one two : Int) (t1 t2 t3 t4 t6 : Tok),
  Below A₀ base outer h₀ → Fr h₀ L s.heap (kstB u [(Str.ofString "s", .ref sa), (Str.ofString "plain", .int pl t1), (Str.ofString "blank", .int bl t2), (Str.ofString "two", .int two t3), (Str.ofString "one", .int one t6), (Str.ofString "whites", .ref ha)]) →
  (hd.heap_39 w.params).In h₀ → News h₀ L s.heap [(ha, listOf hvs.toArray hn), (la, listOf lvs.toArray ln), (sa, listOf svs.toArray sn), (c4, oG), (c3, oL), (c2, oB), (c1, oS)] → oS.data = .cell (some (.int solid t4)) → oL.data = .cell (some (.ref la)) → oG.data = .cell none → IntsAre svs sns → sns.length ≤ 6 → StrsAre lvs (lets.map one1) → StrsAre hvs ((whitesOf one).map one1) → (lets.length : Int) = solid → 1 ≤ solid ∧ solid ≤ 2 →
  (@LT.lt Nat _ c1 c2 ∧ @LT.lt Nat _ c2 c3 ∧ @LT.lt Nat _ c3 c4 ∧ @LT.lt Nat _ c4 sa ∧ @Ne Nat c4 la ∧ @Ne Nat sa la ∧ @LT.lt Nat _ c4 ha) → (∀ c ∈ lets, c ≠ 46) → Top hd.view_39 (looseW hd.view_39 []) mean mg mb h₀ →
  1 ≤ pl ∧ pl ≤ 3 → 0 ≤ bl ∧ bl ≤ 2 → bl + solid ≤ 3 → dp + 1 < recursionLimit → un + 8 < cLine →
  PlanOk lets (witsOf lets one bl) (gcsOf lets one bl) solid pl bl (lenS two pl) ((sns.drop 3).map (wordAt lets solid)) →
  (∀ (h' : Heap) (tk' : Nat) (m' : Str → Option Value), Fr h₀ L h' m' → qk (.ret (.bool true)) { s with heap := h', toks := tk' }) →
  wpAny (model PySem.Challenge.rw_rl0002_01.row.toRowW.prog w) (ktrTop dp un gd cn lawScope L fa ccd [(Str.ofString "signs", c4), (Str.ofString "letters", c3), (Str.ofString "base", c2), (Str.ofString "solid", c1)] outer) (execs (lawBody.drop 8) (envX cn lawScope L fa ccd [(Str.ofString "signs", c4), (Str.ofString "letters", c3), (Str.ofString "base", c2), (Str.ofString "solid", c1)])) qk (fun _ _ => False) s := by
  k_fill
  w_on
  intro dp un gd cn fa ccd c1 c2 c3 c4 outer A₀ base h₀ L u s qk sa la ha svs lvs hvs sn ln hn oS oB oL oG sns lets solid pl bl one two t1 t2 t3 t4 t6 hB hF hK hN hoS hoL hoG hS hSl hLe hHs hLl hso hcc hdot hT hpl hbl hbs hdp hun hplan hret
  delta lawScope lawBody
  dsimp only [lawStmt, PySem.Challenge.pw_rl0002_01, List.drop, List.headD, fnBody, fnScope]
  refine execs_cut 2 ?_
  intro R hR
  simp only [List.take_succ_cons, List.take_zero, List.cons_append, List.nil_append]
  k_steps
  rename (News _ _ _ _) => N1
  rename (Fr _ _ _ _) => F1
  delta Hold
  dsimp only at N1 F1 ⊢
  have hwl : (whitesOf one).length = 2 := by unfold whitesOf; split <;> rfl
  have hhl : hvs.length = 2 := by rw [hHs.length, List.length_map, hwl]
  refine slice_strs F1 N1 (News.isList (n := hn) (d := none) (sl := #[]) N1 (by k_memK)) hHs (by omega) ?_ (by with_unfolding_all rfl) (by intro _; with_unfolding_all rfl) (by rw [List.size_toArray, hhl, sizeLine_eq]; omega)
  intro D1 ws1 h1 F2 N2 l1 hS1
  k_lt l1
  k_steps
  delta Hold
  try dsimp only
  refine add_strs F2 N2 (News.isList (items := lvs.toArray) (n := ln) (d := none) (sl := #[]) N2 (by k_memK)) (News.isList (items := ws1.toArray) (n := 0) (d := none) (sl := #[]) N2 (by k_memK)) hLe hS1 ?_ (by rw [List.length_take, List.length_map, List.length_map]; omega)
  intro D2 ws2 h2 F3 N3 l2 hS2
  k_lt l2
  k_steps
  rename (News _ _ _ _) => N4
  rename (Fr _ _ _ _) => F4
  rename Addr => l9
  delta Hold
  try dsimp only at N4 F4 ⊢
  have e2 : (lets.map one1) ++ ((whitesOf one).map one1).take bl.toNat = (witsOf lets one bl).map one1 := by
    unfold witsOf; rw [List.map_append, List.map_take]
  rw [e2] at hS2
  have hwil : (witsOf lets one bl).length ≤ 3 := by unfold witsOf; rw [List.length_append, List.length_take]; omega
  refine add_strs (ts := [Str.ofString ".", Str.ofString ":", Str.ofString "\n"]) F4 N4 (News.isList (items := ws2.toArray) (n := 0) (d := none) (sl := #[]) N4 (by k_memK)) (News.isList (n := 0) (d := none) (sl := #[]) N4 (.head _)) hS2 (.cons _ _ (.cons _ _ (.cons _ _ .nil))) ?_ (by rw [List.length_map]; show _ + 3 ≤ 1000; omega)
  intro D3 ws3 h3 F5 N5 l3 hS3
  k_lt l3
  have e3 : ((witsOf lets one bl).map one1) ++ [Str.ofString ".", Str.ofString ":", Str.ofString "\n"] = (gcsOf lets one bl).map one1 := by
    unfold gcsOf; rw [List.map_append, signs3]
  rw [e3] at hS3
  k_steps
  rename (News _ _ _ _) => N6
  rename (Fr _ _ _ _) => F6
  rename Obj => oG2
  try dsimp only at N6 F6 ⊢
  rw [hR]
  refine law_p2 w mean mg mb dp un gd cn fa ccd c1 c2 c3 c4 outer A₀ base h₀ L _ _ qk D2 la sa D3 ws2 lvs svs ws3 0 ln sn 0 oL oS oG2 sns lets (witsOf lets one bl) (gcsOf lets one bl) solid pl bl two t1 t2 t3 t4 hB (fr_canon F6 ?_) hK (cb_drop N6 ?_) hoL hoS (by assumption) (by assumption) hSl hLe hLl hso hS2 hwil hS3 (by unfold gcsOf; rw [List.length_append]; show _ + 3 ≤ 6; omega) hdot hT hpl hbl hdp hun hplan hret
  · simp only [List.forall_mem_cons]
    exact ⟨by with_unfolding_all rfl, by with_unfolding_all rfl, by with_unfolding_all rfl, by with_unfolding_all rfl, by with_unfolding_all rfl, List.forall_mem_nil _⟩
  · exact List.forall_mem_cons.mpr ⟨by k_memK, List.forall_mem_cons.mpr ⟨by k_memK, List.forall_mem_cons.mpr ⟨by k_memK, List.forall_mem_cons.mpr ⟨by k_memK, List.forall_mem_cons.mpr ⟨by k_memK, List.forall_mem_cons.mpr ⟨by k_memK, List.forall_mem_cons.mpr ⟨by k_memK, List.forall_mem_nil _⟩⟩⟩⟩⟩⟩⟩
theorem law_p1c (w : World) (mean : ExcName → Option Value) (mg mb : Str → Option Value) :
  ∀ (dp un : Nat) (gd : Option (List Code)) (cn : Str) (fa : Addr) (ccd : Value) (c1 c2 c3 c4 : Addr) (outer : List Env) (A₀ : Around) (base h₀ : Heap) (L : Addr) (u : Str → Option Value) (s : Shared) (qk : Flow → Shared → Prop)
    (sa la : Addr) (svs lvs : List Value) (sn ln : Nat) (oS oB oL oG : Obj) (sns : List Int) (lets : List Nat) (solid : Int) (pl bl one two : Int) (t1 t2 t3 t4 t6 : Tok),
  Below A₀ base outer h₀ → Fr h₀ L s.heap (kstB u [(Str.ofString "s", .ref sa), (Str.ofString "plain", .int pl t1), (Str.ofString "blank", .int bl t2), (Str.ofString "two", .int two t3), (Str.ofString "one", .int one t6)]) →
  (hd.heap_39 w.params).In h₀ → News h₀ L s.heap [(la, listOf lvs.toArray ln), (sa, listOf svs.toArray sn), (c4, oG), (c3, oL), (c2, oB), (c1, oS)] → oS.data = .cell (some (.int solid t4)) → oL.data = .cell (some (.ref la)) → oG.data = .cell none → IntsAre svs sns → sns.length ≤ 6 → StrsAre lvs (lets.map one1) → (lets.length : Int) = solid → 1 ≤ solid ∧ solid ≤ 2 →
  (@LT.lt Nat _ c1 c2 ∧ @LT.lt Nat _ c2 c3 ∧ @LT.lt Nat _ c3 c4 ∧ @LT.lt Nat _ c4 sa ∧ @Ne Nat c4 la ∧ @Ne Nat sa la) → (∀ c ∈ lets, c ≠ 46) → Top hd.view_39 (looseW hd.view_39 []) mean mg mb h₀ →
  1 ≤ pl ∧ pl ≤ 3 → 0 ≤ bl ∧ bl ≤ 2 → bl + solid ≤ 3 → dp + 1 < recursionLimit → un + 8 < cLine →
  PlanOk lets (witsOf lets one bl) (gcsOf lets one bl) solid pl bl (lenS two pl) ((sns.drop 3).map (wordAt lets solid)) →
  (∀ (h' : Heap) (tk' : Nat) (m' : Str → Option Value), Fr h₀ L h' m' → qk (.ret (.bool true)) { s with heap := h', toks := tk' }) →
  wpAny (model PySem.Challenge.rw_rl0002_01.row.toRowW.prog w) (ktrTop dp un gd cn lawScope L fa ccd [(Str.ofString "signs", c4), (Str.ofString "letters", c3), (Str.ofString "base", c2), (Str.ofString "solid", c1)] outer) (execs (lawBody.drop 7) (envX cn lawScope L fa ccd [(Str.ofString "signs", c4), (Str.ofString "letters", c3), (Str.ofString "base", c2), (Str.ofString "solid", c1)])) qk (fun _ _ => False) s := by
  k_fill
  w_on
  intro dp un gd cn fa ccd c1 c2 c3 c4 outer A₀ base h₀ L u s qk sa la svs lvs sn ln oS oB oL oG sns lets solid pl bl one two t1 t2 t3 t4 t6 hB hF hK hN hoS hoL hoG hS hSl hLe hLl hso hcc hdot hT hpl hbl hbs hdp hun hplan hret
  delta lawScope lawBody
  dsimp only [lawStmt, PySem.Challenge.pw_rl0002_01, List.drop, List.headD, fnBody, fnScope]
  refine execs_cut 1 ?_
  intro R hR
  simp only [List.take_succ_cons, List.take_zero, List.cons_append, List.nil_append]
  k_steps
  all_goals (
    rename (News _ _ _ _) => N6
    rename (Fr _ _ _ _) => F6
    rename (_ < _ ∧ _ < _ ∧ _) => lx
    rename Addr => ha
    try dsimp only at N6 F6 ⊢
    rw [hR])
  · have ew : whitesOf one = [9, 32] := if_pos (by assumption)
    refine law_p1c2 w mean mg mb dp un gd cn fa ccd c1 c2 c3 c4 outer A₀ base h₀ L _ _ qk sa la ha svs lvs _ sn ln 0 oS oB oL oG sns lets solid pl bl one two t1 t2 t3 t4 t6 hB (fr_canon F6 ?_) hK N6 hoS hoL hoG (by assumption) hSl hLe (by rw [ew, ← whites1]; exact .cons _ _ (.cons _ _ .nil)) hLl hso ⟨hcc.1, hcc.2.1, hcc.2.2.1, hcc.2.2.2.1, hcc.2.2.2.2.1, hcc.2.2.2.2.2, lx.2.2.1⟩ hdot hT hpl hbl hbs hdp hun hplan hret
    simp only [List.forall_mem_cons]
    exact ⟨by with_unfolding_all rfl, by with_unfolding_all rfl, by with_unfolding_all rfl, by with_unfolding_all rfl, by with_unfolding_all rfl, by with_unfolding_all rfl, List.forall_mem_nil _⟩
  · have ew : whitesOf one = [32, 9] := if_neg (not_not_intro (by assumption))
    refine law_p1c2 w mean mg mb dp un gd cn fa ccd c1 c2 c3 c4 outer A₀ base h₀ L _ _ qk sa la ha svs lvs _ sn ln 0 oS oB oL oG sns lets solid pl bl one two t1 t2 t3 t4 t6 hB (fr_canon F6 ?_) hK N6 hoS hoL hoG (by assumption) hSl hLe (by rw [ew, ← whites2]; exact .cons _ _ (.cons _ _ .nil)) hLl hso ⟨hcc.1, hcc.2.1, hcc.2.2.1, hcc.2.2.2.1, hcc.2.2.2.2.1, hcc.2.2.2.2.2, lx.2.2.1⟩ hdot hT hpl hbl hbs hdp hun hplan hret
    simp only [List.forall_mem_cons]
    exact ⟨by with_unfolding_all rfl, by with_unfolding_all rfl, by with_unfolding_all rfl, by with_unfolding_all rfl, by with_unfolding_all rfl, by with_unfolding_all rfl, List.forall_mem_nil _⟩
end Mine
end
section
open PySem PySem.W PyProof.Rows PySem.Spec PySem.Calls PyProof.V
set_option Elab.async false
set_option maxRecDepth 100000
set_option maxHeartbeats 8000000
namespace Mine
local macro_rules | `(tactic| walk_at "eval ListComp") => `(tactic| (k_here; k_dflt (refine LC_stop (F₀ := by k_asm) (by with_unfolding_all rfl) (by decide) (by rfl) (by decide) (by rfl) ?_)))
local macro_rules | `(tactic| walk_at "loadName") => `(tactic| (k_here; k_dflt (refine' loadX_L ?k1 ?k2 ?_; (case k1 => k_asm); (case k2 => with_unfolding_all rfl); k_whole)))
def letsOf (bas solid : Int) : List Nat := (List.range solid.toNat).map fun (i : Nat) => (bas + (i : Int)).toNat
theorem law_p1b (w : World) (mean : ExcName → Option Value) (mg mb : Str → Option Value) :
  ∀ (dp un : Nat) (gd : Option (List Code)) (cn : Str) (fa : Addr) (ccd : Value) (c1 c2 c3 c4 : Addr) (outer : List Env) (A₀ : Around) (base h₀ : Heap) (L : Addr) (u : Str → Option Value) (s : Shared) (qk : Flow → Shared → Prop)
    (sa : Addr) (svs : List Value) (sn : Nat) (oS oB oL oG : Obj) (sns : List Int) (solid bas : Int) (pl bl one two : Int) (t1 t2 t3 t4 t5 t6 : Tok),
  Below A₀ base outer h₀ → Fr h₀ L s.heap (kstB u [(Str.ofString "s", .ref sa), (Str.ofString "plain", .int pl t1), (Str.ofString "blank", .int bl t2), (Str.ofString "two", .int two t3), (Str.ofString "one", .int one t6)]) →
  (hd.heap_39 w.params).In h₀ → News h₀ L s.heap [(sa, listOf svs.toArray sn), (c4, oG), (c3, oL), (c2, oB), (c1, oS)] → oS.data = .cell (some (.int solid t4)) → oB.data = .cell (some (.int bas t5)) → oL.data = .cell none → oG.data = .cell none → IntsAre svs sns → sns.length ≤ 6 → 1 ≤ solid ∧ solid ≤ 2 → 97 ≤ bas ∧ bas ≤ 1000 →
  (@LT.lt Nat _ c1 c2 ∧ @LT.lt Nat _ c2 c3 ∧ @LT.lt Nat _ c3 c4 ∧ @LT.lt Nat _ c4 sa) → Top hd.view_39 (looseW hd.view_39 []) mean mg mb h₀ →
  1 ≤ pl ∧ pl ≤ 3 → 0 ≤ bl ∧ bl ≤ 2 → bl + solid ≤ 3 → dp + 1 < recursionLimit → un + 8 < cLine →
  PlanOk (letsOf bas solid) (witsOf (letsOf bas solid) one bl) (gcsOf (letsOf bas solid) one bl) solid pl bl (lenS two pl) ((sns.drop 3).map (wordAt (letsOf bas solid) solid)) →
  (∀ (h' : Heap) (tk' : Nat) (m' : Str → Option Value), Fr h₀ L h' m' → qk (.ret (.bool true)) { s with heap := h', toks := tk' }) →
  wpAny (model PySem.Challenge.rw_rl0002_01.row.toRowW.prog w) (ktrTop dp un gd cn lawScope L fa ccd [(Str.ofString "signs", c4), (Str.ofString "letters", c3), (Str.ofString "base", c2), (Str.ofString "solid", c1)] outer) (execs (lawBody.drop 6) (envX cn lawScope L fa ccd [(Str.ofString "signs", c4), (Str.ofString "letters", c3), (Str.ofString "base", c2), (Str.ofString "solid", c1)])) qk (fun _ _ => False) s := by
  k_fill
  w_on
  intro dp un gd cn fa ccd c1 c2 c3 c4 outer A₀ base h₀ L u s qk sa svs sn oS oB oL oG sns solid bas pl bl one two t1 t2 t3 t4 t5 t6 hB hF hK hN hoS hoB hoL hoG hS hSl hso hba hcc hT hpl hbl hbs hdp hun hplan hret
  delta lawScope lawBody
  dsimp only [lawStmt, PySem.Challenge.pw_rl0002_01, List.drop, List.headD, fnBody, fnScope]
  refine execs_cut 1 ?_
  intro R hR
  simp only [List.take_succ_cons, List.take_zero, List.cons_append, List.nil_append]
  k_steps
  rename (IsRange _ _ _ _ _ _ _ _) => R1
  rename (News _ _ _ _) => N1
  rename (Fr _ _ _ _) => F1
  delta Hold
  try dsimp only at N1 F1 R1 ⊢
  refine src_range (n := solid.toNat) (fun i => one1 (bas + (i : Int)).toNat) rfl F1 N1 R1 (small_of (by omega) (by omega)) (by rw [size_of (by omega) (by omega)]; simp) (by omega) ?helt ?hF
  case helt =>
    intro g i k kt I oI C oC D ys m2 h4 tk4 E' hin hki hNs hm2 F3 N3 hoff hne
    k_steps
    rename (News _ _ _ _) => N4
    rename (Fr _ _ _ _) => F4
    refine ⟨_, _, _, congrArg (fun q => Value.str q _) ?_, rfl, F4, N4⟩
    have e : k = (i : Int) := by omega
    rw [e]; rfl
  case hF =>
    intro g ys hys
    unfold LCg.FinE
    intro D h4 tk4 F3 N3 hoff
    show wpAny _ _ _ _ _ _
    simp only [LCg.Off1, and_true] at hoff
    have hys' : StrsAre ys ((letsOf bas solid).map one1) := by
      have e : (List.range solid.toNat).map (fun i => one1 (bas + ((i : Nat) : Int)).toNat) = (letsOf bas solid).map one1 := by
        unfold letsOf; rw [List.map_map]; rfl
      rw [← e]; exact hys
    k_steps
    rename (News _ _ _ _) => N6
    rename (Fr _ _ _ _) => F6
    rename Obj => oL2
    try dsimp only at N6 F6 ⊢
    rw [hR]
    refine law_p1c w mean mg mb dp un gd cn fa ccd c1 c2 c3 c4 outer A₀ base h₀ L _ _ qk sa D svs ys sn ys.length oS oB oL2 oG sns (letsOf bas solid) solid pl bl one two t1 t2 t3 t4 t6 hB (fr_canon F6 ?_) hK (cb_drop N6 ?_) hoS (by assumption) hoG (by assumption) hSl hys' (by unfold letsOf; rw [List.length_map, List.length_range]; omega) hso ⟨hcc.1, hcc.2.1, hcc.2.2.1, hcc.2.2.2, ?_, ?_⟩ ?_ hT hpl hbl hbs hdp hun hplan hret
    · simp only [List.forall_mem_cons]
      exact ⟨by with_unfolding_all rfl, by with_unfolding_all rfl, by with_unfolding_all rfl, by with_unfolding_all rfl, by with_unfolding_all rfl, List.forall_mem_nil _⟩
    · exact List.forall_mem_cons.mpr ⟨by k_memK, List.forall_mem_cons.mpr ⟨by k_memK, List.forall_mem_cons.mpr ⟨by k_memK, List.forall_mem_cons.mpr ⟨by k_memK, List.forall_mem_cons.mpr ⟨by k_memK, List.forall_mem_cons.mpr ⟨by k_memK, List.forall_mem_nil _⟩⟩⟩⟩⟩⟩
    · exact hoff.2.1
    · exact hoff.1
    · intro c hc
      obtain ⟨i, _, rfl⟩ := List.mem_map.mp hc
      omega
end Mine
end
section
open PySem PySem.W PyProof.Rows PySem.Spec PySem.Calls PyProof.V
set_option Elab.async false
set_option maxRecDepth 100000
set_option maxHeartbeats 8000000
namespace Mine
local macro_rules | `(tactic| walk_at "no such key") => `(tactic| fail)
def PlanAll : Prop := ∀ (bas solid bl one two : Int) (ks : List Int), 1 ≤ solid ∧ solid ≤ 2 → 0 ≤ bl ∧ bl ≤ 2 → bl + solid ≤ 3 → ((97 ≤ bas ∧ bas ≤ 120) ∨ (945 ≤ bas ∧ bas ≤ 968)) → ks.length ≤ 3 →
  PlanOk (letsOf bas solid) (witsOf (letsOf bas solid) one bl) (gcsOf (letsOf bas solid) one bl) solid (solid + bl) bl (lenS two (solid + bl)) (ks.map (wordAt (letsOf bas solid) solid))
def solidOf (one : Int) : Int := 1 + one.fmod 2
def blankOf (one : Int) : Int := if 3 - solidOf one < (one.fdiv 2).fmod 3 then 3 - solidOf one else (one.fdiv 2).fmod 3
theorem solid_bd (one : Int) : 1 ≤ solidOf one ∧ solidOf one ≤ 2 := by
  have h1 := Int.fmod_nonneg_of_pos one (show (0 : Int) < 2 by decide)
  have h2 := Int.fmod_lt_of_pos one (show (0 : Int) < 2 by decide)
  unfold solidOf; omega
theorem blank_bd (one : Int) : (0 ≤ blankOf one ∧ blankOf one ≤ 2) ∧ blankOf one + solidOf one ≤ 3 := by
  have h := solid_bd one
  have h1 := Int.fmod_nonneg_of_pos (one.fdiv 2) (show (0 : Int) < 3 by decide)
  have h2 := Int.fmod_lt_of_pos (one.fdiv 2) (show (0 : Int) < 3 by decide)
  unfold blankOf
  split <;> omega
theorem plain_bd (one : Int) : 1 ≤ solidOf one + blankOf one ∧ solidOf one + blankOf one ≤ 3 := by
  have h := solid_bd one
  have h2 := blank_bd one
  omega
theorem bas_in1 (three : Int) : 97 ≤ 97 + (three.fdiv 2).fmod 24 ∧ 97 + (three.fdiv 2).fmod 24 ≤ 120 := by
  have h1 := Int.fmod_nonneg_of_pos (three.fdiv 2) (show (0 : Int) < 24 by decide)
  have h2 := Int.fmod_lt_of_pos (three.fdiv 2) (show (0 : Int) < 24 by decide)
  omega
theorem bas_in2 (three : Int) : 945 ≤ 945 + (three.fdiv 2).fmod 24 ∧ 945 + (three.fdiv 2).fmod 24 ≤ 968 := by
  have h1 := Int.fmod_nonneg_of_pos (three.fdiv 2) (show (0 : Int) < 24 by decide)
  have h2 := Int.fmod_lt_of_pos (three.fdiv 2) (show (0 : Int) < 24 by decide)
  omega
theorem bas_bd1 (three : Int) : 97 ≤ 97 + (three.fdiv 2).fmod 24 ∧ 97 + (three.fdiv 2).fmod 24 ≤ 1000 := by have h := bas_in1 three; omega
theorem bas_bd2 (three : Int) : 97 ≤ 945 + (three.fdiv 2).fmod 24 ∧ 945 + (three.fdiv 2).fmod 24 ≤ 1000 := by have h := bas_in2 three; omega
local macro_rules | `(tactic| walk_at "assign Tuple") => `(tactic| (k_here; (with_reducible show wpAny _ _ (assign (Expr.Tuple _ _ _) _ (Value.ref _)) _ _ _); refine hold_in ?_))
local macro_rules | `(tactic| walk_at "loadName") => `(tactic| (k_here; k_dflt (refine' loadX_L ?k1 ?k2 ?_; (case k1 => k_asm); (case k2 => with_unfolding_all rfl); k_whole)))
theorem three_of (l : List Int) : ∃ a b c, (l ++ [0, 0, 0]).take 3 = [a, b, c] := by
  rcases l with _ | ⟨a, _ | ⟨b, _ | ⟨c, r⟩⟩⟩
  · exact ⟨0, 0, 0, rfl⟩
  · exact ⟨a, 0, 0, rfl⟩
  · exact ⟨a, b, 0, rfl⟩
  · exact ⟨a, b, c, rfl⟩
theorem law_p1a (w : World) (mean : ExcName → Option Value) (mg mb : Str → Option Value) (PA : PlanAll) :
  ∀ (dp un : Nat) (gd : Option (List Code)) (cn : Str) (fa : Addr) (ccd : Value) (c1 c2 c3 c4 : Addr) (outer : List Env) (A₀ : Around) (base h₀ : Heap) (L : Addr) (u : Str → Option Value) (s : Shared) (qk : Flow → Shared → Prop)
    (sc : Addr) (cvs : List Value) (oS oB oL oG : Obj) (cns : List Int),
  Below A₀ base outer h₀ → Fr h₀ L s.heap (kstB u [(Str.ofString "script", .ref sc)]) →
  (hd.heap_39 w.params).In h₀ → News h₀ L s.heap [(c4, oG), (c3, oL), (c2, oB), (c1, oS)] → oS.data = .cell none → oB.data = .cell none → oL.data = .cell none → oG.data = .cell none → h₀.IsList sc cvs.toArray → IntsAre cvs cns → cns.length ≤ 63 →
  (@LT.lt Nat _ c1 c2 ∧ @LT.lt Nat _ c2 c3 ∧ @LT.lt Nat _ c3 c4) → Top hd.view_39 (looseW hd.view_39 []) mean mg mb h₀ →
  dp + 1 < recursionLimit → un + 8 < cLine →
  (∀ (h' : Heap) (tk' : Nat) (m' : Str → Option Value), Fr h₀ L h' m' → qk (.ret (.bool true)) { s with heap := h', toks := tk' }) →
  wpAny (model PySem.Challenge.rw_rl0002_01.row.toRowW.prog w) (ktrTop dp un gd cn lawScope L fa ccd [(Str.ofString "signs", c4), (Str.ofString "letters", c3), (Str.ofString "base", c2), (Str.ofString "solid", c1)] outer) (execs lawBody (envX cn lawScope L fa ccd [(Str.ofString "signs", c4), (Str.ofString "letters", c3), (Str.ofString "base", c2), (Str.ofString "solid", c1)])) qk (fun _ _ => False) s := by
  k_fill
  w_on
  intro dp un gd cn fa ccd c1 c2 c3 c4 outer A₀ base h₀ L u s qk sc cvs oS oB oL oG cns hB hF hK hN hoS hoB hoL hoG hC hCs hCl hcc hT hdp hun hret
  delta lawScope lawBody
  dsimp only [lawStmt, PySem.Challenge.pw_rl0002_01, List.drop, List.headD, fnBody, fnScope]
  refine execs_cut 1 ?_
  intro R hR
  simp only [List.take_succ_cons, List.take_zero, List.cons_append, List.nil_append]
  k_steps
  rename Addr => sa
  rename List Value => svs
  rename (IntsAre _ (List.take 6 _)) => hS
  rw [hR]
  clear hR R
  simp only [List.drop_succ_cons, List.drop_zero]
  refine execs_cut 1 ?_
  intro R hR
  simp only [List.take_succ_cons, List.take_zero, List.cons_append, List.nil_append]
  k_steps
  rename (News _ _ _ _) => N1
  rename (Fr _ _ _ _) => F1
  rename (IntsAre _ (List.take 3 _)) => I3
  obtain ⟨one, two, three, e3⟩ := three_of (cns.take 6)
  rw [e3] at I3
  obtain ⟨ta, r1, hw1, J1⟩ := I3.cons_inv
  obtain ⟨tb, r2, hw2, J2⟩ := J1.cons_inv
  obtain ⟨tc, r3, hw3, J3⟩ := J2.cons_inv
  obtain rfl := J3.nil_inv
  subst hw3
  subst hw2
  subst hw1
  clear J1 J2 J3 I3
  delta Hold
  try dsimp only at N1 F1 ⊢
  refine kun_list F1 N1 (News.isList (n := 0) (d := none) (sl := #[]) N1 (.head _)) rfl rfl rfl ?_
  intro h5 F2 N2
  have N3 := cb_drop N2 (news := [(sa, listOf svs.toArray 0), (c4, oG), (c3, oL), (c2, oB), (c1, oS)]) (by
    exact List.forall_mem_cons.mpr ⟨by k_memK, List.forall_mem_cons.mpr ⟨by k_memK, List.forall_mem_cons.mpr ⟨by k_memK, List.forall_mem_cons.mpr ⟨by k_memK, List.forall_mem_cons.mpr ⟨by k_memK, List.forall_mem_nil _⟩⟩⟩⟩⟩)
  clear N2 N1
  k_steps
  rw [hR]
  clear hR R
  simp only [List.drop_succ_cons, List.drop_zero]
  refine execs_cut 1 ?_
  intro R hR
  simp only [List.take_succ_cons, List.take_zero, List.cons_append, List.nil_append]
  k_steps
  rename Obj => oS2
  rename (Obj.data oS2 = _) => dS2
  obtain ⟨t4, dS⟩ : ∃ t, oS2.data = .cell (some (.int (solidOf one) t)) := ⟨_, dS2⟩
  rw [hR]
  clear hR R
  simp only [List.drop_succ_cons, List.drop_zero]
  refine execs_cut 3 ?_
  intro R hR
  simp only [List.take_succ_cons, List.take_zero, List.cons_append, List.nil_append]
  k_steps
  all_goals (
    rename (News _ _ _ _) => N6
    rename (Fr _ _ _ _) => F6
    rename Obj => oB2
    rename (Obj.data oB2 = _) => dB2
    try dsimp only at N6 F6 ⊢
    rw [hR])
  · obtain ⟨t5, dB⟩ : ∃ t, oB2.data = .cell (some (.int (97 + (three.fdiv 2).fmod 24) t)) := ⟨_, dB2⟩
    refine law_p1b w mean mg mb dp un gd cn fa ccd c1 c2 c3 c4 outer A₀ base h₀ L _ _ qk sa svs 0 oS2 oB2 oL oG (cns.take 6) (solidOf one) (97 + (three.fdiv 2).fmod 24) (solidOf one + blankOf one) (blankOf one) one two ?_ ?_ tb t4 t5 ta hB (fr_canon F6 ?_) hK N6 dS dB hoL hoG (by assumption) (by rw [List.length_take]; omega) (solid_bd one) (bas_bd1 three) ⟨hcc.1, hcc.2.1, hcc.2.2, ?_⟩ hT (plain_bd one) (blank_bd one).1 (blank_bd one).2 hdp hun (PA _ _ _ _ _ _ (solid_bd one) (blank_bd one).1 (blank_bd one).2 (.inl (bas_in1 three)) (by rw [List.length_drop, List.length_take]; omega)) hret
    rotate_left 2
    · simp only [List.forall_mem_cons]
      exact ⟨by with_unfolding_all rfl, by with_unfolding_all rfl, by with_unfolding_all rfl, by with_unfolding_all rfl, by with_unfolding_all rfl, List.forall_mem_nil _⟩
    · omega
  · obtain ⟨t5, dB⟩ : ∃ t, oB2.data = .cell (some (.int (945 + (three.fdiv 2).fmod 24) t)) := ⟨_, dB2⟩
    refine law_p1b w mean mg mb dp un gd cn fa ccd c1 c2 c3 c4 outer A₀ base h₀ L _ _ qk sa svs 0 oS2 oB2 oL oG (cns.take 6) (solidOf one) (945 + (three.fdiv 2).fmod 24) (solidOf one + blankOf one) (blankOf one) one two ?_ ?_ tb t4 t5 ta hB (fr_canon F6 ?_) hK N6 dS dB hoL hoG (by assumption) (by rw [List.length_take]; omega) (solid_bd one) (bas_bd2 three) ⟨hcc.1, hcc.2.1, hcc.2.2, ?_⟩ hT (plain_bd one) (blank_bd one).1 (blank_bd one).2 hdp hun (PA _ _ _ _ _ _ (solid_bd one) (blank_bd one).1 (blank_bd one).2 (.inr (bas_in2 three)) (by rw [List.length_drop, List.length_take]; omega)) hret
    rotate_left 2
    · simp only [List.forall_mem_cons]
      exact ⟨by with_unfolding_all rfl, by with_unfolding_all rfl, by with_unfolding_all rfl, by with_unfolding_all rfl, by with_unfolding_all rfl, List.forall_mem_nil _⟩
    · omega
end Mine
end
section
open PySem PySem.W PyProof.Rows PySem.Spec PySem.Calls PyProof.V
open PySem.Builtin PySem.Builtin.Str
set_option Elab.async false
set_option maxRecDepth 100000
set_option maxHeartbeats 1000000
namespace Mine
def okAt (xs sub : List Nat) (hi i : Nat) : Bool := decide (i + sub.length ≤ hi) && decide ((xs.drop i).take sub.length = sub)
theorem occL_done (xs sub : List Nat) (hi : Nat) : ∀ (l : List Nat) (k free : Nat), occL xs sub hi 1 l [k] free = [k]
  | [], _, _ => rfl
  | i :: l, k, free => by
    unfold occL
    rw [if_neg (by simp)]
    exact occL_done xs sub hi l k free
theorem occL_first (xs sub : List Nat) (hi : Nat) : ∀ (l : List Nat) (free : Nat), (∀ i ∈ l, free ≤ i) → occL xs sub hi 1 l [] free = (l.find? (okAt xs sub hi)).toList
  | [], _, _ => rfl
  | i :: l, free, h => by
    have h0 := h i (.head _)
    unfold occL
    by_cases hc : okAt xs sub hi i = true
    · have hc' := hc
      unfold okAt at hc'
      rw [Bool.and_eq_true, decide_eq_true_eq, decide_eq_true_eq] at hc'
      rw [if_pos ⟨⟨⟨by simp, h0⟩, hc'.1⟩, hc'.2⟩, List.find?_cons_of_pos hc]
      exact occL_done xs sub hi l i _
    · have hc' : ¬ (((([] : List Nat).length < 1 ∧ free ≤ i) ∧ i + sub.length ≤ hi) ∧ (xs.drop i).take sub.length = sub) := by
        intro q
        apply hc
        unfold okAt
        rw [Bool.and_eq_true, decide_eq_true_eq, decide_eq_true_eq]
        exact ⟨q.1.2, q.2⟩
      rw [if_neg hc', List.find?_cons_of_neg hc]
      exact occL_first xs sub hi l free fun j hj => h j (.tail _ hj)
/-- how many signs stand ahead of the first c -/
def ahead (c : Nat) (l : List Nat) : Nat := (l.takeWhile (· != c)).length
theorem okAt_one (xs : List Nat) (c hi i : Nat) : okAt xs [c] hi i = true ↔ i < hi ∧ xs[i]? = some c := by
  unfold okAt
  rw [Bool.and_eq_true, decide_eq_true_eq, decide_eq_true_eq]
  have e : (xs.drop i).take [c].length = [c] ↔ xs[i]? = some c := by
    have := @StrLaws.take1_drop xs c i
    rw [beq_iff_eq] at this
    exact this
  rw [e]
  simp only [List.length_cons, List.length_nil]
  constructor <;> rintro ⟨a, b⟩ <;> exact ⟨by omega, b⟩
theorem first_go (xs : List Nat) (c hi : Nat) (hh : hi ≤ xs.length) : ∀ (m lo : Nat), lo + m = hi + 1 → (List.range' lo m).find? (okAt xs [c] hi) = if c ∈ (xs.take hi).drop lo then some (lo + ahead c ((xs.take hi).drop lo)) else none
  | 0, lo, h => by
    have e : (xs.take hi).drop lo = [] := List.drop_of_length_le (by rw [List.length_take]; omega)
    rw [e]; rfl
  | m + 1, lo, h => by
    rw [List.range'_succ]
    by_cases hlt : lo < hi
    · have hl : lo < xs.length := by omega
      have e : (xs.take hi).drop lo = xs[lo] :: (xs.take hi).drop (lo + 1) := by
        rw [List.drop_eq_getElem_cons (by rw [List.length_take]; omega)]
        simp
      rw [e]
      by_cases hc : xs[lo] = c
      · have hk : okAt xs [c] hi lo = true := (okAt_one xs c hi lo).mpr ⟨hlt, by rw [List.getElem?_eq_getElem hl, hc]⟩
        rw [List.find?_cons_of_pos hk, if_pos (by rw [hc]; exact .head _)]
        unfold ahead
        rw [List.takeWhile_cons_of_neg (by simp [hc])]
        rfl
      · have hk : ¬ okAt xs [c] hi lo = true := by
          rw [okAt_one, List.getElem?_eq_getElem hl]
          rintro ⟨_, q⟩
          exact hc (Option.some.inj q)
        rw [List.find?_cons_of_neg hk, first_go xs c hi hh m (lo + 1) (by omega)]
        have e2 : ahead c (xs[lo] :: (xs.take hi).drop (lo + 1)) = 1 + ahead c ((xs.take hi).drop (lo + 1)) := by
          unfold ahead
          rw [List.takeWhile_cons_of_pos (by simp [hc]), List.length_cons]; omega
        rw [e2]
        by_cases hm : c ∈ (xs.take hi).drop (lo + 1)
        · rw [if_pos hm, if_pos (.tail _ hm)]
          congr 1; omega
        · rw [if_neg hm, if_neg (by intro q; rcases List.mem_cons.mp q with q | q; exact hc q.symm; exact hm q)]
    · have e : (xs.take hi).drop lo = [] := List.drop_of_length_le (by rw [List.length_take]; omega)
      have hm : m = 0 := by omega
      have hk : ¬ okAt xs [c] hi lo = true := by rw [okAt_one]; rintro ⟨q, _⟩; exact hlt q
      rw [List.find?_cons_of_neg hk, e, hm]
      rfl
theorem ahead_all {c : Nat} : ∀ {l : List Nat}, ¬ c ∈ l → ahead c l = l.length
  | [], _ => rfl
  | a :: l, h => by
    have h1 : a ≠ c := fun q => h (q ▸ .head _)
    have ih := ahead_all (c := c) (l := l) fun q => h (.tail _ q)
    unfold ahead at ih ⊢
    rw [List.takeWhile_cons_of_pos (by simp [h1]), List.length_cons, List.length_cons, ih]
theorem toL_len (x : Str) : x.cps.toList.length = x.length := by simp [Str.length]
/-- the first c of the first hi signs -/
theorem occ_first1 (x : Str) (c hi : Nat) (hh : hi ≤ x.length) : occurrences x ⟨#[c]⟩ 0 hi 1 = if c ∈ x.cps.toList.take hi then [ahead c (x.cps.toList.take hi)] else [] := by
  rw [occ_occL]
  show occL x.cps.toList [c] hi 1 (List.range' 0 (hi + 1)) [] 0 = _
  rw [occL_first _ _ _ _ _ fun i _ => Nat.zero_le _, first_go _ c hi (by rw [toL_len]; exact hh) (hi + 1) 0 (by omega), List.drop_zero]
  split
  · simp
  · rfl
theorem from_nat (n : Nat) (k : Nat) : fromIndex n (k : Int) = k := by unfold fromIndex; rw [if_neg (by omega)]; omega
theorem find4_one (x : Str) (c hi : Nat) (hh : hi ≤ x.length) : find4 x ⟨#[c]⟩ 0 (hi : Int) = if c ∈ x.cps.toList.take hi then (ahead c (x.cps.toList.take hi) : Int) else -1 := by
  unfold find4
  rw [from_nat, show fromIndex x.length 0 = 0 from from_nat _ 0, Nat.min_eq_right hh, occ_first1 x c hi hh]
  by_cases h : c ∈ x.cps.toList.take hi
  · rw [if_pos h, if_pos h]
  · rw [if_neg h, if_neg h]
theorem cut_one (x : Str) (c hi : Nat) (hh : hi ≤ x.length) : (if 0 ≤ find4 x ⟨#[c]⟩ 0 (hi : Int) then find4 x ⟨#[c]⟩ 0 (hi : Int) else (hi : Int)) = (ahead c (x.cps.toList.take hi) : Int) := by
  rw [find4_one x c hi hh]
  by_cases h : c ∈ x.cps.toList.take hi
  · rw [if_pos h, if_pos (by omega)]
  · rw [if_neg h, if_neg (by decide), ahead_all h, List.length_take, toL_len, Nat.min_eq_left hh]
theorem find_one (x : Str) (c : Nat) : Txt.find x ⟨#[c]⟩ = if c ∈ x.cps.toList then (ahead c x.cps.toList : Int) else -1 := by
  unfold Txt.find
  have e : x.cps.toList.take x.length = x.cps.toList := List.take_of_length_le (by rw [toL_len]; exact Nat.le_refl _)
  rw [occ_first1 x c x.length (Nat.le_refl _), e]
  by_cases h : c ∈ x.cps.toList
  · rw [if_pos h, if_pos h]
  · rw [if_neg h, if_neg h]
theorem cut_find (x : Str) (c : Nat) : (if 0 ≤ Txt.find x ⟨#[c]⟩ then Txt.find x ⟨#[c]⟩ else (x.length : Int)) = (ahead c x.cps.toList : Int) := by
  rw [find_one x c]
  by_cases h : c ∈ x.cps.toList
  · rw [if_pos h, if_pos (by omega)]
  · rw [if_neg h, if_neg (by decide), ahead_all h, toL_len]
theorem ahead_take (c : Nat) (l : List Nat) : l.take (ahead c l) = l.takeWhile (· != c) := (List.prefix_iff_eq_take.mp (List.takeWhile_prefix _)).symm
theorem ahead_le (c : Nat) (l : List Nat) : ahead c l ≤ l.length := (List.takeWhile_prefix _).length_le
theorem last_foldl (s sub : Str) (hi : Nat) : ∀ (l : List Nat) (st : Option Nat), (forIn l st (StrLaws.lastBody s sub hi)).run = l.foldl (fun st i => if okAt s.cps.toList sub.cps.toList hi i = true then some i else st) st
  | [], _ => rfl
  | i :: l, st => by
    rw [List.forIn_cons, List.foldl_cons]
    unfold StrLaws.lastBody
    have e : (i + sub.length ≤ hi ∧ subAt s sub i = true) ↔ okAt s.cps.toList sub.cps.toList hi i = true := by
      unfold okAt
      rw [StrLaws.subAt_eq, Bool.and_eq_true, decide_eq_true_eq, decide_eq_true_eq, beq_iff_eq, toL_len]
    by_cases hc : okAt s.cps.toList sub.cps.toList hi i = true
    · rw [if_pos (e.mpr hc), if_pos hc]
      exact last_foldl s sub hi l _
    · rw [if_neg (fun q => hc (e.mp q)), if_neg hc]
      exact last_foldl s sub hi l _
def behind (c : Nat) (l : List Nat) : Nat := (l.reverse.takeWhile (· != c)).length
theorem behind_le (c : Nat) (l : List Nat) : behind c l ≤ l.length := by
  have := (List.takeWhile_prefix (l := l.reverse) (· != c)).length_le
  rw [List.length_reverse] at this
  exact this
theorem last_go (xs : List Nat) (c hi : Nat) (hh : hi ≤ xs.length) : ∀ n, n ≤ hi → (List.range n).foldl (fun st i => if okAt xs [c] hi i = true then some i else st) none = if c ∈ xs.take n then some (n - 1 - behind c (xs.take n)) else none
  | 0, _ => by simp
  | n + 1, h => by
    have hl : n < xs.length := by omega
    rw [List.range_succ, List.foldl_append, last_go xs c hi hh n (by omega)]
    have e : xs.take (n + 1) = xs.take n ++ [xs[n]] := by rw [List.take_add_one, List.getElem?_eq_getElem hl]; rfl
    rw [e]
    simp only [List.foldl_cons, List.foldl_nil]
    by_cases hc : xs[n] = c
    · rw [if_pos ((okAt_one xs c hi n).mpr ⟨by omega, by rw [List.getElem?_eq_getElem hl, hc]⟩), if_pos (by rw [hc]; simp)]
      unfold behind
      rw [List.reverse_append, List.reverse_singleton, List.singleton_append, List.takeWhile_cons_of_neg (by simp [hc])]
      simp
    · have hk : ¬ okAt xs [c] hi n = true := by
        rw [okAt_one, List.getElem?_eq_getElem hl]
        rintro ⟨_, q⟩
        exact hc (Option.some.inj q)
      rw [if_neg hk]
      have e2 : behind c (xs.take n ++ [xs[n]]) = 1 + behind c (xs.take n) := by
        unfold behind
        rw [List.reverse_append, List.reverse_singleton, List.singleton_append, List.takeWhile_cons_of_pos (by simp [hc]), List.length_cons]; omega
      rw [e2]
      by_cases hm : c ∈ xs.take n
      · rw [if_pos hm, if_pos (List.mem_append_left _ hm)]
        congr 1; omega
      · rw [if_neg hm, if_neg (by
          intro q
          rcases List.mem_append.mp q with q | q
          · exact hm q
          · exact hc (List.mem_singleton.mp q).symm)]
theorem mem_tw {c x : Nat} : ∀ {l : List Nat}, x ∈ l.takeWhile (· != c) → x ≠ c
  | [], h => by simp at h
  | a :: l, h => by
    by_cases ha : a = c
    · rw [List.takeWhile_cons_of_neg (by simp [ha])] at h
      simp at h
    · rw [List.takeWhile_cons_of_pos (by simp [ha])] at h
      rcases List.mem_cons.mp h with rfl | h
      · exact ha
      · exact mem_tw h
theorem behind_lt {c : Nat} {l : List Nat} (h : c ∈ l) : behind c l < l.length := by
  have h1 := behind_le c l
  rcases Nat.lt_or_ge (behind c l) l.length with q | q
  · exact q
  · exfalso
    have h2 : (l.reverse.takeWhile (· != c)).length = l.reverse.length := by
      rw [List.length_reverse]; unfold behind at h1 q; omega
    have h3 : l.reverse.takeWhile (· != c) = l.reverse := (List.takeWhile_prefix _).eq_of_length h2
    exact mem_tw (l := l.reverse) (x := c) (by rw [h3]; exact List.mem_reverse.mpr h) rfl
theorem behind_all {c : Nat} {l : List Nat} (h : ¬ c ∈ l) : behind c l = l.length := by
  have := ahead_all (c := c) (l := l.reverse) fun q => h (List.mem_reverse.mp q)
  rw [List.length_reverse] at this
  exact this
theorem rfind4_one (x : Str) (c hi : Nat) (hh : hi ≤ x.length) : rfind4 x ⟨#[c]⟩ 0 (hi : Int) = if c ∈ x.cps.toList.take hi then (((hi - 1 - behind c (x.cps.toList.take hi) : Nat)) : Int) else -1 := by
  unfold rfind4
  rw [from_nat, show fromIndex x.length 0 = 0 from from_nat _ 0, Nat.min_eq_right hh, StrLaws.last_eq, last_foldl]
  have e : List.range' 0 (hi + 1 - 0) = List.range hi ++ [hi] := by
    rw [Nat.sub_zero, ← List.range_eq_range', List.range_succ]
  rw [e, List.foldl_append, last_go _ c hi (by rw [toL_len]; exact hh) hi (Nat.le_refl _)]
  simp only [List.foldl_cons, List.foldl_nil]
  have hk : ¬ okAt x.cps.toList [c] hi hi = true := by rw [okAt_one]; rintro ⟨q, _⟩; omega
  rw [if_neg hk]
  by_cases h : c ∈ x.cps.toList.take hi
  · rw [if_pos h, if_pos h]
  · rw [if_neg h, if_neg h]
theorem cut_last (x : Str) (c hi : Nat) (hh : hi ≤ x.length) : (if 0 ≤ rfind4 x ⟨#[c]⟩ 0 (hi : Int) then rfind4 x ⟨#[c]⟩ 0 (hi : Int) + 1 else 0) = ((hi - behind c (x.cps.toList.take hi) : Nat) : Int) := by
  rw [rfind4_one x c hi hh]
  have hl : (x.cps.toList.take hi).length = hi := by rw [List.length_take, toL_len, Nat.min_eq_left hh]
  by_cases h : c ∈ x.cps.toList.take hi
  · have h1 := behind_lt h
    rw [if_pos h, if_pos (by omega)]
    omega
  · rw [if_neg h, if_neg (by decide), behind_all h, hl]
    omega
theorem drop_of_app {a b l : List Nat} (h : l = a ++ b) : l.drop a.length = b := by subst h; exact List.drop_left ..
theorem take_of_app {a b l : List Nat} (h : l = a ++ b) : l.take a.length = a := by subst h; exact List.take_left ..
theorem hash1 : Str.ofString "#" = ⟨#[35]⟩ := by decide +kernel
theorem drop_behind (c : Nat) (l : List Nat) : l.drop (l.length - behind c l) = (l.reverse.takeWhile (· != c)).reverse := by
  have h := List.takeWhile_append_dropWhile (p := (· != c)) (l := l.reverse)
  have h2 : l = (l.reverse.dropWhile (· != c)).reverse ++ (l.reverse.takeWhile (· != c)).reverse := by
    rw [← List.reverse_append, h, List.reverse_reverse]
  have h3 : l.length - behind c l = (l.reverse.dropWhile (· != c)).reverse.length := by
    have h4 := congrArg List.length h2
    rw [List.length_append, List.length_reverse, List.length_reverse] at h4
    rw [List.length_reverse]
    unfold behind; omega
  rw [h3]
  exact drop_of_app h2
/-- the bare name as a list of signs -/
def stripL (l : List Nat) : List Nat := (((l.takeWhile (· != 10)).takeWhile (· != 58)).reverse.takeWhile (· != 46)).reverse
def rstripL (l : List Nat) : List Nat := (l.reverse.dropWhile Unicode.isSpace).reverse
def nameL (l : List Nat) : List Nat := rstripL (stripL l)
theorem nl : Str.ofString "\n" = ⟨#[10]⟩ := by decide +kernel
theorem colon : Str.ofString ":" = ⟨#[58]⟩ := by decide +kernel
theorem dot : Str.ofString "." = ⟨#[46]⟩ := by decide +kernel
theorem stripS_list (x : Str) : (stripS x).cps.toList = stripL x.cps.toList := by
  have e1 : stripE1 x = (ahead 10 x.cps.toList : Int) := by unfold stripE1; rw [nl]; exact cut_find x 10
  have h1 : ahead 10 x.cps.toList ≤ x.length := by rw [← toL_len]; exact ahead_le _ _
  have e2 : stripE2 x = (ahead 58 (x.cps.toList.takeWhile (· != 10)) : Int) := by
    unfold stripE2; rw [colon, e1, cut_one x 58 _ h1, ahead_take]
  have h2 : ahead 58 (x.cps.toList.takeWhile (· != 10)) ≤ ahead 10 x.cps.toList := ahead_le _ _
  have e4 : x.cps.toList.take (ahead 58 (x.cps.toList.takeWhile (· != 10))) = (x.cps.toList.takeWhile (· != 10)).takeWhile (· != 58) := by
    rw [← ahead_take 58, ← ahead_take 10 x.cps.toList, List.take_take, Nat.min_eq_left]
    rw [ahead_take 10]; exact h2
  have hL : ahead 58 (x.cps.toList.takeWhile (· != 10)) = ((x.cps.toList.takeWhile (· != 10)).takeWhile (· != 58)).length := rfl
  have e3 : stripB x = ((ahead 58 (x.cps.toList.takeWhile (· != 10)) - behind 46 ((x.cps.toList.takeWhile (· != 10)).takeWhile (· != 58)) : Nat) : Int) := by
    unfold stripB; rw [dot, e2, cut_last x 46 _ (by omega), e4]
  unfold stripS
  rw [e2, e3, slice_some_some x _ _ (Nat.sub_le _ _) (by omega)]
  show (x.cps.toList.drop _).take _ = _
  rw [← List.drop_take, e4, hL, drop_behind]
  rfl
theorem rstrip_list (x : Str) : (Txt.rstrip x).cps.toList = rstripL x.cps.toList := by
  unfold Txt.rstrip
  rw [PyProof.Rows.stripBy_eq, StrLaws.strSub_toList]
  have h1 : stripLo Unicode.isSpace false x = 0 := rfl
  rw [h1]
  have h2 : stripHi Unicode.isSpace true x 0 = x.length - (x.cps.toList.reverse.takeWhile Unicode.isSpace).length := rfl
  rw [h2, List.drop_zero, Nat.sub_zero]
  unfold rstripL
  have h := List.takeWhile_append_dropWhile (p := Unicode.isSpace) (l := x.cps.toList.reverse)
  have h3 : x.cps.toList = (x.cps.toList.reverse.dropWhile Unicode.isSpace).reverse ++ (x.cps.toList.reverse.takeWhile Unicode.isSpace).reverse := by
    rw [← List.reverse_append, h, List.reverse_reverse]
  have h4 : x.length - (x.cps.toList.reverse.takeWhile Unicode.isSpace).length = (x.cps.toList.reverse.dropWhile Unicode.isSpace).reverse.length := by
    have h5 := congrArg List.length h3
    rw [List.length_append, List.length_reverse, List.length_reverse, toL_len] at h5
    rw [List.length_reverse]; omega
  rw [h4]
  exact take_of_app h3
theorem comment_list (x : Str) : commentS x = remS (rstripL x.cps.toList) := by
  have h := rstrip_list x
  unfold commentS remS
  by_cases h0 : rstripL x.cps.toList = []
  · have hl : (Txt.rstrip x).length = 0 := by rw [← toL_len, h, h0]; rfl
    rw [if_pos h0, if_neg (by rw [hl]; decide)]
    exact hash1
  · have hl : (Txt.rstrip x).length ≠ 0 := by
      rw [← toL_len, h]
      intro q
      exact h0 (List.length_eq_zero_iff.mp q)
    rw [if_neg h0, if_pos (by omega)]
    refine Str.ext' (Array.toList_inj.mp ?_)
    rw [Str.cps_append, Array.toList_append, h, hashes]
    rfl
theorem name_list (l : List Nat) : commentS (stripS ⟨l.toArray⟩) = remS (nameL l) := by
  rw [comment_list, stripS_list]
  rfl
end Mine
end
section
open PySem PySem.W PyProof.Rows PySem.Spec PySem.Calls PyProof.V
open PySem.Builtin PySem.Builtin.Str
set_option Elab.async false
set_option maxRecDepth 100000
set_option maxHeartbeats 1000000
namespace Mine
def listsGo (gs : List Nat) : Nat → List (List Nat)
  | 0 => [[]]
  | i + 1 => (listsGo gs i).flatMap fun l => gs.map fun c => l ++ [c]
def spA (c : Nat) : Bool := Nat.beq c 2 || Nat.beq c 3 || Nat.beq c 6
def nameA (l : List Nat) : List Nat := (((((l.takeWhile fun c => !Nat.beq c 6).takeWhile fun c => !Nat.beq c 5).reverse.takeWhile fun c => !Nat.beq c 4).reverse).reverse.dropWhile spA).reverse
def asOf (so bl : Nat) : List Nat := List.range so ++ [2, 3].take bl ++ [4, 5, 6]
def gPut {α : Type} [DecidableEq α] (c : List (α × Int)) (k : α) (v : Int) : List (α × Int) :=
  if c.any (fun p => decide (p.1 = k)) then c.map (fun p => if decide (p.1 = k) then (p.1, v) else p) else c ++ [(k, v)]
def gLook {α : Type} [DecidableEq α] (c : List (α × Int)) (k : α) (d : Int) : Int := ((c.find? fun p => decide (p.1 = k)).map (·.2)).getD d
def gTally {α : Type} [DecidableEq α] (l : List α) : List (α × Int) := l.foldl (fun c k => gPut c k (gLook c k 0 + 1)) []
theorem tally_g (l : List Str) : tallyS l = gTally l := rfl
def subL : List Nat → List Nat → Bool
  | [], _ => true
  | c :: r, l => if c ∈ l then subL r (l.drop (ahead c l + 1)) else false
def fitA (w : List Nat) : List (List Nat × Int) → Int
  | [] => 0
  | p :: r => (if (!p.1.isEmpty && subL w p.1) = true then p.2 else 0) + fitA w r
def lastOk (so : Nat) (l : List Nat) : Bool := match l.getLast? with
  | none => true
  | some q => decide (q < so)
def gHas {α : Type} [DecidableEq α] (c : List (α × Int)) (k : α) : Bool := c.any fun p => decide (p.1 = k)
def checkT (so bl n : Nat) (T : List (List Nat × Int)) : Bool :=
  decide ((asOf so bl).length ^ n ≤ 1000) && (decide (T.length ≤ 1000) && (decide ((T.length : Int) = sortsGo so (so + bl : Nat) n) &&
    (T.all fun p => decide (p.1.length ≤ n) && (lastOk so p.1 && (p.1.all (fun c => decide (c ∈ List.range so ++ [2, 3].take bl)) && (decide (p.2 = toldR (so + bl : Nat) bl n p.1.length) && (gHas T p.1 && decide (gLook T p.1 0 = p.2))))))))
def checkW (so bl n : Nat) (T : List (List Nat × Int)) : Bool :=
  (List.range 4).all fun k => (listsGo (List.range so) k).all fun w => decide (fitA w T = toldGo k (so + bl : Nat) bl n (n + 1))
def namesOf (so bl n : Nat) : List (List Nat) := (listsGo (asOf so bl) n).map nameA
theorem ct101 : checkT 1 0 1 (gTally (namesOf 1 0 1)) = true := by decide +kernel
theorem cw101 : checkW 1 0 1 (gTally (namesOf 1 0 1)) = true := by decide +kernel
theorem ct102 : checkT 1 0 2 (gTally (namesOf 1 0 2)) = true := by decide +kernel
theorem cw102 : checkW 1 0 2 (gTally (namesOf 1 0 2)) = true := by decide +kernel
theorem ct103 : checkT 1 0 3 (gTally (namesOf 1 0 3)) = true := by decide +kernel
theorem cw103 : checkW 1 0 3 (gTally (namesOf 1 0 3)) = true := by decide +kernel
theorem ct104 : checkT 1 0 4 (gTally (namesOf 1 0 4)) = true := by decide +kernel
theorem cw104 : checkW 1 0 4 (gTally (namesOf 1 0 4)) = true := by decide +kernel
theorem ct111 : checkT 1 1 1 (gTally (namesOf 1 1 1)) = true := by decide +kernel
theorem cw111 : checkW 1 1 1 (gTally (namesOf 1 1 1)) = true := by decide +kernel
theorem ct112 : checkT 1 1 2 (gTally (namesOf 1 1 2)) = true := by decide +kernel
theorem cw112 : checkW 1 1 2 (gTally (namesOf 1 1 2)) = true := by decide +kernel
theorem ct113 : checkT 1 1 3 (gTally (namesOf 1 1 3)) = true := by decide +kernel
theorem cw113 : checkW 1 1 3 (gTally (namesOf 1 1 3)) = true := by decide +kernel
theorem ct121 : checkT 1 2 1 (gTally (namesOf 1 2 1)) = true := by decide +kernel
theorem cw121 : checkW 1 2 1 (gTally (namesOf 1 2 1)) = true := by decide +kernel
theorem ct122 : checkT 1 2 2 (gTally (namesOf 1 2 2)) = true := by decide +kernel
theorem cw122 : checkW 1 2 2 (gTally (namesOf 1 2 2)) = true := by decide +kernel
theorem ct123 : checkT 1 2 3 (gTally (namesOf 1 2 3)) = true := by decide +kernel
theorem cw123 : checkW 1 2 3 (gTally (namesOf 1 2 3)) = true := by decide +kernel
theorem ct201 : checkT 2 0 1 (gTally (namesOf 2 0 1)) = true := by decide +kernel
theorem cw201 : checkW 2 0 1 (gTally (namesOf 2 0 1)) = true := by decide +kernel
theorem ct202 : checkT 2 0 2 (gTally (namesOf 2 0 2)) = true := by decide +kernel
theorem cw202 : checkW 2 0 2 (gTally (namesOf 2 0 2)) = true := by decide +kernel
theorem ct203 : checkT 2 0 3 (gTally (namesOf 2 0 3)) = true := by decide +kernel
theorem cw203 : checkW 2 0 3 (gTally (namesOf 2 0 3)) = true := by decide +kernel
theorem ct211 : checkT 2 1 1 (gTally (namesOf 2 1 1)) = true := by decide +kernel
theorem cw211 : checkW 2 1 1 (gTally (namesOf 2 1 1)) = true := by decide +kernel
theorem ct212 : checkT 2 1 2 (gTally (namesOf 2 1 2)) = true := by decide +kernel
theorem cw212 : checkW 2 1 2 (gTally (namesOf 2 1 2)) = true := by decide +kernel
theorem ct213 : checkT 2 1 3 (gTally (namesOf 2 1 3)) = true := by decide +kernel
theorem cw213 : checkW 2 1 3 (gTally (namesOf 2 1 3)) = true := by decide +kernel
theorem conf {so bl n : Nat} (h1 : 1 ≤ so) (h2 : so ≤ 2) (h3 : bl + so ≤ 3) (h4 : 1 ≤ n) (h5 : n ≤ 4) (h6 : 1 < so + bl → n ≤ 3) : checkT so bl n (gTally (namesOf so bl n)) = true ∧ checkW so bl n (gTally (namesOf so bl n)) = true := by
  have e1 : so = 1 ∨ so = 2 := by omega
  have e2 : bl = 0 ∨ bl = 1 ∨ bl = 2 := by omega
  have e3 : n = 1 ∨ n = 2 ∨ n = 3 ∨ n = 4 := by omega
  rcases e1 with rfl | rfl <;> rcases e2 with rfl | rfl | rfl
  · rcases e3 with rfl | rfl | rfl | rfl
    · exact ⟨ct101, cw101⟩
    · exact ⟨ct102, cw102⟩
    · exact ⟨ct103, cw103⟩
    · exact ⟨ct104, cw104⟩
  · rcases e3 with rfl | rfl | rfl | rfl
    · exact ⟨ct111, cw111⟩
    · exact ⟨ct112, cw112⟩
    · exact ⟨ct113, cw113⟩
    · exact absurd (h6 (by decide)) (by decide)
  · rcases e3 with rfl | rfl | rfl | rfl
    · exact ⟨ct121, cw121⟩
    · exact ⟨ct122, cw122⟩
    · exact ⟨ct123, cw123⟩
    · exact absurd (h6 (by decide)) (by decide)
  · rcases e3 with rfl | rfl | rfl | rfl
    · exact ⟨ct201, cw201⟩
    · exact ⟨ct202, cw202⟩
    · exact ⟨ct203, cw203⟩
    · exact absurd (h6 (by decide)) (by decide)
  · rcases e3 with rfl | rfl | rfl | rfl
    · exact ⟨ct211, cw211⟩
    · exact ⟨ct212, cw212⟩
    · exact ⟨ct213, cw213⟩
    · exact absurd (h6 (by decide)) (by decide)
  · exact absurd h3 (by decide)
end Mine
end
section
open PySem PySem.W PyProof.Rows PySem.Spec PySem.Calls PyProof.V
open PySem.Builtin PySem.Builtin.Str
set_option Elab.async false
set_option maxRecDepth 100000
set_option maxHeartbeats 1000000
namespace Mine
theorem texts_lists (gcs : List Nat) : ∀ n, textsGo (gcs.map one1) n = (listsGo gcs n).map fun l => (⟨l.toArray⟩ : Str)
  | 0 => by
    show [Str.ofString ""] = [⟨([] : List Nat).toArray⟩]
    rw [nothing]
  | n + 1 => by
    show prodL (textsGo _ n) _ = ((listsGo gcs n).flatMap fun l => gcs.map fun c => l ++ [c]).map _
    rw [texts_lists gcs n]
    unfold prodL
    rw [List.flatMap_map, List.map_flatMap]
    congr 1; funext l
    rw [List.map_map, List.map_map]
    refine List.map_congr_left fun c _ => ?_
    exact Str.ext' (by simp [Function.comp, one1, Str.cps_append])
theorem lists_map (f : Nat → Nat) (as : List Nat) : ∀ n, listsGo (as.map f) n = (listsGo as n).map (List.map f)
  | 0 => rfl
  | n + 1 => by
    show (listsGo (as.map f) n).flatMap _ = ((listsGo as n).flatMap fun l => as.map fun c => l ++ [c]).map _
    rw [lists_map f as n, List.flatMap_map, List.map_flatMap]
    congr 1; funext l
    rw [List.map_map, List.map_map]
    refine List.map_congr_left fun c _ => ?_
    simp [Function.comp]
theorem lists_mem {as : List Nat} : ∀ {n : Nat} {l : List Nat}, l ∈ listsGo as n → ∀ c ∈ l, c ∈ as
  | 0, l, h => by rw [List.mem_singleton.mp h]; exact fun _ h => nomatch h
  | n + 1, l, h => by
    obtain ⟨k, hk, h2⟩ := List.mem_flatMap.mp h
    obtain ⟨d, hd, rfl⟩ := List.mem_map.mp h2
    intro c hc
    rcases List.mem_append.mp hc with hc | hc
    · exact lists_mem hk c hc
    · rw [List.mem_singleton.mp hc]; exact hd
theorem lists_all {as : List Nat} : ∀ (n : Nat) (l : List Nat), l.length = n → (∀ c ∈ l, c ∈ as) → l ∈ listsGo as n
  | 0, l, h, _ => by rw [List.length_eq_zero_iff.mp h]; exact .head _
  | n + 1, l, h, hm => by
    have hne : l ≠ [] := by rintro rfl; simp at h
    have e : l = l.dropLast ++ [l.getLast hne] := (List.dropLast_concat_getLast hne).symm
    rw [e]
    refine List.mem_flatMap.mpr ⟨l.dropLast, lists_all n _ (by rw [List.length_dropLast]; omega) fun c hc => hm c ((List.dropLast_sublist l).subset hc), ?_⟩
    exact List.mem_map.mpr ⟨l.getLast hne, hm _ (List.getLast_mem hne), rfl⟩
structure PhiOk (f : Nat → Nat) : Prop where
  nl : ∀ c, c ≤ 6 → (f c != 10) = !Nat.beq c 6
  col : ∀ c, c ≤ 6 → (f c != 58) = !Nat.beq c 5
  dot : ∀ c, c ≤ 6 → (f c != 46) = !Nat.beq c 4
  sp : ∀ c, c ≤ 6 → Unicode.isSpace (f c) = spA c
  inj : ∀ a b, a ≤ 6 → b ≤ 6 → f a = f b → a = b
theorem tw_map {f : Nat → Nat} {p q : Nat → Bool} : ∀ {l : List Nat}, (∀ c ∈ l, p (f c) = q c) → (l.map f).takeWhile p = (l.takeWhile q).map f
  | [], _ => rfl
  | a :: l, h => by
    have h1 := h a (.head _)
    have ih := tw_map (l := l) fun c hc => h c (.tail _ hc)
    rw [List.map_cons, List.takeWhile_cons, List.takeWhile_cons, h1]
    split
    · rw [ih]; rfl
    · rfl
theorem dw_map {f : Nat → Nat} {p q : Nat → Bool} : ∀ {l : List Nat}, (∀ c ∈ l, p (f c) = q c) → (l.map f).dropWhile p = (l.dropWhile q).map f
  | [], _ => rfl
  | a :: l, h => by
    have h1 := h a (.head _)
    have ih := dw_map (l := l) fun c hc => h c (.tail _ hc)
    rw [List.map_cons, List.dropWhile_cons, List.dropWhile_cons, h1]
    split
    · rw [ih]
    · rfl
theorem tw_sub {q : Nat → Bool} {l : List Nat} {c : Nat} (h : c ∈ l.takeWhile q) : c ∈ l := (List.takeWhile_sublist q).subset h
theorem dw_sub {q : Nat → Bool} {l : List Nat} {c : Nat} (h : c ∈ l.dropWhile q) : c ∈ l := (List.dropWhile_sublist q).subset h
theorem name_map {f : Nat → Nat} (P : PhiOk f) {l : List Nat} (h : ∀ c ∈ l, c ≤ 6) : nameL (l.map f) = (nameA l).map f := by
  unfold nameL stripL rstripL nameA
  rw [tw_map fun c hc => P.nl c (h c hc), tw_map fun c hc => P.col c (h c (tw_sub hc)), ← List.map_reverse,
    tw_map fun c hc => P.dot c (h c (tw_sub (tw_sub (List.mem_reverse.mp hc)))), ← List.map_reverse, ← List.map_reverse,
    dw_map fun c hc => P.sp c (h c (tw_sub (tw_sub (List.mem_reverse.mp (tw_sub (List.mem_reverse.mp (List.mem_reverse.mp hc))))))), ← List.map_reverse]
theorem name_sub {l : List Nat} {c : Nat} (h : c ∈ nameA l) : c ∈ l := by
  unfold nameA at h
  exact tw_sub (tw_sub (List.mem_reverse.mp (tw_sub (List.mem_reverse.mp (List.mem_reverse.mp (dw_sub (List.mem_reverse.mp h)))))))
section
variable {α β : Type} [DecidableEq α] [DecidableEq β] {f : α → β} {S : α → Prop}
def mapT (f : α → β) (c : List (α × Int)) : List (β × Int) := c.map fun p => (f p.1, p.2)
theorem any_map (inj : ∀ a b, S a → S b → f a = f b → a = b) {k : α} (hk : S k) : ∀ (c : List (α × Int)), (∀ p ∈ c, S p.1) → (mapT f c).any (fun p => decide (p.1 = f k)) = c.any fun p => decide (p.1 = k)
  | [], _ => rfl
  | p :: c, h => by
    have ih := any_map inj hk c fun q hq => h q (.tail _ hq)
    unfold mapT at ih ⊢
    rw [List.map_cons, List.any_cons, List.any_cons, ih]
    have e : decide (f p.1 = f k) = decide (p.1 = k) := decide_eq_decide.mpr ⟨inj _ _ (h p (.head _)) hk, congrArg f⟩
    show (decide (f p.1 = f k) || _) = _
    rw [e]
theorem look_map (inj : ∀ a b, S a → S b → f a = f b → a = b) {k : α} (hk : S k) (d : Int) : ∀ (c : List (α × Int)), (∀ p ∈ c, S p.1) → gLook (mapT f c) (f k) d = gLook c k d
  | [], _ => rfl
  | p :: c, h => by
    have ih := look_map inj hk d c fun q hq => h q (.tail _ hq)
    unfold gLook mapT at ih ⊢
    rw [List.map_cons]
    by_cases hc : p.1 = k
    · rw [List.find?_cons_of_pos (by simp [hc]), List.find?_cons_of_pos (by simp [hc])]; rfl
    · have hc' : ¬ f p.1 = f k := fun q => hc (inj _ _ (h p (.head _)) hk q)
      rw [List.find?_cons_of_neg (by simp [hc']), List.find?_cons_of_neg (by simp [hc]), ih]
theorem put_map (inj : ∀ a b, S a → S b → f a = f b → a = b) {k : α} (hk : S k) (v : Int) (c : List (α × Int)) (h : ∀ p ∈ c, S p.1) : gPut (mapT f c) (f k) v = mapT f (gPut c k v) := by
  unfold gPut
  rw [any_map inj hk c h]
  split
  · unfold mapT
    rw [List.map_map, List.map_map]
    refine List.map_congr_left fun p hp => ?_
    show (if decide (f p.1 = f k) = true then (f p.1, v) else (f p.1, p.2)) = (fun p => (f p.1, p.2)) (if decide (p.1 = k) = true then (p.1, v) else p)
    have e : decide (f p.1 = f k) = decide (p.1 = k) := decide_eq_decide.mpr ⟨inj _ _ (h p hp) hk, congrArg f⟩
    rw [e]
    split <;> rfl
  · unfold mapT
    rw [List.map_append]; rfl
theorem put_keys {k : α} (hk : S k) (v : Int) (c : List (α × Int)) (h : ∀ p ∈ c, S p.1) : ∀ p ∈ gPut c k v, S p.1 := by
  unfold gPut
  intro p hp
  split at hp
  · obtain ⟨q, hq, rfl⟩ := List.mem_map.mp hp
    split
    · exact h q hq
    · exact h q hq
  · rcases List.mem_append.mp hp with hp | hp
    · exact h p hp
    · rw [List.mem_singleton.mp hp]; exact hk
theorem tally_go (inj : ∀ a b, S a → S b → f a = f b → a = b) : ∀ (l : List α) (c : List (α × Int)), (∀ k ∈ l, S k) → (∀ p ∈ c, S p.1) →
    (l.map f).foldl (fun c k => gPut c k (gLook c k 0 + 1)) (mapT f c) = mapT f (l.foldl (fun c k => gPut c k (gLook c k 0 + 1)) c) ∧ ∀ p ∈ l.foldl (fun c k => gPut c k (gLook c k 0 + 1)) c, S p.1
  | [], c, _, hc => ⟨rfl, hc⟩
  | k :: l, c, hl, hc => by
    have hk := hl k (.head _)
    rw [List.map_cons, List.foldl_cons, List.foldl_cons, look_map inj hk 0 c hc, put_map inj hk _ c hc]
    exact tally_go inj l _ (fun q hq => hl q (.tail _ hq)) (put_keys hk _ c hc)
theorem tally_map (inj : ∀ a b, S a → S b → f a = f b → a = b) (l : List α) (hl : ∀ k ∈ l, S k) : gTally (l.map f) = mapT f (gTally l) ∧ ∀ p ∈ gTally l, S p.1 :=
  tally_go inj l [] hl fun _ h => nomatch h
end
theorem remS_inj {x y : List Nat} (h : remS x = remS y) : x = y := by
  by_cases hx : x = [] <;> by_cases hy : y = []
  · rw [hx, hy]
  · exfalso
    rw [hx, remS_ne hy] at h
    have h1 := congrArg (fun s : Str => s.cps.toList.length) h
    simp [remS] at h1
  · exfalso
    rw [hy, remS_ne hx] at h
    have h1 := congrArg (fun s : Str => s.cps.toList.length) h
    simp [remS] at h1
  · rw [remS_ne hx, remS_ne hy] at h
    have h1 := congrArg (fun s : Str => s.cps.toList) h
    simp at h1
    exact h1
theorem map_inj {f : Nat → Nat} (P : PhiOk f) : ∀ {x y : List Nat}, (∀ c ∈ x, c ≤ 6) → (∀ c ∈ y, c ≤ 6) → x.map f = y.map f → x = y
  | [], [], _, _, _ => rfl
  | [], _ :: _, _, _, h => by simp at h
  | _ :: _, [], _, _, h => by simp at h
  | a :: x, b :: y, hx, hy, h => by
    rw [List.map_cons, List.map_cons, List.cons.injEq] at h
    rw [P.inj a b (hx a (.head _)) (hy b (.head _)) h.1, map_inj P (fun c hc => hx c (.tail _ hc)) (fun c hc => hy c (.tail _ hc)) h.2]
end Mine
end
section
open PySem PySem.W PyProof.Rows PySem.Spec PySem.Calls PyProof.V
open PySem.Builtin PySem.Builtin.Str
set_option Elab.async false
set_option maxRecDepth 100000
set_option maxHeartbeats 1000000
namespace Mine
theorem occ_from (x : Str) (c lo : Nat) (hlo : lo ≤ x.length) : occurrences x ⟨#[c]⟩ lo x.length 1 = if c ∈ x.cps.toList.drop lo then [lo + ahead c (x.cps.toList.drop lo)] else [] := by
  rw [occ_occL]
  show occL x.cps.toList [c] x.length 1 (List.range' lo (x.length + 1 - lo)) [] lo = _
  have e : x.cps.toList.take x.length = x.cps.toList := List.take_of_length_le (by rw [toL_len]; exact Nat.le_refl _)
  rw [occL_first _ _ _ _ _ fun i hi => (List.mem_range'_1.mp hi).1, first_go _ c x.length (by rw [toL_len]; exact Nat.le_refl _) _ lo (by omega), e]
  split
  · rfl
  · rfl
theorem find4_from (x : Str) (c lo : Nat) (hlo : lo ≤ x.length) : find4 x ⟨#[c]⟩ (lo : Int) (x.length : Int) = if c ∈ x.cps.toList.drop lo then ((lo + ahead c (x.cps.toList.drop lo) : Nat) : Int) else -1 := by
  unfold find4
  rw [from_nat, from_nat, Nat.min_self, occ_from x c lo hlo]
  by_cases h : c ∈ x.cps.toList.drop lo
  · rw [if_pos h, if_pos h]
  · rw [if_neg h, if_neg h]
theorem find4_none (x : Str) (lo : Nat) (hlo : lo ≤ x.length) : find4 x ⟨#[]⟩ (lo : Int) (x.length : Int) = (lo : Int) := by
  unfold find4
  rw [from_nat, from_nat, Nat.min_self, occ_occL]
  show (match occL x.cps.toList [] x.length 1 (List.range' lo (x.length + 1 - lo)) [] lo with | k :: _ => (k : Int) | [] => -1) = _
  rw [occL_first _ _ _ _ _ fun i hi => (List.mem_range'_1.mp hi).1]
  have e : x.length + 1 - lo = (x.length - lo) + 1 := by omega
  rw [e, List.range'_succ, List.find?_cons_of_pos (by unfold okAt; simp [hlo])]
  rfl
theorem ahead_lt {c : Nat} {l : List Nat} (h : c ∈ l) : ahead c l < l.length := by
  have := behind_lt (l := l.reverse) (List.mem_reverse.mpr h)
  unfold behind at this
  rw [List.reverse_reverse, List.length_reverse] at this
  exact this
theorem ell_go (x : Str) : ∀ (ws : List Nat) (p : Nat), p ≤ x.length → ellGo x (x.length : Int) (ws.map one1 ++ [Str.ofString ""]) (p : Int) = subL ws (x.cps.toList.drop p)
  | [], p, hp => by
    show ellGo x (x.length : Int) [Str.ofString ""] (p : Int) = true
    unfold ellGo
    rw [nothing, find4_none x p hp, if_neg (by omega)]
    rfl
  | c :: ws, p, hp => by
    show ellGo x (x.length : Int) (one1 c :: (ws.map one1 ++ [Str.ofString ""])) (p : Int) = subL (c :: ws) _
    unfold ellGo subL one1
    rw [find4_from x c p hp]
    by_cases h : c ∈ x.cps.toList.drop p
    · have h1 := ahead_lt h
      rw [List.length_drop, toL_len] at h1
      rw [if_pos h, if_neg (by omega), if_pos h, List.drop_drop]
      have e : (((p + ahead c (x.cps.toList.drop p) : Nat) : Int) + (((⟨#[c]⟩ : Str).length : Nat) : Int)) = ((p + (ahead c (x.cps.toList.drop p) + 1) : Nat) : Int) := by
        show _ + ((1 : Nat) : Int) = _
        omega
      rw [e]
      exact ell_go x ws _ (by omega)
    · rw [if_neg h, if_pos (by decide), if_neg h]
theorem ell_rem (ws y : List Nat) : ellS (ws.map one1 ++ [Str.ofString ""]) (remS y) = (!y.isEmpty && subL ws y) := by
  unfold ellS
  by_cases hy : y = []
  · subst hy
    have e : Txt.startswith (remS []) (Str.ofString "# ") = false := by decide +kernel
    rw [e]; rfl
  · have hl := remS_len hy
    have hls : (remS y).cps.toList = 35 :: 32 :: y := by rw [remS_ne hy]
    have e : Txt.startswith (remS y) (Str.ofString "# ") = true := by
      unfold Txt.startswith
      rw [Bool.and_eq_true]
      refine ⟨decide_eq_true ?_, ?_⟩
      · rw [hl, hashes]
        show 0 + 2 ≤ _
        omega
      · rw [StrLaws.subAt_eq, hashes, hls]
        show ((35 :: 32 :: y).take 2 == [35, 32]) = true
        simp
    have hne : y.isEmpty = false := by cases y with | nil => exact absurd rfl hy | cons a r => rfl
    have h2 : decide ((2 : Int) ≤ ((remS y).length : Int)) = true := decide_eq_true (by omega)
    have h3 := ell_go (remS y) ws 2 (by omega)
    rw [hls] at h3
    rw [e, h2, hne, Bool.true_and, Bool.true_and, Bool.not_false, Bool.true_and]
    exact h3
theorem ahead_map {f : Nat → Nat} (P : PhiOk f) {c : Nat} (hc : c ≤ 6) {l : List Nat} (h : ∀ q ∈ l, q ≤ 6) : ahead (f c) (l.map f) = ahead c l := by
  unfold ahead
  have key : ∀ q ∈ l, (fun x => x != f c) (f q) = (fun x => x != c) q := by
    intro q hq
    show (f q != f c) = (q != c)
    by_cases e : q = c
    · rw [e]; simp
    · have e' : f q ≠ f c := fun z => e (P.inj _ _ (h q hq) hc z)
      rw [bne_iff_ne.mpr e, bne_iff_ne.mpr e']
  rw [tw_map key, List.length_map]
theorem mem_map_phi {f : Nat → Nat} (P : PhiOk f) {c : Nat} (hc : c ≤ 6) {l : List Nat} (h : ∀ q ∈ l, q ≤ 6) : f c ∈ l.map f ↔ c ∈ l := by
  constructor
  · intro q
    obtain ⟨d, hd, e⟩ := List.mem_map.mp q
    rw [← P.inj d c (h d hd) hc e]; exact hd
  · exact fun q => List.mem_map.mpr ⟨c, q, rfl⟩
theorem sub_map {f : Nat → Nat} (P : PhiOk f) : ∀ (w l : List Nat), (∀ c ∈ w, c ≤ 6) → (∀ c ∈ l, c ≤ 6) → subL (w.map f) (l.map f) = subL w l
  | [], _, _, _ => rfl
  | c :: w, l, hw, hl => by
    have hc := hw c (.head _)
    rw [List.map_cons]
    unfold subL
    by_cases hm : c ∈ l
    · rw [if_pos hm, if_pos ((mem_map_phi P hc hl).mpr hm), ahead_map P hc hl, ← List.map_drop]
      exact sub_map P w _ (fun q hq => hw q (.tail _ hq)) fun q hq => hl q (List.mem_of_mem_drop hq)
    · rw [if_neg hm, if_neg fun q => hm ((mem_map_phi P hc hl).mp q)]
theorem fit_map {f : Nat → Nat} (P : PhiOk f) (w : List Nat) (hw : ∀ c ∈ w, c ≤ 6) : ∀ T : List (List Nat × Int), (∀ p ∈ T, ∀ c ∈ p.1, c ≤ 6) → fitS ((w.map f).map one1 ++ [Str.ofString ""]) (T.map fun p => (remS (p.1.map f), p.2)) = fitA w T
  | [], _ => rfl
  | p :: T, h => by
    have hp := h p (.head _)
    rw [List.map_cons]
    unfold fitS fitA
    rw [fit_map P w hw T fun q hq => h q (.tail _ hq), ell_rem, sub_map P w p.1 hw hp]
    have e : (p.1.map f).isEmpty = p.1.isEmpty := by cases p.1 <;> rfl
    show (if (!(p.1.map f).isEmpty && subL w p.1) = true then p.2 else 0) + _ = _
    rw [e]
def phi (b w0 w1 : Nat) : Nat → Nat
  | 0 => b
  | 1 => b + 1
  | 2 => w0
  | 3 => w1
  | 4 => 46
  | 5 => 58
  | _ => 10
theorem letter_sp : ∀ n : Fin 25, Unicode.isSpace (97 + n.val) = false ∧ Unicode.isSpace (945 + n.val) = false := by decide +kernel
theorem sp_of {n : Nat} (h : (97 ≤ n ∧ n ≤ 121) ∨ (945 ≤ n ∧ n ≤ 969)) : Unicode.isSpace n = false := by
  rcases h with h | h
  · have := (letter_sp ⟨n - 97, by omega⟩).1
    rwa [show 97 + (n - 97) = n by omega] at this
  · have := (letter_sp ⟨n - 945, by omega⟩).2
    rwa [show 945 + (n - 945) = n by omega] at this
theorem sp_rest : Unicode.isSpace 32 = true ∧ Unicode.isSpace 9 = true ∧ Unicode.isSpace 46 = false ∧ Unicode.isSpace 58 = false ∧ Unicode.isSpace 10 = true := by decide +kernel
theorem phi_cases {c : Nat} (h : c ≤ 6) : c = 0 ∨ c = 1 ∨ c = 2 ∨ c = 3 ∨ c = 4 ∨ c = 5 ∨ c = 6 := by omega
theorem phi_ok {b w0 w1 : Nat} (hb : (97 ≤ b ∧ b ≤ 120) ∨ (945 ≤ b ∧ b ≤ 968)) (hw : (w0 = 9 ∧ w1 = 32) ∨ (w0 = 32 ∧ w1 = 9)) : PhiOk (phi b w0 w1) where
  nl c h := by
    rcases phi_cases h with rfl | rfl | rfl | rfl | rfl | rfl | rfl <;> simp only [phi] <;> first | rfl | (rw [bne_iff_ne.mpr (by omega)]; rfl)
  col c h := by
    rcases phi_cases h with rfl | rfl | rfl | rfl | rfl | rfl | rfl <;> simp only [phi] <;> first | rfl | (rw [bne_iff_ne.mpr (by omega)]; rfl)
  dot c h := by
    rcases phi_cases h with rfl | rfl | rfl | rfl | rfl | rfl | rfl <;> simp only [phi] <;> first | rfl | (rw [bne_iff_ne.mpr (by omega)]; rfl)
  sp c h := by
    have h1 := sp_of (n := b) (by omega)
    have h2 := sp_of (n := b + 1) (by omega)
    obtain ⟨s1, s2, s3, s4, s5⟩ := sp_rest
    rcases phi_cases h with rfl | rfl | rfl | rfl | rfl | rfl | rfl <;> simp only [phi]
    · rw [h1]; rfl
    · rw [h2]; rfl
    · rcases hw with ⟨rfl, rfl⟩ | ⟨rfl, rfl⟩
      · rw [s2]; rfl
      · rw [s1]; rfl
    · rcases hw with ⟨rfl, rfl⟩ | ⟨rfl, rfl⟩
      · rw [s1]; rfl
      · rw [s2]; rfl
    · rw [s3]; rfl
    · rw [s4]; rfl
    · rw [s5]; rfl
  inj a c ha hc h := by
    rcases phi_cases ha with rfl | rfl | rfl | rfl | rfl | rfl | rfl <;> rcases phi_cases hc with rfl | rfl | rfl | rfl | rfl | rfl | rfl <;> simp only [phi] at h <;> first | rfl | (exfalso; omega)
end Mine
end
section
open PySem PySem.W PyProof.Rows PySem.Spec PySem.Calls PyProof.V
open PySem.Builtin PySem.Builtin.Str
set_option Elab.async false
set_option maxRecDepth 100000
set_option maxHeartbeats 1000000
namespace Mine
theorem as_le {so b c : Nat} (h2 : so ≤ 2) (h : c ∈ asOf so b) : c ≤ 6 := by
  unfold asOf at h
  rcases List.mem_append.mp h with h | h
  · rcases List.mem_append.mp h with h | h
    · have := List.mem_range.mp h; omega
    · have := List.mem_of_mem_take h
      simp at this; omega
  · simp at h; omega
theorem lets_phi (bas : Int) (so w0 w1 : Nat) (hb : 0 ≤ bas) (h2 : so ≤ 2) : letsOf bas (so : Int) = (List.range so).map (phi bas.toNat w0 w1) := by
  unfold letsOf
  show (List.range so).map _ = _
  refine List.map_congr_left fun i hi => ?_
  have hi' := List.mem_range.mp hi
  have e : i = 0 ∨ i = 1 := by omega
  rcases e with rfl | rfl
  · show (bas + 0).toNat = bas.toNat; omega
  · show (bas + 1).toNat = bas.toNat + 1; omega
theorem word_phi {f : Nat → Nat} {so : Nat} (h1 : 1 ≤ so) (k : Int) : wordAt ((List.range so).map f) (so : Int) k = f (k.fmod so).toNat := by
  have a := Int.fmod_nonneg_of_pos k (show (0 : Int) < (so : Int) by omega)
  have b := Int.fmod_lt_of_pos k (show (0 : Int) < (so : Int) by omega)
  unfold wordAt
  rw [List.getElem?_map, List.getElem?_range (by omega)]
  rfl
theorem tally_eq {f : Nat → Nat} (P : PhiOk f) {as : List Nat} (ha : ∀ c ∈ as, c ≤ 6) (n : Nat) :
    tallyS ((textsGo ((as.map f).map one1) n).map fun x => commentS (stripS x)) = mapT (fun y : List Nat => remS (y.map f)) (gTally ((listsGo as n).map nameA)) ∧ ∀ p ∈ gTally ((listsGo as n).map nameA), ∀ c ∈ p.1, c ≤ 6 := by
  have inj : ∀ a b : List Nat, (∀ c ∈ a, c ≤ 6) → (∀ c ∈ b, c ≤ 6) → remS (a.map f) = remS (b.map f) → a = b := fun a b h1 h2 h => map_inj P h1 h2 (remS_inj h)
  have hS : ∀ k ∈ (listsGo as n).map nameA, ∀ c ∈ k, c ≤ 6 := by
    intro k hk c hc
    obtain ⟨l, hl, rfl⟩ := List.mem_map.mp hk
    exact ha c (lists_mem hl c (name_sub hc))
  have hL : ((textsGo ((as.map f).map one1) n).map fun x => commentS (stripS x)) = ((listsGo as n).map nameA).map (fun y : List Nat => remS (y.map f)) := by
    rw [texts_lists, lists_map, List.map_map, List.map_map, List.map_map]
    refine List.map_congr_left fun l hl => ?_
    simp only [Function.comp_apply]
    rw [name_list, name_map P fun c hc => ha c (lists_mem hl c hc)]
  rw [hL]
  generalize (listsGo as n).map nameA = L at hS
  have key := tally_map (f := fun y : List Nat => remS (y.map f)) (S := fun y => ∀ c ∈ y, c ≤ 6) inj L hS
  exact key
theorem plan_all : PlanAll := by
  intro bas solid bl one two ks hso hbl hbs hba hks
  obtain ⟨so, rfl⟩ := Int.eq_ofNat_of_zero_le (show 0 ≤ solid by omega)
  obtain ⟨b, rfl⟩ := Int.eq_ofNat_of_zero_le hbl.1
  have hlen := lenS_bd two ((so : Int) + (b : Int))
  have hcap : (1 : Int) < (so : Int) + (b : Int) → lenS two ((so : Int) + (b : Int)) ≤ 3 := by
    intro h
    unfold lenS
    rw [if_pos h]
    split <;> omega
  obtain ⟨n, hn⟩ := Int.eq_ofNat_of_zero_le (show 0 ≤ lenS two ((so : Int) + (b : Int)) by omega)
  rw [hn] at hlen hcap ⊢
  obtain ⟨w0, w1, hw, hwh⟩ : ∃ w0 w1, ((w0 = 9 ∧ w1 = 32) ∨ (w0 = 32 ∧ w1 = 9)) ∧ whitesOf one = [w0, w1] := by
    unfold whitesOf
    split
    · exact ⟨9, 32, .inl ⟨rfl, rfl⟩, rfl⟩
    · exact ⟨32, 9, .inr ⟨rfl, rfl⟩, rfl⟩
  have P : PhiOk (phi bas.toNat w0 w1) := phi_ok (by omega) hw
  have h1 : 1 ≤ so := by omega
  have h2 : so ≤ 2 := by omega
  have hl := lets_phi bas so w0 w1 (by omega) h2
  have hwits : witsOf (letsOf bas (so : Int)) one (b : Int) = (List.range so ++ [2, 3].take b).map (phi bas.toNat w0 w1) := by
    unfold witsOf
    rw [hl, hwh, List.map_append, List.map_take]
    rfl
  have hgcs : gcsOf (letsOf bas (so : Int)) one (b : Int) = (asOf so b).map (phi bas.toNat w0 w1) := by
    unfold gcsOf asOf
    rw [hwits, List.map_append (l₂ := [4, 5, 6])]
    rfl
  rw [hgcs, hwits, hl]
  generalize phi bas.toNat w0 w1 = f at P
  obtain ⟨cT, cW⟩ := conf h1 h2 (show b + so ≤ 3 by omega) (show 1 ≤ n by omega) (show n ≤ 4 by omega) (show 1 < so + b → n ≤ 3 by omega)
  obtain ⟨hTal, hS⟩ := tally_eq P (as := asOf so b) (fun c hc => as_le h2 hc) n
  unfold namesOf at cT cW
  generalize gTally ((listsGo (asOf so b) n).map nameA) = T at hTal hS cT cW
  unfold checkT at cT
  simp only [Bool.and_eq_true, decide_eq_true_eq, List.all_eq_true] at cT
  obtain ⟨hgn, hTl, hsorts, hall⟩ := cT
  have ecast : ((so + b : Nat) : Int) = (so : Int) + (b : Int) := by omega
  rw [ecast] at hsorts
  have hmm : (T.map fun p => (p.1.map f, p.2)).map (fun p => (remS p.1, p.2)) = mapT (fun y : List Nat => remS (y.map f)) T := by
    unfold mapT; rw [List.map_map]; rfl
  have inj : ∀ a b : List Nat, (∀ c ∈ a, c ≤ 6) → (∀ c ∈ b, c ≤ 6) → remS (a.map f) = remS (b.map f) → a = b := fun a b h1 h2 h => map_inj P h1 h2 (remS_inj h)
  refine ⟨T.map fun p => (p.1.map f, p.2), ?_, ?_, ?_, ⟨?_, ?_, ?_, ?_, ?_⟩, ?_, ?_⟩
  · rw [List.length_map]; exact hgn
  · rw [hmm]; exact hTal
  · rw [List.length_map]; exact hTl
  · intro p hp
    obtain ⟨q, hq, rfl⟩ := List.mem_map.mp hp
    have := (hall q hq).1
    show ((q.1.map f).length : Int) ≤ _
    rw [List.length_map]; omega
  · intro p hp d hd
    obtain ⟨q, hq, rfl⟩ := List.mem_map.mp hp
    have hlo := (hall q hq).2.1
    dsimp only at hd
    rw [List.getLast?_map] at hd
    obtain ⟨e, he, rfl⟩ := Option.map_eq_some_iff.mp hd
    unfold lastOk at hlo
    rw [he] at hlo
    exact List.mem_map.mpr ⟨e, List.mem_range.mpr (of_decide_eq_true hlo), rfl⟩
  · intro p hp d hd
    obtain ⟨q, hq, rfl⟩ := List.mem_map.mp hp
    obtain ⟨e, he, rfl⟩ := List.mem_map.mp hd
    exact List.mem_map.mpr ⟨e, (hall q hq).2.2.1 e he, rfl⟩
  · intro p hp
    obtain ⟨q, hq, rfl⟩ := List.mem_map.mp hp
    have := (hall q hq).2.2.2.1
    rw [ecast] at this
    show q.2 = toldR _ _ _ (q.1.map f).length
    rw [List.length_map]; exact this
  · intro p hp
    obtain ⟨q, hq, rfl⟩ := List.mem_map.mp hp
    have hh := (hall q hq).2.2.2.2
    rw [hmm]
    exact ⟨(any_map (f := fun y : List Nat => remS (y.map f)) (S := fun y => ∀ c ∈ y, c ≤ 6) inj (hS q hq) T hS).trans hh.1, (look_map (f := fun y : List Nat => remS (y.map f)) (S := fun y => ∀ c ∈ y, c ≤ 6) inj (hS q hq) 0 T hS).trans hh.2⟩
  · rw [List.length_map]; exact hsorts
  · have ew : ks.map (wordAt ((List.range so).map f) (so : Int)) = (ks.map fun k => (k.fmod so).toNat).map f := by
      rw [List.map_map]
      exact List.map_congr_left fun k _ => word_phi h1 k
    have hlt : ∀ c ∈ ks.map (fun k => (k.fmod so).toNat), c < so := by
      intro c hc
      obtain ⟨k, _, rfl⟩ := List.mem_map.mp hc
      have a := Int.fmod_nonneg_of_pos k (show (0 : Int) < (so : Int) by omega)
      have b := Int.fmod_lt_of_pos k (show (0 : Int) < (so : Int) by omega)
      omega
    unfold checkW at cW
    simp only [List.all_eq_true, decide_eq_true_eq] at cW
    have hfin := cW ks.length (List.mem_range.mpr (by omega)) _ (lists_all ks.length (ks.map fun k => (k.fmod so).toNat) (List.length_map ..) fun c hc => List.mem_range.mpr (hlt c hc))
    rw [ecast] at hfin
    have hfm := fit_map P (ks.map fun k => (k.fmod so).toNat) (fun c hc => by have := hlt c hc; omega) T hS
    rw [ew, hmm]
    have hfm' : fitS (((ks.map fun k => (k.fmod so).toNat).map f).map one1 ++ [Str.ofString ""]) (mapT (fun y : List Nat => remS (y.map f)) T) = fitA (ks.map fun k => (k.fmod so).toNat) T := hfm
    rw [hfm', hfin, List.length_map, List.length_map]
    rfl
end Mine
end
section
open PySem PySem.W PyProof.Rows PySem.Spec PySem.Calls PyProof.V
set_option Elab.async false
set_option maxRecDepth 100000
set_option maxHeartbeats 8000000
namespace Mine
theorem fin (PA : PlanAll) : PySem.Challenge.rw_rl0002_01.Holds := hd (by
  dsimp only
  w_on
  w_strict k_go0
  rename News _ _ _ _ => N0
  rename Fr _ _ _ _ => F0
  rename Below _ _ _ _ => B0
  rename Top _ _ _ _ _ _ => T0
  rename Heap.IsList _ _ _ => S0
  rename (IntsAre _ _) => I0
  rename List Int => cns
  rename Shared => s1
  have hcl : cns.length ≤ 63 := by omega
  refine wpAny_mono (Q := fun f s' => f = .ret (.bool true) ∧ ∃ h tk m', s' = { s1 with heap := h, toks := tk } ∧ Fr s1.heap s1.heap.objs.size h m') (E := fun _ _ => False) ?_ ?_ ?_
  · with_unfolding_all refine' law_p1a _ _ _ _ PA _ _ _ _ _ _ _ _ _ _ _ _ _ _ _ _ _ _ _ _ _ _ _ _ cns B0 (fr_canon F0 ?k1) ?k2 N0 ?k3 ?k4 ?k5 ?k6 S0 I0 hcl ?k7 T0 ?k8 ?k9 ?k10
    case k1 => (refine List.forall_mem_cons.mpr ⟨?_, List.forall_mem_nil _⟩; with_unfolding_all rfl)
    case k2 => assumption
    case k3 => with_unfolding_all assumption
    case k4 => with_unfolding_all assumption
    case k5 => with_unfolding_all assumption
    case k6 => with_unfolding_all assumption
    case k7 => exact ⟨Nat.lt_succ_self _, Nat.lt_succ_self _, Nat.lt_succ_self _⟩
    case k8 => decide
    case k9 => decide
    case k10 => exact fun h' tk' m' F' => ⟨rfl, h', tk', m', rfl, F'⟩
  · rintro f s' ⟨rfl, h, tk, m', rfl, F'⟩
    k_steps
  · exact fun _ _ h => h.elim)
end Mine
end
open PySem PySem.W PyProof.Rows
set_option Elab.async false
theorem PySem.Challenge.cw_rl0002_01_holds : PySem.Challenge.rw_rl0002_01.Holds := by
  exact Mine.fin Mine.plan_all
