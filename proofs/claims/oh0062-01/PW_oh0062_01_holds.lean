import PyProof.Rows.All
import Wide.All
import OpenK.AllK
import Wide.FinOn
import PyProof.DictWalks
import PyProof.Draws
import PyProof.ExcArgs
import PyProof.GenQ
import PyProof.ListIndexOut
import PySem.Challenge.RW_oh0062_01
set_option Elab.async false
set_option compiler.extract_closed false
set_option maxRecDepth 100000
set_option maxHeartbeats 8000000
set_option linter.all false
set_option genInjectivity false
set_option genSizeOfSpec false

-- part T0
section
open PySem PySem.W PyProof.Rows
namespace Mine
/-- the program with one statement more at its end, ["a".__hash__()]: its top is run in one piece, so that the head's writing is short; what the head wrote out of the heap is the program's own -/
def topP : Program := { PySem.Challenge.pw_oh0062_01 with main := { PySem.Challenge.pw_oh0062_01.main with body := PySem.Challenge.pw_oh0062_01.main.body ++ [Stmt.Expr (Expr.List [Expr.Call (Expr.Attribute (Expr.Constant (Const.str (Str.ofString "a")) 0 ⟨264, 0, 264, 1⟩) (Str.ofString "__hash__") ⟨264, 0, 264, 1⟩) [] [] ⟨264, 0, 264, 1⟩] ⟨264, 0, 264, 1⟩) ⟨264, 0, 264, 1⟩] } }
def topR : OpenLaw := { PySem.Challenge.rw_oh0062_01 with prog := topP, foot := 8 }
open_top hd for (OpenLaw.row topR)
theorem topLeft : LeftO PySem.Challenge.pw_oh0062_01 hd.view_1 [Str.ofString "_NodeInfo"] (fun s => xlAt hd.view_1 [] s && recOk (OpenLaw.row PySem.Challenge.rw_oh0062_01).toRowW.records s)
    (kHook hd.heap_1 [2, 3, 15, 17, 18, 20, 21, 22, 24, 25, 27, 28, 29, 31, 32, 34, 35, 36, 38, 39, 41, 42, 50, 51, 53, 54, 56, 57, 58, 60, 61, 62, 63, 64, 67, 74, 75, 76, 77, 87, 88, 90, 91, 93, 94, 95, 97, 98, 100, 101, 102, 104, 105, 107, 108, 109, 112, 113, 114, 116, 117, 119, 120, 121, 123, 124, 126, 127, 128, 130, 131, 133, 134, 135, 137, 138, 140, 141, 142, 144, 145, 147, 148, 149, 151, 152, 154, 155, 156, 157, 158, 159, 160, 163, 165, 166, 168, 169, 170, 172, 173, 175, 176, 177, 180, 181, 182, 185, 186, 187, 189, 190, 192, 193, 194, 196, 197, 199, 200, 201, 204, 205, 206, 209, 210] (fun _ => by kernel_rfl)).obs (kHook hd.heap_1 [2, 3, 15, 17, 18, 20, 21, 22, 24, 25, 27, 28, 29, 31, 32, 34, 35, 36, 38, 39, 41, 42, 50, 51, 53, 54, 56, 57, 58, 60, 61, 62, 63, 64, 67, 74, 75, 76, 77, 87, 88, 90, 91, 93, 94, 95, 97, 98, 100, 101, 102, 104, 105, 107, 108, 109, 112, 113, 114, 116, 117, 119, 120, 121, 123, 124, 126, 127, 128, 130, 131, 133, 134, 135, 137, 138, 140, 141, 142, 144, 145, 147, 148, 149, 151, 152, 154, 155, 156, 157, 158, 159, 160, 163, 165, 166, 168, 169, 170, 172, 173, 175, 176, 177, 180, 181, 182, 185, 186, 187, 189, 190, 192, 193, 194, 196, 197, 199, 200, 201, 204, 205, 206, 209, 210] (fun _ => by kernel_rfl)).val 2938 := by
  intro w
  kernel_rfl
theorem topSaid : PySem.Challenge.rw_oh0062_01.wellSaid = true := by decide +kernel
end Mine
end

-- part G1
section
open PySem PySem.W PyProof.Rows
namespace Mine
theorem off_G1 : True := by
  w_top off
  first | (walk1; done) | trivial
theorem ar_ne1 {a b : Nat} (h : a < b) : b ≠ a := Nat.ne_of_gt h
theorem ar_ne2 {a b : Nat} (h : a < b) : a ≠ b := Nat.ne_of_lt h
theorem ar_ne3 {a b : Nat} {p : Prop} (h : a < b ∧ p) : b ≠ a := Nat.ne_of_gt h.1
theorem ar_ne4 {a b : Nat} {p q : Prop} (h : q ∧ a < b ∧ p) : b ≠ a := Nat.ne_of_gt h.2.1
theorem ar_ne3' {a b : Nat} {p : Prop} (h : a < b ∧ p) : a ≠ b := Nat.ne_of_lt h.1
theorem ar_ne4' {a b : Nat} {p q : Prop} (h : q ∧ a < b ∧ p) : a ≠ b := Nat.ne_of_lt h.2.1
theorem ar_s1 {a b : Nat} (h : a ≤ b) : a ≤ b + 1 := Nat.le_succ_of_le h
theorem ar_s2 {a b : Nat} (h : a ≤ b) : a + (0 + 1) ≤ b + 1 := Nat.succ_le_succ h
theorem ar_k {a : Nat} (b c : Nat) (h : a ≤ b) (d : Nat.ble b c = true) : a ≤ c := Nat.le_trans h (Nat.le_of_ble_eq_true d)
theorem ar_kl {a : Nat} (b c : Nat) (h : a ≤ b) (d : Nat.ble (b + 1) c = true) : a < c := Nat.lt_of_le_of_lt h (Nat.le_of_ble_eq_true d)
theorem ar_ki {a : Nat} (b : Nat) (c : Int) (h : a ≤ b) (d : decide ((b : Int) < c) = true) : (a : Int) < c := Int.lt_of_le_of_lt (Int.ofNat_le.mpr h) (of_decide_eq_true d)
theorem ar_nn (a : Nat) : 0 ≤ (a : Int) := Int.natCast_nonneg a
theorem ar_nn1 (a : Nat) : 0 ≤ (a : Int) + 1 := by omega
theorem ar_tn (a : Nat) : ((a : Int)).toNat = a := Int.toNat_natCast a
theorem ar_tn1 (a : Nat) : ((a : Int) + 1).toNat = a + 1 := by omega
theorem ar_tn2 (a : Nat) : (((a + 1 : Nat) : Int) - 1).toNat = a := by omega
theorem ar_z1 (a : Nat) : 0 + (a : Int) * 1 = (a : Int) := by omega
theorem ar_z2 (a : Nat) : 1 + (a : Int) * 1 = ((a + 1 : Nat) : Int) := by omega
theorem ar_neg (a : Nat) : ¬ (a : Int) < 0 := by omega
/-- a post condition that the walk need not see through -/
noncomputable def Post {α : Type} (Q : α → Shared → Prop) : α → Shared → Prop := Q
noncomputable def QI {α : Type} (Q Qx : α → Shared → Prop) : Prop := ∀ v s', Q v s' → Qx v s'
noncomputable def QS {α : Type} (Q : α → Shared → Prop) (g : Array GenState) (d : Drawn) (o : OsState) (Qx : α → Shared → Prop) (g' : Array GenState) (d' : Drawn) (o' : OsState) : Prop := ∀ v h k, Q v ⟨h, g, d, k, o⟩ → Qx v ⟨h, g', d', k, o'⟩
theorem Post.use {α : Type} {Q Qx : α → Shared → Prop} {v : α} {s' : Shared} (h : QI Q Qx) (q : Q v s') : Post Qx v s' := h _ _ q
theorem Post.useS {α : Type} {Q Qx : α → Shared → Prop} {v : α} {h : Heap} {g g' : Array GenState} {d d' : Drawn} {k : Nat} {o o' : OsState} (H : QS Q g d o Qx g' d' o') (q : Q v ⟨h, g, d, k, o⟩) : Post Qx v ⟨h, g', d', k, o'⟩ := H _ _ _ q
theorem genQ {α : Type} {M : Model} {A : Around} {t : Sem α} {Q : α → Shared → Prop} {E : Value → Shared → Prop} {s : Shared} (H : ∀ Qx : α → Shared → Prop, QI Q Qx → wpAny M A t (Post Qx) E s) : wpAny M A t Q E s := H Q fun _ _ q => q
theorem genS {α : Type} {M : Model} {A : Around} {t : Sem α} {Q : α → Shared → Prop} {h : Heap} {g : Array GenState} {d : Drawn} {k : Nat} {o : OsState}
    (H : ∀ (Qx : α → Shared → Prop) g' d' o', QS Q g d o Qx g' d' o' → wpAny M A t (Post Qx) (fun _ _ => False) ⟨h, g', d', k, o'⟩) : wpAny M A t Q (fun _ _ => False) ⟨h, g, d, k, o⟩ := H Q _ _ _ fun _ _ _ q => q
noncomputable abbrev pw := PySem.Challenge.pw_oh0062_01
noncomputable def fdef (nm : Str) : List Stmt → Option (Arguments × List Stmt × Scope)
  | [] => none
  | .FunctionDef n a b _ _ _ sc _ _ _ :: r => if n == nm then some (a, b, sc) else fdef nm r
  | _ :: r => fdef nm r
noncomputable def Stop (p : Prop) : Prop := p
theorem stopMark {p : Prop} (h : Stop p) : p := h

/-- the common end of a loop's turn -/
inductive TurnTail {σ : Type} (h₀ : Heap) (L : Addr) (Led : σ → List (Addr × Obj)) (ps : σ → List (Str × Value)) (x : Str) (stored : List Str) (m₀ : Str → Option Value)
    (wr : List Addr) (own : List (Addr × Obj)) (P : σ → Prop) (s s₂ : Shared) : Prop
  | mk (c : σ) (h' : Heap) (tk : Nat) (m' : Str → Option Value) (news' : List (Addr × Obj)) (e : s₂ = { s with heap := h', toks := tk }) (F : Fr h₀ L h' m') (N : News h₀ L h' news')
      (hl : ∀ p ∈ Led c, p ∈ news') (ho : ∀ p ∈ own, p ∈ news') (hw : ∀ p ∈ Led c, p.1 ∉ wr) (hp : ∀ p ∈ ps c, m' p.1 = some p.2)
      (hz : ∀ z, z ≠ x → (∀ p ∈ ps c, z ≠ p.1) → stored.contains z = false → m' z = m₀ z) (k : P c) : TurnTail h₀ L Led ps x stored m₀ wr own P s s₂
/-- what a turn of a loop must end in -/
noncomputable def TurnEnd {σ : Type} (h₀ : Heap) (L : Addr) (Led : σ → List (Addr × Obj)) (ps : σ → List (Str × Value)) (x : Str) (stored : List Str) (m₀ : Str → Option Value)
    (wr : List Addr) (own : List (Addr × Obj)) (P : σ → Prop) (s : Shared) (Q : Flow → Shared → Prop) (f : Flow) (s₂ : Shared) : Prop :=
  match f with
  | .ret v => Q (.ret v) s₂
  | .brk => Q .next s₂
  | _ => TurnTail h₀ L Led ps x stored m₀ wr own P s s₂

section
variable {prog : Program} {w : World} {A : Around} {E : Value → Shared → Prop} {s : Shared} {env : Env} {h₀ : Heap} {x : Str} {body : List Stmt} {Q : Flow → Shared → Prop}

theorem forLed {σ : Type} {I : Addr} {fp wr : List Addr} {n : Nat} {Pv : Nat → Value → Prop} {St : Nat → Heap → Prop} {m₀ : Str → Option Value}
    (Led : σ → List (Addr × Obj)) (ps : σ → List (Str × Value)) (stored : List Str) (P : Nat → σ → Prop) (c₀ : σ)
    (W : Walks prog w A I fp wr n Pv St) (hLf : env.locals ∉ fp) (hwr : ∀ b ∈ wr, h₀.get? b = none) (hnw : ∀ p ∈ Led c₀, p.1 ∉ wr) (hst : St 0 s.heap)
    (F : Fr h₀ env.locals s.heap m₀) (N : News h₀ env.locals s.heap (Led c₀)) (hk : ∀ p ∈ ps c₀, m₀ p.1 = some p.2) (hp : P 0 c₀)
    (turn : ∀ i v (c : σ) (u : Str → Option Value) h tk own, i < n → Pv i v → P i c → (∀ p ∈ Led c, p.1 ∉ wr) → (∀ p ∈ own, p.1 ∈ fp) →
      Fr h₀ env.locals h (fun y => if y = x then some v else kstB (fun z => if stored.contains z then u z else m₀ z) (ps c) y) → News h₀ env.locals h (Led c ++ own) →
      wpAny (model prog w) A (execs body env) (TurnEnd h₀ env.locals Led ps x stored m₀ wr own (P (i + 1)) { s with heap := h, toks := tk } Q) E { s with heap := h, toks := tk })
    (done : ∀ (c : σ) (u : Str → Option Value) h tk, P n c → Fr h₀ env.locals h (fun y => if y = x then u y else kstB (fun z => if stored.contains z then u z else m₀ z) (ps c) y) →
      News h₀ env.locals h (Led c) → Q .next { s with heap := h, toks := tk }) :
    LoopAtV prog w A h₀ env x body Q E (.ref I) s := by
  have canon : ∀ (c : σ) (m : Str → Option Value) (z : Str), (∀ p ∈ ps c, m p.1 = some p.2) → (∀ z, z ≠ x → (∀ p ∈ ps c, z ≠ p.1) → stored.contains z = false → m z = m₀ z) → z ≠ x →
      kstB (fun z => if stored.contains z then m z else m₀ z) (ps c) z = m z := by
    intro c m z h1 h2 hz
    refine kstB_eq h1 fun h3 => ?_
    cases hc : stored.contains z with
    | true => simp
    | false => simp only [Bool.false_eq_true, if_false]; exact (h2 z hz h3 hc).symm
  let J : Nat → (Str → Option Value) → List (Addr × Obj) → Prop := fun i m news =>
    ∃ c : σ, news = Led c ∧ (∀ p ∈ ps c, m p.1 = some p.2) ∧ (∀ z, z ≠ x → (∀ p ∈ ps c, z ≠ p.1) → stored.contains z = false → m z = m₀ z) ∧ P i c
  refine ⟨I, fp, wr, n, Pv, St, m₀, Led c₀, J, rfl, W, hLf, hwr, hnw, hst, F, N, ⟨c₀, rfl, hk, fun _ _ _ _ => rfl, hp⟩, ?_, ?_⟩
  · rintro i v m₁ news₁ s₁ own ⟨hh', tk', rfl⟩ hin hP ⟨c, rfl, h1, h2, hp'⟩ hoff hown _ _ _ F₁ N₁
    have e : (fun y => if y = x then some v else m₁ y) = fun y => if y = x then some v else kstB (fun z => if stored.contains z then m₁ z else m₀ z) (ps c) y := by
      funext z
      by_cases hz : z = x
      · simp [hz]
      · simp only [if_neg hz]; exact (canon c m₁ z h1 h2 hz).symm
    rw [e] at F₁
    have N₂ : News h₀ env.locals hh' (Led c ++ own) := fun p hp => N₁ p ((List.mem_append.mp hp).elim (fun h => List.mem_append.mpr (.inr h)) fun h => List.mem_append.mpr (.inl h))
    refine wpAny_mono (turn i v c m₁ hh' tk' own hin hP hp' hoff hown F₁ N₂) (fun f s₂ p => ?_) fun _ _ e => e
    have fin : (TurnTail h₀ env.locals Led ps x stored m₀ wr own (P (i + 1)) { s with heap := hh', toks := tk' } s₂) → LoopStepU h₀ env.locals wr own (J (i + 1)) { s with heap := hh', toks := tk' } .next s₂ := by
      rintro ⟨c', h', tk, m', news', e, F', N', hn, ho, ha, hb, hc, hm⟩
      exact ⟨rfl, h', tk, m', Led c', e, F', fun p hp => N' p ((List.mem_append.mp hp).elim (ho p) (hn p)), ha, c', rfl, hb, hc, hm⟩
    cases f with
    | ret v => exact .ret p
    | brk => exact .brk p
    | next => exact .next (fin p)
    | cont => exact .cont (fin p)
  · rintro h' tk m' news' F' N' _ ⟨c, rfl, h1, h2, hp'⟩
    refine done c m' h' tk hp' ?_ N'
    have e : (fun y => if y = x then m' y else kstB (fun z => if stored.contains z then m' z else m₀ z) (ps c) y) = m' := by
      funext z
      by_cases hz : z = x
      · simp [hz]
      · simp only [if_neg hz]; exact canon c m' z h1 h2 hz
    rw [e]; exact F'

theorem iterRange {σ : Type} {r : Addr} {a b st : Int} {t₀ u₀ v₀ : Tok} {n : Nat} {m₀ : Str → Option Value} (Led : σ → List (Addr × Obj)) (ps : σ → List (Str × Value)) (stored : List Str) (P : Nat → σ → Prop) (c₀ : σ)
    (hr : IsRange s.heap r a b st t₀ u₀ v₀) (hsmall : Builtin.Range.small a b st = true) (hn : Builtin.Range.rangeSize a b st = (n : Int))
    (hh : A.handled = none) (F : Fr h₀ env.locals s.heap m₀) (N : News h₀ env.locals s.heap (Led c₀)) (hk : ∀ p ∈ ps c₀, m₀ p.1 = some p.2) (hp : P 0 c₀)
    (turn : ∀ (i : Nat) tc (c : σ) (u : Str → Option Value) h tk own wr, i < n → P i c → (∀ p ∈ Led c, p.1 ∉ wr) → (∀ p ∈ own, ∀ q ∈ Led c, p.1 ≠ q.1) →
      Fr h₀ env.locals h (fun y => if y = x then some (.int (a + i * st) tc) else kstB (fun z => if stored.contains z then u z else m₀ z) (ps c) y) → News h₀ env.locals h (Led c ++ own) →
      wpAny (model prog w) A (execs body env) (TurnEnd h₀ env.locals Led ps x stored m₀ wr own (P (i + 1)) { s with heap := h, toks := tk } Q) E { s with heap := h, toks := tk })
    (done : ∀ (c : σ) (u : Str → Option Value) h tk, P n c → Fr h₀ env.locals h (fun y => if y = x then u y else kstB (fun z => if stored.contains z then u z else m₀ z) (ps c) y) →
      News h₀ env.locals h (Led c) → Q .next { s with heap := h, toks := tk }) :
    wpAny (model prog w) A (pyIter (.ref r)) (fun it s₂ => LoopAtV prog w A h₀ env x body Q E it s₂) E s := by
  refine wpAny_pyIter_range hr hsmall ?_
  refine forLed Led ps stored P c₀ (Walks.range hh _ a st n) ?_ ?_ ?_ (by show IsRangeIter _ _ _ _ _; rw [hn]; simpa using Heap.get?_push_size _ rfl) (F.push _) (fun p hp => ⟨Heap.get?_push_of_some _ (N p hp).1, (N p hp).2⟩) hk hp ?_ done
  · intro hm; exact absurd F.ns.lt ((List.mem_singleton.mp hm) ▸ Nat.lt_irrefl _)
  · intro b hb; rw [List.mem_singleton.mp hb]; exact next_is_new F
  · intro p hp hI; exact absurd (Heap.lt_size (N p hp).1) ((List.mem_singleton.mp hI) ▸ Nat.lt_irrefl _)
  · rintro i v c u h tk own hi ⟨tc, rfl⟩ hP hnw hfp F3 N3
    exact turn i tc c u h tk own _ hi hP hnw (fun p hp q hq e => hnw q hq (e ▸ hfp p hp)) F3 N3
end
/-- none is stored: by reckoning -/
theorem cont_nil {α : Type} {z : Str} {a b : α} : (if ([] : List Str).contains z = true then a else b) = b := rfl
theorem notin1 {a z : Str} (h : [a].contains z = false) : z ≠ a := by
  simpa using h
theorem notin2 {a b z : Str} (h : [a, b].contains z = false) : z ≠ a ∧ z ≠ b := by
  simpa using h
theorem notin3 {a b c z : Str} (h : [a, b, c].contains z = false) : z ≠ a ∧ z ≠ b ∧ z ≠ c := by
  simpa using h
theorem TurnEnd.pushR {g : Heap} {L l : Addr} {vs : List Value} {n : Nat} {v : Value} {own rest : List (Addr × Obj)} {h' : Heap} {m' m₀ : Str → Option Value} {x : Str} {stored : List Str} {wr : List Addr} {P : List Value × Nat → Prop} {s : Shared} {Q : Flow → Shared → Prop} {tk : Nat}
    (F' : Fr g L h' m') (N' : News g L h' ((l, W.listOf (vs.toArray.push v) (n + 1)) :: (rest ++ own))) (hl : l ∉ wr) (hr : ∀ p ∈ rest, p.1 ∉ wr) (hm : ∀ z, z ≠ x → stored.contains z = false → m' z = m₀ z) (hP : P (vs ++ [v], n + 1)) :
    TurnEnd g L (fun c : List Value × Nat => (l, W.listOf c.1.toArray c.2) :: rest) (fun _ => []) x stored m₀ wr own P s Q .next { s with heap := h', toks := tk } := by
  refine ⟨(vs ++ [v], n + 1), h', tk, m', _, rfl, F', N', ?_, ?_, ?_, ?_, ?_, hP⟩
  · intro p hp
    rcases List.mem_cons.mp hp with e | e
    · subst e; simp
    · exact .tail _ (List.mem_append_left _ e)
  · intro p hp; exact .tail _ (List.mem_append_right _ hp)
  · intro p hp
    rcases List.mem_cons.mp hp with e | e
    · subst e; exact hl
    · exact hr p e
  · intro p hp; cases hp
  · intro z h1 _ h3; exact hm z h1 h3
end Mine
end

open PySem PySem.W PyProof.Rows
local macro_rules | `(tactic| walk_at "Post") => `(tactic| ((with_reducible first | refine Mine.Post.use (by assumption) ?_ | refine Mine.Post.useS (by assumption) ?_); try dsimp only))
local macro_rules | `(tactic| walk_at "mine mem") => `(tactic| first | exact List.Mem.head _ | assumption | (refine List.Mem.tail _ ?_; walk_at "mine mem") | (refine List.mem_append_left _ ?_; walk_at "mine mem") | (refine List.mem_append_right _ ?_; walk_at "mine mem"))
local macro_rules | `(tactic| walk_at "mine sub") => `(tactic| first | exact List.forall_mem_nil _ | (refine List.forall_mem_cons.mpr ⟨?_, ?_⟩; (focus (walk_at "mine mem")); walk_at "mine sub") | (refine List.forall_mem_append.mpr ⟨?_, ?_⟩; (focus (walk_at "mine sub")); walk_at "mine sub") | (intro p hp; walk_at "mine mem"))
local macro_rules | `(tactic| fail "ar") => `(tactic| with_reducible first
  | assumption | exact Mine.ar_ne1 (by assumption) | exact Mine.ar_ne2 (by assumption) | exact Mine.ar_ne3 (by assumption) | exact Mine.ar_ne4 (by assumption)
  | exact Mine.ar_ne3' (by assumption) | exact Mine.ar_ne4' (by assumption) | exact Mine.ar_s1 (by assumption) | exact Mine.ar_s2 (by assumption)
  | exact Mine.ar_nn _ | exact Mine.ar_nn1 _ | exact Mine.ar_tn _ | exact Mine.ar_tn1 _ | exact Mine.ar_tn2 _ | exact Mine.ar_z1 _ | exact Mine.ar_z2 _ | exact Mine.ar_neg _
  | exact Mine.ar_k _ _ (by assumption) (by exact rfl) | exact Mine.ar_kl _ _ (by assumption) (by exact rfl) | exact Mine.ar_ki _ _ (by assumption) (by exact rfl) | decide)
local macro_rules | `(tactic| omega) => `(tactic| fail "ar")

-- part G2
section
open PySem PySem.W PyProof.Rows
namespace Mine
theorem off_G2 : True := by
  w_top off
  first | (walk1; done) | trivial
/-- the ground under a call: what stands outside, the text's objects, the names -/
structure Gd (w : World) (A₀ : Around) (base : Heap) (outer : List Env) (h₀ : Heap) (mean : ExcName → Option Value) (mg mb : Str → Option Value) : Prop where
  B : Below A₀ base outer h₀
  X : (hd.heap_1 w.params).In h₀
  T : Top hd.view_1 [Str.ofString "_NodeInfo", Str.ofString "TopologicalSorter"] mean mg mb h₀
/-- a caller that may call d deep: its frame, its room -/
structure Cr (A : Around) (env : Env) (outer : List Env) (L : Addr) (d : Nat) : Prop where
  fr : A.frames = some (env :: outer)
  fl : env.frame = some L
  ki : env.scope.kind = .function
  hh : A.handled = none
  dp : A.depth + d < recursionLimit
  un : A.units + 8 * d + 200 < cLine
theorem Cr.deeper {A : Around} {env env' : Env} {outer : List Env} {L L' : Addr} {d : Nat} (C : Cr A env outer L (d + 1)) (hf : env'.frame = some L') (hk : env'.scope.kind = .function) : Cr (A.deeper env') env' (env :: outer) L' d :=
  ⟨by show A.frames.map _ = _; rw [C.fr]; rfl, hf, hk, C.hh, by have := C.dp; show A.depth + 1 + d < _; omega, by have := C.un; show A.units + 3 + 8 * d + 200 < _; omega⟩

theorem Cr.u64 {A : Around} {env : Env} {outer : List Env} {L : Addr} {d : Nat} (C : Cr A env outer L d) : A.units + 64 < cLine := by have := C.un; omega
/-- how a call ends that has only made things -/
inductive LeaveP (h₀ : Heap) (L : Addr) (m : Str → Option Value) (news : List (Addr × Obj)) (g : Heap) (L' : Addr) (R : Value → Shared → Prop) (v : Value) (s' : Shared) : Prop
  | mk (m' : Str → Option Value) (mine : List (Addr × Obj)) (F : Fr g L' s'.heap m') (N : News g L' s'.heap mine)
      (k : Fr h₀ L s'.heap m → News h₀ L s'.heap (mine ++ news) → (∀ p ∈ mine, ∀ q ∈ news, p.1 ≠ q.1) → R v s') : LeaveP h₀ L m news g L' R v s'

theorem News.onto {h₀ g h : Heap} {L L' : Addr} {m m' : Str → Option Value} {news mine : List (Addr × Obj)} (F : Fr h₀ L g m) (N : News h₀ L g news) (F' : Fr g L' h m') (N' : News g L' h mine) :
    News h₀ L h (mine ++ news) ∧ (∀ p ∈ mine, ∀ q ∈ news, p.1 ≠ q.1) := by
  obtain ⟨oL, _, _, hL, _⟩ := F.ns
  refine ⟨fun p hp => ?_, fun p hp q hq e => ?_⟩
  · rcases List.mem_append.mp hp with q | q
    · refine ⟨(N' p q).1, fun e => ?_, ?_⟩
      · have := (N' p q).2.2
        rw [e, hL] at this; cases this
      · cases z : h₀.get? p.1 with
        | none => rfl
        | some o => have := (N' p q).2.2; rw [F.keep _ _ z] at this; cases this
    · exact ⟨F'.keep _ _ (N p q).1, (N p q).2⟩
  · have h1 := (N' p hp).2.2
    rw [e, (N q hq).1] at h1; cases h1

section
variable {w : World} {A₀ A : Around} {base h₀ : Heap} {env : Env} {outer : List Env} {L : Addr} {m : Str → Option Value} {news : List (Addr × Obj)} {mean : ExcName → Option Value} {mg mb : Str → Option Value} {s : Shared} {Q E : Value → Shared → Prop}
  {name qual : Str} {params : Arguments} {body : List Stmt} {scope : Scope} {dV kV doc pm cdv ct oc : Value} {an od : Option Addr} {osl : Array (Option Value)} {f : Addr} {args : Args} {d : Nat}
theorem enterP (binds : List (Str × Value)) (G : Gd w A₀ base outer h₀ mean mg mb) (C : Cr A env outer L (d + 1)) (F : Fr h₀ L s.heap m) (N : News h₀ L s.heap news)
    (ho : (hd.heap_1 w.params).lookup f = some ⟨oc, od, .func (fnOf name qual params body scope dV kV doc pm an cdv ct), osl⟩) (hcd : codeIn (hd.heap_1 w.params) cdv qual = true)
    (hbind : BindsTo s (fnOf name qual params body scope dV kV doc pm an cdv ct) args binds) (hloc : ∀ y ∈ binds, scope.names.lookup y.1 = some .local)
    (hco : scope.isCoroutine = false) (hgen : scope.isGenerator = false) (hk : scope.kind = .function) (hcell : ∀ x ∈ scope.names, x.2 ≠ .cell)
    (h : ∀ g L' h₁ tk, g = s.heap → Fr g L' h₁ (fun y => binds.reverse.lookup y) → News g L' h₁ [] → Gd w A base (env :: outer) g mean mg mb → Cr (A.deeper (envOf qual scope L' f cdv)) (envOf qual scope L' f cdv) (env :: outer) L' d →
      wpAny (model pw w) (A.deeper (envOf qual scope L' f cdv)) (execs body (envOf qual scope L' f cdv))
        (fun fl s' => LeaveP h₀ L m news g L' Q (match fl with | .ret v => v | _ => .none) s') (fun _ _ => False) { s with heap := h₁, toks := tk }) :
    codeAny (model pw w) A (.call (.ref f) args) (fun r s' => match r with | .ok (.ret v) => Q v s' | .ok _ => False | .error e => E e s') s := by
  obtain ⟨B, X, T⟩ := G
  have P := pushX B F C.fl C.ki
  refine codeAny_call_def (fd := fnOf name qual params body scope dV kV doc pm an cdv ct) (body := body) (binds := binds) (by have := C.dp; omega) ((X.keeps F.keep) _ _ ho) rfl (T.nolimit.keeps F.keep) (codeRec_of (X.keeps F.keep) hcd) rfl hbind hcell hloc (fun h₁ hns hk₁ => ?_) hco hgen hk
  refine wpAny_mono (h s.heap s.heap.objs.size h₁ _ rfl ⟨hns, hk₁, Nat.le_refl _⟩ News.nil ⟨⟨C.fr, P.stays, P.frames⟩, X.keeps F.keep, T.keeps F.keep⟩ (C.deeper rfl hk)) (fun fl s' q => ?_) fun _ _ q => q.elim
  obtain ⟨m', mine, F', N', k⟩ := q
  obtain ⟨N2, hne⟩ := News.onto F N F' N'
  obtain ⟨oL, es, ep, hL, r⟩ := F.ns
  exact k ⟨⟨oL, es, ep, F'.keep _ _ hL, r⟩, fun b o e => F'.keep _ _ (F.keep _ _ e), F.above⟩ N2 hne

/-- the same, some of the caller's own things handed on -/
inductive LeaveQ (h₀ : Heap) (L : Addr) (m : Str → Option Value) (rest : List (Addr × Obj)) (g : Heap) (L' : Addr) (R : Value → Shared → Prop) (v : Value) (s' : Shared) : Prop
  | mk (m' : Str → Option Value) (mine : List (Addr × Obj)) (F : Fr g L' s'.heap m') (N : News g L' s'.heap mine)
      (k : Fr h₀ L s'.heap m → News h₀ L s'.heap (mine ++ rest) → (∀ p ∈ mine, ∀ q ∈ rest, p.1 ≠ q.1) → R v s') : LeaveQ h₀ L m rest g L' R v s'
theorem enterQ (binds : List (Str × Value)) (take rest : List (Addr × Obj)) (G : Gd w A₀ base outer h₀ mean mg mb) (C : Cr A env outer L (d + 1)) (F : Fr h₀ L s.heap m) (N : News h₀ L s.heap (take ++ rest)) (hsep : ∀ p ∈ take, ∀ q ∈ rest, p.1 ≠ q.1)
    (ho : (hd.heap_1 w.params).lookup f = some ⟨oc, od, .func (fnOf name qual params body scope dV kV doc pm an cdv ct), osl⟩) (hcd : codeIn (hd.heap_1 w.params) cdv qual = true)
    (hbind : BindsTo s (fnOf name qual params body scope dV kV doc pm an cdv ct) args binds) (hloc : ∀ y ∈ binds, scope.names.lookup y.1 = some .local)
    (hco : scope.isCoroutine = false) (hgen : scope.isGenerator = false) (hk : scope.kind = .function) (hcell : ∀ x ∈ scope.names, x.2 ≠ .cell)
    (h : ∀ g L' h₁ tk, (∀ b o, s.heap.get? b = some o → b ∉ take.map (·.1) → g.get? b = some o) → Fr g L' h₁ (fun y => binds.reverse.lookup y) → News g L' h₁ take → (∀ p ∈ take, p.1 < L') → Gd w A base (env :: outer) g mean mg mb → Cr (A.deeper (envOf qual scope L' f cdv)) (envOf qual scope L' f cdv) (env :: outer) L' d →
      wpAny (model pw w) (A.deeper (envOf qual scope L' f cdv)) (execs body (envOf qual scope L' f cdv))
        (fun fl s' => LeaveQ h₀ L m rest g L' Q (match fl with | .ret v => v | _ => .none) s') (fun _ _ => False) { s with heap := h₁, toks := tk }) :
    codeAny (model pw w) A (.call (.ref f) args) (fun r s' => match r with | .ok (.ret v) => Q v s' | .ok _ => False | .error e => E e s') s := by
  obtain ⟨B, X, T⟩ := G
  have Nt : News h₀ L s.heap take := fun p hp => N p (List.mem_append_left _ hp)
  obtain ⟨FG, BG, stG, _⟩ := groundX (A := A) (R := fun _ _ => True) B F Nt C.fr C.fl C.ki
  refine codeAny_call_def (fd := fnOf name qual params body scope dV kV doc pm an cdv ct) (body := body) (binds := binds) (by have := C.dp; omega) ((X.keeps F.keep) _ _ ho) rfl (T.nolimit.keeps F.keep) (codeRec_of (X.keeps F.keep) hcd) rfl hbind hcell hloc (fun h₁ hns hk₁ => ?_) hco hgen hk
  refine wpAny_mono (h (hideAll s.heap (take.map fun (p : Addr × Obj) => p.1)) s.heap.objs.size h₁ _ (fun b o e q => hideAll_get _ e q) ⟨hns, fun b o e => hk₁ b o (of_hideAll _ e), Nat.le_of_eq (hideAll_size _ _)⟩
    (fun p hp => ⟨hk₁ _ _ (Nt p hp).1, Nat.ne_of_lt (Heap.lt_size (Nt p hp).1), hideAll_none _ (List.mem_map_of_mem hp)⟩) (fun p hp => Heap.lt_size (Nt p hp).1) ⟨BG, X.keeps stG, T.keeps stG⟩ (C.deeper rfl hk)) (fun fl s' q => ?_) fun _ _ q => q.elim
  obtain ⟨m', mine, F', N', k⟩ := q
  have Nr : News h₀ L (hideAll s.heap (take.map (·.1))) rest := fun p hp => ⟨hideAll_get _ (N p (List.mem_append_right _ hp)).1 fun hm => by
    obtain ⟨q, hq, e⟩ := List.mem_map.mp hm
    exact hsep q hq p hp e, (N p (List.mem_append_right _ hp)).2⟩
  obtain ⟨N2, hne⟩ := News.onto FG Nr F' N'
  obtain ⟨oL, es, ep, hL, r⟩ := FG.ns
  exact k ⟨⟨oL, es, ep, F'.keep _ _ hL, r⟩, fun b o e => F'.keep _ _ (FG.keep _ _ e), FG.above⟩ N2 hne

theorem enterPC (binds : List (Str × Value)) (G : Gd w A₀ base outer h₀ mean mg mb) (C : Cr A env outer L (d + 1)) (F : Fr h₀ L s.heap m) (N : News h₀ L s.heap news)
    (ho : (hd.heap_1 w.params).lookup f = some ⟨oc, od, .func (fnX name qual params body scope [] dV kV doc pm an cdv ct), osl⟩) (hcd : codeIn (hd.heap_1 w.params) cdv qual = true)
    (hbind : BindsTo s (fnX name qual params body scope [] dV kV doc pm an cdv ct) args binds) (hkind : (binds.all fun y => scope.names.lookup y.1 == some .local || scope.names.lookup y.1 == some .cell) = true)
    (hnd : ((cellsFrom 0 scope.names []).map (·.1)).Nodup)
    (hco : scope.isCoroutine = false) (hgen : scope.isGenerator = false) (hk : scope.kind = .function)
    (h : ∀ g L' h₁ tk cells, g = s.heap → Fr g L' h₁ (bindL (envOfC qual scope L' f cdv).kindOf binds fun _ => none) → News g L' h₁ cells → CellsAre (bindC (envOfC qual scope L' f cdv).kindOf binds fun _ => none) (cellsFrom (L' + 1) scope.names []) cells →
      Gd w A base (env :: outer) g mean mg mb → Cr (A.deeper (envOfC qual scope L' f cdv)) (envOfC qual scope L' f cdv) (env :: outer) L' d →
      wpAny (model pw w) (A.deeper (envOfC qual scope L' f cdv)) (execs body (envOfC qual scope L' f cdv))
        (fun fl s' => LeaveP h₀ L m news g L' Q (match fl with | .ret v => v | _ => .none) s') (fun _ _ => False) { s with heap := h₁, toks := tk }) :
    codeAny (model pw w) A (.call (.ref f) args) (fun r s' => match r with | .ok (.ret v) => Q v s' | .ok _ => False | .error e => E e s') s := by
  obtain ⟨B, X, T⟩ := G
  have P := pushX B F C.fl C.ki
  refine codeAny_call_function (by have := C.dp; omega) ((X.keeps F.keep) _ _ ho) rfl hco hgen rfl (codeRec_of (X.keeps F.keep) hcd) (hbind _ _ _ _ ?_)
  refine wpAny_newFunctionEnv_cells hk (kindsX hkind _) fun env' he s' x => ?_
  subst he
  refine ⟨(T.nolimit.keeps F.keep).keeps x.toInCall.keep, codeAny_func ?_⟩
  obtain ⟨h₁, tk, rfl, _⟩ := x.done
  have hk₁ := x.toInCall.keep
  obtain ⟨cells, NC, Y⟩ := Cl.news (h₀ := s.heap) (Nat.le_refl _) fun n c hm => ⟨x.cell n c (lookup_of_mem_nodup (cellsFrom_names scope.names 0 (s.heap.objs.size + 1) [] [] rfl ▸ hnd) hm), x.above n c hm⟩
  refine wpAny_mono (h s.heap s.heap.objs.size h₁ tk cells rfl ⟨x.toInCall.ns, hk₁, Nat.le_refl _⟩ NC Y ⟨⟨C.fr, P.stays, P.frames⟩, X.keeps F.keep, T.keeps F.keep⟩ (C.deeper rfl hk)) (fun fl s' q => ?_) fun _ _ q => q.elim
  obtain ⟨m', mine, F', N', k⟩ := q
  obtain ⟨N2, hne⟩ := News.onto F N F' N'
  obtain ⟨oL, es, ep, hL, r⟩ := F.ns
  exact k ⟨⟨oL, es, ep, F'.keep _ _ hL, r⟩, fun b o e => F'.keep _ _ (F.keep _ _ e), F.above⟩ N2 hne
end
end Mine
end

-- part H1
section
open PySem PySem.W PyProof.Rows
namespace Mine
theorem off_H1 : True := by
  w_top off
  first | (walk1; done) | trivial
theorem fillIt : PySem.Challenge.rw_oh0062_01 = PySem.Challenge.rw_oh0062_01 ∧ hd.heap_1 = hd.heap_1 := by k_fill; exact ⟨rfl, rfl⟩

local macro_rules | `(tactic| walk_at "exec For Name Name cons nil") => `(tactic| refine stopMark ?_)
local macro_rules | `(tactic| walk_at "TurnEnd") => `(tactic| refine stopMark ?_)
local macro_rules | `(tactic| k_all) => `(tactic| assumption)
local macro_rules | `(tactic| walk_at "LeaveP") => `(tactic| refine stopMark ?_)
noncomputable def hts (l : List Nat) : List Int := l.foldl (fun hs c => hs ++ [(hs.getLast?.getD 0) + (if c = 40 then 1 else -1)]) [0]
theorem hts_snoc (l : List Nat) (c : Nat) : hts (l ++ [c]) = hts l ++ [((hts l).getLast?.getD 0) + (if c = 40 then 1 else -1)] := by simp [hts]
theorem hts_ne (l : List Nat) : ∃ y, (hts l).getLast? = some y := by
  rcases List.eq_nil_or_concat l with rfl | ⟨a, b, rfl⟩
  · exact ⟨0, rfl⟩
  · rw [List.concat_eq_append, hts_snoc]; exact ⟨_, List.getLast?_concat⟩
theorem TurnEnd.push {g : Heap} {L l : Addr} {vs : List Value} {n : Nat} {v : Value} {own : List (Addr × Obj)} {h' : Heap} {m' m₀ : Str → Option Value} {x : Str} {stored : List Str} {wr : List Addr} {P : List Value × Nat → Prop} {s : Shared} {Q : Flow → Shared → Prop} {tk : Nat}
    (F' : Fr g L h' m') (N' : News g L h' ((l, W.listOf (vs.toArray.push v) (n + 1)) :: own)) (hl : l ∉ wr) (hm : ∀ z, z ≠ x → stored.contains z = false → m' z = m₀ z) (hP : P (vs ++ [v], n + 1)) :
    TurnEnd g L (fun c : List Value × Nat => [(l, W.listOf c.1.toArray c.2)]) (fun _ => []) x stored m₀ wr own P s Q .next { s with heap := h', toks := tk } := by
  refine ⟨(vs ++ [v], n + 1), h', tk, m', _, rfl, F', N', ?_, ?_, ?_, ?_, ?_, hP⟩
  · intro p hp; simp only [List.mem_singleton] at hp; subst hp; simp
  · intro p hp; exact .tail _ hp
  · intro p hp; simp only [List.mem_singleton] at hp; subst hp; exact hl
  · intro p hp; cases hp
  · intro z h1 _ h3; exact hm z h1 h3
theorem TurnEnd.pass {g : Heap} {L l : Addr} {vs : List Value} {n : Nat} {own : List (Addr × Obj)} {h' : Heap} {m' m₀ : Str → Option Value} {x : Str} {stored : List Str} {wr : List Addr} {P : List Value × Nat → Prop} {s : Shared} {Q : Flow → Shared → Prop} {tk : Nat}
    (F' : Fr g L h' m') (N' : News g L h' ((l, W.listOf vs.toArray n) :: own)) (hl : l ∉ wr) (hm : ∀ z, z ≠ x → stored.contains z = false → m' z = m₀ z) (hP : P (vs, n)) :
    TurnEnd g L (fun c : List Value × Nat => [(l, W.listOf c.1.toArray c.2)]) (fun _ => []) x stored m₀ wr own P s Q .next { s with heap := h', toks := tk } := by
  refine ⟨(vs, n), h', tk, m', _, rfl, F', N', ?_, ?_, ?_, ?_, ?_, hP⟩
  · intro p hp; simp only [List.mem_singleton] at hp; subst hp; simp
  · intro p hp; exact .tail _ hp
  · intro p hp; simp only [List.mem_singleton] at hp; subst hp; exact hl
  · intro p hp; cases hp
  · intro z h1 _ h3; exact hm z h1 h3
theorem LeaveP.list {h₀ g : Heap} {L L' l : Addr} {m m' : Str → Option Value} {news : List (Addr × Obj)} {R : Value → Shared → Prop} {o : Obj} {s : Shared} {own : List (Addr × Obj)} (F' : Fr g L' s.heap m') (N' : News g L' s.heap ((l, o) :: own))
    (h : Fr h₀ L s.heap m → News h₀ L s.heap ((l, o) :: news) → (∀ p ∈ news, l ≠ p.1) → R (.ref l) s) : LeaveP h₀ L m news g L' R (.ref l) s :=
  ⟨m', [(l, o)], F', fun p hp => N' p (by simp only [List.mem_singleton] at hp; subst hp; exact .head _), fun F N hne => h F N fun p hp => hne _ (.head _) p hp⟩
theorem chr_beq (c d : Nat) : ((⟨#[c]⟩ : Str) == ⟨#[d]⟩) = decide (c = d) := by
  rw [Bool.eq_iff_iff, beq_iff_eq, decide_eq_true_iff]
  constructor
  · intro e; injection e with e; simpa using e
  · rintro rfl; rfl
theorem lpar : Str.ofString "(" = ⟨#[40]⟩ := by decide +kernel
theorem heights_call {w : World} {A₀ A : Around} {base h₀ : Heap} {env : Env} {outer : List Env} {L : Addr} {m : Str → Option Value} {news : List (Addr × Obj)} {mean mg mb} {x : Str} {t : Tok} {s : Shared} {Q : Value → Shared → Prop} {E : Value → Shared → Prop}
    (G : Gd w A₀ base outer h₀ mean mg mb) (C : Cr A env outer L 1)
    (F : Fr h₀ L s.heap m) (N : News h₀ L s.heap news) (hlen : x.cps.size ≤ 1000)
    (hQ : ∀ l vs n h' tk, IntsAre vs (hts x.cps.toList) → Fr h₀ L h' m → News h₀ L h' ((l, W.listOf vs.toArray n) :: news) → (∀ p ∈ news, l ≠ p.1) → Q (.ref l) { s with heap := h', toks := tk }) :
    wpAny (model pw w) A (call (.ref 176) [.str x t]) Q E s := by
  refine wpAny_call (enterP [(("brackets" : Str), Value.str x t)] G C F N (by k_is) (by k_is) (BindsTo.of_eq rfl) (locs rfl) rfl rfl rfl (by decide) ?_)
  intro g L' h1 tk1 hg F1 N1 G1 C1
  have hh := C1.hh
  obtain ⟨B1, X1, T1⟩ := G1
  clear C G F N
  ((try first | refine genS (fun Qx gx dx ox hQx => ?_) | refine genQ (fun Qx hQx => ?_)); k_steps)
  rename_i l h2 l2 h3 F2 N2
  unfold Stop
  refine For_invV g rfl rfl ?_
  refine ld F2 rfl ?_
  refine wpAny_pyIter_str fun o St hW hst => ?_
  refine forLed (fun c : List Value × Nat => [(l, W.listOf c.1.toArray c.2)]) (fun c => []) [] (fun i c => IntsAre c.1 (hts (x.cps.toList.take i)) ∧ c.1.length = i + 1) ([Value.int 0 tk1], 0) (hW _ hh) ?_ ?_ ?_ hst (F2.push _) (fun p hp => ⟨Heap.get?_push_of_some _ (N2 p hp).1, (N2 p hp).2⟩) ?_ ?_ ?_ ?_
  case refine_6 =>
    rintro i v ⟨vs, n⟩ u h tk own hi ⟨c, tc, hc, rfl⟩ ⟨hI, hlen'⟩ hnw hfp F3 N3
    dsimp only [cont_nil, kstB, List.cons_append, List.nil_append, envOf] at F3 N3 hI hnw hfp hlen'
    obtain ⟨y, hy⟩ := hts_ne (x.cps.toList.take i)
    have hoff : ∀ p ∈ own, p.1 ≠ l := fun p hp e => hnw _ (.head _) (by rw [← e]; exact hfp p hp)
    have hT : x.cps.toList.take (i + 1) = x.cps.toList.take i ++ [c] := by rw [List.take_add_one]; simp [hc]
    have hD : ((hts (x.cps.toList.take i)).getD (-1 + ((hts (x.cps.toList.take i)).length : Int)).toNat 0) = (hts (x.cps.toList.take i)).getLast?.getD 0 := by
      have e : (-1 + ((hts (x.cps.toList.take i)).length : Int)).toNat = (hts (x.cps.toList.take i)).length - 1 := by omega
      rw [e, List.getLast?_eq_getElem?, List.getD_eq_getElem?_getD]
    ((try first | refine genS (fun Qx gx dx ox hQx => ?_) | refine genQ (fun Qx hQx => ?_)); k_steps)
    all_goals
      rename Fr _ _ _ _ => F'
      rename News _ _ _ _ => N'
      rename _ = _ => hb
      rw [lpar, chr_beq] at hb
      refine TurnEnd.push F' N' (hnw _ (.head _)) ?_ ⟨?_, ?_⟩
      · intro z h1 _; simp only [if_neg h1]
      · show IntsAre (vs ++ [_]) _
        rw [hT, hts_snoc, ← hD]
        refine hI.append ?_
        simp only [decide_eq_true_eq, decide_eq_false_iff_not] at hb
        first | rw [if_pos hb] | rw [if_neg hb]
        exact .cons _ _ .nil
      · simp [hlen']
  case refine_7 =>
    rintro ⟨vs, n⟩ u h tk ⟨hI, _⟩ F3 N3
    dsimp only [cont_nil, kstB, List.cons_append, List.nil_append, envOf] at F3 N3 hI
    rw [← Array.length_toList, List.take_length] at hI
    ((try first | refine genS (fun Qx gx dx ox hQx => ?_) | refine genQ (fun Qx hQx => ?_)); k_steps)
    rename Fr _ _ _ _ => F'
    rename News _ _ _ _ => N'
    exact LeaveP.list F' N' fun F N hne => hQ _ _ _ _ _ hI F N hne
  · intro hm; exact absurd F2.ns.lt ((List.mem_singleton.mp hm) ▸ Nat.lt_irrefl _)
  · intro b hb; rw [List.mem_singleton.mp hb]; exact next_is_new F2
  · intro p hp hI; exact absurd (Heap.lt_size (N2 p hp).1) ((List.mem_singleton.mp hI) ▸ Nat.lt_irrefl _)
  · intro p hp; cases hp
  · exact ⟨.cons _ _ .nil, rfl⟩
end Mine
end

local macro_rules | `(tactic| walk_at "exec For Name Name cons nil") => `(tactic| refine Mine.stopMark ?_)
local macro_rules | `(tactic| walk_at "exec For Name Call cons nil") => `(tactic| refine Mine.stopMark ?_)
local macro_rules | `(tactic| walk_at "exec While Compare cons nil") => `(tactic| refine Mine.stopMark ?_)
local macro_rules | `(tactic| walk_at "TurnEnd") => `(tactic| refine Mine.stopMark ?_)
local macro_rules | `(tactic| walk_at "KswPost") => `(tactic| refine Mine.stopMark ?_)
local macro_rules | `(tactic| k_all) => `(tactic| assumption)
local macro_rules | `(tactic| walk_at "LeaveP") => `(tactic| refine Mine.stopMark ?_)
local macro_rules | `(tactic| walk_at "LeaveQ") => `(tactic| refine Mine.stopMark ?_)
local macro_rules | `(tactic| walk_at "pyIter ref") => `(tactic| ((with_reducible show wpAny _ _ _ (fun it s₂ => LoopAtV _ _ _ _ _ _ _ _ _ it s₂) _ _); refine Mine.stopMark ?_))
local macro_rules | `(tactic| units_room) => `(tactic| assumption)
local macro_rules | `(tactic| walk_at "call ref") => `(tactic| refine Mine.stopMark ?_)

-- part P0
section
open PySem PySem.W PyProof.Rows
namespace Mine
theorem off_P0 : True := by
  w_top off
  first | (walk1; done) | trivial
noncomputable def PlainEnd (P : Shared → Prop) (f : Flow) (s' : Shared) : Prop := f = .next ∧ P s'
noncomputable def SegIf (P : Bool → Shared → Prop) (b : Bool) (s' : Shared) : Prop := P b s'
noncomputable def SegIter (P : Value → Shared → Prop) (b : Value) (s' : Shared) : Prop := P b s'
noncomputable def SegYield (P : Value → Shared → Prop) (b : Value) (s' : Shared) : Prop := P b s'
section
variable {prog : Program} {w : World} {A : Around} {R : GenEnd} {Y : Protocol} {n : Nat} {s₀ : Shared} {c : Code} {fs : List Frame} {s : Shared} {env : Env}
  {K : Flow → Sem Fin} {H : Value → Sem Fin} {gd : Bool → Bool} {lv : List Value → List Value}
/-- what a loop's own activation hands back -/
noncomputable def backTo (env : Env) (K : Flow → Sem Fin) (H : Value → Sem Fin) (gd : Bool → Bool) (lv : List Value → List Value) (r : Result) : Sem Fin :=
  ((match r with | .ok f => (.pure f : Sem Flow) | .error e => .raise e).onRaise fun (x : Value) => do
        if (← field x 1) == Value.none then unsupported "frame.own-activation:exception-without-traceback"
        setFlight x env.frame).wrap K H gd lv
theorem seg_plain {st : Stmt} {rest : List Stmt}
    (h : wpAny (model prog w) (A.over c fs) (exec st env) (PlainEnd fun s' => Seg (model prog w) A R Y n s₀ c ((execs rest env).wrap K H gd lv) fs s') (fun _ _ => False) s) :
    Seg (model prog w) A R Y n s₀ c ((execs (st :: rest) env).wrap K H gd lv) fs s := by
  refine seg_execs_cons (seg_wrap (wpAny_mono h (fun f s' h' => ?_) fun _ _ q => q.elim))
  obtain ⟨rfl, h'⟩ := h'
  exact h'
theorem seg_If {test : PySem.Expr} {body orelse : List Stmt} {pos : Pos} {rest : List Stmt}
    (h : wpAny (model prog w) (A.over c fs) (isTrue test env (eval test env)) (SegIf fun b s' => Seg (model prog w) A R Y n s₀ c ((execs (if b = true then body else orelse) env).wrap (fun f => match f with | .next => (execs rest env).wrap K H gd lv | f => K f) H gd lv) fs s') (fun _ _ => False) s) :
    Seg (model prog w) A R Y n s₀ c ((execs (.If test body orelse pos :: rest) env).wrap K H gd lv) fs s := by
  refine seg_execs_cons ?_
  rw [exec_If, Sem.bind_eq_wrap', Sem.wrap_wrap]
  refine seg_wrap (wpAny_standAt ?_)
  rw [Sem.bind_eq_wrap', Sem.wrap_wrap]
  refine seg_wrap (wpAny_mono h (fun b s' h' => ?_) fun _ _ q => q.elim)
  cases b with
  | true => exact h'
  | false => exact h'
theorem seg_For {target iter : PySem.Expr} {body : List Stmt} {pos : Pos} {rest : List Stmt}
    (h : wpAny (model prog w) (A.over c fs) (eval iter env) (SegIter fun x s₁ => wpAny (model prog w) (A.over c fs) (pyIter x) (fun it s₂ => ∀ p, Seg (model prog w) A R Y n s₀ (.forLoop target it body [] env) ((model prog w).den (.forLoop target it body [] env))
      (.ret (backTo env (fun f => match f with | .next => (execs rest env).wrap K H gd lv | f => K f) H gd lv) none (gd false) (lv []) c p [] :: fs) s₂) (fun _ _ => False) s₁) (fun _ _ => False) s)
    (hs : ∀ x, foldedSetIterable iter env x = pure x) :
    Seg (model prog w) A R Y n s₀ c ((execs (.For target iter body [] pos :: rest) env).wrap K H gd lv) fs s := by
  refine seg_execs_cons ?_
  rw [exec_For, Sem.bind_eq_wrap', Sem.wrap_wrap]
  refine seg_wrap (wpAny_standAt ?_)
  rw [Sem.bind_eq_wrap', Sem.wrap_wrap]
  refine seg_wrap (wpAny_mono h (fun x s₁ h₁ => ?_) fun _ _ q => q.elim)
  rw [hs x, Sem.bind_eq_wrap', Sem.wrap_wrap]
  refine seg_wrap (wpAny_pure ?_)
  rw [Sem.bind_eq_wrap', Sem.wrap_wrap]
  refine seg_wrap (wpAny_standAt ?_)
  rw [Sem.bind_eq_wrap', Sem.wrap_wrap]
  refine seg_wrap (wpAny_holding (wpAny_mono h₁ (fun it s₂ h₂ => ?_) fun _ _ q => q.elim))
  exact seg_call h₂
theorem seg_Yield {e : PySem.Expr} {ypos pos : Pos} {rest : List Stmt} (hfs : splitAtGen fs = none) (hgd : gd false = false) (hfg : fs.any Frame.guarded = false)
    (h : wpAny (model prog w) (A.over c fs) (eval e env) (SegYield fun v s' => ∀ kap : Resume → Shared → Prop,
        (∀ s'', Seg (model prog w) A R Y n s'' c ((execs rest env).wrap K H gd lv) fs s'' → kap (.send .none) s'') → Y n s₀ v s' kap)
      (fun _ _ => False) s) (hco : env.scope.isCoroutine = false) (hi : interactive env = false) :
    Seg (model prog w) A R Y (n + 1) s₀ c ((execs (.Expr (.Yield (some e) ypos) pos :: rest) env).wrap K H gd lv) fs s :=
  seg_execs_cons (seg_Expr_Yield hfs hgd hfg (wpAny_mono h (fun _ _ h' kap hk => h' kap fun s'' q => hk .none s'' q) fun _ _ q => q.elim) hco hi)
/-- a turn's end -/
noncomputable def turnK (target : PySem.Expr) (it : Value) (body : List Stmt) (env : Env) (f : Flow) : Sem Fin :=
  match f with
  | .next | .cont => .pure (.again (.forLoop target it body [] env))
  | .brk => .pure (.done .next)
  | .ret v => .pure (.done (.ret v))
noncomputable def turnH (env : Env) (e : Value) : Sem Fin := (do noteFrame e env; theTreesLotGoes e : Sem Unit).wrap (fun _ => .raise e) .raise id id
theorem seg_forLoop {target : PySem.Expr} {it : Value} {body : List Stmt}
    (h : wpAny (model prog w) (A.over (.forLoop target it body [] env) fs) (pyNext it) (fun r s₁ => match r with
      | none => Seg (model prog w) A R Y n s₀ (.forLoop target it body [] env) (.pure (.again (.block [] env))) fs s₁
      | some v => wpAny (model prog w) (A.over (.forLoop target it body [] env) fs) (letOwnedTupleGo target it v) (fun _ s₂ => wpAny (model prog w) (A.over (.forLoop target it body [] env) fs) (assign target env v) (fun _ s₃ =>
          Seg (model prog w) A R Y n s₀ (.forLoop target it body [] env) ((execs body env).wrap (turnK target it body env) (turnH env) id id) fs s₃) (fun _ _ => False) s₂) (fun _ _ => False) s₁) (fun _ _ => False) s) :
    Seg (model prog w) A R Y n s₀ (.forLoop target it body [] env) ((model prog w).den (.forLoop target it body [] env)) fs s := by
  show Seg _ A R Y n s₀ _ ((forTurn target it body [] env).onRaise (fun x => do noteFrame x env; theTreesLotGoes x)) fs s
  unfold forTurn
  rw [Sem.onRaise_eq_wrap, Sem.bind_eq_wrap', Sem.wrap_wrap]
  refine seg_wrap (wpAny_standAt ?_)
  rw [Sem.bind_eq_wrap', Sem.wrap_wrap]
  refine seg_wrap (wpAny_onRaise (wpAny_mono h (fun r s₁ h₁ => ?_) fun _ _ q => q.elim))
  cases r with
  | none => exact h₁
  | some v =>
    show Seg _ A R Y n s₀ _ (Sem.wrap _ _ _ _ (letOwnedTupleGo target it v >>= _)) fs s₁
    rw [Sem.bind_eq_wrap', Sem.wrap_wrap]
    refine seg_wrap (wpAny_mono h₁ (fun _ s₂ h₂ => ?_) fun _ _ q => q.elim)
    rw [Sem.bind_eq_wrap', Sem.wrap_wrap]
    refine seg_wrap (wpAny_mono h₂ (fun _ s₃ h₃ => ?_) fun _ _ q => q.elim)
    rw [Sem.bind_eq_wrap', Sem.wrap_wrap]
    rw [Sem.wrap_congr (execs body env) _ _ (K' := turnK target it body env) (H' := turnH env) (fun f => by cases f <;> rfl) (fun e => by
      show (do noteFrame e env; theTreesLotGoes e : Sem Unit).bind (fun _ => .raise e) = _
      rw [Sem.bind_eq_wrap]; rfl)]
    exact h₃
theorem seg_block_nil (h : Seg (model prog w) A R Y n s₀ (.block [] env) (.pure (.done .next)) fs s) : Seg (model prog w) A R Y n s₀ c (.pure (.again (.block [] env))) fs s := by
  refine seg_again rfl ?_
  exact h
theorem seg_back {f : Flow} {p : Pos} {c₁ : Code} (h : Seg (model prog w) A R Y n s₀ c₁ (K f) fs s) : Seg (model prog w) A R Y n s₀ c (.pure (.done f)) (.ret (backTo env K H gd lv) none (gd false) (lv []) c₁ p [] :: fs) s :=
  seg_leaf (.ok f) h
end
section
variable {prog : Program} {w : World} {A : Around} {E : Value → Shared → Prop} {s : Shared}
theorem next_genQ {a : Addr} {g n : Nat} {gs : GenState} {P : Nat → Shared → Shared → Prop} {Y : Protocol} {Q : Option Value → Shared → Prop} (hh : A.handled = none)
    (hl : s.heap.NoLimit) (hroom : A.depth < recursionLimit) (hg : s.heap.IsGen a g) (hgs : s.gens[g]? = some gs)
    (hgo : gs.Goes (model prog w) A.in1 (fun n s₀ r s₁ => r = .ok (.ret .none) ∧ P n s₀ s₁) Y n (.send .none) (s.setGen g .running))
    (hY : ∀ v s₁ gs', gs'.bare = true → Y (n - 1) (s.setGen g .running) v s₁ (fun r' s'' => match n with
        | 0 => False
        | m + 1 => gs'.Goes (model prog w) A.in1 (fun n s₀ r s₁ => r = .ok (.ret .none) ∧ P n s₀ s₁) Y m r' s'') → Q (some v) (s₁.setGen g gs'))
    (hP : ∀ s₁, P n (s.setGen g .running) s₁ → ∀ h', (∀ b o, s₁.heap.get? b = some o → h'.get? b = some o) → Q none { s₁.setGen g .finished with heap := h' }) :
    wpAny (model prog w) A (pyNext (.ref a)) Q E s := by
  unfold pyNext
  refine wpAny_bind (wpAny_attempt (wpAny_callSpecial?_slot (name := Str.ofString "__next__") hg.typeIs slot_gen_next
    (wpAny_call_entry slot_gen_next hg.typeIs entry_gen_next ?_ (args_gen_next _))))
  show wpAny _ A.in1 (Builtin.Generator.genWake (.ref a) (.send .none)) _ _ s
  unfold Builtin.Generator.genWake
  refine wpAny_bind (wpAny_holding (wpAny_genNumber hg (wpAny_bind (wpAny_genState hgs ?_))))
  cases gs with
  | running => exact hgo.elim
  | finished => exact hgo.elim
  | _ =>
    refine wpAny_bind (wpAny_roomToWake hl hroom ?_)
    show wpAny _ A.in1 (.resume g (.send .none) [] _) _ _ s
    refine wpAny_resumeQ hgs hgo (fun x s₁ hx => ?_) (fun v s₁ gs' hb hv => ?_)
    · obtain ⟨rfl, hp⟩ := hx
      show wpAny _ A.in1 (newExc (.type "StopIteration") [] >>= _) _ _ _
      refine wpAny_bind ?_
      simp only [newExc, newTuple]
      refine wpAny_bind (wpAny_newObj_type ?_ (by size_fits))
      refine wpAny_bind (m := firstArgMember _ _) (wpAny_of_eq (a := Value.none) (by first | rfl | (simp only [firstArgMember]; rfl)) ?_)
      refine wpAny_newObj_type ?_ (by size_fits)
      simp only [raiseNew]
      refine wpAny_bind (wpAny_bind (wpAny_handled ?_))
      rw [show A.in1.handled = none from hh]
      refine wpAny_throw ?_
      refine wpAny_bind (wpAny_isInstance (T := "StopIteration") (b := true) ⟨_, Heap.get?_push_size _ rfl, rfl⟩ isSubtype_stop ?_)
      exact wpAny_pure (hP s₁ hp _ fun b o hb => Heap.get?_push_of_some _ (Heap.get?_push_of_some _ hb))
    · exact wpAny_pure ⟨v, rfl, wpAny_pure (hY v s₁ gs' hb hv)⟩
end
end Mine
end

-- part P1
section
open PySem PySem.W PyProof.Rows
namespace Mine
theorem off_P1 : True := by
  w_top off
  first | (walk1; done) | trivial
section
variable {w : World} {A₀ A : Around} {base h₀ : Heap} {env : Env} {outer : List Env} {L : Addr} {m : Str → Option Value} {news : List (Addr × Obj)} {mean : ExcName → Option Value} {mg mb : Str → Option Value} {s : Shared} {Q E : Value → Shared → Prop}
  {name qual : Str} {params : Arguments} {body : List Stmt} {scope : Scope} {dV kV doc pm cdv ct oc : Value} {an od : Option Addr} {osl : Array (Option Value)} {f : Addr} {args : Args} {d : Nat}
theorem enterG (binds : List (Str × Value)) (G : Gd w A₀ base outer h₀ mean mg mb) (C : Cr A env outer L (d + 1)) (F : Fr h₀ L s.heap m) (N : News h₀ L s.heap news)
    (ho : (hd.heap_1 w.params).lookup f = some ⟨oc, od, .func (fnOf name qual params body scope dV kV doc pm an cdv ct), osl⟩) (hcd : codeIn (hd.heap_1 w.params) cdv qual = true)
    (hbind : BindsTo s (fnOf name qual params body scope dV kV doc pm an cdv ct) args binds) (hloc : ∀ y ∈ binds, scope.names.lookup y.1 = some .local)
    (hco : scope.isCoroutine = false) (hgen : scope.isGenerator = true) (hk : scope.kind = .function) (hcell : ∀ x ∈ scope.names, x.2 ≠ .cell)
    (h : ∀ (Cg : Addr) h₁ tk, Fr h₀ Cg h₁ (fun y => binds.reverse.lookup y) → h₁.IsGen (Cg + 1) s.gens.size → h₁.objs.size = Cg + 2 → L < Cg → (∀ p ∈ news, p.1 < Cg) → Fr h₀ L h₁ m → News h₀ L h₁ news →
      Q (.ref (Cg + 1)) { s with heap := h₁, gens := s.gens.push (.fresh (.func body (envOf qual scope Cg f cdv))), toks := tk }) :
    codeAny (model pw w) A (.call (.ref f) args) (fun r s' => match r with | .ok (.ret v) => Q v s' | .ok _ => False | .error e => E e s') s := by
  obtain ⟨B, X, T⟩ := G
  refine codeAny_call_generator (fd := fnOf name qual params body scope dV kV doc pm an cdv ct) (body := body) (by have := C.dp; omega) ((X.keeps F.keep) _ _ ho) rfl hco hgen rfl (codeRec_of (X.keeps F.keep) hcd) (hbind _ _ _ _ ?_)
  refine wpAny_newFunctionEnv hcell hloc (fun h₁ hns₁ hsb₁ => ?_) hk
  have old : ∀ b o, s.heap.get? b = some o → h₁.get? b = some o := fun b o e => hsb₁.extBut b o (Nat.ne_of_lt (Heap.lt_size e)) (Heap.get?_push_of_some _ e)
  refine ⟨(T.nolimit.keeps F.keep).fresh _ hsb₁, ?_⟩
  have hsz : h₁.objs.size = s.heap.objs.size + 1 := hsb₁.1.trans (Heap.size_push ..)
  show Q (.ref h₁.objs.size) _
  have e1 : h₁.objs.size = s.heap.objs.size + 1 := hsz
  have F1 : Fr h₀ s.heap.objs.size h₁ (fun y => binds.reverse.lookup y) := ⟨hns₁, fun b o e => old b o (F.keep b o e), Nat.le_trans F.above (Nat.le_of_lt F.ns.lt)⟩
  have F2 : Fr h₀ L h₁ m := ⟨F.ns.keeps old, fun b o e => old b o (F.keep b o e), F.above⟩
  have N2 : News h₀ L h₁ news := fun p hp => ⟨old _ _ (N p hp).1, (N p hp).2⟩
  have q := h s.heap.objs.size (h₁.push { cls := .type "generator", data := .fields #[.int s.gens.size 0, .str name (s.toks + binds.length), .str qual (s.toks + binds.length + 1)] }) (s.toks + binds.length + 1 + 1) (F1.push _) ?_ ?_ F.ns.lt (fun p hp => Heap.lt_size (N p hp).1) (F2.push _)
    (fun p hp => ⟨Heap.get?_push_of_some _ (N2 p hp).1, (N2 p hp).2⟩)
  · rw [e1]; exact q
  · rw [← e1]; exact ⟨_, _, _, Heap.get?_push_size _ rfl, rfl, rfl, rfl⟩
  · rw [Heap.size_push, e1]
end
theorem assign2 {prog : Program} {w : World} {A : Around} {h₀ : Heap} {s : Shared} {m : Str → Option Value} {env : Env} {x y : Str} {px py pos : Pos} {k : Nat} {T : Addr} {v1 v2 : Value} {Q : Unit → Shared → Prop} {E : Value → Shared → Prop}
    (hh : A.handled = none) (F : Fr h₀ env.locals s.heap m) (ht : s.heap.IsTuple T #[v1, v2]) (hx : env.kindOf x = some .local) (hy : env.kindOf y = some .local) (hp : (env.scope.kind == .class || (env.scope.kind == .module && env.locals != env.globals)) = false)
    (h : ∀ h' tk, Fr h₀ env.locals h' (fun z => if z = y then some v2 else if z = x then some v1 else m z) → (∀ b o, b ≠ env.locals → s.heap.get? b = some o → h'.get? b = some o) → Q () { s with heap := h', toks := tk }) :
    wpAny (model prog w) A (assign (.Tuple [.Name x px, .Name y py] k pos) env (.ref T)) Q E s := by
  refine wpAny_assign_Tuple hh ht rfl rfl fun h₃ hx₃ => ?_
  have old₃ : ∀ b o, s.heap.get? b = some o → h₃.get? b = some o := fun b o e => hx₃ b o (Nat.ne_of_lt (Heap.lt_size e)) e
  have F3 : Fr h₀ env.locals h₃ m := ⟨F.ns.keeps old₃, fun b o e => old₃ b o (F.keep b o e), F.above⟩
  show wpAny _ A (do holding [v2] (assign (.Name x px) env v1); do holding [] (assign (.Name y py) env v2); pure ()) _ _ _
  refine wpAny_bind (wpAny_holding (wpAny_assign_Name (wpAny_storeName_local hx F3.ns (fun h₄ hn₄ hs₄ => ?_) hp)))
  refine wpAny_bind (wpAny_holding (wpAny_assign_Name (wpAny_storeName_local hy (F3.set hn₄ hs₄).ns (fun h₅ hn₅ hs₅ => wpAny_pure ?_) hp)))
  have F5 := (F3.set hn₄ hs₄).set hn₅ hs₅
  exact h h₅ _ F5 fun b o hb e => (hs₅.2 b hb).trans ((hs₄.2 b hb).trans (old₃ b o e))
end Mine
end

-- part P2
section
open PySem PySem.W PyProof.Rows
namespace Mine
theorem off_P2 : True := by
  w_top off
  first | (walk1; done) | trivial
theorem fill_P2 : PySem.Challenge.rw_oh0062_01 = PySem.Challenge.rw_oh0062_01 ∧ hd.heap_1 = hd.heap_1 := by k_fill; exact ⟨rfl, rfl⟩
local macro_rules | `(tactic| walk_at "PlainEnd") => `(tactic| refine stopMark ?_)
local macro_rules | `(tactic| walk_at "SegIf") => `(tactic| refine stopMark ?_)
local macro_rules | `(tactic| walk_at "SegIter") => `(tactic| refine stopMark ?_)
local macro_rules | `(tactic| walk_at "SegYield") => `(tactic| refine stopMark ?_)
local macro_rules | `(tactic| walk_at "call type:enumerate") => `(tactic| refine stopMark ?_)
local macro_rules | `(tactic| walk_at "storeName") => `(tactic| refine stopMark ?_)
theorem fr_pinG {g : Heap} {L : Addr} {h : Heap} {m : Str → Option Value} (ps : List (Str × Value)) (F : Fr g L h m) (hp : ∀ p ∈ ps, m p.1 = some p.2) : Fr g L h (kstB m ps) := by
  have e : kstB m ps = m := funext fun y => kstB_eq hp fun _ => rfl
  rw [e]; exact F
/-- the generator's own things, when it has taken i signs -/
structure GenHeap (h₀ : Heap) (Cg : Addr) (x : Str) (t : Tok) (i : Nat) (h : Heap) : Prop where
  F : ∃ u, Fr h₀ Cg h (kstB u [(("escape" : Str), Value.bool false), ("addr", .str x t)])
  e : ∃ old, IsEnum h (Cg + 3) (Cg + 2) i old
  it : h.IsStrIter (Cg + 2) (strIterType x) x t i
noncomputable def genFp (Cg : Addr) : List Addr := [Cg, Cg + 3, Cg + 2]
noncomputable def GY (h₀ : Heap) (Cg : Addr) (x : Str) : Protocol := fun k s₀ v s' kap =>
  ∃ (T : Addr) (ch : Nat) (t u : Tok) (h : Heap) (tk : Nat), x.cps[x.cps.size - 1 - k]? = some ch ∧ v = .ref T ∧ s' = { s₀ with heap := h, toks := tk } ∧ h.IsTuple T #[.int (x.cps.size - 1 - k : Nat) t, .str ⟨#[ch]⟩ u] ∧
    (∀ b o, b ∉ genFp Cg → s₀.heap.get? b = some o → h.get? b = some o) ∧
    ∀ s'' : Shared, (∀ b ∈ genFp Cg, ∀ o, h.get? b = some o → s''.heap.get? b = some o) → (∀ b o, h₀.get? b = some o → s''.heap.get? b = some o) → kap (.send .none) s''
noncomputable def GR (Cg : Addr) (n : Nat) (s₀ s' : Shared) : Prop := n = 0 ∧ ∃ h tk, s' = { s₀ with heap := h, toks := tk } ∧ ∀ b o, b ∉ genFp Cg → s₀.heap.get? b = some o → h.get? b = some o
theorem full_led {h₀ h : Heap} {C : Addr} : ∃ kl, News h₀ C h kl ∧ ∀ b o, h.get? b = some o → b ≠ C → h₀.get? b = none → (b, o) ∈ kl := by
  refine ⟨PyProof.Rows.ownOf h₀ ((List.range h.objs.size).filter fun b => b != C) h, news_ownOf (by simp), fun b o e hb hn => ?_⟩
  refine mem_ownOf (List.mem_filter.mpr ⟨List.mem_range.mpr (Heap.lt_size e), by simpa using hb⟩) hn e
theorem draws_str {w : World} {A : Around} (hh : A.handled = none) (it : Addr) (x : Str) (t : Tok) :
    Draws pw w A it [it] x.cps.size (fun i v => ∃ c u, x.cps[i]? = some c ∧ v = .str ⟨#[c]⟩ u) (fun i h => h.IsStrIter it (strIterType x) x t i) := by
  unfold strIterType
  split
  · exact .strAscii hh it x t
  · exact .strWide hh it x t
theorem gwalk {w : World} {A : Around} (hh : A.handled = none) (Cg : Addr) (x : Str) (t : Tok) : WalksT pw w A (Cg + 3) [Cg + 3, Cg + 2] [Cg + 3, Cg + 2] x.cps.size
      (fun i vals => ∃ t v, (∃ c u, x.cps[i]? = some c ∧ v = .str ⟨#[c]⟩ u) ∧ vals = #[.int i t, v])
      (fun i h => (∃ old, IsEnum h (Cg + 3) (Cg + 2) i old) ∧ h.IsStrIter (Cg + 2) (strIterType x) x t i)
      (fun i T h => (∃ v, IsEnumOut h (Cg + 3) (Cg + 2) ((i : Int) + 1) v T) ∧ h.IsStrIter (Cg + 2) (strIterType x) x t (i + 1) ∧ T ≠ Cg + 3 ∧ T ≠ Cg + 2) :=
  WalksT.enumerateD (draws_str (A := A.in1) hh (Cg + 2) x t) (Cg + 3) (by simp) (by simp) (by simp)
theorem seg_ind {w : World} {A : Around} {R : GenEnd} {Y : Protocol} {code : Code} {t : Sem Fin} {frs : List Frame} {N : Nat} {s₀ s : Shared} (I : Nat → Shared → Shared → Prop)
    (stop : ∀ s₀ s, I N s₀ s → Seg (model pw w) A R Y 0 s₀ code t frs s)
    (step : ∀ i s₀ s, i < N → I i s₀ s → (∀ s₀' s', I (i + 1) s₀' s' → Seg (model pw w) A R Y (N - (i + 1)) s₀' code t frs s') → Seg (model pw w) A R Y (N - (i + 1) + 1) s₀ code t frs s) (h : I 0 s₀ s) : Seg (model pw w) A R Y N s₀ code t frs s := by
  have all : ∀ k i, i + k = N → ∀ s₀ s, I i s₀ s → Seg (model pw w) A R Y k s₀ code t frs s := by
    intro k
    induction k with
    | zero => intro i hi s₀ s h; exact stop s₀ s (by rw [← hi]; exact h)
    | succ k ih =>
      intro i hi s₀ s h
      have e : k = N - (i + 1) := by omega
      rw [e]
      exact step i s₀ s (by omega) h fun s₀' s' h' => e ▸ ih (i + 1) (by omega) s₀' s' h'
  exact all N 0 (Nat.zero_add _) s₀ s h
theorem frKeep {g : Heap} {L : Addr} {h h' : Heap} {m : Str → Option Value} {wr : List Addr} (F : Fr g L h m) (hL : L ∉ wr) (hw : ∀ b ∈ wr, g.get? b = none) (hk : ∀ b o, b ∉ wr → h.get? b = some o → h'.get? b = some o) : Fr g L h' m :=
  ⟨F.ns.at' fun o e => hk _ o hL e, fun b o e => hk b o (fun hb => by rw [hw b hb] at e; cases e) (F.keep b o e), F.above⟩
theorem gen_call {w : World} {A₀ A : Around} {base h₀ : Heap} {env : Env} {outer : List Env} {L : Addr} {m : Str → Option Value} {news : List (Addr × Obj)} {mean mg mb} {x : Str} {t : Tok} {s : Shared} {Q : Value → Shared → Prop} {E : Value → Shared → Prop}
    (G : Gd w A₀ base outer h₀ mean mg mb) (C : Cr A env outer L 1) (F : Fr h₀ L s.heap m) (N : News h₀ L s.heap news) (hx : ∀ c ∈ x.cps.toList, c ≠ 92)
    (hQ : ∀ (Cg : Addr) h₁ tk gs, h₁.IsGen (Cg + 1) s.gens.size → gs.bare = true → h₁.objs.size = Cg + 2 → L < Cg → (∀ p ∈ news, p.1 < Cg) → Fr h₀ L h₁ m → News h₀ L h₁ news →
      (∀ A' : Around, A'.handled = none → ∀ s' : Shared, s'.heap = h₁ → gs.Goes (model pw w) A' (fun n s₀ r s₁ => r = .ok (.ret .none) ∧ GR Cg n s₀ s₁) (GY h₀ Cg x) x.cps.size (.send .none) s') →
      Q (.ref (Cg + 1)) { s with heap := h₁, gens := s.gens.push gs, toks := tk }) :
    wpAny (model pw w) A (call (.ref 28) [.str x t]) Q E s := by
  refine wpAny_call (enterG [(("addr" : Str), Value.str x t)] G C F N (by k_is) (by k_is) (BindsTo.of_eq rfl) (locs rfl) rfl rfl rfl (by decide) ?_)
  intro Cg h1 tk1 Fg Hg hsz hLC hnews F1 N1
  refine hQ Cg h1 tk1 (.fresh _) Hg rfl hsz hLC hnews F1 N1 ?_
  intro A' hA' s' hs'
  obtain ⟨B1, X1, T1⟩ := G
  have hLh : h₀.get? Cg = none := by
    cases e : h₀.get? Cg with
    | none => rfl
    | some o => exact absurd (Heap.lt_size e) (Nat.not_lt.mpr Fg.above)
  subst hs'
  clear F N F1 N1 hQ hnews
  refine ⟨rfl, seg_func (seg_plain ?_)⟩
  have N0 : News h₀ Cg s'.heap [] := News.nil
  ((try first | refine genS (fun Qx gx dx ox hQx => ?_) | refine genQ (fun Qx hQx => ?_)); k_steps)
  unfold Stop
  refine wpAny_storeName_local rfl Fg.ns (fun h2 hn2 hs2 => ?_) rfl
  have F2 := Fg.set hn2 hs2
  clear N0
  have N2 : News h₀ Cg h2 [] := News.nil
  ((try first | refine genS (fun Qx gx dx ox hQx => ?_) | refine genQ (fun Qx hQx => ?_)); k_steps)
  unfold Stop
  refine ⟨rfl, seg_plain ?_⟩
  ((try first | refine genS (fun Qx gx dx ox hQx => ?_) | refine genQ (fun Qx hQx => ?_)); k_steps)
  unfold Stop
  refine wpAny_storeName_local rfl F2.ns (fun h3 hn3 hs3 => ?_) rfl
  have F3 := F2.set hn3 hs3
  clear N2
  have N3 : News h₀ Cg h3 [] := News.nil
  ((try first | refine genS (fun Qx gx dx ox hQx => ?_) | refine genQ (fun Qx hQx => ?_)); k_steps)
  unfold Stop
  refine ⟨rfl, seg_For ?_ (fun _ => rfl)⟩
  k_steps
  unfold Stop
  have hz : h3.objs.size = Cg + 2 := hs3.1.trans (hs2.1.trans hsz)
  refine call_enumerate_str fun h4 he4 hit4 hsz4 hk4 => ?_
  have hz' : ({ heap := h3, gens := s'.gens, drawn := s'.drawn, toks := s'.toks + 1 + 1 + 1, os := s'.os } : Shared).heap.objs.size = Cg + 2 := hz
  rw [hz'] at he4 hit4 hsz4 ⊢
  unfold SegIter
  refine wpAny_pyIter_enum he4 ?_
  have hCw : Cg ∉ [Cg + 3, Cg + 2] := by simp
  have hnone : ∀ b ∈ [Cg + 3, Cg + 2], h₀.get? b = none := by
    intro b hb
    refine Heap.get?_none_of_le (Nat.le_trans Fg.above ?_)
    simp only [List.mem_cons, List.not_mem_nil, or_false] at hb
    rcases hb with rfl | rfl <;> simp
  intro p
  refine seg_ind (fun i s₀ s => (∃ h tk, s = { s₀ with heap := h, toks := tk } ∧ ∀ b o, b ∉ genFp Cg → s₀.heap.get? b = some o → h.get? b = some o) ∧ GenHeap h₀ Cg x t i s.heap) ?_ ?_ ?_
  · rintro s₀ s ⟨⟨h5, tk5, rfl, hk5⟩, ⟨⟨u, F5⟩, ⟨old, e5⟩, it5⟩⟩
    dsimp only at F5 e5 it5
    refine seg_forLoop ?_
    refine WalksT.done (gwalk ?hA Cg x t) _ _ _ ⟨⟨old, e5⟩, it5⟩ ?_
    case hA => exact hA'
    intro h6 tk6 hk6
    refine seg_block_nil (seg_back ?_)
    have F6 := frKeep F5 hCw hnone hk6
    simp only [kstB] at F6
    have N6 : News h₀ Cg h6 [] := News.nil
    refine seg_If ?_
    ((try first | refine genS (fun Qx gx dx ox hQx => ?_) | refine genQ (fun Qx hQx => ?_)); k_steps)
    unfold Stop SegIf
    show Seg (model pw w) _ _ _ _ _ _ _ _ _
    rw [if_neg Bool.false_ne_true]
    refine seg_end (.ok (.ret .none)) ⟨rfl, rfl, h6, _, rfl, ?_⟩
    intro b o hb e
    exact hk6 b o (fun q => hb (.tail _ q)) (hk5 b o hb e)
  · rintro i s₀ s hi ⟨⟨h5, tk5, rfl, hk5⟩, ⟨⟨u, F5⟩, ⟨old, e5⟩, it5⟩⟩ ih
    dsimp only at F5 e5 it5
    refine seg_forLoop ?_
    refine WalksT.item (gwalk ?hA Cg x t) i _ _ _ hi ⟨⟨old, e5⟩, it5⟩ ?_
    case hA => exact hA'
    intro T vals h6 tk6 hP6 hT6 hI6 hM6 hk6
    refine WalksT.go (gwalk ?hA Cg x t) _ _ _ i T _ _ _ hM6 ?_
    case hA => exact hA'
    intro h7 hst7 hk7
    obtain ⟨⟨old7, e7⟩, it7⟩ := hst7
    obtain ⟨t6, v6, ⟨c6, u6, hc6, rfl⟩, rfl⟩ := hP6
    have hTw := (gwalk (w := w) hA' Cg x t).apart i T h6 hM6
    have F6 := frKeep F5 hCw hnone hk6
    have F7 := frKeep F6 hCw hnone hk7
    have hT7 : h7.IsTuple T #[.int i t6, .str ⟨#[c6]⟩ u6] := by
      obtain ⟨o, ho, r⟩ := hI6
      exact ⟨o, hk7 _ _ hTw ho, r⟩
    refine assign2 hA' F7 hT7 rfl rfl rfl ?_
    intro h8 tk8 F8 hk8
    refine seg_If ?_
    obtain ⟨kl, Nk, hkl⟩ := full_led (h₀ := h₀) (h := h8) (C := Cg)
    have kp8 := F8.keep
    simp only [kstB] at F8
    ((try first | refine genS (fun Qx gx dx ox hQx => ?_) | refine genQ (fun Qx hQx => ?_)); k_steps)
    unfold Stop SegIf
    show Seg (model pw w) _ _ _ _ _ _ _ _ _
    rw [if_neg Bool.false_ne_true]
    refine seg_If ?_
    ((try first | refine genS (fun Qx gx dx ox hQx => ?_) | refine genQ (fun Qx hQx => ?_)); k_steps)
    unfold Stop SegIf
    show Seg (model pw w) _ _ _ _ _ _ _ _ _
    have hne92 : ((⟨#[c6]⟩ : Str) == Str.ofString "\\") = false := by
      rw [show Str.ofString "\\" = ⟨#[92]⟩ from by decide +kernel]
      have h1 : c6 ≠ 92 := hx c6 (by have := Array.mem_of_getElem? hc6; simpa using this)
      rw [beq_eq_false_iff_ne]
      intro e; injection e with e; exact h1 (by simpa using e)
    rw [hne92, if_neg Bool.false_ne_true]
    refine seg_Yield rfl rfl rfl ?_ rfl rfl
    ((try first | refine genS (fun Qx gx dx ox hQx => ?_) | refine genQ (fun Qx hQx => ?_)); k_steps)
    unfold Stop SegYield
    intro kap hkap
    rename Fr _ _ _ _ => F9
    rename News _ _ _ _ => N9
    rename_i D9 h9 _
    have idx : x.cps.size - 1 - (x.cps.size - (i + 1)) = i := by omega
    have kp9 : ∀ b o, b ≠ Cg → h8.get? b = some o → h9.get? b = some o := fun b o hb e => by
      cases hn : h₀.get? b with
      | none => exact (N9 (b, o) (.tail _ (hkl b o e hb hn))).1
      | some o' =>
        have h1 := kp8 b o' hn
        rw [e] at h1; cases h1
        exact F9.keep b o hn
    have hT9 : h9.IsTuple D9 #[.int i t6, .str ⟨#[c6]⟩ u6] := ⟨_, (N9 _ (.head _)).1, rfl, _, rfl⟩
    have ne3 : Cg + 3 ≠ Cg := Nat.ne_of_gt (Nat.lt_add_of_pos_right (by decide))
    have ne2 : Cg + 2 ≠ Cg := Nat.ne_of_gt (Nat.lt_add_of_pos_right (by decide))
    refine ⟨D9, c6, t6, u6, h9, _, by rw [idx]; exact hc6, rfl, rfl, by rw [idx]; exact hT9, ?_, ?_⟩
    · intro b o hb e
      have hb1 : b ≠ Cg := fun q => hb (by rw [q]; exact .head _)
      have hb2 : b ∉ [Cg + 3, Cg + 2] := fun q => hb (.tail _ q)
      exact kp9 b o hb1 (hk8 b o hb1 (hk7 b o hb2 (hk6 b o hb2 (hk5 b o hb e))))
    · intro s'' hfp hbase
      refine hkap s'' ?_
      show Seg (model pw w) A' _ _ _ s'' _ (.pure (.again _)) _ s''
      refine seg_again rfl (ih s'' s'' ⟨⟨s''.heap, s''.toks, rfl, fun _ _ _ e => e⟩, ⟨⟨_, fr_pinG _ (m := _) ⟨F9.ns.at' fun o e => hfp Cg (.head _) o e, hbase, F9.above⟩ ?_⟩, ⟨old7, hfp _ (.tail _ (.head _)) _ (kp9 _ _ ne3 (hk8 _ _ ne3 e7))⟩, ?_⟩⟩)
      · intro p hp
        simp only [List.mem_cons, List.not_mem_nil, or_false] at hp
        rcases hp with rfl | rfl <;> rfl
      · obtain ⟨o, ho, r⟩ := it7
        exact ⟨o, hfp _ (.tail _ (.tail _ (.head _))) _ (kp9 _ _ ne2 (hk8 _ _ ne2 ho)), r⟩
  · refine ⟨⟨h4, _, rfl, ?_⟩, ⟨?_, ⟨_, he4⟩, hit4⟩⟩
    · intro b o hb e
      have hbC : b ≠ Cg := fun q => hb (by rw [q]; exact .head _)
      exact hk4 b o ((hs3.2 b hbC).trans ((hs2.2 b hbC).trans e))
    · have F4 : Fr h₀ Cg h4 _ := ⟨F3.ns.keeps hk4, fun b o e => hk4 b o (F3.keep b o e), F3.above⟩
      refine ⟨_, fr_pinG _ F4 ?_⟩
      intro p hp
      simp only [List.mem_cons, List.not_mem_nil, or_false] at hp
      rcases hp with rfl | rfl <;> rfl

end Mine
end

-- part P3
section
open PySem PySem.W PyProof.Rows
namespace Mine
theorem off_P3 : True := by
  w_top off
  first | (walk1; done) | trivial
theorem fill_P3 : PySem.Challenge.rw_oh0062_01 = PySem.Challenge.rw_oh0062_01 ∧ hd.heap_1 = hd.heap_1 := by k_fill; exact ⟨rfl, rfl⟩
local macro_rules | `(tactic| walk_at "exec For Tuple Call cons nil") => `(tactic| refine stopMark ?_)
local macro_rules | `(tactic| walk_at "ForEnd") => `(tactic| refine stopMark ?_)
local macro_rules | `(tactic| walk_at "SegIter") => `(tactic| refine stopMark ?_)
noncomputable def par : List Nat → Int → Bool
  | [], o => o == 0
  | c :: r, o => if c = 40 then par r (o + 1) else if c = 41 then (if o - 1 < 0 then false else par r (o - 1)) else par r o
theorem strip_call {w : World} {A₀ A : Around} {base h₀ : Heap} {env : Env} {outer : List Env} {L : Addr} {m : Str → Option Value} {news : List (Addr × Obj)} {mean mg mb} {x : Str} {t : Tok} {s : Shared} {Q : Value → Shared → Prop} {E : Value → Shared → Prop}
    (G : Gd w A₀ base outer h₀ mean mg mb) (C : Cr A env outer L 1) (F : Fr h₀ L s.heap m) (N : News h₀ L s.heap news) (hx : ∀ c ∈ x.cps.toList, c = 40 ∨ c = 41)
    (hQ : ∀ h' tk t', Fr h₀ L h' m → News h₀ L h' news → Q (.str x t') { s with heap := h', toks := tk }) :
    wpAny (model pw w) A (call (.ref 35) [.str x t]) Q E s := by
  refine wpAny_call (enterP [(("addr" : Str), Value.str x t)] G C F N (by k_is) (by k_is) (BindsTo.of_eq rfl) (locs rfl) rfl rfl rfl (by decide) ?_)
  intro g L' h1 tk1 hg F1 N1 G1 C1
  subst hg
  have hh := C1.hh
  have hu64 := C1.u64
  obtain ⟨B1, X1, T1⟩ := G1
  clear C G F N
  have hq : (Builtin.Str.occurrences x (Str.ofString "\"") 0 x.length 1).isEmpty = true := by
    have h1 := PySem.StrLaws.found_one x 34
    rw [decide_eq_false (fun hm => by rcases hx 34 hm with h | h <;> exact absurd h (by decide))] at h1
    rw [show Str.ofString "\"" = ⟨#[34]⟩ from by decide +kernel]
    simpa using h1
  ((try first | refine genS (fun Qx gx dx ox hQx => ?_) | refine genQ (fun Qx hQx => ?_)); k_steps)
  unfold Stop
  refine ⟨_, [], by assumption, News.nil, fun Fz Nz _ => hQ _ _ _ Fz Nz⟩
noncomputable def ForEnd (I : Nat → Shared → Prop) (n : Nat) (R : Result → Shared → Prop) (f : Flow) (s₃ : Shared) : Prop :=
  match f with
  | .next | .cont => ∃ m, m < n ∧ I m s₃
  | .brk => R (.ok .next) s₃
  | .ret v => R (.ok (.ret v)) s₃
theorem forAny {w : World} {A : Around} {s : Shared} {env : Env} {target : PySem.Expr} {it : Value} {body : List Stmt} {R : Result → Shared → Prop} (I : Around → Nat → Shared → Prop)
    (turn : ∀ n s, I A n s → wpAny (model pw w) A (pyNext it) (fun r s₁ => match r with
      | none => R (.ok .next) s₁
      | some v => wpAny (model pw w) A (letOwnedTupleGo target it v) (fun _ s₂ => wpAny (model pw w) A (assign target env v) (fun _ s₃ => wpAny (model pw w) A (execs body env) (ForEnd (I A) n R) (fun _ _ => False) s₃) (fun _ _ => False) s₂) (fun _ _ => False) s₁) (fun _ _ => False) s)
    (n : Nat) (h : I A n s) : codeAny (model pw w) A (.forLoop target it body [] env) R s := by
  refine codeAny_forLoop_any (I A) (fun n s hI => ?_) n h
  refine wpAny_mono (turn n s hI) (fun r s₁ h₁ => ?_) fun _ _ q => q.elim
  cases r with
  | none => exact wpAny_execs_nil h₁
  | some v =>
    refine wpAny_mono h₁ (fun _ s₂ h₂ => ?_) fun _ _ q => q.elim
    refine wpAny_mono h₂ (fun _ s₃ h₃ => ?_) fun _ _ q => q.elim
    refine wpAny_mono h₃ (fun f s₄ h₄ => ?_) fun _ _ q => q.elim
    cases f <;> exact h₄
theorem letOwned_gen {w : World} {A : Around} {s : Shared} {elts : List PySem.Expr} {k : Nat} {pos : Pos} {a T : Addr} {g : Nat} {Q : Unit → Shared → Prop} {E : Value → Shared → Prop} (hg : s.heap.IsGen a g) (h : Q () s) :
    wpAny (model pw w) A (letOwnedTupleGo (.Tuple elts k pos) (.ref a) (.ref T)) Q E s := by
  obtain ⟨o, nm, qn, ho, hc, hd, _⟩ := hg
  unfold letOwnedTupleGo
  refine wpAny_bind (wpAny_load ho ?_)
  rw [hc, hd]
  show wpAny _ _ (if _ then _ else _) _ _ _
  rw [if_neg (by intro e; simp at e)]
  exact wpAny_pure h
theorem bare_set {a : Array GenState} {g : Nat} {x : GenState} (h : AllBare a) (hx : x.bare = true) : AllBare (a.setIfInBounds g x) := by
  intro y hy
  obtain ⟨i, hi, e⟩ := Array.mem_iff_getElem.mp hy
  rw [Array.getElem_setIfInBounds (by simpa using hi)] at e
  split at e
  · rw [← e]; exact hx
  · rw [← e]; exact h _ (Array.getElem_mem _)
theorem isGen_at {h h' : Heap} {a : Addr} {g : Nat} (x : h.IsGen a g) (hk : ∀ o, h.get? a = some o → h'.get? a = some o) : h'.IsGen a g := by
  obtain ⟨o, nm, qn, ho, r⟩ := x
  exact ⟨o, nm, qn, hk o ho, r⟩
/-- the row of brackets, the generator ahead of its i-th sign -/
inductive PIt (w : World) (A : Around) (g : Heap) (L' : Addr) (x : Str) (Cg : Addr) (gi : Nat) (s : Shared) (n : Nat) (s' : Shared) : Prop
  | mk (i : Nat) (o : Int) (u : Str → Option Value) (to : Tok) (gs : GenState) (h : Heap) (tk : Nat) (gens : Array GenState) (hi : i ≤ x.cps.size) (hn : n = x.cps.size + 1 - i) (e : s' = { s with heap := h, toks := tk, gens := gens })
      (F : Fr g L' h (kstB u [(("opens" : Str), Value.int o to)])) (gen : h.IsGen (Cg + 1) gi) (hgs : gens[gi]? = some gs) (hb : gs.bare = true)
      (go : ∀ s' : Shared, s'.heap = h → gs.Goes (model pw w) A.in1 (fun n s₀ r s₁ => r = .ok (.ret .none) ∧ GR Cg n s₀ s₁) (GY g Cg x) (x.cps.size - i) (.send .none) s')
      (bare : AllBare s.gens → AllBare gens) (pos : 0 ≤ o) (small : o ≤ i) (val : par x.cps.toList 0 = par (x.cps.toList.drop i) o) : PIt w A g L' x Cg gi s n s'
theorem pin_opens {g : Heap} {L : Addr} {h : Heap} {m : Str → Option Value} {o : Int} {to : Tok} (F : Fr g L h m) (hm : m "opens" = some (.int o to)) : Fr g L h (kstB m [(("opens" : Str), Value.int o to)]) := by
  refine fr_pinG _ F ?_
  intro p hp
  rw [List.mem_singleton.mp hp]; exact hm
theorem ix_split {i n : Nat} (h : i < n) : ∃ k, n - i = k + 1 ∧ n - 1 - k = i ∧ n - (i + 1) = k ∧ n + 1 - (i + 1) < n + 1 - i := by
  obtain ⟨j, rfl⟩ := Nat.exists_eq_add_of_lt h
  exact ⟨j, by omega, by omega, by omega, by omega⟩
theorem no40 {c : Nat} (h : c = 41) : c ≠ 40 := fun e => absurd (h.symm.trans e) (by decide)
theorem paren_call {w : World} {A₀ A : Around} {base h₀ : Heap} {env : Env} {outer : List Env} {L : Addr} {m : Str → Option Value} {news : List (Addr × Obj)} {mean mg mb} {x : Str} {t : Tok} {s : Shared} {Q : Value → Shared → Prop} {E : Value → Shared → Prop}
    (G : Gd w A₀ base outer h₀ mean mg mb) (C : Cr A env outer L 2) (F : Fr h₀ L s.heap m) (N : News h₀ L s.heap news) (hx : ∀ c ∈ x.cps.toList, c = 40 ∨ c = 41) (hlen : x.cps.size ≤ 1000)
    (hQ : ∀ h' tk gens', (AllBare s.gens → AllBare gens') → Fr h₀ L h' m → News h₀ L h' news → Q (.bool (par x.cps.toList 0)) { s with heap := h', toks := tk, gens := gens' }) :
    wpAny (model pw w) A (call (.ref 42) [.str x t]) Q E s := by
  refine wpAny_call (enterP [(("addr" : Str), Value.str x t)] G C F N (by k_is) (by k_is) (BindsTo.of_eq rfl) (locs rfl) rfl rfl rfl (by decide) ?_)
  intro g L' h1 tk1 hg F1 N1 G1 C1
  have hh := C1.hh
  have hu64 := C1.u64
  have G2 := G1
  obtain ⟨B1, X1, T1⟩ := G1
  clear C G F N
  k_steps
  unfold Stop
  refine strip_call G2 C1 F1 N1 hx ?_
  intro h2 tk2 t2 F2 N2
  k_steps
  rename Fr _ _ _ _ => F3
  rename News _ _ _ _ => N3
  unfold Stop
  refine wpAny_For (?_ : wpAny _ _ _ (SegIter _) _ _)
  k_steps
  unfold Stop
  refine gen_call G2 C1 F3 N3 (fun c hc => by rcases hx c hc with h | h <;> rw [h] <;> decide) ?_
  intro Cg h4 tk4 gs hgen hbare hsz4 hLC _ F4 N4 hgo
  unfold SegIter
  refine wpAny_pyIter_gen hgen ?_
  have hLf : L' ∉ genFp Cg := fun hm => by
    simp only [genFp, List.mem_cons, List.not_mem_nil, or_false] at hm
    rcases hm with e | e | e
    · exact absurd hLC (e ▸ Nat.lt_irrefl _)
    · exact absurd hLC (e ▸ Nat.not_lt.mpr (Nat.le_add_right _ _))
    · exact absurd hLC (e ▸ Nat.not_lt.mpr (Nat.le_add_right _ _))
  have hgC : (Cg + 1) ∉ genFp Cg := by simp [genFp]
  have hgL : Cg + 1 ≠ L' := Nat.ne_of_gt (Nat.lt_succ_of_lt hLC)
  have hfn : ∀ b ∈ genFp Cg, g.get? b = none := fun b hb => by
    refine Heap.get?_none_of_le (Nat.le_trans F3.above (Nat.le_trans (Nat.le_of_lt hLC) ?_))
    simp only [genFp, List.mem_cons, List.not_mem_nil, or_false] at hb
    rcases hb with rfl | rfl | rfl <;> simp
  refine forAny (fun A k s' => PIt w A g L' x Cg s.gens.size s k s') ?_ (x.cps.size + 1) ⟨0, 0, _, _, gs, _, _, _, Nat.zero_le _, rfl, rfl, pin_opens F4 rfl, hgen, ?_, hbare, fun s' hs' => by refine hgo _ ?_ s' hs'; exact hh, fun h => h.push hbare, Int.le_refl _, Int.le_refl _, rfl⟩
  · rintro k s' ⟨i, o, u, to, gs5, h5, tk5, gens5, hi, rfl, rfl, F5, gen5, hgs5, hb5, go5, bare5, pos5, small5, val5⟩
    rcases Nat.lt_or_ge i x.cps.size with hlt | hge
    · obtain ⟨k, hk, idx, hks, hkn⟩ := ix_split hlt
      rw [hk] at go5
      refine next_genQ (n := k + 1) hh (T1.nolimit.keeps F5.keep) (by have := C1.dp; omega) gen5 hgs5 (go5 _ rfl) ?_ ?_
      · intro v s₁ gs' hb' hY
        obtain ⟨T, ch, t6, u6, h6, tk6, hc, rfl, rfl, hT, hkeep, hres⟩ := hY
        rw [Nat.add_sub_cancel, idx] at hc hT
        have hkeep' : ∀ b o, b ∉ genFp Cg → h5.get? b = some o → h6.get? b = some o := hkeep
        have F6 := frKeep F5 hLf hfn hkeep'
        refine letOwned_gen (isGen_at gen5 fun o e => hkeep' _ o hgC e) ?_
        refine assign2 hh F6 hT rfl rfl rfl ?_
        intro h7 tk7 F7 hk7
        obtain ⟨kl, Nk, hkl⟩ := full_led (h₀ := g) (h := h7) (C := L')
        have kp7 := F7.keep
        simp only [kstB] at F7
        change wpAny _ _ _ _ _ { s with heap := h7, toks := tk7, gens := (gens5.setIfInBounds s.gens.size .running).setIfInBounds s.gens.size gs' }
        have hk7' : ∀ b o, b ≠ L' → h6.get? b = some o → h7.get? b = some o := hk7
        have hsz5 : s.gens.size < gens5.size := by
          have h1 : gens5[s.gens.size]? = some gs5 := hgs5
          exact (Array.getElem?_eq_some_iff.mp h1).1
        have hgs6 : ((gens5.setIfInBounds s.gens.size .running).setIfInBounds s.gens.size gs')[s.gens.size]? = some gs' := by simp [hsz5]
        have bare6 : AllBare s.gens → AllBare ((gens5.setIfInBounds s.gens.size .running).setIfInBounds s.gens.size gs') := fun h => bare_set (bare_set (bare5 h) rfl) hb'
        generalize ((gens5.setIfInBounds s.gens.size .running).setIfInBounds s.gens.size gs') = gens6 at *
        have kp8 : ∀ h8, News g L' h8 kl → (∀ b o, g.get? b = some o → h8.get? b = some o) → ∀ b o, b ≠ L' → h7.get? b = some o → h8.get? b = some o := fun h8 N8 k8 b o hb e => by
          cases hn : g.get? b with
          | none => exact (N8 (b, o) (hkl b o e hb hn)).1
          | some o' =>
            have h1 := kp7 b o' hn
            rw [e] at h1; cases h1
            exact k8 b o hn
        have fpn : ∀ b ∈ genFp Cg, b ≠ L' := fun b hb e => hLf (e ▸ hb)
        have gen7 : h7.IsGen (Cg + 1) s.gens.size := isGen_at gen5 fun o e => hk7' _ o hgL (hkeep' _ o hgC e)
        have hdrop : x.cps.toList.drop i = ch :: x.cps.toList.drop (i + 1) := by
          have h1 : x.cps.toList[i]? = some ch := by simpa using hc
          obtain ⟨h2, h3⟩ := List.getElem?_eq_some_iff.mp h1
          rw [List.drop_eq_getElem_cons h2, h3]
        rw [hdrop] at val5
        have hch := hx ch (by have := Array.mem_of_getElem? hc; simpa using this)
        have q40 : ((⟨#[ch]⟩ : Str) == Str.ofString "(") = decide (ch = 40) := by rw [show Str.ofString "(" = ⟨#[40]⟩ from by decide +kernel, chr_beq]
        have q41 : ((⟨#[ch]⟩ : Str) == Str.ofString ")") = decide (ch = 41) := by rw [show Str.ofString ")" = ⟨#[41]⟩ from by decide +kernel, chr_beq]
        clear hgs5 go5 hb5 bare5 hkeep hk7 hT F6
        k_steps
        · rename Fr _ _ _ _ => F8
          rename News _ _ _ _ => N8
          rename _ = true => hb
          rw [q40, decide_eq_true_eq] at hb
          unfold Stop
          have kk := kp8 _ N8 F8.keep
          refine ⟨x.cps.size + 1 - (i + 1), hkn, i + 1, o + 1, _, _, gs', _, _, _, by omega, rfl, rfl, pin_opens F8 rfl, isGen_at gen7 fun o e => kk _ o hgL e, hgs6, hb', fun s' hs' => ?_, bare6, by omega, by omega, ?_⟩
          · rw [hks]
            exact hres s' (fun b hb o e => by rw [hs']; exact kk b o (fpn b hb) (hk7' b o (fpn b hb) e)) (fun b o e => by rw [hs']; exact F8.keep b o e)
          · rw [val5, par, if_pos hb]
        · rename Fr _ _ _ _ => F8
          rename News _ _ _ _ => N8
          rename _ = true => hb
          rename _ < _ => hneg
          rw [q41, decide_eq_true_eq] at hb
          unfold Stop
          have hval : par x.cps.toList 0 = false := by rw [val5, par, if_neg (no40 hb), if_pos hb, if_pos hneg]
          show LeaveP _ _ _ _ _ _ _ _ _
          refine ⟨_, [], F8, News.nil, fun Fz Nz _ => ?_⟩
          have := hQ _ (tk) gens6 bare6 Fz Nz
          rw [hval] at this
          exact this
        · rename Fr _ _ _ _ => F8
          rename News _ _ _ _ => N8
          rename _ = true => hb
          rename ¬ (_ < _) => hneg
          rw [q41, decide_eq_true_eq] at hb
          unfold Stop
          have kk := kp8 _ N8 F8.keep
          refine ⟨x.cps.size + 1 - (i + 1), hkn, i + 1, o - 1, _, _, gs', _, _, _, by omega, rfl, rfl, pin_opens F8 rfl, isGen_at gen7 fun o e => kk _ o hgL e, hgs6, hb', fun s' hs' => ?_, bare6, by omega, by omega, ?_⟩
          · rw [hks]
            exact hres s' (fun b hb o e => by rw [hs']; exact kk b o (fpn b hb) (hk7' b o (fpn b hb) e)) (fun b o e => by rw [hs']; exact F8.keep b o e)
          · rw [val5, par, if_neg (no40 hb), if_pos hb, if_neg hneg]
        · exfalso
          rename (_ == Str.ofString "(") = false => hb1
          rename (_ == Str.ofString ")") = false => hb2
          rw [q40, decide_eq_false_iff_not] at hb1
          rw [q41, decide_eq_false_iff_not] at hb2
          exact hch.elim hb1 hb2
      · intro s₁ hP
        exact absurd hP.1 (Nat.succ_ne_zero _)
    · have hiN : i = x.cps.size := Nat.le_antisymm hi hge
      subst hiN
      rw [Nat.sub_self] at go5
      refine next_genQ (n := 0) hh (T1.nolimit.keeps F5.keep) (by have := C1.dp; omega) gen5 hgs5 (go5 _ rfl) ?_ ?_
      · intro v s₁ gs' hb' hY
        obtain ⟨T, ch, t6, u6, h6, tk6, hc, rfl, rfl, hT, hkeep, hres⟩ := hY
        exact absurd (hres { s with heap := h6 } (fun _ _ _ e => e) (fun b o e => hkeep b o (fun hb => by rw [hfn b hb] at e; cases e) (F5.keep b o e))) id
      · rintro s₁ ⟨_, h6, tk6, rfl, hkeep⟩ h7 hk7
        have hkeep' : ∀ b o, b ∉ genFp Cg → h5.get? b = some o → h6.get? b = some o := hkeep
        have F6 := frKeep F5 hLf hfn hkeep'
        have F7 : Fr g L' h7 _ := ⟨F6.ns.keeps hk7, fun b o e => hk7 b o (F6.keep b o e), F6.above⟩
        simp only [kstB] at F7
        have N7 : News g L' h7 [] := News.nil
        have bare6 : AllBare s.gens → AllBare ((gens5.setIfInBounds s.gens.size .running).setIfInBounds s.gens.size .finished) := fun h => bare_set (bare_set (bare5 h) rfl) rfl
        rw [List.drop_of_length_le (by simp), par] at val5
        show wpAny _ _ (execs [Stmt.Return _ _] _) _ _ { s with heap := h7, toks := tk6, gens := (gens5.setIfInBounds s.gens.size .running).setIfInBounds s.gens.size .finished }
        generalize ((gens5.setIfInBounds s.gens.size .running).setIfInBounds s.gens.size .finished) = gens6 at *
        ((try first | refine genS (fun Qx gx dx ox hQx => ?_) | refine genQ (fun Qx hQx => ?_)); k_steps)
        unfold Stop
        show LeaveP _ _ _ _ _ _ _ _ _
        refine ⟨_, [], F7, News.nil, fun Fz Nz _ => ?_⟩
        rw [← val5]
        exact hQ _ _ gens6 bare6 Fz Nz
  · simp

end Mine
end

local macro_rules | `(tactic| omega) => `(tactic| lia)
local macro_rules | `(tactic| omega) => `(tactic| fail "ar")

-- part C1
section
open PySem PySem.W PyProof.Rows
namespace Mine
theorem off_C1 : True := by
  w_top off
  first | (walk1; done) | trivial
theorem fillIt2 : PySem.Challenge.rw_oh0062_01 = PySem.Challenge.rw_oh0062_01 ∧ hd.heap_1 = hd.heap_1 := by k_fill; exact ⟨rfl, rfl⟩

noncomputable def cornerAt (hs gs : List Int) (i : Nat) : List Int :=
  if hs.getD (i - 1) 0 = hs.getD (i + 1) 0 then
    (if hs.getD i 0 < hs.getD (i - 1) 0 ∧ hs.getD i 0 < gs.getD i 0 then [40 * (i : Int) + hs.getD i 0] else []) ++
    (if hs.getD i 0 > hs.getD (i - 1) 0 ∧ hs.getD i 0 > gs.getD i 0 then [40 * (i : Int) + hs.getD i 0 - 2] else [])
  else []
noncomputable def crnTo (hs gs : List Int) (k : Nat) : List Int := (List.range k).flatMap fun i => cornerAt hs gs (i + 1)
theorem crnTo_succ (hs gs : List Int) (k : Nat) : crnTo hs gs (k + 1) = crnTo hs gs k ++ cornerAt hs gs (k + 1) := by
  unfold crnTo; rw [List.range_succ, List.flatMap_append]; simp
theorem cornerAt_len (hs gs : List Int) (i : Nat) : (cornerAt hs gs i).length ≤ 2 := by
  unfold cornerAt
  (repeat' split) <;> simp
theorem crnTo_len (hs gs : List Int) (k : Nat) : (crnTo hs gs k).length ≤ 2 * k := by
  induction k with
  | zero => simp [crnTo]
  | succ k ih => rw [crnTo_succ, List.length_append]; have := cornerAt_len hs gs (k + 1); omega
noncomputable def crn (hs gs : List Int) : List Int := crnTo hs gs (hs.length - 2)
/-- what a corner adds, of the heights alone -/
noncomputable def cr4 (a b c g p : Int) : List Int := if a = c then (if b < a ∧ b < g then [p + b] else []) ++ (if b > a ∧ b > g then [p + b - 2] else []) else []
theorem cr4_up {a b c g p : Int} (h1 : a = c) (h2 : b < a) (h3 : b < g) : cr4 a b c g p = [p + b] := by
  unfold cr4; rw [if_pos h1, if_pos ⟨h2, h3⟩, if_neg fun e => Int.lt_asymm h2 e.1]; rfl
theorem cr4_dn {a b c g p : Int} (h1 : a = c) (h2 : a < b) (h3 : g < b) : cr4 a b c g p = [p + b - 2] := by
  unfold cr4; rw [if_pos h1, if_neg fun e => Int.lt_asymm h2 e.1, if_pos ⟨h2, h3⟩]; rfl
theorem cr4_no {a b c g p : Int} (h2 : ¬ (a = c ∧ b < a ∧ b < g)) (h3 : ¬ (a = c ∧ b > a ∧ b > g)) : cr4 a b c g p = [] := by
  unfold cr4
  by_cases h1 : a = c
  · rw [if_pos h1, if_neg fun e => h2 ⟨h1, e⟩, if_neg fun e => h3 ⟨h1, e⟩]; rfl
  · rw [if_neg h1]
theorem crUp {vs : List Value} {l T : List Int} {a b c g p : Int} {t : Tok} (hI : IntsAre vs l) (k : T = cr4 a b c g p) (h1 : a = c) (h2 : b < a) (h3 : b < g) : IntsAre (vs ++ [.int (p + b) t]) (l ++ T) := by
  rw [k, cr4_up h1 h2 h3]; exact hI.append (.cons _ _ .nil)
theorem crDn {vs : List Value} {l T : List Int} {a b c g p : Int} {t : Tok} (hI : IntsAre vs l) (k : T = cr4 a b c g p) (h1 : a = c) (h2 : a < b) (h3 : g < b) : IntsAre (vs ++ [.int (p + b - 2) t]) (l ++ T) := by
  rw [k, cr4_dn h1 h2 h3]; exact hI.append (.cons _ _ .nil)
theorem crNo {vs : List Value} {l T : List Int} {a b c g p : Int} (hI : IntsAre vs l) (k : T = cr4 a b c g p) (h2 : ¬ (a = c ∧ b < a ∧ b < g)) (h3 : ¬ (a = c ∧ b > a ∧ b > g)) : IntsAre vs (l ++ T) := by
  rw [k, cr4_no h2 h3, List.append_nil]; exact hI
theorem crNo1 {vs : List Value} {l T : List Int} {a b c g p : Int} (hI : IntsAre vs l) (k : T = cr4 a b c g p) (h2 : b < a) (h3 : ¬ b < g) : IntsAre vs (l ++ T) := crNo hI k (fun e => h3 e.2.2) fun e => Int.lt_asymm h2 e.2.1
theorem crNo2 {vs : List Value} {l T : List Int} {a b c g p : Int} (hI : IntsAre vs l) (k : T = cr4 a b c g p) (h2 : ¬ b < a) (h3 : ¬ g < b) : IntsAre vs (l ++ T) := crNo hI k (fun e => h2 e.2.1) fun e => h3 e.2.2
theorem crNo3 {vs : List Value} {l T : List Int} {a b c g p : Int} (hI : IntsAre vs l) (k : T = cr4 a b c g p) (h2 : ¬ b < a) (h3 : ¬ a < b) : IntsAre vs (l ++ T) := crNo hI k (fun e => h2 e.2.1) fun e => h3 e.2.1
theorem crNo4 {vs : List Value} {l T : List Int} {a b c g p : Int} (hI : IntsAre vs l) (k : T = cr4 a b c g p) (h : a ≠ c) : IntsAre vs (l ++ T) := crNo hI k (fun e => h e.1) fun e => h e.1
theorem ix3 {i n : Nat} (h : i < n - 2) : (((i + 1 : Nat) : Int) - 1 < n ∧ ((i + 1 : Nat) : Int) < n) ∧ ((i + 1 : Nat) : Int) + 1 < n := by omega
theorem corners_call {w : World} {A₀ A : Around} {base h₀ : Heap} {env : Env} {outer : List Env} {L : Addr} {m : Str → Option Value} {news : List (Addr × Obj)} {mean mg mb} {s : Shared} {Q : Value → Shared → Prop} {E : Value → Shared → Prop}
    {lh lg : Addr} {vh vg : List Value} {hs gs : List Int}
    (G : Gd w A₀ base outer h₀ mean mg mb) (C : Cr A env outer L 1)
    (F : Fr h₀ L s.heap m) (N : News h₀ L s.heap news) (hlh : s.heap.IsList lh vh.toArray) (hIh : IntsAre vh hs) (hlg : s.heap.IsList lg vg.toArray) (hIg : IntsAre vg gs) (hlen : hs.length = gs.length) (hsz : hs.length ≤ 1000) (hpos : 0 < hs.length)
    (hQ : ∀ l vs n h' tk, IntsAre vs (crn hs gs) → Fr h₀ L h' m → News h₀ L h' ((l, W.listOf vs.toArray n) :: news) → (∀ p ∈ news, l ≠ p.1) → Q (.ref l) { s with heap := h', toks := tk }) :
    wpAny (model pw w) A (call (.ref 193) [.ref lh, .ref lg]) Q E s := by
  refine wpAny_call (enterP [(("heights" : Str), Value.ref lh), (("goal" : Str), Value.ref lg)] G C F N (by k_is) (by k_is) (BindsTo.of_eq rfl) (locs rfl) rfl rfl rfl (by decide) ?_)
  intro g L' h1 tk1 hg F1 N1 G1 C1
  subst hg
  have hh := C1.hh
  obtain ⟨B1, X1, T1⟩ := G1
  clear C G F N
  ((try first | refine genS (fun Qx gx dx ox hQx => ?_) | refine genQ (fun Qx hQx => ?_)); k_steps)
  rename_i l h2 l2 h3 F2 N2
  unfold Stop
  refine For_invV s.heap rfl rfl ?_
  ((try first | refine genS (fun Qx gx dx ox hQx => ?_) | refine genQ (fun Qx hQx => ?_)); k_steps)
  rename News _ _ _ _ => N3
  rename IsRange _ _ _ _ _ _ _ _ => R3
  rename Fr _ _ _ _ => F3
  unfold Stop
  refine iterRange (n := hs.length - 2) (fun c : List Value × Nat => [(l, W.listOf c.1.toArray c.2)]) (fun c => []) [] (fun i c => IntsAre c.1 (crnTo hs gs i)) ([], 0) R3 ?_ ?_ hh F3 N3 ?_ ?_ ?_ ?_
  case refine_5 =>
    rintro i tc ⟨vs, n⟩ u h tk own wr hi hI hnw hoff F4 N4
    dsimp only [cont_nil, kstB, List.cons_append, List.nil_append, envOf] at F4 N4 hI hnw hoff
    have ei : (1 + (i : Int) * 1) = ((i + 1 : Nat) : Int) := by omega
    rw [ei] at F4
    have hoff' : ∀ p ∈ own, p.1 ≠ l := fun p hp => hoff p hp _ (.head _)
    have hsz4 : vs.length ≤ 2000 := Nat.le_trans (Nat.le_of_eq hI.length) (Nat.le_trans (crnTo_len hs gs i) (Nat.mul_le_mul_left 2 (Nat.le_trans (Nat.le_of_lt hi) (Nat.le_trans (Nat.sub_le _ _) hsz))))
    obtain ⟨⟨hb0, hb2⟩, hb3⟩ := ix3 hi
    have hb1 : ((i + 1 : Nat) : Int) - 1 < gs.length := hlen ▸ hb0
    have hb4 : ((i + 1 : Nat) : Int) < gs.length := hlen ▸ hb2
    have hb5 : i + 1 ≤ 1000 := Nat.le_trans (Nat.le_trans hi (Nat.sub_le _ _)) hsz
    have e1 : (((i + 1 : Nat) : Int) - 1).toNat = i := by omega
    have e2 : (((i + 1 : Nat) : Int) + 1).toNat = i + 1 + 1 := by omega
    have e3 : (((i + 1 : Nat) : Int)).toNat = i + 1 := by omega
    have key : cornerAt hs gs (i + 1) = cr4 (hs.getD (((i + 1 : Nat) : Int) - 1).toNat 0) (hs.getD ((i + 1 : Nat) : Int).toNat 0) (hs.getD (((i + 1 : Nat) : Int) + 1).toNat 0) (gs.getD ((i + 1 : Nat) : Int).toNat 0) (40 * ((i + 1 : Nat) : Int)) := by rw [e1, e2, e3]; rfl
    ((try first | refine genS (fun Qx gx dx ox hQx => ?_) | refine genQ (fun Qx hQx => ?_)); k_steps)
    all_goals
      rename Fr _ _ _ _ => F'
      rename News _ _ _ _ => N'
      first
        | refine TurnEnd.push F' N' (hnw _ (.head _)) (fun z h1 _ => if_neg h1) ?_
        | refine TurnEnd.pass F' N' (hnw _ (.head _)) (fun z h1 _ => if_neg h1) ?_
      show IntsAre _ (crnTo hs gs (i + 1))
      rw [crnTo_succ]
      with_reducible first
        | exact crUp hI key (by assumption) (by assumption) (by assumption)
        | exact crDn hI key (by assumption) (by assumption) (by assumption)
        | exact crNo1 hI key (by assumption) (by assumption)
        | exact crNo2 hI key (by assumption) (by assumption)
        | exact crNo3 hI key (by assumption) (by assumption)
        | exact crNo4 hI key (by assumption)
  case refine_6 =>
    rintro ⟨vs, n⟩ u h tk hI F4 N4
    dsimp only [cont_nil, kstB, List.cons_append, List.nil_append, envOf] at F4 N4 hI
    ((try first | refine genS (fun Qx gx dx ox hQx => ?_) | refine genQ (fun Qx hQx => ?_)); k_steps)
    rename Fr _ _ _ _ => F'
    rename News _ _ _ _ => N'
    exact LeaveP.list F' N' fun F N hne => hQ _ _ _ _ _ hI F N hne
  · exact small_one (by decide) (by decide) (by omega) (by omega)
  · rw [rangeSize_nat]; omega
  · intro p hp; cases hp
  · exact .nil
end Mine
end

-- part W1
section
open PySem PySem.W PyProof.Rows
namespace Mine
theorem off_W1 : True := by
  w_top off
  first | (walk1; done) | trivial
theorem fill_W1 : PySem.Challenge.rw_oh0062_01 = PySem.Challenge.rw_oh0062_01 ∧ hd.heap_1 = hd.heap_1 := by k_fill; exact ⟨rfl, rfl⟩
noncomputable def wstep (hs cs : List Int) (k : Nat) : List Int := (List.range k).map fun (i : Nat) =>
  if 40 * (i : Int) + hs.getD i 0 ∈ cs then hs.getD i 0 + 2 else if 40 * (i : Int) + hs.getD i 0 - 2 ∈ cs then hs.getD i 0 - 2 else hs.getD i 0
theorem wstep_succ (hs cs : List Int) (k : Nat) : wstep hs cs (k + 1) = wstep hs cs k ++ [if 40 * (k : Int) + hs.getD k 0 ∈ cs then hs.getD k 0 + 2 else if 40 * (k : Int) + hs.getD k 0 - 2 ∈ cs then hs.getD k 0 - 2 else hs.getD k 0] := by
  unfold wstep; rw [List.range_succ, List.map_append]; simp
theorem wstep_len (hs cs : List Int) (k : Nat) : (wstep hs cs k).length = k := by simp [wstep]
noncomputable def wit (hs gs : List Int) : Nat → List Int
  | 0 => hs
  | j + 1 => wstep (wit hs gs j) (crn (wit hs gs j) gs) hs.length
theorem wit_len (hs gs : List Int) (j : Nat) : (wit hs gs j).length = hs.length := by
  cases j with
  | zero => rfl
  | succ j => exact wstep_len _ _ _
/-- a list of lists of ints -/
inductive LL (news : List (Addr × Obj)) : List Value → List (List Int) → Prop
  | nil : LL news [] []
  | cons {a : Addr} {vs : List Value} {n : Nat} {ns : List Int} {vl : List Value} {nsl : List (List Int)} : (a, W.listOf vs.toArray n) ∈ news → IntsAre vs ns → LL news vl nsl → LL news (.ref a :: vl) (ns :: nsl)
theorem LL.mono {news news' : List (Addr × Obj)} {vl : List Value} {nsl : List (List Int)} (h : LL news vl nsl) (hs : ∀ p ∈ news, p ∈ news') : LL news' vl nsl := by
  induction h with
  | nil => exact .nil
  | cons hm hi _ ih => exact .cons (hs _ hm) hi ih
theorem LL.snoc {news : List (Addr × Obj)} {vl : List Value} {nsl : List (List Int)} {a : Addr} {vs : List Value} {n : Nat} {ns : List Int} (h : LL news vl nsl) (hm : (a, W.listOf vs.toArray n) ∈ news) (hi : IntsAre vs ns) : LL news (vl ++ [.ref a]) (nsl ++ [ns]) := by
  induction h with
  | nil => exact .cons hm hi .nil
  | cons h1 h2 _ ih => exact .cons h1 h2 ih
theorem LL.length {news : List (Addr × Obj)} {vl : List Value} {nsl : List (List Int)} (h : LL news vl nsl) : vl.length = nsl.length := by
  induction h with
  | nil => rfl
  | cons _ _ _ ih => simp [ih]
theorem item_lastV {prog : Program} {w : World} {A : Around} {E : Value → Shared → Prop} {s : Shared} {value slice : PySem.Expr} {l : Addr} {vs : List Value} {u : Tok} {v : Value} {Q : Value → Shared → Prop}
    (hl : s.heap.IsList l vs.toArray) (hy : vs.getLast? = some v) (h : Q v s)
    (hs : subscripted slice false (.ref l) (.int (-1) u) = operate [.ref l, .int (-1) u] (getItem (.ref l) (.int (-1) u)) := by with_unfolding_all rfl) :
    wpAny (model prog w) A (subscriptTail value slice (.ref l) (.int (-1) u)) Q E s := by
  have hpos : 0 < vs.length := by
    cases vs with
    | nil => simp at hy
    | cons a r => simp
  refine tail_any hl.typeIs slot_list_getitem.lookup (wpAny_getItem_list_neg hl (by decide) ?_ (by decide) (x := v) ?_ h) hs
  · simp only [List.size_toArray]; omega
  · have e : ((-1 : Int) + (vs.toArray.size : Nat)).toNat = vs.length - 1 := by simp only [List.size_toArray]; omega
    rw [e]; rw [List.getLast?_eq_getElem?] at hy; simpa using hy
local macro_rules | `(tactic| walk_at "subscriptTail") => `(tactic| (k_here; (with_reducible show wpAny _ _ (subscriptTail _ _ (Value.ref _) (Value.int (-1) _)) _ _ _); (with_unfolding_all refine' item_lastV ?k1 ?k2 ?_ ?k6; (case k1 => is_list); (case k2 => assumption); (case k6 => with_unfolding_all rfl); k_whole)))
theorem allLt_mem {d : Nat} {l : List (Addr × Obj)} (h : AllLt d l) : ∀ p ∈ l, p.1 < d := by
  induction l with
  | nil => intro p hp; cases hp
  | cons a r ih =>
    intro p hp
    rcases List.mem_cons.mp hp with e | e
    · rw [e]; exact h.1
    · exact ih h.2 p e
theorem any_beq (l : List Int) (v : Int) : (l.any fun x => x == v) = decide (v ∈ l) := by
  rw [Bool.eq_iff_iff, List.any_eq_true, decide_eq_true_iff]
  constructor
  · rintro ⟨x, hx, e⟩; rw [← beq_iff_eq.mp e]; exact hx
  · intro h; exact ⟨v, h, by simp⟩
noncomputable abbrev tupObj (l : List Value) : Obj := { cls := .type "tuple", data := .seq l.toArray }
structure WSt where
  j : Nat
  vp : List Value
  np : Nat
  vt : List Value
  nt : Nat
  lc : Addr
  vc : List Value
  nc : Nat
  la : Addr
  va : List Value
  na : Nat
  objs : List (Addr × Obj)
noncomputable def WSt.Led (lp lt : Addr) (ph : Addr × Obj) (c : WSt) : List (Addr × Obj) := (lp, W.listOf c.vp.toArray c.np) :: (lt, W.listOf c.vt.toArray c.nt) :: (c.lc, W.listOf c.vc.toArray c.nc) :: (c.la, W.listOf c.va.toArray c.na) :: ph :: c.objs
structure WSt.Ok (lp lt : Addr) (hs gs : List Int) (k : Nat) (c : WSt) : Prop where
  j : c.j ≤ k
  a : IntsAre c.va (wit hs gs c.j)
  cc : IntsAre c.vc (crn (wit hs gs c.j) gs)
  last : c.vp.getLast? = some (.ref c.la)
  p : LL ((c.la, W.listOf c.va.toArray c.na) :: c.objs) c.vp ((List.range (c.j + 1)).map (wit hs gs))
  t : LL ((c.la, W.listOf c.va.toArray c.na) :: c.objs) c.vt ((List.range c.j).map fun i => crn (wit hs gs i) gs)
  d1 : lp ≠ lt
  d2 : c.lc ≠ lp
  d3 : c.lc ≠ lt
  d4 : c.la ≠ lp
  d5 : c.la ≠ lt
  d6 : ∀ p ∈ c.objs, p.1 ≠ lp
  d7 : ∀ p ∈ c.objs, p.1 ≠ lt
theorem walk_call {w : World} {A₀ A : Around} {base h₀ : Heap} {env : Env} {outer : List Env} {L : Addr} {m : Str → Option Value} {rest : List (Addr × Obj)} {mean mg mb} {s : Shared} {Q : Value → Shared → Prop} {E : Value → Shared → Prop}
    {lh lg : Addr} {vh vg : List Value} {nh : Nat} {hs gs : List Int} {k : Nat}
    (G : Gd w A₀ base outer h₀ mean mg mb) (C : Cr A env outer L 2)
    (F : Fr h₀ L s.heap m) (N : News h₀ L s.heap ((lh, W.listOf vh.toArray nh) :: rest)) (hsep : ∀ q ∈ rest, lh ≠ q.1) (hlg : s.heap.IsList lg vg.toArray) (hgl : lg ≠ lh)
    (hIh : IntsAre vh hs) (hIg : IntsAre vg gs) (hlen : hs.length = gs.length) (hsz : hs.length ≤ 100) (hpos : 0 < hs.length) (hk1 : ∀ j, j < k → crn (wit hs gs j) gs ≠ []) (hk2 : crn (wit hs gs k) gs = []) (hk3 : k ≤ 1000)
    (hQ : ∀ (tp lp lt : Addr) (vp vt : List Value) (np nt : Nat) (objs : List (Addr × Obj)) h' tk, LL objs vp ((List.range (k + 1)).map (wit hs gs)) → LL objs vt ((List.range k).map fun i => crn (wit hs gs i) gs) → (lh, W.listOf vh.toArray nh) ∈ objs →
      Fr h₀ L h' m → News h₀ L h' ((tp, tupObj [.ref lp, .ref lt]) :: (lp, W.listOf vp.toArray np) :: (lt, W.listOf vt.toArray nt) :: (objs ++ rest)) → (∀ p ∈ (tp, tupObj [.ref lp, .ref lt]) :: (lp, W.listOf vp.toArray np) :: (lt, W.listOf vt.toArray nt) :: objs, ∀ q ∈ rest, p.1 ≠ q.1) → Q (.ref tp) { s with heap := h', toks := tk }) :
    wpAny (model pw w) A (call (.ref 200) [.ref lh, .ref lg]) Q E s := by
  refine wpAny_call (enterQ [(("heights" : Str), Value.ref lh), (("goal" : Str), Value.ref lg)] [(lh, W.listOf vh.toArray nh)] rest G C F N (fun p hp q hq => by simp only [List.mem_singleton] at hp; subst hp; exact hsep q hq) (by k_is) (by k_is) (BindsTo.of_eq rfl) (locs rfl) rfl rfl rfl (by decide) ?_)
  intro g L' h1 tk1 hg F1 N1 lt1 G1 C1
  have hh := C1.hh
  have hu64 := C1.u64
  have hlg' : g.IsList lg vg.toArray := by
    obtain ⟨o, ho, r⟩ := hlg
    exact ⟨o, hg _ _ ho (by simpa using hgl), r⟩
  clear C G F N hlg
  have G2 := G1
  obtain ⟨B1, X1, T1⟩ := G1
  ((try first | refine genS (fun Qx gx dx ox hQx => ?_) | refine genQ (fun Qx hQx => ?_)); k_steps)
  rename_i lp _ q1 _ _ lt _ q2 _ F2 N2
  unfold Stop
  refine corners_call G2 C1 F2 N2 (by is_list) hIh (by is_list) hIg hlen (by omega) hpos ?_
  intro lc vc nc h3 tk3 hIc F3 N3 hlc
  have c1 : lc ≠ lt := hlc _ (.head _)
  have c2 : lc ≠ lp := hlc _ (.tail _ (.head _))
  have c3 : lc ≠ lh := hlc _ (.tail _ (.tail _ (.head _)))
  ((try first | refine genS (fun Qx gx dx ox hQx => ?_) | refine genQ (fun Qx hQx => ?_)); k_steps)
  rename_i h4 F4 N4
  unfold Stop
  refine ksw_while (WSt.Led lp lt (lh, W.listOf vh.toArray nh)) (fun c => [(("corners" : Str), Value.ref c.lc)]) (fun _ => True) [("new" : Str), "i", "height"] (WSt.Ok lp lt hs gs k) (fun c => k - c.j)
    ⟨0, [Value.ref lh], 0, [], 0, lc, vc, nc, lh, vh, nh, []⟩ F4 ?_ trivial ?_ ?_ ?_ (.never)
  · intro p hp
    refine N4 p ?_
    revert p; walk_at "mine sub"
  · intro p hp; simp only [List.mem_singleton] at hp; subst hp; rfl
  · exact ⟨Nat.zero_le _, hIh, hIc, rfl, .cons (.head _) hIh .nil, .nil, neN (by omega), c2, c1, by show lh ≠ lp; exact neN (by omega), by show lh ≠ lt; exact neN (by omega), fun _ h => (nomatch h), fun _ h => (nomatch h)⟩
  rintro ⟨j, vp, np, vt, nt, lc, vc, nc, la, va, na, objs⟩ u h5 tk5 _ ⟨kj, kA, kC, klast, kP, kT, d1, d2, d3, d4, d5, d6, d7⟩ F5 N5
  dsimp only [WSt.Led] at *
  simp only [kstB] at F5
  have e1 : lh ≠ lp := neN (by omega)
  have e2 : lh ≠ lt := neN (by omega)
  have z1 : vt.length ≤ 2000 := by rw [kT.length, List.length_map, List.length_range]; omega
  have z2 : vp.length ≤ 2000 := by rw [kP.length, List.length_map, List.length_range]; omega
  ((try first | refine genS (fun Qx gx dx ox hQx => ?_) | refine genQ (fun Qx hQx => ?_)); k_steps)
  · rename Fr _ _ _ _ => F'
    rename News _ _ _ _ => N'
    rename decide _ = true => hz
    have hjk : j = k := by
      rcases Nat.lt_or_ge j k with h | h
      · exact absurd (of_decide_eq_true hz) (hk1 j h)
      · omega
    subst hjk
    rename_i tp _ _
    refine ⟨_, (tp, tupObj [.ref lp, .ref lt]) :: (lp, W.listOf vp.toArray np) :: (lt, W.listOf vt.toArray nt) :: ((la, W.listOf va.toArray na) :: (lh, W.listOf vh.toArray nh) :: objs), F', fun p hp => N' p ?_, fun Fz Nz hne => hQ tp lp lt vp vt np nt ((la, W.listOf va.toArray na) :: (lh, W.listOf vh.toArray nh) :: objs) _ _ ?_ ?_ ?_ Fz ?_ hne⟩
    · revert p; walk_at "mine sub"
    · exact kP.mono fun p hp => (List.mem_cons.mp hp).elim (fun h => h ▸ .head _) fun h => .tail _ (.tail _ h)
    · exact kT.mono fun p hp => (List.mem_cons.mp hp).elim (fun h => h ▸ .head _) fun h => .tail _ (.tail _ h)
    · exact .tail _ (.head _)
    · exact Nz
  rename_i l0 _ l0q hne _ _ ln _ lnq _ FA NA
  unfold Stop
  refine For_invV g rfl rfl ?_
  ((try first | refine genS (fun Qx gx dx ox hQx => ?_) | refine genQ (fun Qx hQx => ?_)); k_steps)
  rename News _ _ _ _ => N6
  rename IsRange _ _ _ _ _ _ _ _ => R6
  rename Fr _ _ _ _ => F6
  unfold Stop
  let fixed : List (Addr × Obj) := (lp, W.listOf vp.toArray np) :: (lt, W.listOf (vt.toArray.push (Value.ref lc)) (nt + 1)) :: (lc, W.listOf vc.toArray nc) :: (la, W.listOf va.toArray na) :: (lh, W.listOf vh.toArray nh) :: objs
  have hfix : ∀ p ∈ fixed, p.1 ≠ ln := by
    intro p hp
    simp only [fixed, List.mem_cons] at hp
    obtain ⟨_, g1, g2, g3, g4, g5, g6⟩ := lnq
    rcases hp with h | h | h | h | h | h
    · rw [h]; exact Nat.ne_of_lt g1
    · rw [h]; exact Nat.ne_of_lt g2
    · rw [h]; exact Nat.ne_of_lt g3
    · rw [h]; exact Nat.ne_of_lt g4
    · rw [h]; exact Nat.ne_of_lt g5
    · exact Nat.ne_of_lt (allLt_mem g6 p h)
  refine iterRange (n := hs.length) (fun c : List Value × Nat => (ln, W.listOf c.1.toArray c.2) :: fixed) (fun c => []) [("height" : Str)] (fun i c => IntsAre c.1 (wstep (wit hs gs j) (crn (wit hs gs j) gs) i)) ([], 0) R6 ?_ ?_ hh F6 (fun p hp => N6 p ?_) ?_ ?_ ?_ ?_
  case refine_6 =>
    rintro i tc ⟨vs, n⟩ u h tk own wr hi hI hnw hoff F7 N7
    simp only [kstB, List.cons_append, fixed] at F7 N7 hI hnw hoff
    dsimp only [envOf] at F7 N7
    have ei : (0 + (i : Int) * 1) = (i : Int) := by omega
    rw [ei] at F7
    have hoff' : ∀ p ∈ fixed ++ own, p.1 ≠ ln := by
      intro p hp
      rcases List.mem_append.mp hp with q | q
      · exact hfix p q
      · exact hoff p q _ (.head _)
    simp only [fixed, List.cons_append] at hoff'
    have hsz4 : vs.length ≤ 2000 := by rw [hI.length, wstep_len]; omega
    have hw : i < (wit hs gs j).length := by rw [wit_len]; exact hi
    have hcb : (crn (wit hs gs j) gs).length ≤ 1000 := by have := crnTo_len (wit hs gs j) gs ((wit hs gs j).length - 2); rw [wit_len] at this; unfold crn; rw [wit_len]; omega
    have e3 : ((i : Int)).toNat = i := by omega
    ((try first | refine genS (fun Qx gx dx ox hQx => ?_) | refine genQ (fun Qx hQx => ?_)); k_steps)
    all_goals
      rename Fr _ _ _ _ => F'
      rename News _ _ _ _ => N'
      simp only [e3] at *
      refine TurnEnd.pushR (rest := fixed) F' N' (hnw _ (.head _)) (fun p hp => hnw p (.tail _ hp)) ?_ ?_
      · intro z h1 h2; simp only [if_neg h1, if_neg (notin1 h2), h2, Bool.false_eq_true, if_false]
      · show IntsAre (vs ++ [_]) (wstep (wit hs gs j) (crn (wit hs gs j) gs) (i + 1))
        rw [wstep_succ]
        refine hI.append ?_
        simp only [any_beq, decide_eq_true_eq, decide_eq_false_iff_not] at *
        simp only [*, if_true, if_false]
        exact .cons _ _ .nil
  case refine_7 =>
    rintro ⟨vs, n⟩ u h tk hI F7 N7
    simp only [kstB, List.cons_append, fixed] at F7 N7 hI
    dsimp only [envOf] at F7 N7
    have hlp : ∀ p ∈ (lt, W.listOf (vt.toArray.push (Value.ref lc)) (nt + 1)) :: (lc, W.listOf vc.toArray nc) :: (la, W.listOf va.toArray na) :: (lh, W.listOf vh.toArray nh) :: objs, p.1 ≠ lp := by
      intro p hp
      simp only [List.mem_cons] at hp
      rcases hp with h | h | h | h | h
      · rw [h]; exact Ne.symm d1
      · rw [h]; exact d2
      · rw [h]; exact d4
      · rw [h]; exact e1
      · exact d6 p h
    ((try first | refine genS (fun Qx gx dx ox hQx => ?_) | refine genQ (fun Qx hQx => ?_)); k_steps)
    rename Fr _ _ _ _ => F8
    rename News _ _ _ _ => N8
    unfold Stop
    refine corners_call G2 C1 F8 N8 (by is_list) hI (by is_list) hIg (by rw [wstep_len]; exact hlen) (by rw [wstep_len]; omega) (by rw [wstep_len]; exact hpos) ?_
    intro lc' vc' nc' h9 tk9 hIc' F9 N9 hlc'
    ((try first | refine genS (fun Qx gx dx ox hQx => ?_) | refine genQ (fun Qx hQx => ?_)); k_steps)
    rename Fr _ _ _ _ => F'
    rename News _ _ _ _ => N'
    have hjk : j < k := by
      rcases Nat.lt_or_ge j k with h | h
      · exact h
      · have : j = k := Nat.le_antisymm kj h
        subst this
        simp [hk2] at hne
    simp only [List.push_toArray] at N'
    refine ⟨⟨j + 1, vp ++ [.ref ln], np + 1, vt ++ [.ref lc], nt + 1, lc', vc', nc', ln, vs, n, (lc, W.listOf vc.toArray nc) :: (la, W.listOf va.toArray na) :: objs⟩, _, _, _, _, rfl, F', N', ?_, trivial, ?_, ?_, ?_, ?_⟩
    · intro p hp
      revert p; walk_at "mine sub"
    · intro p hp; simp only [List.mem_singleton] at hp; subst hp; rfl
    · intro z h1 h2
      have h3 := notin3 h2
      have h4 : z ≠ ("corners" : Str) := h1 _ (.head _)
      simp only [if_neg h4, if_neg h3.1, if_neg h3.2.1, if_neg h3.2.2, h2, Bool.false_eq_true, if_false]
      have h5 : ([Str.ofString "height"].contains z) = false := by simpa using h3.2.2
      simp only [h5, Bool.false_eq_true, if_false]
    · have hw' : wit hs gs (j + 1) = wstep (wit hs gs j) (crn (wit hs gs j) gs) hs.length := rfl
      obtain ⟨_, g1, g2, g3, g4, g5, g6⟩ := lnq
      refine ⟨hjk, by rw [hw']; exact hI, by rw [hw']; exact hIc', List.getLast?_concat, ?_, ?_, d1, ?_, ?_, ?_, ?_, ?_, ?_⟩
      · show LL _ (vp ++ [.ref ln]) ((List.range (j + 1 + 1)).map (wit hs gs))
        rw [List.range_succ, List.map_append]
        refine (kP.mono fun p hp => ?_).snoc (.head _) (by rw [hw']; exact hI)
        exact .tail _ (.tail _ hp)
      · show LL _ (vt ++ [.ref lc]) ((List.range (j + 1)).map _)
        rw [List.range_succ, List.map_append]
        refine (kT.mono fun p hp => ?_).snoc (.tail _ (.head _)) kC
        exact .tail _ (.tail _ hp)
      · exact hlc' _ (.tail _ (.head _))
      · exact hlc' _ (.tail _ (.tail _ (.head _)))
      · exact Ne.symm (Nat.ne_of_lt g1)
      · exact Ne.symm (Nat.ne_of_lt g2)
      · intro p hp
        simp only [List.mem_cons] at hp
        rcases hp with h | h | h
        · rw [h]; exact d2
        · rw [h]; exact d4
        · exact d6 p h
      · intro p hp
        simp only [List.mem_cons] at hp
        rcases hp with h | h | h
        · rw [h]; exact d3
        · rw [h]; exact d5
        · exact d7 p h
    · show k - (j + 1) < k - j
      omega
  · exact small_one (by decide) (by decide) (by omega) (by omega)
  · rw [rangeSize_nat]; omega
  · simp only [fixed, List.push_toArray, List.mem_cons] at hp ⊢
    rcases hp with h | h
    · exact .inl h
    · exact .inr (.inr h)
  · intro p hp; cases hp
  · exact .nil

end Mine
end

-- part G3
section
open PySem PySem.W PyProof.Rows
namespace Mine
theorem off_G3 : True := by
  w_top off
  first | (walk1; done) | trivial
section
variable {prog : Program} {w : World} {A : Around} {s : Shared} {cenv : Env} {g : Heap} {x : Str}

theorem compLoopLed {σ : Type} {elt : PySem.Expr} {gens : List Comprehension} {scope : Scope} {pos : Pos} {dp : Nat} {acc : Value} {R : Result → Shared → Prop} {I : Addr} {fp wr : List Addr} {n : Nat} {Pv : Nat → Value → Prop} {St : Nat → Heap → Prop}
    {m₀ : Str → Option Value} {px p0 : Pos} {Body : Sem Fin} {Q : Flow → Shared → Prop} (Led : σ → List (Addr × Obj)) (stored : List Str) (P : Nat → σ → Prop) (c₀ : σ)
    (hturn : compTurn (.ListComp elt gens scope pos) dp (.ref I) acc cenv = (standAt p0 >>= fun _ => pyNext (.ref I) >>= fun r => match r with
      | none => pure (.done .next)
      | some v => letOwnedTupleGo (.Name x px) (.ref I) v >>= fun _ => assign (.Name x px) cenv v >>= fun _ => Body))
    (W : Walks prog w A I fp wr n Pv St) (hCf : cenv.locals ∉ fp) (hwr : ∀ b ∈ wr, g.get? b = none) (hnw : ∀ p ∈ Led c₀, p.1 ∉ wr) (hst : St 0 s.heap)
    (F : Fr g cenv.locals s.heap m₀) (N : News g cenv.locals s.heap (Led c₀)) (hp : P 0 c₀)
    (hx : cenv.kindOf x = some .local) (hk : (cenv.scope.kind == .class || (cenv.scope.kind == .module && cenv.locals != cenv.globals)) = false)
    (turn : ∀ i v (c : σ) (u : Str → Option Value) h tk own, i < n → Pv i v → P i c → (∀ p ∈ Led c, p.1 ∉ wr) → (∀ p ∈ own, p.1 ∈ fp) →
      Fr g cenv.locals h (fun y => if y = x then some v else if stored.contains y then u y else m₀ y) → News g cenv.locals h (Led c ++ own) →
      wpAny (model prog w) A Body (fun fin s₂ => fin = .again (.compLoop (.ListComp elt gens scope pos) dp (.ref I) acc cenv) ∧ TurnEnd g cenv.locals Led (fun _ => []) x stored m₀ wr own (P (i + 1)) { s with heap := h, toks := tk } Q .next s₂) (fun _ _ => False) { s with heap := h, toks := tk })
    (done : ∀ (c : σ) (u : Str → Option Value) h tk, P n c → Fr g cenv.locals h (fun y => if y = x then u y else if stored.contains y then u y else m₀ y) →
      News g cenv.locals h (Led c) → R (.ok .next) { s with heap := h, toks := tk }) :
    codeAny (model prog w) A (.compLoop (.ListComp elt gens scope pos) dp (.ref I) acc cenv) R s := by
  have hCw : cenv.locals ∉ wr := fun h => hCf (W.sub _ h)
  have old : ∀ b o, g.get? b = some o → b ∉ wr := fun b o e hb => by rw [hwr b hb] at e; cases e
  have canon : ∀ (m : Str → Option Value) (z : Str), (∀ z, z ≠ x → stored.contains z = false → m z = m₀ z) → z ≠ x → (if stored.contains z then m z else m₀ z) = m z := by
    intro m z h2 hz
    cases hc : stored.contains z with
    | true => simp
    | false => simp only [Bool.false_eq_true, if_false]; exact (h2 z hz hc).symm
  refine codeAny_loop rfl
    (fun k s' => ∃ h' tk m' c i, s' = { s with heap := h', toks := tk } ∧ St i h' ∧ Fr g cenv.locals h' m' ∧ News g cenv.locals h' (Led c) ∧ (∀ p ∈ Led c, p.1 ∉ wr) ∧ (∀ z, z ≠ x → stored.contains z = false → m' z = m₀ z) ∧ P i c ∧ i ≤ n ∧ k = n + 1 - i) ?_ (n + 1)
    ⟨s.heap, s.toks, m₀, c₀, 0, rfl, hst, F, N, hnw, fun _ _ _ => rfl, hp, Nat.zero_le _, rfl⟩
  rintro k s' ⟨h', tk, m', c, i, rfl, hst', F', N', hnw', hm', hP, hi, rfl⟩
  show wpAny _ A ((compTurn (.ListComp elt gens scope pos) dp (.ref I) acc cenv).onRaise (fun x => do noteFrame x cenv; theTreesLotGoes x)) _ _ _
  refine wpAny_noted ?_
  rw [hturn]
  have next : ∀ h₁ : Heap, (∀ b o, b ∉ wr → h'.get? b = some o → h₁.get? b = some o) → Fr g cenv.locals h₁ m' ∧ News g cenv.locals h₁ (Led c) := fun h₁ hk₁ =>
    ⟨⟨F'.ns.at' fun o e => hk₁ _ o hCw e, fun b o e => hk₁ b o (old b o e) (F'.keep b o e), F'.above⟩, fun p hp => ⟨hk₁ _ _ (hnw' p hp) (N' p hp).1, (N' p hp).2⟩⟩
  refine wpAny_bind (wpAny_standAt (wpAny_bind ?_))
  by_cases hlt : i < n
  · refine W.item i _ _ _ hlt hst' fun v h₁ tk₁ hPv hst₁ hk₁ => ?_
    obtain ⟨F₁, N₁⟩ := next h₁ hk₁
    refine wpAny_bind (wpAny_of_eq (a := ()) rfl (wpAny_bind ?_))
    refine wpAny_assign_Name (wpAny_storeName_local hx F₁.ns (fun h₂ hn₂ hs₂ => ?_) hk)
    have F₂ := F₁.set hn₂ hs₂
    have Nown : News g cenv.locals h₂ (ownOf g fp h₂) := news_ownOf hCf
    have e : (fun y => if y = x then some v else m' y) = fun y => if y = x then some v else if stored.contains y then m' y else m₀ y := by
      funext z
      by_cases hz : z = x
      · simp [hz]
      · simp only [if_neg hz]; exact (canon m' z hm' hz).symm
    rw [e] at F₂
    have N₂ : News g cenv.locals h₂ (Led c ++ ownOf g fp h₂) := (N₁.set hs₂).append Nown
    refine wpAny_mono (turn i v c m' h₂ _ (ownOf g fp h₂) hlt hPv hP hnw' ownOf_sub F₂ N₂) (fun fin s₃ q => ?_) fun _ _ q => q.elim
    obtain ⟨rfl, c', h₃, tk₃, m₃, news₃, rfl, F₃, N₃, hL, ho, hw, _, hm₃, hP₃⟩ := q
    refine ⟨rfl, n + 1 - (i + 1), by omega, h₃, tk₃, m₃, c', i + 1, rfl, ?_, F₃, fun p hp => N₃ p (hL p hp), hw, fun z h1 h2 => hm₃ z h1 (fun _ hp => nomatch hp) h2, hP₃, hlt, rfl⟩
    refine W.frame _ _ _ hst₁ fun b hb o e => ?_
    have e₂ : h₂.get? b = some o := (hs₂.2 b fun q => hCf (q ▸ hb)).trans e
    cases hn : g.get? b with
    | some o₀ =>
      have : o₀ = o := by have := F₂.keep b o₀ hn; rw [e₂] at this; exact (Option.some.inj this).symm
      exact this ▸ F₃.keep b o₀ hn
    | none => exact (N₃ _ (ho _ (mem_ownOf hb hn e₂))).1
  · have hin : i = n := by omega
    subst hin
    refine W.done _ _ _ hst' fun h₁ tk₁ hk₁ => wpAny_pure ?_
    obtain ⟨F₁, N₁⟩ := next h₁ hk₁
    refine done c m' h₁ tk₁ hP ?_ N₁
    have e : (fun y => if y = x then m' y else if stored.contains y then m' y else m₀ y) = m' := by
      funext z
      by_cases hz : z = x
      · simp [hz]
      · simp only [if_neg hz]; exact canon m' z hm' hz
    rw [e]; exact F₁

/-- how a comprehension's block ends -/
inductive CompOk (h₀ : Heap) (L : Addr) (m : Str → Option Value) (news : List (Addr × Obj)) (g : Heap) (C D : Addr) (Q : Value → Shared → Prop) (s' : Shared) : Prop
  | mk (m' : Str → Option Value) (ys : Array Value) (k : Nat) (objs : List (Addr × Obj)) (F : Fr g C s'.heap m') (N : News g C s'.heap ((D, W.listOf ys k) :: objs))
      (hQ : ∀ h', Fr h₀ L h' m → News h₀ L h' ((D, W.listOf ys k) :: (objs ++ news)) → (∀ p ∈ (D, W.listOf ys k) :: objs, ∀ q ∈ news, p.1 ≠ q.1) → Q (.ref D) { s' with heap := h' }) : CompOk h₀ L m news g C D Q s'
noncomputable def CompDone (h₀ : Heap) (L : Addr) (m : Str → Option Value) (news : List (Addr × Obj)) (g : Heap) (C D : Addr) (Q : Value → Shared → Prop) (r : Result) (s' : Shared) : Prop :=
  match r with
  | .ok _ => CompOk h₀ L m news g C D Q s'
  | .error _ => False
inductive CompIn (prog : Program) (w : World) (A : Around) (h₀ : Heap) (L : Addr) (m : Str → Option Value) (news : List (Addr × Obj)) (e : PySem.Expr) (scope : Scope) (cl : List (Str × Addr)) (env : Env) (Q : Value → Shared → Prop) (it : Value) (s₂ : Shared) : Prop
  | mk (I : Addr) (fp wr : List Addr) (n : Nat) (Pv : Nat → Value → Prop) (St : Nat → Heap → Prop) (hi : it = .ref I) (Wk : Walks prog w A I fp wr n Pv St) (hst : St 0 s₂.heap) (hfp : ∀ b ∈ fp, b < s₂.heap.objs.size) (hL : L ∉ wr) (hn : ∀ p ∈ news, p.1 ∉ wr) (hw : ∀ b ∈ wr, h₀.get? b = none)
      (F : Fr h₀ L s₂.heap m) (N : News h₀ L s₂.heap news)
      (hgo : ∀ g D C h₁ tk, D < C → s₂.heap.objs.size ≤ D → (∀ b o, s₂.heap.get? b = some o → b ∉ wr → g.get? b = some o) → (∀ b ∈ wr, g.get? b = none) → Fr g C h₁ (fun _ => none) → News g C h₁ [(D, W.listOf #[] 0)] → St 0 h₁ →
        codeAny (model prog w) A (.compLoop e 0 (.ref I) (.ref D) (compEnvC scope cl C env)) (CompDone h₀ L m news g C D Q) { s₂ with heap := h₁, toks := tk }) : CompIn prog w A h₀ L m news e scope cl env Q it s₂
theorem compTop {env : Env} {elt iter : PySem.Expr} {px : Pos} {ifs : List PySem.Expr} {rest : List Comprehension} {scope : Scope} {cl : List (Str × Addr)} {pos : Pos} {h₀ : Heap} {L : Addr} {m : Str → Option Value} {news : List (Addr × Obj)} {E Q : Value → Shared → Prop}
    (_F : Fr h₀ L s.heap m) (_N : News h₀ L s.heap news) (hclos : closureFor scope env = pure cl) (hcell : ∀ y ∈ scope.names, y.2 ≠ .cell) (hkind : scope.kind = .function) (hnames : ∀ y ∈ scope.names, y.2 = .local → scope.names.lookup y.1 = some .local)
    (h : wpAny (model prog w) A (eval iter env) (fun xv s₁ => wpAny (model prog w) A (pyIter xv) (fun it s₂ => CompIn prog w A h₀ L m news (.ListComp elt (⟨.Name x px, iter, ifs, 0⟩ :: rest) scope pos) scope cl env Q it s₂) E s₁) E s)
    (hs : ∀ x, foldedSetIterable iter env x = pure x := by intro _; rfl) :
    wpAny (model prog w) A (eval (.ListComp elt (⟨.Name x px, iter, ifs, 0⟩ :: rest) scope pos) env) Q E s := by
  rw [eval_ListComp]
  refine wpAny_comprehension_free (use := none) rfl hs hclos hkind hnames (wpAny_mono h (fun xv s₁ h₁ => wpAny_mono h₁ (fun it s₂ h₂ => ?_) fun _ _ e => e) fun _ _ e => e)
  obtain ⟨I, fp, wr, n, Pv, St, rfl, Wk, hst, hfp, hLw, hnw, hwr, F, N, hgo⟩ := h₂
  refine wpAny_newObj_type (wpAny_newFunctionEnv hcell (by intro y hy; simp at hy) (fun h₁ hns₁ hsb₁ => ?_) hkind)
  dsimp only at hns₁ hsb₁ ⊢
  generalize hH2 : s₂.heap.push { cls := .type "list", dict := none, data := .seq ([] : List Value).toArray } = H2 at hns₁ hsb₁ ⊢
  have hC : H2.objs.size = s₂.heap.objs.size + 1 := by rw [← hH2, Heap.size_push]
  have below : ∀ b, b < s₂.heap.objs.size → b ≠ H2.objs.size ∧ b ≠ s₂.heap.objs.size := fun b hb => ⟨by rw [hC]; exact Nat.ne_of_lt (Nat.lt_succ_of_lt hb), Nat.ne_of_lt hb⟩
  have old : ∀ b o, s₂.heap.get? b = some o → h₁.get? b = some o := fun b o e => hsb₁.extBut b o (below b (Heap.lt_size e)).1 (Heap.get?_push_of_some _ (hH2 ▸ Heap.get?_push_of_some _ e))
  have oldH : ∀ b o, s₂.heap.get? b = some o → H2.get? b = some o := fun b o e => hH2 ▸ Heap.get?_push_of_some _ e
  have hD2 : H2.get? s₂.heap.objs.size = some (W.listOf #[] 0) := hH2 ▸ Heap.get?_push_size _ rfl
  have hDC : s₂.heap.objs.size ≠ H2.objs.size := by rw [hC]; exact Nat.ne_of_lt (Nat.lt_succ_self _)
  have keep : ∀ b o, H2.get? b = some o → h₁.get? b = some o := fun b o e => hsb₁.extBut b o (Nat.ne_of_lt (Heap.lt_size e)) (Heap.get?_push_of_some _ e)
  have hD1 : h₁.get? s₂.heap.objs.size = some (W.listOf #[] 0) := keep _ _ hD2
  let D := s₂.heap.objs.size
  let C := H2.objs.size
  let g := hideAll H2 (D :: wr)
  have Fg : Fr g C h₁ (fun _ => none) := ⟨hns₁, fun b o e => keep b o (of_hideAll _ e), Nat.le_of_eq (hideAll_size _ _)⟩
  have Ng : News g C h₁ [(D, W.listOf #[] 0)] := by
    intro p hp
    simp only [List.mem_singleton] at hp
    subst hp
    exact ⟨hD1, hDC, hideAll_none _ (.head _)⟩
  have hgk : ∀ b o, s₂.heap.get? b = some o → b ∉ wr → g.get? b = some o := fun b o e hb => hideAll_get _ (oldH b o e) fun hm => by
    rcases List.mem_cons.mp hm with q | q
    · exact (below b (Heap.lt_size e)).2 q
    · exact hb q
  have hst₁ : St 0 h₁ := Wk.frame _ _ _ hst fun b _ o e => old b o e
  have fin : ∀ r s', CompDone h₀ L m news g C D Q r s' → compPost (model prog w) A E none Q (.ref D) C r s' := by
    intro r s' hd
    cases r with
    | error e => exact hd.elim
    | ok f =>
      obtain ⟨m', ys, k, objs, F', N', hQ⟩ := hd
      refine ⟨m', F'.ns, fun h' hs' => ?_⟩
      have kp : ∀ b o, b ≠ C → s'.heap.get? b = some o → h'.get? b = some o := fun b o hb e => (hs'.2 b hb).trans e
      obtain ⟨oL, es, ep, hL, rL⟩ := F.ns
      have hLg : g.get? L = some oL := hgk L oL hL hLw
      have hgC : ∀ b o, g.get? b = some o → b ≠ C := fun b o e q => by
        have := Heap.lt_size e
        rw [q] at this
        exact absurd this (Nat.not_lt.mpr (Nat.le_of_eq (hideAll_size _ _)))
      have hgn : ∀ b o, s₂.heap.get? b = some o → b ∉ wr → h'.get? b = some o := fun b o e hb => kp b o (hgC b o (hgk b o e hb)) (F'.keep b o (hgk b o e hb))
      have hold : ∀ b o, h₀.get? b = some o → h'.get? b = some o := fun b o e => hgn b o (F.keep b o e) fun hb => by rw [hwr b hb] at e; cases e
      have hsep : ∀ p ∈ (D, W.listOf ys k) :: objs, ∀ q ∈ news, p.1 ≠ q.1 := fun p hp q hq e => by
        have h1 := (N' p hp).2.2
        rw [e, hgk q.1 q.2 (N q hq).1 (hnw q hq)] at h1; cases h1
      refine hQ h' ⟨⟨oL, es, ep, hgn L oL hL hLw, rL⟩, hold, F.above⟩ (fun p hp => ?_) hsep
      rcases List.mem_append.mp (show p ∈ ((D, W.listOf ys k) :: objs) ++ news from hp) with q | q
      · refine ⟨kp _ _ (N' p q).2.1 (N' p q).1, fun e => ?_, ?_⟩
        · have h1 := (N' p q).2.2
          rw [e, hLg] at h1; cases h1
        · cases z : h₀.get? p.1 with
          | none => rfl
          | some o =>
            have h1 := (N' p q).2.2
            rw [hgk p.1 o (F.keep _ _ z) (fun hb => by rw [hwr _ hb] at z; cases z)] at h1; cases h1
      · exact ⟨hgn _ _ (N p q).1 (hnw p q), (N p q).2⟩
  have loop : ∀ s₃ : Shared, s₃ = { s₂ with heap := h₁, toks := s₂.toks + ([] : List (Str × Value)).length } →
      codeAny (model prog w) A (.compLoop (.ListComp elt (⟨.Name x px, iter, ifs, 0⟩ :: rest) scope pos) 0 (.ref I) (.ref D) (compEnvC scope cl C env)) (compPost (model prog w) A E none Q (.ref D) C) s₃ := by
    rintro s₃ rfl
    exact codeAny_mono (hgo g D C h₁ _ (Nat.lt_of_le_of_ne (by show s₂.heap.objs.size ≤ H2.objs.size; rw [hC]; exact Nat.le_succ _) hDC) (Nat.le_refl _) hgk (fun b hb => hideAll_none _ (.tail _ hb)) Fg Ng hst₁) fin
  exact codeAny_compStart_list (loop _ rfl) (Wk.self 0 _ _ _ hst₁ (loop _ rfl))

theorem turn1 (elt iter : PySem.Expr) (x : Str) (px : Pos) (scope : Scope) (pos : Pos) (it acc : Value) (env : Env) :
    compTurn (.ListComp elt [⟨.Name x px, iter, [], 0⟩] scope pos) 0 it acc env = (standAt iter.pos >>= fun _ => pyNext it >>= fun r => match r with
      | none => pure (.done .next)
      | some v => letOwnedTupleGo (.Name x px) it v >>= fun _ => assign (.Name x px) env v >>= fun _ =>
        ((eval elt env >>= fun y => call (.builtin "list.append") [acc, y] >>= fun _ => pure ()) >>= fun _ => again (.compLoop (.ListComp elt [⟨.Name x px, iter, [], 0⟩] scope pos) 0 it acc env))) := rfl
theorem turn1t (elt iter c : PySem.Expr) (x : Str) (px : Pos) (scope : Scope) (pos : Pos) (it acc : Value) (env : Env) :
    compTurn (.ListComp elt [⟨.Name x px, iter, [c], 0⟩] scope pos) 0 it acc env = (standAt iter.pos >>= fun _ => pyNext it >>= fun r => match r with
      | none => pure (.done .next)
      | some v => letOwnedTupleGo (.Name x px) it v >>= fun _ => assign (.Name x px) env v >>= fun _ =>
        ((forIn [c] true fun c r => if r = true then do let ok ← isTrue c env (eval c env); pure (ForInStep.yield ok) else pure (ForInStep.yield r)) >>= fun ok => if ok = true then ((eval elt env >>= fun y => call (.builtin "list.append") [acc, y] >>= fun _ => pure ()) >>= fun _ => again (.compLoop (.ListComp elt [⟨.Name x px, iter, [c], 0⟩] scope pos) 0 it acc env))
          else again (.compLoop (.ListComp elt [⟨.Name x px, iter, [c], 0⟩] scope pos) 0 it acc env))) := rfl
theorem turn2a (elt i0 i1 : PySem.Expr) (x y : Str) (px py : Pos) (scope : Scope) (pos : Pos) (it acc : Value) (env : Env) :
    compTurn (.ListComp elt [⟨.Name x px, i0, [], 0⟩, ⟨.Name y py, i1, [], 0⟩] scope pos) 0 it acc env = (standAt i0.pos >>= fun _ => pyNext it >>= fun r => match r with
      | none => pure (.done .next)
      | some v => letOwnedTupleGo (.Name x px) it v >>= fun _ => assign (.Name x px) env v >>= fun _ =>
        (eval i1 env >>= fun z => standAt i1.pos >>= fun _ => foldedSetIterable i1 env z >>= fun z => holding [z] (pyIter z) >>= fun it' => runOwn (.compStart (.ListComp elt [⟨.Name x px, i0, [], 0⟩, ⟨.Name y py, i1, [], 0⟩] scope pos) 1 it' acc env) env >>= fun _ =>
          again (.compLoop (.ListComp elt [⟨.Name x px, i0, [], 0⟩, ⟨.Name y py, i1, [], 0⟩] scope pos) 0 it acc env))) := rfl
theorem turn2b (elt i0 i1 : PySem.Expr) (x y : Str) (px py : Pos) (scope : Scope) (pos : Pos) (it acc : Value) (env : Env) :
    compTurn (.ListComp elt [⟨.Name x px, i0, [], 0⟩, ⟨.Name y py, i1, [], 0⟩] scope pos) 1 it acc env = (standAt i1.pos >>= fun _ => pyNext it >>= fun r => match r with
      | none => pure (.done .next)
      | some v => letOwnedTupleGo (.Name y py) it v >>= fun _ => assign (.Name y py) env v >>= fun _ =>
        ((eval elt env >>= fun y => call (.builtin "list.append") [acc, y] >>= fun _ => pure ()) >>= fun _ => again (.compLoop (.ListComp elt [⟨.Name x px, i0, [], 0⟩, ⟨.Name y py, i1, [], 0⟩] scope pos) 1 it acc env))) := rfl
end
end Mine
end

-- part G4
section
open PySem PySem.W PyProof.Rows PySem.Calls
namespace Mine
theorem off_G4 : True := by
  w_top off
  first | (walk1; done) | trivial
section
variable {prog : Program} {w : World} {A : Around} {s : Shared} {env : Env} {g h₀ : Heap} {L : Addr} {m : Str → Option Value} {news : List (Addr × Obj)} {Q E : Value → Shared → Prop} {e : PySem.Expr} {scope : Scope} {cl : List (Str × Addr)}
/-- what is known where a comprehension's loop begins -/
structure CIn (h₀ : Heap) (news : List (Addr × Obj)) (sh : Heap) (wr : List Addr) (g : Heap) (D C : Addr) (h₁ : Heap) : Prop where
  F : Fr g C h₁ (fun _ => none)
  N : News g C h₁ [(D, W.listOf #[] 0)]
  dw : D ∉ wr
  cw : C ∉ wr
  cd : D < C
  gw : ∀ b ∈ wr, g.get? b = none
  old : ∀ b o, h₀.get? b = some o → g.get? b = some o
  own : ∀ p ∈ news, g.get? p.1 = some p.2
  all : ∀ b o, sh.get? b = some o → g.get? b = some o
  lt : ∀ b o, sh.get? b = some o → b < D

theorem compIn_range {r : Addr} {a b st : Int} {t₀ u₀ v₀ : Tok} {n : Nat} (hr : IsRange s.heap r a b st t₀ u₀ v₀) (hsmall : Builtin.Range.small a b st = true) (hn : Builtin.Range.rangeSize a b st = (n : Int))
    (hh : A.handled = none) (F : Fr h₀ L s.heap m) (N : News h₀ L s.heap news)
    (h : ∀ g D C h₁ tk I St, Walks prog w A I [I] [I] n (fun i v => ∃ t, v = .int (a + i * st) t) St → St 0 h₁ → CIn h₀ news s.heap [I] g D C h₁ →
      codeAny (model prog w) A (.compLoop e 0 (.ref I) (.ref D) (compEnvC scope cl C env)) (CompDone h₀ L m news g C D Q) { s with heap := h₁, toks := tk }) :
    wpAny (model prog w) A (pyIter (.ref r)) (fun it s₂ => CompIn prog w A h₀ L m news e scope cl env Q it s₂) E s := by
  refine wpAny_pyIter_range hr hsmall ?_
  have hst : IsRangeIter (s.heap.push { cls := .type "range_iterator", data := .fields #[rawInt a, rawInt (Builtin.Range.rangeSize a b st), rawInt st] }) s.heap.objs.size (a + ((0 : Nat) : Int) * st) ((n : Int) - ((0 : Nat) : Int)) st := by
    rw [hn]; simpa using Heap.get?_push_size _ rfl
  refine ⟨_, _, _, n, _, _, rfl, Walks.range hh s.heap.objs.size a st n, hst, ?_, ?_, ?_, ?_, F.push _, (fun p hp => ⟨Heap.get?_push_of_some _ (N p hp).1, (N p hp).2⟩), ?_⟩
  · intro b hb; rw [List.mem_singleton.mp hb, Heap.size_push]; exact Nat.lt_succ_self _
  · intro hm; exact absurd F.ns.lt ((List.mem_singleton.mp hm) ▸ Nat.lt_irrefl _)
  · intro p hp hI; exact absurd (Heap.lt_size (N p hp).1) ((List.mem_singleton.mp hI) ▸ Nat.lt_irrefl _)
  · intro b hb; rw [List.mem_singleton.mp hb]; exact next_is_new F
  · intro g D C h₁ tk hDC hsz hgk hgw Fg Ng hst₁
    rw [Heap.size_push] at hsz
    have hID : s.heap.objs.size < D := hsz
    have all : ∀ b o, s.heap.get? b = some o → g.get? b = some o := fun b o e => hgk b o (Heap.get?_push_of_some _ e) fun hb => absurd (Heap.lt_size e) ((List.mem_singleton.mp hb) ▸ Nat.lt_irrefl _)
    exact h g D C h₁ tk _ _ (Walks.range hh s.heap.objs.size a st n) hst₁ ⟨Fg, Ng, fun hm => absurd hID ((List.mem_singleton.mp hm) ▸ Nat.lt_irrefl _), fun hm => absurd (Nat.lt_trans hID hDC) ((List.mem_singleton.mp hm) ▸ Nat.lt_irrefl _), hDC, hgw, fun b o e => all b o (F.keep b o e), fun p hp => all _ _ (N p hp).1, all, fun b o e => Nat.lt_trans (Heap.lt_size e) hID⟩
theorem compIn_list {l : Addr} {items : List Value} (hl : s.heap.IsList l items.toArray)
    (hh : A.handled = none) (F : Fr h₀ L s.heap m) (N : News h₀ L s.heap news)
    (h : ∀ g D C h₁ tk I St, Walks prog w A I [I, l] [I] items.length (fun i v => items[i]? = some v) St → St 0 h₁ → C ≠ l → CIn h₀ news s.heap [I] g D C h₁ →
      codeAny (model prog w) A (.compLoop e 0 (.ref I) (.ref D) (compEnvC scope cl C env)) (CompDone h₀ L m news g C D Q) { s with heap := h₁, toks := tk }) :
    wpAny (model prog w) A (pyIter (.ref l)) (fun it s₂ => CompIn prog w A h₀ L m news e scope cl env Q it s₂) E s := by
  obtain ⟨ol, hol, _⟩ := id hl
  have hne : l ≠ s.heap.objs.size := Nat.ne_of_lt (Heap.lt_size hol)
  refine wpAny_pyIter_list hl ?_
  have W := Walks.list (prog := prog) (w := w) hh s.heap.objs.size l hne items.toArray
  have eq : (fun (i : Nat) v => items.toArray[i]? = some v) = fun (i : Nat) v => items[i]? = some v := by funext i v; simp
  rw [List.size_toArray, eq] at W
  refine ⟨_, _, _, _, _, _, rfl, W, ⟨⟨_, Heap.get?_push_size _ rfl, rfl, rfl⟩, hl.at fun o e => Heap.get?_push_of_some _ e⟩, ?_, ?_, ?_, ?_, F.push _, (fun p hp => ⟨Heap.get?_push_of_some _ (N p hp).1, (N p hp).2⟩), ?_⟩
  · intro b hb
    rw [Heap.size_push]
    rcases List.mem_cons.mp hb with q | q
    · rw [q]; exact Nat.lt_succ_self _
    · rw [List.mem_singleton.mp q]; exact Nat.lt_succ_of_lt (Heap.lt_size hol)
  · intro hm; exact absurd F.ns.lt ((List.mem_singleton.mp hm) ▸ Nat.lt_irrefl _)
  · intro p hp hI; exact absurd (Heap.lt_size (N p hp).1) ((List.mem_singleton.mp hI) ▸ Nat.lt_irrefl _)
  · intro b hb; rw [List.mem_singleton.mp hb]; exact next_is_new F
  · intro g D C h₁ tk hDC hsz hgk hgw Fg Ng hst₁
    rw [Heap.size_push] at hsz
    have hID : s.heap.objs.size < D := hsz
    have all : ∀ b o, s.heap.get? b = some o → g.get? b = some o := fun b o e => hgk b o (Heap.get?_push_of_some _ e) fun hb => absurd (Heap.lt_size e) ((List.mem_singleton.mp hb) ▸ Nat.lt_irrefl _)
    exact h g D C h₁ tk _ _ W hst₁ (Nat.ne_of_gt (Nat.lt_trans (Heap.lt_size hol) (Nat.lt_trans hID hDC))) ⟨Fg, Ng, fun hm => absurd hID ((List.mem_singleton.mp hm) ▸ Nat.lt_irrefl _), fun hm => absurd (Nat.lt_trans hID hDC) ((List.mem_singleton.mp hm) ▸ Nat.lt_irrefl _), hDC, hgw, fun b o e => all b o (F.keep b o e), fun p hp => all _ _ (N p hp).1, all, fun b o e => Nat.lt_trans (Heap.lt_size e) hID⟩

theorem body1 {elt : PySem.Expr} {acc : Value} {c : Code} {End : Shared → Prop} {E : Value → Shared → Prop}
    (h : wpAny (model prog w) A (eval elt env) (fun y s' => wpAny (model prog w) A (call (.builtin "list.append") [acc, y]) (fun _ s'' => End s'') E s') E s) :
    wpAny (model prog w) A ((eval elt env >>= fun y => call (.builtin "list.append") [acc, y] >>= fun _ => pure ()) >>= fun _ => again c) (fun fin s₂ => fin = .again c ∧ End s₂) E s :=
  wpAny_bind (wpAny_bind (wpAny_mono h (fun _ _ q => wpAny_bind (wpAny_mono q (fun _ _ z => wpAny_pure (wpAny_pure ⟨rfl, z⟩)) fun _ _ z => z)) fun _ _ z => z))
theorem body1t {elt t : PySem.Expr} {acc : Value} {c : Code} {End : Shared → Prop} {E : Value → Shared → Prop}
    (h : wpAny (model prog w) A (isTrue t env (eval t env)) (fun ok s₁ => if ok = true then wpAny (model prog w) A (eval elt env) (fun y s' => wpAny (model prog w) A (call (.builtin "list.append") [acc, y]) (fun _ s'' => End s'') E s') E s₁ else End s₁) E s) :
    wpAny (model prog w) A ((forIn [t] true fun c r => if r = true then do let ok ← isTrue c env (eval c env); pure (ForInStep.yield ok) else pure (ForInStep.yield r)) >>= fun ok => if ok = true then ((eval elt env >>= fun y => call (.builtin "list.append") [acc, y] >>= fun _ => pure ()) >>= fun _ => again c) else again c) (fun fin s₂ => fin = .again c ∧ End s₂) E s := by
  refine wpAny_bind (wpAny_tests_one (wpAny_mono h (fun ok s₁ q => ?_) fun _ _ z => z))
  cases ok with
  | false => exact wpAny_pure ⟨rfl, q⟩
  | true => exact body1 q

section
variable {M : Model} {C c : Addr} {x : Str} {pos : Pos} {v : Value} {o : Obj}
theorem ldC (F : Fr g C s.heap m) (hv : m x = some v) (h : Q v s) (hk : (compEnvC scope cl C env).scope.kind = .function) (hx : (compEnvC scope cl C env).kindOf x = some .local) (hd : (x == ("__debug__" : Str)) = false) :
    wpAny M A (eval (.Name x pos) (compEnvC scope cl C env)) Q E s := wpAny_Name (wpAny_loadName_local hk hx F.ns hv h) hd
theorem cellC (F : Fr g C s.heap m) (hc : (compEnvC scope cl C env).cells.lookup x = some c) (hg : g.get? c = some o) (hd : o.data = .cell (some v)) (h : Q v s) (hk : (compEnvC scope cl C env).scope.kind = .function) (hx : (compEnvC scope cl C env).kindOf x = some .cell) (hb : (x == ("__debug__" : Str)) = false) :
    wpAny M A (eval (.Name x pos) (compEnvC scope cl C env)) Q E s := wpAny_Name (wpAny_loadName_cell hk hx hc ⟨o, F.keep _ _ hg, hd⟩ h) hb
theorem globC {K : Frag} {p : Program} {loose : List Str} {mean : ExcName → Option Value} {mg mb : Str → Option Value} (F : Fr g C s.heap m) (X : K.In g) (T : Top p loose mean mg mb g) (e : nsIn K mainGlobals x = some none) (hv : bootBuiltins x = some v) (hn : x ≠ "__name__") (h : Q v s)
    (hgl : env.globals = mainGlobals) (hbl : env.builtins = builtinsNs)
    (hk : (compEnvC scope cl C env).scope.kind = .function) (hx : (compEnvC scope cl C env).kindOf x = some .globalImplicit) (hd : (x == ("__debug__" : Str)) = false) :
    wpAny M A (eval (.Name x pos) (compEnvC scope cl C env)) Q E s :=
  Name_function_global hk hx (loadGlobal_builtin (env := compEnvC scope cl C env) (by show s.heap.Ns env.globals mg; rw [hgl]; exact T.g.keeps F.keep) (mg_none_of X T.g e) (by show s.heap.Ns env.builtins mb; rw [hbl]; exact T.b.keeps F.keep) ((T.builtins x hn).trans hv) h) hd
end

theorem start2b {R : Result → Shared → Prop} {elt i0 i1 : PySem.Expr} {x y : Str} {px py pos : Pos} {scope : Scope} {it acc : Value} {env : Env}
    (h0 : codeAny (model prog w) A (.compLoop (.ListComp elt [⟨.Name x px, i0, [], 0⟩, ⟨.Name y py, i1, [], 0⟩] scope pos) 1 it acc env) R s)
    (h : wpAny (model prog w) A (pyIter it) (fun it' s' => codeAny (model prog w) A (.compLoop (.ListComp elt [⟨.Name x px, i0, [], 0⟩, ⟨.Name y py, i1, [], 0⟩] scope pos) 1 it' acc env) R s') (fun _ _ => False) s) :
    codeAny (model prog w) A (.compStart (.ListComp elt [⟨.Name x px, i0, [], 0⟩, ⟨.Name y py, i1, [], 0⟩] scope pos) 1 it acc env) R s := by
  refine codeAny_of_tree ?_
  show wpAny _ _ ((compStart (.ListComp elt [⟨.Name x px, i0, [], 0⟩, ⟨.Name y py, i1, [], 0⟩] scope pos) 1 it acc env).onRaise (fun x => do noteFrame x env; standAt theWindowsPlace)) _ _ s
  refine wpAny_notedAt ?_
  unfold compStart
  show wpAny _ _ (ask >>= _) _ _ s
  refine wpAny_bind (wpAny_askSetting (wpAny_ite ?_))
  split
  · first
      | exact wpAny_bind (wpAny_pure (wpAny_pure (And.intro rfl h0)))
      | exact wpAny_pure (And.intro rfl h0)
  · refine wpAny_bind (wpAny_rule ?_)
    show wpAny _ _ (standAt i1.pos >>= _) _ _ s
    exact wpAny_bind (wpAny_standAt (wpAny_bind (wpAny_mono h (fun it' s' h' => wpAny_pure (And.intro rfl h')) fun _ _ x => x.elim)))
theorem body2a {elt i0 i1 : PySem.Expr} {x y : Str} {px py pos : Pos} {scope : Scope} {acc : Value} {env : Env} {End : Shared → Prop} {c : Code}
    (hs : ∀ x, foldedSetIterable i1 env x = pure x)
    (h : wpAny (model prog w) A (eval i1 env) (fun z s1 => wpAny (model prog w) A (pyIter z) (fun it' s2 => codeAny (model prog w) A (.compStart (.ListComp elt [⟨.Name x px, i0, [], 0⟩, ⟨.Name y py, i1, [], 0⟩] scope pos) 1 it' acc env)
      (fun r s' => match r with | .ok _ => End s' | .error _ => False) s2) (fun _ _ => False) s1) (fun _ _ => False) s) :
    wpAny (model prog w) A (eval i1 env >>= fun z => standAt i1.pos >>= fun _ => foldedSetIterable i1 env z >>= fun z => holding [z] (pyIter z) >>= fun it' => runOwn (.compStart (.ListComp elt [⟨.Name x px, i0, [], 0⟩, ⟨.Name y py, i1, [], 0⟩] scope pos) 1 it' acc env) env >>= fun _ =>
          again c) (fun fin s₂ => fin = .again c ∧ End s₂) (fun _ _ => False) s := by
  refine wpAny_bind (wpAny_mono h (fun z s1 h1 => wpAny_bind (wpAny_standAt (wpAny_bind (wpAny_of_eq (hs z) (wpAny_bind (wpAny_holding (wpAny_mono h1 (fun it' s2 h2 => wpAny_bind (wpAny_runOwn (codeAny_mono h2 fun r s' q => ?_))) fun _ _ z => z))))))) fun _ _ z => z)
  cases r with
  | ok f => exact wpAny_pure ⟨rfl, q⟩
  | error e => exact q.elim

theorem inner_range {R : Result → Shared → Prop} {elt i0 i1 : PySem.Expr} {x y : Str} {px py pos : Pos} {scope : Scope} {acc : Value} {cenv : Env} {C r : Addr} {a b st : Int} {t₀ u₀ v₀ : Tok} {n : Nat}
    (hr : IsRange s.heap r a b st t₀ u₀ v₀) (hsmall : Builtin.Range.small a b st = true) (hn : Builtin.Range.rangeSize a b st = (n : Int)) (hh : A.handled = none) (F : Fr g C s.heap m) (N : News g C s.heap news)
    (h : ∀ I St h₁, Walks prog w A I [I] [I] n (fun i v => ∃ t, v = .int (a + i * st) t) St → St 0 h₁ → Fr g C h₁ m → News g C h₁ news → C ∉ [I] → (∀ p ∈ news, p.1 ∉ [I]) → (∀ b ∈ [I], g.get? b = none) →
      codeAny (model prog w) A (.compLoop (.ListComp elt [⟨.Name x px, i0, [], 0⟩, ⟨.Name y py, i1, [], 0⟩] scope pos) 1 (.ref I) acc cenv) R { s with heap := h₁ }) :
    wpAny (model prog w) A (pyIter (.ref r)) (fun it' s2 => codeAny (model prog w) A (.compStart (.ListComp elt [⟨.Name x px, i0, [], 0⟩, ⟨.Name y py, i1, [], 0⟩] scope pos) 1 it' acc cenv) R s2) (fun _ _ => False) s := by
  refine wpAny_pyIter_range hr hsmall ?_
  have hst : IsRangeIter (s.heap.push { cls := .type "range_iterator", data := .fields #[rawInt a, rawInt (Builtin.Range.rangeSize a b st), rawInt st] }) s.heap.objs.size (a + ((0 : Nat) : Int) * st) ((n : Int) - ((0 : Nat) : Int)) st := by
    rw [hn]; simpa using Heap.get?_push_size _ rfl
  have Wk := Walks.range (prog := prog) (w := w) hh s.heap.objs.size a st n
  have go := h _ _ _ Wk hst (F.push _) (fun p hp => ⟨Heap.get?_push_of_some _ (N p hp).1, (N p hp).2⟩) (fun hm => absurd F.ns.lt ((List.mem_singleton.mp hm) ▸ Nat.lt_irrefl _))
    (fun p hp hI => absurd (Heap.lt_size (N p hp).1) ((List.mem_singleton.mp hI) ▸ Nat.lt_irrefl _)) (fun b hb => by rw [List.mem_singleton.mp hb]; exact next_is_new F)
  exact start2b go (Wk.self 0 _ _ _ hst go)
theorem inner_tuple {R : Result → Shared → Prop} {elt i0 i1 : PySem.Expr} {x y : Str} {px py pos : Pos} {scope : Scope} {acc : Value} {cenv : Env} {C l : Addr} {items : List Value}
    (hl : s.heap.IsTuple l items.toArray) (hlC : C ≠ l) (hh : A.handled = none) (F : Fr g C s.heap m) (N : News g C s.heap news)
    (h : ∀ I St h₁, Walks prog w A I [I, l] [I] items.length (fun i v => items[i]? = some v) St → St 0 h₁ → Fr g C h₁ m → News g C h₁ news → C ∉ [I, l] → (∀ p ∈ news, p.1 ∉ [I]) → (∀ b ∈ [I], g.get? b = none) →
      codeAny (model prog w) A (.compLoop (.ListComp elt [⟨.Name x px, i0, [], 0⟩, ⟨.Name y py, i1, [], 0⟩] scope pos) 1 (.ref I) acc cenv) R { s with heap := h₁ }) :
    wpAny (model prog w) A (pyIter (.ref l)) (fun it' s2 => codeAny (model prog w) A (.compStart (.ListComp elt [⟨.Name x px, i0, [], 0⟩, ⟨.Name y py, i1, [], 0⟩] scope pos) 1 it' acc cenv) R s2) (fun _ _ => False) s := by
  obtain ⟨ol, hol, _⟩ := id hl
  have hne : l ≠ s.heap.objs.size := Nat.ne_of_lt (Heap.lt_size hol)
  refine wpAny_pyIter_tuple hl ?_
  have Wk := Walks.tuple (prog := prog) (w := w) hh s.heap.objs.size l hne items.toArray
  have eq : (fun (i : Nat) v => items.toArray[i]? = some v) = fun (i : Nat) v => items[i]? = some v := by funext i v; simp
  rw [List.size_toArray, eq] at Wk
  have hst : (s.heap.push { cls := .type "tuple_iterator", data := .fields #[.ref l, rawInt 0] }).IsTupleIter s.heap.objs.size l 0 ∧ (s.heap.push { cls := .type "tuple_iterator", data := .fields #[.ref l, rawInt 0] }).IsTuple l items.toArray :=
    ⟨⟨_, Heap.get?_push_size _ rfl, rfl, rfl⟩, hl.at fun o e => Heap.get?_push_of_some _ e⟩
  have go := h _ _ _ Wk hst (F.push _) (fun p hp => ⟨Heap.get?_push_of_some _ (N p hp).1, (N p hp).2⟩) (fun hm => (List.mem_cons.mp hm).elim (fun q => absurd F.ns.lt (q ▸ Nat.lt_irrefl _)) fun q => hlC (List.mem_singleton.mp q))
    (fun p hp hI => absurd (Heap.lt_size (N p hp).1) ((List.mem_singleton.mp hI) ▸ Nat.lt_irrefl _)) (fun b hb => by rw [List.mem_singleton.mp hb]; exact next_is_new F)
  exact start2b go (Wk.self 0 _ _ _ hst go)
end
end Mine
end

local macro_rules | `(tactic| walk_at "mine name") => `(tactic| refine Mine.ldC (by assumption) (by with_unfolding_all rfl) ?_ (by with_unfolding_all rfl) (by with_unfolding_all rfl) (by decide +kernel))
local macro_rules | `(tactic| walk_at "mine name") => `(tactic| refine Mine.cellC (by assumption) (by with_unfolding_all rfl) (by assumption) (by assumption) ?_ (by with_unfolding_all rfl) (by with_unfolding_all rfl) (by decide +kernel))
local macro_rules | `(tactic| walk_at "mine name") => `(tactic| refine Mine.globC (by assumption) (by assumption) (by assumption) (by k_is) (by boot_by_name) (by decide) ?_ (by with_unfolding_all rfl) (by with_unfolding_all rfl) (by with_unfolding_all rfl) (by with_unfolding_all rfl) (by decide +kernel))
local macro_rules | `(tactic| walk_at "eval Name") => `(tactic| ((with_reducible show wpAny _ _ (eval _ (compEnvC _ _ _ _)) _ _ _); walk_at "mine name"))

-- part L1
section
open PySem PySem.W PyProof.Rows
namespace Mine
theorem off_L1 : True := by
  w_top off
  first | (walk1; done) | trivial
theorem fill_L1 : PySem.Challenge.rw_oh0062_01 = PySem.Challenge.rw_oh0062_01 ∧ hd.heap_1 = hd.heap_1 := by k_fill; exact ⟨rfl, rfl⟩
local macro_rules | `(tactic| walk_at "eval ListComp") => `(tactic| refine stopMark ?_)
local macro_rules | `(tactic| walk_at "CompIn") => `(tactic| refine stopMark ?_)
local macro_rules | `(tactic| walk_at "pyIter ref") => `(tactic| ((with_reducible show wpAny _ _ _ (fun it s₂ => CompIn _ _ _ _ _ _ _ _ _ _ _ _ it s₂) _ _); refine stopMark ?_))
local macro_rules | `(tactic| walk_at "pyIter ref") => `(tactic| ((with_reducible show wpAny _ _ _ (fun it' s2 => codeAny _ _ (Code.compStart _ _ it' _ _) _ s2) _ _); refine stopMark ?_))
noncomputable def cellsAt (hs : List Int) (i : Nat) (k : Nat) : List Int := (List.range k).map fun (j : Nat) => 40 * (i : Int) + (-(i : Int) + (j : Int) * 2)
noncomputable def cellN (hs : List Int) (i : Nat) : Nat := (Builtin.Range.rangeSize (-(i : Int)) (hs.getD i 0) 2).toNat
noncomputable def cellsTo (hs : List Int) (k : Nat) : List Int := (List.range k).flatMap fun i => cellsAt hs (i + 1) (cellN hs (i + 1))
theorem cellsTo_succ (hs : List Int) (k : Nat) : cellsTo hs (k + 1) = cellsTo hs k ++ cellsAt hs (k + 1) (cellN hs (k + 1)) := by
  unfold cellsTo; rw [List.range_succ, List.flatMap_append]; simp
theorem cellsAt_succ (hs : List Int) (i k : Nat) : cellsAt hs i (k + 1) = cellsAt hs i k ++ [40 * (i : Int) + (-(i : Int) + (k : Int) * 2)] := by
  unfold cellsAt; rw [List.range_succ, List.map_append]; simp
theorem rangeSize_two (a b : Int) : Builtin.Range.rangeSize a b 2 = if a < b then (b - a - 1) / 2 + 1 else 0 := by
  unfold Builtin.Range.rangeSize
  simp only [show (2 : Int) > 0 by decide, if_true]
theorem range_lt {a b : Int} {l : Nat} : l < (Builtin.Range.rangeSize a b 2).toNat ↔ a + (l : Int) * 2 < b := by
  rw [rangeSize_two]
  split <;> omega
theorem fits {x : Int} (h : -10000000 ≤ x) (h' : x ≤ 10000000) : Builtin.Range.rangeFitsLong x = true := Bool.and_eq_true_iff.mpr ⟨decide_eq_true (Int.le_trans (by decide) h), decide_eq_true (Int.lt_of_le_of_lt h' (by decide))⟩
theorem small_two {a b : Int} (ha : -1000000 ≤ a) (ha' : a < 1000000) (hb : -1000000 ≤ b) (hb' : b < 1000000) : Builtin.Range.small a b 2 = true := by
  have hs : -10000000 ≤ Builtin.Range.rangeSize a b 2 ∧ Builtin.Range.rangeSize a b 2 ≤ 10000000 := by
    rw [rangeSize_two]; split <;> omega
  unfold Builtin.Range.small
  rw [fits (Int.le_trans (by decide) ha) (Int.le_trans (Int.le_of_lt ha') (by decide)), fits (Int.le_trans (by decide) hb) (Int.le_trans (Int.le_of_lt hb') (by decide)), fits (by decide) (by decide), fits hs.1 hs.2, if_pos (by decide), fits (by omega) (by omega), Bool.or_true]; rfl
noncomputable def cellsF (hs : List Int) : List Int := cellsTo hs (hs.length - 2)
theorem cells_call {w : World} {A₀ A : Around} {base h₀ : Heap} {env : Env} {outer : List Env} {L : Addr} {m : Str → Option Value} {news : List (Addr × Obj)} {mean mg mb} {s : Shared} {Q : Value → Shared → Prop} {E : Value → Shared → Prop}
    {lh : Addr} {vh : List Value} {hs : List Int}
    (G : Gd w A₀ base outer h₀ mean mg mb) (C : Cr A env outer L 1)
    (F : Fr h₀ L s.heap m) (N : News h₀ L s.heap news) (hlh : s.heap.IsList lh vh.toArray) (hIh : IntsAre vh hs) (hsz : hs.length ≤ 100) (hpos : 0 < hs.length) (hbd : ∀ x ∈ hs, -100 ≤ x ∧ x ≤ 100)
    (hQ : ∀ l vs n h' tk, IntsAre vs (cellsF hs) → Fr h₀ L h' m → News h₀ L h' ((l, W.listOf vs.toArray n) :: news) → (∀ p ∈ news, l ≠ p.1) → Q (.ref l) { s with heap := h', toks := tk }) :
    wpAny (model pw w) A (call (.ref 181) [.ref lh]) Q E s := by
  refine wpAny_call (enterPC [(("heights" : Str), Value.ref lh)] G C F N (by k_is) (by k_is) (BindsTo.of_eq rfl) rfl (by decide +kernel) rfl rfl rfl ?_)
  intro g L' h1 tk1 cells hg F1 N1 Y1 G1 C1
  subst hg
  have hh := C1.hh
  have hu64 := C1.u64
  obtain ⟨B1, X1, T1⟩ := G1
  have Y2 := CellsAre.one Y1
  obtain ⟨oc, rfl, hoc0⟩ := Y2
  have hoc : oc.data = .cell (some (.ref lh)) := hoc0
  clear hoc0
  clear C G F N Y1
  k_steps
  unfold Stop
  refine compTop (cl := [(("heights" : Str), L' + 1)]) F1 N1 rfl (by decide) rfl (by decide) ?_
  k_steps
  rename News _ _ _ _ => N3
  rename IsRange _ _ _ _ _ _ _ _ => R3
  rename Fr _ _ _ _ => F3
  unfold Stop
  refine compIn_range (n := hs.length - 2) R3 (small_one (by decide) (by decide) (by omega) (by omega)) (by rw [rangeSize_nat]; omega) hh F3 N3 ?_
  intro g D C h2 tk2 I St Wk hst K2
  have X2 : (hd.heap_1 w.params).In g := X1.keeps K2.old
  have T2 := T1.keeps K2.old
  have hcell : g.get? (L' + 1) = some oc := K2.own _ (.head _)
  have hlh2 : g.IsList lh vh.toArray := by
    obtain ⟨o, ho, r⟩ := hlh
    exact ⟨o, K2.old _ _ ho, r⟩
  clear B1 X1 T1 hlh
  refine compLoopLed (Q := fun _ _ => True) (fun c : List Value × Nat => [(D, W.listOf c.1.toArray c.2)]) [("x" : Str)] (fun i c => IntsAre c.1 (cellsTo hs i) ∧ c.1.length ≤ 1000 * i) ([], 0) (turn2a _ _ _ _ _ _ _ _ _ _ _ _) Wk K2.cw K2.gw ?_ hst K2.F K2.N ?_ rfl rfl ?_ ?_
  · intro p hp; simp only [List.mem_singleton] at hp; subst hp; exact K2.dw
  · exact ⟨.nil, Nat.zero_le _⟩
  · rintro i v ⟨vs, n⟩ u h tk own hi ⟨t, rfl⟩ ⟨hI, hsz4⟩ hnw hfp F5 N5
    simp only [List.cons_append, List.nil_append] at F5 N5 hI hnw
    dsimp only [compEnvC] at F5 N5
    have ei : (1 + (i : Int) * 1) = ((i + 1 : Nat) : Int) := by omega
    rw [ei] at F5
    refine body2a (by intro _; rfl) ?_
    k_steps
    rename News _ _ _ _ => N6
    rename IsRange _ _ _ _ _ _ _ _ => R6
    rename Fr _ _ _ _ => F6
    unfold Stop
    have e3 : (((i + 1 : Nat) : Int)).toNat = i + 1 := by omega
    rw [e3] at R6
    have hb6 : -100 ≤ hs.getD (i + 1) 0 ∧ hs.getD (i + 1) 0 ≤ 100 := by
      rw [List.getD_eq_getElem?_getD, List.getElem?_eq_getElem (by omega)]
      exact hbd _ (List.getElem_mem _)
    have hcn : cellN hs (i + 1) ≤ 250 := Nat.le_of_not_lt fun e => by
      have h1 := range_lt.mp e
      omega
    refine inner_range (n := cellN hs (i + 1)) R6 ?_ (rangeSize_toNat _ _ _) hh F6 N6 ?_
    · exact small_two (by omega) (by omega) (by omega) (by omega)
    intro J St' h7 Wj hst' F7 N7 hCJ hnJ hgJ
    refine compLoopLed (Q := fun _ _ => True) (fun c : List Value × Nat => (D, W.listOf c.1.toArray c.2) :: own) [] (fun k c => IntsAre c.1 (cellsTo hs i ++ cellsAt hs (i + 1) k) ∧ c.1.length ≤ 1000 * i + k) (vs, n) (turn2b _ _ _ _ _ _ _ _ _ _ _ _) Wj hCJ hgJ hnJ hst' F7 N7 ?_ rfl rfl ?_ ?_
    · exact ⟨by simpa [cellsAt] using hI, by simpa using hsz4⟩
    · rintro k v ⟨ws, n'⟩ u' h' tk' own' hk ⟨t', rfl⟩ ⟨hI', hsz5⟩ hnw' hfp' F8 N8
      dsimp only [cont_nil, List.cons_append, compEnvC] at F8 N8 hI' hnw'
      have hoff : ∀ p ∈ own ++ own', p.1 ≠ D := by
        intro p hp e
        rcases List.mem_append.mp hp with q | q
        · exact hnw _ (.head _) (by rw [← e]; exact hfp p q)
        · exact hnw' _ (.head _) (by rw [← e]; exact hfp' p q)
      have hszW : ws.length ≤ 1000000 := by dsimp only at hsz5 hsz4; omega
      refine body1 ?_
      k_steps
      rename Fr _ _ _ _ => F'
      rename News _ _ _ _ => N'
      refine TurnEnd.pushR (rest := own) F' N' (hnw' _ (.head _)) (fun p hp => hnw' p (.tail _ hp)) ?_ ⟨?_, ?_⟩
      · intro z h1 _; simp only [if_neg h1]
      · show IntsAre (ws ++ [_]) _
        rw [cellsAt_succ, ← List.append_assoc]
        exact hI'.append (.cons _ _ .nil)
      · simp only [List.length_append, List.length_cons, List.length_nil]; dsimp only at hsz5; omega
    · rintro ⟨ws, n'⟩ u' h' tk' ⟨hI', hsz5⟩ F8 N8
      refine TurnEnd.pass F8 N8 (hnw _ (.head _)) ?_ ⟨?_, ?_⟩
      · intro z h1 h2
        have h3 := notin1 h2
        simp only [if_neg h3, List.contains_nil, Bool.false_eq_true, if_false, if_neg h1, h2]
      · rw [cellsTo_succ]; exact hI'
      · dsimp only at hsz5 ⊢; omega
  · rintro ⟨vs, n⟩ u h tk ⟨hI, hsz4⟩ F5 N5
    refine ⟨_, _, _, [], F5, N5, fun h' F6 N6 hne => ?_⟩
    simp only [List.nil_append] at N6
    exact LeaveP.list F6 N6 fun F N hne => hQ _ _ _ _ _ hI F N hne

end Mine
end

-- part M1
section
open PySem PySem.W PyProof.Rows
namespace Mine
theorem off_M1 : True := by
  w_top off
  first | (walk1; done) | trivial
theorem fill_M1 : PySem.Challenge.rw_oh0062_01 = PySem.Challenge.rw_oh0062_01 ∧ hd.heap_1 = hd.heap_1 := by k_fill; exact ⟨rfl, rfl⟩
local macro_rules | `(tactic| walk_at "eval ListComp") => `(tactic| refine stopMark ?_)
local macro_rules | `(tactic| walk_at "CompIn") => `(tactic| refine stopMark ?_)
local macro_rules | `(tactic| walk_at "pyIter ref") => `(tactic| ((with_reducible show wpAny _ _ _ (fun it s₂ => CompIn _ _ _ _ _ _ _ _ _ _ _ _ it s₂) _ _); refine stopMark ?_))
local macro_rules | `(tactic| walk_at "pyIter ref") => `(tactic| ((with_reducible show wpAny _ _ _ (fun it' s2 => codeAny _ _ (Code.compStart _ _ it' _ _) _ s2) _ _); refine stopMark ?_))
local macro_rules | `(tactic| walk_at "eval Dict") => `(tactic| refine stopMark ?_)

/-- an expression that is a written int or text -/
noncomputable def EvI (prog : Program) (w : World) (A : Around) (env : Env) (e : PySem.Expr) (i : Int) : Prop := ∀ (s : Shared) (Q : Value → Shared → Prop), (∀ t tk, Q (.int i t) { s with toks := tk }) → wpAny (model prog w) A (eval e env) Q (fun _ _ => False) s
noncomputable def EvS (prog : Program) (w : World) (A : Around) (env : Env) (e : PySem.Expr) (x : Str) : Prop := ∀ (s : Shared) (Q : Value → Shared → Prop), (∀ t tk, Q (.str x t) { s with toks := tk }) → wpAny (model prog w) A (eval e env) Q (fun _ _ => False) s
theorem dict3 {prog : Program} {w : World} {A : Around} {s : Shared} {env : Env} {h₀ : Heap} {L : Addr} {m : Str → Option Value} {news : List (Addr × Obj)} {Q : Value → Shared → Prop} {k0 k1 k2 v0 v1 v2 : PySem.Expr} {pos : Pos} {i0 i1 i2 : Int} {x0 x1 x2 : Str}
    (F : Fr h₀ L s.heap m) (N : News h₀ L s.heap news) (hk0 : EvI prog w A env k0 i0) (hk1 : EvI prog w A env k1 i1) (hk2 : EvI prog w A env k2 i2) (hv0 : EvS prog w A env v0 x0) (hv1 : EvS prog w A env v1 x1) (hv2 : EvS prog w A env v2 x2)
    (hnd : [i0, i1, i2].Nodup)
    (h : ∀ d oo t0 t1 t2 h' tk, Fr h₀ L h' m → News h₀ L h' ((d, oo) :: news) → (∀ p ∈ news, p.1 < d) → PySem.Obj.IsDictOf (intKind prog w) oo [(i0, .str x0 t0), (i1, .str x1 t1), (i2, .str x2 t2)] → Q (.ref d) { s with heap := h', toks := tk }) :
    wpAny (model prog w) A (eval (.Dict [some k0, some k1, some k2] [v0, v1, v2] pos) env) Q (fun _ _ => False) s := by
  refine wpAny_Dict_pairs (knd := intKind prog w) (pairs := [(eval k0 env, do let x ← eval v0 env; standAt pos; pure x), (eval k1 env, do let x ← eval v1 env; standAt pos; pure x), (eval k2 env, do let x ← eval v2 env; standAt pos; pure x)]) rfl (by simp) (Nat.le_of_ble_eq_true rfl) ?_
  refine evalPairs_cons (hk0 _ _ fun a0 _ => wpAny_bind (hv0 _ _ fun b0 _ => wpAny_bind (wpAny_standAt (wpAny_pure ?_))))
  refine evalPairs_cons (hk1 _ _ fun a1 _ => wpAny_bind (hv1 _ _ fun b1 _ => wpAny_bind (wpAny_standAt (wpAny_pure ?_))))
  refine evalPairs_cons (hk2 _ _ fun a2 _ => wpAny_bind (hv2 _ _ fun b2 _ => wpAny_bind (wpAny_standAt (wpAny_pure ?_))))
  refine evalPairs_nil ?_
  have hd0 : (s.heap.push { cls := .type "dict", data := .dict #[] }).DictOf (intKind prog w) s.heap.objs.size [] := Heap.DictOf.new _
  refine display_done_int rfl hnd hd0 fun h' hm hs => ?_
  obtain ⟨oo, hoo, hd⟩ := PySem.Heap.dictOf_iff.mp hm
  have F1 := F.push { cls := .type "dict", data := .dict #[] }
  have N1 := N.push F { cls := .type "dict", data := .dict #[] }
  have hne : s.heap.objs.size ≠ L := Nat.ne_of_gt F.ns.lt
  refine h s.heap.objs.size oo b0 b1 b2 h' _ (F1.change hs hne (next_is_new F)) (fun p hp => ?_) (fun p hp => Heap.lt_size (N p hp).1) hd
  rcases List.mem_cons.mp hp with e | e
  · subst e; exact ⟨hoo, hne, next_is_new F⟩
  · exact ⟨(hs.2 p.1 (Nat.ne_of_lt (Heap.lt_size (N p e).1))).trans (Heap.get?_push_of_some _ (N p e).1), (N p e).2⟩
noncomputable def mixS (k : Int) : Str := if k = 0 then "()" else if k = 2 then "((" else "))"
theorem item_signs {prog : Program} {w : World} {A : Around} {E : Value → Shared → Prop} {s : Shared} {g : Heap} {C d : Addr} {m : Str → Option Value} {oo : Obj} {t0 t1 t2 u : Tok} {k : Int} {value slice : PySem.Expr} {Q : Value → Shared → Prop}
    (F : Fr g C s.heap m) (hg : g.get? d = some oo) (hd : Obj.IsDictOf (intKind prog w) oo [(0, .str "()" t0), (2, .str "((" t1), (-2, .str "))" t2)]) (hk : Stop (k = 0 ∨ k = 2 ∨ k = -2))
    (h : ∀ t, Q (.str (mixS k) t) { s with toks := s.toks + 1 })
    (hs : subscripted slice false (.ref d) (.int k u) = operate [.ref d, .int k u] (getItem (.ref d) (.int k u)) := by with_unfolding_all rfl) :
    wpAny (model prog w) A (subscriptTail value slice (.ref d) (.int k u)) Q E s := by
  have hm : s.heap.DictOf (intKind prog w) d [(0, .str "()" t0), (2, .str "((" t1), (-2, .str "))" t2)] := Heap.dictOf_iff.mpr ⟨oo, F.keep _ _ hg, hd⟩
  have hv : ∃ t, valueAt [((0 : Int), Value.str "()" t0), (2, .str "((" t1), (-2, .str "))" t2)] k = some (.str (mixS k) t) := by
    rcases hk with rfl | rfl | rfl
    · exact ⟨t0, rfl⟩
    · exact ⟨t1, rfl⟩
    · exact ⟨t2, rfl⟩
  obtain ⟨t, hv⟩ := hv
  exact tail_any hm.typeIs slot_dict_getitem.lookup (wpAny_getItem_of (intKind_is _ _ _ _) hm.mapOf hv (h t)) hs
local macro_rules | `(tactic| walk_at "subscriptTail") => `(tactic| ((with_reducible show wpAny _ _ (subscriptTail (Expr.Name (PySem.Str.ofString "signs") _) _ (Value.ref _) (Value.int _ _)) _ _ _); (refine item_signs (by assumption) (by assumption) (by assumption) ?_ ?_ (by with_unfolding_all rfl)); rotate_left; intro _))
noncomputable def mixK (bs as : List Int) (i : Nat) : Int := as.getD (i + 1) 0 - as.getD i 0 - bs.getD (i + 1) 0 + bs.getD i 0
noncomputable def mixTo (bs as : List Int) (k : Nat) : List Str := (List.range k).map fun i => mixS (mixK bs as i)
theorem mixTo_succ (bs as : List Int) (k : Nat) : mixTo bs as (k + 1) = mixTo bs as k ++ [mixS (mixK bs as k)] := by
  unfold mixTo; rw [List.range_succ, List.map_append]; simp
theorem strs_len {vs : List Value} {ss : List Str} (h : StrsAre vs ss) : vs.length = ss.length := by
  induction h with
  | nil => rfl
  | cons _ _ _ ih => simp [ih]
theorem mixed_call {w : World} {A₀ A : Around} {base h₀ : Heap} {env : Env} {outer : List Env} {L : Addr} {m : Str → Option Value} {news : List (Addr × Obj)} {mean mg mb} {s : Shared} {Q : Value → Shared → Prop} {E : Value → Shared → Prop}
    {lb la : Addr} {vb va : List Value} {bs as : List Int}
    (G : Gd w A₀ base outer h₀ mean mg mb) (C : Cr A env outer L 1)
    (F : Fr h₀ L s.heap m) (N : News h₀ L s.heap news) (hlb : s.heap.IsList lb vb.toArray) (hIb : IntsAre vb bs) (hla : s.heap.IsList la va.toArray) (hIa : IntsAre va as) (hlen : bs.length = as.length) (hsz : bs.length ≤ 100) (hpos : 0 < bs.length) (hmix : ∀ i, i + 1 < bs.length → mixK bs as i = 0 ∨ mixK bs as i = 2 ∨ mixK bs as i = -2)
    (hQ : ∀ t h' tk, Fr h₀ L h' m → News h₀ L h' news → Q (.str (Txt.join "" (mixTo bs as (bs.length - 1))) t) { s with heap := h', toks := tk }) :
    wpAny (model pw w) A (call (.ref 205) [.ref lb, .ref la]) Q E s := by
  refine wpAny_call (enterPC [(("below" : Str), Value.ref lb), (("above" : Str), Value.ref la)] G C F N (by k_is) (by k_is) (BindsTo.of_eq rfl) rfl (by decide +kernel) rfl rfl rfl ?_)
  intro g L' h1 tk1 cells hg F1 N1 Y1 G1 C1
  subst hg
  have hh := C1.hh
  have hu64 := C1.u64
  obtain ⟨B1, X1, T1⟩ := G1
  have Y2 := CellsAre.three Y1
  obtain ⟨oc, oc2, oc3, rfl, hoc0, hoc1, hoc2⟩ := Y2
  have c0 : oc.data = .cell none := hoc0
  have c1 : oc2.data = .cell (some (.ref la)) := hoc1
  have c2 : oc3.data = .cell (some (.ref lb)) := hoc2
  clear C G F N Y1 hoc0 hoc1 hoc2
  k_steps
  unfold Stop
  refine dict3 (i0 := 0) (i1 := 2) (i2 := -2) (x0 := "()") (x1 := "((") (x2 := "))") F1 N1 ?_ ?_ ?_ ?_ ?_ ?_ (by decide) ?_
  · intro s Q h; walk1; exact h _ _
  · intro s Q h; walk1; exact h _ _
  · intro s Q h; walk1; walk1; walk1; exact h _ _
  · intro s Q h; walk1; exact h _ _
  · intro s Q h; walk1; exact h _ _
  · intro s Q h; walk1; exact h _ _
  intro d oo t0 t1 t2 h2 tk2 F2 N2 hlt hdict
  have q1 : @LT.lt Nat _ (L' + 1 + 1 + 1) d := hlt _ (.head _)
  refine storeX_C (c := L' + 1 + 1 + 1) F2 N2 rfl (by k_updF) c0 ?_ rfl rfl
  intro h3 o' F3 N3 c3
  k_steps
  unfold Stop
  refine compTop (cl := [(("signs" : Str), L' + 1 + 1 + 1), ("below", L' + 1), ("above", L' + 1 + 1)]) F3 N3 rfl (by decide) rfl (by decide) ?_
  k_steps
  rename News _ _ _ _ => N4
  rename IsRange _ _ _ _ _ _ _ _ => R4
  rename Fr _ _ _ _ => F4
  unfold Stop
  refine compIn_range (n := bs.length - 1) R4 (small_one (by omega) (by omega) (by omega) (by omega)) (by rw [rangeSize_nat]; omega) hh F4 N4 ?_
  intro g D C h5 tk5 I St Wk hst K5
  have X5 : (hd.heap_1 w.params).In g := X1.keeps K5.old
  have T5 := T1.keeps K5.old
  have g1 : g.get? d = some oo := K5.own _ (.head _)
  have g2 : g.get? (L' + 1 + 1 + 1) = some o' := K5.own _ (.tail _ (.head _))
  have g3 : g.get? (L' + 1 + 1) = some oc2 := K5.own _ (.tail _ (.tail _ (.head _)))
  have g4 : g.get? (L' + 1) = some oc3 := K5.own _ (.tail _ (.tail _ (.tail _ (.head _))))
  have hlb5 : g.IsList lb vb.toArray := by
    obtain ⟨o, ho, r⟩ := hlb
    exact ⟨o, K5.old _ _ ho, r⟩
  have hla5 : g.IsList la va.toArray := by
    obtain ⟨o, ho, r⟩ := hla
    exact ⟨o, K5.old _ _ ho, r⟩
  refine compLoopLed (Q := fun _ _ => True) (fun c : List Value × Nat => [(D, W.listOf c.1.toArray c.2)]) [] (fun i c => StrsAre c.1 (mixTo bs as i)) ([], 0) (turn1 _ _ _ _ _ _ _ _ _) Wk K5.cw K5.gw ?_ hst K5.F K5.N ?_ rfl rfl ?_ ?_
  · intro p hp; simp only [List.mem_singleton] at hp; subst hp; exact K5.dw
  · exact .nil
  · rintro i v ⟨vs, n⟩ u h tk own hi ⟨t, rfl⟩ hI hnw hfp F6 N6
    dsimp only [cont_nil, List.cons_append, List.nil_append, compEnvC] at F6 N6 hI hnw
    have ei : (0 + (i : Int) * 1) = (i : Int) := by omega
    rw [ei] at F6
    have hoff : ∀ p ∈ own, p.1 ≠ D := fun p hp e => hnw _ (.head _) (by rw [← e]; exact hfp p hp)
    have hsz6 : vs.length ≤ 2000 := by rw [strs_len hI]; simp [mixTo]; omega
    refine body1 ?_
    have e1 : ((i : Int) + 1).toNat = i + 1 := by omega
    have e2 : ((i : Int)).toNat = i := by omega
    k_steps
    · rename Fr _ _ _ _ => F'
      rename News _ _ _ _ => N'
      simp only [e1, e2] at *
      refine TurnEnd.push F' N' (hnw _ (.head _)) ?_ ?_
      · intro z h1 _; simp only [if_neg h1]
      · show StrsAre (vs ++ [_]) (mixTo bs as (i + 1))
        rw [mixTo_succ]
        exact hI.append' (.cons _ _ .nil)
    · simp only [e1, e2]
      exact hmix i (by omega)
  · rintro ⟨vs, n⟩ u h tk hI F6 N6
    refine ⟨_, _, _, [], F6, N6, fun h' F7 N7 hne => ?_⟩
    simp only [List.nil_append] at N7
    have hsz6 : vs.length ≤ 2000 := by rw [strs_len hI]; simp [mixTo]; omega
    k_steps
    have hsum : ∀ k, ((mixTo bs as k).map (·.length)).sum ≤ 2 * k := by
      intro k
      induction k with
      | zero => simp [mixTo]
      | succ k ih =>
        rw [mixTo_succ, List.map_append, List.sum_append]
        have : (mixS (mixK bs as k)).length ≤ 2 := by unfold mixS; (repeat' split) <;> decide +kernel
        simp only [List.map_cons, List.map_nil, List.sum_cons, List.sum_nil]; omega
    refine join_listC (by is_list) hI (by decide +kernel) (by have := hsum (bs.length - 1); simp only [mixTo, List.length_map, List.length_range] at *; omega) ?_
    intro t' k'
    refine ⟨_, [], F7, News.nil, fun Fz Nz _ => hQ _ _ _ Fz Nz⟩

end Mine
end

-- part G5
section
open PySem PySem.W PyProof.Rows
namespace Mine
theorem off_G5 : True := by
  w_top off
  first | (walk1; done) | trivial
/-- the ground at the very bottom -/
structure Gb (w : World) (base : Heap) (mean : ExcName → Option Value) (mg mb : Str → Option Value) : Prop where
  X : (hd.heap_1 w.params).In base
  T : Top hd.view_1 [Str.ofString "_NodeInfo", Str.ofString "TopologicalSorter"] mean mg mb base
noncomputable abbrev frOf (l : List Env) : List Addr := l.filterMap (·.frame)

theorem frs_of {h base : Heap} {l : List Env} (D : KtsDicts (frOf l) h) (R : h.FunFrames base l) : ∃ frs, TI.Frs l frs ∧ ∀ p ∈ frs, h.get? p.1 = some p.2 ∧ base.get? p.1 = none := by
  induction l with
  | nil => exact ⟨[], trivial, fun p hp => nomatch hp⟩
  | cons env l ih =>
    obtain ⟨hk, ⟨L, o, hf, hn, ho, hd⟩, hr⟩ := R
    have e : frOf (env :: l) = L :: frOf l := by simp only [frOf, List.filterMap_cons, hf]
    obtain ⟨frs, h1, h2⟩ := ih (fun b hb => D b (by rw [e]; exact List.mem_cons_of_mem _ hb)) hr
    obtain ⟨o', es, n, ho', hd'⟩ := D L (by rw [e]; exact List.mem_cons_self)
    rw [ho] at ho'
    cases ho'
    refine ⟨(L, o) :: frs, ⟨hk, hf, ⟨es, n, hd'⟩, h1⟩, fun p hp => ?_⟩
    rcases List.mem_cons.mp hp with rfl | hp
    · exact ⟨ho, hn⟩
    · exact h2 p hp

theorem framesOut {A : Around} {base g h : Heap} {l : List Env} {L : Addr} {m : Str → Option Value} {led : List (Addr × Obj)} (B : Below A base l g) (D : KtsDicts (frOf l) g) (F : Fr g L h m) (N : News g L h led) :
    ∃ frs, TI.Frs l frs ∧ Fr (hideAll g (frOf l)) L h m ∧ News (hideAll g (frOf l)) L h (led ++ frs) ∧ base.StaysIn (hideAll g (frOf l)) ∧ (∀ p ∈ led, p.1 ∉ frOf l) ∧ (∀ q ∈ frs, g.get? q.1 = some q.2) := by
  obtain ⟨frs, h1, h2⟩ := frs_of D B.frames
  have e := h1.addrs
  refine ⟨frs, h1, ⟨F.ns, fun b o q => F.keep b o (of_hideAll _ q), by rw [hideAll_size]; exact F.above⟩, fun p hp => ?_, fun b o q => hideAll_get _ (B.stays b o q) fun hm => ?_, fun p hp hm => ?_, fun q hq => (h2 q hq).1⟩
  · rcases List.mem_append.mp hp with hp | hp
    · refine ⟨(N p hp).1, (N p hp).2.1, ?_⟩
      cases q : (hideAll g (frOf l)).get? p.1 with
      | none => rfl
      | some o => have := of_hideAll _ q; rw [(N p hp).2.2] at this; cases this
    · refine ⟨F.keep _ _ (h2 p hp).1, fun q => ?_, hideAll_none _ (by show p.1 ∈ frOf l; rw [frOf, e]; exact List.mem_map_of_mem hp)⟩
      have := (h2 p hp).1
      rw [q, kts_self F] at this; cases this
  · rw [(B.frames.mem hm).1] at q; cases q
  · obtain ⟨_, o, ho, _⟩ := B.frames.mem hm
    rw [(N p hp).2.2] at ho; cases ho

theorem framesIn {A : Around} {base g h : Heap} {l : List Env} {L : Addr} {m : Str → Option Value} {mine frs frs' : List (Addr × Obj)} (B : Below A base l g) (Fs : TI.Frs l frs) (hg : ∀ q ∈ frs, g.get? q.1 = some q.2) (SU : TI.SameUp frs frs')
    (F : Fr (hideAll g (frOf l)) L h m) (N : News (hideAll g (frOf l)) L h (mine ++ frs')) (hap : ∀ p ∈ mine, p.1 ∉ frOf l) :
    ∃ g', KtsTurn (frOf l) g g' ∧ Fr g' L h m ∧ News g' L h mine ∧ Below A base l g' := by
  have e := Fs.addrs
  obtain ⟨T, S⟩ := kts_turn_at (h := h) (fs := frOf l) (g := g)
    (fun b hb => by
      obtain ⟨_, o, ho, _⟩ := B.frames.mem hb
      exact ⟨o, ho⟩)
    (fun b o q nm => F.keep b o (hideAll_get _ q nm))
    (fun b o q hm => by
      have hm' : b ∈ frs.map (·.1) := by rw [← e]; exact hm
      obtain ⟨p, hp, rfl⟩ := List.mem_map.mp hm'
      obtain ⟨sl, hs⟩ := SU.back p hp
      have h3 := hg p hp
      rw [q] at h3
      cases h3
      exact ⟨sl, (N _ (List.mem_append_right _ hs)).1⟩)
  refine ⟨_, T, ⟨F.ns, S, by rw [T.size]; have := F.above; rw [hideAll_size] at this; exact this⟩, fun p hp => ?_, ⟨B.stack, fun b o q => T.other b o (B.stays b o q) (fun hm => by
    rw [(B.frames.mem hm).1] at q
    cases q), B.frames.of_keeps fun b o q _ => ?_⟩⟩
  · have h1 := N p (List.mem_append_left _ hp)
    refine ⟨h1.1, h1.2.1, T.none_ _ ?_⟩
    cases q : g.get? p.1 with
    | none => rfl
    | some o => have h2 := h1.2.2; rw [hideAll_get _ q (hap p hp)] at h2; cases h2
  · obtain ⟨sl, hs⟩ := T.up q
    exact ⟨_, hs, rfl⟩

/-- how a call ends that may have changed the slots of the frames below -/
inductive LeaveT (A₀ : Around) (base h₀ : Heap) (env : Env) (outer : List Env) (L : Addr) (m : Str → Option Value) (rest : List (Addr × Obj)) (g : Heap) (L' : Addr) (R : Value → Shared → Prop) (v : Value) (s' : Shared) : Prop
  | mk (g' : Heap) (m' : Str → Option Value) (mine : List (Addr × Obj)) (S : KtsTurn (frOf (env :: outer)) g g') (F : Fr g' L' s'.heap m') (N : News g' L' s'.heap mine)
      (k : ∀ h₀', KtsTurn (frOf outer) h₀ h₀' → (outer = [] → h₀' = h₀) → Below A₀ base outer h₀' → Fr h₀' L s'.heap m → News h₀' L s'.heap (mine ++ rest) → (∀ p ∈ mine, ∀ q ∈ rest, p.1 ≠ q.1) → R v s') :
      LeaveT A₀ base h₀ env outer L m rest g L' R v s'

section
variable {w : World} {A₀ A : Around} {base h₀ : Heap} {env : Env} {outer : List Env} {L : Addr} {m : Str → Option Value} {news : List (Addr × Obj)} {mean : ExcName → Option Value} {mg mb : Str → Option Value} {s : Shared} {Q E : Value → Shared → Prop}
  {name qual : Str} {params : Arguments} {body : List Stmt} {scope : Scope} {dV kV doc pm cdv ct oc : Value} {an od : Option Addr} {osl : Array (Option Value)} {f : Addr} {args : Args} {d : Nat}
theorem leaveT_back {take rest : List (Addr × Obj)} {L' : Addr} {v : Value} {s' : Shared} (B : Below A₀ base outer h₀) (F : Fr h₀ L s.heap m) (N : News h₀ L s.heap (take ++ rest)) (hsep : ∀ p ∈ take, ∀ q ∈ rest, p.1 ≠ q.1) (hfl : env.frame = some L)
    (q : LeaveT A₀ base h₀ env outer L m rest (hideAll s.heap (take.map (·.1))) L' Q v s') : Q v s' := by
  obtain ⟨g', m', mine, T, F', N', k⟩ := q
  have ef : frOf (env :: outer) = L :: frOf outer := by simp only [frOf, List.filterMap_cons, hfl]
  rw [ef] at T
  have nm : ∀ b o, h₀.get? b = some o → b ∉ take.map (·.1) := fun b o e q => by
    obtain ⟨p, hp, rfl⟩ := List.mem_map.mp q
    rw [(N p (List.mem_append_left _ hp)).2.2] at e; cases e
  have st : ∀ b o, h₀.get? b = some o → (hideAll s.heap (take.map (·.1))).get? b = some o := fun b o e => hideAll_get _ (F.keep b o e) (nm b o e)
  obtain ⟨oL, es, ep, hL, hLd, hLk, hLf⟩ := F.ns
  have nL : L ∉ take.map (·.1) := fun q => by
    obtain ⟨p, hp, e⟩ := List.mem_map.mp q
    exact (N p (List.mem_append_left _ hp)).2.1 e
  have hLg := hideAll_get (take.map (·.1)) hL nL
  obtain ⟨slL, hLg'⟩ := T.frame L oL hLg List.mem_cons_self
  obtain ⟨T0, S0⟩ := kts_turn_at (h := g') (fs := frOf outer) (g := h₀)
    (fun b hb => by
      obtain ⟨_, o, ho, _⟩ := B.frames.mem hb
      exact ⟨o, ho⟩)
    (fun b o e nm => T.other b o (st b o e) (fun hm => by
      rcases List.mem_cons.mp hm with z | z
      · rw [z, kts_self F] at e; cases e
      · exact nm z))
    (fun b o e hm => T.frame b o (st b o e) (List.mem_cons_of_mem _ hm))
  have hr : ∀ p ∈ rest, g'.get? p.1 = some p.2 := fun p hp => by
    have h1 := N p (List.mem_append_right _ hp)
    refine T.other _ _ (hideAll_get _ h1.1 fun hm => ?_) fun hm => ?_
    · obtain ⟨q, hq, e⟩ := List.mem_map.mp hm
      exact hsep q hq p hp e
    · rcases List.mem_cons.mp hm with z | z
      · exact h1.2.1 z
      · obtain ⟨_, o, ho, _⟩ := B.frames.mem z
        rw [h1.2.2] at ho; cases ho
  refine k _ T0 (fun e => by subst e; rfl) ⟨B.stack, fun b o q => T0.other b o (B.stays b o q) (fun hm => by
    rw [(B.frames.mem hm).1] at q
    cases q), B.frames.of_keeps fun b o q _ => ?_⟩ ⟨⟨_, es, ep, F'.keep _ _ hLg', hLd, hLk, hLf⟩, fun b o e => F'.keep _ _ (S0 b o e), by rw [T0.size]; exact F.above⟩ (fun p hp => ?_) fun p hp q hq e => ?_
  · obtain ⟨sl, hs⟩ := T0.up q
    exact ⟨_, hs, rfl⟩
  · rcases List.mem_append.mp hp with hp | hp
    · have h1 := N' p hp
      refine ⟨h1.1, fun e => ?_, ?_⟩
      · have h2 := h1.2.2
        rw [e, hLg'] at h2; cases h2
      · cases z : (ktsHeap g' (frOf outer) h₀).get? p.1 with
        | none => rfl
        | some o => have h2 := h1.2.2; rw [S0 _ _ z] at h2; cases h2
    · have h1 := N p (List.mem_append_right _ hp)
      exact ⟨F'.keep _ _ (hr p hp), h1.2.1, T0.none_ _ h1.2.2⟩
  · have h1 := (N' p hp).2.2
    rw [e, hr q hq] at h1; cases h1

theorem enterT (binds : List (Str × Value)) (take rest : List (Addr × Obj)) (G : Gd w A₀ base outer h₀ mean mg mb) (C : Cr A env outer L (d + 1)) (F : Fr h₀ L s.heap m) (N : News h₀ L s.heap (take ++ rest)) (hsep : ∀ p ∈ take, ∀ q ∈ rest, p.1 ≠ q.1) (D : KtsDicts (frOf outer) h₀)
    (ho : (hd.heap_1 w.params).lookup f = some ⟨oc, od, .func (fnOf name qual params body scope dV kV doc pm an cdv ct), osl⟩) (hcd : codeIn (hd.heap_1 w.params) cdv qual = true)
    (hbind : BindsTo s (fnOf name qual params body scope dV kV doc pm an cdv ct) args binds) (hloc : ∀ y ∈ binds, scope.names.lookup y.1 = some .local)
    (hco : scope.isCoroutine = false) (hgen : scope.isGenerator = false) (hk : scope.kind = .function) (hcell : ∀ x ∈ scope.names, x.2 ≠ .cell)
    (h : ∀ g L' h₁ tk, (∀ b o, s.heap.get? b = some o → b ∉ take.map (·.1) → g.get? b = some o) → Fr g L' h₁ (fun y => binds.reverse.lookup y) → News g L' h₁ take → (∀ p ∈ take, p.1 < L') → Gd w A base (env :: outer) g mean mg mb → KtsDicts (frOf (env :: outer)) g → Cr (A.deeper (envOf qual scope L' f cdv)) (envOf qual scope L' f cdv) (env :: outer) L' d →
      wpAny (model pw w) (A.deeper (envOf qual scope L' f cdv)) (execs body (envOf qual scope L' f cdv))
        (fun fl s' => LeaveT A₀ base h₀ env outer L m rest g L' Q (match fl with | .ret v => v | _ => .none) s') (fun _ _ => False) { s with heap := h₁, toks := tk }) :
    codeAny (model pw w) A (.call (.ref f) args) (fun r s' => match r with | .ok (.ret v) => Q v s' | .ok _ => False | .error e => E e s') s := by
  obtain ⟨B, X, T⟩ := G
  have Nt : News h₀ L s.heap take := fun p hp => N p (List.mem_append_left _ hp)
  obtain ⟨FG, BG, stG, _⟩ := groundX (A := A) (R := fun _ _ => True) B F Nt C.fr C.fl C.ki
  have DG : KtsDicts (frOf (env :: outer)) (hideAll s.heap (take.map fun (p : Addr × Obj) => p.1)) := fun b hb => by
    have ef : frOf (env :: outer) = L :: frOf outer := by simp only [frOf, List.filterMap_cons, C.fl]
    rw [ef] at hb
    rcases List.mem_cons.mp hb with rfl | hb
    · obtain ⟨oL, es, ep, hL, hLd, _⟩ := FG.ns
      exact ⟨oL, es, ep, hL, hLd⟩
    · obtain ⟨o, es, n, ho, hd⟩ := D b hb
      exact ⟨o, es, n, stG _ _ ho, hd⟩
  refine codeAny_call_def (fd := fnOf name qual params body scope dV kV doc pm an cdv ct) (body := body) (binds := binds) (by have := C.dp; omega) ((X.keeps F.keep) _ _ ho) rfl (T.nolimit.keeps F.keep) (codeRec_of (X.keeps F.keep) hcd) rfl hbind hcell hloc (fun h₁ hns hk₁ => ?_) hco hgen hk
  refine wpAny_mono (h (hideAll s.heap (take.map fun (p : Addr × Obj) => p.1)) s.heap.objs.size h₁ _ (fun b o e q => hideAll_get _ e q) ⟨hns, fun b o e => hk₁ b o (of_hideAll _ e), Nat.le_of_eq (hideAll_size _ _)⟩
    (fun p hp => ⟨hk₁ _ _ (Nt p hp).1, Nat.ne_of_lt (Heap.lt_size (Nt p hp).1), hideAll_none _ (List.mem_map_of_mem hp)⟩) (fun p hp => Heap.lt_size (Nt p hp).1) ⟨BG, X.keeps stG, T.keeps stG⟩ DG (C.deeper rfl hk)) (fun fl s' q => ?_) fun _ _ q => q.elim
  exact leaveT_back B F N hsep C.fl q
end
end Mine
end

-- part G6
section
open PySem PySem.W PyProof.Rows
namespace Mine
theorem off_G6 : True := by
  w_top off
  first | (walk1; done) | trivial
/-- a new exception, its fields -/
structure NewE (h h' : Heap) (e : Addr) (X : String) (vs : Array Value) : Prop where
  keeps : ∀ b o, h.get? b = some o → h'.get? b = some o
  new : h.get? e = none
  there : ∃ oe, h'.get? e = some oe ∧ oe.cls = .type X ∧ oe.data = .fields vs
  v1 : vs[1]? = some .none
theorem NewE.of {h h' : Heap} {e : Addr} {X : String} (x : Heap.NewExc h h' e X) : ∃ vs, NewE h h' e X vs ∧ vs[2]? = some .none := by
  obtain ⟨ob, tp, he, hc, hd⟩ := x.there
  exact ⟨_, ⟨x.keeps, x.new, ⟨ob, he, hc, hd⟩, rfl⟩, rfl⟩
/-- an exception in hand: its object, its trace -/
structure Hand (led : List (Addr × Obj)) (e T : Addr) (oe oT : Obj) (X : String) (fl : Value) (vs : Array Value) : Prop where
  cls : oe.cls = .type X
  d : oe.data = .fields vs
  v1 : vs[1]? = some (.ref T)
  ts : ∃ ts, oT.data = .fields ts ∧ ts[3]? = some fl
  ne : T ≠ e
  ap : ∀ p ∈ led, p.1 ≠ T ∧ p.1 ≠ e
theorem Hand.led {led led' : List (Addr × Obj)} {e T : Addr} {oe oT : Obj} {X : String} {fl : Value} {vs : Array Value} (H : Hand led e T oe oT X fl vs) (h : led'.map (·.1) = led.map (·.1)) : Hand led' e T oe oT X fl vs :=
  ⟨H.cls, H.d, H.v1, H.ts, H.ne, fun p hp => by
    have h1 : p.1 ∈ led'.map (·.1) := List.mem_map_of_mem hp
    rw [h] at h1
    obtain ⟨q, hq, e⟩ := List.mem_map.mp h1
    have := H.ap q hq
    rw [e] at this; exact this⟩
section
variable {w : World} {prog : Program} {A₀ A : Around} {E : Value → Shared → Prop} {s' : Shared} {hb h : Heap} {L a e T : Addr} {m : Str → Option Value} {name : Str} {scope : Scope} {cd : Value} {X : String} {l : List Env} {frs new led : List (Addr × Obj)} {vs : Array Value} {oe oT : Obj} {fl : Value}
theorem hand_note {Q : Unit → Shared → Prop} (hfr : A₀.frames = some l) (Fs : TI.Frs l frs) (hx : NewE h s'.heap e X vs) (F : Fr hb L h m) (N : News hb L h (new ++ frs)) (hap : ∀ p ∈ new, p.1 ∉ frs.map (·.1))
    (k : ∀ h' frs' T oe oT, TI.SameUp frs frs' → TI.Frs l frs' → Fr hb L h' m → News hb L h' ((e, oe) :: (T, oT) :: (new ++ frs')) → Hand (new ++ frs') e T oe oT X (rawInt L) (vs.setIfInBounds 1 (.ref T)) → Q () { s' with heap := h' }) (hk : scope.kind = .function) :
    wpAny (model prog w) (A₀.deeper (envOf name scope L a cd)) (noteFrame (.ref e) (envOf name scope L a cd)) Q E s' := by
  obtain ⟨hkp, hnew, ⟨ob, he, hcls, hd⟩, hv1⟩ := hx
  have hLh : hb.get? L = none := kts_self F
  have hbs : ∀ b ∈ L :: frs.map (·.1), hb.get? b = none := fun b hm => by
    rcases List.mem_cons.mp hm with rfl | hm
    · exact hLh
    · obtain ⟨p, hp, rfl⟩ := List.mem_map.mp hm
      exact (N p (List.mem_append_right _ hp)).2.2
  obtain ⟨hff, hNs, _, _, _⟩ := TI.frames_at (name := name) (a := a) (cd := cd) (h' := s'.heap) (base := hb) hk Fs F N TI.tail_sub (fun b o q => ⟨o.slots, hkp b o q⟩) hbs
  have ea : (envOf name scope L a cd :: l).filterMap (·.frame) = L :: frs.map (·.1) := TI.frames_are Fs
  have hsz : 1 < vs.size := (Array.getElem?_eq_some_iff.mp hv1).1
  unfold noteFrame
  simp only [show (envOf name scope L a cd).frame = some L from rfl]
  refine wpAny_bind (wpAny_field he hd hv1 ?_)
  rw [if_neg (by decide)]
  refine wpAny_bind (wpAny_frameOf_fun (Around.frames_deeper hfr) hff rfl fun h₁ hs₁ => ?_)
  rw [ea] at hs₁
  refine wpAny_bind (wpAny_entryPlaceOf fun pl hpl => ?_)
  unfold EntryCells.newEntry newFields
  refine wpAny_bind (wpAny_newObj_type ?_ (hpl.sizeOk5 _ _ _ _ _))
  generalize hot : ({ cls := .type "traceback", dict := none, data := .fields ([Value.none, .ref L, .none, rawInt L, .none] ++ (if pl.isEmpty then List.replicate 6 Value.none else pl)).toArray } : Obj) = ot
  have hTd : ∃ ts, ot.data = .fields ts ∧ ts[3]? = some (rawInt L) := ⟨_, by rw [← hot], by first | (simp; done) | (rcases hpl with rfl | ⟨_, _, _, _, _, _, _, rfl⟩ <;> simp)⟩
  have hTf : ot.isFreed = false := by rw [← hot]; rfl
  have hef : e ∉ L :: frs.map (·.1) := fun hm => by
    rcases List.mem_cons.mp hm with q | hm
    · obtain ⟨oL, _, _, hL, _⟩ := F.ns
      rw [q, hL] at hnew; cases hnew
    · obtain ⟨p, hp, q⟩ := List.mem_map.mp hm
      have := (N p (List.mem_append_right _ hp)).1
      rw [q, hnew] at this; cases this
  have he₁ : h₁.get? e = some ob := (hs₁.2.1 e hef).trans he
  have he₂ := Heap.get?_push_of_some (h := h₁) ot he₁
  refine wpAny_setField he₂ hd hsz ?_
  have hTe : h₁.objs.size ≠ e := Nat.ne_of_gt (Heap.lt_size he₁)
  have hd₃ := Obj.data_mapFields hd (·.setIfInBounds 1 (Value.ref h₁.objs.size))
  have he₃ := Heap.get?_update_self (Obj.mapFields (·.setIfInBounds 1 (Value.ref h₁.objs.size))) he₂ (Obj.isFreed_of_fields hd₃)
  have hT₃ := (Heap.get?_update_other (h₁.push ot) (Obj.mapFields (·.setIfInBounds 1 (Value.ref h₁.objs.size))) (Ne.symm hTe)).trans (Heap.get?_push_size h₁ hTf)
  have keep : ∀ b o, b ≠ e → h₁.get? b = some o → ((h₁.push ot).update e (Obj.mapFields (·.setIfInBounds 1 (Value.ref h₁.objs.size)))).get? b = some o := fun b o hbe hb => by
    rw [Heap.get?_update_other _ _ (Ne.symm hbe)]
    exact Heap.get?_push_of_some _ hb
  have up : ∀ b o, h.get? b = some o → b ∉ L :: frs.map (·.1) → ((h₁.push ot).update e (Obj.mapFields (·.setIfInBounds 1 (Value.ref h₁.objs.size)))).get? b = some o := fun b o q hm =>
    keep b o (fun z => by rw [z, hnew] at q; cases q) ((hs₁.2.1 b hm).trans (hkp b o q))
  have ups : ∀ b o, h.get? b = some o → ∃ sl, ((h₁.push ot).update e (Obj.mapFields (·.setIfInBounds 1 (Value.ref h₁.objs.size)))).get? b = some { o with slots := sl } := fun b o q => by
    obtain ⟨sl, hs⟩ := hs₁.2.2 b o (hkp b o q)
    exact ⟨sl, keep b _ (fun z => by rw [z, hnew] at q; cases q) hs⟩
  generalize hT : h₁.objs.size = T at *
  generalize hh' : (h₁.push ot).update e (Obj.mapFields (·.setIfInBounds 1 (Value.ref T))) = h' at *
  obtain ⟨frs', SU, ht⟩ := TI.sameUp_of (h' := h') fun p hp => ups p.1 p.2 (N p (List.mem_append_right _ hp)).1
  have nT : ∀ b o, h.get? b = some o → b ≠ T := fun b o q z => by
    obtain ⟨sl, hs⟩ := hs₁.2.2 b o (hkp b o q)
    have := Heap.lt_size hs
    rw [z, hT] at this; exact absurd this (Nat.lt_irrefl _)
  have nE : ∀ b o, h.get? b = some o → b ≠ e := fun b o q z => by rw [z, hnew] at q; cases q
  obtain ⟨oL, es, ep, hL, hLd, hLk, hLf⟩ := F.ns
  obtain ⟨slL, hL'⟩ := ups L oL hL
  have hh0 : ∀ b, h.get? b = none → hb.get? b = none := fun b q => TI.none_of F.keep q
  have hTn : h.get? T = none := by
    cases q : h.get? T with
    | none => rfl
    | some o => exact absurd rfl (nT T o q)
  refine k h' frs' T (ob.mapFields (·.setIfInBounds 1 (.ref T))) ot SU (Fs.up SU) ⟨⟨_, es, ep, hL', hLd, hLk, hLf⟩, fun b o q => up b o (F.keep b o q) (fun hm => by rw [hbs b hm] at q; cases q), F.above⟩ (fun p hp => ?_)
    ⟨by rw [Obj.cls_mapFields]; exact hcls, hd₃, by simp [hsz], hTd, hTe, fun p hp => ?_⟩
  · rcases List.mem_cons.mp hp with rfl | hp
    · exact ⟨he₃, fun q => hef (by rw [show e = L from q]; exact List.mem_cons_self), hh0 _ hnew⟩
    rcases List.mem_cons.mp hp with rfl | hp
    · refine ⟨hT₃, fun q => ?_, hh0 _ hTn⟩
      have q' : T = L := q
      rw [q', hL] at hTn; cases hTn
    rcases List.mem_append.mp hp with hp | hp
    · have h1 := N p (List.mem_append_left _ hp)
      exact ⟨up _ _ h1.1 (fun hm => by
        rcases List.mem_cons.mp hm with z | z
        · exact h1.2.1 z
        · exact hap p hp z), h1.2⟩
    · obtain ⟨x, hx, q⟩ := SU.fwd p hp
      have h1 := N x (List.mem_append_right _ hx)
      exact ⟨ht p hp, by rw [q]; exact h1.2.1, by rw [q]; exact h1.2.2⟩
  · rcases List.mem_append.mp hp with hp | hp
    · have h1 := N p (List.mem_append_left _ hp)
      exact ⟨nT _ _ h1.1, nE _ _ h1.1⟩
    · obtain ⟨x, hx, q⟩ := SU.fwd p hp
      have h1 := N x (List.mem_append_right _ hx)
      rw [q]
      exact ⟨nT _ _ h1.1, nE _ _ h1.1⟩

theorem hand_again {Q : Unit → Shared → Prop} (N : News hb L s'.heap ((e, oe) :: (T, oT) :: led)) (H : Hand led e T oe oT X (rawInt L) vs) (k : Q () s') :
    wpAny (model prog w) A (noteFrame (.ref e) (envOf name scope L a cd)) Q E s' := by
  obtain ⟨ts, hts, h3⟩ := H.ts
  unfold noteFrame
  simp only [show (envOf name scope L a cd).frame = some L from rfl]
  refine wpAny_bind (wpAny_field (N _ (.head _)).1 H.d H.v1 ?_)
  rw [if_pos (show (Value.ref T != Value.none) = true from by simp)]
  refine wpAny_bind (wpAny_field (N _ (.tail _ (.head _))).1 hts h3 ?_)
  rw [if_pos (show (rawInt L == rawInt L) = true from by simp)]
  exact wpAny_pure k

theorem hand_flight {x : Option Addr} {Q : Unit → Shared → Prop} (F : Fr hb L s'.heap m) (N : News hb L s'.heap ((e, oe) :: (T, oT) :: led)) (H : Hand led e T oe oT X fl vs)
    (k : ∀ h' oT', Fr hb L h' m → News hb L h' ((e, oe) :: (T, oT') :: led) → Hand led e T oe oT' X (x.elim Value.none fun f => rawInt f) vs → Q () { s' with heap := h' }) :
    wpAny (model prog w) A (setFlight (.ref e) x) Q E s' := by
  obtain ⟨ts, hts, h3⟩ := H.ts
  have hsz : 3 < ts.size := (Array.getElem?_eq_some_iff.mp h3).1
  have hT := N (T, oT) (.tail _ (.head _))
  have oth : ∀ b, b ≠ T → (s'.heap.update T (Obj.mapFields (·.setIfInBounds 3 (x.elim Value.none fun f => rawInt f)))).get? b = s'.heap.get? b := fun b hb => Heap.get?_update_other _ _ (Ne.symm hb)
  have hd₃ := Obj.data_mapFields hts (·.setIfInBounds 3 (x.elim Value.none fun f => rawInt f))
  unfold setFlight
  refine wpAny_bind (wpAny_field (N _ (.head _)).1 H.d H.v1 ?_)
  rw [if_pos (show (Value.ref T != Value.none) = true from by simp)]
  refine wpAny_setField hT.1 hts hsz (k _ (oT.mapFields (·.setIfInBounds 3 (x.elim Value.none fun f => rawInt f))) ?_ (fun p hp => ?_) ⟨H.cls, H.d, H.v1, ⟨_, hd₃, by simp [hsz]⟩, H.ne, H.ap⟩)
  · obtain ⟨oL, es, ep, hL, r⟩ := F.ns
    exact ⟨⟨oL, es, ep, (oth L (Ne.symm hT.2.1)).trans hL, r⟩, fun b o q => (oth b fun z => by have := hT.2.2; rw [z] at q; rw [show hb.get? T = none from this] at q; cases q).trans (F.keep b o q), F.above⟩
  · rcases List.mem_cons.mp hp with rfl | hp
    · exact ⟨(oth e (Ne.symm H.ne)).trans (N _ (.head _)).1, (N _ (.head _)).2⟩
    rcases List.mem_cons.mp hp with rfl | hp
    · exact ⟨Heap.get?_update_self _ hT.1 (Obj.isFreed_of_fields hd₃), hT.2⟩
    · have h1 := N p (.tail _ (.tail _ hp))
      exact ⟨(oth p.1 (H.ap p hp).1).trans h1.1, h1.2⟩

theorem hand_pass {α : Type} {what : String} {Q : α → Shared → Prop} (F : Fr hb L s'.heap m) (N : News hb L s'.heap ((e, oe) :: (T, oT) :: led)) (H : Hand led e T oe oT X fl vs)
    (k : ∀ h' oT', Fr hb L h' m → News hb L h' ((e, oe) :: (T, oT') :: led) → Hand led e T oe oT' X (rawInt L) vs → E (.ref e) { s' with heap := h' }) :
    wpAny (model prog w) A (PySem.passOn what (.ref e) (envOf name scope L a cd)) Q E s' := by
  unfold PySem.passOn
  refine wpAny_bind (wpAny_field (N _ (.head _)).1 H.d H.v1 ?_)
  rw [if_neg (show ¬ ((Value.ref T == Value.none) = true) from by simp)]
  first
    | exact wpAny_bind (wpAny_pure (wpAny_bind (hand_flight (x := some L) F N H fun h' oT' F' N' H' => wpAny_throw (k h' oT' F' N' H'))))
    | exact wpAny_bind (hand_flight (x := some L) F N H fun h' oT' F' N' H' => wpAny_throw (k h' oT' F' N' H'))
end

section
variable {w : World} {A₀ : Around} {E : Value → Shared → Prop} {s' : Shared} {hb : Heap} {L a e T : Addr} {m : Str → Option Value} {name : Str} {scope : Scope} {cd : Value} {X T' : String} {led : List (Addr × Obj)} {vs : Array Value} {oe oT : Obj} {fl : Value}
  {b₀ : Stmt} {suite : List Stmt} {pos np : Pos} {rest : List ExceptHandler} {Q : Flow → Shared → Prop} {x : Str} {mean : ExcName → Option Value} {mg mb : Str → Option Value} {p : Program} {loose : List Str}
theorem hand_caught (F : Fr hb L s'.heap m) (N : News hb L s'.heap ((e, oe) :: (T, oT) :: led)) (H : Hand led e T oe oT X fl vs) (Tp : Top p loose mean mg mb hb) (hv : bootBuiltins x = some (.type T'))
    (hexc : isSubtype (.type T') (.type "BaseException") = pure true) (hnt : isSubtype (.type ((Manifest.find? T').elim "type" fun y => y.metatype)) (.type "tuple") = pure false) (hsub : isSubtype (.type X) (.type T') = pure true)
    (k : ∀ h', Fr hb L h' m → News hb L h' led → wpAny (model pw w) ((A₀.deeper (envOf name scope L a cd)).mark (some (.ref e))) (execs (b₀ :: suite) (envOf name scope L a cd)) Q E { s' with heap := h' })
    (h1 : x ∉ startupNames) (h2 : x ∉ loose) (h3 : x ∉ (recsOf p).map (·.name)) (h4 : x ∉ (litsOf p).map (·.1)) (h4c : x ∉ (clssOf p loose).map (·.name)) (hn : x ≠ "__name__")
    (hk : scope.kind = .function) (hx : (envOf name scope L a cd).kindOf x = some .globalImplicit) (hd : (x == ("__debug__" : Str)) = false)
    (hE : PassesOwnAt (model pw w) ((A₀.deeper (envOf name scope L a cd)).mark (some (.ref e))) (A₀.deeper (envOf name scope L a cd)) (envOf name scope L a cd) E) :
    wpAny (model pw w) (A₀.deeper (envOf name scope L a cd)) (handleBy (.ref e) (envOf name scope L a cd) (.ExceptHandler (some (.Name x np)) none (b₀ :: suite) pos :: rest)) Q E s' := by
  refine wpAny_handleBy_builtin (X := X) (T := T') (b := true) hexc hnt hsub (wpAny_passesOwnAt hE (tp_builtin F Tp hv ⟨rfl, ⟨oe, (N _ (.head _)).1, H.cls⟩, ?_⟩ h1 h2 h3 h4 h4c hn hk hx hd))
  rw [if_pos rfl]
  exact hand_flight F N H fun h' oT' F' N' _ => wpAny_passesOwnAt hE (k h' F' fun p hp => N' p (.tail _ (.tail _ hp)))
end
end Mine
end

-- part G7
section
open PySem PySem.W PyProof.Rows
namespace Mine
theorem off_G7 : True := by
  w_top off
  first | (walk1; done) | trivial
theorem entry_unchain : entryFor table "proto.unchain" = some Builtin.«proto.unchain» := entryFor_of_fast (by kernel_rfl)
section
variable {α : Type} {prog : Program} {w : World} {A : Around} {E : Value → Shared → Prop} {s : Shared}
theorem raise_chained {cls msg : String} {e : Addr} {oe : Obj} {vs : Array Value} {Q : α → Shared → Prop} (hp : PlainExc cls) (hh : A.handled = some (.ref e)) (he : s.heap.get? e = some oe) (hd : oe.data = .fields vs) (h2 : vs[2]? = some .none)
    (h : ∀ h' tk x ws, NewE s.heap h' x cls ws → E (.ref x) { s with heap := h', toks := tk }) :
    wpAny (model prog w) A (raiseErrorWords cls msg : Sem α) Q E s := by
  unfold raiseErrorWords
  refine wpAny_bind (wpAny_mkText (wpAny_bind ?_))
  unfold newExc newTuple
  refine wpAny_bind (wpAny_newObj_type ?_)
  refine wpAny_bind (m := firstArgMember _ _) (wpAny_of_eq (a := Value.none) (by simp only [firstArgMember, hp.first]; rfl) ?_)
  rw [hp.own]
  refine wpAny_newObj_type ?_
  unfold raiseNew
  refine wpAny_bind (wpAny_handled ?_)
  rw [hh]
  have hlt := Heap.lt_size he
  have he1 : ∀ o₁ o₂, ((s.heap.push o₁).push o₂).get? e = some oe := fun o₁ o₂ => Heap.get?_push_of_some _ (Heap.get?_push_of_some _ he)
  have hne : e ≠ s.heap.objs.size + 1 := Nat.ne_of_lt (Nat.lt_succ_of_lt hlt)
  have hsz : ∀ o, (s.heap.push o).objs.size = s.heap.objs.size + 1 := fun o => by simp
  dsimp only
  rw [if_pos (by simp only [hsz]; simpa [bne_iff_ne] using hne)]
  refine wpAny_bind (wpAny_holding (wpAny_runValue (codeAny_builtin entry_unchain ?_)))
  refine wpAny_bind (wpAny_field (he1 _ _) hd h2 ?_)
  rw [if_pos (by decide)]
  refine wpAny_bind (wpAny_pure ?_)
  refine wpAny_pure ?_
  have hx : ∀ o₁ o₂ : Obj, o₂.isFreed = false → ((s.heap.push o₁).push o₂).get? (s.heap.push o₁).objs.size = some o₂ := fun o₁ o₂ q => Heap.get?_push_size _ q
  show wpAny (model prog w) A (setField (.ref _) 2 (.ref e) >>= fun _ => throw _) Q E _
  refine wpAny_bind (wpAny_setField (hx _ _ rfl) rfl (by show 2 < 6; decide) (wpAny_throw ?_))
  refine h _ _ _ _ ⟨fun b o hb => ?_, Heap.get?_none_of_le (by simp), ⟨_, Heap.get?_update_self _ (hx _ _ rfl) (Obj.isFreed_of_fields (Obj.data_mapFields rfl _)), Obj.cls_mapFields _ _, Obj.data_mapFields rfl _⟩, by simp⟩
  rw [Heap.get?_update_other _ _ (by simp only [hsz]; exact Nat.ne_of_gt (Nat.lt_succ_of_lt (Heap.lt_size hb)))]
  exact Heap.get?_push_of_some _ (Heap.get?_push_of_some _ hb)

theorem getItem_out_chained {l e : Addr} {oe : Obj} {vs : Array Value} {items : Array Value} {j : Nat} {k : Int} {t : Tok} {Q : Value → Shared → Prop} (hA : A.handled = some (.ref e)) (he : s.heap.get? e = some oe) (hed : oe.data = .fields vs) (h2 : vs[2]? = some .none)
    (hl : s.heap.IsList l items) (hout : items.size ≤ j) (hhi : (j : Int) < 2 ^ 63) (hk : (j : Int) = k)
    (hE : ∀ h' tk x ws, NewE s.heap h' x "IndexError" ws → E (.ref x) { s with heap := h', toks := tk }) :
    wpAny (model prog w) A (getItem (.ref l) (.int k t)) Q E s := by
  obtain ⟨o, ho, hc, ne, hd⟩ := id hl
  have hlo : -(2 ^ 63) ≤ k := by omega
  have hhi' : k < 2 ^ 63 := by omega
  unfold getItem
  try with_reducible refine wpAny_holding ?_
  first | refine wpAny_bind (wpAny_pure ?_) | skip
  refine wpAny_bind (wpAny_sequenceKey hl.typeIs (by decide) ?_)
  refine wpAny_bind (wpAny_callSpecial?_slot (name := Str.ofString "__getitem__") hl.typeIs slot_list_getitem
    (wpAny_call_entry slot_list_getitem hl.typeIs entry_list_getitem ?_ (args_list_getitem _ _)))
  show wpAny _ _ (Builtin.List.listSubscript? (.int k t) >>= _) _ _ s
  refine wpAny_bind (wpAny_listSubscript_int (fitsIndex_both hlo hhi') ?_)
  clear hlo hhi' hhi
  cases k with
  | negSucc i => exact absurd hk (by omega)
  | ofNat i =>
  obtain rfl : j = i := Int.ofNat.inj hk
  clear hk
  have hx : items[j]? = none := Array.getElem?_eq_none hout
  show wpAny _ _ ((seqItemAt l j >>= fun r => pure (r.map (j, ·))) >>= _) _ _ s
  refine wpAny_bind (wpAny_bind (wpAny_seqItemAt ho hd (wpAny_pure ?_)))
  rw [hx]
  first
    | exact wpAny_bind (wpAny_rule (raise_chained plainExc_IndexError hA he hed h2 hE))
    | exact wpAny_bind (wpAny_rule (wpAny_bind (raise_chained plainExc_IndexError hA he hed h2 hE)))
    | exact wpAny_bind (wpAny_bind (wpAny_rule (raise_chained plainExc_IndexError hA he hed h2 hE)))
    | exact wpAny_rule (raise_chained plainExc_IndexError hA he hed h2 hE)

theorem item_outC {value slice : PySem.Expr} {l e : Addr} {oe : Obj} {vs : Array Value} {items : Array Value} {j : Nat} {k : Int} {u : Tok} {Q : Value → Shared → Prop} (hA : A.handled = some (.ref e)) (he : s.heap.get? e = some oe) (hed : oe.data = .fields vs) (h2 : vs[2]? = some .none)
    (hl : s.heap.IsList l items) (hout : items.size ≤ j) (hhi : (j : Int) < 2 ^ 63) (hk : (j : Int) = k)
    (hE : ∀ h' tk x ws, NewE s.heap h' x "IndexError" ws → E (.ref x) { s with heap := h', toks := tk })
    (hs : subscripted slice false (.ref l) (.int k u) = operate [.ref l, .int k u] (getItem (.ref l) (.int k u)) := by with_unfolding_all rfl) :
    wpAny (model prog w) A (subscriptTail value slice (.ref l) (.int k u)) Q E s :=
  tail_any hl.typeIs slot_list_getitem.lookup (getItem_out_chained hA he hed h2 hl hout hhi hk hE) hs
theorem item_outN {value slice : PySem.Expr} {l : Addr} {items : Array Value} {j : Nat} {k : Int} {u : Tok} {Q : Value → Shared → Prop} (hA : A.handled = none)
    (hl : s.heap.IsList l items) (hout : items.size ≤ j) (hhi : (j : Int) < 2 ^ 63) (hk : (j : Int) = k)
    (hE : ∀ h' tk x ws, NewE s.heap h' x "IndexError" ws → ws[2]? = some .none → E (.ref x) { s with heap := h', toks := tk })
    (hs : subscripted slice false (.ref l) (.int k u) = operate [.ref l, .int k u] (getItem (.ref l) (.int k u)) := by with_unfolding_all rfl) :
    wpAny (model prog w) A (subscriptTail value slice (.ref l) (.int k u)) Q E s :=
  item_outK hA hl (.inr (by omega)) (by omega) (by omega) (fun h' tk x hx => by
    obtain ⟨ws, h1, h2⟩ := NewE.of hx
    exact hE h' tk x ws h1 h2) hs
end
end Mine
end

-- part G8
section
open PySem PySem.W PyProof.Rows
namespace Mine
theorem off_G8 : True := by
  w_top off
  first | (walk1; done) | trivial
theorem isList_hide {g : Heap} {l : List Env} {frs : List (Addr × Obj)} (Fs : TI.Frs l frs) (hg : ∀ q ∈ frs, g.get? q.1 = some q.2) {a : Addr} {vs : Array Value} (h : g.IsList a vs) : (hideAll g (frOf l)).IsList a vs := by
  obtain ⟨o, ho, hc, n, hd⟩ := h
  refine ⟨o, hideAll_get _ ho fun hm => ?_, hc, n, hd⟩
  have hm' : a ∈ frs.map (·.1) := by rw [← Fs.addrs]; exact hm
  obtain ⟨q, hq, e⟩ := List.mem_map.mp hm'
  obtain ⟨es, ep, hdd⟩ := Fs.dict q hq
  have := hg q hq
  rw [e, ho] at this
  cases this
  rw [hd] at hdd; cases hdd
noncomputable def Out (vs : List Value) (k : Int) : Prop := ∃ j : Nat, (j : Int) = k ∧ vs.length ≤ j ∧ (j : Int) < 2 ^ 63
theorem item_outX {prog : Program} {w : World} {A : Around} {E : Value → Shared → Prop} {s : Shared} {value slice : PySem.Expr} {l : Addr} {vs : List Value} {k : Int} {u : Tok} {Q : Value → Shared → Prop} (hA : A.handled = none)
    (ho : Out vs k) (hl : s.heap.IsList l vs.toArray)
    (hE : ∀ h' tk x ws, NewE s.heap h' x "IndexError" ws → ws[2]? = some .none → E (.ref x) { s with heap := h', toks := tk })
    (hs : subscripted slice false (.ref l) (.int k u) = operate [.ref l, .int k u] (getItem (.ref l) (.int k u)) := by with_unfolding_all rfl) :
    wpAny (model prog w) A (subscriptTail value slice (.ref l) (.int k u)) Q E s := by
  obtain ⟨j, hk, h1, h2⟩ := ho
  exact item_outN hA hl (by simpa using h1) h2 hk hE hs
theorem ne_cons {d d' : Addr} {o : Obj} {r : List (Addr × Obj)} (h : d' ≠ d) (hr : ∀ p ∈ r, p.1 ≠ d) : ∀ p ∈ (d', o) :: r, p.1 ≠ d := fun p hp => by
  rcases List.mem_cons.mp hp with rfl | hp
  · exact h
  · exact hr p hp
theorem updF_toUpd {d : Addr} {o : Obj} {l : List (Addr × Obj)} {g : Obj → List (Addr × Obj)} (U : UpdF d o l g) (o' : Obj) : Upd d o o' l (g o') := by
  induction U with
  | head h => exact .head h
  | tail h _ ih => exact .tail h ih
theorem extend_any {prog : Program} {w : World} {A : Around} {E : Value → Shared → Prop} {s : Shared} {h₀ : Heap} {L D b : Addr} {m : Str → Option Value} {news : List (Addr × Obj)} {g : Obj → List (Addr × Obj)} {vs ws : List Value} {n n2 : Nat} {Q : Value → Shared → Prop}
    (F : Fr h₀ L s.heap m) (N : News h₀ L s.heap news) (hb : (b, W.listOf ws.toArray n2) ∈ news) (U : UpdF D (W.listOf vs.toArray n) news g) (hz : vs.length ≤ 2000) (hz2 : ws.length ≤ 2000)
    (h : ∀ h' n', Fr h₀ L h' m → News h₀ L h' (g (W.listOf (vs ++ ws).toArray n')) → Q .none { s with heap := h' }) : wpAny (model prog w) A (call (.builtin "list.extend") [.ref D, .ref b]) Q E s := by
  have e1 : (2000 : Nat) + 2000 ≤ sizeLine := by decide
  have e2 : Builtin.List.listTooLong (vs.toArray.size + ws.toArray.size) = false := by
    unfold Builtin.List.listTooLong
    simp only [List.size_toArray, decide_eq_false_iff_not]
    omega
  have e3 : ¬(!vs.toArray.isEmpty && Builtin.List.listTooLong (vs.toArray.size + ws.toArray.size)) = true := by rw [e2]; simp
  cases ws with
  | nil => exact kxn_extend F N hb rfl (updF_toUpd U _) e3 (by simp; omega) (by simp; omega) fun h' F' N' => h h' n F' (by rw [List.append_nil]; exact N')
  | cons x ws => exact kl_extend (l := vs ++ x :: ws) F N hb rfl (by simp) (updF_toUpd U _) e3 (by simp; omega) (by simp at hz2 ⊢; omega) fun h' F' N' => h h' _ F' N'
end Mine
end

-- part D1
section
open PySem PySem.W PyProof.Rows
namespace Mine
theorem off_D1 : True := by
  w_top off
  first | (walk1; done) | trivial
theorem fill_D1 : PySem.Challenge.rw_oh0062_01 = PySem.Challenge.rw_oh0062_01 ∧ hd.heap_1 = hd.heap_1 := by k_fill; exact ⟨rfl, rfl⟩
local macro_rules | `(tactic| walk_at "exec While Constant cons nil") => `(tactic| refine stopMark ?_)
local macro_rules | `(tactic| walk_at "exec Try cons cons") => `(tactic| refine stopMark ?_)
local macro_rules | `(tactic| walk_at "noteFrame ref") => `(tactic| refine stopMark ?_)
local macro_rules | `(tactic| walk_at "LeaveT") => `(tactic| refine stopMark ?_)
local macro_rules | `(tactic| walk_at "subscriptTail") => `(tactic| (k_here; (with_reducible show wpAny _ _ (subscriptTail _ _ (Value.ref _) (Value.int _ _)) _ _ _); (with_unfolding_all refine' Mine.item_outX ?k0 ?k1 ?k2 ?_ ?k6; (case k1 => with_reducible assumption); (case k0 => assumption); (case k2 => is_list); (case k6 => with_unfolding_all rfl); k_whole); intro h' tk' e' ws' x' y'))
local macro_rules | `(tactic| walk_at "subscriptTail Name Name ref int") => `(tactic| (k_here; (with_reducible show wpAny _ _ (subscriptTail _ _ (Value.ref _) (Value.int _ _)) _ _ _); (with_unfolding_all refine' Mine.item_outX ?k0 ?k1 ?k2 ?_ ?k6; (case k1 => with_reducible assumption); (case k0 => assumption); (case k2 => is_list); (case k6 => with_unfolding_all rfl); k_whole); intro h' tk' e' ws' x' y'))
local macro_rules | `(tactic| walk_at "call builtin:list.extend") => `(tactic| refine stopMark ?_)
local macro_rules | `(tactic| walk_at "subscriptTail Name Slice ref ref") => `(tactic| refine stopMark ?_)
local macro_rules | `(tactic| walk_at "exec Try cons nil") => `(tactic| refine stopMark ?_)
local macro_rules | `(tactic| walk_at "TestNo") => `(tactic| refine stopMark ?_)
/-- what the difference of two rising lists is -/
noncomputable def sld : List Int → List Int → List Int × List Int
  | [], ys => ([], ys)
  | x :: xs, [] => (x :: xs, [])
  | x :: xs, y :: ys => if x < y then (x :: (sld xs (y :: ys)).1, (sld xs (y :: ys)).2) else if y < x then ((sld (x :: xs) ys).1, y :: (sld (x :: xs) ys).2) else sld xs ys
termination_by xs ys => xs.length + ys.length

theorem try_cut {prog : Program} {w : World} {A : Around} {E : Value → Shared → Prop} {s : Shared} {env : Env} {body : List Stmt} {h₀ : ExceptHandler} {hs : List ExceptHandler} {pos : Pos} {Q : Flow → Shared → Prop} (Nt : Value → Shared → Prop)
    (hbody : ∀ K : Value → Shared → Prop, (∀ e s₂, Nt e s₂ → K e s₂) → wpAny (model prog w) A (execs body env) (fun f s₁ => Q f s₁) (fun e s₁ => wpAny (model prog w) A (noteFrame e env) (fun _ s₂ => K e s₂) (fun _ _ => False) s₁) s)
    (tail : ∀ e s₂, Nt e s₂ → wpAny (model prog w) A (setFlight e none) (fun _ s₃ => wpAny (model prog w) A (handleBy e env (h₀ :: hs)) Q E s₃) E s₂) :
    wpAny (model prog w) A (exec (.Try body (h₀ :: hs) [] [] pos) env) Q E s := by
  refine wpAny_Try_except (wpAny_mono (hbody _ tail) (fun f s₁ h => ?_) fun e s₁ h => wpAny_mono h (fun _ _ q => q) fun _ _ q => q.elim)
  cases f with
  | next => exact wpAny_pure h
  | _ => exact h
structure DSt where
  i : Nat
  j : Nat
  vm : List Value
  am : List Int
  nm : Nat
  vu : List Value
  au : List Int
  nu : Nat
  ti : Tok
  tj : Tok
  frs : List (Addr × Obj)
noncomputable def DSt.led (lm lu : Addr) (c : DSt) : List (Addr × Obj) := (lu, W.listOf c.vu.toArray c.nu) :: (lm, W.listOf c.vm.toArray c.nm) :: c.frs
noncomputable def DSt.ps (c : DSt) : List (Str × Value) := [(("i" : Str), Value.int c.i c.ti), ("j", Value.int c.j c.tj)]
structure DSt.Ok (xs ys : List Int) (frs : List (Addr × Obj)) (c : DSt) : Prop where
  hi : c.i ≤ xs.length
  hj : c.j ≤ ys.length
  su : TI.SameUp frs c.frs
  im : IntsAre c.vm c.am
  iu : IntsAre c.vu c.au
  lm : c.am.length ≤ c.i
  lu : c.au.length ≤ c.j
  eq : sld xs ys = (c.am ++ (sld (xs.drop c.i) (ys.drop c.j)).1, c.au ++ (sld (xs.drop c.i) (ys.drop c.j)).2)
noncomputable def TestNo (Q : Flow → Shared → Prop) (b : Bool) (s₂ : Shared) : Prop := b = false ∧ Q .next s₂
theorem while_no {prog : Program} {w : World} {A : Around} {E : Value → Shared → Prop} {s : Shared} {env : Env} {test : PySem.Expr} {body : List Stmt} {pos : Pos} {Q : Flow → Shared → Prop}
    (h : wpAny (model prog w) A (isTrue test env (eval test env)) (TestNo Q) E s) (hE : PassesOwn (model prog w) A env E := by passes_own) :
    wpAny (model prog w) A (exec (.While test body [] pos) env) Q E s := by
  refine wpAny_While (codeAny_whileLoop (fun _ s' => s' = s) (fun n s' hs => ?_) 0 rfl)
  subst hs
  refine wpAny_mono (wpAny_passesOwn hE h) (fun b s₂ hb => ?_) fun _ _ q => q
  obtain ⟨rfl, hq⟩ := hb
  exact wpAny_pure hq
theorem fr_pin {g : Heap} {L : Addr} {h : Heap} {m : Str → Option Value} (ps : List (Str × Value)) (F : Fr g L h m) (hp : ∀ p ∈ ps, m p.1 = some p.2) : Fr g L h (kstB m ps) := by
  have e : kstB m ps = m := funext fun y => kstB_eq hp fun _ => rfl
  rw [e]; exact F
noncomputable def DSt.all (lx ly lm lu : Addr) (c : DSt) : List (Str × Value) := [(("i" : Str), Value.int c.i c.ti), ("j", Value.int c.j c.tj), ("unexpected", .ref lu), ("missing", .ref lm), ("actual", .ref ly), ("expected", .ref lx)]
/-- an exception noted, the lists as they are -/
inductive DNt (xs ys : List Int) (frs : List (Addr × Obj)) (gh : Heap) (L' lx ly lm lu : Addr) (s : Shared) (e : Value) (s₂ : Shared) : Prop
  | mk (c : DSt) (e' T : Addr) (oe oT : Obj) (vs : Array Value) (h : Heap) (tk : Nat) (m : Str → Option Value) (he : e = .ref e') (hs : s₂ = { s with heap := h, toks := tk }) (ok : DSt.Ok xs ys frs c) (out : c.i = xs.length ∨ c.j = ys.length) (F : Fr gh L' h (kstB m (DSt.all lx ly lm lu c)))
      (N : News gh L' h ((e', oe) :: (T, oT) :: DSt.led lm lu c)) (H : Hand (DSt.led lm lu c) e' T oe oT "IndexError" (rawInt L') vs) : DNt xs ys frs gh L' lx ly lm lu s e s₂
theorem hand_came {w : World} {prog : Program} {A : Around} {E : Value → Shared → Prop} {s' : Shared} {hb : Heap} {L a e T : Addr} {m : Str → Option Value} {name : Str} {scope : Scope} {cd : Value} {X : String} {led : List (Addr × Obj)} {vs : Array Value} {oe oT : Obj} {fl : Value}
    (F : Fr hb L s'.heap m) (N : News hb L s'.heap ((e, oe) :: (T, oT) :: led)) (H : Hand led e T oe oT X fl vs)
    (k : ∀ h' oT', Fr hb L h' m → News hb L h' ((e, oe) :: (T, oT') :: led) → Hand led e T oe oT' X (rawInt L) vs → E (.ref e) { s' with heap := h' }) :
    cameBackBy (model prog w) A (envOf name scope L a cd) E (.ref e) s' := by
  unfold cameBackBy
  refine wpAny_bind (wpAny_field (N _ (.head _)).1 H.d H.v1 ?_)
  rw [if_neg (show ¬ ((Value.ref T == Value.none) = true) from by simp)]
  first
    | exact wpAny_bind (wpAny_pure (hand_flight (x := some L) F N H fun h' oT' F' N' H' => k h' oT' F' N' H'))
    | exact hand_flight (x := some L) F N H fun h' oT' F' N' H' => k h' oT' F' N' H'
theorem DNt.mk' {s : Shared} {xs ys : List Int} {frs : List (Addr × Obj)} {gh h : Heap} {L' lx ly lm lu e T : Addr} {oe oT : Obj} {vs : Array Value} {tk : Nat} {m : Str → Option Value} (c : DSt) (ok : DSt.Ok xs ys frs c) (out : c.i = xs.length ∨ c.j = ys.length)
    (F : Fr gh L' h m) (N : News gh L' h ((e, oe) :: (T, oT) :: DSt.led lm lu c)) (H : Hand (DSt.led lm lu c) e T oe oT "IndexError" (rawInt L') vs) (m1 : m "i" = some (Value.int c.i c.ti)) (m2 : m "j" = some (Value.int c.j c.tj)) (m3 : m "unexpected" = some (.ref lu)) (m4 : m "missing" = some (.ref lm)) (m5 : m "actual" = some (.ref ly)) (m6 : m "expected" = some (.ref lx)) :
    DNt xs ys frs gh L' lx ly lm lu s (.ref e) { s with heap := h, toks := tk } := by
  refine ⟨c, e, T, oe, oT, vs, h, tk, m, rfl, rfl, ok, out, fr_pin _ F ?_, N, H⟩
  intro p hp
  simp only [DSt.all, List.mem_cons, List.not_mem_nil, or_false] at hp
  rcases hp with rfl | rfl | rfl | rfl | rfl | rfl <;> assumption
theorem DNt.noteG {w : World} {A : Around} {s s' : Shared} {xs ys : List Int} {frs : List (Addr × Obj)} {gh h : Heap} {L' lx ly lm lu a e : Addr} {name : Str} {scope : Scope} {cd : Value} {l : List Env} {Q : Unit → Shared → Prop} {E : Value → Shared → Prop} {ws : Array Value} {m : Str → Option Value} (c : DSt)
    (hK : ∀ s₂, DNt xs ys frs gh L' lx ly lm lu s (.ref e) s₂ → Q () s₂) (hfr : A.frames = some l) (Fs : TI.Frs l frs) (ok : DSt.Ok xs ys frs c) (out : c.i = xs.length ∨ c.j = ys.length) (hlt : ∀ p ∈ frs, p.1 < lm) (hml : lm < lu)
    (hx : NewE h s'.heap e "IndexError" ws) (F : Fr gh L' h m) (N : News gh L' h (DSt.led lm lu c)) (m1 : m "i" = some (Value.int c.i c.ti)) (m2 : m "j" = some (Value.int c.j c.tj)) (m3 : m "unexpected" = some (.ref lu)) (m4 : m "missing" = some (.ref lm)) (m5 : m "actual" = some (.ref ly)) (m6 : m "expected" = some (.ref lx)) (hs : ∃ h tk, s' = { s with heap := h, toks := tk }) (hk : scope.kind = .function) :
    wpAny (model pw w) (A.deeper (envOf name scope L' a cd)) (noteFrame (.ref e) (envOf name scope L' a cd)) Q E s' := by
  obtain ⟨h6, tk6, rfl⟩ := hs
  have hf1 : ∀ p ∈ c.frs, p.1 < lm := fun p hp => by
    obtain ⟨x, hx, e⟩ := ok.su.fwd p hp
    rw [e]; exact hlt x hx
  refine hand_note (new := [(lu, W.listOf c.vu.toArray c.nu), (lm, W.listOf c.vm.toArray c.nm)]) hfr (Fs.up ok.su) hx F N ?_ ?_ hk
  · intro p hp hm
    obtain ⟨q, hq, e⟩ := List.mem_map.mp hm
    have h1 := hf1 q hq
    simp only [List.mem_cons, List.not_mem_nil, or_false] at hp
    rcases hp with rfl | rfl
    · rw [e] at h1; exact absurd (Nat.lt_trans h1 hml) (Nat.lt_irrefl _)
    · rw [e] at h1; exact absurd h1 (Nat.lt_irrefl _)
  · intro h' frs' T oe oT SU Fs' F' N' H
    refine hK _ ⟨{ c with frs := frs' }, e, T, oe, oT, _, h', tk6, m, rfl, rfl, ⟨ok.hi, ok.hj, ok.su.trans SU, ok.im, ok.iu, ok.lm, ok.lu, ok.eq⟩, out, fr_pin _ F' ?_, N', H⟩
    intro p hp
    simp only [DSt.all, List.mem_cons, List.not_mem_nil, or_false] at hp
    rcases hp with rfl | rfl | rfl | rfl | rfl | rfl <;> assumption
theorem DNt.again {w : World} {A : Around} {s s₂ : Shared} {xs ys : List Int} {frs : List (Addr × Obj)} {gh : Heap} {L' lx ly lm lu a : Addr} {name : Str} {scope : Scope} {cd : Value} {K : Value → Shared → Prop} {E : Value → Shared → Prop} {e : Value} (hK : ∀ e s₂, DNt xs ys frs gh L' lx ly lm lu s e s₂ → K e s₂)
    (h : DNt xs ys frs gh L' lx ly lm lu s e s₂) : wpAny (model pw w) A (noteFrame e (envOf name scope L' a cd)) (fun _ s₂ => K e s₂) E s₂ := by
  obtain ⟨c, e', T, oe, oT, vs, h, tk, m, rfl, rfl, ok, out, F, N, H⟩ := h
  exact hand_again N H (hK _ _ ⟨c, e', T, oe, oT, vs, h, tk, m, rfl, rfl, ok, out, F, N, H⟩)
theorem DNt.came {w : World} {A : Around} {s s₂ : Shared} {xs ys : List Int} {frs : List (Addr × Obj)} {gh : Heap} {L' lx ly lm lu a : Addr} {name : Str} {scope : Scope} {cd : Value} {K : Value → Shared → Prop} {E : Value → Shared → Prop} {e : Value} (hK : ∀ e s₂, DNt xs ys frs gh L' lx ly lm lu s e s₂ → K e s₂)
    (h : DNt xs ys frs gh L' lx ly lm lu s e s₂) : cameBackBy (model pw w) A (envOf name scope L' a cd) (fun e s₁ => wpAny (model pw w) A (noteFrame e (envOf name scope L' a cd)) (fun _ s₂ => K e s₂) E s₁) e s₂ := by
  obtain ⟨c, e', T, oe, oT, vs, h, tk, m, rfl, rfl, ok, out, F, N, H⟩ := h
  exact hand_came F N H fun h' oT' F' N' H' => DNt.again hK ⟨c, e', T, oe, oT', vs, h', tk, m, rfl, rfl, ok, out, F', N', H'⟩
theorem D_end {xs ys : List Int} {frs : List (Addr × Obj)} {gh h' : Heap} {L' lm lu : Addr} {m₀ m' : Str → Option Value} {s : Shared} {tk : Nat} {Q : Flow → Shared → Prop} {c : DSt} (c' : DSt) (F : Fr gh L' h' m') (N : News gh L' h' (DSt.led lm lu c')) (ok : DSt.Ok xs ys frs c')
    (m1 : m' "i" = some (Value.int c'.i c'.ti)) (m2 : m' "j" = some (Value.int c'.j c'.tj)) (hz : ∀ z : Str, z ≠ "i" → z ≠ "j" → z ≠ "e" → z ≠ "a" → m' z = m₀ z) (hm : (xs.length - c'.i) + (ys.length - c'.j) < (xs.length - c.i) + (ys.length - c.j)) :
    KswPost gh L' s (DSt.led lm lu) DSt.ps (fun _ => True) [("e" : Str), "a"] m₀ (DSt.Ok xs ys frs) (fun c => (xs.length - c.i) + (ys.length - c.j)) Q c .next { s with heap := h', toks := tk } := by
  refine ksw_end c' F N (fun p hp => hp) trivial ?_ ?_ ok hm
  · intro p hp
    simp only [DSt.ps, List.mem_cons, List.not_mem_nil, or_false] at hp
    rcases hp with rfl | rfl <;> assumption
  · intro z h1 h2
    obtain ⟨h3, h4⟩ := notin2 h2
    exact hz z (h1 (_, _) (.head _)) (h1 (_, _) (.tail _ (.head _))) h3 h4
theorem pick_from {vs : List Value} {ns : List Int} {i : Nat} (h : IntsAre vs ns) : IntsAre (slicePick vs.toArray (some (i : Int)) none none).toList (ns.drop i) := by
  have := kmk_from h (Int.natCast_nonneg i)
  rwa [Int.toNat_natCast] at this
theorem drop_get {xs : List Int} {i : Nat} (h : i < xs.length) : xs.drop i = xs.getD i 0 :: xs.drop (i + 1) := by
  rw [List.drop_eq_getElem_cons h, List.getD_eq_getElem?_getD, List.getElem?_eq_getElem h]; rfl
theorem sld_lt {x y : Int} {xs ys : List Int} (h : x < y) : sld (x :: xs) (y :: ys) = (x :: (sld xs (y :: ys)).1, (sld xs (y :: ys)).2) := by
  rw [sld]; simp [h]
theorem sld_gt {x y : Int} {xs ys : List Int} (h : y < x) : sld (x :: xs) (y :: ys) = ((sld (x :: xs) ys).1, y :: (sld (x :: xs) ys).2) := by
  rw [sld, if_neg (by omega), if_pos h]
theorem sld_eq {x y : Int} {xs ys : List Int} (h1 : ¬ x < y) (h2 : ¬ y < x) : sld (x :: xs) (y :: ys) = sld xs ys := by
  rw [sld, if_neg h1, if_neg h2]
theorem sld_out {xs ys : List Int} (h : xs = [] ∨ ys = []) : sld xs ys = (xs, ys) := by
  rcases h with rfl | rfl
  · rw [sld]
  · cases xs <;> rw [sld]
theorem rise {xs : List Int} (h : xs.Pairwise (· < ·)) {i : Nat} (hi : i + 1 < xs.length) : xs.getD i 0 < xs.getD (i + 1) 0 := by
  rw [List.getD_eq_getElem?_getD, List.getD_eq_getElem?_getD, List.getElem?_eq_getElem hi, List.getElem?_eq_getElem (by omega)]
  exact List.pairwise_iff_getElem.mp h _ _ _ _ (Nat.lt_succ_self _)
noncomputable def OutC := Out
theorem notin2' {a b z : Str} (h1 : z ≠ a) (h2 : z ≠ b) : [a, b].contains z = false := by simp [h1, h2]
local macro_rules | `(tactic| walk_at "subscriptTail Name Name ref int") => `(tactic| ((with_reducible rename Mine.OutC _ _ => hOut); refine stopMark ?_))
theorem sld_call {w : World} {A₀ A : Around} {base h₀ : Heap} {env : Env} {outer : List Env} {L : Addr} {m : Str → Option Value} {news : List (Addr × Obj)} {mean mg mb} {s : Shared} {Q : Value → Shared → Prop} {E : Value → Shared → Prop}
    {lx ly : Addr} {vx vy : List Value} {xs ys : List Int}
    (GB : Gb w base mean mg mb) (G : Gd w A₀ base outer h₀ mean mg mb) (D : KtsDicts (frOf outer) h₀) (C : Cr A env outer L 1)
    (F : Fr h₀ L s.heap m) (N : News h₀ L s.heap news) (hlx : s.heap.IsList lx vx.toArray) (hIx : IntsAre vx xs) (hly : s.heap.IsList ly vy.toArray) (hIy : IntsAre vy ys) (hsx : xs.length ≤ 1000) (hsy : ys.length ≤ 1000)
    (hpx : xs.Pairwise (· < ·)) (hpy : ys.Pairwise (· < ·))
    (hQ : ∀ h₀' (tp lm lu : Addr) (vm vu : List Value) (nm nu : Nat) h' tk, KtsTurn (frOf outer) h₀ h₀' → (outer = [] → h₀' = h₀) → Below A₀ base outer h₀' → IntsAre vm (sld xs ys).1 → IntsAre vu (sld xs ys).2 → Fr h₀' L h' m →
      News h₀' L h' ((tp, tupObj [.ref lm, .ref lu]) :: (lm, W.listOf vm.toArray nm) :: (lu, W.listOf vu.toArray nu) :: news) → (∀ p ∈ [(tp, tupObj [.ref lm, .ref lu]), (lm, W.listOf vm.toArray nm), (lu, W.listOf vu.toArray nu)], ∀ q ∈ news, p.1 ≠ q.1) → lm ≠ lu → Q (.ref tp) { s with heap := h', toks := tk }) :
    wpAny (model pw w) A (call (.ref 169) [.ref lx, .ref ly]) Q E s := by
  refine wpAny_call (enterT [(("expected" : Str), Value.ref lx), (("actual" : Str), Value.ref ly)] [] news G C F N (fun p hp => nomatch hp) D (by k_is) (by k_is) (BindsTo.of_eq rfl) (locs rfl) rfl rfl rfl (by decide) ?_)
  intro g L' h1 tk1 hg F1 N1 _ G1 D1 C1
  have hlxg : g.IsList lx vx.toArray := by obtain ⟨o, ho, r⟩ := hlx; exact ⟨o, hg _ _ ho (by simp), r⟩
  have hlyg : g.IsList ly vy.toArray := by obtain ⟨o, ho, r⟩ := hly; exact ⟨o, hg _ _ ho (by simp), r⟩
  have hh := C1.hh
  have hu64 := C1.u64
  have hfr := C.fr
  obtain ⟨B1, X1, T1⟩ := G1
  clear C F N hlx hly G
  obtain ⟨frs, Fs, F1, N1, st, hap, hgf⟩ := framesOut B1 D1 F1 N1
  have hlx := isList_hide Fs hgf hlxg
  have hly := isList_hide Fs hgf hlyg
  have Xh := GB.X.keeps st
  have Th := GB.T.keeps st
  generalize hgh : hideAll g (frOf (env :: outer)) = gh at *
  clear X1 T1
  simp only [List.nil_append] at N1
  ((try first | refine genQ (fun Qx hQx => ?_)); k_steps)
  rename_i lm _ q1 _ _ lu _ q2 _ F2 N2
  unfold Stop
  refine ksw_while (DSt.led lm lu) DSt.ps (fun _ => True) [("e" : Str), "a"] (DSt.Ok xs ys frs) (fun c => (xs.length - c.i) + (ys.length - c.j)) ⟨0, 0, [], [], 0, [], [], 0, tk1, tk1, frs⟩ F2 N2 trivial ?_ ?_ ?_ (.never)
  · intro p hp; simp only [DSt.ps, List.mem_cons, List.not_mem_nil, or_false] at hp; rcases hp with h | h <;> subst h <;> rfl
  · exact ⟨Nat.zero_le _, Nat.zero_le _, TI.SameUp.refl _, .nil, .nil, Nat.zero_le _, Nat.zero_le _, rfl⟩
  rintro ⟨i, j, vm, am, nm, vu, au, nu, ti, tj, frs₁⟩ u h5 tk5 _ ⟨hi, hj, SU, hIm, hIu, hlm, hlu, hsld⟩ F5 N5
  dsimp only [DSt.led, DSt.ps] at *
  simp only [kstB] at F5
  have hf1 : ∀ p ∈ frs₁, p.1 < lm := fun p hp => by
    obtain ⟨x, hx, e⟩ := SU.fwd p hp
    rw [e]; exact q1 x hx
  have hf2 : ∀ p ∈ frs₁, p.1 ≠ lm := fun p hp => Nat.ne_of_lt (hf1 p hp)
  have hml : lm < lu := q2.1
  have hne : lm ≠ lu := Nat.ne_of_lt hml
  have hf3 : ∀ p ∈ (lm, W.listOf vm.toArray nm) :: frs₁, p.1 ≠ lu := ne_cons hne fun p hp => Nat.ne_of_lt (Nat.lt_trans (hf1 p hp) hml)
  have b1 : vm.length ≤ 2000 := by rw [hIm.length]; omega
  have b2 : vu.length ≤ 2000 := by rw [hIu.length]; omega
  ((try first | refine genQ (fun Qx hQx => ?_)); k_steps)
  unfold Stop
  refine try_cut (DNt xs ys frs gh L' lx ly lm lu s) ?_ ?_
  · intro K hK
    have e1 : ((i : Int)).toNat = i := by omega
    have e2 : ((j : Int)).toNat = j := by omega
    have e3 : ((i : Int) + 1).toNat = i + 1 := by omega
    have e4 : ((j : Int) + 1).toNat = j + 1 := by omega
    rcases Nat.lt_or_ge i xs.length with hi' | hi'
    · rcases Nat.lt_or_ge j ys.length with hj' | hj'
      · have dx := drop_get hi'
        have dy := drop_get hj'
        ((try first | refine genQ (fun Qx hQx => ?_)); k_steps)
        · rename _ < _ => hlt
          simp only [e1, e2] at hlt
          have ok : ∀ ti' v t, v = Value.int (xs.getD i 0) t → DSt.Ok xs ys frs ⟨i + 1, j, vm ++ [v], am ++ [xs.getD i 0], nm + 1, vu, au, nu, ti', tj, frs₁⟩ := by
            rintro ti' v t rfl
            refine ⟨hi', hj, SU, hIm.append (.cons _ _ .nil), hIu, by simp; omega, hlu, ?_⟩
            rw [hsld, dx, dy, sld_lt hlt]
            simp
          unfold Stop
          refine while_no ?_
          rcases Nat.lt_or_ge (i + 1) xs.length with hi2 | hi2
          · have hr := rise hpx hi2
            ((try first | refine genQ (fun Qx hQx => ?_)); k_steps)
            unfold Stop
            refine ⟨?_, ?_⟩
            · simp only [e1, e3]
              simp only [beq_eq_false_iff_ne, ne_eq]
              omega
            ((try first | refine genQ (fun Qx hQx => ?_)); k_steps)
            rename Fr _ _ _ _ => F'
            rename News _ _ _ _ => N'
            simp only [List.push_toArray, e1] at N'
            unfold Stop
            refine D_end ⟨i + 1, j, vm ++ [_], am ++ [xs.getD i 0], nm + 1, vu, au, nu, _, tj, frs₁⟩ F' N' (ok _ _ _ rfl) rfl rfl ?_ (by dsimp only; omega)
            intro z z1 z2 z3 z4
            simp only [if_neg z1, if_neg z2, if_neg z3, if_neg z4, notin2' z3 z4, Bool.false_eq_true, if_false]
          · have hout : Out vx ((i : Int) + 1) := ⟨i + 1, rfl, by rw [hIx.length]; exact hi2, by omega⟩
            ((try first | refine genQ (fun Qx hQx => ?_)); k_steps)
            unfold Stop
            rename NewE _ _ _ _ _ => hx
            rename Fr _ _ _ _ => F'
            rename News _ _ _ _ => N'
            simp only [List.push_toArray, e1] at N'
            refine DNt.noteG ⟨i + 1, j, vm ++ [_], am ++ [xs.getD i 0], nm + 1, vu, au, nu, _, tj, frs₁⟩ (hK _) hfr Fs (ok _ _ _ rfl) (.inl (by dsimp only; omega)) q1 hml hx F' N' rfl rfl rfl rfl rfl rfl ⟨_, _, rfl⟩ rfl
        · rename _ < _ => hlt
          simp only [e1, e2] at hlt
          have ok : ∀ tj' v t, v = Value.int (ys.getD j 0) t → DSt.Ok xs ys frs ⟨i, j + 1, vm, am, nm, vu ++ [v], au ++ [ys.getD j 0], nu + 1, ti, tj', frs₁⟩ := by
            rintro tj' v t rfl
            refine ⟨hi, hj', SU, hIm, hIu.append (.cons _ _ .nil), hlm, by simp; omega, ?_⟩
            rw [hsld, dx, dy, sld_gt hlt]
            simp
          unfold Stop
          refine while_no ?_
          rcases Nat.lt_or_ge (j + 1) ys.length with hj2 | hj2
          · have hr := rise hpy hj2
            ((try first | refine genQ (fun Qx hQx => ?_)); k_steps)
            unfold Stop
            refine ⟨?_, ?_⟩
            · simp only [e2, e4]
              simp only [beq_eq_false_iff_ne, ne_eq]
              omega
            ((try first | refine genQ (fun Qx hQx => ?_)); k_steps)
            rename Fr _ _ _ _ => F'
            rename News _ _ _ _ => N'
            simp only [List.push_toArray, e2] at N'
            unfold Stop
            refine D_end ⟨i, j + 1, vm, am, nm, vu ++ [_], au ++ [ys.getD j 0], nu + 1, ti, _, frs₁⟩ F' N' (ok _ _ _ rfl) rfl rfl ?_ (by dsimp only; omega)
            intro z z1 z2 z3 z4
            simp only [if_neg z1, if_neg z2, if_neg z3, if_neg z4, notin2' z3 z4, Bool.false_eq_true, if_false]
          · have hout : Out vy ((j : Int) + 1) := ⟨j + 1, rfl, by rw [hIy.length]; exact hj2, by omega⟩
            ((try first | refine genQ (fun Qx hQx => ?_)); k_steps)
            unfold Stop
            rename NewE _ _ _ _ _ => hx
            rename Fr _ _ _ _ => F'
            rename News _ _ _ _ => N'
            simp only [List.push_toArray, e2] at N'
            refine DNt.noteG ⟨i, j + 1, vm, am, nm, vu ++ [_], au ++ [ys.getD j 0], nu + 1, ti, _, frs₁⟩ (hK _) hfr Fs (ok _ _ _ rfl) (.inr (by dsimp only; omega)) q1 hml hx F' N' rfl rfl rfl rfl rfl rfl ⟨_, _, rfl⟩ rfl
        · rename ¬ (ys.getD _ _ < xs.getD _ _) => hl2
          rename ¬ (xs.getD _ _ < ys.getD _ _) => hl1
          simp only [e1, e2] at hl1 hl2
          have ok : ∀ ti' tj' frs₂, TI.SameUp frs frs₂ → DSt.Ok xs ys frs ⟨i + 1, j + 1, vm, am, nm, vu, au, nu, ti', tj', frs₂⟩ := by
            intro ti' tj' frs₂ SU2
            refine ⟨hi', hj', SU2, hIm, hIu, by dsimp only; omega, by dsimp only; omega, ?_⟩
            rw [hsld, dx, dy, sld_eq hl1 hl2]
          unfold Stop
          refine wpAny_Try_finally ?_
          ((try first | refine genQ (fun Qx hQx => ?_)); k_steps)
          unfold Stop
          refine while_no ?_
          rcases Nat.lt_or_ge (i + 1) xs.length with hi2 | hi2
          · have hr := rise hpx hi2
            ((try first | refine genQ (fun Qx hQx => ?_)); k_steps)
            unfold Stop
            refine ⟨?_, ?_⟩
            · simp only [e1, e3]
              simp only [beq_eq_false_iff_ne, ne_eq]
              omega
            ((try first | refine genQ (fun Qx hQx => ?_)); k_steps)
            unfold Stop
            refine while_no ?_
            rcases Nat.lt_or_ge (j + 1) ys.length with hj2 | hj2
            · have hr2 := rise hpy hj2
              ((try first | refine genQ (fun Qx hQx => ?_)); k_steps)
              unfold Stop
              refine ⟨?_, ?_⟩
              · simp only [e2, e4]
                simp only [beq_eq_false_iff_ne, ne_eq]
                omega
              ((try first | refine genQ (fun Qx hQx => ?_)); k_steps)
              rename Fr _ _ _ _ => F'
              rename News _ _ _ _ => N'
              unfold Stop
              refine D_end ⟨i + 1, j + 1, vm, am, nm, vu, au, nu, _, _, frs₁⟩ F' N' (ok _ _ _ SU) rfl rfl ?_ (by dsimp only; omega)
              intro z z1 z2 z3 z4
              simp only [if_neg z1, if_neg z2, if_neg z3, if_neg z4, notin2' z3 z4, Bool.false_eq_true, if_false]
            · have hout : Out vy ((j : Int) + 1) := ⟨j + 1, rfl, by rw [hIy.length]; exact hj2, by omega⟩
              ((try first | refine genQ (fun Qx hQx => ?_)); k_steps)
              rename NewE _ _ _ _ _ => hx
              rename Fr _ _ _ _ => F'
              rename News _ _ _ _ => N'
              unfold notedBy
              refine DNt.noteG ⟨i + 1, j + 1, vm, am, nm, vu, au, nu, _, _, frs₁⟩ (fun s₂ h => DNt.came hK h) hfr Fs (ok _ _ _ SU) (.inr (by dsimp only; omega)) q1 hml hx F' N' rfl rfl rfl rfl rfl rfl ⟨_, _, rfl⟩ rfl
          · have hout : Out vx ((i : Int) + 1) := ⟨i + 1, rfl, by rw [hIx.length]; exact hi2, by omega⟩
            ((try first | refine genQ (fun Qx hQx => ?_)); k_steps)
            unfold Stop
            rename NewE _ _ _ _ _ => hx
            rename Fr _ _ _ _ => F'
            rename News _ _ _ _ => N'
            have hap2 : ∀ p ∈ [(lu, W.listOf vu.toArray nu), (lm, W.listOf vm.toArray nm)], p.1 ∉ frs₁.map (·.1) := by
              intro p hp hm
              obtain ⟨q, hq, e⟩ := List.mem_map.mp hm
              have h1 := hf1 q hq
              simp only [List.mem_cons, List.not_mem_nil, or_false] at hp
              rcases hp with rfl | rfl
              · rw [e] at h1; exact absurd (Nat.lt_trans h1 hml) (Nat.lt_irrefl _)
              · rw [e] at h1; exact absurd h1 (Nat.lt_irrefl _)
            rename_i h6 tk6 e6 ws6 y6
            refine hand_note (new := [(lu, W.listOf vu.toArray nu), (lm, W.listOf vm.toArray nm)]) hfr (Fs.up SU) hx F' N' hap2 (fun h7 frs2 T7 oe7 oT7 SU2 Fs2 F7 N7 H7 => ?_) rfl
            refine ⟨ref_ne_byPass _, hand_again N7 H7 (hand_flight F7 N7 H7 fun h8 oT8 F8 N8 H8 => ?_)⟩
            clear F7 N7 H7 F' N'
            simp only [List.cons_append, List.nil_append] at N8
            k_steps
            unfold Stop
            refine while_no ?_
            rcases Nat.lt_or_ge (j + 1) ys.length with hj2 | hj2
            · have hr2 := rise hpy hj2
              k_steps
              unfold Stop
              refine ⟨?_, ?_⟩
              · simp only [e2, e4]
                simp only [beq_eq_false_iff_ne, ne_eq]
                omega
              rename Fr _ _ _ _ => F9
              rename News _ _ _ _ => N9
              refine wpAny_pure ?_
              refine hand_pass F9 N9 H8 fun h9 oT9 F9 N9 H9 => ?_
              exact DNt.again hK (DNt.mk' ⟨i + 1, j + 1, vm, am, nm, vu, au, nu, _, _, frs2⟩ (ok _ _ _ (SU.trans SU2)) (.inl (by dsimp only; omega)) F9 N9 H9 rfl rfl rfl rfl rfl rfl)
            · have hout : OutC vy ((j : Int) + 1) := ⟨j + 1, rfl, by rw [hIy.length]; exact hj2, by omega⟩
              ((try first | refine genQ (fun Qx hQx => ?_)); k_steps)
              rename Fr _ _ _ _ => F9
              rename News _ _ _ _ => N9
              unfold Stop
              refine item_outC (e := e6) (j := j + 1) rfl (N9 _ (.head _)).1 H8.d (by simpa [Array.getElem?_setIfInBounds] using y6) (F9.lst hly) (by rw [List.size_toArray, hIy.length]; exact hj2) (by omega) rfl ?_ (by with_unfolding_all rfl)
              intro h10 tk10 x10 ws10 hx10
              show wpAny _ _ (noteFrame _ _) _ _ _
              refine DNt.noteG (A := A.mark (some (.ref e6))) ⟨i + 1, j + 1, vm, am, nm, vu, au, nu, _, _, frs2⟩ (fun s₂ h => DNt.came hK h) hfr Fs (ok _ _ _ (SU.trans SU2)) (.inl (by dsimp only; omega)) q1 hml hx10 F9 (fun p hp => N9 p (.tail _ (.tail _ hp))) rfl rfl rfl rfl rfl rfl ⟨_, _, rfl⟩ rfl
      · have hout : Out vy (j : Int) := ⟨j, rfl, by rw [hIy.length]; exact hj', by omega⟩
        ((try first | refine genQ (fun Qx hQx => ?_)); k_steps)
        unfold Stop
        rename NewE _ _ _ _ _ => hx
        rename Fr _ _ _ _ => F'
        rename News _ _ _ _ => N'
        refine DNt.noteG ⟨i, j, vm, am, nm, vu, au, nu, ti, tj, frs₁⟩ (hK _) hfr Fs ⟨hi, hj, SU, hIm, hIu, hlm, hlu, hsld⟩ (.inr (by dsimp only; omega)) q1 hml hx F' N' rfl rfl rfl rfl rfl rfl ⟨_, _, rfl⟩ rfl
    · have hout : Out vx (i : Int) := ⟨i, rfl, by rw [hIx.length]; exact hi', by omega⟩
      ((try first | refine genQ (fun Qx hQx => ?_)); k_steps)
      unfold Stop
      rename NewE _ _ _ _ _ => hx
      rename Fr _ _ _ _ => F'
      rename News _ _ _ _ => N'
      refine DNt.noteG ⟨i, j, vm, am, nm, vu, au, nu, ti, tj, frs₁⟩ (hK _) hfr Fs ⟨hi, hj, SU, hIm, hIu, hlm, hlu, hsld⟩ (.inl (by dsimp only; omega)) q1 hml hx F' N' rfl rfl rfl rfl rfl rfl ⟨_, _, rfl⟩ rfl
  · rintro e s₂ ⟨⟨i', j', vm', am', nm', vu', au', nu', ti', tj', frs'⟩, e', T, oe, oT, vs, h7, tk7, m7, rfl, rfl, ⟨hi', hj', SU', hIm', hIu', hlm', hlu', hsld'⟩, out, F7, N7, H7⟩
    simp only [DSt.all, DSt.led] at F7 N7 H7 hi' hj' SU' hIm' hIu' hlm' hlu' hsld' out
    refine hand_flight F7 N7 H7 fun h8 oT8 F8 N8 H8 => ?_
    refine hand_caught (T' := "IndexError") F8 N8 H8 Th PyProof.Rows.Boot.«IndexError» PySem.F.isExc_IndexError PySem.F.notTuple_IndexError (by rw [isSubtype_type]; kernel_rfl) ?_ (by decide +kernel) (by decide +kernel) (by decide +kernel) (by decide +kernel) (by decide +kernel) (by decide +kernel) (by rfl) (by rfl) (by decide) (by passes_own)
    intro h9 F9 N9
    simp only [kstB] at F9
    clear F8 N8 F7 N7 H7 H8
    have g1 : ∀ p ∈ frs', p.1 < lm := fun p hp => by
      obtain ⟨x, hx, e⟩ := SU'.fwd p hp
      rw [e]; exact q1 x hx
    have g2 : ∀ p ∈ frs', p.1 ≠ lm := fun p hp => Nat.ne_of_lt (g1 p hp)
    have g3 : ∀ p ∈ (lm, W.listOf vm'.toArray nm') :: frs', p.1 ≠ lu := ne_cons hne fun p hp => Nat.ne_of_lt (Nat.lt_trans (g1 p hp) hml)
    have c1 : vm'.length ≤ 2000 := by rw [hIm'.length]; omega
    have c2 : vu'.length ≤ 2000 := by rw [hIu'.length]; omega
    ((try first | refine genQ (fun Qx hQx => ?_)); k_steps)
    rename Fr _ _ _ _ => F10
    rename News _ _ _ _ => N10
    unfold Stop
    refine kmk_slice_ints (ms := xs.drop i') (lo := some i') (hi := none) F10 N10 (F10.lst hlx) ?kp ?kq hIx (pick_from hIx) rfl ?_ (by with_unfolding_all rfl) (by kmk_pure) (by kmk_size)
    case kp => kmk_part
    case kq => kmk_part
    intro d1 ws1 h11 F11 N11 hd1 hI1 _ _
    have k1 : d1 ≠ lm := Nat.ne_of_gt (hd1 _ (.tail _ (.head _)))
    have k2 : d1 ≠ lu := Nat.ne_of_gt (hd1 _ (.head _))
    ((try first | refine genQ (fun Qx hQx => ?_)); k_steps)
    unfold Stop
    refine extend_any F11 N11 (.head _) (.tail k1 (.tail (Ne.symm hne) (.head g2))) c1 (by rw [hI1.length, List.length_drop]; omega) ?_
    intro h12 nm12 F12 N12
    ((try first | refine genQ (fun Qx hQx => ?_)); k_steps)
    rename Fr _ _ _ _ => F13
    rename News _ _ _ _ => N13
    unfold Stop
    refine kmk_slice_ints (ms := ys.drop j') (lo := some j') (hi := none) F13 N13 (F13.lst hly) ?kp ?kq hIy (pick_from hIy) rfl ?_ (by with_unfolding_all rfl) (by kmk_pure) (by kmk_size)
    case kp => kmk_part
    case kq => kmk_part
    intro d2 ws2 h14 F14 N14 hd2 hI2 _ _
    have k3 : d2 ≠ lu := Nat.ne_of_gt (hd2 _ (.tail _ (.head _)))
    ((try first | refine genQ (fun Qx hQx => ?_)); k_steps)
    unfold Stop
    refine extend_any F14 N14 (.head _) (.tail k3 (.tail k2 (.head (ne_cons hne fun p hp => Nat.ne_of_lt (Nat.lt_trans (g1 p hp) hml))))) c2 (by rw [hI2.length, List.length_drop]; omega) ?_
    intro h15 nm15 F15 N15
    ((try first | refine genQ (fun Qx hQx => ?_)); k_steps)
    rename Fr _ _ _ _ => F16
    rename News _ _ _ _ => N16
    show wpAny _ _ (execs [Stmt.Return _ _] _) _ _ _
    ((try first | refine genQ (fun Qx hQx => ?_)); k_steps)
    rename Fr _ _ _ _ => F17
    rename News _ _ _ _ => N17
    unfold Stop
    rename_i tp h18 hlt
    obtain ⟨_, _, l1, l2, l3⟩ := hlt
    have l4 := allLt_mem l3
    have hres : sld xs ys = (am' ++ xs.drop i', au' ++ ys.drop j') := by
      rw [hsld', sld_out]
      rcases out with h | h
      · left; rw [h]; exact List.drop_length
      · right; rw [h]; exact List.drop_length
    have hN : News gh L' h18 ([(tp, tupObj [.ref lm, .ref lu]), (lm, W.listOf (vm' ++ ws1).toArray nm12), (lu, W.listOf (vu' ++ ws2).toArray nm15)] ++ frs') := by
      intro p hp
      refine N17 p ?_
      simp only [List.mem_append, List.mem_cons, List.not_mem_nil, or_false] at hp ⊢
      rcases hp with (h | h | h) | h
      · exact .inl h
      · exact .inr (.inr (.inr (.inr (.inl h))))
      · exact .inr (.inr (.inr (.inl h)))
      · exact .inr (.inr (.inr (.inr (.inr h))))
    subst hgh
    obtain ⟨g', KT, F18, N18, B18⟩ := framesIn B1 Fs hgf SU' F17 hN (by
      intro p hp hm
      have hm' : p.1 ∈ frs.map (·.1) := by rw [← Fs.addrs]; exact hm
      obtain ⟨q, hq, e⟩ := List.mem_map.mp hm'
      have h1 := q1 q hq
      rw [e] at h1
      simp only [List.mem_cons, List.not_mem_nil, or_false] at hp
      rcases hp with rfl | rfl | rfl
      · exact absurd (Nat.lt_trans h1 l2) (Nat.lt_irrefl _)
      · exact absurd h1 (Nat.lt_irrefl _)
      · exact absurd (Nat.lt_trans h1 hml) (Nat.lt_irrefl _))
    refine ⟨g', _, _, KT, F18, N18, fun h₀' T0 ho B0 Fz Nz hsep => ?_⟩
    exact hQ h₀' tp lm lu _ _ _ _ _ _ T0 ho B0 (by rw [hres]; exact hIm'.append hI1) (by rw [hres]; exact hIu'.append hI2) Fz Nz hsep hne

end Mine
end

-- part S0
section
open PySem PySem.W PyProof.Rows
namespace Mine
theorem off_S0 : True := by
  w_top off
  first | (walk1; done) | trivial
theorem fill_S0 : PySem.Challenge.rw_oh0062_01 = PySem.Challenge.rw_oh0062_01 ∧ hd.heap_1 = hd.heap_1 := by k_fill; exact ⟨rfl, rfl⟩
theorem Cr.under {A : Around} {env : Env} {outer : List Env} {L : Addr} {d : Nat} {id : String} {args : Args} (C : Cr A env outer L (d + 1)) (hw : (Code.builtin id args).weight ≤ 1) (hu : (Code.builtin id args).cUnits ≤ 8) (he : (Code.builtin id args).envs = []) :
    Cr (A.under (.builtin id args)) env outer L d := by
  refine ⟨?_, C.fl, C.ki, C.hh, ?_, ?_⟩
  · show pushEnvs (Code.builtin id args).envs A.frames = _
    rw [he, C.fr]; rfl
  · have := C.dp
    show A.depth + (Code.builtin id args).weight + d < _
    omega
  · have := C.un
    show A.units + (Code.builtin id args).cUnits + 8 * d + 200 < _
    omega
noncomputable abbrev sDict (w : World) (k0 k1 k2 k3 : Tok) (D : Addr) (rdy : Value) (np : Int) (tp : Tok) (nf : Int) (tf : Tok) : Obj :=
  dictOf [{ hash := PyData.keyHash w.params (Str.ofString "_node2info"), key := Value.str (Str.ofString "_node2info") k0, val := Value.ref D },
    { hash := PyData.keyHash w.params (Str.ofString "_ready_nodes"), key := Value.str (Str.ofString "_ready_nodes") k1, val := rdy },
    { hash := PyData.keyHash w.params (Str.ofString "_npassedout"), key := Value.str (Str.ofString "_npassedout") k2, val := Value.int np tp },
    { hash := PyData.keyHash w.params (Str.ofString "_nfinished"), key := Value.str (Str.ofString "_nfinished") k3, val := Value.int nf tf }] 4
theorem sorter_new {w : World} {A₀ A : Around} {base h₀ : Heap} {env : Env} {outer : List Env} {L : Addr} {m : Str → Option Value} {news : List (Addr × Obj)} {mean mg mb} {s : Shared} {Q : Value → Shared → Prop} {E : Value → Shared → Prop}
    (G : Gd w A₀ base outer h₀ mean mg mb) (C : Cr A env outer L 2) (F : Fr h₀ L s.heap m) (N : News h₀ L s.heap news)
    (hQ : ∀ (x dx D : Addr) (oD : Obj) k0 k1 k2 k3 tp tf h' tk, Obj.IsDictOf (intKind pw w) oD [] → (D == sysModules) = false → x ≠ dx → x ≠ D → dx ≠ D → Fr h₀ L h' m → News h₀ L h' ((D, oD) :: (x, instObj 158 dx) :: (dx, sDict w k0 k1 k2 k3 D .none 0 tp 0 tf) :: news) →
      (∀ p ∈ [(D, oD), (x, instObj 158 dx), (dx, sDict w k0 k1 k2 k3 D .none 0 tp 0 tf)], ∀ q ∈ news, p.1 ≠ q.1) → Q (.ref x) { s with heap := h', toks := tk }) :
    wpAny (model pw w) A (call (.ref 158) []) Q E s := by
  refine call_cls (K := hd.heap_1 w.params) F G.X N (by k_is) (by k_is) (by k_is) ?_
  intro x dx h1 F1 N1 hl1 hl2
  have C0 : Cr (A.under (.builtin "type.__call__" { pos := [Value.ref 158] })) env outer L 1 := C.under (by decide +kernel) (by decide +kernel) rfl
  have hsep : ∀ p ∈ [(x, instObj 158 dx), (dx, dictOf [] 0)], ∀ q ∈ news, p.1 ≠ q.1 := by
    intro p hp q hq
    simp only [List.mem_cons, List.not_mem_nil, or_false] at hp
    rcases hp with rfl | rfl
    · exact Nat.ne_of_gt (Nat.lt_trans (hl1 q hq) hl2)
    · exact Nat.ne_of_gt (hl1 q hq)
  refine codeAny_mono (R := fun r s' => match r with | .ok (.ret v) => (fun v s' => v = .none ∧ Q (.ref x) s') v s' | .ok _ => False | .error e => (fun _ _ => False) e s') (enterQ [(("self" : Str), Value.ref x), ("graph", Value.none)] [(x, instObj 158 dx), (dx, dictOf [] 0)] news G C0 F1 N1 hsep (by k_is) (by k_is) ?_ (locs rfl) rfl rfl rfl (by decide) ?_) ?_
  · exact binds_K (K := hd.heap_1 w.params) (G.X.keeps F1.keep) rfl (by k_is) rfl rfl rfl
  · intro g L' h2 tk2 hg F2 N2 lt2 G2 C2
    have hh := C2.hh
    have hu64 := C2.u64
    have q1 : @LT.lt Nat _ x L' := lt2 _ (.head _)
    have q2 : @LT.lt Nat _ dx L' := lt2 _ (.tail _ (.head _))
    have q3 : @LT.lt Nat _ dx x := hl2
    obtain ⟨B2, X2, T2⟩ := G2
    clear C G F N F1 N1
    ((try first | refine genQ (fun Qx hQx => ?_)); k_steps)
    rename Fr _ _ _ _ => F'
    rename News _ _ _ _ => N'
    rename Obj.IsDictOf (intKind pw w) _ _ => hi'
    rename (_ == sysModules) = false => lo'
    rename _ ∧ _ => l1
    unfold Stop
    exact ⟨_, _, F', N', fun Fz Nz hz => ⟨rfl, hQ x dx _ _ _ _ _ _ _ _ _ _ hi' lo' (Nat.ne_of_gt hl2) (neN (by omega)) (neN (by omega)) Fz Nz hz⟩⟩
  · rintro (e | f) s' hr
    · exact hr.elim
    · cases f with
      | ret v => exact hr
      | _ => exact hr.elim

end Mine
end

-- part S1
section
open PySem PySem.W PyProof.Rows
namespace Mine
theorem off_S1 : True := by
  w_top off
  first | (walk1; done) | trivial
theorem fill_S1 : PySem.Challenge.rw_oh0062_01 = PySem.Challenge.rw_oh0062_01 ∧ hd.heap_1 = hd.heap_1 := by k_fill; exact ⟨rfl, rfl⟩
noncomputable abbrev niObj (dx : Addr) (k : Int) (t : Tok) (np : Int) (tn : Tok) (l : Addr) : Obj := { cls := Value.ref 61, dict := some dx, slots := #[some (Value.int k t), some (Value.int np tn), some (Value.ref l)] }
theorem ni_new {w : World} {A₀ A : Around} {base h₀ : Heap} {env : Env} {outer : List Env} {L : Addr} {m : Str → Option Value} {news : List (Addr × Obj)} {mean mg mb} {s : Shared} {Q : Value → Shared → Prop} {E : Value → Shared → Prop} {k : Int} {t : Tok}
    (G : Gd w A₀ base outer h₀ mean mg mb) (C : Cr A env outer L 2) (F : Fr h₀ L s.heap m) (N : News h₀ L s.heap news)
    (hQ : ∀ (x dx l : Addr) tn h' tk, (∀ p ∈ news, p.1 < dx) → dx < x → x < l → Fr h₀ L h' m → News h₀ L h' ((l, W.listOf #[] 0) :: (x, niObj dx k t 0 tn l) :: (dx, dictOf [] 0) :: news) → Q (.ref x) { s with heap := h', toks := tk }) :
    wpAny (model pw w) A (call (.ref 61) [.int k t]) Q E s := by
  refine call_cls (K := hd.heap_1 w.params) F G.X N (by k_is) (by k_is) (by k_is) ?_
  intro x dx h1 F1 N1 hl1 hl2
  have C0 : Cr (A.under (.builtin "type.__call__" { pos := [Value.ref 61, .int k t] })) env outer L 1 := C.under (by with_unfolding_all exact Nat.le_of_ble_eq_true rfl) (by with_unfolding_all exact Nat.le_of_ble_eq_true rfl) rfl
  have hsep : ∀ p ∈ [(x, instObj 61 dx), (dx, dictOf [] 0)], ∀ q ∈ news, p.1 ≠ q.1 := by
    intro p hp q hq
    simp only [List.mem_cons, List.not_mem_nil, or_false] at hp
    rcases hp with rfl | rfl
    · exact Nat.ne_of_gt (Nat.lt_trans (hl1 q hq) hl2)
    · exact Nat.ne_of_gt (hl1 q hq)
  refine codeAny_mono (R := fun r s' => match r with | .ok (.ret v) => (fun v s' => v = .none ∧ Q (.ref x) s') v s' | .ok _ => False | .error e => (fun _ _ => False) e s') (enterQ [(("self" : Str), Value.ref x), ("node", Value.int k t)] [(x, instObj 61 dx), (dx, dictOf [] 0)] news G C0 F1 N1 hsep (by k_is) (by k_is) (BindsTo.of_eq rfl) (locs rfl) rfl rfl rfl (by decide) ?_) ?_
  · intro g L' h2 tk2 hg F2 N2 lt2 G2 C2
    have hh := C2.hh
    have hu64 := C2.u64
    have q1 : @LT.lt Nat _ x L' := lt2 _ (.head _)
    have q2 : @LT.lt Nat _ dx L' := lt2 _ (.tail _ (.head _))
    have q3 : @LT.lt Nat _ dx x := hl2
    obtain ⟨B2, X2, T2⟩ := G2
    clear C G F N F1 N1
    ((try first | refine genQ (fun Qx hQx => ?_)); k_steps)
    rename Fr _ _ _ _ => F'
    rename News _ _ _ _ => N'
    rename _ ∧ _ => l1
    unfold Stop
    exact ⟨_, _, F', N', fun Fz Nz hz => ⟨rfl, hQ x dx _ _ _ _ hl1 hl2 l1.1 Fz Nz⟩⟩
  · rintro (e | f) s' hr
    · exact hr.elim
    · cases f with
      | ret v => exact hr
      | _ => exact hr.elim

end Mine
end

-- part S2
section
open PySem PySem.W PyProof.Rows
namespace Mine
theorem off_S2 : True := by
  w_top off
  first | (walk1; done) | trivial
theorem fill_S2 : PySem.Challenge.rw_oh0062_01 = PySem.Challenge.rw_oh0062_01 ∧ hd.heap_1 = hd.heap_1 := by k_fill; exact ⟨rfl, rfl⟩
local macro_rules | `(tactic| walk_at "call builtin:dict.get") => `(tactic| refine stopMark ?_)
local macro_rules | `(tactic| walk_at "setItem") => `(tactic| refine stopMark ?_)
structure Nd where
  key : Int
  tk : Tok
  a : Addr
  dx : Addr
  l : Addr
  np : Int
  tn : Tok
  vs : List Value
  nl : Nat
noncomputable def Nd.led (n : Nd) : List (Addr × Obj) := [(n.l, W.listOf n.vs.toArray n.nl), (n.a, niObj n.dx n.key n.tk n.np n.tn n.l), (n.dx, dictOf [] 0)]
noncomputable def ndsLed (ns : List Nd) : List (Addr × Obj) := ns.flatMap Nd.led
noncomputable def kvsOf (ns : List Nd) : List (Int × Value) := ns.map fun n => (n.key, .ref n.a)
/-- where a sorter lies -/
structure Sc where
  x : Addr
  dx : Addr
  D : Addr
  k0 : Tok
  k1 : Tok
  k2 : Tok
  k3 : Tok
structure SOk (c : Sc) (ns : List Nd) : Prop where
  d1 : c.x ≠ c.dx
  d2 : c.x ≠ c.D
  d3 : c.dx ≠ c.D
  ap : ∀ p ∈ ndsLed ns, p.1 ≠ c.x ∧ p.1 ≠ c.dx ∧ p.1 ≠ c.D
  nd : ((ndsLed ns).map (·.1)).Nodup
  lo : (c.D == sysModules) = false
theorem news_upd1 {h₀ h h' : Heap} {L d : Addr} {o' : Obj} {led led' : List (Addr × Obj)} (N : News h₀ L h led) (hs : Heap.SameBut d h h') (hd : h'.get? d = some o') (hn : h₀.get? d = none) (hL : d ≠ L) (hl : ∀ p ∈ led', p = (d, o') ∨ (p ∈ led ∧ p.1 ≠ d)) : News h₀ L h' led' := by
  intro p hp
  rcases hl p hp with rfl | ⟨h1, h2⟩
  · exact ⟨hd, hL, hn⟩
  · exact ⟨(hs.2 p.1 h2).trans (N p h1).1, (N p h1).2⟩
theorem dget {w : World} {A : Around} {s : Shared} {Q E : Value → Shared → Prop} {d : Addr} {kvs : List (Int × Value)} {k : Int} {t : Tok} (hm : s.heap.DictOf (intKind pw w) d kvs) (lo : (d == sysModules) = false) (h : Q ((valueAt kvs k).getD .none) { s with toks := s.toks + 1 }) :
    wpAny (model pw w) A (call (.builtin "dict.get") [.ref d, .int k t]) Q E s :=
  call_meetsIn PySem.F.slot_dict_get hm.typeIs PySem.F.entry_dict_get (PySem.F.args_dict_get_2 _ _) (meets_dict_get _ d (intKind_is _ _ _ _) lo) ⟨_, hm.mapOf, h⟩
/-- the node of a key, made where it was not there -/
structure Got (ns : List Nd) (k : Int) (ns' : List Nd) (n : Nd) : Prop where
  mem : n ∈ ns'
  key : n.key = k
  how : ns' = ns ∨ ((∀ y ∈ ns, y.key ≠ k) ∧ ns' = ns ++ [n] ∧ n.np = 0 ∧ n.vs = [])
theorem kvs_some {ns : List Nd} {k : Int} {v : Value} (h : valueAt (kvsOf ns) k = some v) : ∃ n ∈ ns, n.key = k ∧ v = .ref n.a := by
  unfold valueAt kvsOf at h
  rw [List.find?_map, Option.map_map] at h
  obtain ⟨n, hn, e⟩ := Option.map_eq_some_iff.mp h
  have h1 := List.mem_of_find?_eq_some hn
  have h2 := List.find?_some hn
  exact ⟨n, h1, by simpa using h2, by simpa using e.symm⟩
theorem kvs_none {ns : List Nd} {k : Int} (h : valueAt (kvsOf ns) k = none) : ∀ n ∈ ns, n.key ≠ k := by
  intro n hn e
  have : k ∈ (kvsOf ns).map (·.1) := by unfold kvsOf; rw [List.map_map]; exact List.mem_map.mpr ⟨n, hn, e⟩
  have h2 := valueAt_isSome_eq_any (kvsOf ns) k
  rw [h] at h2
  obtain ⟨p, hp, e'⟩ := List.mem_map.mp this
  have : (kvsOf ns).any (fun kv => kv.1 = k) = true := List.any_eq_true.mpr ⟨p, hp, by simpa using e'⟩
  rw [this] at h2; cases h2
theorem ndsLed_snoc (ns : List Nd) (n : Nd) : ndsLed (ns ++ [n]) = ndsLed ns ++ n.led := by simp [ndsLed]
theorem nodup_snoc3 {l : List Addr} {a b c : Addr} (h : l.Nodup) (hl : ∀ x ∈ l, x < c) (h1 : c < b) (h2 : b < a) : (l ++ [a, b, c]).Nodup := by
  rw [List.nodup_append]
  refine ⟨h, ?_, ?_⟩
  · simp only [List.nodup_cons, List.mem_cons, List.not_mem_nil, or_false, not_or, not_false_iff, List.nodup_nil, and_true]
    exact ⟨⟨Nat.ne_of_gt h2, Nat.ne_of_gt (Nat.lt_trans h1 h2)⟩, Nat.ne_of_gt h1⟩
  · intro x hx y hy e
    have h3 := hl x hx
    simp only [List.mem_cons, List.not_mem_nil, or_false] at hy
    subst e
    rcases hy with rfl | rfl | rfl
    · exact absurd (Nat.lt_trans h1 h2) (Nat.not_lt.mpr (Nat.le_of_lt h3))
    · exact absurd h1 (Nat.not_lt.mpr (Nat.le_of_lt h3))
    · exact absurd h3 (Nat.lt_irrefl _)
theorem kvs_size {ns : List Nd} (h : ns.length ≤ 1000) : (kvsOf ns).length ≤ sizeLine := by
  have e : (1000 : Nat) ≤ sizeLine := by decide
  simp only [kvsOf, List.length_map]
  omega
theorem gni_call {w : World} {A₀ A : Around} {base h₀ : Heap} {env : Env} {outer : List Env} {L : Addr} {m : Str → Option Value} {rest : List (Addr × Obj)} {mean mg mb} {s : Shared} {Q : Value → Shared → Prop} {E : Value → Shared → Prop} {k : Int} {t : Tok} {c : Sc} {oD : Obj} {np nf : Int} {tp tf : Tok} {ns : List Nd}
    (G : Gd w A₀ base outer h₀ mean mg mb) (C : Cr A env outer L 3) (F : Fr h₀ L s.heap m) (N : News h₀ L s.heap (((c.D, oD) :: (c.x, instObj 158 c.dx) :: (c.dx, sDict w c.k0 c.k1 c.k2 c.k3 c.D .none np tp nf tf) :: ndsLed ns) ++ rest))
    (hsep : ∀ p ∈ (c.D, oD) :: (c.x, instObj 158 c.dx) :: (c.dx, sDict w c.k0 c.k1 c.k2 c.k3 c.D .none np tp nf tf) :: ndsLed ns, ∀ q ∈ rest, p.1 ≠ q.1)
    (ok : SOk c ns) (hD : Obj.IsDictOf (intKind pw w) oD (kvsOf ns)) (hlen : ns.length ≤ 1000)
    (hQ : ∀ ns' oD' n h' tk, Got ns k ns' n → Obj.IsDictOf (intKind pw w) oD' (kvsOf ns') → SOk c ns' → Fr h₀ L h' m → News h₀ L h' (((c.D, oD') :: (c.x, instObj 158 c.dx) :: (c.dx, sDict w c.k0 c.k1 c.k2 c.k3 c.D .none np tp nf tf) :: ndsLed ns') ++ rest) →
      (∀ p ∈ (c.D, oD') :: (c.x, instObj 158 c.dx) :: (c.dx, sDict w c.k0 c.k1 c.k2 c.k3 c.D .none np tp nf tf) :: ndsLed ns', ∀ q ∈ rest, p.1 ≠ q.1) → Q (.ref n.a) { s with heap := h', toks := tk }) :
    wpAny (model pw w) A (call (.ref 101) [.ref c.x, .int k t]) Q E s := by
  refine wpAny_call (enterQ [(("self" : Str), Value.ref c.x), ("node", Value.int k t)] _ rest G C F N hsep (by k_is) (by k_is) (BindsTo.of_eq rfl) (locs rfl) rfl rfl rfl (by decide) ?_)
  intro g L' h1 tk1 hg F1 N1 lt1 G1 C1
  have hh := C1.hh
  have hu64 := C1.u64
  have G2 := G1
  obtain ⟨B1, X1, T1⟩ := G1
  clear C G F N
  obtain ⟨d1, d2, d3, ap, nd, lo⟩ := ok
  k_steps
  rename Fr _ _ _ _ => F2
  rename News _ _ _ _ => N2
  unfold Stop
  have hm2 := Heap.dictOf_iff.mpr ⟨oD, (N2 _ (.head _)).1, hD⟩
  refine dget hm2 lo ?_
  cases hv : valueAt (kvsOf ns) k with
  | some v =>
    obtain ⟨n, hn, hk, rfl⟩ := kvs_some hv
    simp only [Option.getD_some]
    k_steps
    rename Fr _ _ _ _ => F3
    rename News _ _ _ _ => N3
    unfold Stop
    exact ⟨_, _, F3, N3, fun Fz Nz hz => hQ ns oD n _ _ ⟨hn, hk, .inl rfl⟩ hD ⟨d1, d2, d3, ap, nd, lo⟩ Fz Nz hsep⟩
  | none =>
    simp only [Option.getD_none]
    k_steps
    rename Fr _ _ _ _ => F3
    rename News _ _ _ _ => N3
    unfold Stop
    refine ni_new G2 C1 F3 N3 ?_
    intro xn dn ln tn h4 tk4 hl1 hl2 hl3 F4 N4
    k_steps
    unfold Stop
    have hDm : (c.D, oD) ∈ (ln, W.listOf #[] 0) :: (xn, niObj dn k t 0 tn ln) :: (dn, dictOf [] 0) :: (c.D, oD) :: (c.x, instObj 158 c.dx) :: (c.dx, sDict w c.k0 c.k1 c.k2 c.k3 c.D Value.none np tp nf tf) :: ndsLed ns := .tail _ (.tail _ (.tail _ (.head _)))
    have hm4 := Heap.dictOf_iff.mpr ⟨oD, (N4 _ hDm).1, hD⟩
    refine wpAny_setItem_pairs (knd := intKind pw w) (intKind_is _ _ _ _) hm4 ?_ (kvs_size hlen)
    intro h5 hm5 hs5
    obtain ⟨oD5, hoD5, hd5⟩ := Heap.dictOf_iff.mp hm5
    rw [stored_absent hv] at hd5
    have hDn : ∀ q ∈ (c.D, oD) :: (c.x, instObj 158 c.dx) :: (c.dx, sDict w c.k0 c.k1 c.k2 c.k3 c.D Value.none np tp nf tf) :: ndsLed ns, q.1 < dn := hl1
    have eD : c.D < dn := hDn _ (.head _)
    let n5 : Nd := ⟨k, t, xn, dn, ln, 0, tn, [], 0⟩
    have F5 := F4.change hs5 (N4 _ hDm).2.1 (N4 _ hDm).2.2
    have hled5 : ∀ p ∈ n5.led, p = (ln, W.listOf #[] 0) ∨ p = (xn, niObj dn k t 0 tn ln) ∨ p = (dn, dictOf [] 0) := by
      intro p hp
      simpa [Nd.led, n5] using hp
    have N5 : News g L' h5 ((c.D, oD5) :: (c.x, instObj 158 c.dx) :: (c.dx, sDict w c.k0 c.k1 c.k2 c.k3 c.D Value.none np tp nf tf) :: ndsLed (ns ++ [n5])) := by
      refine news_upd1 N4 hs5 hoD5 (N4 _ hDm).2.2 (N4 _ hDm).2.1 ?_
      intro p hp
      rw [ndsLed_snoc] at hp
      rcases List.mem_cons.mp hp with rfl | hp
      · exact .inl rfl
      right
      rcases List.mem_cons.mp hp with rfl | hp
      · exact ⟨.tail _ (.tail _ (.tail _ (.tail _ (.head _)))), d2⟩
      rcases List.mem_cons.mp hp with rfl | hp
      · exact ⟨.tail _ (.tail _ (.tail _ (.tail _ (.tail _ (.head _))))), d3⟩
      rcases List.mem_append.mp hp with hp | hp
      · exact ⟨.tail _ (.tail _ (.tail _ (.tail _ (.tail _ (.tail _ hp))))), (ap p hp).2.2⟩
      · rcases hled5 p hp with rfl | rfl | rfl
        · exact ⟨.head _, Nat.ne_of_gt (Nat.lt_trans eD (Nat.lt_trans hl2 hl3))⟩
        · exact ⟨.tail _ (.head _), Nat.ne_of_gt (Nat.lt_trans eD hl2)⟩
        · exact ⟨.tail _ (.tail _ (.head _)), Nat.ne_of_gt eD⟩
    have ok5 : SOk c (ns ++ [n5]) := by
      refine ⟨d1, d2, d3, ?_, ?_, lo⟩
      · intro p hp
        rw [ndsLed_snoc] at hp
        rcases List.mem_append.mp hp with hp | hp
        · exact ap p hp
        · have ex : c.x < dn := hDn _ (.tail _ (.head _))
          have edx : c.dx < dn := hDn _ (.tail _ (.tail _ (.head _)))
          have big : dn ≤ p.1 := by
            rcases hled5 p hp with rfl | rfl | rfl
            · exact Nat.le_of_lt (Nat.lt_trans hl2 hl3)
            · exact Nat.le_of_lt hl2
            · exact Nat.le_refl _
          exact ⟨Nat.ne_of_gt (Nat.lt_of_lt_of_le ex big), Nat.ne_of_gt (Nat.lt_of_lt_of_le edx big), Nat.ne_of_gt (Nat.lt_of_lt_of_le eD big)⟩
      · rw [ndsLed_snoc, List.map_append]
        refine nodup_snoc3 nd (fun z hz => ?_) hl2 hl3
        obtain ⟨p, hp, rfl⟩ := List.mem_map.mp hz
        exact hDn p (.tail _ (.tail _ (.tail _ hp)))
    have hgot : Got ns k (ns ++ [n5]) n5 := ⟨List.mem_append_right _ (.head _), rfl, .inr ⟨kvs_none hv, rfl, rfl, rfl⟩⟩
    have hd5' : Obj.IsDictOf (intKind pw w) oD5 (kvsOf (ns ++ [n5])) := by
      have e : kvsOf (ns ++ [n5]) = kvsOf ns ++ [(k, .ref xn)] := by simp [kvsOf, n5]
      rw [e]; exact hd5
    have ea : n5.a = xn := rfl
    clear_value n5
    clear N4 F4 hm4 hm5 hm2 hled5
    k_steps
    rename Fr _ _ _ _ => F6
    rename News _ _ _ _ => N6
    unfold Stop
    show LeaveQ _ _ _ _ _ _ _ _ _
    refine ⟨_, _, F6, N6, fun Fz Nz hz => ?_⟩
    rw [← ea]
    exact hQ (ns ++ [n5]) oD5 n5 _ _ hgot hd5' ok5 Fz Nz hz

end Mine
end

-- part G9
section
open PySem PySem.W PyProof.Rows
namespace Mine
theorem off_G9 : True := by
  w_top off
  first | (walk1; done) | trivial
section
variable {prog : Program} {w : World} {A : Around} {E : Value → Shared → Prop} {s : Shared} {env : Env} {h₀ : Heap} {x : Str} {body : List Stmt} {Q : Flow → Shared → Prop}
theorem forLedX {σ : Type} {I : Addr} {fp wr : List Addr} {n : Nat} {Pv : Nat → Value → Prop} {St : Nat → Heap → Prop} {m₀ : Str → Option Value}
    (Led : σ → List (Addr × Obj)) (ps : σ → List (Str × Value)) (stored : List Str) (P : Nat → σ → Prop) (c₀ : σ)
    (W : Walks prog w A I fp wr n Pv St) (hLf : env.locals ∉ fp) (hwr : ∀ b ∈ wr, h₀.get? b = none) (hnw : ∀ p ∈ Led c₀, p.1 ∉ wr) (hst : St 0 s.heap)
    (F : Fr h₀ env.locals s.heap m₀) (N : News h₀ env.locals s.heap (Led c₀)) (hk : ∀ p ∈ ps c₀, m₀ p.1 = some p.2) (hp : P 0 c₀)
    (turn : ∀ i v (c : σ) (u : Str → Option Value) h tk own, i < n → Pv i v → P i c → (∀ p ∈ Led c, p.1 ∉ wr) → (∀ p ∈ own, p.1 ∈ fp) → (∀ b ∈ fp, h₀.get? b = none → ∀ o, h.get? b = some o → (b, o) ∈ own) → St (i + 1) h →
      Fr h₀ env.locals h (fun y => if y = x then some v else kstB (fun z => if stored.contains z then u z else m₀ z) (ps c) y) → News h₀ env.locals h (Led c ++ own) →
      wpAny (model prog w) A (execs body env) (TurnEnd h₀ env.locals Led ps x stored m₀ wr own (P (i + 1)) { s with heap := h, toks := tk } Q) E { s with heap := h, toks := tk })
    (done : ∀ (c : σ) (u : Str → Option Value) h tk, P n c → Fr h₀ env.locals h (fun y => if y = x then u y else kstB (fun z => if stored.contains z then u z else m₀ z) (ps c) y) →
      News h₀ env.locals h (Led c) → Q .next { s with heap := h, toks := tk }) :
    LoopAtV prog w A h₀ env x body Q E (.ref I) s := by
  have canon : ∀ (c : σ) (m : Str → Option Value) (z : Str), (∀ p ∈ ps c, m p.1 = some p.2) → (∀ z, z ≠ x → (∀ p ∈ ps c, z ≠ p.1) → stored.contains z = false → m z = m₀ z) → z ≠ x →
      kstB (fun z => if stored.contains z then m z else m₀ z) (ps c) z = m z := by
    intro c m z h1 h2 hz
    refine kstB_eq h1 fun h3 => ?_
    cases hc : stored.contains z with
    | true => simp
    | false => simp only [Bool.false_eq_true, if_false]; exact (h2 z hz h3 hc).symm
  let J : Nat → (Str → Option Value) → List (Addr × Obj) → Prop := fun i m news =>
    ∃ c : σ, news = Led c ∧ (∀ p ∈ ps c, m p.1 = some p.2) ∧ (∀ z, z ≠ x → (∀ p ∈ ps c, z ≠ p.1) → stored.contains z = false → m z = m₀ z) ∧ P i c
  refine ⟨I, fp, wr, n, Pv, St, m₀, Led c₀, J, rfl, W, hLf, hwr, hnw, hst, F, N, ⟨c₀, rfl, hk, fun _ _ _ _ => rfl, hp⟩, ?_, ?_⟩
  · rintro i v m₁ news₁ s₁ own ⟨hh', tk', rfl⟩ hin hP ⟨c, rfl, h1, h2, hp'⟩ hoff hown _ hfpo hstn F₁ N₁
    have e : (fun y => if y = x then some v else m₁ y) = fun y => if y = x then some v else kstB (fun z => if stored.contains z then m₁ z else m₀ z) (ps c) y := by
      funext z
      by_cases hz : z = x
      · simp [hz]
      · simp only [if_neg hz]; exact (canon c m₁ z h1 h2 hz).symm
    rw [e] at F₁
    have N₂ : News h₀ env.locals hh' (Led c ++ own) := fun p hp => N₁ p ((List.mem_append.mp hp).elim (fun h => List.mem_append.mpr (.inr h)) fun h => List.mem_append.mpr (.inl h))
    refine wpAny_mono (turn i v c m₁ hh' tk' own hin hP hp' hoff hown hfpo hstn F₁ N₂) (fun f s₂ p => ?_) fun _ _ e => e
    have fin : (TurnTail h₀ env.locals Led ps x stored m₀ wr own (P (i + 1)) { s with heap := hh', toks := tk' } s₂) → LoopStepU h₀ env.locals wr own (J (i + 1)) { s with heap := hh', toks := tk' } .next s₂ := by
      rintro ⟨c', h', tk, m', news', e, F', N', hn, ho, ha, hb, hc, hm⟩
      exact ⟨rfl, h', tk, m', Led c', e, F', fun p hp => N' p ((List.mem_append.mp hp).elim (ho p) (hn p)), ha, c', rfl, hb, hc, hm⟩
    cases f with
    | ret v => exact .ret p
    | brk => exact .brk p
    | next => exact .next (fin p)
    | cont => exact .cont (fin p)
  · rintro h' tk m' news' F' N' _ ⟨c, rfl, h1, h2, hp'⟩
    refine done c m' h' tk hp' ?_ N'
    have e : (fun y => if y = x then m' y else kstB (fun z => if stored.contains z then m' z else m₀ z) (ps c) y) = m' := by
      funext z
      by_cases hz : z = x
      · simp [hz]
      · simp only [if_neg hz]; exact canon c m' z h1 h2 hz
    rw [e]; exact F'

theorem iterListX {σ : Type} {l : Addr} {items : List Value} {m₀ : Str → Option Value} (Led : σ → List (Addr × Obj)) (ps : σ → List (Str × Value)) (stored : List Str) (P : Nat → σ → Prop) (c₀ : σ)
    (hl : s.heap.IsList l items.toArray) (hlL : l ≠ env.locals)
    (hh : A.handled = none) (F : Fr h₀ env.locals s.heap m₀) (N : News h₀ env.locals s.heap (Led c₀)) (hk : ∀ p ∈ ps c₀, m₀ p.1 = some p.2) (hp : P 0 c₀)
    (turn : ∀ (i : Nat) v (c : σ) (u : Str → Option Value) h tk own wr, items[i]? = some v → P i c → (∀ p ∈ Led c, p.1 ∉ wr) → (∀ p ∈ own, p.1 ≠ l → ∀ q ∈ Led c, p.1 ≠ q.1) → (∀ p ∈ own, p.1 ∈ wr ∨ p.1 = l) → (∀ b ∈ wr, ∃ o, (b, o) ∈ own) →
      Fr h₀ env.locals h (fun y => if y = x then some v else kstB (fun z => if stored.contains z then u z else m₀ z) (ps c) y) → News h₀ env.locals h (Led c ++ own) →
      wpAny (model prog w) A (execs body env) (TurnEnd h₀ env.locals Led ps x stored m₀ wr own (P (i + 1)) { s with heap := h, toks := tk } Q) E { s with heap := h, toks := tk })
    (done : ∀ (c : σ) (u : Str → Option Value) h tk, P items.length c → Fr h₀ env.locals h (fun y => if y = x then u y else kstB (fun z => if stored.contains z then u z else m₀ z) (ps c) y) →
      News h₀ env.locals h (Led c) → Q .next { s with heap := h, toks := tk }) :
    wpAny (model prog w) A (pyIter (.ref l)) (fun it s₂ => LoopAtV prog w A h₀ env x body Q E it s₂) E s := by
  obtain ⟨ol, hol, _⟩ := id hl
  have hne : l ≠ s.heap.objs.size := Nat.ne_of_lt (Heap.lt_size hol)
  refine wpAny_pyIter_list hl ?_
  have W := Walks.list (prog := prog) (w := w) hh s.heap.objs.size l hne items.toArray
  rw [List.size_toArray] at W
  refine forLedX Led ps stored P c₀ W ?_ ?_ ?_ ⟨⟨_, Heap.get?_push_size _ rfl, rfl, rfl⟩, hl.at fun o e => Heap.get?_push_of_some _ e⟩ (F.push _) (fun p hp => ⟨Heap.get?_push_of_some _ (N p hp).1, (N p hp).2⟩) hk hp ?_ done
  · intro hm
    rcases List.mem_cons.mp hm with e | hm
    · exact absurd F.ns.lt (e ▸ Nat.lt_irrefl _)
    · exact hlL (List.mem_singleton.mp hm).symm
  · intro b hb; rw [List.mem_singleton.mp hb]; exact next_is_new F
  · intro p hp hI; exact absurd (Heap.lt_size (N p hp).1) ((List.mem_singleton.mp hI) ▸ Nat.lt_irrefl _)
  · rintro i v c u h tk own hi hv hP hnw hfp hfpo hstn F3 N3
    refine turn i v c u h tk own _ (by simpa using hv) hP hnw (fun p hp hpl q hq e => hnw q hq ?_) (fun p hp => ?_) (fun b hb => ?_) F3 N3
    · rcases List.mem_cons.mp (hfp p hp) with h1 | h1
      · rw [← e, h1]; exact .head _
      · exact absurd (List.mem_singleton.mp h1) hpl
    · rcases List.mem_cons.mp (hfp p hp) with h1 | h1
      · left; rw [h1]; exact .head _
      · right; exact List.mem_singleton.mp h1
    · have eI : b = s.heap.objs.size := List.mem_singleton.mp hb
      subst eI
      obtain ⟨o, ho, _⟩ := hstn.1
      exact ⟨o, hfpo _ (.head _) (next_is_new F) o ho⟩
theorem iterTupleX {σ : Type} {l : Addr} {items : List Value} {m₀ : Str → Option Value} (Led : σ → List (Addr × Obj)) (ps : σ → List (Str × Value)) (stored : List Str) (P : Nat → σ → Prop) (c₀ : σ)
    (hl : s.heap.IsTuple l items.toArray) (hlL : l ≠ env.locals)
    (hh : A.handled = none) (F : Fr h₀ env.locals s.heap m₀) (N : News h₀ env.locals s.heap (Led c₀)) (hk : ∀ p ∈ ps c₀, m₀ p.1 = some p.2) (hp : P 0 c₀)
    (turn : ∀ (i : Nat) v (c : σ) (u : Str → Option Value) h tk own wr, items[i]? = some v → P i c → (∀ p ∈ Led c, p.1 ∉ wr) → (∀ p ∈ own, p.1 ≠ l → ∀ q ∈ Led c, p.1 ≠ q.1) → (∀ p ∈ own, p.1 ∈ wr ∨ p.1 = l) → (∀ b ∈ wr, ∃ o, (b, o) ∈ own) →
      Fr h₀ env.locals h (fun y => if y = x then some v else kstB (fun z => if stored.contains z then u z else m₀ z) (ps c) y) → News h₀ env.locals h (Led c ++ own) →
      wpAny (model prog w) A (execs body env) (TurnEnd h₀ env.locals Led ps x stored m₀ wr own (P (i + 1)) { s with heap := h, toks := tk } Q) E { s with heap := h, toks := tk })
    (done : ∀ (c : σ) (u : Str → Option Value) h tk, P items.length c → Fr h₀ env.locals h (fun y => if y = x then u y else kstB (fun z => if stored.contains z then u z else m₀ z) (ps c) y) →
      News h₀ env.locals h (Led c) → Q .next { s with heap := h, toks := tk }) :
    wpAny (model prog w) A (pyIter (.ref l)) (fun it s₂ => LoopAtV prog w A h₀ env x body Q E it s₂) E s := by
  obtain ⟨ol, hol, _⟩ := id hl
  have hne : l ≠ s.heap.objs.size := Nat.ne_of_lt (Heap.lt_size hol)
  refine wpAny_pyIter_tuple hl ?_
  have W := Walks.tuple (prog := prog) (w := w) hh s.heap.objs.size l hne items.toArray
  rw [List.size_toArray] at W
  refine forLedX Led ps stored P c₀ W ?_ ?_ ?_ ⟨⟨_, Heap.get?_push_size _ rfl, rfl, rfl⟩, hl.at fun o e => Heap.get?_push_of_some _ e⟩ (F.push _) (fun p hp => ⟨Heap.get?_push_of_some _ (N p hp).1, (N p hp).2⟩) hk hp ?_ done
  · intro hm
    rcases List.mem_cons.mp hm with e | hm
    · exact absurd F.ns.lt (e ▸ Nat.lt_irrefl _)
    · exact hlL (List.mem_singleton.mp hm).symm
  · intro b hb; rw [List.mem_singleton.mp hb]; exact next_is_new F
  · intro p hp hI; exact absurd (Heap.lt_size (N p hp).1) ((List.mem_singleton.mp hI) ▸ Nat.lt_irrefl _)
  · rintro i v c u h tk own hi hv hP hnw hfp hfpo hstn F3 N3
    refine turn i v c u h tk own _ (by simpa using hv) hP hnw (fun p hp hpl q hq e => hnw q hq ?_) (fun p hp => ?_) (fun b hb => ?_) F3 N3
    · rcases List.mem_cons.mp (hfp p hp) with h1 | h1
      · rw [← e, h1]; exact .head _
      · exact absurd (List.mem_singleton.mp h1) hpl
    · rcases List.mem_cons.mp (hfp p hp) with h1 | h1
      · left; rw [h1]; exact .head _
      · right; exact List.mem_singleton.mp h1
    · have eI : b = s.heap.objs.size := List.mem_singleton.mp hb
      subst eI
      obtain ⟨o, ho, _⟩ := hstn.1
      exact ⟨o, hfpo _ (.head _) (next_is_new F) o ho⟩
end
end Mine
end

-- part S3
section
open PySem PySem.W PyProof.Rows
namespace Mine
theorem off_S3 : True := by
  w_top off
  first | (walk1; done) | trivial
theorem fill_S3 : PySem.Challenge.rw_oh0062_01 = PySem.Challenge.rw_oh0062_01 ∧ hd.heap_1 = hd.heap_1 := by k_fill; exact ⟨rfl, rfl⟩
local macro_rules | `(tactic| walk_at "call builtin:len") => `(tactic| refine stopMark ?_)
section
variable {w : World} {A₀ A : Around} {base h₀ : Heap} {env : Env} {outer : List Env} {L : Addr} {m : Str → Option Value} {mean : ExcName → Option Value} {mg mb : Str → Option Value} {s s₁ : Shared} {Q E : Value → Shared → Prop}
  {name qual : Str} {params : Arguments} {body : List Stmt} {scope : Scope} {dV kV doc pm cdv ct oc : Value} {an od : Option Addr} {osl : Array (Option Value)} {f : Addr} {args : Args} {d : Nat}
/-- a call whose arguments are bound by a tuple of their own -/
theorem enterQV (binds : List (Str × Value)) (take rest : List (Addr × Obj)) (G : Gd w A₀ base outer h₀ mean mg mb) (C : Cr A env outer L (d + 1)) (F0 : Fr h₀ L s.heap m) (F : Fr h₀ L s₁.heap m) (N : News h₀ L s₁.heap (take ++ rest)) (hsep : ∀ p ∈ take, ∀ q ∈ rest, p.1 ≠ q.1)
    (ho : (hd.heap_1 w.params).lookup f = some ⟨oc, od, .func (fnOf name qual params body scope dV kV doc pm an cdv ct), osl⟩) (hcd : codeIn (hd.heap_1 w.params) cdv qual = true)
    (hbind : ∀ (M : Model) (A : Around) (E : Value → Shared → Prop) (Q : List (Str × Value) → Shared → Prop), Q binds s₁ → wpAny M A (bindArgs (fnOf name qual params body scope dV kV doc pm an cdv ct) args) Q E s) (hloc : ∀ y ∈ binds, scope.names.lookup y.1 = some .local)
    (hco : scope.isCoroutine = false) (hgen : scope.isGenerator = false) (hk : scope.kind = .function) (hcell : ∀ x ∈ scope.names, x.2 ≠ .cell)
    (h : ∀ g L' h₁ tk, (∀ b o, s₁.heap.get? b = some o → b ∉ take.map (·.1) → g.get? b = some o) → Fr g L' h₁ (fun y => binds.reverse.lookup y) → News g L' h₁ take → (∀ p ∈ take, p.1 < L') → Gd w A base (env :: outer) g mean mg mb → Cr (A.deeper (envOf qual scope L' f cdv)) (envOf qual scope L' f cdv) (env :: outer) L' d →
      wpAny (model pw w) (A.deeper (envOf qual scope L' f cdv)) (execs body (envOf qual scope L' f cdv))
        (fun fl s' => LeaveQ h₀ L m rest g L' Q (match fl with | .ret v => v | _ => .none) s') (fun _ _ => False) { s₁ with heap := h₁, toks := tk }) :
    codeAny (model pw w) A (.call (.ref f) args) (fun r s' => match r with | .ok (.ret v) => Q v s' | .ok _ => False | .error e => E e s') s := by
  obtain ⟨B, X, T⟩ := G
  have Nt : News h₀ L s₁.heap take := fun p hp => N p (List.mem_append_left _ hp)
  obtain ⟨FG, BG, stG, _⟩ := groundX (A := A) (R := fun _ _ => True) B F Nt C.fr C.fl C.ki
  refine codeAny_call_function (fd := fnOf name qual params body scope dV kV doc pm an cdv ct) (body := body) (by have := C.dp; omega) ((X.keeps F0.keep) _ _ ho) rfl hco hgen rfl (codeRec_of (X.keeps F0.keep) hcd) (hbind _ _ _ _ ?_)
  refine wpAny_newFunctionEnv hcell hloc (fun h₁ hns hsb => ⟨(T.nolimit.keeps F.keep).fresh _ hsb, codeAny_func ?_⟩) hk
  have hk₁ : ∀ b o, s₁.heap.get? b = some o → h₁.get? b = some o := fun b o e => hsb.extBut b o (Nat.ne_of_lt (Heap.lt_size e)) (Heap.get?_push_of_some _ e)
  refine wpAny_mono (h (hideAll s₁.heap (take.map fun (p : Addr × Obj) => p.1)) s₁.heap.objs.size h₁ _ (fun b o e q => hideAll_get _ e q) ⟨hns, fun b o e => hk₁ b o (of_hideAll _ e), Nat.le_of_eq (hideAll_size _ _)⟩
    (fun p hp => ⟨hk₁ _ _ (Nt p hp).1, Nat.ne_of_lt (Heap.lt_size (Nt p hp).1), hideAll_none _ (List.mem_map_of_mem hp)⟩) (fun p hp => Heap.lt_size (Nt p hp).1) ⟨BG, X.keeps stG, T.keeps stG⟩ (C.deeper rfl hk)) (fun fl s' q => ?_) fun _ _ q => q.elim
  obtain ⟨m', mine, F', N', k⟩ := q
  have Nr : News h₀ L (hideAll s₁.heap (take.map (·.1))) rest := fun p hp => ⟨hideAll_get _ (N p (List.mem_append_right _ hp)).1 fun hm => by
    obtain ⟨q, hq, e⟩ := List.mem_map.mp hm
    exact hsep q hq p hp e, (N p (List.mem_append_right _ hp)).2⟩
  obtain ⟨N2, hne⟩ := News.onto FG Nr F' N'
  obtain ⟨oL, es, ep, hL, r⟩ := FG.ns
  exact k ⟨⟨oL, es, ep, F'.keep _ _ hL, r⟩, fun b o e => F'.keep _ _ (FG.keep _ _ e), FG.above⟩ N2 hne
end
/-- the plain nodes -/
structure Pn where
  key : Int
  np : Int
  ss : List Int
structure RepN (n : Nd) (p : Pn) : Prop where
  key : n.key = p.key
  np : n.np = p.np
  ss : IntsAre n.vs p.ss
inductive Rep : List Nd → List Pn → Prop
  | nil : Rep [] []
  | cons {n p ns ps} : RepN n p → Rep ns ps → Rep (n :: ns) (p :: ps)
noncomputable def pget (P : List Pn) (k : Int) : List Pn := if P.any (fun p => p.key == k) then P else P ++ [⟨k, 0, []⟩]
noncomputable def pnp (P : List Pn) (k d : Int) : List Pn := P.map fun p => if p.key = k then { p with np := p.np + d } else p
noncomputable def pss (P : List Pn) (k v : Int) : List Pn := P.map fun p => if p.key = k then { p with ss := p.ss ++ [v] } else p
noncomputable def padd (P : List Pn) (k : Int) (ps : List Int) : List Pn := ps.foldl (fun P p => pss (pget P p) p k) (pnp (pget P k) k ps.length)
theorem Rep.length {ns : List Nd} {P : List Pn} (h : Rep ns P) : ns.length = P.length := by
  induction h with
  | nil => rfl
  | cons _ _ ih => simp [ih]
theorem Rep.append {ns ns' : List Nd} {P P' : List Pn} (h : Rep ns P) (h' : Rep ns' P') : Rep (ns ++ ns') (P ++ P') := by
  induction h with
  | nil => exact h'
  | cons a _ ih => exact .cons a ih
theorem Rep.any {ns : List Nd} {P : List Pn} (h : Rep ns P) (k : Int) : P.any (fun p => p.key == k) = ns.any (fun n => n.key == k) := by
  induction h with
  | nil => rfl
  | cons a _ ih => rw [List.any_cons, List.any_cons, ih, a.key]
theorem Rep.got {ns ns' : List Nd} {P : List Pn} {k : Int} {n : Nd} (h : Rep ns P) (g : Got ns k ns' n) : Rep ns' (pget P k) := by
  unfold pget
  rw [h.any]
  rcases g.how with rfl | ⟨h1, rfl, h2, h3⟩
  · rw [if_pos (List.any_eq_true.mpr ⟨n, g.mem, by simpa using g.key⟩)]
    exact h
  · rw [if_neg (by
      intro e
      obtain ⟨y, hy, e⟩ := List.any_eq_true.mp e
      exact h1 y hy (by simpa using e))]
    exact h.append (.cons ⟨g.key, h2, by rw [h3]; exact .nil⟩ .nil)
theorem Rep.skip {ns : List Nd} {P : List Pn} {k : Int} {f : Pn → Pn} (h : Rep ns P) (hk : ∀ n ∈ ns, n.key ≠ k) : Rep ns (P.map fun p => if p.key = k then f p else p) := by
  induction h with
  | nil => exact .nil
  | @cons n p ns P a _ ih =>
    rw [List.map_cons, if_neg (by rw [← a.key]; exact hk n (.head _))]
    exact .cons a (ih fun n hn => hk n (.tail _ hn))
theorem Rep.upd {pre post : List Nd} {n n' : Nd} {k : Int} {f : Pn → Pn} {P : List Pn} (h : Rep (pre ++ n :: post) P) (hn : ((kvsOf (pre ++ n :: post)).map (·.1)).Nodup) (hk : n.key = k) (hf : ∀ p, RepN n p → RepN n' (f p)) : Rep (pre ++ n' :: post) (P.map fun p => if p.key = k then f p else p) := by
  have e : ∀ l : List Nd, (kvsOf l).map (·.1) = l.map (·.key) := fun l => by simp [kvsOf]
  rw [e] at hn
  clear e
  induction pre generalizing P with
  | nil =>
    cases h with
    | cons a r =>
      rw [List.map_cons, if_pos (by rw [← a.key]; exact hk)]
      refine .cons (hf _ a) (r.skip fun y hy e => ?_)
      simp only [List.nil_append, List.map_cons, List.nodup_cons] at hn
      exact hn.1 (List.mem_map.mpr ⟨y, hy, by rw [e, hk]⟩)
  | cons y pre ih =>
    cases h with
    | cons a r =>
      simp only [List.cons_append, List.map_cons, List.nodup_cons] at hn
      rw [List.map_cons, if_neg (by
        rw [← a.key]
        intro e
        exact hn.1 (List.mem_map.mpr ⟨n, List.mem_append_right _ (.head _), by rw [hk, e]⟩))]
      exact .cons a (ih r hn.2)
theorem kvs_upd {pre post : List Nd} {n n' : Nd} (h1 : n'.key = n.key) (h2 : n'.a = n.a) : kvsOf (pre ++ n' :: post) = kvsOf (pre ++ n :: post) := by
  simp [kvsOf, h1, h2]
theorem led_addrs {pre post : List Nd} {n n' : Nd} (h1 : n'.a = n.a) (h2 : n'.l = n.l) (h3 : n'.dx = n.dx) : (ndsLed (pre ++ n' :: post)).map (·.1) = (ndsLed (pre ++ n :: post)).map (·.1) := by
  simp [ndsLed, Nd.led, h1, h2, h3]
theorem SOk.upd {c : Sc} {pre post : List Nd} {n n' : Nd} (ok : SOk c (pre ++ n :: post)) (h1 : n'.a = n.a) (h2 : n'.l = n.l) (h3 : n'.dx = n.dx) : SOk c (pre ++ n' :: post) := by
  have e := led_addrs (pre := pre) (post := post) h1 h2 h3
  refine ⟨ok.d1, ok.d2, ok.d3, fun p hp => ?_, by rw [e]; exact ok.nd, ok.lo⟩
  have hm : p.1 ∈ (ndsLed (pre ++ n' :: post)).map (·.1) := List.mem_map_of_mem hp
  rw [e] at hm
  obtain ⟨q, hq, e'⟩ := List.mem_map.mp hm
  rw [← e']; exact ok.ap q hq
theorem tup_size {pv : List Value} (h : pv.length ≤ 1000) : sizeOk (.seq pv.toArray) := by
  have e : (1000 : Nat) ≤ sizeLine := by decide
  have h1 : pv.toArray.size ≤ sizeLine := by rw [List.size_toArray]; omega
  show pv.toArray.size ≤ _
  omega
/-- one node of the list ahead -/
theorem led_split {ns : List Nd} {n : Nd} (h : n ∈ ns) : ∃ pre post, ns = pre ++ n :: post := List.append_of_mem h
theorem ndsLed_mid (pre post : List Nd) (n : Nd) (p : Addr × Obj) : p ∈ ndsLed (pre ++ n :: post) ↔ p ∈ n.led ∨ p ∈ ndsLed pre ++ ndsLed post := by
  simp only [ndsLed, List.flatMap_append, List.flatMap_cons, List.mem_append]
  constructor
  · rintro (h | h | h)
    · exact .inr (.inl h)
    · exact .inl h
    · exact .inr (.inr h)
  · rintro (h | h | h)
    · exact .inr (.inl h)
    · exact .inl h
    · exact .inr (.inr h)
structure NdAp (n : Nd) (pre post : List Nd) : Prop where
  e1 : n.l ≠ n.a
  e2 : n.l ≠ n.dx
  e3 : n.a ≠ n.dx
  f1 : ∀ p ∈ ndsLed pre ++ ndsLed post, p.1 ≠ n.l
  f2 : ∀ p ∈ ndsLed pre ++ ndsLed post, p.1 ≠ n.a
theorem ndAp {n : Nd} {pre post : List Nd} (h : ((ndsLed (pre ++ n :: post)).map (·.1)).Nodup) : NdAp n pre post := by
  simp only [ndsLed, List.flatMap_append, List.flatMap_cons, List.map_append, Nd.led, List.map_cons, List.map_nil] at h
  rw [List.nodup_append] at h
  obtain ⟨h1, h2, h3⟩ := h
  rw [List.nodup_append] at h2
  obtain ⟨h4, h5, h6⟩ := h2
  simp only [List.nodup_cons, List.mem_cons, List.not_mem_nil, or_false, not_or, not_false_iff, List.nodup_nil, and_true] at h4
  have key : ∀ z, z ∈ [n.l, n.a, n.dx] → ∀ p ∈ ndsLed pre ++ ndsLed post, p.1 ≠ z := by
    intro z hz p hp e
    rcases List.mem_append.mp hp with hp | hp
    · exact h3 p.1 (List.mem_map_of_mem hp) z (List.mem_append_left _ hz) e
    · exact h6 z hz p.1 (List.mem_map_of_mem hp) e.symm
  exact ⟨h4.1.1, h4.1.2, h4.2, key _ (.head _), key _ (.tail _ (.head _))⟩
noncomputable def paddTo (P : List Pn) (k : Int) (ps : List Int) (i : Nat) : List Pn := (ps.take i).foldl (fun P p => pss (pget P p) p k) (pnp (pget P k) k ps.length)
theorem paddTo_succ {P : List Pn} {k : Int} {ps : List Int} {i : Nat} {p : Int} (h : ps[i]? = some p) : paddTo P k ps (i + 1) = pss (pget (paddTo P k ps i) p) p k := by
  unfold paddTo; rw [List.take_add_one, h]; simp
theorem pget_len (P : List Pn) (k : Int) : (pget P k).length ≤ P.length + 1 := by
  unfold pget; split <;> simp
theorem paddTo_len (P : List Pn) (k : Int) (ps : List Int) (i : Nat) : (paddTo P k ps i).length ≤ P.length + 1 + i := by
  unfold paddTo
  have key : ∀ (l : List Int) (R : List Pn), (l.foldl (fun P p => pss (pget P p) p k) R).length ≤ R.length + l.length := by
    intro l
    induction l with
    | nil => intro R; simp
    | cons a l ih =>
      intro R
      rw [List.foldl_cons]
      refine Nat.le_trans (ih _) ?_
      have := pget_len R a
      simp only [pss, List.length_map, List.length_cons]; omega
  have h1 := key (ps.take i) (pnp (pget P k) k ps.length)
  have h2 := pget_len P k
  have h3 : (ps.take i).length ≤ i := by simp; omega
  simp only [pnp, List.length_map] at h1
  have h4 : (pnp (pget P k) k ↑ps.length) = (pget P k).map fun p => if p.key = k then { p with np := p.np + ↑ps.length } else p := rfl
  rw [h4]; omega
theorem mem_mid {pre post : List Nd} {n n' y : Nd} (h : y ∈ pre ++ n' :: post) : y = n' ∨ y ∈ pre ++ n :: post := by
  rcases List.mem_append.mp h with h | h
  · exact .inr (List.mem_append_left _ h)
  · rcases List.mem_cons.mp h with h | h
    · exact .inl h
    · exact .inr (List.mem_append_right _ (.tail _ h))
structure ASt (w : World) (c : Sc) (T : Addr) (B : Nat) (P : List Pn) (b : List Nd × Obj) : Prop where
  R : Rep b.1 P
  D : Obj.IsDictOf (intKind pw w) b.2 (kvsOf b.1)
  ok : SOk c b.1
  B : ∀ n ∈ b.1, n.vs.length ≤ B
  t0 : c.D ≠ T
  t1 : c.x ≠ T
  t2 : c.dx ≠ T
  t3 : ∀ p ∈ ndsLed b.1, p.1 ≠ T
theorem add_call {w : World} {A₀ A : Around} {base h₀ : Heap} {env : Env} {outer : List Env} {L : Addr} {m : Str → Option Value} {rest : List (Addr × Obj)} {mean mg mb} {s : Shared} {Q : Value → Shared → Prop} {E : Value → Shared → Prop} {k : Int} {t : Tok} {c : Sc} {oD : Obj} {np nf : Int} {tp tf : Tok} {ns : List Nd} {P : List Pn} {pv : List Value} {ps : List Int}
    (G : Gd w A₀ base outer h₀ mean mg mb) (C : Cr A env outer L 4) (F : Fr h₀ L s.heap m) (N : News h₀ L s.heap (((c.D, oD) :: (c.x, instObj 158 c.dx) :: (c.dx, sDict w c.k0 c.k1 c.k2 c.k3 c.D .none np tp nf tf) :: ndsLed ns) ++ rest))
    (hsep : ∀ p ∈ (c.D, oD) :: (c.x, instObj 158 c.dx) :: (c.dx, sDict w c.k0 c.k1 c.k2 c.k3 c.D .none np tp nf tf) :: ndsLed ns, ∀ q ∈ rest, p.1 ≠ q.1)
    (ok : SOk c ns) (hD : Obj.IsDictOf (intKind pw w) oD (kvsOf ns)) (hR : Rep ns P) (hI : IntsAre pv ps) (hlen : ns.length + ps.length ≤ 900) {B : Nat} (hB : ∀ n ∈ ns, n.vs.length ≤ B) (hBs : B + ps.length ≤ 1900)
    (hQ : ∀ ns' oD' h' tk, Rep ns' (padd P k ps) → Obj.IsDictOf (intKind pw w) oD' (kvsOf ns') → SOk c ns' → (∀ n ∈ ns', n.vs.length ≤ B + ps.length) → Fr h₀ L h' m → News h₀ L h' (((c.D, oD') :: (c.x, instObj 158 c.dx) :: (c.dx, sDict w c.k0 c.k1 c.k2 c.k3 c.D .none np tp nf tf) :: ndsLed ns') ++ rest) →
      (∀ p ∈ (c.D, oD') :: (c.x, instObj 158 c.dx) :: (c.dx, sDict w c.k0 c.k1 c.k2 c.k3 c.D .none np tp nf tf) :: ndsLed ns', ∀ q ∈ rest, p.1 ≠ q.1) → Q .none { s with heap := h', toks := tk }) :
    codeAny (model pw w) A (.call (.ref 108) { pos := .ref c.x :: .int k t :: pv }) (fun r s' => match r with | .ok (.ret v) => Q v s' | .ok _ => False | .error e => E e s') s := by
  have hszp : pv.length ≤ 1000 := by rw [hI.length]; omega
  have N1 : News h₀ L (s.heap.push (tupObj pv)) (((s.heap.objs.size, tupObj pv) :: (c.D, oD) :: (c.x, instObj 158 c.dx) :: (c.dx, sDict w c.k0 c.k1 c.k2 c.k3 c.D .none np tp nf tf) :: ndsLed ns) ++ rest) := by
    intro p hp
    rcases List.mem_cons.mp hp with rfl | hp
    · exact ⟨Heap.get?_push_size _ rfl, Nat.ne_of_gt F.ns.lt, next_is_new F⟩
    · exact ⟨Heap.get?_push_of_some _ (N p hp).1, (N p hp).2⟩
  have hTn : ∀ q ∈ ((c.D, oD) :: (c.x, instObj 158 c.dx) :: (c.dx, sDict w c.k0 c.k1 c.k2 c.k3 c.D .none np tp nf tf) :: ndsLed ns) ++ rest, s.heap.objs.size ≠ q.1 := fun q hq => Nat.ne_of_gt (Heap.lt_size (N q hq).1)
  refine enterQV (s₁ := { s with heap := s.heap.push (tupObj pv) }) [(("self" : Str), Value.ref c.x), ("node", Value.int k t), ("predecessors", .ref s.heap.objs.size)] _ rest G C F (F.push _) N1 ?_ (by k_is) (by k_is) ?_ (locs rfl) rfl rfl rfl (by decide) ?_
  · intro p hp q hq
    rcases List.mem_cons.mp hp with rfl | hp
    · exact hTn q (List.mem_append_right _ hq)
    · exact hsep p hp q hq
  · intro M A E Q h
    unfold bindArgs
    dsimp only [fnOf]
    simp only [Option.isNone_some, Bool.and_false, Bool.false_eq_true, if_false]
    change wpAny M A (newTuple pv >>= fun T => pure [(("self" : Str), Value.ref c.x), ("node", Value.int k t), ("predecessors", T)]) Q E s
    refine wpAny_bind ?_
    unfold newTuple
    exact wpAny_newObj_type (wpAny_pure h) (tup_size hszp)
  have hT0 : ∀ q ∈ ((c.D, oD) :: (c.x, instObj 158 c.dx) :: (c.dx, sDict w c.k0 c.k1 c.k2 c.k3 c.D .none np tp nf tf) :: ndsLed ns), s.heap.objs.size ≠ q.1 := fun q hq => hTn q (List.mem_append_left _ hq)
  generalize s.heap.objs.size = T at *
  intro g L' h1 tk1 hg F1 N1 lt1 G1 C1
  have hh := C1.hh
  have hu64 := C1.u64
  have G2 := G1
  obtain ⟨B1, X1, T1⟩ := G1
  clear C G F N
  ((try first | refine genS (fun Qx gx dx ox hQx => ?_) | refine genQ (fun Qx hQx => ?_)); k_steps)
  rename Fr _ _ _ _ => F2
  rename News _ _ _ _ => N2
  unfold Stop
  have hR0 := hR
  have N2' : News g L' _ (((c.D, oD) :: (c.x, instObj 158 c.dx) :: (c.dx, sDict w c.k0 c.k1 c.k2 c.k3 c.D .none np tp nf tf) :: ndsLed ns) ++ [(T, tupObj pv)]) := fun p hp => N2 p (by
    rcases List.mem_append.mp hp with hp | hp
    · exact .tail _ hp
    · rw [List.mem_singleton.mp hp]; exact .head _)
  refine gni_call G2 C1 F2 N2' (fun p hp q hq => by rw [List.mem_singleton.mp hq]; exact (hT0 p hp).symm) ok hD (by omega) ?_
  intro ns3 oD3 n3 h3 tk3 got3 hD3 ok3 F3 N3 sep3
  obtain ⟨pre, post, e3⟩ := led_split got3.mem
  subst e3
  have ap3 := ndAp ok3.nd
  obtain ⟨e1, e2, e3, f1, f2⟩ := ap3
  have hmid : ∀ p ∈ n3.led, p ∈ ndsLed (pre ++ n3 :: post) := fun p hp => (ndsLed_mid _ _ _ _).mpr (.inl hp)
  have i1 := ok3.ap _ (hmid (n3.a, _) (.tail _ (.head _)))
  have iT := sep3 _ (.tail _ (.tail _ (.tail _ (hmid (n3.a, _) (.tail _ (.head _)))))) _ (.head _)
  have hA : ∀ p ∈ (n3.l, W.listOf n3.vs.toArray n3.nl) :: (n3.dx, dictOf [] 0) :: (T, tupObj pv) :: (c.D, oD3) :: (c.x, instObj 158 c.dx) :: (c.dx, sDict w c.k0 c.k1 c.k2 c.k3 c.D .none np tp nf tf) :: (ndsLed pre ++ ndsLed post), p.1 ≠ n3.a :=
    ne_cons e1 (ne_cons (Ne.symm e3) (ne_cons (Ne.symm iT) (ne_cons (Ne.symm i1.2.2) (ne_cons (Ne.symm i1.1) (ne_cons (Ne.symm i1.2.1) f2)))))
  have N4 : News g L' h3 ((n3.a, niObj n3.dx n3.key n3.tk n3.np n3.tn n3.l) :: (n3.l, W.listOf n3.vs.toArray n3.nl) :: (n3.dx, dictOf [] 0) :: (T, tupObj pv) :: (c.D, oD3) :: (c.x, instObj 158 c.dx) :: (c.dx, sDict w c.k0 c.k1 c.k2 c.k3 c.D .none np tp nf tf) :: (ndsLed pre ++ ndsLed post)) := by
    intro p hp
    refine N3 p ?_
    simp only [List.mem_cons] at hp
    simp only [List.mem_append, List.mem_cons, ndsLed_mid, List.not_mem_nil, or_false, Nd.led]
    rcases hp with h | h | h | h | h | h | h | h
    · exact .inl (.inr (.inr (.inr (.inl (.inr (.inl h))))))
    · exact .inl (.inr (.inr (.inr (.inl (.inl h)))))
    · exact .inl (.inr (.inr (.inr (.inl (.inr (.inr h))))))
    · exact .inr h
    · exact .inl (.inl h)
    · exact .inl (.inr (.inl h))
    · exact .inl (.inr (.inr (.inl h)))
    · exact .inl (.inr (.inr (.inr (.inr (List.mem_append.mp h)))))
  clear N2 N2' N3
  ((try first | refine genS (fun Qx gx dx ox hQx => ?_) | refine genQ (fun Qx hQx => ?_)); k_steps)
  rename Fr _ _ _ _ => F5
  rename News _ _ _ _ => N5
  unfold Stop
  refine PyProof.Rows.len_tuple (items := pv.toArray) ⟨_, (N5 _ (.tail _ (.tail _ (.tail _ (.head _))))).1, rfl, _, rfl⟩ (by rw [List.size_toArray]; omega) ?_
  have eL : ((pv.toArray.size : Nat) : Int) = (ps.length : Int) := by rw [List.size_toArray, hI.length]
  rw [eL]
  ((try first | refine genS (fun Qx gx dx ox hQx => ?_) | refine genQ (fun Qx hQx => ?_)); k_steps)
  rename Fr _ _ _ _ => F6
  rename News _ _ _ _ => N6
  unfold Stop
  refine For_invV g rfl rfl ?_
  ((try first | refine genS (fun Qx gx dx ox hQx => ?_) | refine genQ (fun Qx hQx => ?_)); k_steps)
  unfold Stop
  rename_i h6
  obtain ⟨t6, N6⟩ : ∃ t6, News g L' h6 ((n3.a, niObj n3.dx n3.key n3.tk (n3.np + (ps.length : Int)) t6 n3.l) :: (n3.l, W.listOf n3.vs.toArray n3.nl) :: (n3.dx, dictOf [] 0) :: (T, tupObj pv) :: (c.D, oD3) :: (c.x, instObj 158 c.dx) :: (c.dx, sDict w c.k0 c.k1 c.k2 c.k3 c.D .none np tp nf tf) :: (ndsLed pre ++ ndsLed post)) := ⟨_, N6⟩
  let n6 : Nd := { n3 with np := n3.np + ps.length, tn := t6 }
  have st0 : ASt w c T B (paddTo P k ps 0) (pre ++ n6 :: post, oD3) := by
    refine ⟨?_, ?_, ok3.upd rfl rfl rfl, ?_, ?_, ?_, ?_, ?_⟩
    · exact (hR.got got3).upd (PyProof.Rows.keysNodup_of_isDictOf hD3) got3.key fun p hp => ⟨hp.key, by show n3.np + _ = p.np + _; rw [hp.np], hp.ss⟩
    · show Obj.IsDictOf _ oD3 (kvsOf (pre ++ n6 :: post))
      rw [show kvsOf (pre ++ n6 :: post) = kvsOf (pre ++ n3 :: post) from kvs_upd rfl rfl]; exact hD3
    · intro y hy
      have hb3 : ∀ n ∈ pre ++ n3 :: post, n.vs.length ≤ B := by
        rcases got3.how with e | ⟨_, e, _, hv⟩
        · rw [e]; exact hB
        · rw [e]; intro n hn
          rcases List.mem_append.mp hn with h | h
          · exact hB n h
          · rw [List.mem_singleton.mp h, hv]; exact Nat.zero_le _
      rcases mem_mid (n := n3) hy with rfl | h
      · exact hb3 n3 (List.mem_append_right _ (.head _))
      · exact hb3 y h
    · exact sep3 _ (.head _) _ (.head _)
    · exact sep3 _ (.tail _ (.head _)) _ (.head _)
    · exact sep3 _ (.tail _ (.tail _ (.head _))) _ (.head _)
    · intro p hp
      have e := led_addrs (pre := pre) (post := post) (n := n3) (n' := n6) rfl rfl rfl
      have hm : p.1 ∈ (ndsLed (pre ++ n6 :: post)).map (·.1) := List.mem_map_of_mem hp
      rw [e] at hm
      obtain ⟨q, hq, e'⟩ := List.mem_map.mp hm
      rw [← e']; exact sep3 _ (.tail _ (.tail _ (.tail _ hq))) _ (.head _)
  have N7 : News g L' h6 ((T, tupObj pv) :: (c.D, oD3) :: (c.x, instObj 158 c.dx) :: (c.dx, sDict w c.k0 c.k1 c.k2 c.k3 c.D .none np tp nf tf) :: ndsLed (pre ++ n6 :: post)) := by
    intro p hp
    refine N6 p ?_
    simp only [List.mem_cons, ndsLed_mid, Nd.led, List.not_mem_nil, or_false, n6] at hp ⊢
    rcases hp with h | h | h | h | (h | h | h) | h
    · exact .inr (.inr (.inr (.inl h)))
    · exact .inr (.inr (.inr (.inr (.inl h))))
    · exact .inr (.inr (.inr (.inr (.inr (.inl h)))))
    · exact .inr (.inr (.inr (.inr (.inr (.inr (.inl h))))))
    · exact .inr (.inl h)
    · exact .inl h
    · exact .inr (.inr (.inl h))
    · exact .inr (.inr (.inr (.inr (.inr (.inr (.inr h))))))
  clear_value n6
  refine iterTupleX (l := T) (items := pv) (fun b : List Nd × Obj => (T, tupObj pv) :: (c.D, b.2) :: (c.x, instObj 158 c.dx) :: (c.dx, sDict w c.k0 c.k1 c.k2 c.k3 c.D .none np tp nf tf) :: ndsLed b.1) (fun _ => []) [("pred_info" : Str)] (fun i b => ASt w c T (B + i) (paddTo P k ps i) b) (pre ++ n6 :: post, oD3)
    ⟨_, (N7 _ (.head _)).1, rfl, _, rfl⟩ (N7 _ (.head _)).2.1 hh F6 N7 (fun p hp => nomatch hp) st0 ?_ ?_
  · rintro i v ⟨ns8, oD8⟩ u8 h8 tk8 own wr hv ⟨R8, D8, ok8, B8, t0, t1, t2, t3⟩ hnw hoff hown hwo F8 N8
    dsimp only at R8 D8 ok8 B8 t0 t1 t2 t3 N8 hnw hoff F8
    dsimp only [envOf] at F8 N8
    simp only [List.cons_append] at N8
    simp only [kstB] at F8
    obtain ⟨pi, hpi⟩ : ∃ pi, ps[i]? = some pi := by
      have h1 : i < pv.length := (List.getElem?_eq_some_iff.mp hv).1
      rw [hI.length] at h1
      exact ⟨_, List.getElem?_eq_getElem h1⟩
    obtain ⟨ti, hti⟩ := hI.get i pi hpi
    rw [hti] at hv
    cases hv
    have hi : i < ps.length := (List.getElem?_eq_some_iff.mp hpi).1
    have hlen8 : ns8.length ≤ 1000 := by
      have h1 := R8.length
      have h2 := paddTo_len P k ps i
      have h3 := hR.length
      omega
    ((try first | refine genS (fun Qx gx dx ox hQx => ?_) | refine genQ (fun Qx hQx => ?_)); k_steps)
    rename Fr _ _ _ _ => F9
    rename News _ _ _ _ => N9
    unfold Stop
    have N9' : News g L' _ (((c.D, oD8) :: (c.x, instObj 158 c.dx) :: (c.dx, sDict w c.k0 c.k1 c.k2 c.k3 c.D .none np tp nf tf) :: ndsLed ns8) ++ ((T, tupObj pv) :: own)) := fun p hp => N9 p (by
      rcases List.mem_append.mp hp with hp | hp
      · exact .tail _ (List.mem_append_left own hp)
      · rcases List.mem_cons.mp hp with rfl | hp
        · exact .head _
        · exact .tail _ (List.mem_append_right ((c.D, oD8) :: (c.x, instObj 158 c.dx) :: (c.dx, sDict w c.k0 c.k1 c.k2 c.k3 c.D .none np tp nf tf) :: ndsLed ns8) hp))
    have hT8 : ∀ p ∈ (c.D, oD8) :: (c.x, instObj 158 c.dx) :: (c.dx, sDict w c.k0 c.k1 c.k2 c.k3 c.D .none np tp nf tf) :: ndsLed ns8, p.1 ≠ T := ne_cons t0 (ne_cons t1 (ne_cons t2 t3))
    refine gni_call G2 C1 F9 N9' ?_ ok8 D8 hlen8 ?_
    · intro p hp q hq
      rcases List.mem_cons.mp hq with rfl | hq
      · exact hT8 p hp
      · by_cases hqT : q.1 = T
        · rw [hqT]; exact hT8 p hp
        · exact fun e => hoff q hq hqT p (.tail _ hp) e.symm
    intro ns10 oD10 n10 h10 tk10 got10 hD10 ok10 F10 N10 sep10
    have R10 := R8.got got10
    have B10 : ∀ n ∈ ns10, n.vs.length ≤ B + i := by
      rcases got10.how with e | ⟨_, e, _, hv⟩
      · rw [e]; exact B8
      · rw [e]; intro n hn
        rcases List.mem_append.mp hn with h | h
        · exact B8 n h
        · rw [List.mem_singleton.mp h, hv]; exact Nat.zero_le _
    obtain ⟨pr, po, e10⟩ := led_split got10.mem
    subst e10
    obtain ⟨a1, a2, a3, b1, b2⟩ := ndAp ok10.nd
    have hmid : ∀ p ∈ n10.led, p ∈ ndsLed (pr ++ n10 :: po) := fun p hp => (ndsLed_mid _ _ _ _).mpr (.inl hp)
    have i1 := ok10.ap _ (hmid (n10.l, _) (.head _))
    have iT := sep10 _ (.tail _ (.tail _ (.tail _ (hmid (n10.l, _) (.head _)))))
    have hL : ∀ p ∈ (n10.a, niObj n10.dx n10.key n10.tk n10.np n10.tn n10.l) :: (n10.dx, dictOf [] 0) :: (T, tupObj pv) :: (c.D, oD10) :: (c.x, instObj 158 c.dx) :: (c.dx, sDict w c.k0 c.k1 c.k2 c.k3 c.D .none np tp nf tf) :: ((ndsLed pr ++ ndsLed po) ++ own), p.1 ≠ n10.l :=
      ne_cons (Ne.symm a1) (ne_cons (Ne.symm a2) (ne_cons (Ne.symm (iT _ (.head _))) (ne_cons (Ne.symm i1.2.2) (ne_cons (Ne.symm i1.1) (ne_cons (Ne.symm i1.2.1) (fun p hp => by
        rcases List.mem_append.mp hp with hp | hp
        · exact b1 p hp
        · exact Ne.symm (iT p (.tail _ hp))))))))
    have N11 : News g L' h10 ((n10.l, W.listOf n10.vs.toArray n10.nl) :: (n10.a, niObj n10.dx n10.key n10.tk n10.np n10.tn n10.l) :: (n10.dx, dictOf [] 0) :: (T, tupObj pv) :: (c.D, oD10) :: (c.x, instObj 158 c.dx) :: (c.dx, sDict w c.k0 c.k1 c.k2 c.k3 c.D .none np tp nf tf) :: ((ndsLed pr ++ ndsLed po) ++ own)) := by
      intro p hp
      refine N10 p ?_
      simp only [List.mem_cons, List.mem_append] at hp
      simp only [List.mem_append, List.mem_cons, ndsLed_mid, List.not_mem_nil, or_false, Nd.led]
      rcases hp with h | h | h | h | h | h | h | h | h
      · exact .inl (.inr (.inr (.inr (.inl (.inl h)))))
      · exact .inl (.inr (.inr (.inr (.inl (.inr (.inl h))))))
      · exact .inl (.inr (.inr (.inr (.inl (.inr (.inr h))))))
      · exact .inr (.inl h)
      · exact .inl (.inl h)
      · exact .inl (.inr (.inl h))
      · exact .inl (.inr (.inr (.inl h)))
      · exact .inl (.inr (.inr (.inr (.inr h))))
      · exact .inr (.inr h)
    have hsz10 : n10.vs.length ≤ 2000 := by have := B10 n10 (List.mem_append_right _ (.head _)); omega
    clear N9 N9' N10
    ((try first | refine genS (fun Qx gx dx ox hQx => ?_) | refine genQ (fun Qx hQx => ?_)); k_steps)
    rename Fr _ _ _ _ => F12
    rename News _ _ _ _ => N12
    unfold Stop
    rename_i h12
    simp only [List.push_toArray] at N12
    let n12 : Nd := { n10 with vs := n10.vs ++ [.int k t], nl := n10.nl + 1 }
    have hadr := led_addrs (pre := pr) (post := po) (n := n10) (n' := n12) rfl rfl rfl
    have hback : ∀ p ∈ ndsLed (pr ++ n12 :: po), ∃ q ∈ ndsLed (pr ++ n10 :: po), q.1 = p.1 := fun p hp => by
      have hm : p.1 ∈ (ndsLed (pr ++ n12 :: po)).map (·.1) := List.mem_map_of_mem hp
      rw [hadr] at hm
      exact List.mem_map.mp hm
    have hwn : ∀ p ∈ (c.D, oD10) :: (c.x, instObj 158 c.dx) :: (c.dx, sDict w c.k0 c.k1 c.k2 c.k3 c.D .none np tp nf tf) :: ndsLed (pr ++ n10 :: po), p.1 ∉ wr := fun p hp hw => by
      obtain ⟨o, ho⟩ := hwo _ hw
      exact sep10 p hp _ (.tail _ ho) rfl
    refine ⟨(pr ++ n12 :: po, oD10), h12, _, _, _, rfl, F12, N12, ?_, ?_, ?_, (fun p hp => nomatch hp), ?_, ⟨?_, ?_, ok10.upd rfl rfl rfl, ?_, t0, t1, t2, ?_⟩⟩
    · intro p hp
      simp only [List.mem_cons, ndsLed_mid, Nd.led, List.not_mem_nil, or_false, n12] at hp
      simp only [List.mem_cons, List.mem_append]
      rcases hp with h | h | h | h | (h | h | h) | h
      · exact .inr (.inr (.inr (.inl h)))
      · exact .inr (.inr (.inr (.inr (.inl h))))
      · exact .inr (.inr (.inr (.inr (.inr (.inl h)))))
      · exact .inr (.inr (.inr (.inr (.inr (.inr (.inl h))))))
      · exact .inl h
      · exact .inr (.inl h)
      · exact .inr (.inr (.inl h))
      · exact .inr (.inr (.inr (.inr (.inr (.inr (.inr (.inl (List.mem_append.mp h))))))))
    · intro p hp
      simp only [List.mem_cons, List.mem_append]
      exact .inr (.inr (.inr (.inr (.inr (.inr (.inr (.inr hp)))))))
    · intro p hp
      rcases List.mem_cons.mp hp with rfl | hp
      · exact hnw _ (.head _)
      rcases List.mem_cons.mp hp with rfl | hp
      · exact hwn _ (.head _)
      rcases List.mem_cons.mp hp with rfl | hp
      · exact hwn _ (.tail _ (.head _))
      rcases List.mem_cons.mp hp with rfl | hp
      · exact hwn _ (.tail _ (.tail _ (.head _)))
      · obtain ⟨q, hq, e⟩ := hback p hp
        rw [← e]; exact hwn q (.tail _ (.tail _ (.tail _ hq)))
    · intro z z1 _ z3
      have z4 := notin1 z3
      simp only [if_neg z1, if_neg z4, z3, Bool.false_eq_true, if_false]
    · rw [paddTo_succ hpi]
      exact R10.upd (PyProof.Rows.keysNodup_of_isDictOf hD10) got10.key fun p hp => ⟨hp.key, hp.np, hp.ss.append (.cons _ _ .nil)⟩
    · show Obj.IsDictOf _ oD10 (kvsOf (pr ++ n12 :: po))
      rw [show kvsOf (pr ++ n12 :: po) = kvsOf (pr ++ n10 :: po) from kvs_upd rfl rfl]; exact hD10
    · intro y hy
      rcases mem_mid (n := n10) hy with rfl | h
      · have := B10 n10 (List.mem_append_right _ (.head _))
        show (n10.vs ++ [_]).length ≤ _
        rw [List.length_append, List.length_singleton]; omega
      · have := B10 y h; omega
    · intro p hp
      obtain ⟨q, hq, e⟩ := hback p hp
      rw [← e]; exact sep10 q (.tail _ (.tail _ (.tail _ hq))) _ (.head _)
  · rintro ⟨ns13, oD13⟩ u13 h13 tk13 ⟨R13, D13, ok13, B13, t0, t1, t2, t3⟩ F13 N13
    dsimp only at R13 D13 ok13 B13 N13
    dsimp only [envOf] at F13 N13
    have eP : paddTo P k ps pv.length = padd P k ps := by unfold paddTo padd; rw [hI.length, List.take_length]
    rw [eP] at R13
    rw [hI.length] at B13
    simp only [kstB] at F13
    ((try first | refine genS (fun Qx gx dx ox hQx => ?_) | refine genQ (fun Qx hQx => ?_)); k_steps)
    rename Fr _ _ _ _ => F14
    rename News _ _ _ _ => N14
    unfold Stop
    refine ⟨_, _, F14, fun p hp => N14 p (.tail _ hp), fun Fz Nz hz => hQ ns13 oD13 _ _ R13 D13 ok13 B13 Fz Nz hz⟩

end Mine
end

-- part N1
section
open PySem PySem.W PyProof.Rows
namespace Mine
theorem off_N1 : True := by
  w_top off
  first | (walk1; done) | trivial
theorem fill_N1 : PySem.Challenge.rw_oh0062_01 = PySem.Challenge.rw_oh0062_01 ∧ hd.heap_1 = hd.heap_1 := by k_fill; exact ⟨rfl, rfl⟩
/-- one node, wherever it stands -/
structure NdAt (g : Heap) (L : Addr) (h : Heap) (n : Nd) : Prop where
  l : h.get? n.l = some (W.listOf n.vs.toArray n.nl)
  a : h.get? n.a = some (niObj n.dx n.key n.tk n.np n.tn n.l)
  dx : h.get? n.dx = some (dictOf [] 0)
  lg : g.get? n.l = none
  ag : g.get? n.a = none
  lL : n.l ≠ L
  aL : n.a ≠ L
  xg : g.get? n.dx = none
  xL : n.dx ≠ L
  al : n.a ≠ n.l
  ax : n.a ≠ n.dx
  lx : n.l ≠ n.dx
theorem ndAt_of {g : Heap} {L : Addr} {h : Heap} {n : Nd} {led : List (Addr × Obj)} (N : News g L h led) (hl : ∀ p ∈ n.led, p ∈ led) (e1 : n.l ≠ n.a) (e2 : n.l ≠ n.dx) (e3 : n.a ≠ n.dx) : NdAt g L h n := by
  have h1 := N _ (hl (n.l, _) (.head _))
  have h2 := N _ (hl (n.a, _) (.tail _ (.head _)))
  have h3 := N _ (hl (n.dx, _) (.tail _ (.tail _ (.head _))))
  exact ⟨h1.1, h2.1, h3.1, h1.2.2, h2.2.2, h1.2.1, h2.2.1, h3.2.2, h3.2.1, Ne.symm e1, e3, e2⟩
section
variable {w : World} {A : Around} {E : Value → Shared → Prop} {s : Shared} {g : Heap} {L : Addr} {m : Str → Option Value} {n : Nd} {led : List (Addr × Obj)}
theorem nd_get_np {expr : Bool} {Q : Value → Shared → Prop} (F : Fr g L s.heap m) (X : (hd.heap_1 w.params).In g) (I : NdAt g L s.heap n) (h : Q (.int n.np n.tn) { s with toks := s.toks + 1 }) : wpAny (model pw w) A (getAttr (.ref n.a) "npredecessors" expr) Q E s := by
  have I' : InstAt s.heap n.a (niObj n.dx n.key n.tk n.np n.tn n.l) 61 (some (dictOf [] 0)) := ⟨I.a, rfl, rfl, I.dx⟩
  refine get_slot F X I' (by k_is) (by k_is) (by k_is) (by k_is) (by k_is) (by k_is) rfl rfl h
theorem nd_get_ss {expr : Bool} {Q : Value → Shared → Prop} (F : Fr g L s.heap m) (X : (hd.heap_1 w.params).In g) (I : NdAt g L s.heap n) (h : Q (.ref n.l) { s with toks := s.toks + 1 }) : wpAny (model pw w) A (getAttr (.ref n.a) "successors" expr) Q E s := by
  have I' : InstAt s.heap n.a (niObj n.dx n.key n.tk n.np n.tn n.l) 61 (some (dictOf [] 0)) := ⟨I.a, rfl, rfl, I.dx⟩
  refine get_slot F X I' (by k_is) (by k_is) (by k_is) (by k_is) (by k_is) (by k_is) rfl rfl h
/-- a ledger in which one address bears a new object -/
noncomputable def Put (led : List (Addr × Obj)) (a : Addr) (o : Obj) (led' : List (Addr × Obj)) : Prop := ∀ p ∈ led', p = (a, o) ∨ (p ∈ led ∧ p.1 ≠ a)
theorem nd_set_np {v : Int} {t : Tok} {Q : Unit → Shared → Prop} (F : Fr g L s.heap m) (X : (hd.heap_1 w.params).In g) (N : News g L s.heap led) (I : NdAt g L s.heap n)
    (h : ∀ h', Fr g L h' m → (∀ led', Put led n.a (niObj n.dx n.key n.tk v t n.l) led' → News g L h' led') → Q () { s with heap := h', toks := s.toks + 1 }) : wpAny (model pw w) A (setAttr (.ref n.a) "npredecessors" (.int v t)) Q E s := by
  have I' : InstAt s.heap n.a (niObj n.dx n.key n.tk n.np n.tn n.l) 61 (some (dictOf [] 0)) := ⟨I.a, rfl, rfl, I.dx⟩
  have N' : News g L s.heap ((n.a, niObj n.dx n.key n.tk n.np n.tn n.l) :: led.filter fun p => p.1 != n.a) := by
    intro p hp
    rcases List.mem_cons.mp hp with rfl | hp
    · exact ⟨I.a, I.aL, I.ag⟩
    · exact N p (List.mem_filter.mp hp).1
  refine set_slot F X N' I' (by k_is) (by k_is) (by k_is) (by k_is) (by k_is) (by decide) (ox' := niObj n.dx n.key n.tk v t n.l) rfl rfl (.head fun p hp => by have := (List.mem_filter.mp hp).2; simpa using this) ?_
  intro h' F' N''
  refine h h' F' fun led' hp p hm => ?_
  rcases hp p hm with rfl | ⟨h1, h2⟩
  · exact N'' _ (.head _)
  · exact N'' p (.tail _ (List.mem_filter.mpr ⟨h1, by simpa using h2⟩))
theorem dict_item {Q : Value → Shared → Prop} {value slice : PySem.Expr} {d : Addr} {kvs : List (Int × Value)} {k : Int} {u : Tok} {v : Value} (hm : s.heap.DictOf (intKind pw w) d kvs) (hv : valueAt kvs k = some v) (h : Q v { s with toks := s.toks + 1 })
    (hs : subscripted slice false (.ref d) (.int k u) = operate [.ref d, .int k u] (getItem (.ref d) (.int k u)) := by with_unfolding_all rfl) : wpAny (model pw w) A (subscriptTail value slice (.ref d) (.int k u)) Q E s :=
  tail_any hm.typeIs slot_dict_getitem.lookup (wpAny_getItem_of (intKind_is _ _ _ _) hm.mapOf hv h) hs
end
theorem kvs_at {ns : List Nd} {n : Nd} (hn : ((kvsOf ns).map (·.1)).Nodup) (h : n ∈ ns) : valueAt (kvsOf ns) n.key = some (.ref n.a) := by
  obtain ⟨i, hi⟩ := List.mem_iff_getElem?.mp h
  exact valueAt_of_get hn (i := i) (by unfold kvsOf; rw [List.getElem?_map, hi]; rfl)
/-- the list of nodes, one of them changed in its count -/
theorem put_np {pre post : List Nd} {n : Nd} {v : Int} {t : Tok} {front back : List (Addr × Obj)} (nd : ((ndsLed (pre ++ n :: post)).map (·.1)).Nodup) (hf : ∀ p ∈ front, p.1 ≠ n.a) (hb : ∀ p ∈ back, p.1 ≠ n.a) :
    Put (front ++ (ndsLed (pre ++ n :: post) ++ back)) n.a (niObj n.dx n.key n.tk v t n.l) (front ++ (ndsLed (pre ++ { n with np := v, tn := t } :: post) ++ back)) := by
  obtain ⟨e1, e2, e3, f1, f2⟩ := ndAp nd
  have key : ∀ p, p ∈ ndsLed (pre ++ n :: post) → p ∈ front ++ (ndsLed (pre ++ n :: post) ++ back) := fun p hp => List.mem_append_right _ (List.mem_append_left _ hp)
  intro p hp
  rcases List.mem_append.mp hp with hp | hp
  · exact .inr ⟨List.mem_append_left _ hp, hf p hp⟩
  rcases List.mem_append.mp hp with hp | hp
  · rcases (ndsLed_mid _ _ _ _).mp hp with hp | hp
    · simp only [Nd.led, List.mem_cons, List.not_mem_nil, or_false] at hp
      rcases hp with h | h | h
      · exact .inr ⟨key _ ((ndsLed_mid _ _ _ _).mpr (.inl (by rw [h]; exact .head _))), by rw [h]; exact e1⟩
      · exact .inl h
      · exact .inr ⟨key _ ((ndsLed_mid _ _ _ _).mpr (.inl (by rw [h]; exact .tail _ (.tail _ (.head _))))), by rw [h]; exact Ne.symm e3⟩
    · exact .inr ⟨key _ ((ndsLed_mid _ _ _ _).mpr (.inr hp)), f2 p hp⟩
  · exact .inr ⟨List.mem_append_right _ (List.mem_append_right _ hp), hb p hp⟩

end Mine
end

-- part S4
section
open PySem PySem.W PyProof.Rows
namespace Mine
theorem off_S4 : True := by
  w_top off
  first | (walk1; done) | trivial
theorem fill_S4 : PySem.Challenge.rw_oh0062_01 = PySem.Challenge.rw_oh0062_01 ∧ hd.heap_1 = hd.heap_1 := by k_fill; exact ⟨rfl, rfl⟩
local macro_rules | `(tactic| walk_at "call builtin:len") => `(tactic| refine stopMark ?_)
local macro_rules | `(tactic| walk_at "call type:tuple") => `(tactic| refine stopMark ?_)
local macro_rules | `(tactic| walk_at "subscriptTail Name Name ref int") => `(tactic| refine stopMark ?_)
noncomputable def psetnp (P : List Pn) (k v : Int) : List Pn := P.map fun p => if p.key = k then { p with np := v } else p
noncomputable def pout (P : List Pn) (rs : List Int) : List Pn := rs.foldl (fun P r => psetnp P r (-1)) P
theorem pout_succ {P : List Pn} {rs : List Int} {i : Nat} {r : Int} (h : rs[i]? = some r) : pout P (rs.take (i + 1)) = psetnp (pout P (rs.take i)) r (-1) := by
  unfold pout; rw [List.take_add_one, h]; simp
/-- the same nodes, their counts aside -/
structure SameN (ns b : List Nd) : Prop where
  kv : kvsOf b = kvsOf ns
  ad : (ndsLed b).map (·.1) = (ndsLed ns).map (·.1)
  vs : b.map (·.vs) = ns.map (·.vs)
  ls : b.map (·.l) = ns.map (·.l)
theorem SameN.refl (ns : List Nd) : SameN ns ns := ⟨rfl, rfl, rfl, rfl⟩
theorem SameN.ok {c : Sc} {ns b : List Nd} (h : SameN ns b) (ok : SOk c ns) : SOk c b := by
  refine ⟨ok.d1, ok.d2, ok.d3, fun p hp => ?_, by rw [h.ad]; exact ok.nd, ok.lo⟩
  have hm : p.1 ∈ (ndsLed b).map (·.1) := List.mem_map_of_mem hp
  rw [h.ad] at hm
  obtain ⟨q, hq, e'⟩ := List.mem_map.mp hm
  rw [← e']; exact ok.ap q hq
theorem SameN.back {ns b : List Nd} (h : SameN ns b) : ∀ p ∈ ndsLed b, ∃ q ∈ ndsLed ns, q.1 = p.1 := fun p hp => by
  have hm : p.1 ∈ (ndsLed b).map (·.1) := List.mem_map_of_mem hp
  rw [h.ad] at hm
  exact List.mem_map.mp hm
theorem SameN.node {ns b : List Nd} (h : SameN ns b) {r : Int} (hr : ∃ n ∈ ns, n.key = r) : ∃ n ∈ b, n.key = r := by
  obtain ⟨n, hn, e⟩ := hr
  have h1 : r ∈ (kvsOf ns).map (·.1) := List.mem_map.mpr ⟨(n.key, .ref n.a), List.mem_map.mpr ⟨n, hn, rfl⟩, e⟩
  rw [← h.kv] at h1
  obtain ⟨p, hp, e⟩ := List.mem_map.mp h1
  obtain ⟨y, hy, rfl⟩ := List.mem_map.mp hp
  exact ⟨y, hy, e⟩
theorem SameN.np {ns pre post : List Nd} {n : Nd} {v : Int} {t : Tok} (h : SameN ns (pre ++ n :: post)) : SameN ns (pre ++ { n with np := v, tn := t } :: post) :=
  ⟨(kvs_upd (n := n) (n' := { n with np := v, tn := t }) rfl rfl).trans h.kv, (led_addrs (n := n) (n' := { n with np := v, tn := t }) rfl rfl rfl).trans h.ad, by rw [← h.vs]; simp, by rw [← h.ls]; simp⟩
theorem list_size {rv : List Value} (h : rv.length ≤ 900) : rv.toArray.toList.length ≤ sizeLine := by
  have e : (1000 : Nat) ≤ sizeLine := by decide
  have h1 : rv.toArray.toList.length = rv.length := by simp
  omega
theorem getready_call {w : World} {A₀ A : Around} {base h₀ : Heap} {env : Env} {outer : List Env} {L : Addr} {m : Str → Option Value} {rest : List (Addr × Obj)} {mean mg mb} {s : Shared} {Q : Value → Shared → Prop} {E : Value → Shared → Prop} {c : Sc} {oD : Obj} {np nf : Int} {tp tf : Tok} {ns : List Nd} {P : List Pn} {R : Addr} {rv : List Value} {rs : List Int} {nr : Nat}
    (G : Gd w A₀ base outer h₀ mean mg mb) (C : Cr A env outer L 2) (F : Fr h₀ L s.heap m) (N : News h₀ L s.heap (((R, W.listOf rv.toArray nr) :: (c.D, oD) :: (c.x, instObj 158 c.dx) :: (c.dx, sDict w c.k0 c.k1 c.k2 c.k3 c.D (.ref R) np tp nf tf) :: ndsLed ns) ++ rest))
    (hsep : ∀ p ∈ (R, W.listOf rv.toArray nr) :: (c.D, oD) :: (c.x, instObj 158 c.dx) :: (c.dx, sDict w c.k0 c.k1 c.k2 c.k3 c.D (.ref R) np tp nf tf) :: ndsLed ns, ∀ q ∈ rest, p.1 ≠ q.1)
    (ok : SOk c ns) (hRn : ∀ p ∈ (c.D, oD) :: (c.x, instObj 158 c.dx) :: (c.dx, sDict w c.k0 c.k1 c.k2 c.k3 c.D (.ref R) np tp nf tf) :: ndsLed ns, p.1 ≠ R)
    (hD : Obj.IsDictOf (intKind pw w) oD (kvsOf ns)) (hR : Rep ns P) (hI : IntsAre rv rs) (hlen : rs.length ≤ 900) (hin : ∀ r ∈ rs, ∃ n ∈ ns, n.key = r) (hne : rs ≠ [])
    (hQ : ∀ ns' (T : Addr) nr' tp' h' tk, Rep ns' (pout P rs) → SameN ns ns' → Fr h₀ L h' m → News h₀ L h' (((T, tupObj rv) :: (R, W.listOf #[] nr') :: (c.D, oD) :: (c.x, instObj 158 c.dx) :: (c.dx, sDict w c.k0 c.k1 c.k2 c.k3 c.D (.ref R) (np + rs.length) tp' nf tf) :: ndsLed ns') ++ rest) →
      (∀ p ∈ (T, tupObj rv) :: (R, W.listOf #[] nr') :: (c.D, oD) :: (c.x, instObj 158 c.dx) :: (c.dx, sDict w c.k0 c.k1 c.k2 c.k3 c.D (.ref R) (np + rs.length) tp' nf tf) :: ndsLed ns', ∀ q ∈ rest, p.1 ≠ q.1) →
      (∀ p ∈ (R, W.listOf #[] nr') :: (c.D, oD) :: (c.x, instObj 158 c.dx) :: (c.dx, sDict w c.k0 c.k1 c.k2 c.k3 c.D (.ref R) (np + rs.length) tp' nf tf) :: ndsLed ns', p.1 ≠ T) → Q (.ref T) { s with heap := h', toks := tk }) :
    wpAny (model pw w) A (call (.ref 120) [.ref c.x]) Q E s := by
  refine wpAny_call (enterQ [(("self" : Str), Value.ref c.x)] _ rest G C F N hsep (by k_is) (by k_is) (BindsTo.of_eq rfl) (locs rfl) rfl rfl rfl (by decide) ?_)
  intro g L' h1 tk1 hg F1 N1 lt1 G1 C1
  have hh := C1.hh
  have hu64 := C1.u64
  have G2 := G1
  obtain ⟨B1, X1, T1⟩ := G1
  clear C G F N
  have hszr : rv.length ≤ 900 := by rw [hI.length]; exact hlen
  k_steps
  unfold Stop
  refine kde_tupleOf F1 N1 ⟨_, (N1 _ (.head _)).1, rfl, _, rfl⟩ (by rw [List.size_toArray]; omega) rfl ?_
  intro T h2 F2 N2 hT2
  have hTn : ∀ p ∈ (R, W.listOf rv.toArray nr) :: (c.D, oD) :: (c.x, instObj 158 c.dx) :: (c.dx, sDict w c.k0 c.k1 c.k2 c.k3 c.D (.ref R) np tp nf tf) :: ndsLed ns, p.1 ≠ T := fun p hp => Nat.ne_of_lt (hT2 p hp)
  k_steps
  rename Fr _ _ _ _ => F3
  rename News _ _ _ _ => N3
  unfold Stop
  refine For_invV g rfl rfl ?_
  k_steps
  unfold Stop
  have hkn := PyProof.Rows.keysNodup_of_isDictOf hD
  refine iterTupleX (l := T) (items := rv) (fun b : List Nd => ((T, tupObj rv) :: (R, W.listOf rv.toArray nr) :: (c.D, oD) :: (c.x, instObj 158 c.dx) :: (c.dx, sDict w c.k0 c.k1 c.k2 c.k3 c.D (.ref R) np tp nf tf) :: []) ++ ndsLed b) (fun _ => []) [] (fun i b => Rep b (pout P (rs.take i)) ∧ SameN ns b) ns
    ⟨_, (N3 _ (.head _)).1, rfl, _, rfl⟩ (N3 _ (.head _)).2.1 hh F3 N3 (fun p hp => nomatch hp) ⟨by simpa [pout] using hR, SameN.refl _⟩ ?_ ?_
  · rintro i v b u h4 tk4 own wr hv ⟨R4, S4⟩ hnw hoff hown hwo F4 N4
    dsimp only [envOf] at F4 N4
    dsimp only [cont_nil, kstB] at F4
    obtain ⟨r, hr⟩ : ∃ r, rs[i]? = some r := by
      have h1 : i < rv.length := (List.getElem?_eq_some_iff.mp hv).1
      rw [hI.length] at h1
      exact ⟨_, List.getElem?_eq_getElem h1⟩
    obtain ⟨ti, hti⟩ := hI.get i r hr
    rw [hti] at hv
    cases hv
    have ok4 := S4.ok ok
    obtain ⟨n, hn, hk⟩ := S4.node (hin r (List.mem_of_getElem? hr))
    subst hk
    have hD4 : Obj.IsDictOf (intKind pw w) oD (kvsOf b) := by rw [S4.kv]; exact hD
    have hkn4 := PyProof.Rows.keysNodup_of_isDictOf hD4
    simp only [List.cons_append, List.nil_append] at N4
    k_steps
    rename Fr _ _ _ _ => F5
    rename News _ _ _ _ => N5
    unfold Stop
    refine dict_item (Heap.dictOf_iff.mpr ⟨oD, (N5 _ (.tail _ (.tail _ (.head _)))).1, hD4⟩) (kvs_at hkn4 hn) ?_ (by with_unfolding_all rfl)
    obtain ⟨pre, post, eb⟩ := led_split hn
    subst eb
    obtain ⟨e1, e2, e3, f1, f2⟩ := ndAp ok4.nd
    have hmem : ∀ p ∈ n.led, p ∈ (T, tupObj rv) :: (R, W.listOf rv.toArray nr) :: (c.D, oD) :: (c.x, instObj 158 c.dx) :: (c.dx, sDict w c.k0 c.k1 c.k2 c.k3 c.D (.ref R) np tp nf tf) :: (ndsLed (pre ++ n :: post) ++ own) := fun p hp => .tail _ (.tail _ (.tail _ (.tail _ (.tail _ (List.mem_append_left _ ((ndsLed_mid _ _ _ _).mpr (.inl hp)))))))
    have I5 := ndAt_of N5 hmem e1 e2 e3
    refine nd_set_np F5 X1 N5 I5 ?_
    intro h6 F6 put6
    have hna := (ndsLed_mid pre post n (n.a, niObj n.dx n.key n.tk n.np n.tn n.l)).mpr (.inl (.tail _ (.head _)))
    have hfr6 : ∀ p ∈ [(T, tupObj rv), (R, W.listOf rv.toArray nr), (c.D, oD), (c.x, instObj 158 c.dx), (c.dx, sDict w c.k0 c.k1 c.k2 c.k3 c.D (.ref R) np tp nf tf)], p.1 ≠ n.a := by
      obtain ⟨q, hq, eq⟩ := S4.back _ hna
      have eq' : q.1 = n.a := eq
      have i1 := ok.ap q hq
      rw [eq'] at i1
      have i2 := hTn q (.tail _ (.tail _ (.tail _ (.tail _ hq))))
      have i3 := hRn q (.tail _ (.tail _ (.tail _ hq)))
      rw [eq'] at i2 i3
      exact ne_cons (Ne.symm i2) (ne_cons (Ne.symm i3) (ne_cons (Ne.symm i1.2.2) (ne_cons (Ne.symm i1.1) (ne_cons (Ne.symm i1.2.1) fun p hp => nomatch hp))))
    have hbk6 : ∀ p ∈ own, p.1 ≠ n.a := by
      intro p hp
      by_cases hpT : p.1 = T
      · rw [hpT]; exact hfr6 _ (.head _)
      · exact hoff p hp hpT _ (List.mem_append_right _ hna)
    have N6 := put6 _ (put_np (front := [(T, tupObj rv), (R, W.listOf rv.toArray nr), (c.D, oD), (c.x, instObj 158 c.dx), (c.dx, sDict w c.k0 c.k1 c.k2 c.k3 c.D (.ref R) np tp nf tf)]) ok4.nd hfr6 hbk6)
    have S6 := S4.np (v := -1) (t := 231)
    refine wpAny_pure ?_
    refine ⟨pre ++ { n with np := -1, tn := 231 } :: post, h6, _, _, _, rfl, F6, N6, ?_, ?_, ?_, (fun p hp => nomatch hp), ?_, ?_, S6⟩
    · intro p hp
      rcases List.mem_append.mp hp with hp | hp
      · exact List.mem_append_left _ hp
      · exact List.mem_append_right _ (List.mem_append_left _ hp)
    · intro p hp; exact List.mem_append_right _ (List.mem_append_right _ hp)
    · intro p hp
      rcases List.mem_append.mp hp with hp | hp
      · exact hnw p (List.mem_append_left _ hp)
      · have e6 := led_addrs (pre := pre) (post := post) (n := n) (n' := { n with np := -1, tn := 231 }) rfl rfl rfl
        have hm : p.1 ∈ (ndsLed (pre ++ { n with np := -1, tn := 231 } :: post)).map (·.1) := List.mem_map_of_mem hp
        rw [e6] at hm
        obtain ⟨q, hq, e⟩ := List.mem_map.mp hm
        rw [← e]; exact hnw q (List.mem_append_right _ hq)
    · intro z z1 _ _; simp only [if_neg z1]
    · rw [pout_succ hr]
      exact R4.upd hkn4 rfl fun p hp => ⟨hp.key, rfl, hp.ss⟩
  · rintro b u h7 tk7 ⟨R7, S7⟩ F7 N7
    dsimp only [envOf] at F7 N7
    dsimp only [cont_nil, kstB] at F7
    rw [hI.length, List.take_length] at R7
    simp only [List.cons_append, List.nil_append] at N7
    have hR7 : ∀ p ∈ (c.D, oD) :: (c.x, instObj 158 c.dx) :: (c.dx, sDict w c.k0 c.k1 c.k2 c.k3 c.D (.ref R) np tp nf tf) :: ndsLed b, p.1 ≠ R := by
      intro p hp
      rcases List.mem_cons.mp hp with rfl | hp
      · exact hRn _ (.head _)
      rcases List.mem_cons.mp hp with rfl | hp
      · exact hRn _ (.tail _ (.head _))
      rcases List.mem_cons.mp hp with rfl | hp
      · exact hRn _ (.tail _ (.tail _ (.head _)))
      · obtain ⟨q, hq, e⟩ := S7.back p hp
        rw [← e]; exact hRn q (.tail _ (.tail _ (.tail _ hq)))
    have hTR : T ≠ R := Ne.symm (hTn _ (.head _))
    have ok7 := S7.ok ok
    have hTd : T ≠ c.dx := Ne.symm (hTn _ (.tail _ (.tail _ (.tail _ (.head _)))))
    have hRd : R ≠ c.dx := Ne.symm (hRn _ (.tail _ (.tail _ (.head _))))
    have hDd : c.D ≠ c.dx := Ne.symm ok.d3
    have hxd : c.x ≠ c.dx := ok.d1
    have hnd7 : ∀ p ∈ ndsLed b, p.1 ≠ c.dx := fun p hp => (ok7.ap p hp).2.1
    have hrl : rv ≠ [] := by intro e; apply hne; have := hI.length; rw [e] at this; exact List.length_eq_zero_iff.mp this.symm
    k_steps
    rename Fr _ _ _ _ => F8
    rename News _ _ _ _ => N8
    show wpAny _ _ (call (.builtin "list.clear") [.ref R]) _ _ _
    refine kl_clear F8 N8 (.tail hTR (.head hR7)) (by simpa using hrl) (list_size hszr) ?_
    intro h9 F9 N9
    have hTf : (T, tupObj rv) ∈ (T, tupObj rv) :: (R, W.listOf #[] (nr + 1)) :: (c.D, oD) :: (c.x, instObj 158 c.dx) :: (c.dx, sDict w c.k0 c.k1 c.k2 c.k3 c.D (.ref R) np tp nf tf) :: ndsLed b := .head _
    k_steps
    rename Fr _ _ _ _ => F10
    rename News _ _ _ _ => N10
    unfold Stop
    refine PyProof.Rows.len_tuple (items := rv.toArray) ⟨_, (N10 _ (.head _)).1, rfl, _, rfl⟩ (by rw [List.size_toArray]; omega) ?_
    have eL : ((rv.toArray.size : Nat) : Int) = (rs.length : Int) := by rw [List.size_toArray, hI.length]
    rw [eL]
    k_steps
    rename Fr _ _ _ _ => F11
    rename News _ _ _ _ => N11
    unfold Stop
    show LeaveQ _ _ _ _ _ _ _ _ _
    refine ⟨_, _, F11, N11, fun Fz Nz hz => hQ b T _ _ _ _ R7 S7 Fz Nz hz ?_⟩
    intro p hp
    rcases List.mem_cons.mp hp with rfl | hp
    · exact Ne.symm hTR
    rcases List.mem_cons.mp hp with rfl | hp
    · exact hTn _ (.tail _ (.head _))
    rcases List.mem_cons.mp hp with rfl | hp
    · exact hTn _ (.tail _ (.tail _ (.head _)))
    rcases List.mem_cons.mp hp with rfl | hp
    · exact Ne.symm hTd
    · obtain ⟨q, hq, e⟩ := S7.back p hp
      rw [← e]; exact hTn q (.tail _ (.tail _ (.tail _ (.tail _ hq))))

end Mine
end

-- part S5
section
open PySem PySem.W PyProof.Rows
namespace Mine
theorem off_S5 : True := by
  w_top off
  first | (walk1; done) | trivial
theorem fill_S5 : PySem.Challenge.rw_oh0062_01 = PySem.Challenge.rw_oh0062_01 ∧ hd.heap_1 = hd.heap_1 := by k_fill; exact ⟨rfl, rfl⟩
theorem meets_bool_list (l : Addr) (items : Array Value) (hfit : (items.size : Int) < 2 ^ 63) :
    Meets (Builtin.«bool.__new__» ⟨[.type "bool", .ref l], []⟩) (fun _ R s => s.heap.IsList l items ∧ R (.ok (.ret (.bool (!items.isEmpty)))) { s with toks := s.toks + 1 + 1 }) :=
  Meets.of_wp fun prog w A R s hs => by
    obtain ⟨hp, g, d, tk, os⟩ := s
    have f1 := F.conv_sub_bool
    repeat (any_goals (first | assumption | (with_reducible refine wpAny_truthy_list hs.1 hfit ?_) | wp_step))
    all_goals first | exact ⟨_, rfl, hs.2⟩ | exact hs.2 | skip
theorem bool_list {w : World} {A : Around} {E : Value → Shared → Prop} {s : Shared} {l : Addr} {items : Array Value} {Q : Value → Shared → Prop} (hl : s.heap.IsList l items) (hfit : (items.size : Int) < 2 ^ 63) (h : Q (.bool (!items.isEmpty)) { s with toks := s.toks + 1 + 1 }) :
    wpAny (model pw w) A (call (.type "bool") [.ref l]) Q E s :=
  call_bool_1 (meets_bool_list l items hfit) ⟨hl, show wants (fun obj s₁ => s₁.TypeIs obj "bool" ∧ Q obj s₁) E _ _ from ⟨rfl, h⟩⟩
theorem active_call {w : World} {A₀ A : Around} {base h₀ : Heap} {env : Env} {outer : List Env} {L : Addr} {m : Str → Option Value} {rest : List (Addr × Obj)} {mean mg mb} {s : Shared} {Q : Value → Shared → Prop} {E : Value → Shared → Prop} {c : Sc} {np nf : Int} {tp tf : Tok} {R : Addr} {rv : List Value} {nr : Nat}
    (G : Gd w A₀ base outer h₀ mean mg mb) (C : Cr A env outer L 2) (F : Fr h₀ L s.heap m) (N : News h₀ L s.heap (((R, W.listOf rv.toArray nr) :: (c.x, instObj 158 c.dx) :: (c.dx, sDict w c.k0 c.k1 c.k2 c.k3 c.D (.ref R) np tp nf tf) :: []) ++ rest))
    (hsep : ∀ p ∈ (R, W.listOf rv.toArray nr) :: (c.x, instObj 158 c.dx) :: (c.dx, sDict w c.k0 c.k1 c.k2 c.k3 c.D (.ref R) np tp nf tf) :: [], ∀ q ∈ rest, p.1 ≠ q.1) (hlen : rv.length ≤ 900) (heq : nf = np)
    (hQ : ∀ h' tk, Fr h₀ L h' m → News h₀ L h' (((R, W.listOf rv.toArray nr) :: (c.x, instObj 158 c.dx) :: (c.dx, sDict w c.k0 c.k1 c.k2 c.k3 c.D (.ref R) np tp nf tf) :: []) ++ rest) → Q (.bool (!rv.isEmpty)) { s with heap := h', toks := tk }) :
    wpAny (model pw w) A (call (.ref 127) [.ref c.x]) Q E s := by
  refine wpAny_call (enterQ [(("self" : Str), Value.ref c.x)] _ rest G C F N hsep (by k_is) (by k_is) (BindsTo.of_eq rfl) (locs rfl) rfl rfl rfl (by decide) ?_)
  intro g L' h1 tk1 hg F1 N1 lt1 G1 C1
  have hh := C1.hh
  have hu64 := C1.u64
  have G2 := G1
  obtain ⟨B1, X1, T1⟩ := G1
  clear C G F N
  subst heq
  k_steps
  · omega
  refine bool_list (items := rv.toArray) ⟨_, (N1 _ (.head _)).1, rfl, _, rfl⟩ (by rw [List.size_toArray]; omega) ?_
  refine ⟨_, _, F1, N1, fun Fz Nz hz => ?_⟩
  have e : (!rv.toArray.isEmpty) = !rv.isEmpty := by simp
  rw [e]
  exact hQ _ _ Fz Nz

end Mine
end

-- part S6
section
open PySem PySem.W PyProof.Rows
namespace Mine
theorem off_S6 : True := by
  w_top off
  first | (walk1; done) | trivial
theorem fill_S6 : PySem.Challenge.rw_oh0062_01 = PySem.Challenge.rw_oh0062_01 ∧ hd.heap_1 = hd.heap_1 := by k_fill; exact ⟨rfl, rfl⟩
local macro_rules | `(tactic| walk_at "call builtin:dict.get") => `(tactic| refine stopMark ?_)
local macro_rules | `(tactic| walk_at "subscriptTail Name Name ref int") => `(tactic| refine stopMark ?_)
local macro_rules | `(tactic| walk_at "exec For Name Attribute cons nil") => `(tactic| refine stopMark ?_)
local macro_rules | `(tactic| walk_at "getAttr ref") => `(tactic| ((with_reducible show wpAny _ _ (getAttr (Value.ref _) (PySem.Str.ofString "npredecessors") _) _ _ _); refine stopMark ?_))
local macro_rules | `(tactic| walk_at "getAttr ref") => `(tactic| ((with_reducible show wpAny _ _ (getAttr (Value.ref _) (PySem.Str.ofString "successors") _) _ _ _); refine stopMark ?_))
local macro_rules | `(tactic| walk_at "setAttr ref") => `(tactic| ((with_reducible show wpAny _ _ (setAttr (Value.ref _) (PySem.Str.ofString "npredecessors") _) _ _ _); refine stopMark ?_))
noncomputable def npOf (P : List Pn) (k : Int) : Int := ((P.find? fun p => p.key == k).map (·.np)).getD 0
noncomputable def ssOf (P : List Pn) (k : Int) : List Int := ((P.find? fun p => p.key == k).map (·.ss)).getD []
noncomputable def dstep (b : List Pn × List Int) (k : Int) : List Pn × List Int := (pnp b.1 k (-1), if npOf (pnp b.1 k (-1)) k = 0 then b.2 ++ [k] else b.2)
noncomputable def dnode (b : List Pn × List Int) (k : Int) : List Pn × List Int := (ssOf b.1 k).foldl dstep (psetnp b.1 k (-2), b.2)
theorem dstep_eq {b : List Pn × List Int} {k v : Int} (h : npOf (pnp b.1 k (-1)) k = v) : dstep b k = (pnp b.1 k (-1), if v = 0 then b.2 ++ [k] else b.2) := by
  unfold dstep; rw [h]
theorem Rep.find {ns : List Nd} {P : List Pn} {n : Nd} (h : Rep ns P) (hn : ((kvsOf ns).map (·.1)).Nodup) (hm : n ∈ ns) : ∃ p, (P.find? fun p => p.key == n.key) = some p ∧ RepN n p := by
  have e : ∀ l : List Nd, (kvsOf l).map (·.1) = l.map (·.key) := fun l => by simp [kvsOf]
  rw [e] at hn
  clear e
  induction h with
  | nil => cases hm
  | @cons y p ns P a r ih =>
    rw [List.find?_cons]
    rcases List.mem_cons.mp hm with rfl | hm
    · rw [a.key]; simp only [beq_self_eq_true]; exact ⟨p, rfl, a⟩
    · rw [List.map_cons, List.nodup_cons] at hn
      have : (p.key == n.key) = false := by
        rw [← a.key, beq_eq_false_iff_ne]
        intro e
        exact hn.1 (List.mem_map.mpr ⟨n, hm, e.symm⟩)
      rw [this]
      exact ih hn.2 hm
theorem Rep.npOf {ns : List Nd} {P : List Pn} {n : Nd} (h : Rep ns P) (hn : ((kvsOf ns).map (·.1)).Nodup) (hm : n ∈ ns) : Mine.npOf P n.key = n.np := by
  obtain ⟨p, h1, h2⟩ := h.find hn hm
  unfold Mine.npOf; rw [h1]; exact h2.np.symm
theorem Rep.ssOf {ns : List Nd} {P : List Pn} {n : Nd} (h : Rep ns P) (hn : ((kvsOf ns).map (·.1)).Nodup) (hm : n ∈ ns) : IntsAre n.vs (Mine.ssOf P n.key) := by
  obtain ⟨p, h1, h2⟩ := h.find hn hm
  unfold Mine.ssOf; rw [h1]; exact h2.ss
structure DSo where
  ns : List Nd
  rv : List Value
  nr : Nat
  nf : Int
  tf : Tok
noncomputable def DSo.led (w : World) (c : Sc) (T R : Addr) (kv : List Value) (oD : Obj) (np : Int) (tp : Tok) (b : DSo) : List (Addr × Obj) :=
  (T, tupObj kv) :: (R, W.listOf b.rv.toArray b.nr) :: (c.D, oD) :: (c.x, instObj 158 c.dx) :: (c.dx, sDict w c.k0 c.k1 c.k2 c.k3 c.D (.ref R) np tp b.nf b.tf) :: ndsLed b.ns
structure DSo.Ok (ns : List Nd) (st : List Pn × List Int) (nf : Int) (B : Nat) (b : DSo) : Prop where
  R : Rep b.ns st.1
  S : SameN ns b.ns
  I : IntsAre b.rv st.2
  f : b.nf = nf
  l : st.2.length ≤ B
theorem done_call {w : World} {A₀ A : Around} {base h₀ : Heap} {env : Env} {outer : List Env} {L : Addr} {m : Str → Option Value} {rest : List (Addr × Obj)} {mean mg mb} {s : Shared} {Q : Value → Shared → Prop} {E : Value → Shared → Prop} {c : Sc} {oD : Obj} {np nf : Int} {tp tf : Tok} {ns : List Nd} {P : List Pn} {R : Addr} {rv kv : List Value} {rs ks : List Int} {nr B : Nat}
    (G : Gd w A₀ base outer h₀ mean mg mb) (C : Cr A env outer L 2) (F : Fr h₀ L s.heap m) (N : News h₀ L s.heap (((R, W.listOf rv.toArray nr) :: (c.D, oD) :: (c.x, instObj 158 c.dx) :: (c.dx, sDict w c.k0 c.k1 c.k2 c.k3 c.D (.ref R) np tp nf tf) :: ndsLed ns) ++ rest))
    (hsep : ∀ p ∈ (R, W.listOf rv.toArray nr) :: (c.D, oD) :: (c.x, instObj 158 c.dx) :: (c.dx, sDict w c.k0 c.k1 c.k2 c.k3 c.D (.ref R) np tp nf tf) :: ndsLed ns, ∀ q ∈ rest, p.1 ≠ q.1)
    (ok : SOk c ns) (hRn : ∀ p ∈ (c.D, oD) :: (c.x, instObj 158 c.dx) :: (c.dx, sDict w c.k0 c.k1 c.k2 c.k3 c.D (.ref R) np tp nf tf) :: ndsLed ns, p.1 ≠ R)
    (hD : Obj.IsDictOf (intKind pw w) oD (kvsOf ns)) (hR : Rep ns P) (hI : IntsAre rv rs) (hK : IntsAre kv ks) (hlen : ks.length ≤ 900) (hvs : ∀ n ∈ ns, n.vs.length ≤ 900)
    (hin : ∀ k ∈ ks, ∃ n ∈ ns, n.key = k) (hss : ∀ i k q, ks[i]? = some k → q ∈ ssOf ((ks.take i).foldl dnode (P, rs)).1 k → ∃ n ∈ ns, n.key = q) (hout : ∀ i k, ks[i]? = some k → npOf ((ks.take i).foldl dnode (P, rs)).1 k = -1) (hsz : ∀ i, ((ks.take i).foldl dnode (P, rs)).2.length ≤ B) (hB : B ≤ 900)
    (hQ : ∀ ns' rv' nr' tf' h' tk, Rep ns' (ks.foldl dnode (P, rs)).1 → SameN ns ns' → IntsAre rv' (ks.foldl dnode (P, rs)).2 → Fr h₀ L h' m → News h₀ L h' (((R, W.listOf rv'.toArray nr') :: (c.D, oD) :: (c.x, instObj 158 c.dx) :: (c.dx, sDict w c.k0 c.k1 c.k2 c.k3 c.D (.ref R) np tp (nf + ks.length) tf') :: ndsLed ns') ++ rest) →
      (∀ p ∈ (R, W.listOf rv'.toArray nr') :: (c.D, oD) :: (c.x, instObj 158 c.dx) :: (c.dx, sDict w c.k0 c.k1 c.k2 c.k3 c.D (.ref R) np tp (nf + ks.length) tf') :: ndsLed ns', ∀ q ∈ rest, p.1 ≠ q.1) → Q .none { s with heap := h', toks := tk }) :
    codeAny (model pw w) A (.call (.ref 141) { pos := .ref c.x :: kv }) (fun r s' => match r with | .ok (.ret v) => Q v s' | .ok _ => False | .error e => E e s') s := by
  have hszp : kv.length ≤ 1000 := by rw [hK.length]; omega
  have N1 : News h₀ L (s.heap.push (tupObj kv)) (((s.heap.objs.size, tupObj kv) :: (R, W.listOf rv.toArray nr) :: (c.D, oD) :: (c.x, instObj 158 c.dx) :: (c.dx, sDict w c.k0 c.k1 c.k2 c.k3 c.D (.ref R) np tp nf tf) :: ndsLed ns) ++ rest) := by
    intro p hp
    rcases List.mem_cons.mp hp with rfl | hp
    · exact ⟨Heap.get?_push_size _ rfl, Nat.ne_of_gt F.ns.lt, next_is_new F⟩
    · exact ⟨Heap.get?_push_of_some _ (N p hp).1, (N p hp).2⟩
  have hTn0 : ∀ q ∈ ((R, W.listOf rv.toArray nr) :: (c.D, oD) :: (c.x, instObj 158 c.dx) :: (c.dx, sDict w c.k0 c.k1 c.k2 c.k3 c.D (.ref R) np tp nf tf) :: ndsLed ns) ++ rest, s.heap.objs.size ≠ q.1 := fun q hq => Nat.ne_of_gt (Heap.lt_size (N q hq).1)
  refine enterQV (s₁ := { s with heap := s.heap.push (tupObj kv) }) [(("self" : Str), Value.ref c.x), ("nodes", .ref s.heap.objs.size)] _ rest G C F (F.push _) N1 ?_ (by k_is) (by k_is) ?_ (locs rfl) rfl rfl rfl (by decide) ?_
  · intro p hp q hq
    rcases List.mem_cons.mp hp with rfl | hp
    · exact hTn0 q (List.mem_append_right _ hq)
    · exact hsep p hp q hq
  · intro M A E Q h
    unfold bindArgs
    dsimp only [fnOf]
    simp only [Option.isNone_some, Bool.and_false, Bool.false_eq_true, if_false]
    change wpAny M A (newTuple kv >>= fun T => pure [(("self" : Str), Value.ref c.x), ("nodes", T)]) Q E s
    refine wpAny_bind ?_
    unfold newTuple
    exact wpAny_newObj_type (wpAny_pure h) (tup_size hszp)
  have hTn : ∀ q ∈ (R, W.listOf rv.toArray nr) :: (c.D, oD) :: (c.x, instObj 158 c.dx) :: (c.dx, sDict w c.k0 c.k1 c.k2 c.k3 c.D (.ref R) np tp nf tf) :: ndsLed ns, q.1 ≠ s.heap.objs.size := fun q hq => Ne.symm (hTn0 q (List.mem_append_left _ hq))
  generalize s.heap.objs.size = T at *
  intro g L' h1 tk1 hg F1 N1 lt1 G1 C1
  have hh := C1.hh
  have hu64 := C1.u64
  have G2 := G1
  obtain ⟨B1, X1, T1⟩ := G1
  clear C G F N
  ((try first | refine genS (fun Qx gx dx ox hQx => ?_) | refine genQ (fun Qx hQx => ?_)); k_steps)
  rename Fr _ _ _ _ => F3
  rename News _ _ _ _ => N3
  unfold Stop
  refine For_invV g rfl rfl ?_
  ((try first | refine genS (fun Qx gx dx ox hQx => ?_) | refine genQ (fun Qx hQx => ?_)); k_steps)
  unfold Stop
  refine iterTupleX (l := T) (items := kv) (DSo.led w c T R kv oD np tp) (fun _ => []) [("nodeinfo" : Str), "stat", "successor", "successor_info"] (fun i b => DSo.Ok ns ((ks.take i).foldl dnode (P, rs)) (nf + i) B b) ⟨ns, rv, nr, nf, tf⟩
    ⟨_, (N3 _ (.head _)).1, rfl, _, rfl⟩ (N3 _ (.head _)).2.1 hh F3 N3 (fun p hp => nomatch hp) ⟨by simpa using hR, SameN.refl _, by simpa using hI, by simp, by simpa using hsz 0⟩ ?_ ?_
  · rintro i v ⟨ns4, rv4, nr4, nf4, tf4⟩ u h4 tk4 own wr hv ⟨R4, S4, I4, f4, l4⟩ hnw hoff hown hwo F4 N4
    dsimp only at R4 S4 I4 f4
    dsimp only [envOf, DSo.led] at F4 N4 hnw hoff
    simp only [kstB] at F4
    obtain ⟨k, hk⟩ : ∃ k, ks[i]? = some k := by
      have h1 : i < kv.length := (List.getElem?_eq_some_iff.mp hv).1
      rw [hK.length] at h1
      exact ⟨_, List.getElem?_eq_getElem h1⟩
    obtain ⟨ti, hti⟩ := hK.get i k hk
    rw [hti] at hv
    cases hv
    have ok4 := S4.ok ok
    obtain ⟨n, hn, hkey⟩ := S4.node (hin k (List.mem_of_getElem? hk))
    subst hkey
    have hD4 : Obj.IsDictOf (intKind pw w) oD (kvsOf ns4) := by rw [S4.kv]; exact hD
    have hkn4 := PyProof.Rows.keysNodup_of_isDictOf hD4
    have hnp4 : n.np = -1 := (R4.npOf hkn4 hn).symm.trans (hout i _ hk)
    simp only [List.cons_append] at N4
    ((try first | refine genS (fun Qx gx dx ox hQx => ?_) | refine genQ (fun Qx hQx => ?_)); k_steps)
    rename Fr _ _ _ _ => F5
    rename News _ _ _ _ => N5
    unfold Stop
    refine dget (Heap.dictOf_iff.mpr ⟨oD, (N5 _ (.tail _ (.tail _ (.head _)))).1, hD4⟩) ok.lo ?_
    rw [kvs_at hkn4 hn]
    simp only [Option.getD_some]
    ((try first | refine genS (fun Qx gx dx ox hQx => ?_) | refine genQ (fun Qx hQx => ?_)); k_steps)
    rename Fr _ _ _ _ => F6
    rename News _ _ _ _ => N6
    unfold Stop
    obtain ⟨pre, post, eb⟩ := led_split hn
    subst eb
    obtain ⟨e1, e2, e3, f1, f2⟩ := ndAp ok4.nd
    have hmem6 : ∀ p ∈ n.led, p ∈ (T, tupObj kv) :: (R, W.listOf rv4.toArray nr4) :: (c.D, oD) :: (c.x, instObj 158 c.dx) :: (c.dx, sDict w c.k0 c.k1 c.k2 c.k3 c.D (Value.ref R) np tp nf4 tf4) :: (ndsLed (pre ++ n :: post) ++ own) := fun p hp => .tail _ (.tail _ (.tail _ (.tail _ (.tail _ (List.mem_append_left _ ((ndsLed_mid _ _ _ _).mpr (.inl hp)))))))
    have I6 := ndAt_of N6 hmem6 e1 e2 e3
    refine nd_get_np F6 X1 I6 ?_
    rw [hnp4]
    ((try first | refine genS (fun Qx gx dx ox hQx => ?_) | refine genQ (fun Qx hQx => ?_)); k_steps)
    rename Fr _ _ _ _ => F7
    rename News _ _ _ _ => N7
    unfold Stop
    have I7 := ndAt_of N7 hmem6 e1 e2 e3
    refine nd_set_np F7 X1 N7 I7 ?_
    intro h8 F8 put8
    have hna := (ndsLed_mid pre post n (n.a, niObj n.dx n.key n.tk n.np n.tn n.l)).mpr (.inl (.tail _ (.head _)))
    have hfrA : ∀ (n' : Addr) (o' : Obj), (n', o') ∈ ndsLed (pre ++ n :: post) → ∀ rv' nr' nf' tf', ∀ p ∈ [(T, tupObj kv), (R, W.listOf rv' nr'), (c.D, oD), (c.x, instObj 158 c.dx), (c.dx, sDict w c.k0 c.k1 c.k2 c.k3 c.D (.ref R) np tp nf' tf')], p.1 ≠ n' := by
      intro n' o' hm rv' nr' nf' tf'
      obtain ⟨q, hq, eq⟩ := S4.back _ hm
      have eq' : q.1 = n' := eq
      have i1 := ok.ap q hq
      rw [eq'] at i1
      have i2 := hTn q (.tail _ (.tail _ (.tail _ (.tail _ hq))))
      have i3 := hRn q (.tail _ (.tail _ (.tail _ hq)))
      rw [eq'] at i2 i3
      exact ne_cons (Ne.symm i2) (ne_cons (Ne.symm i3) (ne_cons (Ne.symm i1.2.2) (ne_cons (Ne.symm i1.1) (ne_cons (Ne.symm i1.2.1) fun p hp => nomatch hp))))
    have hbkA : ∀ (n' : Addr) (o' : Obj), (n', o') ∈ ndsLed (pre ++ n :: post) → ∀ p ∈ own, p.1 ≠ n' := by
      intro n' o' hm p hp
      by_cases hpT : p.1 = T
      · rw [hpT]; exact hfrA n' o' hm #[] 0 0 0 _ (.head _)
      · exact hoff p hp hpT _ (.tail _ (.tail _ (.tail _ (.tail _ (.tail _ hm)))))
    have N8 := put8 _ (put_np (front := [(T, tupObj kv), (R, W.listOf rv4.toArray nr4), (c.D, oD), (c.x, instObj 158 c.dx), (c.dx, sDict w c.k0 c.k1 c.k2 c.k3 c.D (.ref R) np tp nf4 tf4)]) ok4.nd (hfrA _ _ hna _ _ _ _) (hbkA _ _ hna))
    ((try first | refine genS (fun Qx gx dx ox hQx => ?_) | refine genQ (fun Qx hQx => ?_)); k_steps)
    rename Fr _ _ _ _ => F9
    rename News _ _ _ _ => N9
    unfold Stop
    have Isl := R4.ssOf hkn4 hn
    have R9 : Rep (pre ++ { n with np := -2, tn := 234 } :: post) (psetnp ((ks.take i).foldl dnode (P, rs)).1 n.key (-2)) := R4.upd hkn4 rfl fun p hp => ⟨hp.key, rfl, hp.ss⟩
    have S9 := S4.np (v := -2) (t := 234)
    have hssi := fun q => hss i n.key q hk
    have hsln : n.vs.length ≤ 900 := by
      have h1 : n.vs ∈ (pre ++ n :: post).map (·.vs) := List.mem_map_of_mem hn
      rw [S4.vs] at h1
      obtain ⟨y, hy, e⟩ := List.mem_map.mp h1
      rw [← e]; exact hvs y hy
    have hst9 : (ks.take (i + 1)).foldl dnode (P, rs) = (ssOf ((ks.take i).foldl dnode (P, rs)).1 n.key).foldl dstep (psetnp ((ks.take i).foldl dnode (P, rs)).1 n.key (-2), ((ks.take i).foldl dnode (P, rs)).2) := by
      rw [List.take_add_one, hk]; simp [dnode]
    have hszi := hsz (i + 1)
    rw [hst9] at hszi
    generalize hsl : ssOf ((ks.take i).foldl dnode (P, rs)).1 n.key = sl at *
    generalize hst : (ks.take i).foldl dnode (P, rs) = st at *
    have e1' := e1
    refine For_invV g rfl rfl ?_
    k_steps
    unfold Stop
    have hmem9 : ∀ p ∈ ({ n with np := -2, tn := 234 } : Nd).led, p ∈ [(T, tupObj kv), (R, W.listOf rv4.toArray nr4), (c.D, oD), (c.x, instObj 158 c.dx), (c.dx, sDict w c.k0 c.k1 c.k2 c.k3 c.D (Value.ref R) np tp nf4 tf4)] ++ (ndsLed (pre ++ { n with np := -2, tn := 234 } :: post) ++ own) := fun p hp => List.mem_append_right _ (List.mem_append_left _ ((ndsLed_mid _ _ _ _).mpr (.inl hp)))
    have I9 := ndAt_of N9 hmem9 e1 e2 e3
    refine nd_get_ss (n := { n with np := -2, tn := 234 }) F9 X1 I9 ?_
    refine iterListX (l := n.l) (items := n.vs) (fun b => DSo.led w c T R kv oD np tp b ++ own) (fun _ => []) [("successor_info" : Str)] (fun j b => DSo.Ok ns ((sl.take j).foldl dstep (psetnp st.1 n.key (-2), st.2)) nf4 (B + j) b) ⟨pre ++ { n with np := -2, tn := 234 } :: post, rv4, nr4, nf4, tf4⟩
      ⟨_, I9.l, rfl, _, rfl⟩ I9.lL hh F9 ?_ (fun p hp => nomatch hp) ⟨by simpa using R9, S9, by simpa using I4, rfl, by simpa using l4⟩ ?_ ?_
    · intro p hp
      refine N9 p ?_
      simp only [DSo.led, List.cons_append, List.nil_append] at hp ⊢
      exact hp
    · rintro j v ⟨ns10, rv10, nr10, nf10, tf10⟩ u h10 tk10 own2 wr2 hv2 ⟨R10, S10, I10, f10, l10⟩ hnw2 hoff2 hown2 hwo2 F10 N10
      dsimp only at R10 S10 I10 f10 l10
      dsimp only [envOf, DSo.led] at F10 N10 hnw2 hoff2
      simp only [kstB] at F10
      obtain ⟨q, hq⟩ : ∃ q, sl[j]? = some q := by
        have h1 : j < n.vs.length := (List.getElem?_eq_some_iff.mp hv2).1
        rw [Isl.length] at h1
        exact ⟨_, List.getElem?_eq_getElem h1⟩
      obtain ⟨tq, htq⟩ := Isl.get j q hq
      rw [htq] at hv2
      cases hv2
      have ok10 := S10.ok ok
      obtain ⟨y, hy, hkey⟩ := S10.node (hssi q (List.mem_of_getElem? hq))
      subst hkey
      have hD10 : Obj.IsDictOf (intKind pw w) oD (kvsOf ns10) := by rw [S10.kv]; exact hD
      have hkn10 := PyProof.Rows.keysNodup_of_isDictOf hD10
      simp only [List.cons_append, List.append_assoc] at N10
      ((try first | refine genS (fun Qx gx dx ox hQx => ?_) | refine genQ (fun Qx hQx => ?_)); k_steps)
      rename Fr _ _ _ _ => F11
      rename News _ _ _ _ => N11
      unfold Stop
      refine dict_item (Heap.dictOf_iff.mpr ⟨oD, (N11 _ (.tail _ (.tail _ (.head _)))).1, hD10⟩) (kvs_at hkn10 hy) ?_ (by with_unfolding_all rfl)
      obtain ⟨pr, po, eb⟩ := led_split hy
      subst eb
      obtain ⟨g1, g2, g3, j1, j2⟩ := ndAp ok10.nd
      have hmem11 : ∀ p ∈ y.led, p ∈ (T, tupObj kv) :: (R, W.listOf rv10.toArray nr10) :: (c.D, oD) :: (c.x, instObj 158 c.dx) :: (c.dx, sDict w c.k0 c.k1 c.k2 c.k3 c.D (Value.ref R) np tp nf10 tf10) :: (ndsLed (pr ++ y :: po) ++ (own ++ own2)) := fun p hp => .tail _ (.tail _ (.tail _ (.tail _ (.tail _ (List.mem_append_left _ ((ndsLed_mid _ _ _ _).mpr (.inl hp)))))))
      ((try first | refine genS (fun Qx gx dx ox hQx => ?_) | refine genQ (fun Qx hQx => ?_)); k_steps)
      rename Fr _ _ _ _ => F12
      rename News _ _ _ _ => N12
      unfold Stop
      have I12 := ndAt_of N12 hmem11 g1 g2 g3
      refine nd_get_np F12 X1 I12 ?_
      ((try first | refine genS (fun Qx gx dx ox hQx => ?_) | refine genQ (fun Qx hQx => ?_)); k_steps)
      rename Fr _ _ _ _ => F13
      rename News _ _ _ _ => N13
      unfold Stop
      have I13 := ndAt_of N13 hmem11 g1 g2 g3
      refine nd_set_np F13 X1 N13 I13 ?_
      intro h14 F14 put14
      obtain ⟨t14, put14⟩ : ∃ t14, ∀ led', Put ((T, tupObj kv) :: (R, W.listOf rv10.toArray nr10) :: (c.D, oD) :: (c.x, instObj 158 c.dx) :: (c.dx, sDict w c.k0 c.k1 c.k2 c.k3 c.D (Value.ref R) np tp nf10 tf10) :: (ndsLed (pr ++ y :: po) ++ (own ++ own2))) y.a (niObj y.dx y.key y.tk (y.np - 1) t14 y.l) led' → News g L' h14 led' := ⟨_, put14⟩
      have hya := (ndsLed_mid pr po y (y.a, niObj y.dx y.key y.tk y.np y.tn y.l)).mpr (.inl (.tail _ (.head _)))
      obtain ⟨q0, hq0, eq0⟩ := S10.back _ hya
      obtain ⟨q4, hq4, eq4⟩ : ∃ q4 ∈ ndsLed (pre ++ n :: post), q4.1 = y.a := by
        have hm : y.a ∈ (ndsLed ns).map (·.1) := List.mem_map.mpr ⟨q0, hq0, eq0⟩
        rw [← S4.ad] at hm
        exact List.mem_map.mp hm
      have hfr14 : ∀ rv' nr' nf' tf', ∀ p ∈ [(T, tupObj kv), (R, W.listOf rv' nr'), (c.D, oD), (c.x, instObj 158 c.dx), (c.dx, sDict w c.k0 c.k1 c.k2 c.k3 c.D (.ref R) np tp nf' tf')], p.1 ≠ y.a := by
        intro rv' nr' nf' tf' p hp
        rw [← eq4]
        exact hfrA q4.1 q4.2 hq4 rv' nr' nf' tf' p hp
      have hnl : n.l ≠ y.a := by
        have h1 : n.l ∈ (pre ++ n :: post).map (·.l) := List.mem_map_of_mem hn
        rw [S4.ls, ← S10.ls] at h1
        obtain ⟨z, hz, ez⟩ := List.mem_map.mp h1
        rw [← ez]
        rcases List.mem_append.mp hz with hz | hz
        · exact j2 (z.l, W.listOf z.vs.toArray z.nl) (List.mem_append_left _ (List.mem_flatMap.mpr ⟨z, hz, .head _⟩))
        · rcases List.mem_cons.mp hz with rfl | hz
          · exact g1
          · exact j2 (z.l, W.listOf z.vs.toArray z.nl) (List.mem_append_right _ (List.mem_flatMap.mpr ⟨z, hz, .head _⟩))
      have hbk14 : ∀ p ∈ own ++ own2, p.1 ≠ y.a := by
        intro p hp
        rcases List.mem_append.mp hp with hp | hp
        · rw [← eq4]; exact hbkA q4.1 q4.2 hq4 p hp
        · by_cases hpl : p.1 = n.l
          · rw [hpl]; exact hnl
          · exact hoff2 p hp hpl (y.a, niObj y.dx y.key y.tk y.np y.tn y.l) (.tail _ (.tail _ (.tail _ (.tail _ (.tail _ (List.mem_append_left _ hya))))))
      have N14 := put14 _ (put_np (front := [(T, tupObj kv), (R, W.listOf rv10.toArray nr10), (c.D, oD), (c.x, instObj 158 c.dx), (c.dx, sDict w c.k0 c.k1 c.k2 c.k3 c.D (.ref R) np tp nf10 tf10)]) ok10.nd (hfr14 _ _ _ _) hbk14)
      simp only [List.cons_append, List.nil_append] at N14
      have S14 := S10.np (v := y.np - 1) (t := t14)
      have R14 : Rep (pr ++ { y with np := y.np - 1, tn := t14 } :: po) (pnp ((sl.take j).foldl dstep (psetnp st.1 n.key (-2), st.2)).1 y.key (-1)) := R10.upd hkn10 rfl fun p hp => ⟨hp.key, by show y.np - 1 = p.np + -1; rw [hp.np]; omega, hp.ss⟩
      have ok14 := S14.ok ok
      have hmem14 : ∀ p ∈ ({ y with np := y.np - 1, tn := t14 } : Nd).led, p ∈ (T, tupObj kv) :: (R, W.listOf rv10.toArray nr10) :: (c.D, oD) :: (c.x, instObj 158 c.dx) :: (c.dx, sDict w c.k0 c.k1 c.k2 c.k3 c.D (Value.ref R) np tp nf10 tf10) :: (ndsLed (pr ++ { y with np := y.np - 1, tn := t14 } :: po) ++ (own ++ own2)) := fun p hp => .tail _ (.tail _ (.tail _ (.tail _ (.tail _ (List.mem_append_left _ ((ndsLed_mid _ _ _ _).mpr (.inl hp)))))))
      have hnp14 : npOf (pnp ((sl.take j).foldl dstep (psetnp st.1 n.key (-2), st.2)).1 y.key (-1)) y.key = y.np - 1 :=
        R14.npOf (n := { y with np := y.np - 1, tn := t14 }) (by rw [S14.kv, ← S10.kv]; exact hkn10) (List.mem_append_right _ (.head _))
      have hstep : (sl.take (j + 1)).foldl dstep (psetnp st.1 n.key (-2), st.2) = (pnp ((sl.take j).foldl dstep (psetnp st.1 n.key (-2), st.2)).1 y.key (-1), if y.np - 1 = 0 then ((sl.take j).foldl dstep (psetnp st.1 n.key (-2), st.2)).2 ++ [y.key] else ((sl.take j).foldl dstep (psetnp st.1 n.key (-2), st.2)).2) := by
        rw [List.take_add_one, hq]
        simp only [Option.toList_some, List.foldl_append, List.foldl_cons, List.foldl_nil]
        exact dstep_eq hnp14
      have hdxR : c.dx ≠ R := hRn _ (.tail _ (.tail _ (.head _)))
      have hRrest : ∀ p ∈ (c.D, oD) :: (c.x, instObj 158 c.dx) :: (c.dx, sDict w c.k0 c.k1 c.k2 c.k3 c.D (Value.ref R) np tp nf10 tf10) :: (ndsLed (pr ++ { y with np := y.np - 1, tn := t14 } :: po) ++ (own ++ own2)), p.1 ≠ R := by
        intro p hp
        rcases List.mem_cons.mp hp with rfl | hp
        · exact hRn _ (.head _)
        rcases List.mem_cons.mp hp with rfl | hp
        · exact hRn _ (.tail _ (.head _))
        rcases List.mem_cons.mp hp with rfl | hp
        · exact hdxR
        rcases List.mem_append.mp hp with hp | hp
        · obtain ⟨z, hz, e⟩ := S14.back p hp
          rw [← e]; exact hRn z (.tail _ (.tail _ (.tail _ hz)))
        rcases List.mem_append.mp hp with hp | hp
        · by_cases hpT : p.1 = T
          · rw [hpT]; exact Ne.symm (hTn _ (.head _))
          · exact hoff p hp hpT (R, _) (.tail _ (.head _))
        · by_cases hpl : p.1 = n.l
          · rw [hpl]
            have hnlm := (ndsLed_mid pre post n (n.l, W.listOf n.vs.toArray n.nl)).mpr (.inl (.head _))
            exact Ne.symm (hfrA n.l _ hnlm #[] 0 0 0 (R, W.listOf #[] 0) (.tail _ (.head _)))
          · exact hoff2 p hp hpl (R, _) (.tail _ (.head _))
      have hTR : T ≠ R := Ne.symm (hTn _ (.head _))
      have hszr : rv10.length ≤ 2000 := by
        have h1 := I10.length
        have h2 : j < n.vs.length := by rw [Isl.length]; exact (List.getElem?_eq_some_iff.mp hq).1
        omega
      ((try first | refine genS (fun Qx gx dx ox hQx => ?_) | refine genQ (fun Qx hQx => ?_)); k_steps)
      rename Fr _ _ _ _ => F15
      rename News _ _ _ _ => N15
      unfold Stop
      have I15 := ndAt_of (n := { y with np := y.np - 1, tn := t14 }) N15 hmem14 g1 g2 g3
      refine nd_get_np (n := { y with np := y.np - 1, tn := t14 }) F15 X1 I15 ?_
      have e14 := led_addrs (pre := pr) (post := po) (n := y) (n' := { y with np := y.np - 1, tn := t14 }) rfl rfl rfl
      have hwr14 : ∀ rv' nr', ∀ p ∈ DSo.led w c T R kv oD np tp ⟨pr ++ { y with np := y.np - 1, tn := t14 } :: po, rv', nr', nf10, tf10⟩ ++ own, p.1 ∉ wr2 := by
        intro rv' nr' p hp
        simp only [DSo.led, List.cons_append] at hp
        rcases List.mem_cons.mp hp with rfl | hp
        · exact hnw2 (T, _) (.head _)
        rcases List.mem_cons.mp hp with rfl | hp
        · exact hnw2 (R, W.listOf rv10.toArray nr10) (.tail _ (.head _))
        rcases List.mem_cons.mp hp with rfl | hp
        · exact hnw2 (c.D, oD) (.tail _ (.tail _ (.head _)))
        rcases List.mem_cons.mp hp with rfl | hp
        · exact hnw2 (c.x, _) (.tail _ (.tail _ (.tail _ (.head _))))
        rcases List.mem_cons.mp hp with rfl | hp
        · exact hnw2 (c.dx, sDict w c.k0 c.k1 c.k2 c.k3 c.D (.ref R) np tp nf10 tf10) (.tail _ (.tail _ (.tail _ (.tail _ (.head _)))))
        rcases List.mem_append.mp hp with hp | hp
        · have hm : p.1 ∈ (ndsLed (pr ++ { y with np := y.np - 1, tn := t14 } :: po)).map (·.1) := List.mem_map_of_mem hp
          rw [e14] at hm
          obtain ⟨z, hz, e⟩ := List.mem_map.mp hm
          rw [← e]; exact hnw2 z (.tail _ (.tail _ (.tail _ (.tail _ (.tail _ (List.mem_append_left _ hz))))))
        · exact hnw2 p (.tail _ (.tail _ (.tail _ (.tail _ (.tail _ (List.mem_append_right _ hp))))))
      ((try first | refine genS (fun Qx gx dx ox hQx => ?_) | refine genQ (fun Qx hQx => ?_)); k_steps)
      · rename Fr _ _ _ _ => F16
        rename News _ _ _ _ => N16
        rename _ = (0 : Int) => hz0
        unfold Stop
        simp only [List.push_toArray] at N16
        have hz1 : y.np - 1 = 0 := hz0
        rw [if_pos hz1] at hstep
        refine ⟨⟨pr ++ { y with np := y.np - 1, tn := t14 } :: po, rv10 ++ [.int y.key tq], nr10 + 1, nf10, tf10⟩, _, _, _, _, rfl, F16, N16, ?_, ?_, hwr14 _ _, (fun p hp => nomatch hp), ?_, ⟨?_, S14, ?_, f10, ?_⟩⟩
        · intro p hp
          simp only [DSo.led, List.cons_append] at hp
          revert p; walk_at "mine sub"
        · intro p hp; exact .tail _ (.tail _ (.tail _ (.tail _ (.tail _ (List.mem_append_right _ (List.mem_append_right _ hp))))))
        · intro z z1 _ z3
          have z4 := notin1 z3
          simp only [if_neg z1, if_neg z4, z3, Bool.false_eq_true, if_false]
        · rw [hstep]; exact R14
        · rw [hstep]; exact I10.append (.cons _ _ .nil)
        · rw [hstep, List.length_append, List.length_singleton]; omega
      · rename Fr _ _ _ _ => F16
        rename News _ _ _ _ => N16
        rename ¬ (_ = (0 : Int)) => hz0
        unfold Stop
        have hz1 : ¬ y.np - 1 = 0 := hz0
        rw [if_neg hz1] at hstep
        refine ⟨⟨pr ++ { y with np := y.np - 1, tn := t14 } :: po, rv10, nr10, nf10, tf10⟩, _, _, _, _, rfl, F16, N16, ?_, ?_, hwr14 _ _, (fun p hp => nomatch hp), ?_, ⟨?_, S14, ?_, f10, ?_⟩⟩
        · intro p hp
          simp only [DSo.led, List.cons_append] at hp
          revert p; walk_at "mine sub"
        · intro p hp; exact .tail _ (.tail _ (.tail _ (.tail _ (.tail _ (List.mem_append_right _ (List.mem_append_right _ hp))))))
        · intro z z1 _ z3
          have z4 := notin1 z3
          simp only [if_neg z1, if_neg z4, z3, Bool.false_eq_true, if_false]
        · rw [hstep]; exact R14
        · rw [hstep]; exact I10
        · rw [hstep]; exact Nat.le_trans l10 (by omega)
    · rintro ⟨ns17, rv17, nr17, nf17, tf17⟩ u h17 tk17 ⟨R17, S17, I17, f17, l17⟩ F17 N17
      dsimp only at R17 S17 I17 f17 l17
      dsimp only [envOf, DSo.led] at F17 N17
      simp only [kstB, List.cons_append] at F17 N17
      rw [Isl.length, List.take_length, ← hst9] at R17 I17
      have ok17 := S17.ok ok
      have q1 : T ≠ c.dx := Ne.symm (hTn _ (.tail _ (.tail _ (.tail _ (.head _)))))
      have q2 : R ≠ c.dx := Ne.symm (hRn _ (.tail _ (.tail _ (.head _))))
      have q3 : c.D ≠ c.dx := Ne.symm ok.d3
      have q4 : c.x ≠ c.dx := ok.d1
      have q5 : ∀ p ∈ ndsLed ns17 ++ own, p.1 ≠ c.dx := by
        intro p hp
        rcases List.mem_append.mp hp with hp | hp
        · exact (ok17.ap p hp).2.1
        · by_cases hpT : p.1 = T
          · rw [hpT]; exact q1
          · exact hoff p hp hpT (c.dx, _) (.tail _ (.tail _ (.tail _ (.tail _ (.head _)))))
      show wpAny _ _ (execs [_] _) _ _ _
      ((try first | refine genS (fun Qx gx dx ox hQx => ?_) | refine genQ (fun Qx hQx => ?_)); k_steps)
      rename Fr _ _ _ _ => F18
      rename News _ _ _ _ => N18
      unfold Stop
      rename_i h18
      obtain ⟨t18, N18⟩ : ∃ t18, News g L' h18 ((T, tupObj kv) :: (R, W.listOf rv17.toArray nr17) :: (c.D, oD) :: (c.x, instObj 158 c.dx) :: (c.dx, sDict w c.k0 c.k1 c.k2 c.k3 c.D (Value.ref R) np tp (nf17 + 1) t18) :: (ndsLed ns17 ++ own)) := ⟨_, N18⟩
      refine ⟨⟨ns17, rv17, nr17, nf17 + 1, t18⟩, h18, _, _, _, rfl, F18, N18, ?_, ?_, ?_, (fun p hp => nomatch hp), ?_, ⟨R17, S17, I17, ?_, ?_⟩⟩
      · intro p hp
        simp only [DSo.led] at hp
        revert p; walk_at "mine sub"
      · intro p hp; exact .tail _ (.tail _ (.tail _ (.tail _ (.tail _ (List.mem_append_right _ hp)))))
      · intro p hp
        simp only [DSo.led] at hp
        rcases List.mem_cons.mp hp with rfl | hp
        · exact hnw (T, _) (.head _)
        rcases List.mem_cons.mp hp with rfl | hp
        · exact hnw (R, W.listOf rv4.toArray nr4) (.tail _ (.head _))
        rcases List.mem_cons.mp hp with rfl | hp
        · exact hnw (c.D, oD) (.tail _ (.tail _ (.head _)))
        rcases List.mem_cons.mp hp with rfl | hp
        · exact hnw (c.x, _) (.tail _ (.tail _ (.tail _ (.head _))))
        rcases List.mem_cons.mp hp with rfl | hp
        · exact hnw (c.dx, sDict w c.k0 c.k1 c.k2 c.k3 c.D (.ref R) np tp nf4 tf4) (.tail _ (.tail _ (.tail _ (.tail _ (.head _)))))
        · have hm : p.1 ∈ (ndsLed ns17).map (·.1) := List.mem_map_of_mem hp
          rw [S17.ad, ← S4.ad] at hm
          obtain ⟨z, hz, e⟩ := List.mem_map.mp hm
          rw [← e]; exact hnw z (.tail _ (.tail _ (.tail _ (.tail _ (.tail _ hz)))))
      · intro z z1 _ z3
        have z0 := z3
        simp only [List.contains_cons, List.contains_nil, Bool.or_false, Bool.or_eq_false_iff, beq_eq_false_iff_ne] at z3
        have z5 : [Str.ofString "successor_info"].contains z = false := by simp [z3.2.2.2]
        simp only [if_neg z1, if_neg z3.1, if_neg z3.2.1, if_neg z3.2.2.1, z5, z0, Bool.false_eq_true, if_false]
      · rw [f17, f4]; push_cast; omega
      · rw [hst9]; exact hszi
  · rintro ⟨ns19, rv19, nr19, nf19, tf19⟩ u h19 tk19 ⟨R19, S19, I19, f19, l19⟩ F19 N19
    dsimp only at R19 S19 I19 f19 l19
    dsimp only [envOf, DSo.led] at F19 N19
    simp only [kstB] at F19
    rw [hK.length, List.take_length] at R19 I19
    rw [hK.length] at f19
    subst f19
    ((try first | refine genS (fun Qx gx dx ox hQx => ?_) | refine genQ (fun Qx hQx => ?_)); k_steps)
    rename Fr _ _ _ _ => F20
    rename News _ _ _ _ => N20
    unfold Stop
    exact ⟨_, _, F20, fun p hp => N20 p (.tail _ hp), fun Fz Nz hz => hQ ns19 rv19 nr19 tf19 _ _ R19 S19 I19 Fz Nz hz⟩

end Mine
end

-- part B1
section
open PySem PySem.W PyProof.Rows
namespace Mine
theorem off_B1 : True := by
  w_top off
  first | (walk1; done) | trivial
theorem li_ga : Slot "list_iterator" "__getattribute__" "object.__getattribute__" := .of (owner := "object") (n := "__getattribute__") (by rw [typeLookup_type, builtinLookup_eq_fast]; kernel_rfl) (by decide +kernel) (by decide +kernel) (by decide +kernel) (by first | exact .inl (by decide +kernel) | exact .inr (by decide +kernel)) (by rw [isSubtype_type]; kernel_rfl)
theorem li_lk : typeLookup (.type "list_iterator") "__next__" = pure (some (.builtin "list_iterator.__next__")) := by rw [typeLookup_type, builtinLookup_eq_fast]; kernel_rfl
theorem li_ty : typeOf (.builtin "list_iterator.__next__") = pure (.type "wrapper_descriptor") := by kernel_rfl
theorem wd_get : Slot "wrapper_descriptor" "__get__" "wrapper_descriptor.__get__" := .of (owner := "wrapper_descriptor") (n := "__get__") (by rw [typeLookup_type, builtinLookup_eq_fast]; kernel_rfl) (by decide +kernel) (by decide +kernel) (by decide +kernel) (by first | exact .inl (by decide +kernel) | exact .inr (by decide +kernel)) (by rw [isSubtype_type]; kernel_rfl)
theorem wd_set : typeLookup (.type "wrapper_descriptor") "__set__" = pure none := by rw [typeLookup_type, builtinLookup_eq_fast]; kernel_rfl
theorem wd_del : typeLookup (.type "wrapper_descriptor") "__delete__" = pure none := by rw [typeLookup_type, builtinLookup_eq_fast]; kernel_rfl
theorem wd_entry : entryFor table "wrapper_descriptor.__get__" = some Builtin.«wrapper_descriptor.__get__» := entryFor_of_tree (by kernel_rfl)
theorem wd_args (a b c : Value) : argsOk "wrapper_descriptor.__get__" ⟨[a, b, c], []⟩ := by unfold argsOk; kernel_rfl
theorem ga_entry : entryFor table "object.__getattribute__" = some Builtin.«object.__getattribute__» := entryFor_of_tree (by kernel_rfl)
theorem ga_args (a b : Value) : argsOk "object.__getattribute__" ⟨[a, b], []⟩ := by unfold argsOk; kernel_rfl
theorem li_owner : (".".intercalate ("list_iterator.__next__".cutAt '.').dropLast) = "list_iterator" := by
  have e0 : "list_iterator.__next__".cutAt '.' = ["list_iterator", "__next__"] := by first | rfl | decide +kernel
  rw [e0]; decide +kernel
theorem li_sub : isSubtype (.type "list_iterator") (.type "list_iterator") = pure true := by rw [isSubtype_type]; kernel_rfl
noncomputable abbrev mwObj (a : Addr) : Obj := { cls := .type "method-wrapper", data := .fields #[.builtin "list_iterator.__next__", .ref a] }
noncomputable abbrev liObj (l : Addr) (i : Nat) : Obj := { cls := .type "list_iterator", data := .fields #[.ref l, rawInt i] }
section
variable {prog : Program} {w : World} {A : Around} {E : Value → Shared → Prop} {h : Heap} {g : Array GenState} {d : Drawn} {t : Nat} {os : OsState} {a l : Addr} {i : Nat}
theorem nx_get {R : Result → Shared → Prop} (hx : h.get? a = some (liObj l i)) (hq : R (.ok (.ret (.ref h.objs.size))) ⟨h.push (mwObj a), g, d, t, os⟩) :
    codeAny (model prog w) A (.call (.builtin "wrapper_descriptor.__get__") ⟨[.builtin "list_iterator.__next__", .ref a, .type "list_iterator"], []⟩) R ⟨h, g, d, t, os⟩ := by
  have hT : (⟨h, g, d, t, os⟩ : Shared).TypeIs (.ref a) "list_iterator" := ⟨_, hx, rfl⟩
  have hT5 : (⟨h, g, d, t, os⟩ : Shared).TypeIs (.builtin "list_iterator.__next__") "wrapper_descriptor" := li_ty
  have f8 : isSubtype (.type "list_iterator") (.type (".".intercalate ("list_iterator.__next__".cutAt '.').dropLast)) = pure true := by rw [li_owner]; exact li_sub
  refine codeAny_call_builtin wd_get.plain wd_entry (wd_get.check _ _ _ _ _ _ _ _ hT5 (wd_args _ _ _) ?_)
  repeat (any_goals (first | assumption | wp_step))
theorem nx_entry {tk : Tok} {Q : Fin → Shared → Prop} (hx : h.get? a = some (liObj l i)) (hq : Q (.done (.ret (.ref h.objs.size))) ⟨h.push (mwObj a), g, d, t, os⟩) :
    wpAny (model prog w) A (Builtin.«object.__getattribute__» ⟨[.ref a, .str "__next__" tk], []⟩) Q E ⟨h, g, d, t, os⟩ := by
  have hT : (⟨h, g, d, t, os⟩ : Shared).TypeIs (.ref a) "list_iterator" := ⟨_, hx, rfl⟩
  have hT5 : (⟨h, g, d, t, os⟩ : Shared).TypeIs (.builtin "list_iterator.__next__") "wrapper_descriptor" := li_ty
  have f4 := li_lk
  have f5 := li_ty
  have f6 := wd_get.lookup
  have f7 := wd_set
  have f9 := wd_del
  repeat (any_goals (first | assumption | wp_step))
  refine nx_get hx ?_
  repeat (any_goals (first | assumption | wp_step))
theorem nx_call {tk : Tok} {R : Result → Shared → Prop} (hx : h.get? a = some (liObj l i)) (hq : R (.ok (.ret (.ref h.objs.size))) ⟨h.push (mwObj a), g, d, t, os⟩) :
    codeAny (model prog w) A (.call (.builtin "object.__getattribute__") ⟨[.ref a, .str "__next__" tk], []⟩) R ⟨h, g, d, t, os⟩ :=
  codeAny_call_builtin li_ga.plain ga_entry (li_ga.check _ _ _ _ _ _ _ _ (show (⟨h, g, d, t, os⟩ : Shared).TypeIs (.ref a) "list_iterator" from ⟨_, hx, rfl⟩) (ga_args _ _) (nx_entry hx hq))
theorem nx_by {tk : Tok} {fill expr : Bool} {Q : Value → Shared → Prop} (hx : h.get? a = some (liObj l i)) (hq : Q (.ref h.objs.size) ⟨h.push (mwObj a), g, d, t, os⟩) :
    wpAny (model prog w) A (getAttrBy (.ref a) (.str "__next__" tk) fill expr) Q E ⟨h, g, d, t, os⟩ := by
  have hT : (⟨h, g, d, t, os⟩ : Shared).TypeIs (.ref a) "list_iterator" := ⟨_, hx, rfl⟩
  have f2 := li_ga.lookup
  have f3 := li_ga.bind (.ref a)
  have hx0 : (expr && onTheHeap (Value.builtin "object.__getattribute__")) = false := by cases expr <;> rfl
  repeat (any_goals (first | assumption | wp_step))
  refine nx_call hx ?_
  repeat (any_goals (first | assumption | wp_step))
theorem nx_attr {expr : Bool} {Q : Value → Shared → Prop} (hx : h.get? a = some (liObj l i)) (hq : Q (.ref h.objs.size) ⟨h.push (mwObj a), g, d, t + 1, os⟩) : wpAny (model prog w) A (getAttr (.ref a) "__next__" expr) Q E ⟨h, g, d, t, os⟩ := by
  unfold getAttr
  repeat (any_goals (first | assumption | with_reducible apply nx_by hx | wp_step))
end
theorem mw_check (a : Addr) : checkBoundCall "list_iterator.__next__" ⟨[.ref a], []⟩ = pure () := by first | kernel_rfl | rfl
theorem mw_quiet (args : Args) : (Code.builtin "list_iterator.__next__" args).quiet = true := Code.quiet_builtin _ (by decide +kernel)
section
variable {prog : Program} {w : World} {A : Around} {E : Value → Shared → Prop} {s : Shared} {u a l : Addr} {i : Nat} {items : Array Value}
theorem mw_enter {Q : Value → Shared → Prop} (hu : s.heap.get? u = some (mwObj a))
    (h : wpAny (model prog w) (A.under (Code.builtin "list_iterator.__next__" ⟨[.ref a], []⟩)) (Builtin.«list_iterator.__next__» ⟨[.ref a], []⟩) (fun fin s' => ∃ v, fin = .done (.ret v) ∧ Q v s') E s) :
    wpAny (model prog w) A (call (.ref u) []) Q E s := by
  refine wpAny_call (codeAny_of_tree ?_)
  show wpAny _ A.in1 (callAny (.ref u) ⟨[], []⟩) _ _ s
  simp only [callAny]
  refine wpAny_bind (wpAny_load hu ?_)
  simp only [mwObj, show (Value.type "method-wrapper" == Value.type "method" || Value.type "method-wrapper" == Value.type "builtin_function_or_method" || Value.type "method-wrapper" == Value.type "method-wrapper") = true by decide, if_true]
  show wpAny _ A.in1 (checkBoundCall "list_iterator.__next__" ⟨[.ref a], []⟩ >>= fun _ => again (Code.builtin "list_iterator.__next__" ⟨[.ref a], []⟩)) _ _ s
  refine wpAny_bind (wpAny_of_eq (a := ()) (mw_check a) ?_)
  refine wpAny_pure ?_
  refine ⟨mw_quiet _, codeAny_builtin entry_listiter_next ?_⟩
  refine wpAny_mono h (fun fin s' q => ?_) fun _ _ q => q
  obtain ⟨v, rfl, q⟩ := q
  exact q
theorem mw_item {Q : Value → Shared → Prop} {x : Value} (hu : s.heap.get? u = some (mwObj a)) (ha : s.heap.get? a = some (liObj l i)) (hl : s.heap.IsList l items) (hx : items[i]? = some x)
    (hQ : ∀ h', h'.get? a = some (liObj l (i + 1)) → Heap.SameBut a s.heap h' → Q x { s with heap := h' }) : wpAny (model prog w) A (call (.ref u) []) Q E s := by
  obtain ⟨ol, hol, _, nl, hdl⟩ := hl
  refine mw_enter hu ?_
  show wpAny _ _ (field (.ref a) 0 >>= _) _ _ s
  refine wpAny_bind (wpAny_field ha rfl (x := .ref l) rfl ?_)
  show wpAny _ _ (if (Value.ref l == Value.none) = true then _ else _) _ _ s
  rw [if_neg (show ¬ ((Value.ref l == Value.none) = true) from Bool.false_ne_true)]
  show wpAny _ _ (field (.ref a) 1 >>= _) _ _ s
  refine wpAny_bind (wpAny_field ha rfl (x := .int i 0) rfl ?_)
  show wpAny _ _ (seqItems? (.ref l) >>= _) _ _ s
  refine wpAny_bind (wpAny_seqItems hol hdl ?_)
  simp only [Int.toNat_natCast, hx]
  refine wpAny_bind (wpAny_setField ha rfl (by simp) ?_)
  refine wpAny_pure ⟨_, rfl, hQ _ ?_ (Heap.SameBut.update ..)⟩
  have := Heap.get?_update_self (Obj.mapFields (·.setIfInBounds 1 (rawInt ((i + 1 : Nat) : Int)))) ha rfl
  exact this
theorem mw_end {Q : Value → Shared → Prop} (hA : A.handled = none) (hu : s.heap.get? u = some (mwObj a)) (ha : s.heap.get? a = some (liObj l i)) (hl : s.heap.IsList l items) (hx : items[i]? = none)
    (hE : ∀ h1 h' e ws o1, Heap.SameBut a s.heap h1 → h1.get? a = some o1 → NewE h1 h' e "StopIteration" ws → ws[2]? = some .none → E (.ref e) { s with heap := h' }) : wpAny (model prog w) A (call (.ref u) []) Q E s := by
  obtain ⟨ol, hol, _, nl, hdl⟩ := hl
  refine mw_enter hu ?_
  show wpAny _ _ (field (.ref a) 0 >>= _) _ _ s
  refine wpAny_bind (wpAny_field ha rfl (x := .ref l) rfl ?_)
  show wpAny _ _ (if (Value.ref l == Value.none) = true then _ else _) _ _ s
  rw [if_neg (show ¬ ((Value.ref l == Value.none) = true) from Bool.false_ne_true)]
  show wpAny _ _ (field (.ref a) 1 >>= _) _ _ s
  refine wpAny_bind (wpAny_field ha rfl (x := .int i 0) rfl ?_)
  show wpAny _ _ (seqItems? (.ref l) >>= _) _ _ s
  refine wpAny_bind (wpAny_seqItems hol hdl ?_)
  simp only [Int.toNat_natCast, hx]
  refine wpAny_bind (wpAny_rule (wpAny_bind (wpAny_setField ha rfl (by simp) ?_)))
  show wpAny _ _ (newExc (.type "StopIteration") [] >>= _) _ _ _
  refine wpAny_bind ?_
  simp only [newExc, newTuple]
  refine wpAny_bind (wpAny_newObj_type ?_ (by size_fits))
  refine wpAny_bind (m := firstArgMember _ _) (wpAny_of_eq (a := Value.none) (by first | rfl | (simp only [firstArgMember]; rfl)) ?_)
  refine wpAny_newObj_type ?_ (by size_fits)
  simp only [raiseNew]
  refine wpAny_bind (wpAny_handled ?_)
  rw [show (A.under (Code.builtin "list_iterator.__next__" ⟨[.ref a], []⟩)).handled = none from hA]
  refine wpAny_bind (wpAny_pure (wpAny_throw ?_))
  refine hE _ _ _ _ _ (Heap.SameBut.update ..) (Heap.get?_update_self _ ha rfl) ⟨fun b o hb => Heap.get?_push_of_some _ (Heap.get?_push_of_some _ hb), Heap.get?_none_of_le (by simp), ⟨_, Heap.get?_push_size _ rfl, rfl, rfl⟩, rfl⟩ rfl
end
end Mine
end

-- part B2
section
open PySem PySem.W PyProof.Rows
namespace Mine
theorem off_B2 : True := by
  w_top off
  first | (walk1; done) | trivial
theorem callWith_mw {prog : Program} {w : World} {A : Around} {E : Value → Shared → Prop} {s : Shared} {pos : Pos} {u a : Addr} {args : List (Bool × Sem Value)} {Q : Value → Shared → Prop} (hargs : args = []) (hu : s.heap.get? u = some (mwObj a))
    (h : wpAny (model prog w) A (call (.ref u) []) Q E s) : wpAny (model prog w) A (callWith pos (.ref u) [] args []) Q E s := by
  subst hargs
  unfold callWith
  refine wpAny_bind (wpAny_holding ?_)
  refine wpAny_of_eq (a := ⟨[], []⟩) (by first | rfl | kernel_rfl!) ?_
  refine wpAny_bind (wpAny_standAt ?_)
  simp only [List.any_nil, Bool.or_false]
  refine wpAny_bind (m := keeperOf (.ref u)) ?_
  unfold keeperOf
  refine wpAny_bind (wpAny_load hu ?_)
  simp only [mwObj, show (Value.type "method-wrapper" != Value.type "method") = true by decide, show (Value.type "method-wrapper" == Value.type "builtin_function_or_method" || Value.type "method-wrapper" == Value.type "method-wrapper") = true by decide, if_true]
  refine wpAny_pure ?_
  exact wpAny_bind (wpAny_mono h (fun r s₂ hr => wpAny_bind (wpAny_holding (wpAny_point (wpAny_pure hr)))) fun _ _ x => x)
end Mine
end

-- part G10
section
open PySem PySem.W PyProof.Rows
namespace Mine
theorem off_G10 : True := by
  w_top off
  first | (walk1; done) | trivial
theorem intKind_inv {prog : Program} {w : World} {k : Int} {v : Value} (h : (intKind prog w).is k v = true) : ∃ t, v = .int k t := Value.isInt_shape h
section
variable {prog : Program} {w : World} {A : Around} {E : Value → Shared → Prop} {s : Shared} {env : Env} {h₀ : Heap} {x : Str} {body : List Stmt} {Q : Flow → Shared → Prop}
theorem iterDictX {σ : Type} {d : Addr} {kvs : List (Int × Value)} {m₀ : Str → Option Value} (Led : σ → List (Addr × Obj)) (ps : σ → List (Str × Value)) (stored : List Str) (P : Nat → σ → Prop) (c₀ : σ)
    (hd : s.heap.DictOf (intKind prog w) d kvs) (lo : (d == sysModules) = false) (hdL : d ≠ env.locals)
    (hh : A.handled = none) (F : Fr h₀ env.locals s.heap m₀) (N : News h₀ env.locals s.heap (Led c₀)) (hk : ∀ p ∈ ps c₀, m₀ p.1 = some p.2) (hp : P 0 c₀)
    (turn : ∀ (i : Nat) k y t (c : σ) (u : Str → Option Value) h tk own wr, kvs[i]? = some (k, y) → P i c → (∀ p ∈ Led c, p.1 ∉ wr) → (∀ p ∈ own, p.1 ≠ d → ∀ q ∈ Led c, p.1 ≠ q.1) → (∀ p ∈ own, p.1 ∈ wr ∨ p.1 = d) → (∀ b ∈ wr, ∃ o, (b, o) ∈ own) →
      Fr h₀ env.locals h (fun y => if y = x then some (.int k t) else kstB (fun z => if stored.contains z then u z else m₀ z) (ps c) y) → News h₀ env.locals h (Led c ++ own) →
      wpAny (model prog w) A (execs body env) (TurnEnd h₀ env.locals Led ps x stored m₀ wr own (P (i + 1)) { s with heap := h, toks := tk } Q) E { s with heap := h, toks := tk })
    (done : ∀ (c : σ) (u : Str → Option Value) h tk, P kvs.length c → Fr h₀ env.locals h (fun y => if y = x then u y else kstB (fun z => if stored.contains z then u z else m₀ z) (ps c) y) →
      News h₀ env.locals h (Led c) → Q .next { s with heap := h, toks := tk }) :
    wpAny (model prog w) A (pyIter (.ref d)) (fun it s₂ => LoopAtV prog w A h₀ env x body Q E it s₂) E s := by
  obtain ⟨ep, hat⟩ := hd.dictAt
  obtain ⟨od, es, hod, _⟩ := id hat
  have hne : d ≠ s.heap.objs.size := Nat.ne_of_lt (Heap.lt_size hod)
  refine wpAny_pyIter_dict lo hat ?_
  have W := Walks.dictKeys (prog := prog) (w := w) (knd := intKind prog w) hh s.heap.objs.size d hne kvs ep
  refine forLedX Led ps stored P c₀ W ?_ ?_ ?_ ⟨⟨_, Heap.get?_push_size _ rfl, rfl, rfl⟩, hat.at' fun o e => Heap.get?_push_of_some _ e⟩ (F.push _) (fun p hp => ⟨Heap.get?_push_of_some _ (N p hp).1, (N p hp).2⟩) hk hp ?_ done
  · intro hm
    rcases List.mem_cons.mp hm with e | hm
    · exact absurd F.ns.lt (e ▸ Nat.lt_irrefl _)
    · exact hdL (List.mem_singleton.mp hm).symm
  · intro b hb; rw [List.mem_singleton.mp hb]; exact next_is_new F
  · intro p hp hI; exact absurd (Heap.lt_size (N p hp).1) ((List.mem_singleton.mp hI) ▸ Nat.lt_irrefl _)
  · rintro i v c u h tk own hi ⟨k, y, hv, hkv⟩ hP hnw hfp hfpo hstn F3 N3
    obtain ⟨t, rfl⟩ := intKind_inv hkv
    refine turn i k y t c u h tk own _ hv hP hnw (fun p hp hpl q hq e => hnw q hq ?_) (fun p hp => ?_) (fun b hb => ?_) F3 N3
    · rcases List.mem_cons.mp (hfp p hp) with h1 | h1
      · rw [← e, h1]; exact .head _
      · exact absurd (List.mem_singleton.mp h1) hpl
    · rcases List.mem_cons.mp (hfp p hp) with h1 | h1
      · left; rw [h1]; exact .head _
      · right; exact List.mem_singleton.mp h1
    · have eI : b = s.heap.objs.size := List.mem_singleton.mp hb
      subst eI
      obtain ⟨o, ho, _⟩ := hstn.1
      exact ⟨o, hfpo _ (.head _) (next_is_new F) o ho⟩
end
end Mine
end

-- part FA
section
open PySem PySem.W PyProof.Rows
namespace Mine
theorem off_FA : True := by
  w_top off
  first | (walk1; done) | trivial
theorem fill_FA : PySem.Challenge.rw_oh0062_01 = PySem.Challenge.rw_oh0062_01 ∧ hd.heap_1 = hd.heap_1 := by k_fill; exact ⟨rfl, rfl⟩
structure Frm where
  n : Nd
  it : Addr
  mw : Addr
  j : Nat
noncomputable def Frm.led (f : Frm) : List (Addr × Obj) := [(f.mw, mwObj f.it), (f.it, liObj f.n.l f.j)]
noncomputable def frmsLed (l : List Frm) : List (Addr × Obj) := l.flatMap Frm.led
/-- the search for a circle: the stack, what was seen -/
structure Fst where
  fr : List Frm
  tv : List Value
  nt : Nat
  nit : Nat
  so : Obj
  S : Int → Bool
  sn : Nat
  o2 : Obj
  kv2 : List (Int × Value)
  frs : List (Addr × Obj)
noncomputable abbrev mws (l : List Frm) : List Value := l.map fun f => .ref f.mw
noncomputable abbrev keysF (l : List Frm) : List Int := l.map fun f => f.n.key
noncomputable def Fst.led (w : World) (c : Sc) (oD : Obj) (rdy : Value) (np : Int) (tp : Tok) (nf : Int) (tf : Tok) (ns : List Nd) (d2 ds li ls : Addr) (b : Fst) : List (Addr × Obj) :=
  (d2, b.o2) :: (ds, b.so) :: (li, W.listOf (mws b.fr).toArray b.nit) :: (ls, W.listOf b.tv.toArray b.nt) :: (c.D, oD) :: (c.x, instObj 158 c.dx) :: (c.dx, sDict w c.k0 c.k1 c.k2 c.k3 c.D rdy np tp nf tf) :: (ndsLed ns ++ (frmsLed b.fr ++ b.frs))
structure Fst.Ok (w : World) (ns : List Nd) (rk : Int → Nat) (frs₀ : List (Addr × Obj)) (d2 : Addr) (own : List (Addr × Obj)) (b : Fst) : Prop where
  it : IntsAre b.tv (keysF b.fr)
  set : b.so.SetObjOf (intKind pw w) b.S b.sn
  d : b.o2.IsDictOf (intKind pw w) b.kv2
  kk : b.kv2.map (·.1) = keysF b.fr
  nn : ∀ f ∈ b.fr, f.n ∈ ns
  jj : ∀ f ∈ b.fr, f.j ≤ f.n.vs.length
  rk : (keysF b.fr).Pairwise (fun x y => rk x < rk y)
  su : TI.SameUp frs₀ b.frs
  sc : b.sn + (ns.filter fun n => !b.S n.key).length ≤ ns.length
  se : ∀ f ∈ b.fr, b.S f.n.key = true
  big : ∀ p ∈ frmsLed b.fr, d2 < p.1
  nd : ((frmsLed b.fr).map (·.1)).Nodup
  fl : b.fr.length ≤ b.sn
  ow : ∀ p ∈ frmsLed b.fr, ∀ q ∈ own, q.1 ≠ p.1
theorem Fst.Ok.own {w : World} {ns : List Nd} {rk : Int → Nat} {frs₀ : List (Addr × Obj)} {d2 : Addr} {own own' : List (Addr × Obj)} {b : Fst} (h : Fst.Ok w ns rk frs₀ d2 own b) (e : b.fr = []) : Fst.Ok w ns rk frs₀ d2 own' b :=
  ⟨h.it, h.set, h.d, h.kk, h.nn, h.jj, h.rk, h.su, h.sc, h.se, h.big, h.nd, h.fl, fun p hp => by rw [e] at hp; cases hp⟩
noncomputable def Fst.mu (ns : List Nd) (b : Fst) : Nat := ((ns.filter fun n => !b.S n.key).map fun n => n.vs.length + 1).sum + (b.fr.map fun f => f.n.vs.length - f.j).sum
noncomputable def fcMap (c : Sc) (d2 ds li ls : Addr) : Str → Option Value := fun y =>
  if y = Str.ofString "node2stacki" then some (Value.ref d2)
  else if y = Str.ofString "seen" then some (Value.ref ds)
  else if y = Str.ofString "itstack" then some (Value.ref li)
  else if y = Str.ofString "stack" then some (Value.ref ls)
  else if y = Str.ofString "n2i" then some (Value.ref c.D)
  else List.lookup y [(Str.ofString "self", Value.ref c.x)].reverse
inductive FMid (w : World) (c : Sc) (oD : Obj) (rdy : Value) (np : Int) (tp : Tok) (nf : Int) (tf : Tok) (ns : List Nd) (rk : Int → Nat) (frs : List (Addr × Obj)) (gh : Heap) (L' d2 ds li ls : Addr) (own : List (Addr × Obj)) (mu : Nat) (s s' : Shared) : Prop
  | mk (b : Fst) (u : Option Value) (h : Heap) (tk : Nat) (e : s' = { s with heap := h, toks := tk }) (ok : Fst.Ok w ns rk frs d2 own b) (hm : Fst.mu ns b ≤ mu) (F : Fr gh L' h (fun z => if z = Str.ofString "node" then u else fcMap c d2 ds li ls z)) (N : News gh L' h (Fst.led w c oD rdy np tp nf tf ns d2 ds li ls b ++ own)) : FMid w c oD rdy np tp nf tf ns rk frs gh L' d2 ds li ls own mu s s'
inductive FOut (w : World) (c : Sc) (oD : Obj) (rdy : Value) (np : Int) (tp : Tok) (nf : Int) (tf : Tok) (ns : List Nd) (rk : Int → Nat) (frs : List (Addr × Obj)) (gh : Heap) (L' d2 ds li ls : Addr) (own : List (Addr × Obj)) (mu : Nat) (s : Shared) (f : Flow) (s' : Shared) : Prop
  | go (e : f = .next) (b : Fst) (k : Int) (t : Tok) (h : Heap) (tk : Nat) (e : s' = { s with heap := h, toks := tk }) (ok : Fst.Ok w ns rk frs d2 own b) (hn : ∃ n ∈ ns, n.key = k) (hr : ∀ z ∈ keysF b.fr, rk z < rk k) (hm : Fst.mu ns b < mu) (F : Fr gh L' h (fun z => if z = Str.ofString "node" then some (.int k t) else fcMap c d2 ds li ls z)) (N : News gh L' h (Fst.led w c oD rdy np tp nf tf ns d2 ds li ls b ++ own)) : FOut w c oD rdy np tp nf tf ns rk frs gh L' d2 ds li ls own mu s f s'
  | out (e : f = .brk) (b : Fst) (u : Option Value) (h : Heap) (tk : Nat) (e : s' = { s with heap := h, toks := tk }) (ok : Fst.Ok w ns rk frs d2 own b) (hf : b.fr = []) (F : Fr gh L' h (fun z => if z = Str.ofString "node" then u else fcMap c d2 ds li ls z)) (N : News gh L' h (Fst.led w c oD rdy np tp nf tf ns d2 ds li ls b ++ own)) : FOut w c oD rdy np tp nf tf ns rk frs gh L' d2 ds li ls own mu s f s'
inductive FIt (w : World) (c : Sc) (oD : Obj) (rdy : Value) (np : Int) (tp : Tok) (nf : Int) (tf : Tok) (ns : List Nd) (rk : Int → Nat) (frs : List (Addr × Obj)) (gh : Heap) (L' d2 ds li ls : Addr) (own : List (Addr × Obj)) (mu : Nat) (s : Shared) (nn : Nat) (s' : Shared) : Prop
  | mk (b : Fst) (u : Option Value) (h : Heap) (tk : Nat) (e : s' = { s with heap := h, toks := tk }) (ok : Fst.Ok w ns rk frs d2 own b) (hm : Fst.mu ns b ≤ mu) (hl : b.fr.length = nn) (F : Fr gh L' h (fun z => if z = Str.ofString "node" then u else fcMap c d2 ds li ls z)) (N : News gh L' h (Fst.led w c oD rdy np tp nf tf ns d2 ds li ls b ++ own)) : FIt w c oD rdy np tp nf tf ns rk frs gh L' d2 ds li ls own mu s nn s'
inductive FNt (gh : Heap) (L' : Addr) (m : Str → Option Value) (new frs : List (Addr × Obj)) (s : Shared) (e : Value) (s₂ : Shared) : Prop
  | mk (h : Heap) (tk : Nat) (e' T : Addr) (oe oT : Obj) (vs : Array Value) (frs' : List (Addr × Obj)) (he : e = .ref e') (hs : s₂ = { s with heap := h, toks := tk }) (su : TI.SameUp frs frs') (F : Fr gh L' h m) (N : News gh L' h ((e', oe) :: (T, oT) :: (new ++ frs'))) (H : Hand (new ++ frs') e' T oe oT "StopIteration" (rawInt L') vs) : FNt gh L' m new frs s e s₂
theorem iter_list {w : World} {A : Around} {E : Value → Shared → Prop} {s : Shared} {g : Heap} {L l : Addr} {m : Str → Option Value} {news : List (Addr × Obj)} {items : Array Value} {Q : Value → Shared → Prop} (F : Fr g L s.heap m) (N : News g L s.heap news) (hl : s.heap.IsList l items)
    (h : ∀ (I : Addr) h', Fr g L h' m → News g L h' ((I, liObj l 0) :: news) → (∀ p ∈ news, p.1 < I) → Q (.ref I) { s with heap := h' }) : wpAny (model pw w) A (call (.builtin "iter") [.ref l]) Q E s := by
  refine Calls.call_function_entry (by decide +kernel) (by decide +kernel) kdk_entry_iter (kdk_args_iter _) ?_
  unfold Builtin.«iter»
  refine wpAny_bind (m := someArgs "iter" 1 2 _) (wpAny_of_eq (a := [Value.ref l]) (by first | rfl | kernel_rfl!) ?_)
  show wpAny _ _ (pyIter (.ref l) >>= _) _ _ _
  refine wpAny_bind (wpAny_pyIter_list hl ?_)
  exact wpAny_pure ⟨_, rfl, h _ _ (F.push _) (News.push F N _ rfl) (fun q hq => Heap.lt_size (N q hq).1)⟩
theorem next_attr {w : World} {A : Around} {E : Value → Shared → Prop} {s : Shared} {g : Heap} {L l I : Addr} {i : Nat} {m : Str → Option Value} {news : List (Addr × Obj)} {expr : Bool} {Q : Value → Shared → Prop} (F : Fr g L s.heap m) (N : News g L s.heap news) (hm : (I, liObj l i) ∈ news)
    (h : ∀ (M : Addr) h', Fr g L h' m → News g L h' ((M, mwObj I) :: news) → (∀ p ∈ news, p.1 < M) → Q (.ref M) { s with heap := h', toks := s.toks + 1 }) : wpAny (model pw w) A (getAttr (.ref I) "__next__" expr) Q E s := by
  obtain ⟨hp, gg, d, t, os⟩ := s
  exact nx_attr (N _ hm).1 (h _ _ (F.push _) (News.push F N _ rfl) fun q hq => Heap.lt_size (N q hq).1)
theorem fr_norm {g : Heap} {L : Addr} {h : Heap} {m : Str → Option Value} {c : Sc} {d2 ds li ls : Addr} (F : Fr g L h m) (hm : ∀ z, z ≠ Str.ofString "node" → m z = fcMap c d2 ds li ls z) : Fr g L h (fun z => if z = Str.ofString "node" then m (Str.ofString "node") else fcMap c d2 ds li ls z) := by
  have e : (fun z => if z = Str.ofString "node" then m (Str.ofString "node") else fcMap c d2 ds li ls z) = m := by
    funext z
    by_cases hz : z = Str.ofString "node"
    · rw [if_pos hz, hz]
    · rw [if_neg hz, hm z hz]
  rw [e]; exact F
theorem set_in {w : World} {A : Around} {E : Value → Shared → Prop} {s : Shared} {g : Heap} {L sa : Addr} {so : Obj} {news : List (Addr × Obj)} {S : Int → Bool} {n : Nat} {k : Int} {t : Tok} {Q : Value → Shared → Prop} (N : News g L s.heap news) (hm : (sa, so) ∈ news) (hso : so.SetObjOf (intKind pw w) S n) (hb : n < scanBound)
    (h : Q (.bool (S k)) { s with toks := s.toks + 1 }) : wpAny (model pw w) A (compareOp .In (.int k t) (.ref sa)) Q E s := by
  obtain ⟨pre, post, rfl⟩ := List.append_of_mem hm
  exact in_sl1 N hso hb (intKind_is _ _ _ _) rfl h
theorem dict_in {w : World} {A : Around} {E : Value → Shared → Prop} {s : Shared} {d : Addr} {kvs : List (Int × Value)} {k : Int} {t : Tok} {Q : Value → Shared → Prop} (hm : s.heap.DictOf (intKind pw w) d kvs) (lo : (d == sysModules) = false)
    (h : Q (.bool (valueAt kvs k).isSome) { s with toks := s.toks + 1 }) : wpAny (model pw w) A (compareOp .In (.int k t) (.ref d)) Q E s :=
  wpAny_in_of (intKind_is _ _ _ _) lo hm.mapOf h
theorem not_on_stack {kv2 : List (Int × Value)} {l : List Int} {rk : Int → Nat} {k : Int} (h1 : kv2.map (·.1) = l) (h2 : ∀ z ∈ l, rk z < rk k) : valueAt kv2 k = none := by
  refine valueAt_none_of_not_mem fun hm => ?_
  rw [h1] at hm
  exact absurd (h2 k hm) (Nat.lt_irrefl _)
theorem filt_mono {α : Type} (f : α → Nat) (p q : α → Bool) (hpq : ∀ a, q a = true → p a = true) (l : List α) : ((l.filter q).map f).sum ≤ ((l.filter p).map f).sum := by
  induction l with
  | nil => exact Nat.le_refl _
  | cons a l ih =>
    cases hq : q a with
    | true => simp only [List.filter_cons, hq, hpq a hq, if_true, List.map_cons, List.sum_cons]; omega
    | false =>
      cases hp : p a with
      | true => simp only [List.filter_cons, hq, hp, if_true, Bool.false_eq_true, if_false, List.map_cons, List.sum_cons]; omega
      | false => simp only [List.filter_cons, hq, hp, Bool.false_eq_true, if_false]; exact ih
theorem filt_drop {α : Type} (f : α → Nat) (p q : α → Bool) (hpq : ∀ a, q a = true → p a = true) {n : α} (hp : p n = true) (hq : q n = false) (l : List α) (hn : n ∈ l) : ((l.filter q).map f).sum + f n ≤ ((l.filter p).map f).sum := by
  induction l with
  | nil => cases hn
  | cons a l ih =>
    rcases List.mem_cons.mp hn with rfl | hn
    · have h1 := filt_mono f p q hpq l
      simp only [List.filter_cons, hq, hp, if_true, Bool.false_eq_true, if_false, List.map_cons, List.sum_cons]; omega
    · have ih := ih hn
      cases hq' : q a with
      | true => simp only [List.filter_cons, hq', hpq a hq', if_true, List.map_cons, List.sum_cons]; omega
      | false =>
        cases hp' : p a with
        | true => simp only [List.filter_cons, hq', hp', if_true, Bool.false_eq_true, if_false, List.map_cons, List.sum_cons]; omega
        | false => simp only [List.filter_cons, hq', hp', Bool.false_eq_true, if_false]; exact ih
theorem sum_one {α : Type} (l : List α) : (l.map fun _ => 1).sum = l.length := by
  induction l with
  | nil => rfl
  | cons a l ih => simp only [List.map_cons, List.sum_cons, ih, List.length_cons]; omega
theorem push_ok {w : World} {ns : List Nd} {rk : Int → Nat} {frs₀ : List (Addr × Obj)} {own : List (Addr × Obj)} {d2 : Addr} {b : Fst} {n : Nd} {itA mwA : Addr} {t5 : Tok} {nt' nit' : Nat} {so6 o15 : Obj} {v : Value} (ok : Fst.Ok w ns rk frs₀ d2 own b) (hn : n ∈ ns) (hrk : ∀ z ∈ keysF b.fr, rk z < rk n.key) (hS : b.S n.key = false)
    (hso : Obj.SetObjOf (intKind pw w) so6 (fun k' => b.S k' || decide (k' = n.key)) (b.sn + 1)) (hd : Obj.IsDictOf (intKind pw w) o15 (b.kv2 ++ [(n.key, v)])) (h1 : d2 < itA) (h2 : itA < mwA) (h3 : ∀ p ∈ frmsLed b.fr, p.1 < itA) (h4 : ∀ q ∈ own, q.1 < itA) :
    Fst.Ok w ns rk frs₀ d2 own ⟨b.fr ++ [⟨n, itA, mwA, 0⟩], b.tv ++ [.int n.key t5], nt', nit', so6, fun k' => b.S k' || decide (k' = n.key), b.sn + 1, o15, b.kv2 ++ [(n.key, v)], b.frs⟩ := by
  have eL : frmsLed (b.fr ++ [⟨n, itA, mwA, 0⟩]) = frmsLed b.fr ++ [(mwA, mwObj itA), (itA, liObj n.l 0)] := by simp [frmsLed, Frm.led]
  have eK : keysF (b.fr ++ [⟨n, itA, mwA, 0⟩]) = keysF b.fr ++ [n.key] := by simp [keysF]
  have hmem : ∀ f ∈ b.fr ++ [(⟨n, itA, mwA, 0⟩ : Frm)], f ∈ b.fr ∨ f = ⟨n, itA, mwA, 0⟩ := fun f hf => by
    rcases List.mem_append.mp hf with h | h
    · exact .inl h
    · exact .inr (List.mem_singleton.mp h)
  refine ⟨?_, hso, hd, ?_, ?_, ?_, ?_, ok.su, ?_, ?_, ?_, ?_, ?_, ?_⟩
  · show IntsAre (b.tv ++ [.int n.key t5]) (keysF (b.fr ++ [⟨n, itA, mwA, 0⟩]))
    rw [eK]; exact ok.it.append (.cons _ _ .nil)
  · show (b.kv2 ++ [(n.key, v)]).map (·.1) = keysF (b.fr ++ [⟨n, itA, mwA, 0⟩])
    rw [eK, List.map_append, ok.kk]; rfl
  · intro f hf
    rcases hmem f hf with h | rfl
    · exact ok.nn f h
    · exact hn
  · intro f hf
    rcases hmem f hf with h | rfl
    · exact ok.jj f h
    · exact Nat.zero_le _
  · show (keysF (b.fr ++ [⟨n, itA, mwA, 0⟩])).Pairwise _
    rw [eK, List.pairwise_append]
    refine ⟨ok.rk, List.pairwise_singleton _ _, fun a ha z hz => ?_⟩
    rw [List.mem_singleton.mp hz]
    exact hrk a ha
  · show b.sn + 1 + (ns.filter fun m => !(b.S m.key || decide (m.key = n.key))).length ≤ ns.length
    have e1 := filt_drop (fun _ => 1) (fun m : Nd => !b.S m.key) (fun m : Nd => !(b.S m.key || decide (m.key = n.key))) (by
      intro a ha
      cases h : b.S a.key with
      | true => rw [h] at ha; cases ha
      | false => rfl) (n := n) (by simp [hS]) (by simp) ns hn
    rw [sum_one, sum_one] at e1
    have e2 := ok.sc
    omega
  · intro f hf
    show (b.S f.n.key || decide (f.n.key = n.key)) = true
    rcases hmem f hf with h | rfl
    · rw [ok.se f h]; rfl
    · simp
  · show ∀ p ∈ frmsLed (b.fr ++ [⟨n, itA, mwA, 0⟩]), d2 < p.1
    rw [eL]
    intro p hp
    rcases List.mem_append.mp hp with h | h
    · exact ok.big p h
    rcases List.mem_cons.mp h with rfl | h
    · exact Nat.lt_trans h1 h2
    · rw [List.mem_singleton.mp h]; exact h1
  · show ((frmsLed (b.fr ++ [⟨n, itA, mwA, 0⟩])).map (·.1)).Nodup
    rw [eL, List.map_append, List.nodup_append]
    refine ⟨ok.nd, ?_, ?_⟩
    · simp only [List.map_cons, List.map_nil, List.nodup_cons, List.mem_singleton, List.not_mem_nil, not_false_iff, List.nodup_nil, and_true]
      exact Nat.ne_of_gt h2
    · intro a ha z hz
      obtain ⟨p, hp, rfl⟩ := List.mem_map.mp ha
      have h4 := h3 p hp
      simp only [List.map_cons, List.map_nil, List.mem_cons, List.not_mem_nil, or_false] at hz
      rcases hz with rfl | rfl
      · exact Nat.ne_of_lt (Nat.lt_trans h4 h2)
      · exact Nat.ne_of_lt h4
  · show (b.fr ++ [_]).length ≤ b.sn + 1
    rw [List.length_append]
    exact Nat.succ_le_succ ok.fl
  · show ∀ p ∈ frmsLed (b.fr ++ [⟨n, itA, mwA, 0⟩]), ∀ q ∈ own, q.1 ≠ p.1
    rw [eL]
    intro p hp q hq
    rcases List.mem_append.mp hp with h | h
    · exact ok.ow p h q hq
    rcases List.mem_cons.mp h with rfl | h
    · exact Nat.ne_of_lt (Nat.lt_trans (h4 q hq) h2)
    · rw [List.mem_singleton.mp h]; exact Nat.ne_of_lt (h4 q hq)
theorem push_mu {ns : List Nd} {b : Fst} {n : Nd} {itA mwA : Addr} {tv : List Value} {nt' nit' sn : Nat} {so6 o15 : Obj} {kv2 : List (Int × Value)} {frs : List (Addr × Obj)} (hn : n ∈ ns) (hS : b.S n.key = false) :
    Fst.mu ns ⟨b.fr ++ [⟨n, itA, mwA, 0⟩], tv, nt', nit', so6, fun k' => b.S k' || decide (k' = n.key), sn, o15, kv2, frs⟩ ≤ Fst.mu ns b := by
  have e1 := filt_drop (fun m : Nd => m.vs.length + 1) (fun m : Nd => !b.S m.key) (fun m : Nd => !(b.S m.key || decide (m.key = n.key))) (by
      intro a ha
      cases h : b.S a.key with
      | true => rw [h] at ha; cases ha
      | false => rfl) (n := n) (by simp [hS]) (by simp) ns hn
  simp only [Fst.mu, List.map_append, List.sum_append_nat, List.map_cons, List.map_nil, List.sum_cons, List.sum_nil]
  omega
theorem news_updU {h₀ h h' : Heap} {L d : Addr} {o o' : Obj} {led led' : List (Addr × Obj)} (N : News h₀ L h led) (hs : Heap.SameBut d h h') (hd : h'.get? d = some o') (U : Upd d o o' led led') : News h₀ L h' led' := by
  obtain ⟨pre, post, rfl, rfl, h1, h2⟩ := U.split
  have hm : (d, o) ∈ pre ++ (d, o) :: post := List.mem_append_right _ (.head _)
  refine news_upd1 N hs hd (N _ hm).2.2 (N _ hm).2.1 fun p hp => ?_
  rcases List.mem_append.mp hp with hp | hp
  · exact .inr ⟨List.mem_append_left _ hp, h1 p hp⟩
  rcases List.mem_cons.mp hp with rfl | hp
  · exact .inl rfl
  · exact .inr ⟨List.mem_append_right _ (.tail _ hp), h2 p hp⟩
theorem pop_keys {kv2 : List (Int × Value)} {l : List Int} {k : Int} {rk : Int → Nat} (h : kv2.map (·.1) = l ++ [k]) (hr : (l ++ [k]).Pairwise fun x y => rk x < rk y) : (without kv2 k).map (·.1) = l := by
  have h1 : (without kv2 k).map (·.1) = (kv2.map (·.1)).filter fun x => !decide (x = k) := by
    unfold without
    clear h hr
    induction kv2 with
    | nil => rfl
    | cons a t ih => by_cases h : a.1 = k <;> simp_all [List.filter_cons]
  rw [h1, h, List.filter_append]
  have h2 : (l.filter fun x => !decide (x = k)) = l := by
    refine List.filter_eq_self.mpr fun a ha => ?_
    have h3 := (List.pairwise_append.mp hr).2.2 a ha k (List.mem_singleton.mpr rfl)
    have h4 : a ≠ k := fun e => by rw [e] at h3; exact Nat.lt_irrefl _ h3
    simp [h4]
  rw [h2]
  simp
theorem pop_ok {w : World} {ns : List Nd} {rk : Int → Nat} {frs₀ frs' : List (Addr × Obj)} {own : List (Addr × Obj)} {d2 : Addr} {b : Fst} {fi : List Frm} {f : Frm} {tv' : List Value} {nt' nit' : Nat} {o : Obj} (ok : Fst.Ok w ns rk frs₀ d2 own b) (e : b.fr = fi ++ [f]) (it : IntsAre tv' (keysF fi)) (hd : Obj.IsDictOf (intKind pw w) o (without b.kv2 f.n.key)) (su : TI.SameUp b.frs frs') :
    Fst.Ok w ns rk frs₀ d2 own ⟨fi, tv', nt', nit', b.so, b.S, b.sn, o, without b.kv2 f.n.key, frs'⟩ := by
  have eK : keysF b.fr = keysF fi ++ [f.n.key] := by rw [e]; simp [keysF]
  have eL : frmsLed b.fr = frmsLed fi ++ f.led := by rw [e]; simp [frmsLed]
  have hr := ok.rk
  have hk := ok.kk
  rw [eK] at hr hk
  have hm : ∀ g ∈ fi, g ∈ b.fr := fun g hg => by rw [e]; exact List.mem_append_left _ hg
  refine ⟨it, ok.set, hd, pop_keys hk hr, fun g hg => ok.nn g (hm g hg), fun g hg => ok.jj g (hm g hg), (List.pairwise_append.mp hr).1, ok.su.trans su, ok.sc, fun g hg => ok.se g (hm g hg), ?_, ?_, ?_, fun p hp => ok.ow p (by rw [eL]; exact List.mem_append_left _ hp)⟩
  · intro p hp
    exact ok.big p (by rw [eL]; exact List.mem_append_left _ hp)
  · have h := ok.nd
    rw [eL, List.map_append] at h
    exact (List.nodup_append.mp h).1
  · have h := ok.fl
    rw [e, List.length_append] at h
    exact Nat.le_trans (Nat.le_add_right _ _) h
theorem pop_mu {ns : List Nd} {b : Fst} {fi : List Frm} {f : Frm} {tv' : List Value} {nt' nit' sn : Nat} {so o : Obj} {kv : List (Int × Value)} {frs' : List (Addr × Obj)} (e : b.fr = fi ++ [f]) : Fst.mu ns ⟨fi, tv', nt', nit', so, b.S, sn, o, kv, frs'⟩ ≤ Fst.mu ns b := by
  simp only [Fst.mu, e, List.map_append, List.sum_append_nat]
  omega
theorem step_mu {ns : List Nd} {b : Fst} {fi : List Frm} {f : Frm} {tv' : List Value} {nt' nit' sn : Nat} {so o : Obj} {kv : List (Int × Value)} {frs' : List (Addr × Obj)} (e : b.fr = fi ++ [f]) (hj : f.j < f.n.vs.length) : Fst.mu ns ⟨fi ++ [{ f with j := f.j + 1 }], tv', nt', nit', so, b.S, sn, o, kv, frs'⟩ < Fst.mu ns b := by
  simp only [Fst.mu, e, List.map_append, List.sum_append_nat, List.map_cons, List.map_nil, List.sum_cons, List.sum_nil]
  omega
theorem step_ok {w : World} {ns : List Nd} {rk : Int → Nat} {frs₀ : List (Addr × Obj)} {own : List (Addr × Obj)} {d2 : Addr} {b : Fst} {fi : List Frm} {f : Frm} (ok : Fst.Ok w ns rk frs₀ d2 own b) (e : b.fr = fi ++ [f]) (hj : f.j < f.n.vs.length) :
    Fst.Ok w ns rk frs₀ d2 own { b with fr := fi ++ [{ f with j := f.j + 1 }] } := by
  have eK : keysF (fi ++ [{ f with j := f.j + 1 }]) = keysF b.fr := by rw [e]; simp [keysF]
  have eA : (frmsLed (fi ++ [{ f with j := f.j + 1 }])).map (·.1) = (frmsLed b.fr).map (·.1) := by rw [e]; simp [frmsLed, Frm.led]
  have hm : ∀ g ∈ fi ++ [{ f with j := f.j + 1 }], ∃ g' ∈ b.fr, g'.n = g.n ∧ (g = g' ∨ g = { f with j := f.j + 1 }) := fun g hg => by
    rcases List.mem_append.mp hg with h | h
    · exact ⟨g, by rw [e]; exact List.mem_append_left _ h, rfl, .inl rfl⟩
    · exact ⟨f, by rw [e]; exact List.mem_append_right _ (.head _), by rw [List.mem_singleton.mp h], .inr (List.mem_singleton.mp h)⟩
  refine ⟨by rw [eK]; exact ok.it, ok.set, ok.d, by rw [eK]; exact ok.kk, ?_, ?_, by rw [eK]; exact ok.rk, ok.su, ok.sc, ?_, ?_, by rw [eA]; exact ok.nd, ?_, ?_⟩
  · intro g hg
    obtain ⟨g', h1, h2, _⟩ := hm g hg
    rw [← h2]; exact ok.nn g' h1
  · intro g hg
    obtain ⟨g', h1, _, h3⟩ := hm g hg
    rcases h3 with rfl | rfl
    · exact ok.jj _ h1
    · exact hj
  · intro g hg
    obtain ⟨g', h1, h2, _⟩ := hm g hg
    rw [← h2]; exact ok.se g' h1
  · intro p hp
    have h1 : p.1 ∈ (frmsLed (fi ++ [{ f with j := f.j + 1 }])).map (·.1) := List.mem_map_of_mem hp
    rw [eA] at h1
    obtain ⟨q, hq, e'⟩ := List.mem_map.mp h1
    rw [← e']; exact ok.big q hq
  · have h := ok.fl
    rw [e] at h
    simpa using h
  · intro p hp r hr
    have h1 : p.1 ∈ (frmsLed (fi ++ [{ f with j := f.j + 1 }])).map (·.1) := List.mem_map_of_mem hp
    rw [eA] at h1
    obtain ⟨q, hq, e'⟩ := List.mem_map.mp h1
    rw [← e']; exact ok.ow q hq r hr
theorem succ_int {ns : List Nd} {P : List Pn} {n : Nd} {j : Nat} (hR : Rep ns P) (hn : n ∈ ns) (hj : j < n.vs.length) : ∃ k t, n.vs[j]? = some (.int k t) ∧ ∃ p ∈ P, p.key = n.key ∧ k ∈ p.ss := by
  have hp : ∃ p ∈ P, RepN n p := by
    induction hR with
    | nil => cases hn
    | cons r _ ih =>
      rcases List.mem_cons.mp hn with rfl | hn
      · exact ⟨_, .head _, r⟩
      · obtain ⟨p, h, h'⟩ := ih hn
        exact ⟨p, .tail _ h, h'⟩
  obtain ⟨p, hp, r⟩ := hp
  have hl : j < p.ss.length := by rw [← r.ss.length]; exact hj
  obtain ⟨t, ht⟩ := r.ss.get j p.ss[j] (List.getElem?_eq_getElem hl)
  exact ⟨_, t, ht, p, hp, r.key.symm, List.getElem_mem hl⟩

theorem ints_snoc {vs : List Value} {xs : List Int} {k : Int} (h : IntsAre vs (xs ++ [k])) : ∃ vi t, vs = vi ++ [.int k t] ∧ IntsAre vi xs := by
  induction xs generalizing vs with
  | nil =>
    cases h with
    | cons k t r => cases r; exact ⟨[], t, rfl, .nil⟩
  | cons x xs ih =>
    cases h with
    | cons x t r =>
      obtain ⟨vi, u, rfl, hv⟩ := ih r
      exact ⟨_ :: vi, u, rfl, .cons _ _ hv⟩
theorem led_A {H N F G O : List (Addr × Obj)} {p m i i' : Addr × Obj} (h : p ∈ (H ++ (N ++ ((F ++ [m, i']) ++ G))) ++ O) : p = i' ∨ (p ∈ (H ++ (N ++ ((F ++ [m, i]) ++ G))) ++ O ∧ (p ∈ H ++ (N ++ G) ∨ p ∈ F ∨ p = m ∨ p ∈ O)) := by
  simp only [List.mem_append, List.mem_cons, List.not_mem_nil, or_false] at h ⊢
  rcases h with (h | h | (h | h | h) | h) | h <;> simp only [h, true_or, or_true, true_and]
theorem led_B {H N F G O : List (Addr × Obj)} {p m i : Addr × Obj} (h : p ∈ H ++ (N ++ (F ++ (O ++ G)))) : p ∈ (H ++ (N ++ ((F ++ [m, i]) ++ G))) ++ O ∧ (p ∈ H ++ (N ++ G) ∨ p ∈ F ∨ p ∈ O) := by
  simp only [List.mem_append, List.mem_cons, List.not_mem_nil, or_false] at h ⊢
  rcases h with h | h | h | h | h <;> simp only [h, true_or, or_true, true_and]
theorem step_led {w : World} {c : Sc} {oD : Obj} {rdy : Value} {np nf : Int} {tp tf : Tok} {ns : List Nd} {d2 ds li ls : Addr} {rk : Int → Nat} {frs₀ own : List (Addr × Obj)} {b : Fst} {fi : List Frm} {f : Frm} (ok : Fst.Ok w ns rk frs₀ d2 own b) (e : b.fr = fi ++ [f])
    (hle : ∀ p ∈ (d2, b.o2) :: (ds, b.so) :: (li, W.listOf (mws b.fr).toArray b.nit) :: (ls, W.listOf b.tv.toArray b.nt) :: (c.D, oD) :: (c.x, instObj 158 c.dx) :: (c.dx, sDict w c.k0 c.k1 c.k2 c.k3 c.D rdy np tp nf tf) :: (ndsLed ns ++ b.frs), p.1 ≤ d2) :
    (∀ p ∈ Fst.led w c oD rdy np tp nf tf ns d2 ds li ls { b with fr := fi ++ [{ f with j := f.j + 1 }] } ++ own, p = (f.it, liObj f.n.l (f.j + 1)) ∨ (p ∈ Fst.led w c oD rdy np tp nf tf ns d2 ds li ls b ++ own ∧ p.1 ≠ f.it)) ∧
    (∀ p ∈ (d2, b.o2) :: (ds, b.so) :: (li, W.listOf (mws b.fr).toArray b.nit) :: (ls, W.listOf b.tv.toArray b.nt) :: (c.D, oD) :: (c.x, instObj 158 c.dx) :: (c.dx, sDict w c.k0 c.k1 c.k2 c.k3 c.D rdy np tp nf tf) :: (ndsLed ns ++ (frmsLed fi ++ (own ++ b.frs))), p ∈ Fst.led w c oD rdy np tp nf tf ns d2 ds li ls b ++ own ∧ p.1 ≠ f.it) := by
  have eL : frmsLed b.fr = frmsLed fi ++ f.led := by rw [e]; simp [frmsLed]
  have eL' : frmsLed (fi ++ [{ f with j := f.j + 1 }]) = frmsLed fi ++ [(f.mw, mwObj f.it), (f.it, liObj f.n.l (f.j + 1))] := by simp [frmsLed, Frm.led]
  have eM : mws (fi ++ [{ f with j := f.j + 1 }]) = mws b.fr := by rw [e]; simp [mws]
  have hit : (f.it, liObj f.n.l f.j) ∈ frmsLed b.fr := by rw [eL]; exact List.mem_append_right _ (.tail _ (.head _))
  have hbig : d2 < f.it := ok.big _ hit
  have hlow : ∀ p, p ∈ (d2, b.o2) :: (ds, b.so) :: (li, W.listOf (mws b.fr).toArray b.nit) :: (ls, W.listOf b.tv.toArray b.nt) :: (c.D, oD) :: (c.x, instObj 158 c.dx) :: (c.dx, sDict w c.k0 c.k1 c.k2 c.k3 c.D rdy np tp nf tf) :: (ndsLed ns ++ b.frs) → p.1 ≠ f.it := fun p hp => Nat.ne_of_lt (Nat.lt_of_le_of_lt (hle p hp) hbig)
  have hnd := ok.nd
  rw [eL, List.map_append, List.nodup_append] at hnd
  have hfi : ∀ p ∈ frmsLed fi, p.1 ≠ f.it := fun p hp => hnd.2.2 p.1 (List.mem_map_of_mem hp) f.it (by simp [Frm.led])
  have hmw : f.mw ≠ f.it := by
    have := hnd.2.1
    simp only [Frm.led, List.map_cons, List.map_nil, List.nodup_cons, List.mem_singleton] at this
    exact this.1
  have how : ∀ q ∈ own, q.1 ≠ f.it := fun q hq => ok.ow _ hit q hq
  obtain ⟨H, hH⟩ : ∃ H, H = [(d2, b.o2), (ds, b.so), (li, W.listOf (mws b.fr).toArray b.nit), (ls, W.listOf b.tv.toArray b.nt), (c.D, oD), (c.x, instObj 158 c.dx), (c.dx, sDict w c.k0 c.k1 c.k2 c.k3 c.D rdy np tp nf tf)] := ⟨_, rfl⟩
  have eN : Fst.led w c oD rdy np tp nf tf ns d2 ds li ls { b with fr := fi ++ [{ f with j := f.j + 1 }] } = H ++ (ndsLed ns ++ ((frmsLed fi ++ [(f.mw, mwObj f.it), (f.it, liObj f.n.l (f.j + 1))]) ++ b.frs)) := by rw [hH]; unfold Fst.led; dsimp only; rw [eM, eL']; rfl
  have eO : Fst.led w c oD rdy np tp nf tf ns d2 ds li ls b = H ++ (ndsLed ns ++ ((frmsLed fi ++ [(f.mw, mwObj f.it), (f.it, liObj f.n.l f.j)]) ++ b.frs)) := by rw [hH]; unfold Fst.led; rw [eL]; rfl
  have low : ∀ p, p ∈ H ++ (ndsLed ns ++ b.frs) → p.1 ≠ f.it := fun p hp => hlow p (by rw [hH] at hp; exact hp)
  rw [eN, eO]
  refine ⟨fun p hp => ?_, fun p hp => ?_⟩
  · rcases led_A hp with h | ⟨h, r⟩
    · exact .inl h
    · exact .inr ⟨h, r.elim (low p) fun r => r.elim (hfi p) fun r => r.elim (fun r => r ▸ hmw) (how p)⟩
  · obtain ⟨h, r⟩ := led_B (m := (f.mw, mwObj f.it)) (i := (f.it, liObj f.n.l f.j)) (show p ∈ H ++ (ndsLed ns ++ (frmsLed fi ++ (own ++ b.frs))) from by rw [hH]; exact hp)
    exact ⟨h, r.elim (low p) fun r => r.elim (hfi p) (how p)⟩
theorem last_rk {l : List Int} {a k : Int} {rk : Int → Nat} (h : (l ++ [a]).Pairwise fun x y => rk x < rk y) (hk : rk a < rk k) : ∀ z ∈ l ++ [a], rk z < rk k := by
  intro z hz
  rcases List.mem_append.mp hz with hz | hz
  · exact Nat.lt_trans ((List.pairwise_append.mp h).2.2 z hz a (.head _)) hk
  · rw [List.mem_singleton.mp hz]; exact hk

end Mine
end

-- part FC
section
open PySem PySem.W PyProof.Rows
namespace Mine
theorem off_FC : True := by
  w_top off
  first | (walk1; done) | trivial
theorem fill_FC : PySem.Challenge.rw_oh0062_01 = PySem.Challenge.rw_oh0062_01 ∧ hd.heap_1 = hd.heap_1 := by k_fill; exact ⟨rfl, rfl⟩
local macro_rules | `(tactic| walk_at "exec While Constant cons nil") => `(tactic| refine stopMark ?_)
local macro_rules | `(tactic| walk_at "exec While Name cons cons") => `(tactic| refine stopMark ?_)
local macro_rules | `(tactic| walk_at "exec Try cons cons") => `(tactic| refine stopMark ?_)
local macro_rules | `(tactic| walk_at "noteFrame ref") => `(tactic| refine stopMark ?_)
local macro_rules | `(tactic| walk_at "LeaveT") => `(tactic| refine stopMark ?_)
local macro_rules | `(tactic| walk_at "subscriptTail Name Name ref int") => `(tactic| refine stopMark ?_)
local macro_rules | `(tactic| walk_at "getAttr ref") => `(tactic| ((with_reducible show wpAny _ _ (getAttr (Value.ref _) (PySem.Str.ofString "successors") _) _ _ _); refine stopMark ?_))
local macro_rules | `(tactic| walk_at "getAttr ref") => `(tactic| ((with_reducible show wpAny _ _ (getAttr (Value.ref _) (PySem.Str.ofString "__next__") _) _ _ _); refine stopMark ?_))
local macro_rules | `(tactic| walk_at "compareOp In int ref") => `(tactic| refine stopMark ?_)
local macro_rules | `(tactic| walk_at "exec If Compare cons cons") => `(tactic| refine stopMark ?_)
local macro_rules | `(tactic| walk_at "PlainEnd") => `(tactic| refine stopMark ?_)
local macro_rules | `(tactic| walk_at "call builtin:set.add") => `(tactic| refine stopMark ?_)
local macro_rules | `(tactic| walk_at "call builtin:iter") => `(tactic| refine stopMark ?_)
local macro_rules | `(tactic| walk_at "setItem ref int") => `(tactic| refine stopMark ?_)
local macro_rules | `(tactic| walk_at "getMethod ref") => `(tactic| ((with_reducible show wpAny _ _ (getMethod (Value.ref _) (PySem.Str.ofString "add") _) _ _ _); refine stopMark ?_))
local macro_rules | `(tactic| walk_at "FOut") => `(tactic| refine stopMark ?_)
local macro_rules | `(tactic| walk_at "subscriptTail Name UnaryOp ref int") => `(tactic| refine stopMark ?_)
local macro_rules | `(tactic| walk_at "call builtin:list.pop") => `(tactic| refine stopMark ?_)
local macro_rules | `(tactic| walk_at "call builtin:len") => `(tactic| refine stopMark ?_)
local macro_rules | `(tactic| walk_at "truthy ref") => `(tactic| ((with_reducible rename 0 < List.length _ => hpos); refine stopMark ?_))
local macro_rules | `(tactic| walk_at "Exists") => `(tactic| refine stopMark ?_)
theorem fc_call {w : World} {A₀ A : Around} {base h₀ : Heap} {env : Env} {outer : List Env} {L : Addr} {m : Str → Option Value} {rest : List (Addr × Obj)} {mean mg mb} {s : Shared} {Q : Value → Shared → Prop} {E : Value → Shared → Prop} {c : Sc} {oD : Obj} {np nf : Int} {tp tf : Tok} {ns : List Nd} {P : List Pn} {rdy : Value} {rk : Int → Nat}
    (GB : Gb w base mean mg mb) (G : Gd w A₀ base outer h₀ mean mg mb) (D : KtsDicts (frOf outer) h₀) (C : Cr A env outer L 1) (F : Fr h₀ L s.heap m)
    (N : News h₀ L s.heap (((c.D, oD) :: (c.x, instObj 158 c.dx) :: (c.dx, sDict w c.k0 c.k1 c.k2 c.k3 c.D rdy np tp nf tf) :: ndsLed ns) ++ rest))
    (hsep : ∀ p ∈ (c.D, oD) :: (c.x, instObj 158 c.dx) :: (c.dx, sDict w c.k0 c.k1 c.k2 c.k3 c.D rdy np tp nf tf) :: ndsLed ns, ∀ q ∈ rest, p.1 ≠ q.1)
    (ok : SOk c ns) (hD : Obj.IsDictOf (intKind pw w) oD (kvsOf ns)) (hR : Rep ns P) (hin : ∀ p ∈ P, ∀ q ∈ p.ss, ∃ n ∈ ns, n.key = q) (hrk : ∀ p ∈ P, ∀ q ∈ p.ss, rk p.key < rk q) (hlen : ns.length ≤ 900) (hvs : ∀ n ∈ ns, n.vs.length ≤ 900)
    (hQ : ∀ h₀' h' tk, KtsTurn (frOf outer) h₀ h₀' → (outer = [] → h₀' = h₀) → Below A₀ base outer h₀' → Fr h₀' L h' m → News h₀' L h' (((c.D, oD) :: (c.x, instObj 158 c.dx) :: (c.dx, sDict w c.k0 c.k1 c.k2 c.k3 c.D rdy np tp nf tf) :: ndsLed ns) ++ rest) → Q .none { s with heap := h', toks := tk }) :
    wpAny (model pw w) A (call (.ref 148) [.ref c.x]) Q E s := by
  refine wpAny_call (enterT [(("self" : Str), Value.ref c.x)] _ rest G C F N hsep D (by k_is) (by k_is) (BindsTo.of_eq rfl) (locs rfl) rfl rfl rfl (by decide) ?_)
  intro g L' h1 tk1 hg F1 N1 lt1 G1 D1 C1
  have hh := C1.hh
  have hu64 := C1.u64
  have hfr := C.fr
  obtain ⟨B1, X1, T1⟩ := G1
  clear C F N G
  obtain ⟨frs, Fs, F1, N1, st, hap, hgf⟩ := framesOut B1 D1 F1 N1
  have Xh := GB.X.keeps st
  have Th := GB.T.keeps st
  generalize hgh : hideAll g (frOf (env :: outer)) = gh at *
  clear X1 T1
  simp only [List.cons_append] at N1
  k_steps
  rename Fr _ _ _ _ => F2
  rename News _ _ _ _ => N2
  rename Obj.IsDictOf (intKind pw w) _ [] => hi2
  rename Obj.SetObjOf (intKind pw w) _ _ _ => hs2
  rename (_ == sysModules) = false => lo2
  rename_i _ ls _ q1 _ _ li _ q2 _ ds _ led0 _ q3 _ d2 _ o2 _ _ _ q4 h2
  unfold Stop
  refine For_invV gh rfl rfl ?_
  k_steps
  unfold Stop
  have hlt0 : ∀ p ∈ (c.D, oD) :: (c.x, instObj 158 c.dx) :: (c.dx, sDict w c.k0 c.k1 c.k2 c.k3 c.D rdy np tp nf tf) :: (ndsLed ns ++ frs), p.1 < ls := by
    intro p hp
    rcases List.mem_cons.mp hp with rfl | hp
    · exact q1.1
    rcases List.mem_cons.mp hp with rfl | hp
    · exact q1.2.1
    rcases List.mem_cons.mp hp with rfl | hp
    · exact q1.2.2.1
    · exact allLt_mem q1.2.2.2 p hp
  have o1 : ls < li := q2.1
  have o2' : li < ds := q3.1
  have o3 : ds < d2 := q4.1
  have apF : ∀ ow b, Fst.Ok w ns rk frs d2 ow b → ∀ z, ls ≤ z → z ≤ d2 → ∀ p ∈ (c.D, oD) :: (c.x, instObj 158 c.dx) :: (c.dx, sDict w c.k0 c.k1 c.k2 c.k3 c.D rdy np tp nf tf) :: (ndsLed ns ++ (frmsLed b.fr ++ b.frs)), p.1 ≠ z := by
    intro ow b ok z z1 z2 p hp
    have low : p.1 < ls → p.1 ≠ z := fun h => Nat.ne_of_lt (Nat.lt_of_lt_of_le h z1)
    rcases List.mem_cons.mp hp with rfl | hp
    · exact low (hlt0 _ (.head _))
    rcases List.mem_cons.mp hp with rfl | hp
    · exact low (hlt0 _ (.tail _ (.head _)))
    rcases List.mem_cons.mp hp with rfl | hp
    · exact low (hlt0 _ (.tail _ (.tail _ (.head _))))
    rcases List.mem_append.mp hp with hp | hp
    · exact low (hlt0 p (.tail _ (.tail _ (.tail _ (List.mem_append_left _ hp)))))
    rcases List.mem_append.mp hp with hp | hp
    · exact Nat.ne_of_gt (Nat.lt_of_le_of_lt z2 (ok.big p hp))
    · obtain ⟨x, hx, e⟩ := ok.su.fwd p hp
      rw [e] at low ⊢
      exact low (hlt0 x (.tail _ (.tail _ (.tail _ (List.mem_append_right _ hx)))))
  refine iterDictX (d := c.D) (kvs := kvsOf ns) (Fst.led w c oD rdy np tp nf tf ns d2 ds li ls) (fun _ => []) [] (fun _ b => Fst.Ok w ns rk frs d2 [] b ∧ b.fr = []) ⟨[], [], 0, 0, _, fun _ => false, 0, o2, [], frs⟩
    (Heap.dictOf_iff.mpr ⟨oD, (N2 _ (.tail _ (.tail _ (.tail _ (.tail _ (.head _)))))).1, hD⟩) ok.lo (N2 (c.D, oD) (.tail _ (.tail _ (.tail _ (.tail _ (.head _)))))).2.1 hh F2 N2 (fun p hp => nomatch hp) ⟨⟨.nil, hs2, hi2, rfl, (fun f hf => nomatch hf), (fun f hf => nomatch hf), .nil, TI.SameUp.refl _, by rw [Nat.zero_add]; exact List.length_filter_le _ _, (fun f hf => nomatch hf), (fun f hf => nomatch hf), .nil, Nat.le_refl _, (fun p hp => nomatch hp)⟩, rfl⟩ ?_ ?_
  · rintro i k y t b u h3 tk3 own wr hk ⟨ok3, hfr3⟩ hnw hoff hown hwo F3 N3
    dsimp only [envOf, Fst.led] at F3 N3 hnw hoff
    dsimp only [cont_nil, kstB, List.cons_append] at F3 N3
    simp only [List.append_assoc, List.cons_append] at N3
    k_steps
    unfold Stop
    have hsb : b.sn < scanBound := by
      have h1 := ok3.sc
      have h2 : (900 : Nat) < scanBound := by decide
      omega
    refine set_in N3 (.tail _ (.head _)) ok3.set hsb ?_
    have hnode : ∃ n ∈ ns, n.key = k := by
      have h1 := List.mem_of_getElem? hk
      obtain ⟨n, hn, e⟩ := List.mem_map.mp h1
      exact ⟨n, hn, by injection e⟩
    cases hS : b.S k with
    | true =>
      k_steps
      rename Fr _ _ _ _ => F4
      rename News _ _ _ _ => N4
      unfold Stop
      refine ⟨b, _, _, _, _, rfl, F4, N4, ?_, ?_, hnw, (fun p hp => nomatch hp), ?_, ok3, hfr3⟩
      · intro p hp
        revert p; walk_at "mine sub"
      · intro p hp
        simp only [List.mem_cons, List.mem_append]
        exact .inr (.inr (.inr (.inr (.inr (.inr (.inr (.inr (.inr (.inr hp)))))))))
      · intro z z1 _ _; simp only [if_neg z1]
    | false =>
      k_steps
      rename Fr _ _ _ _ => F4
      rename News _ _ _ _ => N4
      unfold Stop
      have apOwn : ∀ z o, (z, o) ∈ Fst.led w c oD rdy np tp nf tf ns d2 ds li ls b → z ≠ c.D → ∀ p ∈ own, p.1 ≠ z := by
        intro z o hz hzD p hp
        by_cases hpD : p.1 = c.D
        · rw [hpD]; exact Ne.symm hzD
        · exact hoff p hp hpD (z, o) hz
      have cD : ∀ z, ls ≤ z → z ≠ c.D := fun z hz => Nat.ne_of_gt (Nat.lt_of_lt_of_le (hlt0 _ (.head _)) hz)
      have own1 := apOwn ls _ (.tail _ (.tail _ (.tail _ (.head _)))) (cD _ (Nat.le_refl _))
      have own2 := apOwn li _ (.tail _ (.tail _ (.head _))) (cD _ (Nat.le_of_lt o1))
      have own3 := apOwn ds _ (.tail _ (.head _)) (cD _ (Nat.le_of_lt (Nat.lt_trans o1 o2')))
      have own4 := apOwn d2 _ (.head _) (cD _ (Nat.le_of_lt (Nat.lt_trans o1 (Nat.lt_trans o2' o3))))
      have full : ∀ bb, Fst.Ok w ns rk frs d2 own bb → ∀ z, ls ≤ z → z ≤ d2 → (∀ p ∈ own, p.1 ≠ z) → ∀ p ∈ (c.D, oD) :: (c.x, instObj 158 c.dx) :: (c.dx, sDict w c.k0 c.k1 c.k2 c.k3 c.D rdy np tp nf tf) :: (ndsLed ns ++ (frmsLed bb.fr ++ (bb.frs ++ own))), p.1 ≠ z := by
        intro bb okb z z1 z2 hz p hp
        have h1 := apF own bb okb z z1 z2
        simp only [List.mem_cons, List.mem_append] at hp h1
        rcases hp with h | h | h | h | h | h | h
        · exact h1 p (.inl h)
        · exact h1 p (.inr (.inl h))
        · exact h1 p (.inr (.inr (.inl h)))
        · exact h1 p (.inr (.inr (.inr (.inl h))))
        · exact h1 p (.inr (.inr (.inr (.inr (.inl h)))))
        · exact h1 p (.inr (.inr (.inr (.inr (.inr h)))))
        · exact hz p h
      have eAd : frOf (env :: outer) = frs.map (·.1) := Fs.addrs
      have ownF : ∀ p ∈ own, ∀ q ∈ frs, p.1 ≠ q.1 := by
        intro p hp q hq e
        by_cases hpD : p.1 = c.D
        · exact hap (c.D, oD) (.head _) (by rw [eAd]; exact List.mem_map.mpr ⟨q, hq, by rw [← e, hpD]⟩)
        · obtain ⟨sl, hs⟩ := ok3.su.back q hq
          exact hoff p hp hpD (q.1, _) (.tail _ (.tail _ (.tail _ (.tail _ (.tail _ (.tail _ (.tail _ (List.mem_append_right _ (List.mem_append_right _ hs))))))))) e
      refine ksw_while (σ := Fst × Int × Tok) (fun d => Fst.led w c oD rdy np tp nf tf ns d2 ds li ls d.1 ++ own) (fun d => [(("node" : Str), Value.int d.2.1 d.2.2)]) (fun _ => True) [] (fun d => Fst.Ok w ns rk frs d2 own d.1 ∧ (∃ n ∈ ns, n.key = d.2.1) ∧ ∀ z ∈ keysF d.1.fr, rk z < rk d.2.1) (fun d => Fst.mu ns d.1) (b, k, t) F4 ?_ trivial ?_ ⟨ok3.own hfr3, hnode, by rw [hfr3]; intro z hz; cases hz⟩ ?_ (.never)
      · intro p hp
        refine N4 p ?_
        simp only [Fst.led, List.cons_append, List.append_assoc] at hp
        exact hp
      · intro p hp
        simp only [List.mem_singleton] at hp
        subst hp; rfl
      rintro ⟨b5, k5, t5⟩ u5 h5 tk5 _ ⟨ok5, hn5, hrk5⟩ F5 N5
      dsimp only [Fst.led] at ok5 hn5 hrk5 N5
      dsimp only [cont_nil, kstB, List.cons_append] at F5 N5
      simp only [List.append_assoc, List.cons_append] at N5
      have F5 : Fr gh L' h5 (fun z => if z = Str.ofString "node" then some (Value.int k5 t5) else fcMap c d2 ds li ls z) := fr_norm F5 (fun z hz => by simp only [if_neg hz]; rfl)
      dsimp only [fcMap] at F5
      k_steps
      unfold Stop
      refine wpAny_mono (?_ : wpAny _ _ _ (PlainEnd (FMid w c oD rdy np tp nf tf ns rk frs gh L' d2 ds li ls own (Fst.mu ns b5) s)) (fun _ _ => False) _) ?_ (fun _ _ q => q)
      · have hsb5 : b5.sn + 1 < scanBound := by
          have h1 := ok5.sc
          have h2 : (901 : Nat) < scanBound := by decide
          omega
        refine wpAny_If ?_
        k_steps
        unfold Stop
        refine set_in N5 (.tail _ (.head _)) ok5.set (by omega) ?_
        cases hS5 : b5.S k5 with
        | true =>
          k_steps
          unfold Stop
          refine dict_in (Heap.dictOf_iff.mpr ⟨_, (N5 _ (.head _)).1, ok5.d⟩) lo2 ?_
          rw [not_on_stack ok5.kk hrk5]
          simp only [Option.isSome_none]
          k_steps
          unfold Stop
          refine ⟨rfl, b5, _, h5, _, rfl, ok5, Nat.le_refl _, F5, fun p hp => N5 p ?_⟩
          simp only [Fst.led, List.cons_append, List.append_assoc] at hp
          exact hp
        | false =>
          have apDs := apF own b5 ok5 ds (Nat.le_of_lt (Nat.lt_trans o1 o2')) (Nat.le_of_lt o3)
          have fDs := full b5 ok5 ds (Nat.le_of_lt (Nat.lt_trans o1 o2')) (Nat.le_of_lt o3) own3
          have n1 : li ≠ ds := Nat.ne_of_lt o2'
          have n2 : ls ≠ ds := Nat.ne_of_lt (Nat.lt_trans o1 o2')
          have n3 : d2 ≠ ds := Nat.ne_of_gt o3
          have U5 := UpdF.tail (d := ds) (o := b5.so) (p := (d2, b5.o2)) n3 (UpdF.head (ne_cons (o := W.listOf (mws b5.fr).toArray b5.nit) n1 (ne_cons (o := W.listOf b5.tv.toArray b5.nt) n2 fDs)))
          k_steps
          unfold Stop
          refine kse_method N5 U5 ok5.set (by omega) ?_
          k_steps
          unfold Stop
          refine kse_add F5 N5 U5 ok5.set hsb5 (intKind_is _ _ _ _) rfl ?_
          intro h6 so6 F6 N6 hso6
          rw [hS5] at hso6
          simp only [Bool.false_eq_true, if_false] at hso6
          k_steps
          rename Fr _ _ _ _ => F7
          rename News _ _ _ _ => N7
          unfold Stop
          obtain ⟨n, hn, hnk⟩ := hn5
          subst hnk
          have hkn := PyProof.Rows.keysNodup_of_isDictOf hD
          refine dict_item (Heap.dictOf_iff.mpr ⟨oD, (N7 _ (.tail _ (.tail _ (.tail _ (.tail _ (.head _)))))).1, hD⟩) (kvs_at hkn hn) ?_ (by with_unfolding_all rfl)
          obtain ⟨npre, npost, hnsp⟩ := led_split hn
          have ndn := ok.nd
          rw [hnsp] at ndn
          obtain ⟨g1, g2, g3, j1, j2⟩ := ndAp ndn
          have hmemN : ∀ p ∈ n.led, p ∈ ndsLed ns := fun p hp => List.mem_flatMap.mpr ⟨n, hn, hp⟩
          k_steps
          rename Fr _ _ _ _ => F8
          rename News _ _ _ _ => N8
          unfold Stop
          have I8 := ndAt_of N8 (n := n) (fun p hp => .tail _ (.tail _ (.tail _ (.tail _ (.tail _ (.tail _ (.tail _ (List.mem_append_left _ (hmemN p hp))))))))) g1 g2 g3
          refine nd_get_ss F8 Xh I8 ?_
          k_steps
          rename Fr _ _ _ _ => F9
          rename News _ _ _ _ => N9
          unfold Stop
          refine iter_list F9 N9 (l := n.l) (items := n.vs.toArray) ⟨_, I8.l, rfl, _, rfl⟩ ?_
          intro itA h10 F10 N10 hit10
          k_steps
          rename Fr _ _ _ _ => F11
          rename News _ _ _ _ => N11
          unfold Stop
          refine next_attr F11 N11 (.head _) ?_
          intro mwA h12 F12 N12 hmw12
          have flen : b5.fr.length ≤ 900 := by have h1 := ok5.fl; have h2 := ok5.sc; omega
          have m1 : mwA ≠ li := Nat.ne_of_gt (hmw12 _ (.tail _ (.tail _ (.tail _ (.head _)))))
          have m2 : itA ≠ li := Nat.ne_of_gt (hit10 _ (.tail _ (.tail _ (.head _))))
          have m3 : d2 ≠ li := Nat.ne_of_gt (Nat.lt_trans o2' o3)
          have m4 : ds ≠ li := Nat.ne_of_gt o2'
          have m5 : ∀ p ∈ (ls, W.listOf b5.tv.toArray b5.nt) :: (c.D, oD) :: (c.x, instObj 158 c.dx) :: (c.dx, sDict w c.k0 c.k1 c.k2 c.k3 c.D rdy np tp nf tf) :: (ndsLed ns ++ (frmsLed b5.fr ++ (b5.frs ++ own))), p.1 ≠ li := ne_cons (Nat.ne_of_lt o1) (full b5 ok5 li (Nat.le_of_lt o1) (Nat.le_of_lt (Nat.lt_trans o2' o3)) own2)
          have m6 : (mws b5.fr).length ≤ 2000 := by simp only [mws, List.length_map]; omega
          k_steps
          rename Fr _ _ _ _ => F13
          rename News _ _ _ _ => N13
          unfold Stop
          refine PySem.Calls.call_len_list (items := b5.tv.toArray) ⟨_, (N13 _ (.tail _ (.tail _ (.tail _ (.tail _ (.tail _ (.head _))))))).1, rfl, _, rfl⟩ ?_ ?_
          · have h1 := ok5.it.length
            have h2 : (keysF b5.fr).length = b5.fr.length := List.length_map _
            rw [List.size_toArray]
            omega
          k_steps
          unfold Stop
          have hd2m := (N13 (d2, b5.o2) (.tail _ (.tail _ (.head _))))
          refine wpAny_setItem_pairs (knd := intKind pw w) (intKind_is _ _ _ _) (Heap.dictOf_iff.mpr ⟨_, hd2m.1, ok5.d⟩) ?_ ?_
          rotate_left
          · have h1 : b5.kv2.length = b5.fr.length := by have := congrArg List.length ok5.kk; simpa [keysF] using this
            have h2 : (900 : Nat) ≤ sizeLine := by decide
            omega
          intro h15 hm15 hs15
          obtain ⟨o15, ho15, hd15⟩ := Heap.dictOf_iff.mp hm15
          rw [stored_absent (not_on_stack ok5.kk hrk5)] at hd15
          have F15 := F13.change hs15 hd2m.2.1 hd2m.2.2
          have od1 : mwA ≠ d2 := Nat.ne_of_gt (hmw12 _ (.tail _ (.head _)))
          have od2 : itA ≠ d2 := Nat.ne_of_gt (hit10 _ (.head _))
          have od3 : ds ≠ d2 := Nat.ne_of_lt o3
          have od4 : li ≠ d2 := Nat.ne_of_lt (Nat.lt_trans o2' o3)
          have od5 : ls ≠ d2 := Nat.ne_of_lt (Nat.lt_trans o1 (Nat.lt_trans o2' o3))
          have fD2 := full b5 ok5 d2 (Nat.le_of_lt (Nat.lt_trans o1 (Nat.lt_trans o2' o3))) (Nat.le_refl _) own4
          have N15 := news_updU N13 hs15 ho15 (Upd.tail (p := (mwA, mwObj itA)) od1 (Upd.tail (p := (itA, liObj n.l 0)) od2 (Upd.head (o' := o15) (ne_cons od3 (ne_cons od4 (ne_cons od5 fD2))))))
          have s1 : mwA ≠ ls := Nat.ne_of_gt (hmw12 _ (.tail _ (.tail _ (.tail _ (.tail _ (.head _))))))
          have s2 : itA ≠ ls := Nat.ne_of_gt (hit10 _ (.tail _ (.tail _ (.tail _ (.head _)))))
          have s3 : d2 ≠ ls := od5.symm
          have s4 : ds ≠ ls := n2.symm
          have s5 : li ≠ ls := Nat.ne_of_gt o1
          have s6 := full b5 ok5 ls (Nat.le_refl _) (Nat.le_of_lt (Nat.lt_trans o1 (Nat.lt_trans o2' o3))) own1
          have s7 : b5.tv.length ≤ 2000 := by
            have h1 := ok5.it.length
            have h2 : (keysF b5.fr).length = b5.fr.length := List.length_map _
            omega
          clear F13 N13
          k_steps
          rename Fr _ _ _ _ => F16
          rename News _ _ _ _ => N16
          unfold Stop
          have h4 : ∀ q ∈ own, q.1 < itA := fun q hq => hit10 q (.tail _ (.tail _ (.tail _ (.tail _ (.tail _ (.tail _ (.tail _ (List.mem_append_right _ (List.mem_append_right _ (List.mem_append_right _ hq))))))))))
          have h3 : ∀ p ∈ frmsLed b5.fr, p.1 < itA := fun p hp => hit10 p (.tail _ (.tail _ (.tail _ (.tail _ (.tail _ (.tail _ (.tail _ (List.mem_append_right _ (List.mem_append_left _ hp)))))))))
          refine ⟨rfl, ⟨b5.fr ++ [⟨n, itA, mwA, 0⟩], b5.tv ++ [.int n.key t5], b5.nt + 1, b5.nit + 1, so6, fun k' => b5.S k' || decide (k' = n.key), b5.sn + 1, o15, b5.kv2 ++ [(n.key, _)], b5.frs⟩, _, _, _, rfl, push_ok ok5 hn hrk5 hS5 hso6 hd15 (hit10 _ (.head _)) (hmw12 _ (.head _)) h3 h4, push_mu hn hS5, F16, fun p hp => N16 p ?_⟩
          have eL : frmsLed (b5.fr ++ [⟨n, itA, mwA, 0⟩]) = frmsLed b5.fr ++ [(mwA, mwObj itA), (itA, liObj n.l 0)] := by simp [frmsLed, Frm.led]
          simp only [Fst.led, eL, mws, List.map_append, List.map_cons, List.map_nil, List.cons_append, List.append_assoc, List.nil_append, List.mem_cons, List.mem_append, List.push_toArray] at hp ⊢
          rcases hp with h | h | h | h | h | h | h | h | h | h | h | h | h
          · exact .inr (.inr (.inl h))
          · exact .inr (.inr (.inr (.inl h)))
          · exact .inr (.inr (.inr (.inr (.inl h))))
          · exact .inr (.inr (.inr (.inr (.inr (.inl h)))))
          · exact .inr (.inr (.inr (.inr (.inr (.inr (.inl h))))))
          · exact .inr (.inr (.inr (.inr (.inr (.inr (.inr (.inl h)))))))
          · exact .inr (.inr (.inr (.inr (.inr (.inr (.inr (.inr (.inl h))))))))
          · exact .inr (.inr (.inr (.inr (.inr (.inr (.inr (.inr (.inr (.inl h)))))))))
          · exact .inr (.inr (.inr (.inr (.inr (.inr (.inr (.inr (.inr (.inr (.inl h))))))))))
          · exact .inl h
          · exact .inr (.inl h)
          · exact .inr (.inr (.inr (.inr (.inr (.inr (.inr (.inr (.inr (.inr (.inr (.inl h)))))))))))
          · exact .inr (.inr (.inr (.inr (.inr (.inr (.inr (.inr (.inr (.inr (.inr (.inr h)))))))))))
      · rintro f s6 ⟨rfl, b6, u6, h6, tk6, rfl, ok6, hmu6, F6, N6⟩
        k_steps
        unfold Stop
        refine wpAny_mono (?_ : wpAny _ _ _ (FOut w c oD rdy np tp nf tf ns rk frs gh L' d2 ds li ls own (Fst.mu ns b5) s) (fun _ _ => False) _) ?_ (fun _ _ q => q.elim)
        · refine wpAny_While (codeAny_whileLoop (FIt w c oD rdy np tp nf tf ns rk frs gh L' d2 ds li ls own (Fst.mu ns b5) s) ?_ b6.fr.length ⟨b6, u6, h6, tk6, rfl, ok6, hmu6, rfl, F6, N6⟩)
          rintro nn s7 ⟨b7, u7, h7, tk7, rfl, ok7, hmu7, hnn, F7, N7⟩
          dsimp only [Fst.led] at N7
          dsimp only [fcMap] at F7
          simp only [List.cons_append, List.append_assoc] at N7
          have flen7 : b7.fr.length ≤ 900 := by have h1 := ok7.fl; have h2 := ok7.sc; omega
          have tl7 : b7.tv.length = b7.fr.length := by rw [ok7.it.length]; exact List.length_map _
          have s7 : b7.tv.length ≤ 2000 := by omega
          rcases List.eq_nil_or_concat b7.fr with e7 | ⟨fi, fl, e7⟩
          · have e8 : b7.tv = [] := by
              refine List.eq_nil_of_length_eq_zero ?_
              rw [tl7, e7]; rfl
            rw [e8] at N7
            k_steps
            unfold Stop
            refine .out rfl b7 _ h7 _ rfl ok7 e7 F7 fun p hp => N7 p ?_
            simp only [Fst.led, List.cons_append, List.append_assoc, e8] at hp
            exact hp
          · rw [List.concat_eq_append] at e7
            have hpos : 0 < b7.tv.length := by rw [tl7, e7]; simp
            k_steps
            unfold Stop
            rename 0 < List.length _ => hpos
            refine wpAny_truthy_list (items := b7.tv.toArray) ⟨_, (N7 _ (.tail _ (.tail _ (.tail _ (.head _))))).1, rfl, _, rfl⟩ (by rw [List.size_toArray]; omega) ?_
            have hne : (!b7.tv.toArray.isEmpty) = true := by
              cases hb : b7.tv with
              | nil => rw [hb] at hpos; cases hpos
              | cons _ _ => rfl
            rw [if_pos hne]
            k_steps
            unfold Stop
            have leF : ∀ p ∈ frs, p.1 < ls := fun p hp => hlt0 p (.tail _ (.tail _ (.tail _ (List.mem_append_right _ hp))))
            have leF7 : ∀ p ∈ b7.frs, ∃ q ∈ frs, p.1 = q.1 := fun p hp => ok7.su.fwd p hp
            have l1 : ls < d2 := Nat.lt_trans o1 (Nat.lt_trans o2' o3)
            have stl := step_led (c := c) (oD := oD) (rdy := rdy) (np := np) (nf := nf) (tp := tp) (tf := tf) (ds := ds) (li := li) (ls := ls) ok7 e7 (by
              intro p hp
              rcases List.mem_cons.mp hp with rfl | hp
              · exact Nat.le_refl _
              rcases List.mem_cons.mp hp with rfl | hp
              · exact Nat.le_of_lt o3
              rcases List.mem_cons.mp hp with rfl | hp
              · exact Nat.le_of_lt (Nat.lt_trans o2' o3)
              rcases List.mem_cons.mp hp with rfl | hp
              · exact Nat.le_of_lt l1
              have hlow : p.1 < ls := by
                rcases List.mem_cons.mp hp with rfl | hp
                · exact hlt0 _ (.head _)
                rcases List.mem_cons.mp hp with rfl | hp
                · exact hlt0 _ (.tail _ (.head _))
                rcases List.mem_cons.mp hp with rfl | hp
                · exact hlt0 _ (.tail _ (.tail _ (.head _)))
                rcases List.mem_append.mp hp with hp | hp
                · exact hlt0 p (.tail _ (.tail _ (.tail _ (List.mem_append_left _ hp))))
                · obtain ⟨q, hq, e⟩ := leF7 p hp
                  rw [e]; exact leF q hq
              exact Nat.le_of_lt (Nat.lt_trans hlow l1))
            have ap7 : ∀ p ∈ (d2, b7.o2) :: (ds, b7.so) :: (li, W.listOf (mws b7.fr).toArray b7.nit) :: (ls, W.listOf b7.tv.toArray b7.nt) :: (c.D, oD) :: (c.x, instObj 158 c.dx) :: (c.dx, sDict w c.k0 c.k1 c.k2 c.k3 c.D rdy np tp nf tf) :: (ndsLed ns ++ (frmsLed fi ++ own)), p.1 ∉ b7.frs.map (·.1) := by
              intro p hp hm
              obtain ⟨q, hq, e⟩ := List.mem_map.mp hm
              obtain ⟨x, hx, ex⟩ := leF7 q hq
              have ep : p.1 = x.1 := by rw [← e, ex]
              have hlo : p.1 < ls := by rw [ep]; exact leF x hx
              have hge : ∀ z : Addr, ls ≤ z → p.1 = z → False := fun z hz e => absurd (e ▸ hlo) (Nat.not_lt.mpr hz)
              have hsrt : ∀ y ∈ (c.D, oD) :: (c.x, instObj 158 c.dx) :: (c.dx, sDict w c.k0 c.k1 c.k2 c.k3 c.D rdy np tp nf tf) :: ndsLed ns, p.1 = y.1 → False := fun y hy e => hap y hy (by rw [eAd]; exact List.mem_map.mpr ⟨x, hx, by rw [← ep, e]⟩)
              rcases List.mem_cons.mp hp with h | hp
              · exact hge d2 (Nat.le_of_lt l1) (by rw [h])
              rcases List.mem_cons.mp hp with h | hp
              · exact hge ds (Nat.le_of_lt (Nat.lt_trans o1 o2')) (by rw [h])
              rcases List.mem_cons.mp hp with h | hp
              · exact hge li (Nat.le_of_lt o1) (by rw [h])
              rcases List.mem_cons.mp hp with h | hp
              · exact hge ls (Nat.le_refl _) (by rw [h])
              rcases List.mem_cons.mp hp with h | hp
              · exact hsrt _ (.head _) (by rw [h])
              rcases List.mem_cons.mp hp with h | hp
              · exact hsrt _ (.tail _ (.head _)) (by rw [h])
              rcases List.mem_cons.mp hp with h | hp
              · exact hsrt _ (.tail _ (.tail _ (.head _))) (by rw [h])
              rcases List.mem_append.mp hp with hp | hp
              · exact hsrt _ (.tail _ (.tail _ (.tail _ hp))) rfl
              rcases List.mem_append.mp hp with hp | hp
              · have h1 := ok7.big p (by rw [e7]; simp only [frmsLed, List.flatMap_append]; exact List.mem_append_left _ hp)
                exact hge p.1 (Nat.le_of_lt (Nat.lt_trans l1 h1)) rfl
              · exact ownF p hp x hx ep
            refine try_cut (FNt gh L' (fun z => if z = Str.ofString "node" then u7 else fcMap c d2 ds li ls z) ((d2, b7.o2) :: (ds, b7.so) :: (li, W.listOf (mws b7.fr).toArray b7.nit) :: (ls, W.listOf b7.tv.toArray b7.nt) :: (c.D, oD) :: (c.x, instObj 158 c.dx) :: (c.dx, sDict w c.k0 c.k1 c.k2 c.k3 c.D rdy np tp nf tf) :: (ndsLed ns ++ (frmsLed fi ++ own))) b7.frs s) ?_ ?_
            · intro K hK
              k_steps
              unfold Stop
              have em : mws b7.fr = mws fi ++ [Value.ref fl.mw] := by rw [e7]; simp [mws]
              refine PyProof.Rows.item_last (vi := mws fi) (v := .ref fl.mw) ⟨_, (N7 _ (.tail _ (.tail _ (.head _)))).1, rfl, _, by rw [em]⟩ ?_
              have hfl : fl ∈ b7.fr := by rw [e7]; simp
              have hnf := ok7.nn fl hfl
              have hL : ∀ p ∈ fl.led, p ∈ frmsLed b7.fr := fun p hp => List.mem_flatMap.mpr ⟨fl, hfl, hp⟩
              have hmw := N7 (fl.mw, mwObj fl.it) (.tail _ (.tail _ (.tail _ (.tail _ (.tail _ (.tail _ (.tail _ (List.mem_append_right _ (List.mem_append_left _ (hL _ (.head _)))))))))))
              have hit := N7 (fl.it, liObj fl.n.l fl.j) (.tail _ (.tail _ (.tail _ (.tail _ (.tail _ (.tail _ (.tail _ (List.mem_append_right _ (List.mem_append_left _ (hL _ (.tail _ (.head _))))))))))))
              refine callWith_mw rfl hmw.1 ?_
              have hlist := N7 (fl.n.l, W.listOf fl.n.vs.toArray fl.n.nl) (.tail _ (.tail _ (.tail _ (.tail _ (.tail _ (.tail _ (.tail _ (List.mem_append_left _ (List.mem_flatMap.mpr ⟨fl.n, hnf, by simp [Nd.led]⟩)))))))))
              rcases Nat.lt_or_ge fl.j fl.n.vs.length with hj | hj
              · obtain ⟨k9, t9, hk9, p9, hp9, hpk9, hkp9⟩ := succ_int hR hnf hj
                refine mw_item hmw.1 hit.1 (items := fl.n.vs.toArray) ⟨_, hlist.1, rfl, _, rfl⟩ (x := .int k9 t9) (by simpa using hk9) ?_
                intro h12 hg12 hs12
                have F12 := F7.change hs12 hit.2.1 hit.2.2
                have N12 := news_upd1 N7 hs12 hg12 hit.2.2 hit.2.1 (led' := Fst.led w c oD rdy np tp nf tf ns d2 ds li ls { b7 with fr := fi ++ [{ fl with j := fl.j + 1 }] } ++ own) (fun p hp => by
                  rcases stl.1 p hp with h | ⟨h, h'⟩
                  · exact .inl h
                  · refine .inr ⟨?_, h'⟩
                    simp only [Fst.led, List.cons_append, List.append_assoc] at h
                    exact h)
                have hr9 : rk fl.n.key < rk k9 := by rw [← hpk9]; exact hrk p9 hp9 k9 hkp9
                have ok9 := step_ok ok7 e7 hj
                have rk9 : ∀ z ∈ keysF (fi ++ [{ fl with j := fl.j + 1 }]), rk z < rk k9 := by
                  have h1 := ok9.rk
                  have e1 : keysF (fi ++ [{ fl with j := fl.j + 1 }]) = keysF fi ++ [fl.n.key] := by simp [keysF]
                  dsimp only at h1
                  rw [e1] at h1 ⊢
                  exact last_rk h1 hr9
                have mu9 := step_mu (ns := ns) (b := b7) (tv' := b7.tv) (nt' := b7.nt) (nit' := b7.nit) (sn := b7.sn) (so := b7.so) (o := b7.o2) (kv := b7.kv2) (frs' := b7.frs) e7 hj
                k_steps
                rename Fr _ _ _ _ => F14
                rename News _ _ _ _ => N14
                unfold Stop
                refine .go rfl { b7 with fr := fi ++ [{ fl with j := fl.j + 1 }] } k9 t9 _ _ rfl ok9 (hin p9 hp9 k9 hkp9) rk9 (Nat.lt_of_lt_of_le mu9 hmu7) ?_ N14
                have F15 := fr_norm F14 (fun z hz => by simp only [if_neg hz]; rfl)
                exact F15
              · refine mw_end hh hmw.1 hit.1 (items := fl.n.vs.toArray) ⟨_, hlist.1, rfl, _, rfl⟩ (by simp [hj]) ?_
                intro h12 h13 e13 ws13 o13 hs12 hg12 hx13 hw13
                have F12 := F7.change hs12 hit.2.1 hit.2.2
                have N12 : News gh L' h12 (((d2, b7.o2) :: (ds, b7.so) :: (li, W.listOf (mws b7.fr).toArray b7.nit) :: (ls, W.listOf b7.tv.toArray b7.nt) :: (c.D, oD) :: (c.x, instObj 158 c.dx) :: (c.dx, sDict w c.k0 c.k1 c.k2 c.k3 c.D rdy np tp nf tf) :: (ndsLed ns ++ (frmsLed fi ++ own))) ++ b7.frs) := by
                  refine news_upd1 N7 hs12 hg12 hit.2.2 hit.2.1 (fun p hp => ?_)
                  simp only [List.cons_append, List.append_assoc] at hp
                  obtain ⟨h, h'⟩ := stl.2 p hp
                  refine .inr ⟨?_, h'⟩
                  simp only [Fst.led, List.cons_append, List.append_assoc] at h
                  exact h
                refine hand_note hfr (Fs.up ok7.su) hx13 F12 N12 ap7 ?_ rfl
                intro h14 frs14 T14 oe14 oT14 SU14 Fs14 F14 N14 H14
                exact hK _ _ ⟨h14, _, e13, T14, oe14, oT14, _, frs14, rfl, rfl, SU14, F14, N14, H14⟩
            · rintro e s9 ⟨h9, tk9, e9, T9, oe9, oT9, vs9, frs9, rfl, rfl, SU9, F9, N9, H9⟩
              refine hand_flight F9 N9 H9 fun h10 oT10 F10 N10 H10 => ?_
              refine hand_caught (T' := "StopIteration") F10 N10 H10 Th PyProof.Rows.Boot.«StopIteration» (by rw [isSubtype_type]; kernel_rfl) (by rw [isSubtype_type]; kernel_rfl) (by rw [isSubtype_type]; kernel_rfl) ?_ (by decide +kernel) (by decide +kernel) (by decide +kernel) (by decide +kernel) (by decide +kernel) (by decide +kernel) (by rfl) (by rfl) (by decide) (by passes_own)
              intro h11 F11 N11
              simp only [List.cons_append, List.append_assoc] at N11
              have eK7 : keysF b7.fr = keysF fi ++ [fl.n.key] := by rw [e7]; simp [keysF]
              have it7 := ok7.it
              rw [eK7] at it7
              obtain ⟨tvi, tl, etv, hvi⟩ := ints_snoc it7
              have em : mws b7.fr = mws fi ++ [Value.ref fl.mw] := by rw [e7]; simp [mws]
              have fullR : ∀ z, ls ≤ z → z ≤ d2 → (∀ p ∈ own, p.1 ≠ z) → ∀ p ∈ (c.D, oD) :: (c.x, instObj 158 c.dx) :: (c.dx, sDict w c.k0 c.k1 c.k2 c.k3 c.D rdy np tp nf tf) :: (ndsLed ns ++ (frmsLed fi ++ (own ++ frs9))), p.1 ≠ z := by
                intro z z1 z2 hz p hp
                have h1 := full b7 ok7 z z1 z2 hz
                simp only [List.mem_cons, List.mem_append] at hp h1
                rcases hp with h | h | h | h | h | h | h
                · exact h1 p (.inl h)
                · exact h1 p (.inr (.inl h))
                · exact h1 p (.inr (.inr (.inl h)))
                · exact h1 p (.inr (.inr (.inr (.inl h))))
                · exact h1 p (.inr (.inr (.inr (.inr (.inl (by rw [e7]; simp only [frmsLed, List.flatMap_append]; exact List.mem_append_left _ h))))))
                · exact hz p h
                · obtain ⟨q, hq, e⟩ := SU9.fwd p h
                  rw [e]; exact h1 q (.inr (.inr (.inr (.inr (.inr (.inl hq))))))
              have w1 : d2 ≠ ls := Nat.ne_of_gt l1
              have w2 : ds ≠ ls := Nat.ne_of_gt (Nat.lt_trans o1 o2')
              have w3 : li ≠ ls := Nat.ne_of_gt o1
              have w4 : ds ≠ d2 := Nat.ne_of_lt o3
              have w5 : li ≠ d2 := Nat.ne_of_lt (Nat.lt_trans o2' o3)
              have w6 : ls ≠ d2 := Nat.ne_of_lt l1
              have w7 : d2 ≠ li := Ne.symm w5
              have w8 : ds ≠ li := Nat.ne_of_gt o2'
              have w9 : ls ≠ li := Nat.ne_of_lt o1
              have fl1 := fullR ls (Nat.le_refl _) (Nat.le_of_lt l1) own1
              have fl2 := fullR d2 (Nat.le_of_lt l1) (Nat.le_refl _) own4
              have fl3 := fullR li (Nat.le_of_lt o1) (Nat.le_of_lt (Nat.lt_trans o2' o3)) own2
              have sz900 : (900 : Nat) ≤ sizeLine := by decide
              k_steps
              unfold Stop
              show wpAny _ _ (call (.builtin "list.pop") [.ref ls]) _ _ _
              refine kl_pop F11 N11 (its := b7.tv.toArray) (p := tvi) (y := .int fl.n.key tl) (by rw [etv]; exact kpa_last _ _) (.tail w1 (.tail w2 (.tail w3 (.head fl1)))) (by rw [List.toList_toArray]; omega) ?_
              intro h15 F15 N15
              refine kob_del F15 N15 (.head (ne_cons w4 (ne_cons w5 (ne_cons w6 fl2)))) ok7.d (intKind_is _ _ _ _) ?_ ?_ ?_
              · rw [valueAt_isSome_eq_any]
                have h1 : fl.n.key ∈ b7.kv2.map (·.1) := by rw [ok7.kk, eK7]; simp
                obtain ⟨q, hq, e⟩ := List.mem_map.mp h1
                exact List.any_eq_true.mpr ⟨q, hq, by simpa using e⟩
              · have h1 : b7.kv2.length = b7.fr.length := by have := congrArg List.length ok7.kk; simpa [keysF] using this
                omega
              intro h16 o16 F16 N16 hd16
              k_steps
              unfold Stop
              show wpAny _ _ (call (.builtin "list.pop") [.ref li]) _ _ _
              refine kl_pop F16 N16 (its := (mws b7.fr).toArray) (p := mws fi) (y := .ref fl.mw) (by rw [em]; exact kpa_last _ _) (.tail w7 (.tail w8 (.head (ne_cons w9 fl3)))) (by rw [List.toList_toArray]; simp only [mws, List.length_map]; omega) ?_
              intro h17 F17 N17
              have ok17 := pop_ok (nt' := b7.nt + 1) (nit' := b7.nit + 1) ok7 e7 hvi hd16 SU9
              have mu17 := pop_mu (ns := ns) (tv' := tvi) (nt' := b7.nt + 1) (nit' := b7.nit + 1) (sn := b7.sn) (so := b7.so) (o := o16) (kv := without b7.kv2 fl.n.key) (frs' := frs9) e7
              have N18 : News gh L' h17 (Fst.led w c oD rdy np tp nf tf ns d2 ds li ls ⟨fi, tvi, b7.nt + 1, b7.nit + 1, b7.so, b7.S, b7.sn, o16, without b7.kv2 fl.n.key, frs9⟩ ++ own) := by
                intro p hp
                refine N17 p ?_
                revert p; walk_at "mine sub"
              have ln17 : fi.length < nn := by rw [← hnn, e7]; simp
              clear N17 N16 N15 N11 F15 F16 F11
              k_steps
              unfold Stop
              exact ⟨fi.length, ln17, _, u7, h17, _, rfl, ok17, Nat.le_trans mu17 hmu7, rfl, F17, N18⟩
        · rintro f s8 (⟨rfl, b8, k8, t8, h8, tk8, rfl, ok8, hn8, hr8, hm8, F8, N8⟩ | ⟨rfl, b8, u8, h8, tk8, rfl, ok8, hf8, F8, N8⟩)
          · k_steps
            unfold Stop
            refine ksw_end (b8, k8, t8) F8 N8 (fun p hp => hp) trivial ?_ ?_ ⟨ok8, hn8, hr8⟩ hm8
            · intro p hp
              simp only [List.mem_singleton] at hp
              subst hp; rfl
            · intro z hz _
              have hz' : z ≠ Str.ofString "node" := hz _ (List.mem_singleton.mpr rfl)
              simp only [if_neg hz']; rfl
          · show wpAny _ _ (execs [] _) _ _ _
            k_steps
            unfold Stop
            refine ⟨b8, _, _, _, _, rfl, F8, N8, fun p hp => List.mem_append_left _ hp, fun p hp => List.mem_append_right _ hp, ?_, (fun p hp => nomatch hp), ?_, ok8.own hf8, hf8⟩
            · intro p hp
              have hq : ∃ q ∈ Fst.led w c oD rdy np tp nf tf ns d2 ds li ls b, q.1 = p.1 := by
                simp only [Fst.led, hf8, frmsLed, List.flatMap_nil, List.nil_append, List.mem_cons, List.mem_append] at hp
                rcases hp with rfl | rfl | rfl | rfl | rfl | rfl | rfl | h | h
                · exact ⟨_, .head _, rfl⟩
                · exact ⟨_, .tail _ (.head _), rfl⟩
                · exact ⟨_, .tail _ (.tail _ (.head _)), rfl⟩
                · exact ⟨_, .tail _ (.tail _ (.tail _ (.head _))), rfl⟩
                · exact ⟨_, .tail _ (.tail _ (.tail _ (.tail _ (.head _)))), rfl⟩
                · exact ⟨_, .tail _ (.tail _ (.tail _ (.tail _ (.tail _ (.head _))))), rfl⟩
                · exact ⟨_, .tail _ (.tail _ (.tail _ (.tail _ (.tail _ (.tail _ (.head _)))))), rfl⟩
                · exact ⟨p, .tail _ (.tail _ (.tail _ (.tail _ (.tail _ (.tail _ (.tail _ (List.mem_append_left _ h))))))), rfl⟩
                · obtain ⟨x, hx, e⟩ := ok8.su.fwd p h
                  obtain ⟨sl, hs⟩ := ok3.su.back x hx
                  exact ⟨_, .tail _ (.tail _ (.tail _ (.tail _ (.tail _ (.tail _ (.tail _ (List.mem_append_right _ (List.mem_append_right _ hs)))))))), e.symm⟩
              obtain ⟨q, hq, e⟩ := hq
              rw [← e]
              exact hnw q hq
            · intro z z1 _ _; simp only [if_neg z1]; rfl
  · rintro b u h9 tk9 ⟨ok9, hfr9⟩ F9 N9
    dsimp only [envOf, Fst.led, cont_nil, kstB, List.cons_append] at F9 N9
    k_steps
    unfold Stop
    have hN : News gh L' h9 (((c.D, oD) :: (c.x, instObj 158 c.dx) :: (c.dx, sDict w c.k0 c.k1 c.k2 c.k3 c.D rdy np tp nf tf) :: ndsLed ns) ++ b.frs) := by
      intro p hp
      refine N9 p ?_
      simp only [List.mem_append, List.mem_cons] at hp ⊢
      rcases hp with (h | h | h | h) | h
      · exact .inr (.inr (.inr (.inr (.inl h))))
      · exact .inr (.inr (.inr (.inr (.inr (.inl h)))))
      · exact .inr (.inr (.inr (.inr (.inr (.inr (.inl h))))))
      · exact .inr (.inr (.inr (.inr (.inr (.inr (.inr (.inl h)))))))
      · exact .inr (.inr (.inr (.inr (.inr (.inr (.inr (.inr (.inr h))))))))
    subst hgh
    obtain ⟨g', KT, F18, N18, B18⟩ := framesIn B1 Fs hgf ok9.su F9 hN hap
    refine ⟨g', _, _, KT, F18, N18, fun h₀' T0 ho B0 Fz Nz hsep => ?_⟩
    exact hQ h₀' _ _ T0 ho B0 Fz Nz

end Mine
end

-- part G11
section
open PySem PySem.W PyProof.Rows PySem.Calls
namespace Mine
theorem off_G11 : True := by
  w_top off
  first | (walk1; done) | trivial
section
variable {prog : Program} {w : World} {A : Around} {s : Shared} {env : Env} {g h₀ : Heap} {L : Addr} {m : Str → Option Value} {news : List (Addr × Obj)} {Q E : Value → Shared → Prop} {e : PySem.Expr} {scope : Scope} {cl : List (Str × Addr)}
theorem compIn_values {v l : Addr} {kvs : List (Int × Value)} (hv : s.heap.IsValuesView v l) (hd : s.heap.DictOf (intKind prog w) l kvs)
    (hh : A.handled = none) (F : Fr h₀ L s.heap m) (N : News h₀ L s.heap news)
    (h : ∀ g D C h₁ tk I St, Walks prog w A I [I, l] [I] kvs.length (fun i v => ∃ k, kvs[i]? = some (k, v)) St → St 0 h₁ → C ≠ l → CIn h₀ news s.heap [I] g D C h₁ →
      codeAny (model prog w) A (.compLoop e 0 (.ref I) (.ref D) (compEnvC scope cl C env)) (CompDone h₀ L m news g C D Q) { s with heap := h₁, toks := tk }) :
    wpAny (model prog w) A (pyIter (.ref v)) (fun it s₂ => CompIn prog w A h₀ L m news e scope cl env Q it s₂) E s := by
  obtain ⟨ep, hat⟩ := hd.dictAt
  obtain ⟨ol, es, hol, _⟩ := id hat
  have hne : l ≠ s.heap.objs.size := Nat.ne_of_lt (Heap.lt_size hol)
  refine wpAny_pyIter_values hv hat ?_
  have W := Walks.dictValues (prog := prog) (w := w) (knd := intKind prog w) hh s.heap.objs.size l hne kvs ep
  refine ⟨_, _, _, _, _, _, rfl, W, ⟨⟨_, Heap.get?_push_size _ rfl, rfl, rfl⟩, hat.at' fun o e => Heap.get?_push_of_some _ e⟩, ?_, ?_, ?_, ?_, F.push _, (fun p hp => ⟨Heap.get?_push_of_some _ (N p hp).1, (N p hp).2⟩), ?_⟩
  · intro b hb
    rw [Heap.size_push]
    rcases List.mem_cons.mp hb with q | q
    · rw [q]; exact Nat.lt_succ_self _
    · rw [List.mem_singleton.mp q]; exact Nat.lt_succ_of_lt (Heap.lt_size hol)
  · intro hm; exact absurd F.ns.lt ((List.mem_singleton.mp hm) ▸ Nat.lt_irrefl _)
  · intro p hp hI; exact absurd (Heap.lt_size (N p hp).1) ((List.mem_singleton.mp hI) ▸ Nat.lt_irrefl _)
  · intro b hb; rw [List.mem_singleton.mp hb]; exact next_is_new F
  · intro g D C h₁ tk hDC hsz hgk hgw Fg Ng hst₁
    rw [Heap.size_push] at hsz
    have hID : s.heap.objs.size < D := hsz
    have all : ∀ b o, s.heap.get? b = some o → g.get? b = some o := fun b o e => hgk b o (Heap.get?_push_of_some _ e) fun hb => absurd (Heap.lt_size e) ((List.mem_singleton.mp hb) ▸ Nat.lt_irrefl _)
    exact h g D C h₁ tk _ _ W hst₁ (Nat.ne_of_gt (Nat.lt_trans (Heap.lt_size hol) (Nat.lt_trans hID hDC))) ⟨Fg, Ng, fun hm => absurd hID ((List.mem_singleton.mp hm) ▸ Nat.lt_irrefl _), fun hm => absurd (Nat.lt_trans hID hDC) ((List.mem_singleton.mp hm) ▸ Nat.lt_irrefl _), hDC, hgw, fun b o e => all b o (F.keep b o e), fun p hp => all _ _ (N p hp).1, all, fun b o e => Nat.lt_trans (Heap.lt_size e) hID⟩
theorem dvalues {w : World} {A : Around} {s : Shared} {Q E : Value → Shared → Prop} {d : Addr} {kvs : List (Int × Value)} (hm : s.heap.DictOf (intKind prog w) d kvs) (lo : (d == sysModules) = false)
    (h : Q (.ref s.heap.objs.size) { s with heap := s.heap.push { cls := .type "dict_values", data := .fields #[.ref d] } }) :
    wpAny (model prog w) A (call (.builtin "dict.values") [.ref d]) Q E s :=
  call_meetsIn PySem.F.slot_dict_values hm.typeIs PySem.F.entry_dict_values (PySem.F.args_dict_values_1 _) (meets_dict_values (intKind prog w) d lo) ⟨⟨_, hm⟩, h⟩
end
end Mine
end

-- part PR
section
open PySem PySem.W PyProof.Rows
namespace Mine
theorem off_PR : True := by
  w_top off
  first | (walk1; done) | trivial
theorem fill_PR : PySem.Challenge.rw_oh0062_01 = PySem.Challenge.rw_oh0062_01 ∧ hd.heap_1 = hd.heap_1 := by k_fill; exact ⟨rfl, rfl⟩
local macro_rules | `(tactic| walk_at "eval ListComp") => `(tactic| refine stopMark ?_)
local macro_rules | `(tactic| walk_at "CompIn") => `(tactic| refine stopMark ?_)
local macro_rules | `(tactic| walk_at "pyIter ref") => `(tactic| ((with_reducible show wpAny _ _ _ (fun it s₂ => CompIn _ _ _ _ _ _ _ _ _ _ _ _ it s₂) _ _); refine stopMark ?_))
local macro_rules | `(tactic| walk_at "pyIter ref") => `(tactic| ((with_reducible show wpAny _ _ _ (fun it' s2 => codeAny _ _ (Code.compStart _ _ it' _ _) _ s2) _ _); refine stopMark ?_))
local macro_rules | `(tactic| walk_at "call builtin:dict.values") => `(tactic| refine stopMark ?_)
local macro_rules | `(tactic| walk_at "getAttr ref") => `(tactic| ((with_reducible show wpAny _ _ (getAttr (Value.ref _) (PySem.Str.ofString "npredecessors") _) _ _ _); refine stopMark ?_))
local macro_rules | `(tactic| walk_at "getAttr ref") => `(tactic| ((with_reducible show wpAny _ _ (getAttr (Value.ref _) (PySem.Str.ofString "node") _) _ _ _); refine stopMark ?_))
local macro_rules | `(tactic| walk_at "LeaveT") => `(tactic| refine stopMark ?_)
section
variable {w : World} {A : Around} {E : Value → Shared → Prop} {s : Shared} {g : Heap} {L : Addr} {m : Str → Option Value} {n : Nd}
theorem ndc_get_np {expr : Bool} {Q : Value → Shared → Prop} (F : Fr g L s.heap m) (X : (hd.heap_1 w.params).In g) (ha : s.heap.get? n.a = some (niObj n.dx n.key n.tk n.np n.tn n.l)) (hx : s.heap.get? n.dx = some (dictOf [] 0)) (h : Q (.int n.np n.tn) { s with toks := s.toks + 1 }) : wpAny (model pw w) A (getAttr (.ref n.a) "npredecessors" expr) Q E s := by
  have I' : InstAt s.heap n.a (niObj n.dx n.key n.tk n.np n.tn n.l) 61 (some (dictOf [] 0)) := ⟨ha, rfl, rfl, hx⟩
  refine get_slot F X I' (by k_is) (by k_is) (by k_is) (by k_is) (by k_is) (by k_is) rfl rfl h
theorem ndc_get_key {expr : Bool} {Q : Value → Shared → Prop} (F : Fr g L s.heap m) (X : (hd.heap_1 w.params).In g) (ha : s.heap.get? n.a = some (niObj n.dx n.key n.tk n.np n.tn n.l)) (hx : s.heap.get? n.dx = some (dictOf [] 0)) (h : Q (.int n.key n.tk) { s with toks := s.toks + 1 }) : wpAny (model pw w) A (getAttr (.ref n.a) "node" expr) Q E s := by
  have I' : InstAt s.heap n.a (niObj n.dx n.key n.tk n.np n.tn n.l) 61 (some (dictOf [] 0)) := ⟨ha, rfl, rfl, hx⟩
  refine get_slot F X I' (by k_is) (by k_is) (by k_is) (by k_is) (by k_is) (by k_is) rfl rfl h
end
theorem Rep.at {ns : List Nd} {P : List Pn} (h : Rep ns P) : ∀ {i : Nat} {k : Int} {v : Value}, (kvsOf ns)[i]? = some (k, v) → ∃ n p, ns[i]? = some n ∧ P[i]? = some p ∧ RepN n p ∧ k = n.key ∧ v = .ref n.a := by
  induction h with
  | nil => intro i k v h; simp [kvsOf] at h
  | @cons n p ns P a r ih =>
    intro i k v h
    cases i with
    | zero =>
      simp only [kvsOf, List.map_cons, List.getElem?_cons_zero, Option.some.injEq, Prod.mk.injEq] at h
      exact ⟨n, p, rfl, rfl, a, h.1.symm, h.2.symm⟩
    | succ i =>
      simp only [kvsOf, List.map_cons, List.getElem?_cons_succ] at h
      exact ih h
theorem prep_call {w : World} {A₀ A : Around} {base h₀ : Heap} {env : Env} {outer : List Env} {L : Addr} {m : Str → Option Value} {rest : List (Addr × Obj)} {mean mg mb} {s : Shared} {Q : Value → Shared → Prop} {E : Value → Shared → Prop} {c : Sc} {oD : Obj} {np nf : Int} {tp tf : Tok} {ns : List Nd} {P : List Pn} {rk : Int → Nat}
    (GB : Gb w base mean mg mb) (G : Gd w A₀ base outer h₀ mean mg mb) (D : KtsDicts (frOf outer) h₀) (C : Cr A env outer L 2) (F : Fr h₀ L s.heap m)
    (N : News h₀ L s.heap (((c.D, oD) :: (c.x, instObj 158 c.dx) :: (c.dx, sDict w c.k0 c.k1 c.k2 c.k3 c.D .none np tp nf tf) :: ndsLed ns) ++ rest))
    (hsep : ∀ p ∈ (c.D, oD) :: (c.x, instObj 158 c.dx) :: (c.dx, sDict w c.k0 c.k1 c.k2 c.k3 c.D .none np tp nf tf) :: ndsLed ns, ∀ q ∈ rest, p.1 ≠ q.1)
    (ok : SOk c ns) (hD : Obj.IsDictOf (intKind pw w) oD (kvsOf ns)) (hR : Rep ns P) (hin : ∀ p ∈ P, ∀ q ∈ p.ss, ∃ n ∈ ns, n.key = q) (hrk : ∀ p ∈ P, ∀ q ∈ p.ss, rk p.key < rk q) (hlen : ns.length ≤ 900) (hvs : ∀ n ∈ ns, n.vs.length ≤ 900)
    (hQ : ∀ h₀' (R : Addr) rv nr h' tk, KtsTurn (frOf outer) h₀ h₀' → (outer = [] → h₀' = h₀) → Below A₀ base outer h₀' → IntsAre rv ((P.filter (fun p => p.np == 0)).map (·.key)) → Fr h₀' L h' m →
      News h₀' L h' (((R, W.listOf rv.toArray nr) :: (c.D, oD) :: (c.x, instObj 158 c.dx) :: (c.dx, sDict w c.k0 c.k1 c.k2 c.k3 c.D (.ref R) np tp nf tf) :: ndsLed ns) ++ rest) →
      (∀ p ∈ (c.D, oD) :: (c.x, instObj 158 c.dx) :: (c.dx, sDict w c.k0 c.k1 c.k2 c.k3 c.D (.ref R) np tp nf tf) :: ndsLed ns, p.1 ≠ R) →
      (∀ p ∈ (R, W.listOf rv.toArray nr) :: (c.D, oD) :: (c.x, instObj 158 c.dx) :: (c.dx, sDict w c.k0 c.k1 c.k2 c.k3 c.D (.ref R) np tp nf tf) :: ndsLed ns, ∀ q ∈ rest, p.1 ≠ q.1) → Q .none { s with heap := h', toks := tk }) :
    wpAny (model pw w) A (call (.ref 113) [.ref c.x]) Q E s := by
  refine wpAny_call (enterT [(("self" : Str), Value.ref c.x)] _ rest G C F N hsep D (by k_is) (by k_is) (BindsTo.of_eq rfl) (locs rfl) rfl rfl rfl (by decide) ?_)
  intro g L' h1 tk1 hg F1 N1 lt1 G1 D1 C1
  have hh := C1.hh
  have hu64 := C1.u64
  have G2 := G1
  obtain ⟨B1, X1, T1⟩ := G1
  clear C G F N
  obtain ⟨d1, d2, d3, ap, nd, lo⟩ := id ok
  ((try first | refine genS (fun Qx gx dx ox hQx => ?_) | refine genQ (fun Qx hQx => ?_)); k_steps)
  unfold Stop
  refine compTop (cl := []) F1 N1 rfl (by decide) rfl (by decide) ?_
  k_steps
  rename News _ _ _ _ => N3
  rename Fr _ _ _ _ => F3
  unfold Stop
  have hDh := (N3 _ (.head _)).1
  refine dvalues (Heap.dictOf_iff.mpr ⟨oD, hDh, hD⟩) lo ?_
  refine compIn_values (l := c.D) (kvs := kvsOf ns) ⟨_, Heap.get?_push_size _ rfl, rfl, rfl⟩ (Heap.dictOf_iff.mpr ⟨oD, Heap.get?_push_of_some _ hDh, hD⟩) hh (F3.push _) (fun p hp => ⟨Heap.get?_push_of_some _ (N3 p hp).1, (N3 p hp).2⟩) ?_
  intro g2 D2 C2 h2 tk2 I St Wk hst hCl K2
  have X2 : (hd.heap_1 w.params).In g2 := X1.keeps K2.old
  have hnd : ∀ n ∈ ns, g2.get? n.a = some (niObj n.dx n.key n.tk n.np n.tn n.l) ∧ g2.get? n.dx = some (dictOf [] 0) := by
    intro n hn
    have h1 : ∀ p ∈ n.led, p ∈ ndsLed ns := fun p hp => List.mem_flatMap.mpr ⟨n, hn, hp⟩
    exact ⟨K2.own (n.a, _) (.tail _ (.tail _ (.tail _ (h1 _ (.tail _ (.head _)))))), K2.own (n.dx, _) (.tail _ (.tail _ (.tail _ (h1 _ (.tail _ (.tail _ (.head _)))))))⟩
  have hCf : C2 ∉ [I, c.D] := by
    intro hm
    rcases List.mem_cons.mp hm with e | e
    · exact K2.cw (by rw [e]; exact .head _)
    · exact hCl (List.mem_singleton.mp e)
  have hDD : c.D ≠ D2 := Nat.ne_of_lt (K2.lt _ _ (Heap.get?_push_of_some _ hDh))
  refine compLoopLed (Q := fun _ _ => True) (fun c : List Value × Nat => [(D2, W.listOf c.1.toArray c.2)]) [] (fun i c => IntsAre c.1 (((P.take i).filter (fun p => p.np == 0)).map (·.key)) ∧ c.1.length ≤ i) ([], 0) (turn1t _ _ _ _ _ _ _ _ _ _) Wk hCf K2.gw ?_ hst K2.F K2.N ?_ rfl rfl ?_ ?_
  · intro p hp; simp only [List.mem_singleton] at hp; subst hp; exact K2.dw
  · exact ⟨.nil, Nat.zero_le _⟩
  · rintro i v ⟨vs, n'⟩ u h tk own hi ⟨k, hk⟩ ⟨hI, hsz⟩ hnw hfp F5 N5
    dsimp only [cont_nil, List.cons_append, List.nil_append, compEnvC] at F5 N5 hI hnw hsz
    obtain ⟨n, p, hn, hp, rp, rfl, rfl⟩ := hR.at hk
    have hoff : ∀ p ∈ own, p.1 ≠ D2 := fun p hp e => by
      rcases List.mem_cons.mp (hfp p hp) with q | q
      · exact hnw _ (.head _) (by rw [← e, q]; exact .head _)
      · exact hDD (by rw [← e, List.mem_singleton.mp q])
    have hszW : vs.length ≤ 1000000 := by have := (List.getElem?_eq_some_iff.mp hn).1; omega
    obtain ⟨ha, hx⟩ := hnd n (List.mem_of_getElem? hn)
    refine body1t ?_
    ((try first | refine genS (fun Qx gx dx ox hQx => ?_) | refine genQ (fun Qx hQx => ?_)); k_steps)
    unfold Stop
    refine ndc_get_np F5 X2 (F5.keep _ _ ha) (F5.keep _ _ hx) ?_
    ((try first | refine genS (fun Qx gx dx ox hQx => ?_) | refine genQ (fun Qx hQx => ?_)); k_steps)
    · unfold Stop
      refine ndc_get_key F5 X2 (F5.keep _ _ ha) (F5.keep _ _ hx) ?_
      ((try first | refine genS (fun Qx gx dx ox hQx => ?_) | refine genQ (fun Qx hQx => ?_)); k_steps)
      rename Fr _ _ _ _ => F'
      rename News _ _ _ _ => N'
      refine TurnEnd.push F' N' (hnw _ (.head _)) ?_ ⟨?_, ?_⟩
      · intro z h1 _; simp only [if_neg h1]
      · show IntsAre (vs ++ [_]) _
        have e1 : (p.np == 0) = true := by rw [← rp.np]; simpa using (by assumption : n.np = 0)
        rw [List.take_add_one, hp, List.filter_append, List.map_append]
        refine hI.append ?_
        simp only [Option.toList, List.filter_cons, e1, if_true, List.filter_nil, List.map_cons, List.map_nil]
        rw [← rp.key]
        exact .cons _ _ .nil
      · simp only [List.length_append, List.length_cons, List.length_nil]; omega
    · rename Fr _ _ _ _ => F'
      rename News _ _ _ _ => N'
      refine TurnEnd.pass F' N' (hnw _ (.head _)) ?_ ⟨?_, ?_⟩
      · intro z h1 _; simp only [if_neg h1]
      · have e1 : (p.np == 0) = false := by rw [← rp.np]; simpa using (by assumption : ¬ n.np = 0)
        rw [List.take_add_one, hp, List.filter_append, List.map_append]
        simp only [Option.toList, List.filter_cons, e1, Bool.false_eq_true, if_false, List.filter_nil, List.map_nil, List.append_nil]
        exact hI
      · dsimp only; omega
  · rintro ⟨vs, n'⟩ u h tk ⟨hI, hsz⟩ F5 N5
    refine ⟨_, _, _, [], F5, N5, fun h' F6 N6 hne => ?_⟩
    simp only [List.nil_append] at N6
    dsimp only at hI hsz
    have hkl : (kvsOf ns).length = ns.length := by simp [kvsOf]
    have hRl := hR.length
    rw [hkl, hRl, List.take_length] at hI
    have hap : ∀ q ∈ (c.D, oD) :: (c.x, instObj 158 c.dx) :: (c.dx, sDict w c.k0 c.k1 c.k2 c.k3 c.D Value.none np tp nf tf) :: ndsLed ns, q.1 ≠ D2 := fun q hq e => hne _ (.head _) q hq e.symm
    have hDx : D2 ≠ c.dx := Ne.symm (hap _ (.tail _ (.tail _ (.head _))))
    have hDd : c.D ≠ c.dx := Ne.symm d3
    have hnx : ∀ p ∈ ndsLed ns, p.1 ≠ c.dx := fun p hp => (ap p hp).2.1
    ((try first | refine genS (fun Qx gx dx ox hQx => ?_) | refine genQ (fun Qx hQx => ?_)); k_steps)
    rename Fr _ _ _ _ => F7
    rename News _ _ _ _ => N7
    refine callWith_K0 (K := hd.heap_1 w.params) (X1.keeps F7.keep) (by k_is) ?_
    show wpAny _ _ (call (.ref 148) [.ref c.x]) _ _ _
    have N8 : News g L' _ (((c.D, oD) :: (c.x, instObj 158 c.dx) :: (c.dx, sDict w c.k0 c.k1 c.k2 c.k3 c.D (.ref D2) np tp nf tf) :: ndsLed ns) ++ [(D2, W.listOf vs.toArray n')]) := fun p hp => N7 p (by
      rcases List.mem_append.mp hp with hp | hp
      · exact .tail _ hp
      · rw [List.mem_singleton.mp hp]; exact .head _)
    have hap2 : ∀ q ∈ (c.D, oD) :: (c.x, instObj 158 c.dx) :: (c.dx, sDict w c.k0 c.k1 c.k2 c.k3 c.D (.ref D2) np tp nf tf) :: ndsLed ns, q.1 ≠ D2 := by
      intro q hq
      rcases List.mem_cons.mp hq with rfl | hq
      · exact hap _ (.head _)
      rcases List.mem_cons.mp hq with rfl | hq
      · exact hap _ (.tail _ (.head _))
      rcases List.mem_cons.mp hq with rfl | hq
      · exact hap (c.dx, sDict w c.k0 c.k1 c.k2 c.k3 c.D .none np tp nf tf) (.tail _ (.tail _ (.head _)))
      · exact hap q (.tail _ (.tail _ (.tail _ hq)))
    refine fc_call (rk := rk) GB G2 D1 C1 F7 N8 (fun p hp q hq => by rw [List.mem_singleton.mp hq]; exact hap2 p hp) ok hD hR hin hrk hlen hvs ?_
    intro g9 h9 tk9 KT9 _ B9 F9 N9
    ((try first | refine genS (fun Qx gx dx ox hQx => ?_) | refine genQ (fun Qx hQx => ?_)); k_steps)
    rename Fr _ _ _ _ => F10
    rename News _ _ _ _ => N10
    unfold Stop
    have N11 : News g9 L' _ ((D2, W.listOf vs.toArray n') :: (c.D, oD) :: (c.x, instObj 158 c.dx) :: (c.dx, sDict w c.k0 c.k1 c.k2 c.k3 c.D (.ref D2) np tp nf tf) :: ndsLed ns) := fun p hp => N10 p (by
      rcases List.mem_cons.mp hp with hp | hp
      · rw [hp]; exact List.mem_append_right (((c.D, oD) :: (c.x, instObj 158 c.dx) :: (c.dx, sDict w c.k0 c.k1 c.k2 c.k3 c.D (.ref D2) np tp nf tf) :: ndsLed ns)) (.head _)
      · exact List.mem_append_left [(D2, W.listOf vs.toArray n')] hp)
    exact ⟨g9, _, _, KT9, F10, N11, fun h₀' T0 ho B0 Fz Nz hsep' => hQ h₀' D2 vs n' _ _ T0 ho B0 hI Fz Nz hap2 hsep'⟩

end Mine
end

-- part G12
section
open PySem PySem.W PyProof.Rows
namespace Mine
theorem off_G12 : True := by
  w_top off
  first | (walk1; done) | trivial
section
variable {w : World} {A₀ A : Around} {base h₀ : Heap} {env : Env} {outer : List Env} {L : Addr} {m : Str → Option Value} {news : List (Addr × Obj)} {mean : ExcName → Option Value} {mg mb : Str → Option Value} {s : Shared} {Q E : Value → Shared → Prop}
  {name qual : Str} {params : Arguments} {body : List Stmt} {scope : Scope} {dV kV doc pm cdv ct oc : Value} {an od : Option Addr} {osl : Array (Option Value)} {f : Addr} {args : Args} {d : Nat}
theorem enterTC (binds : List (Str × Value)) (G : Gd w A₀ base outer h₀ mean mg mb) (C : Cr A env outer L (d + 1)) (F : Fr h₀ L s.heap m) (N : News h₀ L s.heap news) (D : KtsDicts (frOf outer) h₀)
    (ho : (hd.heap_1 w.params).lookup f = some ⟨oc, od, .func (fnX name qual params body scope [] dV kV doc pm an cdv ct), osl⟩) (hcd : codeIn (hd.heap_1 w.params) cdv qual = true)
    (hbind : BindsTo s (fnX name qual params body scope [] dV kV doc pm an cdv ct) args binds) (hkind : (binds.all fun y => scope.names.lookup y.1 == some .local || scope.names.lookup y.1 == some .cell) = true)
    (hnd : ((cellsFrom 0 scope.names []).map (·.1)).Nodup)
    (hco : scope.isCoroutine = false) (hgen : scope.isGenerator = false) (hk : scope.kind = .function)
    (h : ∀ g L' h₁ tk cells, (∀ b o, s.heap.get? b = some o → g.get? b = some o) → Fr g L' h₁ (bindL (envOfC qual scope L' f cdv).kindOf binds fun _ => none) → News g L' h₁ cells → CellsAre (bindC (envOfC qual scope L' f cdv).kindOf binds fun _ => none) (cellsFrom (L' + 1) scope.names []) cells →
      Gd w A base (env :: outer) g mean mg mb → KtsDicts (frOf (env :: outer)) g → Cr (A.deeper (envOfC qual scope L' f cdv)) (envOfC qual scope L' f cdv) (env :: outer) L' d →
      wpAny (model pw w) (A.deeper (envOfC qual scope L' f cdv)) (execs body (envOfC qual scope L' f cdv))
        (fun fl s' => LeaveT A₀ base h₀ env outer L m news g L' Q (match fl with | .ret v => v | _ => .none) s') (fun _ _ => False) { s with heap := h₁, toks := tk }) :
    codeAny (model pw w) A (.call (.ref f) args) (fun r s' => match r with | .ok (.ret v) => Q v s' | .ok _ => False | .error e => E e s') s := by
  obtain ⟨B, X, T⟩ := G
  have Nt : News h₀ L s.heap ([] : List (Addr × Obj)) := News.nil
  obtain ⟨FG, BG, stG, _⟩ := groundX (A := A) (R := fun _ _ => True) B F Nt C.fr C.fl C.ki
  have DG : KtsDicts (frOf (env :: outer)) (hideAll s.heap (([] : List (Addr × Obj)).map fun (p : Addr × Obj) => p.1)) := fun b hb => by
    have ef : frOf (env :: outer) = L :: frOf outer := by simp only [frOf, List.filterMap_cons, C.fl]
    rw [ef] at hb
    rcases List.mem_cons.mp hb with rfl | hb
    · obtain ⟨oL, es, ep, hL, hLd, _⟩ := FG.ns
      exact ⟨oL, es, ep, hL, hLd⟩
    · obtain ⟨o, es, n, ho, hd⟩ := D b hb
      exact ⟨o, es, n, stG _ _ ho, hd⟩
  refine codeAny_call_function (by have := C.dp; omega) ((X.keeps F.keep) _ _ ho) rfl hco hgen rfl (codeRec_of (X.keeps F.keep) hcd) (hbind _ _ _ _ ?_)
  refine wpAny_newFunctionEnv_cells hk (kindsX hkind _) fun env' he s' x => ?_
  subst he
  refine ⟨(T.nolimit.keeps F.keep).keeps x.toInCall.keep, codeAny_func ?_⟩
  obtain ⟨h₁, tk, rfl, _⟩ := x.done
  have hk₁ := x.toInCall.keep
  obtain ⟨cells, NC, Y⟩ := Cl.news (h₀ := s.heap) (Nat.le_refl _) fun n c hm => ⟨x.cell n c (lookup_of_mem_nodup (cellsFrom_names scope.names 0 (s.heap.objs.size + 1) [] [] rfl ▸ hnd) hm), x.above n c hm⟩
  have NC' : News (hideAll s.heap (([] : List (Addr × Obj)).map fun (p : Addr × Obj) => p.1)) s.heap.objs.size h₁ cells := fun p hp => ⟨(NC p hp).1, (NC p hp).2.1, by
    cases z : (hideAll s.heap (([] : List (Addr × Obj)).map fun (p : Addr × Obj) => p.1)).get? p.1 with
    | none => rfl
    | some o => have := of_hideAll _ z; rw [(NC p hp).2.2] at this; cases this⟩
  refine wpAny_mono (h (hideAll s.heap (([] : List (Addr × Obj)).map fun (p : Addr × Obj) => p.1)) s.heap.objs.size h₁ tk cells (fun b o e => hideAll_get _ e (fun hm => nomatch hm)) ⟨x.toInCall.ns, fun b o e => hk₁ b o (of_hideAll _ e), Nat.le_of_eq (hideAll_size _ _)⟩ NC' Y
    ⟨BG, X.keeps stG, T.keeps stG⟩ DG (C.deeper rfl hk)) (fun fl s' q => ?_) fun _ _ q => q.elim
  exact leaveT_back (take := []) B F N (fun p hp => nomatch hp) C.fl q
end
end Mine
end

-- part G13
section
open PySem PySem.W PyProof.Rows PySem.Calls
namespace Mine
theorem off_G13 : True := by
  w_top off
  first | (walk1; done) | trivial
section
variable {M : Model} {A : Around} {E : Value → Shared → Prop} {s : Shared} {env : Env}
theorem MethodCall_star {o : PySem.Expr} {name : Str} {apos pos : Pos} {args : List PySem.Expr} {Q : Value → Shared → Prop}
    (h : wpAny M A (eval o env) (fun ov s₁ => wpAny M A (getAttr ov name true) (fun f s₂ => wpAny M A (callWith pos f [] (PySem.backTo pos (starEach args env)) []) Q E s₂) E s₁) E s)
    (he : eval (.Call (.Attribute o name apos) args [] pos) env = (do
      let ov ← eval o env
      standAt apos.atName
      let fx ← holding [ov] (getAttr ov name true >>= fun v => pure (v, ([] : List Value)))
      callWith pos fx.1 fx.2 (PySem.backTo pos (starEach args env)) []) := by rfl) :
    wpAny M A (eval (.Call (.Attribute o name apos) args [] pos) env) Q E s := by
  rw [he]
  refine wpAny_bind (wpAny_mono h (fun ov s₁ h₁ => wpAny_bind (wpAny_standAt (wpAny_bind (wpAny_holding (wpAny_bind (wpAny_mono h₁ (fun f s₂ h₂ => wpAny_pure ?_) fun _ _ x => x)))))) fun _ _ x => x)
  exact h₂
variable {K : Frag} {h₀ : Heap} {L q g : Addr} {news : List (Addr × Obj)} {self : Value} {e : PySem.Expr} {rest : List PySem.Expr} {pos p : Pos} {first : List Value} {Q : Value → Shared → Prop}
theorem callWith_MS (hf : fnIn K g = true) (h : wpAny M A (spliced (PySem.backTo pos (starEach (e :: rest) env))) (fun vs s₁ => MethP K q g self s₁.heap ∧ wpAny M A (call (.ref q) (first ++ vs)) Q E s₁) E s)
    (he : starEach (e :: rest) env = (false, eval e env) :: starEach rest env := by rfl) (hst : (PySem.backTo pos (starEach rest env)).any (·.1) = true := by rfl) :
    wpAny M A (callWith pos (.ref q) first (PySem.backTo pos (starEach (e :: rest) env)) []) Q E s := by
  rw [he] at h ⊢
  exact ks_call (P := MethP K q g self) (by show (false || (PySem.backTo pos (starEach rest env)).any (·.1)) = true; rw [hst]; rfl) (keeps_M hf) (evalArgs_plain h)
theorem callWith_ML (hf : fnIn K g = true) (h : wpAny M A (eval e env) (fun v s₁ => StarOf M A E v (fun vs s₂ => MethP K q g self s₂.heap ∧ wpAny M A (call (.ref q) (first ++ vs)) Q E s₂) s₁) E s)
    (he : starEach [.Starred e p] env = [(true, eval e env)] := by rfl) :
    wpAny M A (callWith pos (.ref q) first (PySem.backTo pos (starEach [.Starred e p] env)) []) Q E s := by
  rw [he]
  exact ks_call (P := MethP K q g self) rfl (keeps_M hf) (ks_lone h)
end
end Mine
end

-- part RD
section
open PySem PySem.W PyProof.Rows
namespace Mine
theorem off_RD : True := by
  w_top off
  first | (walk1; done) | trivial
/-- marks at which the walk stops -/
noncomputable def Mark : Prop := True
noncomputable def Mark2 : Prop := True
theorem fill_RD : PySem.Challenge.rw_oh0062_01 = PySem.Challenge.rw_oh0062_01 ∧ hd.heap_1 = hd.heap_1 := by k_fill; exact ⟨rfl, rfl⟩
local macro_rules | `(tactic| walk_at "eval ListComp") => `(tactic| refine stopMark ?_)
local macro_rules | `(tactic| walk_at "CompIn") => `(tactic| refine stopMark ?_)
local macro_rules | `(tactic| walk_at "pyIter ref") => `(tactic| ((with_reducible show wpAny _ _ _ (fun it s₂ => CompIn _ _ _ _ _ _ _ _ _ _ _ _ it s₂) _ _); refine stopMark ?_))
local macro_rules | `(tactic| walk_at "pyIter ref") => `(tactic| ((with_reducible show wpAny _ _ _ (fun it' s2 => codeAny _ _ (Code.compStart _ _ it' _ _) _ s2) _ _); refine stopMark ?_))
local macro_rules | `(tactic| walk_at "exec While Call cons nil") => `(tactic| refine stopMark ?_)
local macro_rules | `(tactic| walk_at "LeaveT") => `(tactic| refine stopMark ?_)
local macro_rules | `(tactic| walk_at "StarOf ref") => `(tactic| refine stopMark ?_)
local macro_rules | `(tactic| walk_at "subscriptTail Name UnaryOp ref int") => `(tactic| refine stopMark ?_)
local macro_rules | `(tactic| walk_at "eval Call Attribute") => `(tactic| ((with_reducible rename Mine.Mark2 => hM); clear hM; refine stopMark ?_))
local macro_rules | `(tactic| walk_at "callWith ref") => `(tactic| ((with_reducible rename Mine.Mark => hM); clear hM; refine stopMark ?_))
noncomputable def prF (l : List Int) (a b : Int) (c : Int) : List Int := [c + a, c + b].filter (fun x => decide (x ∈ l))
noncomputable def rdTo (l : List Int) (a b : Int) (P : List Pn) (i : Nat) : List Pn := (l.take i).foldl (fun P c => padd P c (prF l a b c)) P
noncomputable def rdP (off on : List Int) : List Pn := rdTo on (-41) 39 (rdTo off (-39) 41 [] off.length) on.length
noncomputable def rdSt (off on : List Int) : Nat → List Pn × List Int
  | 0 => (rdP off on, ((rdP off on).filter (fun p => p.np == 0)).map (·.key))
  | t + 1 => (rdSt off on t).2.foldl dnode (pout (rdSt off on t).1 (rdSt off on t).2, [])
theorem rdTo_succ {l : List Int} {a b c : Int} {P : List Pn} {i : Nat} (h : l[i]? = some c) : rdTo l a b P (i + 1) = padd (rdTo l a b P i) c (prF l a b c) := by
  unfold rdTo; rw [List.take_add_one, h]; simp
theorem prF_len (l : List Int) (a b c : Int) : (prF l a b c).length ≤ 2 := by
  unfold prF; exact Nat.le_trans (List.length_filter_le _ _) (by first | k_mem | simp)
theorem padd_len (P : List Pn) (k : Int) (ps : List Int) : (padd P k ps).length ≤ P.length + 1 + ps.length := by
  have := paddTo_len P k ps ps.length
  unfold paddTo at this
  rw [List.take_length] at this
  exact this
theorem rdTo_len (l : List Int) (a b : Int) (P : List Pn) (i : Nat) : (rdTo l a b P i).length ≤ P.length + 3 * i := by
  induction i with
  | zero => simp [rdTo]
  | succ i ih =>
    cases h : l[i]? with
    | none =>
      have : rdTo l a b P (i + 1) = rdTo l a b P i := by unfold rdTo; rw [List.take_add_one, h]; simp
      rw [this]; omega
    | some c =>
      rw [rdTo_succ h]
      have h1 := padd_len (rdTo l a b P i) c (prF l a b c)
      have h2 := prF_len l a b c
      omega
structure RSt (w : World) (c : Sc) (cells : List (Addr × Obj)) (B : Nat) (P : List Pn) (b : List Nd × Obj) : Prop where
  R : Rep b.1 P
  D : Obj.IsDictOf (intKind pw w) b.2 (kvsOf b.1)
  ok : SOk c b.1
  B : ∀ n ∈ b.1, n.vs.length ≤ B
  ap : ∀ p ∈ (c.D, b.2) :: (c.x, instObj 158 c.dx) :: (c.dx, dictOf [] 0) :: ndsLed b.1, ∀ q ∈ cells, p.1 ≠ q.1
theorem apS {w : World} {c : Sc} {cells : List (Addr × Obj)} {oD : Obj} {ns : List Nd} {rdy : Value} {np nf : Int} {tp tf : Tok} (h : ∀ p ∈ (c.D, oD) :: (c.x, instObj 158 c.dx) :: (c.dx, dictOf [] 0) :: ndsLed ns, ∀ q ∈ cells, p.1 ≠ q.1) :
    ∀ p ∈ (c.D, oD) :: (c.x, instObj 158 c.dx) :: (c.dx, sDict w c.k0 c.k1 c.k2 c.k3 c.D rdy np tp nf tf) :: ndsLed ns, ∀ q ∈ cells, p.1 ≠ q.1 := by
  intro p hp q hq
  rcases List.mem_cons.mp hp with rfl | hp
  · exact h _ (.head _) q hq
  rcases List.mem_cons.mp hp with rfl | hp
  · exact h _ (.tail _ (.head _)) q hq
  rcases List.mem_cons.mp hp with rfl | hp
  · exact h (c.dx, dictOf [] 0) (.tail _ (.tail _ (.head _))) q hq
  · exact h p (.tail _ (.tail _ (.tail _ hp))) q hq
theorem apR {w : World} {c : Sc} {q : Addr × Obj} {oD : Obj} {ns : List Nd} {rdy : Value} {np nf : Int} {tp tf : Tok} (h : ∀ p ∈ (c.D, oD) :: (c.x, instObj 158 c.dx) :: (c.dx, sDict w c.k0 c.k1 c.k2 c.k3 c.D rdy np tp nf tf) :: ndsLed ns, p.1 ≠ q.1) :
    ∀ p ∈ (c.D, oD) :: (c.x, instObj 158 c.dx) :: (c.dx, dictOf [] 0) :: ndsLed ns, p.1 ≠ q.1 := by
  intro p hp
  rcases List.mem_cons.mp hp with rfl | hp
  · exact h _ (.head _)
  rcases List.mem_cons.mp hp with rfl | hp
  · exact h _ (.tail _ (.head _))
  rcases List.mem_cons.mp hp with rfl | hp
  · exact h (c.dx, sDict w c.k0 c.k1 c.k2 c.k3 c.D rdy np tp nf tf) (.tail _ (.tail _ (.head _)))
  · exact h p (.tail _ (.tail _ (.tail _ hp)))
/-- a list of tuples of ints -/
inductive TT (news : List (Addr × Obj)) : List Value → List (List Int) → Prop
  | nil : TT news [] []
  | cons {a : Addr} {vs : List Value} {ns : List Int} {vl : List Value} {nsl : List (List Int)} : (a, tupObj vs) ∈ news → IntsAre vs ns → TT news vl nsl → TT news (.ref a :: vl) (ns :: nsl)
theorem TT.mono {news news' : List (Addr × Obj)} {vl : List Value} {nsl : List (List Int)} (h : TT news vl nsl) (hs : ∀ p ∈ news, p ∈ news') : TT news' vl nsl := by
  induction h with
  | nil => exact .nil
  | cons hm hi _ ih => exact .cons (hs _ hm) hi ih
theorem TT.snoc {news : List (Addr × Obj)} {vl : List Value} {nsl : List (List Int)} {a : Addr} {vs : List Value} {ns : List Int} (h : TT news vl nsl) (hm : (a, tupObj vs) ∈ news) (hi : IntsAre vs ns) : TT news (vl ++ [.ref a]) (nsl ++ [ns]) := by
  induction h with
  | nil => exact .cons hm hi .nil
  | cons h1 h2 _ ih => exact .cons h1 h2 ih
theorem TT.length {news : List (Addr × Obj)} {vl : List Value} {nsl : List (List Int)} (h : TT news vl nsl) : vl.length = nsl.length := by
  induction h with
  | nil => rfl
  | cons _ _ _ ih => simp [ih]
/-- what the plain part must tell of the rounds -/
structure RH (off on : List Int) (k : Nat) (rk : Int → Nat) : Prop where
  ss : ∀ p ∈ rdP off on, ∀ q ∈ p.ss, ∃ p' ∈ rdP off on, p'.key = q
  rk : ∀ p ∈ rdP off on, ∀ q ∈ p.ss, rk p.key < rk q
  k1 : ∀ t, t < k → (rdSt off on t).2 ≠ []
  k2 : (rdSt off on k).2 = []
  k3 : k ≤ 1000
  len : ∀ t, (rdSt off on t).2.length ≤ 900
  key : ∀ t, ∀ r ∈ (rdSt off on t).2, ∃ p ∈ rdP off on, p.key = r
  hss : ∀ t, t < k → ∀ i c q, (rdSt off on t).2[i]? = some c → q ∈ ssOf (((rdSt off on t).2.take i).foldl dnode (pout (rdSt off on t).1 (rdSt off on t).2, [])).1 c → ∃ p ∈ rdP off on, p.key = q
  hout : ∀ t, t < k → ∀ i c, (rdSt off on t).2[i]? = some c → npOf (((rdSt off on t).2.take i).foldl dnode (pout (rdSt off on t).1 (rdSt off on t).2, [])).1 c = -1
  hsz : ∀ t, t < k → ∀ i, (((rdSt off on t).2.take i).foldl dnode (pout (rdSt off on t).1 (rdSt off on t).2, [])).2.length ≤ 900
theorem Rep.back {ns : List Nd} {P : List Pn} (h : Rep ns P) {p : Pn} (hp : p ∈ P) : ∃ n ∈ ns, RepN n p := by
  induction h with
  | nil => cases hp
  | cons a _ ih =>
    rcases List.mem_cons.mp hp with rfl | hp
    · exact ⟨_, .head _, a⟩
    · obtain ⟨n, hn, r⟩ := ih hp
      exact ⟨n, .tail _ hn, r⟩
theorem Rep.key {ns : List Nd} {P : List Pn} (h : Rep ns P) {q : Int} (hq : ∃ p ∈ P, p.key = q) : ∃ n ∈ ns, n.key = q := by
  obtain ⟨p, hp, e⟩ := hq
  obtain ⟨n, hn, r⟩ := h.back hp
  exact ⟨n, hn, r.key.trans e⟩
structure RW where
  t : Nat
  ns : List Nd
  rv : List Value
  nr : Nat
  np : Int
  tp : Tok
  nf : Int
  tf : Tok
  vr : List Value
  nl : Nat
  objs : List (Addr × Obj)
noncomputable def RW.led (w : World) (c : Sc) (lr R : Addr) (oD : Obj) (b : RW) : List (Addr × Obj) :=
  (lr, W.listOf b.vr.toArray b.nl) :: (R, W.listOf b.rv.toArray b.nr) :: (c.D, oD) :: (c.x, instObj 158 c.dx) :: (c.dx, sDict w c.k0 c.k1 c.k2 c.k3 c.D (.ref R) b.np b.tp b.nf b.tf) :: (ndsLed b.ns ++ b.objs)
structure RW.Ok (off on : List Int) (k : Nat) (ns0 : List Nd) (R : Addr) (c : Sc) (lr : Addr) (b : RW) : Prop where
  tk : b.t ≤ k
  rp : Rep b.ns (rdSt off on b.t).1
  I : IntsAre b.rv (rdSt off on b.t).2
  S : SameN ns0 b.ns
  eq : b.nf = b.np
  T : TT b.objs b.vr ((List.range b.t).map fun t => (rdSt off on t).2)
  ap : ∀ a ∈ R :: c.D :: c.x :: c.dx :: (ndsLed ns0).map (·.1), ∀ q ∈ b.objs, a ≠ q.1
  al : ∀ q ∈ b.objs, q.1 ≠ lr
theorem SameN.trans {a b c : List Nd} (h : SameN a b) (h' : SameN b c) : SameN a c := ⟨h'.kv.trans h.kv, h'.ad.trans h.ad, h'.vs.trans h.vs, h'.ls.trans h.ls⟩
theorem Cr.dn {A : Around} {env : Env} {outer : List Env} {L : Addr} {d : Nat} (C : Cr A env outer L (d + 1)) : Cr A env outer L d := ⟨C.fr, C.fl, C.ki, C.hh, by have := C.dp; omega, by have := C.un; omega⟩
theorem sorter_newC {w : World} {A₀ A : Around} {base h₀ : Heap} {env : Env} {outer : List Env} {L : Addr} {m : Str → Option Value} {news : List (Addr × Obj)} {mean mg mb} {s : Shared} {Q : Value → Shared → Prop} {E : Value → Shared → Prop}
    (G : Gd w A₀ base outer h₀ mean mg mb) (C : Cr A env outer L 2) (F : Fr h₀ L s.heap m) (N : News h₀ L s.heap news)
    (hQ : ∀ (c : Sc) (oD : Obj) tp tf h' tk, Obj.IsDictOf (intKind pw w) oD [] → (c.D == sysModules) = false → c.x ≠ c.dx → c.x ≠ c.D → c.dx ≠ c.D → Fr h₀ L h' m → News h₀ L h' ((c.D, oD) :: (c.x, instObj 158 c.dx) :: (c.dx, sDict w c.k0 c.k1 c.k2 c.k3 c.D .none 0 tp 0 tf) :: news) →
      (∀ p ∈ [(c.D, oD), (c.x, instObj 158 c.dx), (c.dx, sDict w c.k0 c.k1 c.k2 c.k3 c.D .none 0 tp 0 tf)], ∀ q ∈ news, p.1 ≠ q.1) → Q (.ref c.x) { s with heap := h', toks := tk }) :
    wpAny (model pw w) A (call (.ref 158) []) Q E s := sorter_new G C F N fun x dx D oD k0 k1 k2 k3 tp tf h' tk => hQ ⟨x, dx, D, k0, k1, k2, k3⟩ oD tp tf h' tk
theorem rounds_call {w : World} {A₀ A : Around} {base h₀ : Heap} {env : Env} {outer : List Env} {L : Addr} {m : Str → Option Value} {news : List (Addr × Obj)} {mean mg mb} {s : Shared} {Q : Value → Shared → Prop} {E : Value → Shared → Prop}
    {lo ln : Addr} {vo vn : List Value} {off on : List Int} {k : Nat} {rk : Int → Nat}
    (GB : Gb w base mean mg mb) (G : Gd w A₀ base outer h₀ mean mg mb) (D : KtsDicts (frOf outer) h₀) (C : Cr A env outer L 5)
    (F : Fr h₀ L s.heap m) (N : News h₀ L s.heap news) (hlo : s.heap.IsList lo vo.toArray) (hIo : IntsAre vo off) (hln : s.heap.IsList ln vn.toArray) (hIn : IntsAre vn on) (hso : off.length ≤ 100) (hsn : on.length ≤ 100) (H : RH off on k rk)
    (hQ : ∀ h₀' (lr : Addr) (vr : List Value) (nr : Nat) (objs : List (Addr × Obj)) h' tk, KtsTurn (frOf outer) h₀ h₀' → (outer = [] → h₀' = h₀) → Below A₀ base outer h₀' → TT objs vr ((List.range k).map fun t => (rdSt off on t).2) → Fr h₀' L h' m →
      News h₀' L h' ((lr, W.listOf vr.toArray nr) :: (objs ++ news)) → (∀ p ∈ (lr, W.listOf vr.toArray nr) :: objs, ∀ q ∈ news, p.1 ≠ q.1) → Q (.ref lr) { s with heap := h', toks := tk }) :
    wpAny (model pw w) A (call (.ref 186) [.ref lo, .ref ln]) Q E s := by
  refine wpAny_call (enterTC [(("off" : Str), Value.ref lo), ("on", Value.ref ln)] G C F N D (by k_is) (by k_is) (BindsTo.of_eq rfl) rfl (by decide +kernel) rfl rfl rfl ?_)
  intro g L' h1 tk1 cells hg F1 N1 Y1 G1 D1 C1
  have hh := C1.hh
  have hu64 := C1.u64
  have hfr := C.fr
  have G2 := G1
  obtain ⟨B1, X1, T1⟩ := G1
  clear C G F N
  have Y2 := CellsAre.two Y1
  obtain ⟨oc, oc2, rfl, hoc1, hoc2⟩ := Y2
  have c1 : oc.data = .cell (some (.ref ln)) := hoc1
  have c2 : oc2.data = .cell (some (.ref lo)) := hoc2
  clear Y1 hoc1 hoc2
  have glt : ∀ b o, g.get? b = some o → b < L' := fun b o e => Nat.lt_of_lt_of_le (Heap.lt_size e) F1.above
  have F1 : Fr g L' h1 (fun _ => none) := F1
  ((try first | refine genS (fun Qx gx dx ox hQx => ?_) | refine genQ (fun Qx hQx => ?_)); k_steps)
  unfold Stop
  refine sorter_newC G2 C1.dn.dn F1 N1 ?_
  intro c oD tp tf h2 tk2 hi2 lo2 xd xD dD F2 N2 sep2
  have hcell : ∀ q ∈ [(L' + 1 + 1, oc), (L' + 1, oc2)], q.1 ≠ c.D ∧ q.1 ≠ c.x ∧ q.1 ≠ c.dx := fun q hq => ⟨Ne.symm (sep2 _ (.head _) q hq), Ne.symm (sep2 _ (.tail _ (.head _)) q hq), Ne.symm (sep2 _ (.tail _ (.tail _ (.head _))) q hq)⟩
  ((try first | refine genS (fun Qx gx dx ox hQx => ?_) | refine genQ (fun Qx hQx => ?_)); k_steps)
  rename Fr _ _ _ _ => F3
  rename News _ _ _ _ => N3
  unfold Stop
  refine For_invV g rfl rfl ?_
  ((try first | refine genS (fun Qx gx dx ox hQx => ?_) | refine genQ (fun Qx hQx => ?_)); k_steps)
  rename Fr _ _ _ _ => F4
  rename News _ _ _ _ => N4
  unfold Stop
  have hlo1 : g.IsList lo vo.toArray := by
    obtain ⟨o, ho, r⟩ := hlo
    exact ⟨o, hg _ _ ho, r⟩
  have hln1 : g.IsList ln vn.toArray := by
    obtain ⟨o, ho, r⟩ := hln
    exact ⟨o, hg _ _ ho, r⟩
  clear hlo hln hg
  obtain ⟨oo1, hoo1, _⟩ := id hlo1
  have hloL : lo ≠ L' := Nat.ne_of_lt (glt _ _ hoo1)
  obtain ⟨oo2, hoo2, _⟩ := id hln1
  have hlnL : ln ≠ L' := Nat.ne_of_lt (glt _ _ hoo2)
  obtain ⟨P1, hP1d⟩ : ∃ P1, P1 = rdTo off (-39) 41 [] off.length := ⟨_, rfl⟩
  have hP1len : P1.length ≤ 300 := by
    have := rdTo_len off (-39) 41 [] off.length
    rw [hP1d]; simp only [List.length_nil] at this; omega
  have okc : SOk c [] := ⟨xd, xD, dD, fun p hp => (nomatch hp), .nil, lo2⟩
  refine iterListX (σ := List Nd × Obj) (items := vo) (fun b => ((c.D, b.2) :: (c.x, instObj 158 c.dx) :: (c.dx, sDict w c.k0 c.k1 c.k2 c.k3 c.D .none 0 tp 0 tf) :: ndsLed b.1) ++ [(L' + 1 + 1, oc), (L' + 1, oc2)]) (fun _ => []) [] (fun i b => RSt w c [(L' + 1 + 1, oc), (L' + 1, oc2)] (2 * i) (rdTo off (-39) 41 [] i) b) ([], oD)
    ⟨_, F4.keep _ _ hoo1, by assumption⟩ hloL hh F4 (fun p hp => N4 p ?_) (fun p hp => nomatch hp) ⟨.nil, hi2, okc, (fun n hn => nomatch hn), ?_⟩ ?_ ?_
  · simpa [ndsLed] using hp
  · intro p hp q hq
    simp only [ndsLed, List.flatMap_nil, List.mem_cons, List.not_mem_nil, or_false] at hp
    have h1 := hcell q hq
    rcases hp with rfl | rfl | rfl
    · exact Ne.symm h1.1
    · exact Ne.symm h1.2.1
    · exact Ne.symm h1.2.2
  · rintro i v b u h5 tk5 own wr hv ⟨R5, D5, ok5, B5, ap5⟩ hnw hoff hown hwo F5 N5
    dsimp only [envOfC] at F5 N5
    dsimp only [cont_nil, kstB] at F5
    obtain ⟨z, hz⟩ : ∃ z, off[i]? = some z := by
      have h1 : i < vo.length := (List.getElem?_eq_some_iff.mp hv).1
      rw [hIo.length] at h1
      exact ⟨_, List.getElem?_eq_getElem h1⟩
    obtain ⟨ti, hti⟩ := hIo.get i z hz
    rw [hti] at hv
    cases hv
    simp only [List.cons_append, List.append_assoc] at N5
    have mk2 : Mark2 := trivial
    ((try first | refine genS (fun Qx gx dx ox hQx => ?_) | refine genQ (fun Qx hQx => ?_)); k_steps)
    unfold Stop
    refine MethodCall_star ?_
    have mk1 : Mark := trivial
    ((try first | refine genS (fun Qx gx dx ox hQx => ?_) | refine genQ (fun Qx hQx => ?_)); k_steps)
    unfold Stop
    rename_i q6 h6 F6 N6 lq6
    refine callWith_MS (K := hd.heap_1 w.params) (g := 108) (self := .ref c.x) (by k_is) ?_
    ((try first | refine genS (fun Qx gx dx ox hQx => ?_) | refine genQ (fun Qx hQx => ?_)); k_steps)
    unfold Stop
    refine compTop (cl := [(("off" : Str), L' + 1)]) F6 N6 rfl (by decide) rfl (by decide) ?_
    ((try first | refine genS (fun Qx gx dx ox hQx => ?_) | refine genQ (fun Qx hQx => ?_)); k_steps)
    rename_i l7 h7 F7 N7 lq7
    unfold Stop
    refine compIn_list (items := [Value.int (z - 39) _, Value.int (z + 41) _]) ⟨_, (N7 _ (.head _)).1, rfl, _, rfl⟩ hh F7 (fun p hp => N7 p (.tail _ hp)) ?_
    intro g8 D8 C8 h8 tk8 I8 St8 Wk8 hst8 hCl8 K8
    have X8 : (hd.heap_1 w.params).In g8 := X1.keeps K8.old
    have hcell8 : g8.get? (L' + 1) = some oc2 := K8.own (L' + 1, oc2) (by first | k_mem | simp)
    have hlo8 : g8.IsList lo vo.toArray := by
      obtain ⟨o, ho, r⟩ := hlo1
      exact ⟨o, K8.old _ _ ho, r⟩
    have hCf8 : C8 ∉ [I8, l7] := by
      intro hm
      rcases List.mem_cons.mp hm with e | e
      · exact K8.cw (by rw [e]; exact .head _)
      · exact hCl8 (List.mem_singleton.mp e)
    have hlD8 : l7 ≠ D8 := Nat.ne_of_lt (K8.lt _ _ (N7 _ (.head _)).1)
    refine compLoopLed (Q := fun _ _ => True) (fun c : List Value × Nat => [(D8, W.listOf c.1.toArray c.2)]) [] (fun i c => IntsAre c.1 (([z + -39, z + 41].take i).filter (fun x => decide (x ∈ off))) ∧ c.1.length ≤ i) ([], 0) (turn1t _ _ _ _ _ _ _ _ _ _) Wk8 hCf8 K8.gw ?_ hst8 K8.F K8.N ?_ rfl rfl ?_ ?_
    · intro p hp; simp only [List.mem_singleton] at hp; subst hp; exact K8.dw
    · exact ⟨.nil, Nat.zero_le _⟩
    · rintro j v ⟨vs, n'⟩ u h tk own' hj hv ⟨hI, hsz⟩ hnw' hfp' F9 N9
      dsimp only [cont_nil, List.cons_append, List.nil_append, compEnvC] at F9 N9 hI hnw' hsz
      have hoff8 : ∀ p ∈ own', p.1 ≠ D8 := fun p hp e => by
        rcases List.mem_cons.mp (hfp' p hp) with q | q
        · exact hnw' _ (.head _) (by rw [← e, q]; exact .head _)
        · exact hlD8 (by rw [← e, List.mem_singleton.mp q])
      obtain ⟨zz, tz, hzz, rfl⟩ : ∃ zz tz, [z + -39, z + 41][j]? = some zz ∧ v = .int zz tz := by
        match j, hj, hv with
        | 0, _, hv => simp only [List.getElem?_cons_zero, Option.some.injEq] at hv; exact ⟨_, _, rfl, by rw [← hv, Int.sub_eq_add_neg]⟩
        | 1, _, hv => simp only [List.getElem?_cons_succ, List.getElem?_cons_zero, Option.some.injEq] at hv; exact ⟨_, _, rfl, hv.symm⟩
      have hszW : vs.length ≤ 1000000 := by simp only [List.length_cons, List.length_nil] at hj; omega
      refine body1t ?_
      ((try first | refine genS (fun Qx gx dx ox hQx => ?_) | refine genQ (fun Qx hQx => ?_)); k_steps)
      · rename (off.any _) = true => hb9
        rename Fr _ _ _ _ => F10
        rename News _ _ _ _ => N10
        rw [any_beq] at hb9
        refine TurnEnd.push F10 N10 (hnw' _ (.head _)) ?_ ⟨?_, ?_⟩
        · intro y h1 _; simp only [if_neg h1]
        · show IntsAre (vs ++ [_]) _
          rw [List.take_add_one, hzz, List.filter_append]
          refine hI.append ?_
          simp only [Option.toList, List.filter_cons, hb9, if_true, List.filter_nil]
          exact .cons _ _ .nil
        · simp only [List.length_append, List.length_cons, List.length_nil]; omega
      · rename (off.any _) = false => hb9
        rename Fr _ _ _ _ => F10
        rename News _ _ _ _ => N10
        rw [any_beq] at hb9
        refine TurnEnd.pass F10 N10 (hnw' _ (.head _)) ?_ ⟨?_, ?_⟩
        · intro y h1 _; simp only [if_neg h1]
        · rw [List.take_add_one, hzz, List.filter_append]
          simp only [Option.toList, List.filter_cons, hb9, Bool.false_eq_true, if_false, List.filter_nil, List.append_nil]
          exact hI
        · dsimp only; omega
    · rintro ⟨pv, n'⟩ u9 h9 tk9 ⟨hI, hsz⟩ F9 N9
      refine ⟨_, _, _, [], F9, N9, fun h10 F10 N10 hne => ?_⟩
      simp only [List.nil_append] at N10
      have hI : IntsAre pv (prF off (-39) 41 z) := by
        have e2 : [z + -39, z + 41].take [Value.int (z - 39) (tk5 + 1 + 1), Value.int (z + 41) (tk5 + 1 + 1 + 1 + 1)].length = [z + -39, z + 41] := rfl
        dsimp only at hI
        exact hI
      clear N9 F9 N7 F7
      k_steps
      unfold Stop
      have hpl : pv.length ≤ 2 := by rw [hI.length]; exact prF_len _ _ _ _
      refine star_seq F10 N10 (.head _) rfl rfl (.inl rfl) rfl (by rw [List.size_toArray]; exact Nat.le_trans hpl (by decide)) ?_
      intro h11 F11 N11
      ((try first | refine genS (fun Qx gx dx ox hQx => ?_) | refine genQ (fun Qx hQx => ?_)); k_steps)
      unfold Stop
      have N12 : News g L' h11 (((c.D, b.2) :: (c.x, instObj 158 c.dx) :: (c.dx, sDict w c.k0 c.k1 c.k2 c.k3 c.D .none 0 tp 0 tf) :: ndsLed b.1) ++ ((D8, W.listOf pv.toArray n') :: (q6, methodObj (.ref 108) (.ref c.x)) :: (L' + 1 + 1, oc) :: (L' + 1, oc2) :: own)) := by
        intro p hp
        refine N11 p ?_
        revert p; walk_at "mine sub"
      have sepQ : ∀ p ∈ (c.D, b.2) :: (c.x, instObj 158 c.dx) :: (c.dx, sDict w c.k0 c.k1 c.k2 c.k3 c.D .none 0 tp 0 tf) :: ndsLed b.1, p.1 < q6 := by
        intro p hp
        obtain ⟨y1, y2, y3, y4⟩ := lq6
        rcases List.mem_cons.mp hp with h | hp
        · rw [h]; exact y1
        rcases List.mem_cons.mp hp with h | hp
        · rw [h]; exact y2
        rcases List.mem_cons.mp hp with h | hp
        · rw [h]; exact y3
        · exact allLt_mem y4 p (List.mem_append_left _ hp)
      have newp : ∀ p ∈ (c.D, b.2) :: (c.x, instObj 158 c.dx) :: (c.dx, sDict w c.k0 c.k1 c.k2 c.k3 c.D .none 0 tp 0 tf) :: ndsLed b.1, g.get? p.1 = none := fun p hp => (N12 p (List.mem_append_left _ hp)).2.2
      have sep12 : ∀ p ∈ (c.D, b.2) :: (c.x, instObj 158 c.dx) :: (c.dx, sDict w c.k0 c.k1 c.k2 c.k3 c.D .none 0 tp 0 tf) :: ndsLed b.1, ∀ q ∈ (D8, W.listOf pv.toArray n') :: (q6, methodObj (.ref 108) (.ref c.x)) :: (L' + 1 + 1, oc) :: (L' + 1, oc2) :: own, p.1 ≠ q.1 := by
        intro p hp q hq
        rcases List.mem_cons.mp hq with rfl | hq
        · refine Ne.symm (hne _ (.head _) p ?_)
          revert p; walk_at "mine sub"
        rcases List.mem_cons.mp hq with rfl | hq
        · exact Nat.ne_of_lt (sepQ p hp)
        rcases List.mem_cons.mp hq with rfl | hq
        · exact apS ap5 p hp _ (.head _)
        rcases List.mem_cons.mp hq with rfl | hq
        · exact apS ap5 p hp _ (.tail _ (.head _))
        · by_cases e : q.1 = lo
          · intro e'
            have h1 := newp p hp
            rw [e', e, hoo1] at h1; cases h1
          · exact Ne.symm (hoff q hq e p (List.mem_append_left _ hp))
      have hbl : b.1.length ≤ 3 * i := by
        have h1 := rdTo_len off (-39) 41 [] i
        have h2 := R5.length
        simp only [List.length_nil] at h1
        omega
      have hi100 : i < 100 := by have := (List.getElem?_eq_some_iff.mp hz).1; omega
      have hpf := prF_len off (-39) 41 z
      refine call_meth N11 (.tail _ (.head _)) ?_
      rw [List.append_nil]
      refine add_call (B := 2 * i) G2 C1 F11 N12 sep12 ok5 D5 R5 hI (by omega) B5 (by omega) ?_
      intro ns13 oD13 h13 tk13 R13 D13 ok13 B13 F13 N13 sep13
      clear N12 N11 N10 F11 F10
      ((try first | refine genS (fun Qx gx dx ox hQx => ?_) | refine genQ (fun Qx hQx => ?_)); k_steps)
      unfold Stop
      refine ⟨(ns13, oD13), h13, _, _, _, rfl, F13, N13, ?_, ?_, ?_, (fun p hp => nomatch hp), ?_, ⟨?_, D13, ok13, ?_, ?_⟩⟩
      · intro p hp
        revert p; walk_at "mine sub"
      · intro p hp
        exact List.mem_append_right _ (.tail _ (.tail _ (.tail _ (.tail _ hp))))
      · intro p hp hm
        have hp : p ∈ ((c.D, oD13) :: (c.x, instObj 158 c.dx) :: (c.dx, sDict w c.k0 c.k1 c.k2 c.k3 c.D .none 0 tp 0 tf) :: ndsLed ns13) ++ [(L' + 1 + 1, oc), (L' + 1, oc2)] := hp
        rcases List.mem_append.mp hp with hp | hp
        · obtain ⟨o, ho⟩ := hwo _ hm
          exact sep13 p hp _ (.tail _ (.tail _ (.tail _ (.tail _ ho)))) rfl
        · exact hnw p (List.mem_append_right _ hp) hm
      · intro y h1 _ _; simp only [if_neg h1]
      · rw [rdTo_succ hz]; exact R13
      · intro n hn
        have := B13 n hn
        omega
      · intro p hp q hq
        have h1 : ∀ p ∈ (c.D, oD13) :: (c.x, instObj 158 c.dx) :: (c.dx, sDict w c.k0 c.k1 c.k2 c.k3 c.D .none 0 tp 0 tf) :: ndsLed ns13, p.1 ≠ q.1 := by
          intro p hp
          rcases List.mem_cons.mp hq with h | hq
          · rw [h]; exact sep13 p hp (L' + 1 + 1, oc) (.tail _ (.tail _ (.head _)))
          · rw [List.mem_singleton.mp hq]; exact sep13 p hp (L' + 1, oc2) (.tail _ (.tail _ (.tail _ (.head _))))
        exact apR h1 p hp
  · rintro ⟨ns1, oDa⟩ ua ha tka ⟨Ra, Da, oka, Ba, apa⟩ Fa Na
    dsimp only [envOfC] at Fa Na Ra Da oka Ba apa
    clear F4 N4 hcell sep2 hi2 okc
    dsimp only [cont_nil, kstB] at Fa
    rw [hIo.length] at Ra Ba
    have hP1 : rdTo off (-39) 41 [] off.length = P1 := hP1d.symm
    rw [hP1] at Ra
    have Nb : News g L' ha ((L' + 1 + 1, oc) :: (L' + 1, oc2) :: (c.D, oDa) :: (c.x, instObj 158 c.dx) :: (c.dx, sDict w c.k0 c.k1 c.k2 c.k3 c.D .none 0 tp 0 tf) :: ndsLed ns1) := by
      intro p hp
      refine Na p ?_
      revert p; walk_at "mine sub"
    clear Na
    ((try first | refine genS (fun Qx gx dx ox hQx => ?_) | refine genQ (fun Qx hQx => ?_)); k_steps)
    unfold Stop
    refine For_invV g rfl rfl ?_
    ((try first | refine genS (fun Qx gx dx ox hQx => ?_) | refine genQ (fun Qx hQx => ?_)); k_steps)
    rename Fr _ _ _ _ => F4
    rename News _ _ _ _ => N4
    unfold Stop
    refine iterListX (σ := List Nd × Obj) (items := vn) (fun b => ((c.D, b.2) :: (c.x, instObj 158 c.dx) :: (c.dx, sDict w c.k0 c.k1 c.k2 c.k3 c.D .none 0 tp 0 tf) :: ndsLed b.1) ++ [(L' + 1 + 1, oc), (L' + 1, oc2)]) (fun _ => []) [] (fun i b => RSt w c [(L' + 1 + 1, oc), (L' + 1, oc2)] (200 + 2 * i) (rdTo on (-41) 39 P1 i) b) (ns1, oDa)
      ⟨_, F4.keep _ _ hoo2, by assumption⟩ hlnL hh F4 (fun p hp => N4 p ?_) (fun p hp => nomatch hp) ⟨Ra, Da, oka, (fun n hn => Nat.le_trans (Ba n hn) (by omega)), apa⟩ ?_ ?_
    · revert p; walk_at "mine sub"
    · rintro i v b u h5 tk5 own wr hv ⟨R5, D5, ok5, B5, ap5⟩ hnw hoff hown hwo F5 N5
      dsimp only [envOfC] at F5 N5
      dsimp only [cont_nil, kstB] at F5
      obtain ⟨z, hz⟩ : ∃ z, on[i]? = some z := by
        have h1 : i < vn.length := (List.getElem?_eq_some_iff.mp hv).1
        rw [hIn.length] at h1
        exact ⟨_, List.getElem?_eq_getElem h1⟩
      obtain ⟨ti, hti⟩ := hIn.get i z hz
      rw [hti] at hv
      cases hv
      simp only [List.cons_append, List.append_assoc] at N5
      have mk2 : Mark2 := trivial
      ((try first | refine genS (fun Qx gx dx ox hQx => ?_) | refine genQ (fun Qx hQx => ?_)); k_steps)
      unfold Stop
      refine MethodCall_star ?_
      have mk1 : Mark := trivial
      ((try first | refine genS (fun Qx gx dx ox hQx => ?_) | refine genQ (fun Qx hQx => ?_)); k_steps)
      unfold Stop
      rename_i q6 h6 F6 N6 lq6
      refine callWith_MS (K := hd.heap_1 w.params) (g := 108) (self := .ref c.x) (by k_is) ?_
      ((try first | refine genS (fun Qx gx dx ox hQx => ?_) | refine genQ (fun Qx hQx => ?_)); k_steps)
      unfold Stop
      refine compTop (cl := [(("on" : Str), L' + 1 + 1)]) F6 N6 rfl (by decide) rfl (by decide) ?_
      ((try first | refine genS (fun Qx gx dx ox hQx => ?_) | refine genQ (fun Qx hQx => ?_)); k_steps)
      rename_i l7 h7 F7 N7 lq7
      unfold Stop
      refine compIn_list (items := [Value.int (z - 41) _, Value.int (z + 39) _]) ⟨_, (N7 _ (.head _)).1, rfl, _, rfl⟩ hh F7 (fun p hp => N7 p (.tail _ hp)) ?_
      intro g8 D8 C8 h8 tk8 I8 St8 Wk8 hst8 hCl8 K8
      have X8 : (hd.heap_1 w.params).In g8 := X1.keeps K8.old
      have hcell8 : g8.get? (L' + 1 + 1) = some oc := K8.own (L' + 1 + 1, oc) (by first | k_mem | simp)
      have hln8 : g8.IsList ln vn.toArray := by
        obtain ⟨o, ho, r⟩ := hln1
        exact ⟨o, K8.old _ _ ho, r⟩
      have hCf8 : C8 ∉ [I8, l7] := by
        intro hm
        rcases List.mem_cons.mp hm with e | e
        · exact K8.cw (by rw [e]; exact .head _)
        · exact hCl8 (List.mem_singleton.mp e)
      have hlD8 : l7 ≠ D8 := Nat.ne_of_lt (K8.lt _ _ (N7 _ (.head _)).1)
      refine compLoopLed (Q := fun _ _ => True) (fun c : List Value × Nat => [(D8, W.listOf c.1.toArray c.2)]) [] (fun i c => IntsAre c.1 (([z + -41, z + 39].take i).filter (fun x => decide (x ∈ on))) ∧ c.1.length ≤ i) ([], 0) (turn1t _ _ _ _ _ _ _ _ _ _) Wk8 hCf8 K8.gw ?_ hst8 K8.F K8.N ?_ rfl rfl ?_ ?_
      · intro p hp; simp only [List.mem_singleton] at hp; subst hp; exact K8.dw
      · exact ⟨.nil, Nat.zero_le _⟩
      · rintro j v ⟨vs, n'⟩ u h tk own' hj hv ⟨hI, hsz⟩ hnw' hfp' F9 N9
        dsimp only [cont_nil, List.cons_append, List.nil_append, compEnvC] at F9 N9 hI hnw' hsz
        have hoff8 : ∀ p ∈ own', p.1 ≠ D8 := fun p hp e => by
          rcases List.mem_cons.mp (hfp' p hp) with q | q
          · exact hnw' _ (.head _) (by rw [← e, q]; exact .head _)
          · exact hlD8 (by rw [← e, List.mem_singleton.mp q])
        obtain ⟨zz, tz, hzz, rfl⟩ : ∃ zz tz, [z + -41, z + 39][j]? = some zz ∧ v = .int zz tz := by
          match j, hj, hv with
          | 0, _, hv => simp only [List.getElem?_cons_zero, Option.some.injEq] at hv; exact ⟨_, _, rfl, by rw [← hv, Int.sub_eq_add_neg]⟩
          | 1, _, hv => simp only [List.getElem?_cons_succ, List.getElem?_cons_zero, Option.some.injEq] at hv; exact ⟨_, _, rfl, hv.symm⟩
        have hszW : vs.length ≤ 1000000 := by simp only [List.length_cons, List.length_nil] at hj; omega
        refine body1t ?_
        ((try first | refine genS (fun Qx gx dx ox hQx => ?_) | refine genQ (fun Qx hQx => ?_)); k_steps)
        · rename (on.any _) = true => hb9
          rename Fr _ _ _ _ => F10
          rename News _ _ _ _ => N10
          rw [any_beq] at hb9
          refine TurnEnd.push F10 N10 (hnw' _ (.head _)) ?_ ⟨?_, ?_⟩
          · intro y h1 _; simp only [if_neg h1]
          · show IntsAre (vs ++ [_]) _
            rw [List.take_add_one, hzz, List.filter_append]
            refine hI.append ?_
            simp only [Option.toList, List.filter_cons, hb9, if_true, List.filter_nil]
            exact .cons _ _ .nil
          · simp only [List.length_append, List.length_cons, List.length_nil]; omega
        · rename (on.any _) = false => hb9
          rename Fr _ _ _ _ => F10
          rename News _ _ _ _ => N10
          rw [any_beq] at hb9
          refine TurnEnd.pass F10 N10 (hnw' _ (.head _)) ?_ ⟨?_, ?_⟩
          · intro y h1 _; simp only [if_neg h1]
          · rw [List.take_add_one, hzz, List.filter_append]
            simp only [Option.toList, List.filter_cons, hb9, Bool.false_eq_true, if_false, List.filter_nil, List.append_nil]
            exact hI
          · dsimp only; omega
      · rintro ⟨pv, n'⟩ u9 h9 tk9 ⟨hI, hsz⟩ F9 N9
        refine ⟨_, _, _, [], F9, N9, fun h10 F10 N10 hne => ?_⟩
        simp only [List.nil_append] at N10
        have hI : IntsAre pv (prF on (-41) 39 z) := by
          have e2 : [z + -41, z + 39].take [Value.int (z - 41) (tk5 + 1 + 1), Value.int (z + 39) (tk5 + 1 + 1 + 1 + 1)].length = [z + -41, z + 39] := rfl
          dsimp only at hI
          exact hI
        clear N9 F9 N7 F7
        k_steps
        unfold Stop
        have hpl : pv.length ≤ 2 := by rw [hI.length]; exact prF_len _ _ _ _
        refine star_seq F10 N10 (.head _) rfl rfl (.inl rfl) rfl (by rw [List.size_toArray]; exact Nat.le_trans hpl (by decide)) ?_
        intro h11 F11 N11
        ((try first | refine genS (fun Qx gx dx ox hQx => ?_) | refine genQ (fun Qx hQx => ?_)); k_steps)
        unfold Stop
        have N12 : News g L' h11 (((c.D, b.2) :: (c.x, instObj 158 c.dx) :: (c.dx, sDict w c.k0 c.k1 c.k2 c.k3 c.D .none 0 tp 0 tf) :: ndsLed b.1) ++ ((D8, W.listOf pv.toArray n') :: (q6, methodObj (.ref 108) (.ref c.x)) :: (L' + 1 + 1, oc) :: (L' + 1, oc2) :: own)) := by
          intro p hp
          refine N11 p ?_
          revert p; walk_at "mine sub"
        have sepQ : ∀ p ∈ (c.D, b.2) :: (c.x, instObj 158 c.dx) :: (c.dx, sDict w c.k0 c.k1 c.k2 c.k3 c.D .none 0 tp 0 tf) :: ndsLed b.1, p.1 < q6 := by
          intro p hp
          obtain ⟨y1, y2, y3, y4⟩ := lq6
          rcases List.mem_cons.mp hp with h | hp
          · rw [h]; exact y1
          rcases List.mem_cons.mp hp with h | hp
          · rw [h]; exact y2
          rcases List.mem_cons.mp hp with h | hp
          · rw [h]; exact y3
          · exact allLt_mem y4 p (List.mem_append_left _ hp)
        have newp : ∀ p ∈ (c.D, b.2) :: (c.x, instObj 158 c.dx) :: (c.dx, sDict w c.k0 c.k1 c.k2 c.k3 c.D .none 0 tp 0 tf) :: ndsLed b.1, g.get? p.1 = none := fun p hp => (N12 p (List.mem_append_left _ hp)).2.2
        have sep12 : ∀ p ∈ (c.D, b.2) :: (c.x, instObj 158 c.dx) :: (c.dx, sDict w c.k0 c.k1 c.k2 c.k3 c.D .none 0 tp 0 tf) :: ndsLed b.1, ∀ q ∈ (D8, W.listOf pv.toArray n') :: (q6, methodObj (.ref 108) (.ref c.x)) :: (L' + 1 + 1, oc) :: (L' + 1, oc2) :: own, p.1 ≠ q.1 := by
          intro p hp q hq
          rcases List.mem_cons.mp hq with rfl | hq
          · refine Ne.symm (hne _ (.head _) p ?_)
            revert p; walk_at "mine sub"
          rcases List.mem_cons.mp hq with rfl | hq
          · exact Nat.ne_of_lt (sepQ p hp)
          rcases List.mem_cons.mp hq with rfl | hq
          · exact apS ap5 p hp _ (.head _)
          rcases List.mem_cons.mp hq with rfl | hq
          · exact apS ap5 p hp _ (.tail _ (.head _))
          · by_cases e : q.1 = ln
            · intro e'
              have h1 := newp p hp
              rw [e', e, hoo2] at h1; cases h1
            · exact Ne.symm (hoff q hq e p (List.mem_append_left _ hp))
        have hbl : b.1.length ≤ 300 + 3 * i := by
          have h1 := rdTo_len on (-41) 39 P1 i
          have h2 := R5.length
          skip
          omega
        have hi100 : i < 100 := by have := (List.getElem?_eq_some_iff.mp hz).1; omega
        have hpf := prF_len on (-41) 39 z
        refine call_meth N11 (.tail _ (.head _)) ?_
        rw [List.append_nil]
        refine add_call (B := 200 + 2 * i) G2 C1 F11 N12 sep12 ok5 D5 R5 hI (by omega) B5 (by omega) ?_
        intro ns13 oD13 h13 tk13 R13 D13 ok13 B13 F13 N13 sep13
        clear N12 N11 N10 F11 F10
        ((try first | refine genS (fun Qx gx dx ox hQx => ?_) | refine genQ (fun Qx hQx => ?_)); k_steps)
        unfold Stop
        refine ⟨(ns13, oD13), h13, _, _, _, rfl, F13, N13, ?_, ?_, ?_, (fun p hp => nomatch hp), ?_, ⟨?_, D13, ok13, ?_, ?_⟩⟩
        · intro p hp
          revert p; walk_at "mine sub"
        · intro p hp
          exact List.mem_append_right _ (.tail _ (.tail _ (.tail _ (.tail _ hp))))
        · intro p hp hm
          have hp : p ∈ ((c.D, oD13) :: (c.x, instObj 158 c.dx) :: (c.dx, sDict w c.k0 c.k1 c.k2 c.k3 c.D .none 0 tp 0 tf) :: ndsLed ns13) ++ [(L' + 1 + 1, oc), (L' + 1, oc2)] := hp
          rcases List.mem_append.mp hp with hp | hp
          · obtain ⟨o, ho⟩ := hwo _ hm
            exact sep13 p hp _ (.tail _ (.tail _ (.tail _ (.tail _ ho)))) rfl
          · exact hnw p (List.mem_append_right _ hp) hm
        · intro y h1 _ _; simp only [if_neg h1]
        · rw [rdTo_succ hz]; exact R13
        · intro n hn
          have := B13 n hn
          omega
        · intro p hp q hq
          have h1 : ∀ p ∈ (c.D, oD13) :: (c.x, instObj 158 c.dx) :: (c.dx, sDict w c.k0 c.k1 c.k2 c.k3 c.D .none 0 tp 0 tf) :: ndsLed ns13, p.1 ≠ q.1 := by
            intro p hp
            rcases List.mem_cons.mp hq with h | hq
            · rw [h]; exact sep13 p hp (L' + 1 + 1, oc) (.tail _ (.tail _ (.head _)))
            · rw [List.mem_singleton.mp hq]; exact sep13 p hp (L' + 1, oc2) (.tail _ (.tail _ (.tail _ (.head _))))
          exact apR h1 p hp
    · rintro ⟨ns2, oDb⟩ ub hb2 tkb ⟨Rb, Db, okb, Bb, apb⟩ Fb Nb2
      dsimp only [envOfC] at Fb Nb2 Rb Db okb Bb apb
      clear F4 N4
      dsimp only [cont_nil, kstB] at Fb
      rw [hIn.length] at Rb Bb
      rw [hP1d] at Rb
      have Rb : Rep ns2 (rdP off on) := Rb
      ((try first | refine genS (fun Qx gx dx ox hQx => ?_) | refine genQ (fun Qx hQx => ?_)); k_steps)
      unfold Stop
      show wpAny _ _ (call (.ref 113) [.ref c.x]) _ _ _
      have hlen2 : ns2.length ≤ 900 := by
        have h1 := rdTo_len on (-41) 39 P1 on.length
        have h2 := Rb.length
        unfold rdP at h2
        rw [← hP1d] at h2
        omega
      refine prep_call (rk := rk) GB G2 D1 (C1.dn.dn) Fb Nb2 (fun p hp q hq => apS apb p hp q hq) okb Db Rb (fun p hp q hq => Rb.key (H.ss p hp q hq)) H.rk hlen2 (fun n hn => Nat.le_trans (Bb n hn) (by omega)) ?_
      intro g2 R rv nr h3 tk3 KT3 _ B3 hI3 F3 N3 hR3 sep3
      have X3 : (hd.heap_1 w.params).In g2 := GB.X.keeps B3.stays
      have T3 : Top hd.view_1 [Str.ofString "_NodeInfo", Str.ofString "TopologicalSorter"] mean mg mb g2 := GB.T.keeps B3.stays
      have G3 : Gd w A base (env :: outer) g2 mean mg mb := ⟨B3, X3, T3⟩
      have hvs2 : ∀ n ∈ ns2, n.vs.length ≤ 900 := fun n hn => Nat.le_trans (Bb n hn) (by omega)
      have glt2 : ∀ p ∈ (R, W.listOf rv.toArray nr) :: (c.D, oDb) :: (c.x, instObj 158 c.dx) :: (c.dx, sDict w c.k0 c.k1 c.k2 c.k3 c.D (.ref R) 0 tp 0 tf) :: ndsLed ns2, p ∈ ((R, W.listOf rv.toArray nr) :: (c.D, oDb) :: (c.x, instObj 158 c.dx) :: (c.dx, sDict w c.k0 c.k1 c.k2 c.k3 c.D (.ref R) 0 tp 0 tf) :: ndsLed ns2) ++ [(L' + 1 + 1, oc), (L' + 1, oc2)] := fun p hp => List.mem_append_left _ hp
      have N4 : News g2 L' h3 ((R, W.listOf rv.toArray nr) :: (c.D, oDb) :: (c.x, instObj 158 c.dx) :: (c.dx, sDict w c.k0 c.k1 c.k2 c.k3 c.D (.ref R) 0 tp 0 tf) :: ndsLed ns2) := fun p hp => N3 p (glt2 p hp)
      clear N3 glt2 Nb2 Fb G2 B1 X1 T1 D1 glt hln1 hlo1
      have hd1 := okb.d1
      have hd2 := okb.d2
      have hd3 := okb.d3
      ((try first | refine genS (fun Qx gx dx ox hQx => ?_) | refine genQ (fun Qx hQx => ?_)); k_steps)
      rename_i lr _ lq h4 F5 N5
      unfold Stop
      have hlr : ∀ a ∈ R :: c.D :: c.x :: c.dx :: (ndsLed ns2).map (·.1), a ≠ lr := by
        obtain ⟨y1, y2, y3, y4, y5⟩ := lq
        intro a ha
        simp only [List.mem_cons] at ha
        rcases ha with rfl | rfl | rfl | rfl | ha
        · exact Nat.ne_of_lt y1
        · exact Nat.ne_of_lt y2
        · exact Nat.ne_of_lt y3
        · exact Nat.ne_of_lt y4
        · obtain ⟨p, hp, rfl⟩ := List.mem_map.mp ha
          exact Nat.ne_of_lt (allLt_mem y5 p hp)
      have hRa : ∀ a ∈ c.D :: c.x :: c.dx :: (ndsLed ns2).map (·.1), a ≠ R := by
        intro a ha
        simp only [List.mem_cons] at ha
        rcases ha with rfl | rfl | rfl | ha
        · exact hR3 _ (.head _)
        · exact hR3 _ (.tail _ (.head _))
        · exact hR3 (c.dx, sDict w c.k0 c.k1 c.k2 c.k3 c.D (.ref R) 0 tp 0 tf) (.tail _ (.tail _ (.head _)))
        · obtain ⟨p, hp, rfl⟩ := List.mem_map.mp ha
          exact hR3 p (.tail _ (.tail _ (.tail _ hp)))
      clear hR3
      refine ksw_while (RW.led w c lr R oDb) (fun _ => []) (fun _ => True) [] (RW.Ok off on k ns2 R c lr) (fun b => k - b.t) ⟨0, ns2, rv, nr, 0, tp, 0, tf, [], 0, []⟩ F5 (fun p hp => N5 p (by simpa [RW.led] using hp)) trivial (fun p hp => nomatch hp)
        ⟨Nat.zero_le _, Rb, hI3, SameN.refl _, rfl, .nil, (fun a ha q hq => nomatch hq), (fun q hq => nomatch hq)⟩ ?_ (.never)
      clear F5 N5
      rintro ⟨t, ns, rv, nr, np, tp, nf, tf, vr, nl, objs⟩ u h5 tk5 _ ⟨kt, kR, kI, kS, keq, kT, kap, kal⟩ F6 N6
      dsimp only [RW.led] at F6 N6 kt kR kI kS keq kT kap kal
      dsimp only [cont_nil, kstB] at F6
      have okt : SOk c ns := kS.ok okb
      have hSA : ∀ p ∈ ndsLed ns, p.1 ∈ (ndsLed ns2).map (·.1) := fun p hp => by rw [← kS.ad]; exact List.mem_map_of_mem hp
      ((try first | refine genS (fun Qx gx dx ox hQx => ?_) | refine genQ (fun Qx hQx => ?_)); k_steps)
      unfold Stop
      show wpAny _ _ (call (.ref 127) [.ref c.x]) _ _ _
      have hrl : rv.length ≤ 900 := by rw [kI.length]; exact H.len t
      have sepA : ∀ a ∈ [R, c.x, c.dx], ∀ q ∈ (lr, W.listOf vr.toArray nl) :: (c.D, oDb) :: (ndsLed ns ++ objs), a ≠ q.1 := by
        intro a ha q hq
        have ha' : a ∈ R :: c.D :: c.x :: c.dx :: (ndsLed ns2).map (·.1) := by
          simp only [List.mem_cons, List.not_mem_nil, or_false] at ha ⊢
          rcases ha with h | h | h
          · exact .inl h
          · exact .inr (.inr (.inl h))
          · exact .inr (.inr (.inr (.inl h)))
        rcases List.mem_cons.mp hq with rfl | hq
        · exact hlr a ha'
        rcases List.mem_cons.mp hq with rfl | hq
        · simp only [List.mem_cons, List.not_mem_nil, or_false] at ha
          rcases ha with rfl | rfl | rfl
          · exact Ne.symm (hRa _ (.head _))
          · exact hd2
          · exact hd3
        rcases List.mem_append.mp hq with hq | hq
        · simp only [List.mem_cons, List.not_mem_nil, or_false] at ha
          rcases ha with rfl | rfl | rfl
          · exact Ne.symm (hRa _ (.tail _ (.tail _ (.tail _ (hSA q hq)))))
          · exact Ne.symm (okt.ap q hq).1
          · exact Ne.symm (okt.ap q hq).2.1
        · exact kap a ha' q hq
      have N7 : News g2 L' h5 (((R, W.listOf rv.toArray nr) :: (c.x, instObj 158 c.dx) :: (c.dx, sDict w c.k0 c.k1 c.k2 c.k3 c.D (.ref R) np tp nf tf) :: []) ++ ((lr, W.listOf vr.toArray nl) :: (c.D, oDb) :: (ndsLed ns ++ objs))) := by
        intro p hp
        refine N6 p ?_
        revert p; walk_at "mine sub"
      refine active_call G3 C1.dn.dn F6 N7 (fun p hp q hq => sepA p.1 (by
        simp only [List.mem_cons, List.not_mem_nil, or_false] at hp ⊢
        rcases hp with rfl | rfl | rfl
        · exact .inl rfl
        · exact .inr (.inl rfl)
        · exact .inr (.inr rfl)) q hq) hrl keq ?_
      intro h8 tk8 F8 N8
      have N9 : News g2 L' h8 ((lr, W.listOf vr.toArray nl) :: (R, W.listOf rv.toArray nr) :: (c.D, oDb) :: (c.x, instObj 158 c.dx) :: (c.dx, sDict w c.k0 c.k1 c.k2 c.k3 c.D (.ref R) np tp nf tf) :: (ndsLed ns ++ objs)) := by
        intro p hp
        refine N8 p ?_
        revert p; walk_at "mine sub"
      clear N8 N7 N6 F6 sepA
      by_cases hrs : (rdSt off on t).2 = []
      · have htk : t = k := by
          rcases Nat.lt_or_ge t k with h | h
          · exact absurd hrs (H.k1 t h)
          · omega
        have erv : rv = [] := List.length_eq_zero_iff.mp (by rw [kI.length, hrs]; rfl)
        have eb : (!rv.isEmpty) = false := by rw [erv]; rfl
        rw [eb]
        ((try first | refine genS (fun Qx gx dx ox hQx => ?_) | refine genQ (fun Qx hQx => ?_)); k_steps)
        unfold Stop
        subst htk
        exact ⟨g2, _, (lr, W.listOf vr.toArray nl) :: objs, KT3, F8, fun p hp => N9 p (by
          rcases List.mem_cons.mp hp with h | h
          · rw [h]; exact .head _
          · exact .tail _ (.tail _ (.tail _ (.tail _ (.tail _ (List.mem_append_right _ h)))))), fun h₀' T0 ho B0 Fz Nz hz => hQ h₀' lr vr nl objs _ _ T0 ho B0 kT Fz Nz hz⟩
      · have htk : t < k := by
          rcases Nat.lt_or_ge t k with h | h
          · exact h
          · exact absurd (by rw [show t = k by omega]; exact H.k2) hrs
        have eb : (!rv.isEmpty) = true := by
          cases rv with
          | nil => exact absurd (List.length_eq_zero_iff.mp (by rw [← kI.length]; rfl)) hrs
          | cons _ _ => rfl
        rw [eb]
        ((try first | refine genS (fun Qx gx dx ox hQx => ?_) | refine genQ (fun Qx hQx => ?_)); k_steps)
        unfold Stop
        show wpAny _ _ (call (.ref 120) [.ref c.x]) _ _ _
        have N10 : News g2 L' h8 (((R, W.listOf rv.toArray nr) :: (c.D, oDb) :: (c.x, instObj 158 c.dx) :: (c.dx, sDict w c.k0 c.k1 c.k2 c.k3 c.D (.ref R) np tp nf tf) :: ndsLed ns) ++ ((lr, W.listOf vr.toArray nl) :: objs)) := by
          intro p hp
          refine N9 p ?_
          revert p; walk_at "mine sub"
        clear N9
        have mSA : ∀ (rvv : List Value) (nrr : Nat) (npp : Int) (tpp : Tok) (nff : Int) (tff : Tok) (nss : List Nd), SameN ns2 nss → ∀ p ∈ (R, W.listOf rvv.toArray nrr) :: (c.D, oDb) :: (c.x, instObj 158 c.dx) :: (c.dx, sDict w c.k0 c.k1 c.k2 c.k3 c.D (.ref R) npp tpp nff tff) :: ndsLed nss, p.1 ∈ R :: c.D :: c.x :: c.dx :: (ndsLed ns2).map (·.1) := by
          intro rvv nrr npp tpp nff tff nss hS p hp
          simp only [List.mem_cons] at hp ⊢
          rcases hp with rfl | rfl | rfl | rfl | hp
          · exact .inl rfl
          · exact .inr (.inl rfl)
          · exact .inr (.inr (.inl rfl))
          · exact .inr (.inr (.inr (.inl rfl)))
          · exact .inr (.inr (.inr (.inr (by rw [← hS.ad]; exact List.mem_map_of_mem hp))))
        have mRa : ∀ (npp : Int) (tpp : Tok) (nff : Int) (tff : Tok) (nss : List Nd), SameN ns2 nss → ∀ p ∈ (c.D, oDb) :: (c.x, instObj 158 c.dx) :: (c.dx, sDict w c.k0 c.k1 c.k2 c.k3 c.D (.ref R) npp tpp nff tff) :: ndsLed nss, p.1 ≠ R := by
          intro npp tpp nff tff nss hS p hp
          refine hRa p.1 ?_
          simp only [List.mem_cons] at hp ⊢
          rcases hp with rfl | rfl | rfl | hp
          · exact .inl rfl
          · exact .inr (.inl rfl)
          · exact .inr (.inr (.inl rfl))
          · exact .inr (.inr (.inr (by rw [← hS.ad]; exact List.mem_map_of_mem hp)))
        have sepB : ∀ a ∈ R :: c.D :: c.x :: c.dx :: (ndsLed ns2).map (·.1), ∀ q ∈ (lr, W.listOf vr.toArray nl) :: objs, a ≠ q.1 := by
          intro a ha q hq
          rcases List.mem_cons.mp hq with rfl | hq
          · exact hlr a ha
          · exact kap a ha q hq
        have Dt : Obj.IsDictOf (intKind pw w) oDb (kvsOf ns) := by rw [kS.kv]; exact Db
        have node2 : ∀ q, (∃ p ∈ rdP off on, p.key = q) → ∃ n ∈ ns, n.key = q := fun q hq => kS.node (Rb.key hq)
        refine getready_call G3 C1.dn.dn F8 N10 (fun p hp q hq => sepB p.1 (mSA _ _ _ _ _ _ _ kS p hp) q hq) okt (mRa _ _ _ _ _ kS) Dt kR kI (H.len t) (fun r hr => node2 r (H.key t r hr)) hrs ?_
        intro nsA Tt nrA tpA h11 tk11 RA SA F11 N11 sep11 hT11
        have SA2 : SameN ns2 nsA := kS.trans SA
        have N12 : News g2 L' h11 ((lr, W.listOf vr.toArray nl) :: (Tt, tupObj rv) :: (R, W.listOf #[] nrA) :: (c.D, oDb) :: (c.x, instObj 158 c.dx) :: (c.dx, sDict w c.k0 c.k1 c.k2 c.k3 c.D (.ref R) (np + (rdSt off on t).2.length) tpA nf tf) :: (ndsLed nsA ++ objs)) := by
          intro p hp
          refine N11 p ?_
          revert p; walk_at "mine sub"
        have Tlr : Tt ≠ lr := sep11 _ (.head _) _ (.head _)
        have apl : ∀ p ∈ (Tt, tupObj rv) :: (R, W.listOf #[] nrA) :: (c.D, oDb) :: (c.x, instObj 158 c.dx) :: (c.dx, sDict w c.k0 c.k1 c.k2 c.k3 c.D (.ref R) (np + (rdSt off on t).2.length) tpA nf tf) :: (ndsLed nsA ++ objs), p.1 ≠ lr := by
          intro p hp
          rcases List.mem_cons.mp hp with rfl | hp
          · exact Tlr
          rcases List.mem_append.mp (show p ∈ ((R, W.listOf (List.toArray []) nrA) :: (c.D, oDb) :: (c.x, instObj 158 c.dx) :: (c.dx, sDict w c.k0 c.k1 c.k2 c.k3 c.D (.ref R) (np + (rdSt off on t).2.length) tpA nf tf) :: ndsLed nsA) ++ objs from hp) with hp | hp
          · exact hlr p.1 (mSA [] _ _ _ _ _ _ SA2 p hp)
          · exact kal p hp
        have vrl : vr.length ≤ 1000 := by
          have h1 := kT.length
          have h2 := H.k3
          simp only [List.length_map, List.length_range] at h1
          omega
        clear N11 N10 F8
        have mk2 : Mark2 := trivial
        k_steps
        unfold Stop
        rename Fr _ _ _ _ => F13
        rename News _ _ _ _ => N13
        refine MethodCall_star ?_
        have mk1 : Mark := trivial
        ((try first | refine genS (fun Qx gx dx ox hQx => ?_) | refine genQ (fun Qx hQx => ?_)); k_steps)
        unfold Stop
        rename_i q14 h14 F14 N14 lq14
        refine callWith_ML (K := hd.heap_1 w.params) (g := 141) (self := .ref c.x) (by k_is) ?_
        ((try first | refine genS (fun Qx gx dx ox hQx => ?_) | refine genQ (fun Qx hQx => ?_)); k_steps)
        unfold Stop
        refine PyProof.Rows.item_last (vi := vr) (v := .ref Tt) ⟨_, (N14 _ (.tail _ (.head _))).1, rfl, nl + 1, by simp⟩ ?_
        ((try first | refine genS (fun Qx gx dx ox hQx => ?_) | refine genQ (fun Qx hQx => ?_)); k_steps)
        unfold Stop
        refine star_seq F14 N14 (.tail _ (.tail _ (.head _))) rfl rfl (.inr rfl) rfl (by rw [List.size_toArray]; exact Nat.le_trans hrl (by decide)) ?_
        intro h15 F15 N15
        ((try first | refine genS (fun Qx gx dx ox hQx => ?_) | refine genQ (fun Qx hQx => ?_)); k_steps)
        unfold Stop
        show wpAny _ _ (call (.ref q14) rv) _ _ _
        refine call_meth N15 (.head _) ?_
        have N16 : News g2 L' h15 (((R, W.listOf (List.toArray []) nrA) :: (c.D, oDb) :: (c.x, instObj 158 c.dx) :: (c.dx, sDict w c.k0 c.k1 c.k2 c.k3 c.D (.ref R) (np + (rdSt off on t).2.length) tpA nf tf) :: ndsLed nsA) ++ ((q14, methodObj (.ref 141) (.ref c.x)) :: (lr, W.listOf (vr.toArray.push (Value.ref Tt)) (nl + 1)) :: (Tt, tupObj rv) :: objs)) := by
          intro p hp
          refine N15 p ?_
          revert p; walk_at "mine sub"
        have sep16 : ∀ p ∈ (R, W.listOf (List.toArray []) nrA) :: (c.D, oDb) :: (c.x, instObj 158 c.dx) :: (c.dx, sDict w c.k0 c.k1 c.k2 c.k3 c.D (.ref R) (np + (rdSt off on t).2.length) tpA nf tf) :: ndsLed nsA, ∀ q ∈ (q14, methodObj (.ref 141) (.ref c.x)) :: (lr, W.listOf (vr.toArray.push (Value.ref Tt)) (nl + 1)) :: (Tt, tupObj rv) :: objs, p.1 ≠ q.1 := by
          intro p hp q hq
          rcases List.mem_cons.mp hq with rfl | hq
          · obtain ⟨_, _, y1, y2, y3, y4, y5⟩ := lq14
            rcases List.mem_cons.mp hp with rfl | hp
            · exact Nat.ne_of_lt y1
            rcases List.mem_cons.mp hp with rfl | hp
            · exact Nat.ne_of_lt y2
            rcases List.mem_cons.mp hp with rfl | hp
            · exact Nat.ne_of_lt y3
            rcases List.mem_cons.mp hp with rfl | hp
            · exact Nat.ne_of_lt y4
            · exact Nat.ne_of_lt (allLt_mem y5 p (List.mem_append_left _ hp))
          rcases List.mem_cons.mp hq with rfl | hq
          · exact hlr p.1 (mSA _ _ _ _ _ _ _ SA2 p hp)
          rcases List.mem_cons.mp hq with rfl | hq
          · exact hT11 p hp
          · exact kap p.1 (mSA _ _ _ _ _ _ _ SA2 p hp) q hq
        have okA : SOk c nsA := SA2.ok okb
        have DA : Obj.IsDictOf (intKind pw w) oDb (kvsOf nsA) := by rw [SA2.kv]; exact Db
        have hvsA : ∀ n ∈ nsA, n.vs.length ≤ 900 := by
          intro n hn
          have h1 : n.vs ∈ nsA.map (·.vs) := List.mem_map_of_mem hn
          rw [SA2.vs] at h1
          obtain ⟨n', hn', e⟩ := List.mem_map.mp h1
          rw [← e]; exact hvs2 n' hn'
        have nodeA : ∀ q, (∃ p ∈ rdP off on, p.key = q) → ∃ n ∈ nsA, n.key = q := fun q hq => SA2.node (Rb.key hq)
        refine done_call (rv := []) (rs := []) (kv := rv) (B := 900) G3 C1.dn.dn F15 N16 sep16 okA (mRa _ _ _ _ _ SA2) DA RA .nil kI (H.len t) hvsA (fun q hq => nodeA q (H.key t q hq)) (fun i z q h1 h2 => nodeA q (H.hss t htk i z q h1 h2)) (H.hout t htk) (H.hsz t htk) (Nat.le_refl _) ?_
        intro nsB rvB nrB tfB h17 tk17 RB SB IB F17 N17 sep17
        have SB2 : SameN ns2 nsB := SA2.trans SB
        clear N16 N15 N14 F15 F14
        k_steps
        unfold Stop
        have epush : W.listOf (vr.toArray.push (Value.ref Tt)) (nl + 1) = W.listOf (vr ++ [Value.ref Tt]).toArray (nl + 1) := by congr 1; simp
        rw [epush] at N17
        refine ksw_end (⟨t + 1, nsB, rvB, nrB, np + (rdSt off on t).2.length, tpA, nf + (rdSt off on t).2.length, tfB, vr ++ [.ref Tt], nl + 1, (Tt, tupObj rv) :: objs⟩ : RW) F17 N17 ?_ trivial (fun p hp => nomatch hp) ?_ ⟨htk, RB, IB, SB2, by show nf + _ = np + _; rw [keq], ?_, ?_, ?_⟩ (by show k - (t + 1) < k - t; omega)
        · intro p hp
          revert p; walk_at "mine sub"
        · intro y _ _; rfl
        · show TT ((Tt, tupObj rv) :: objs) (vr ++ [.ref Tt]) _
          rw [List.range_succ, List.map_append]
          exact (kT.mono fun p hp => .tail _ hp).snoc (.head _) kI
        · intro a ha q hq
          rcases List.mem_cons.mp hq with rfl | hq
          · simp only [List.mem_cons] at ha
            rcases ha with rfl | rfl | rfl | rfl | ha
            · exact hT11 _ (.head _)
            · exact hT11 _ (.tail _ (.head _))
            · exact hT11 _ (.tail _ (.tail _ (.head _)))
            · exact hT11 (c.dx, sDict w c.k0 c.k1 c.k2 c.k3 c.D (.ref R) (np + (rdSt off on t).2.length) tpA nf tf) (.tail _ (.tail _ (.tail _ (.head _))))
            · rw [← SA2.ad] at ha
              obtain ⟨p, hp, rfl⟩ := List.mem_map.mp ha
              exact hT11 p (.tail _ (.tail _ (.tail _ (.tail _ hp))))
          · exact kap a ha q hq
        · intro q hq
          rcases List.mem_cons.mp hq with rfl | hq
          · exact Tlr
          · exact kal q hq

end Mine
end

-- part G14
section
open PySem PySem.W PyProof.Rows
namespace Mine
theorem off_G14 : True := by
  w_top off
  first | (walk1; done) | trivial
section
variable {w : World} {A₀ : Around} {base : Heap} {mean : ExcName → Option Value} {mg mb : Str → Option Value} {s : Shared} {Q E : Value → Shared → Prop}
  {name qual : Str} {params : Arguments} {body : List Stmt} {scope : Scope} {dV kV doc pm cdv ct oc : Value} {an od : Option Addr} {osl : Array (Option Value)} {f : Addr} {args : Args} {d : Nat}
theorem enterLaw (binds : List (Str × Value)) (G : Gd w A₀ base [] base mean mg mb) (hs : s.heap = base) (hh : A₀.handled = none) (dp : A₀.depth + (d + 1) < recursionLimit) (un : A₀.units + 8 * (d + 1) + 200 < cLine)
    (ho : (hd.heap_1 w.params).lookup f = some ⟨oc, od, .func (fnX name qual params body scope [] dV kV doc pm an cdv ct), osl⟩) (hcd : codeIn (hd.heap_1 w.params) cdv qual = true)
    (hbind : BindsTo s (fnX name qual params body scope [] dV kV doc pm an cdv ct) args binds) (hkind : (binds.all fun y => scope.names.lookup y.1 == some .local || scope.names.lookup y.1 == some .cell) = true)
    (hnd : ((cellsFrom 0 scope.names []).map (·.1)).Nodup)
    (hco : scope.isCoroutine = false) (hgen : scope.isGenerator = false) (hk : scope.kind = .function)
    (h : ∀ L' h₁ tk cells, Fr base L' h₁ (bindL (envOfC qual scope L' f cdv).kindOf binds fun _ => none) → News base L' h₁ cells → CellsAre (bindC (envOfC qual scope L' f cdv).kindOf binds fun _ => none) (cellsFrom (L' + 1) scope.names []) cells →
      Cr (A₀.deeper (envOfC qual scope L' f cdv)) (envOfC qual scope L' f cdv) [] L' d →
      wpAny (model pw w) (A₀.deeper (envOfC qual scope L' f cdv)) (execs body (envOfC qual scope L' f cdv))
        (fun fl s' => Q (match fl with | .ret v => v | _ => .none) s') (fun _ _ => False) { s with heap := h₁, toks := tk }) :
    codeAny (model pw w) A₀ (.call (.ref f) args) (fun r s' => match r with | .ok (.ret v) => Q v s' | .ok _ => False | .error _ => False) s := by
  subst hs
  obtain ⟨B, X, T⟩ := G
  refine codeAny_call_function (by omega) (X _ _ ho) rfl hco hgen rfl (codeRec_of X hcd) (hbind _ _ _ _ ?_)
  refine wpAny_newFunctionEnv_cells hk (kindsX hkind _) fun env' he s' x => ?_
  subst he
  refine ⟨T.nolimit.keeps x.toInCall.keep, codeAny_func ?_⟩
  obtain ⟨h₁, tk, rfl, _⟩ := x.done
  have hk₁ := x.toInCall.keep
  obtain ⟨cells, NC, Y⟩ := Cl.news (h₀ := s.heap) (Nat.le_refl _) fun n c hm => ⟨x.cell n c (lookup_of_mem_nodup (cellsFrom_names scope.names 0 (s.heap.objs.size + 1) [] [] rfl ▸ hnd) hm), x.above n c hm⟩
  refine wpAny_mono (h s.heap.objs.size h₁ tk cells ⟨x.toInCall.ns, hk₁, Nat.le_refl _⟩ NC Y ⟨?_, rfl, hk, hh, ?_, ?_⟩) (fun fl s' q => ?_) fun _ _ q => q.elim
  · show A₀.frames.map _ = _
    rw [B.stack]; rfl
  · show A₀.depth + 1 + d < _
    omega
  · show A₀.units + 3 + 8 * d + 200 < _
    omega
  · exact q
end
end Mine
end

-- part G15
section
open PySem PySem.W PyProof.Rows PySem.Calls
namespace Mine
theorem off_G15 : True := by
  w_top off
  first | (walk1; done) | trivial
section
variable {prog : Program} {w : World} {A : Around} {E : Value → Shared → Prop} {s : Shared}
theorem list_sort_small {a : Addr} {vs : List Value} {n : Nat} {P : PySem.Fin → Shared → Prop} (ho : s.heap.get? a = some (seqObj "list" vs.toArray n)) (h1 : vs.length < 2)
    (h : P (.done (.ret .none)) { s with heap := sortedHeap s.heap a vs vs.toArray }) : wpAny (model prog w) A (Builtin.«list.sort» ⟨[.ref a], []⟩) P E s := by
  rw [list_sort_plain]
  have ha : a < s.heap.objs.size := Heap.lt_size ho
  refine wpAny_bind (listItems_at ho rfl ?_)
  refine wpAny_bind (listUpdate_at ho rfl ?_ (by rw [List.size_toArray, sizeLine_eq]; omega) (Nat.zero_le _))
  obtain ⟨e1, ho1⟩ : ∃ e1, (s.heap.update a (Obj.mapSeq fun _ => #[])).get? a = some (seqObj "list" #[] e1) := ⟨_, get?_update_seq ho (fun _ => #[])⟩
  refine wpAny_bind (seqEpoch_at ho1 rfl ?_)
  refine wpAny_bind (wpAny_newTuple ?_ (by show vs.length ≤ _; rw [sizeLine_eq]; omega))
  refine wpAny_bind (wpAny_newList ?_ (Nat.zero_le _))
  refine wpAny_holding ?_
  have ho6 : (((s.heap.update a (Obj.mapSeq fun _ => #[])).push (seqObj "tuple" vs.toArray 0)).push (seqObj "list" #[] 0)).get? a = some (seqObj "list" #[] e1) := by
    rw [Heap.get?_push_ne _ _ _ (by rw [size_push', Heap.size_update]; exact Nat.ne_of_lt (Nat.lt_succ_of_lt ha)), Heap.get?_push_ne _ _ _ (by rw [Heap.size_update]; exact Nat.ne_of_lt ha)]
    exact ho1
  show wpAny (model prog w) A _ P E { s with heap := ((s.heap.update a (Obj.mapSeq fun _ => #[])).push (seqObj "tuple" vs.toArray 0)).push (seqObj "list" #[] 0) }
  dsimp only
  have h2 : vs.toArray.size < 2 := by simpa using h1
  rw [if_pos h2, if_pos h2]
  refine wpAny_bind (wpAny_pure ?_)
  rw [StateT.run_pure]
  refine wpAny_bind (wpAny_pure ?_)
  dsimp only
  have eout : (arrOf (SortSt.mk' general' (vs.toArray.zip vs.toArray) #[] 7 none)).map (·.2) = vs.toArray := by
    show (vs.toArray.zip vs.toArray).map (·.2) = _
    apply Array.toList_inj.mp
    rw [Array.toList_map, Array.toList_zip, List.toList_toArray]
    show List.map Prod.snd (vs.zip vs) = vs
    exact List.map_snd_zip (Nat.le_refl _)
  rw [eout]
  refine wpAny_bind (seqEpoch_at ho6 rfl ?_)
  refine wpAny_bind (listUpdate_at ho6 rfl ?_ (Nat.zero_le _) (by show vs.toArray.size ≤ _; rw [sizeLine_eq]; omega))
  simp only [bne_self_eq_false, Bool.false_eq_true, if_false]
  exact wpAny_pure h
theorem sorted_small {h₀ : Heap} {L : Addr} {m : Str → Option Value} {news : List (Addr × Obj)} {l : Addr} {vs : List Value} {Q : Value → Shared → Prop} (F : Fr h₀ L s.heap m) (N : News h₀ L s.heap news) (hl : s.heap.IsList l vs.toArray) (h1 : vs.length < 2)
    (h : ∀ D c h', Fr h₀ L h' m → News h₀ L h' ((D, listOf vs.toArray c) :: news) → (∀ q ∈ news, q.1 < D) → Q (.ref D) { s with heap := h' }) :
    wpAny (model prog w) A (call (.builtin "sorted") [.ref l]) Q E s := by
  refine Calls.call_function_entry kind_sorted plain_sorted entry_sorted (args_sorted1 _) ?_
  unfold Builtin.«sorted»
  refine wpAny_bind (m := checkCount "sorted" 1 1 _) (wpAny_pure ?_)
  refine wpAny_bind (collect_list hl ?_ (by rw [sizeLine_eq]; omega))
  refine wpAny_bind (wpAny_newList ?_ (by rw [sizeLine_eq]; omega))
  have hsz : ((s.heap.push (seqObj "list" #[] 0)).update s.heap.objs.size (Obj.mapSeq (· ++ vs.toArray))).objs.size = s.heap.objs.size + 1 := by
    rw [Heap.size_update, size_push']
  have hoL : (((s.heap.push (seqObj "list" #[] 0)).update s.heap.objs.size (Obj.mapSeq (· ++ vs.toArray))).push (seqObj "list" vs.toArray 0)).get? (s.heap.objs.size + 1) = some (seqObj "list" vs.toArray 0) := by
    rw [← hsz]; exact Heap.get?_push_size _ rfl
  show wpAny _ _ _ _ _ { s with heap := ((s.heap.push (seqObj "list" #[] 0)).update s.heap.objs.size (Obj.mapSeq (· ++ vs.toArray))).push (seqObj "list" vs.toArray 0) }
  rw [hsz]
  refine wpAny_bind (wpAny_holding (wpAny_call_entry slot_list_sort ⟨_, hoL, rfl⟩ entry_list_sort (list_sort_small hoL h1 ⟨_, rfl, ?_⟩) (args_list_sort _)))
  obtain ⟨e, he⟩ := sortedAll_at s.heap vs vs.toArray
  exact wpAny_pure ⟨_, rfl, h _ e _ (F.kept fun _ _ => sortedAll_old) (N.kept_cons F (fun _ _ => sortedAll_old) (Nat.le_succ _) he) fun q hq => Nat.lt_succ_of_lt (Heap.lt_size (N q hq).1)⟩
end
/-- every end of a tree of questions -/
noncomputable def AllT {α : Type} (n : Nat) (P : α → Prop) : KasT α → Prop
  | .ret a => P a
  | .ask i j k => i < n ∧ j < n ∧ ∀ b, AllT n P (k b)
theorem AllT.bind {α β : Type} {n : Nat} {P : α → Prop} {P' : β → Prop} {f : α → KasT β} (hf : ∀ a, P a → AllT n P' (f a)) : ∀ (t : KasT α), AllT n P t → AllT n P' (t.bind f)
  | .ret _, h => hf _ h
  | .ask _ _ k, h => ⟨h.1, h.2.1, fun b => AllT.bind hf (k b) (h.2.2 b)⟩
theorem AllT.wp {α : Type} {n : Nat} {P : α → Prop} {cmp : Nat → Nat → (Bool → Shared → Prop) → Shared → Prop} {s : Shared} (hc : ∀ i j C, i < n → j < n → (∀ b, C b s) → cmp i j C s) {Q : α → Shared → Prop} (hq : ∀ a, P a → Q a s) :
    ∀ (t : KasT α), AllT n P t → t.kasWp cmp Q s
  | .ret _, h => hq _ h
  | .ask i j k, h => hc i j _ h.1 h.2.1 fun b => AllT.wp hc hq (k b) (h.2.2 b)
noncomputable def Pm (n : Nat) (p : Array Nat) : Prop := p.toList.Perm (List.range n)
theorem Pm.lt {n : Nat} {p : Array Nat} (h : Pm n p) (hn : 0 < n) (i : Nat) : p.getD i 0 < n := by
  by_cases hi : i < p.size
  · have e : p.getD i 0 = p[i] := by simp [Array.getD, hi]
    rw [e]
    have : p[i] ∈ p.toList := by simp
    exact List.mem_range.mp (h.mem_iff.mp this)
  · have e : p.getD i 0 = 0 := by simp [Array.getD, hi]
    rw [e]; exact hn
theorem Pm.rev {n : Nat} {p : Array Nat} (h : Pm n p) (i j : Nat) : Pm n (kas_rev p i j) := (Array.Perm.toList (mirror_perm p i j ((j - i) / 2))).trans h
theorem Pm.bub {n : Nat} {p : Array Nat} (h : Pm n p) (i j : Nat) : Pm n (bubble p i j) := (Array.Perm.toList (bubble_perm p i j)).trans h
theorem all_asc {n : Nat} {p : Array Nat} (hp : Pm n p) (hn : 0 < n) : ∀ (f k : Nat), AllT n (fun _ => True) (kas_asc p f k)
  | 0, _ => trivial
  | f + 1, k => ⟨hp.lt hn _, hp.lt hn _, fun b => by
    cases b with
    | true => exact trivial
    | false => exact all_asc hp hn f (k + 1)⟩
theorem all_desc {n : Nat} (hn : 0 < n) : ∀ (f : Nat) (p : Array Nat) (k q : Nat), Pm n p → AllT n (fun r => Pm n r.1) (kas_desc f p k q)
  | 0, _, _, _, hp => hp
  | f + 1, p, k, q, hp => ⟨hp.lt hn _, hp.lt hn _, fun b => by
    cases b with
    | true =>
      show AllT n _ (if true = true then (if q > 0 then kas_desc f (kas_rev p (k - (q + 1)) k) (k + 1) 0 else kas_desc f p (k + 1) 0) else _)
      rw [if_pos rfl]
      split
      · exact all_desc hn f _ _ _ (hp.rev _ _)
      · exact all_desc hn f _ _ _ hp
    | false =>
      refine ⟨hp.lt hn _, hp.lt hn _, fun d => ?_⟩
      cases d with
      | true => exact hp
      | false => exact all_desc hn f _ _ _ hp⟩
theorem all_tail3 {n : Nat} (hn : 0 < n) {p : Array Nat} (hp : Pm n p) (k r : Nat) : AllT n (fun r => Pm n r.2) (kas_tail3 k r p) := by
  unfold kas_tail3
  refine AllT.bind (P := fun _ => True) (fun x _ => ?_) _ (all_asc (hp.rev 0 k) hn _ _)
  exact hp.rev 0 k
theorem all_descPart {n : Nat} (hn : 0 < n) {p : Array Nat} (hp : Pm n p) (k r : Nat) : AllT n (fun r => Pm n r.2) (kas_descPart k r p) := by
  refine AllT.bind (fun x hx => ?_) _ (all_desc hn _ _ _ _ hp)
  split
  · exact all_tail3 hn (Pm.rev hx _ _) _ _
  · exact all_tail3 hn hx _ _
theorem all_count {n : Nat} (hn : 0 < n) {p : Array Nat} (hp : Pm n p) (r : Nat) : AllT n (fun r => Pm n r.2) (kas_count r p) := by
  refine AllT.bind (fun x _ => ?_) _ (all_asc hp hn _ _)
  split
  · exact hp
  · split
    · refine ⟨hp.lt hn _, hp.lt hn _, fun b => ?_⟩
      cases b with
      | true => exact hp
      | false => exact all_descPart hn (hp.rev _ _) _ _
    · exact all_descPart hn hp _ _
theorem all_place {n : Nat} (hn : 0 < n) {p : Array Nat} (hp : Pm n p) (k : Nat) : ∀ (f l r : Nat), AllT n (fun _ => True) (kas_place p k f l r)
  | 0, _, _ => trivial
  | f + 1, l, r => by
    unfold kas_place
    split
    · exact trivial
    · refine ⟨hp.lt hn _, hp.lt hn _, fun b => ?_⟩
      cases b with
      | true => exact all_place hn hp k f _ _
      | false => exact all_place hn hp k f _ _
theorem all_bin {n : Nat} (hn : 0 < n) : ∀ (f : Nat) (p : Array Nat) (k : Nat), Pm n p → AllT n (Pm n) (kas_bin f p k)
  | 0, _, _, hp => hp
  | f + 1, p, k, hp => AllT.bind (fun l _ => all_bin hn f _ _ (hp.bub _ _)) _ (all_place hn hp k _ _ _)
theorem all_sort {n : Nat} (hn : 0 < n) : AllT n (Pm n) (kas_sort n) := by
  have h0 : Pm n (List.toArray (List.range n)) := by unfold Pm; rw [List.toList_toArray]
  refine AllT.bind (fun x hx => ?_) _ (all_count hn h0 _)
  split
  · exact all_bin hn _ _ _ hx
  · exact hx
section
variable {prog : Program} {w : World} {A : Around} {E : Value → Shared → Prop} {s : Shared} {h₀ : Heap} {L l : Addr} {m : Str → Option Value} {news : List (Addr × Obj)} {vs : List Value} {Q : Value → Shared → Prop}
/-- a list of pairs of ints -/
noncomputable def Prs (news : List (Addr × Obj)) (vs : List Value) : Prop := ∀ v ∈ vs, ∃ (a : Addr) (x y : Int) (t u : Tok), v = .ref a ∧ (a, tupObj [.int x t, .int y u]) ∈ news
theorem prs_tups {h' : Heap} : ∀ (vs : List Value), (∀ p ∈ news, h'.get? p.1 = some p.2) → Prs news vs → ∃ fs : List Value, KatTups h' vs fs ∧ fs.length = vs.length ∧ ∀ f ∈ fs, ∃ x t, f = Value.int x t
  | [], _, _ => ⟨[], KatTups.nil, rfl, fun f hf => nomatch hf⟩
  | v :: vs, hN, hp => by
    obtain ⟨fs, h1, h2, h3⟩ := prs_tups vs hN fun v hv => hp v (.tail _ hv)
    obtain ⟨a, x, y, t, u, rfl, hm⟩ := hp v (.head _)
    refine ⟨.int x t :: fs, KatTups.cons (hN _ hm) rfl rfl rfl h1, by simp [h2], fun f hf => ?_⟩
    rcases List.mem_cons.mp hf with rfl | hf
    · exact ⟨x, t, rfl⟩
    · exact h3 f hf
theorem lt_pair {C : Bool → Shared → Prop} {a b : Addr} {x y x' y' : Int} {t u t' u' : Tok} (ha : s.heap.get? a = some (tupObj [.int x t, .int y u])) (hb : s.heap.get? b = some (tupObj [.int x' t', .int y' u'])) (h : ∀ c, C c s) :
    wpAny (model prog w) A (keyLt' (tuples' true) (.ref a) (.ref b)) C (fun _ _ => False) s := by
  refine kat_lt ha rfl hb rfl ?_
  refine kat_cons (wpAny_eqBool_int ?_)
  refine kat_go (fun _ => ?_) (fun _ => ?_)
  · refine kat_yes (kat_cons (wpAny_eqBool_int ?_))
    refine kat_go (fun _ => ?_) (fun _ => ?_)
    · exact kat_yes (kat_nil (h _))
    · refine kat_no (kat_one _ _ (lt_int ?_))
      exact h _
  · exact kat_no (oneLt_int (h _))
theorem sorted_pairs (F : Fr h₀ L s.heap m) (N : News h₀ L s.heap news) (hl : s.heap.IsList l vs.toArray) (hp : Prs news vs) (h64 : vs.length < 64)
    (h : ∀ D vs' c h', Fr h₀ L h' m → News h₀ L h' ((D, listOf (List.toArray vs') c) :: news) → (∀ q ∈ news, q.1 < D) → vs'.Perm vs → Q (.ref D) { s with heap := h' }) :
    wpAny (model prog w) A (call (.builtin "sorted") [.ref l]) Q E s := by
  by_cases h1 : vs.length < 2
  · exact sorted_small F N hl h1 fun D c h' F' N' hlt => h D vs c h' F' N' hlt (List.Perm.refl _)
  · refine kat_sorted F N hl (by omega) h64 fun D e1 h' F' N' hlt => ?_
    have hN : ∀ p ∈ news, h'.get? p.1 = some p.2 := fun p hp => (N' p (.tail _ hp)).1
    obtain ⟨fs, k1, k2, k3⟩ := prs_tups vs hN hp
    refine kat_kind (T := .type "int") k1 (by omega) (fun v hv => ?_) rfl ?_
    · obtain ⟨x, t, rfl⟩ := k3 v hv
      exact .now
    show (kas_sort vs.length).kasWp (kas_ask prog w A.in1.in1 (tuples' true) vs) _ _
    refine AllT.wp (n := vs.length) (P := Pm vs.length) (fun i j C hi hj hC => ?_) (fun p hpm => ?_) _ (all_sort (by omega))
    · have mem : ∀ i, i < vs.length → vs.getD i Value.none ∈ vs := fun i hi => by
        rw [List.getD_eq_getElem?_getD, List.getElem?_eq_getElem hi]; exact List.getElem_mem _
      obtain ⟨a, x, y, t, u, ea, ma⟩ := hp _ (mem i hi)
      obtain ⟨b, x', y', t', u', eb, mb⟩ := hp _ (mem j hj)
      show wpAny _ _ (keyLt' _ (vs.getD i Value.none) (vs.getD j Value.none)) C _ _
      rw [ea, eb]
      exact lt_pair (hN _ ma) (hN _ mb) hC
    · refine KasFin.intro F' N' (UpdF.head fun p hp => Nat.ne_of_lt (hlt p hp)) fun h2 c F2 N2 => h D _ c h2 F2 N2 hlt ?_
      have e : vs = (List.range vs.length).map fun i => vs.getD i Value.none := by
        apply List.ext_getElem (by simp)
        intro i h1 h2
        simp [h1]
      have := hpm.map fun i => vs.getD i Value.none
      rw [← e] at this
      exact this
end
end Mine
end

-- part G16
section
open PySem PySem.W PyProof.Rows
namespace Mine
theorem off_G16 : True := by
  w_top off
  first | (walk1; done) | trivial
theorem str_join_cps (r : List Str) : ∀ a : Str, (Str.join (PySem.Str.ofString "") (a :: r)).cps.toList = a.cps.toList ++ r.flatMap fun x => x.cps.toList := by
  have e0 : (PySem.Str.ofString "").cps = #[] := rfl
  induction r with
  | nil => intro a; show a.cps.toList = _; simp
  | cons b r ih =>
    intro a
    show ((a.cps ++ (PySem.Str.ofString "").cps) ++ (Str.join (PySem.Str.ofString "") (b :: r)).cps).toList = _
    rw [e0, Array.toList_append, ih]
    simp
theorem join_cps (l : List Str) : (PySem.Txt.join (PySem.Str.ofString "") l).cps.toList = l.flatMap fun x => x.cps.toList := by
  show (Builtin.Str.glued (PySem.Str.ofString "") l).cps.toList = _
  rw [StrLaws.glued_eq_join]
  cases l with
  | nil => rfl
  | cons a r => rw [str_join_cps]; simp
section
variable {prog : Program} {w : World} {A : Around} {s : Shared} {env : Env} {g h₀ : Heap} {L : Addr} {m : Str → Option Value} {news : List (Addr × Obj)} {Q E : Value → Shared → Prop} {e : PySem.Expr} {scope : Scope} {cl : List (Str × Addr)}
theorem compIn_rangeL {r : Addr} {a b st : Int} {t₀ u₀ v₀ : Tok} {n : Nat} (hr : IsRange s.heap r a b st t₀ u₀ v₀) (hsmall : Builtin.Range.small a b st = true) (hn : Builtin.Range.rangeSize a b st = (n : Int))
    (hh : A.handled = none) (F : Fr h₀ L s.heap m) (N : News h₀ L s.heap news)
    (h : ∀ g D C h₁ tk I St, Walks prog w A I [I] [I] n (fun i v => ∃ t, v = .int (a + i * st) t) St → I < D → St 0 h₁ → CIn h₀ news s.heap [I] g D C h₁ →
      codeAny (model prog w) A (.compLoop e 0 (.ref I) (.ref D) (compEnvC scope cl C env)) (CompDone h₀ L m news g C D Q) { s with heap := h₁, toks := tk }) :
    wpAny (model prog w) A (pyIter (.ref r)) (fun it s₂ => CompIn prog w A h₀ L m news e scope cl env Q it s₂) E s := by
  refine wpAny_pyIter_range hr hsmall ?_
  have hst : IsRangeIter (s.heap.push { cls := .type "range_iterator", data := .fields #[rawInt a, rawInt (Builtin.Range.rangeSize a b st), rawInt st] }) s.heap.objs.size (a + ((0 : Nat) : Int) * st) ((n : Int) - ((0 : Nat) : Int)) st := by
    rw [hn]; simpa using Heap.get?_push_size _ rfl
  refine ⟨_, _, _, n, _, _, rfl, Walks.range hh s.heap.objs.size a st n, hst, ?_, ?_, ?_, ?_, F.push _, (fun p hp => ⟨Heap.get?_push_of_some _ (N p hp).1, (N p hp).2⟩), ?_⟩
  · intro b hb; rw [List.mem_singleton.mp hb, Heap.size_push]; exact Nat.lt_succ_self _
  · intro hm; exact absurd F.ns.lt ((List.mem_singleton.mp hm) ▸ Nat.lt_irrefl _)
  · intro p hp hI; exact absurd (Heap.lt_size (N p hp).1) ((List.mem_singleton.mp hI) ▸ Nat.lt_irrefl _)
  · intro b hb; rw [List.mem_singleton.mp hb]; exact next_is_new F
  · intro g D C h₁ tk hDC hsz hgk hgw Fg Ng hst₁
    rw [Heap.size_push] at hsz
    have hID : s.heap.objs.size < D := hsz
    have all : ∀ b o, s.heap.get? b = some o → g.get? b = some o := fun b o e => hgk b o (Heap.get?_push_of_some _ e) fun hb => absurd (Heap.lt_size e) ((List.mem_singleton.mp hb) ▸ Nat.lt_irrefl _)
    exact h g D C h₁ tk _ _ (Walks.range hh s.heap.objs.size a st n) hID hst₁ ⟨Fg, Ng, fun hm => absurd hID ((List.mem_singleton.mp hm) ▸ Nat.lt_irrefl _), fun hm => absurd (Nat.lt_trans hID hDC) ((List.mem_singleton.mp hm) ▸ Nat.lt_irrefl _), hDC, hgw, fun b o e => all b o (F.keep b o e), fun p hp => all _ _ (N p hp).1, all, fun b o e => Nat.lt_trans (Heap.lt_size e) hID⟩
end
end Mine
end

-- part G17
section
open PySem PySem.W PyProof.Rows
namespace Mine
theorem off_G17 : True := by
  w_top off
  first | (walk1; done) | trivial
noncomputable def offOf (fl gl : List Nat) : List Int := (sld (cellsF (hts fl)) (cellsF (hts gl))).1
noncomputable def onOf (fl gl : List Nat) : List Int := (sld (cellsF (hts fl)) (cellsF (hts gl))).2
noncomputable def aheadOf (off on : List Int) (k t : Nat) : List Int := ((List.range k).drop t).flatMap fun j => (rdSt off on j).2
/-- what the plain part must tell of two rows -/
structure PL (fl gl : List Nat) (k : Nat) (rk : Int → Nat) : Prop where
  len : (hts fl).length = (hts gl).length
  pos : 0 < (hts fl).length
  sz : (hts fl).length ≤ 100
  bh : ∀ x ∈ hts fl, -100 ≤ x ∧ x ≤ 100
  bg : ∀ x ∈ hts gl, -100 ≤ x ∧ x ≤ 100
  ch : (cellsF (hts fl)).Pairwise (· < ·)
  cg : (cellsF (hts gl)).Pairwise (· < ·)
  chl : (cellsF (hts fl)).length ≤ 1000
  cgl : (cellsF (hts gl)).length ≤ 1000
  offl : (offOf fl gl).length ≤ 100
  onl : (onOf fl gl).length ≤ 100
  rh : RH (offOf fl gl) (onOf fl gl) k rk
  k1 : ∀ j, j < k → crn (wit (hts fl) (hts gl) j) (hts gl) ≠ []
  k2 : crn (wit (hts fl) (hts gl) k) (hts gl) = []
  fin : wit (hts fl) (hts gl) k = hts gl
  srt : ∀ t, t < k → ∀ l : List Int, l.Perm (rdSt (offOf fl gl) (onOf fl gl) t).2 → l.Pairwise (· ≤ ·) → l = crn (wit (hts fl) (hts gl) t) (hts gl)
  r64 : ∀ t, (rdSt (offOf fl gl) (onOf fl gl) t).2.length < 64
  mx1 : ∀ t, t ≤ k → ∀ i, i + 1 < (hts fl).length → mixK (wit (hts fl) (hts gl) t) (hts gl) i = 0 ∨ mixK (wit (hts fl) (hts gl) t) (hts gl) i = 2 ∨ mixK (wit (hts fl) (hts gl) t) (hts gl) i = -2
  mx2 : ∀ t, t ≤ k → ∀ i, i + 1 < (hts fl).length → mixK (hts gl) (wit (hts fl) (hts gl) t) i = 0 ∨ mixK (hts gl) (wit (hts fl) (hts gl) t) i = 2 ∨ mixK (hts gl) (wit (hts fl) (hts gl) t) i = -2
  p1 : ∀ t, t ≤ k → par (Txt.join "" (mixTo (wit (hts fl) (hts gl) t) (hts gl) ((hts fl).length - 1))).cps.toList 0 = decide ((offOf fl gl).filter (fun x => decide (x ∈ aheadOf (offOf fl gl) (onOf fl gl) k t)) = [])
  p2 : ∀ t, t ≤ k → par (Txt.join "" (mixTo (hts gl) (wit (hts fl) (hts gl) t) ((hts fl).length - 1))).cps.toList 0 = decide ((onOf fl gl).filter (fun x => decide (x ∈ aheadOf (offOf fl gl) (onOf fl gl) k t)) = [])
theorem mixS_cps (k : Int) : (mixS k).cps.toList = if k = 0 then [40, 41] else if k = 2 then [40, 40] else [41, 41] := by
  unfold mixS; split
  · rfl
  · split <;> rfl
theorem mix_cps (bs as : List Int) (k : Nat) : (Txt.join "" (mixTo bs as k)).cps.toList = (List.range k).flatMap fun i => if mixK bs as i = 0 then [40, 41] else if mixK bs as i = 2 then [40, 40] else [41, 41] := by
  show (Txt.join (PySem.Str.ofString "") (mixTo bs as k)).cps.toList = _
  rw [join_cps]
  unfold mixTo
  rw [List.flatMap_map]
  congr 1
  funext i
  exact mixS_cps _
theorem mix_chars (bs as : List Int) (k : Nat) : ∀ c ∈ (Txt.join "" (mixTo bs as k)).cps.toList, c = 40 ∨ c = 41 := by
  rw [mix_cps]
  intro c hc
  obtain ⟨i, _, hi⟩ := List.mem_flatMap.mp hc
  split at hi
  · simp at hi; exact hi
  · split at hi
    · simp at hi; exact .inl hi
    · simp at hi; exact .inr hi
theorem mix_size (bs as : List Int) (k : Nat) : (Txt.join "" (mixTo bs as k)).cps.size = 2 * k := by
  rw [← Array.length_toList, mix_cps]
  induction k with
  | zero => rfl
  | succ k ih =>
    rw [List.range_succ, List.flatMap_append, List.length_append, ih]
    simp only [List.flatMap_cons, List.flatMap_nil, List.append_nil]
    split
    · simp; omega
    · split <;> simp <;> omega
end Mine
end

-- part G18
section
open PySem PySem.W PyProof.Rows PySem.Calls
namespace Mine
theorem off_G18 : True := by
  w_top off
  first | (walk1; done) | trivial
section
variable {prog : Program} {w : World} {A : Around} {s : Shared} {env : Env} {g h₀ : Heap} {L : Addr} {m : Str → Option Value} {news : List (Addr × Obj)} {Q E : Value → Shared → Prop} {e : PySem.Expr} {scope : Scope} {cl : List (Str × Addr)}
theorem compIn_listL {l : Addr} {items : List Value} (hl : s.heap.IsList l items.toArray)
    (hh : A.handled = none) (F : Fr h₀ L s.heap m) (N : News h₀ L s.heap news)
    (h : ∀ g D C h₁ tk I St, Walks prog w A I [I, l] [I] items.length (fun i v => items[i]? = some v) St → St 0 h₁ → C ≠ l → I < D → l < D → CIn h₀ news s.heap [I] g D C h₁ →
      codeAny (model prog w) A (.compLoop e 0 (.ref I) (.ref D) (compEnvC scope cl C env)) (CompDone h₀ L m news g C D Q) { s with heap := h₁, toks := tk }) :
    wpAny (model prog w) A (pyIter (.ref l)) (fun it s₂ => CompIn prog w A h₀ L m news e scope cl env Q it s₂) E s := by
  obtain ⟨ol, hol, _⟩ := id hl
  have hne : l ≠ s.heap.objs.size := Nat.ne_of_lt (Heap.lt_size hol)
  refine wpAny_pyIter_list hl ?_
  have W := Walks.list (prog := prog) (w := w) hh s.heap.objs.size l hne items.toArray
  have eq : (fun (i : Nat) v => items.toArray[i]? = some v) = fun (i : Nat) v => items[i]? = some v := by funext i v; simp
  rw [List.size_toArray, eq] at W
  refine ⟨_, _, _, _, _, _, rfl, W, ⟨⟨_, Heap.get?_push_size _ rfl, rfl, rfl⟩, hl.at fun o e => Heap.get?_push_of_some _ e⟩, ?_, ?_, ?_, ?_, F.push _, (fun p hp => ⟨Heap.get?_push_of_some _ (N p hp).1, (N p hp).2⟩), ?_⟩
  · intro b hb
    rw [Heap.size_push]
    rcases List.mem_cons.mp hb with q | q
    · rw [q]; exact Nat.lt_succ_self _
    · rw [List.mem_singleton.mp q]; exact Nat.lt_succ_of_lt (Heap.lt_size hol)
  · intro hm; exact absurd F.ns.lt ((List.mem_singleton.mp hm) ▸ Nat.lt_irrefl _)
  · intro p hp hI; exact absurd (Heap.lt_size (N p hp).1) ((List.mem_singleton.mp hI) ▸ Nat.lt_irrefl _)
  · intro b hb; rw [List.mem_singleton.mp hb]; exact next_is_new F
  · intro g D C h₁ tk hDC hsz hgk hgw Fg Ng hst₁
    rw [Heap.size_push] at hsz
    have hID : s.heap.objs.size < D := hsz
    have all : ∀ b o, s.heap.get? b = some o → g.get? b = some o := fun b o e => hgk b o (Heap.get?_push_of_some _ e) fun hb => absurd (Heap.lt_size e) ((List.mem_singleton.mp hb) ▸ Nat.lt_irrefl _)
    exact h g D C h₁ tk _ _ W hst₁ (Nat.ne_of_gt (Nat.lt_trans (Heap.lt_size hol) (Nat.lt_trans hID hDC))) hID (Nat.lt_trans (Heap.lt_size hol) hID) ⟨Fg, Ng, fun hm => absurd hID ((List.mem_singleton.mp hm) ▸ Nat.lt_irrefl _), fun hm => absurd (Nat.lt_trans hID hDC) ((List.mem_singleton.mp hm) ▸ Nat.lt_irrefl _), hDC, hgw, fun b o e => all b o (F.keep b o e), fun p hp => all _ _ (N p hp).1, all, fun b o e => Nat.lt_trans (Heap.lt_size e) hID⟩

end
theorem sorted_tup {prog : Program} {w : World} {A : Around} {E : Value → Shared → Prop} {s : Shared} {h₀ : Heap} {L a : Addr} {m : Str → Option Value} {news : List (Addr × Obj)} {vs : List Value} {ns : List Int} {Q : Value → Shared → Prop}
    (F : Fr h₀ L s.heap m) (N : News h₀ L s.heap news) (ht : s.heap.get? a = some (tupObj vs)) (hI : IntsAre vs ns) (h64 : vs.length < 64)
    (h : ∀ D vs' ns' c h', Fr h₀ L h' m → News h₀ L h' ((D, W.listOf (List.toArray vs') c) :: news) → (∀ b o, s.heap.get? b = some o → b < D) → IntsAre vs' ns' → ns'.Perm ns → ns'.Pairwise (· ≤ ·) → Q (.ref D) { s with heap := h' }) :
    wpAny (model prog w) A (call (.builtin "sorted") [.ref a]) Q E s := by
  refine Calls.call_function_entry kind_sorted plain_sorted entry_sorted (args_sorted1 _) ?_
  unfold Builtin.«sorted»
  refine wpAny_bind (m := checkCount "sorted" 1 1 _) (wpAny_pure ?_)
  refine wpAny_bind (wpAny_collect_seq a (T := "tuple") (.inr rfl) ht rfl rfl (fun h1 hk1 => ?_) (by rw [List.size_toArray, sizeLine_eq]; omega))
  rw [List.toList_toArray]
  refine wpAny_bind (wpAny_newList ?_ (by rw [sizeLine_eq]; omega))
  have hoL : (h1.push (seqObj "list" vs.toArray 0)).get? h1.objs.size = some (seqObj "list" vs.toArray 0) := Heap.get?_push_size _ rfl
  show wpAny _ _ _ _ _ { s with heap := h1.push (seqObj "list" vs.toArray 0) }
  have hlt : ∀ b o, s.heap.get? b = some o → b < h1.objs.size := fun b o q => Heap.lt_size (hk1 b o q)
  refine wpAny_bind (wpAny_holding (wpAny_call_entry slot_list_sort ⟨_, hoL, rfl⟩ entry_list_sort (list_sort_tree (s := { s with heap := h1.push (seqObj "list" vs.toArray 0) }) hoL hI h64 fun out ns' a1 a2 a3 => ⟨_, rfl, ?_⟩) (args_list_sort _)))
  obtain ⟨e, he⟩ := sortedHeap_at (out := out) hoL
  have old : ∀ b o, s.heap.get? b = some o → (sortedHeap (h1.push (seqObj "list" vs.toArray 0)) h1.objs.size vs out).get? b = some o := fun b o q => by
    have q1 := hk1 b o q
    rw [sortedHeap_old (Nat.ne_of_lt (Heap.lt_size q1)) (by rw [size_push']; exact Nat.lt_succ_of_lt (Heap.lt_size q1))]
    exact Heap.get?_push_of_some _ q1
  have N2 : News h₀ L (sortedHeap (h1.push (seqObj "list" vs.toArray 0)) h1.objs.size vs out) ((h1.objs.size, W.listOf (List.toArray out.toList) e) :: news) := by
    intro p hp
    rcases List.mem_cons.mp hp with rfl | hp
    · refine ⟨by rw [Array.toArray_toList]; exact he, fun q => ?_, ?_⟩
      · obtain ⟨oL, _, _, hL, _⟩ := F.ns
        exact absurd (hlt _ _ hL) (by rw [← q]; exact Nat.lt_irrefl _)
      · cases q : h₀.get? h1.objs.size with
        | none => rfl
        | some o => exact absurd (hlt _ _ (F.keep _ _ q)) (Nat.lt_irrefl _)
    · exact ⟨old _ _ (N p hp).1, (N p hp).2⟩
  exact wpAny_pure ⟨_, rfl, h h1.objs.size out.toList ns' e _ (F.kept old) N2 hlt a1 a2 a3⟩
end Mine
end

-- part G19
section
open PySem PySem.W PyProof.Rows PySem.Calls PyProof.V PySem.Spec PySem.SeqAt
namespace Mine
theorem off_G19 : True := by
  w_top off
  first | (walk1; done) | trivial
noncomputable abbrev dInts (ns : List Int) : PyData := .list (ns.map PyData.int)
theorem reads_of_LL {h : Heap} {news : List (Addr × Obj)} {vl : List Value} {nsl : List (List Int)} (hN : ∀ p ∈ news, h.get? p.1 = some p.2) (H : LL news vl nsl) : ∃ fp, ReadsAll h vl (nsl.map dInts) fp := by
  induction H with
  | nil => exact ⟨[], .nil⟩
  | @cons a vs n ns vl nsl hm hi _ ih =>
    obtain ⟨fp, r⟩ := ih
    exact ⟨_, ReadsAll.cons (reads_of_ints (a := a) ⟨_, hN _ hm, rfl, n, rfl⟩ hi) r⟩
theorem canLayAll0_LL : ∀ l : List (List Int), PyData.canLayAll0 (l.map dInts) = true
  | [] => by simp [PyData.canLayAll0]
  | n :: r => by simp [PyData.canLayAll0, PyData.canLay0, canLayAll0_LL r, canLayAll0_ints]
theorem depthAll_LL : ∀ l : List (List Int), PyData.depthAll (l.map dInts) ≤ 3
  | [] => by simp [PyData.depthAll]
  | n :: r => by
    have h1 := depthAll_LL r
    have h2 := PySem.W.depthAll_ints n
    simp only [List.map_cons, PyData.depthAll, PyData.depth]
    omega
theorem shaped_LL (l : List (List Int)) : shaped (.list (l.map dInts)) = true := by
  have h1 := depthAll_LL l
  have h2 : PyData.depth (.list (l.map dInts)) ≤ 64 := by simp only [PyData.depth]; omega
  show (PyData.canLay0 (.list (l.map dInts)) && decide (PyData.depth (.list (l.map dInts)) ≤ 64)) = true
  rw [Bool.and_eq_true]
  exact ⟨by simp only [PyData.canLay0]; exact canLayAll0_LL l, decide_eq_true h2⟩
theorem noMix_LL : ∀ l : List (List Int), noMixAll (l.map dInts) (l.map dInts) = true
  | [] => by simp [noMixAll]
  | n :: r => by simp [noMixAll, noMix, noMix_LL r, noMix_ints]
theorem same_LL : ∀ l : List (List Int), PySem.Spec.sameAll (l.map dInts) (l.map dInts) = true
  | [] => by simp [PySem.Spec.sameAll]
  | n :: r => by simp [PySem.Spec.sameAll, PySem.Spec.same, same_LL r, same_ints]
theorem ne_LL {prog : Program} {w : World} {A : Around} {E : Value → Shared → Prop} {s : Shared} {a b : Addr} {vs us : List Value} {news : List (Addr × Obj)} {l : List (List Int)} {Q : Value → Shared → Prop}
    (hl : s.heap.IsList a vs.toArray) (hl' : s.heap.IsList b us.toArray) (hN : ∀ p ∈ news, s.heap.get? p.1 = some p.2) (H : LL news vs l) (H' : LL news us l) (hu : A.units + 64 < cLine)
    (h : Q (.bool false) s) : wpAny (model prog w) A (compareOp .NotEq (.ref a) (.ref b)) Q E s := by
  obtain ⟨fp, r⟩ := reads_of_LL hN H
  obtain ⟨fp', r'⟩ := reads_of_LL hN H'
  obtain ⟨o, ho, hc, n, hd⟩ := hl
  obtain ⟨o', ho', hc', n', hd'⟩ := hl'
  exact ne_dataH_same (Reads.list ho hc hd (by simpa using r)) (Reads.list ho' hc' hd' (by simpa using r')) (shaped_LL l) (shaped_LL l) hu (by simp only [noMix]; exact noMix_LL l) (by simp only [PySem.Spec.same]; rw [same_LL]; exact h)
end Mine
end

-- part G20
section
open PySem PySem.W PyProof.Rows PySem.Calls
namespace Mine
theorem off_G20 : True := by
  w_top off
  first | (walk1; done) | trivial
theorem pickV_from (vs : List Value) (i : Nat) : (slicePick vs.toArray (some (i : Int)) none none).toList = vs.drop i := by
  have e : sliceBounds (some (i : Int)) none none vs.toArray.size = (((min i vs.toArray.size : Nat) : Int), ((vs.toArray.size : Nat) : Int), 1) := by
    simp only [sliceBounds, Option.getD_none, show (1 : Int) > 0 by decide, if_true, if_neg (show ¬ ((i : Int) < 0) by omega)]
    congr 1
    omega
  rw [kmk_pick_nat _ e]
  show (vs.drop (min i vs.toArray.size)).take (vs.toArray.size - min i vs.toArray.size) = _
  rw [List.size_toArray, kmk_drop_min, List.take_of_length_le (by rw [List.length_drop]; omega)]
end Mine
end

-- part LW
section
open PySem PySem.W PyProof.Rows
namespace Mine
theorem off_LW : True := by
  w_top off
  first | (walk1; done) | trivial
theorem fill_LW : PySem.Challenge.rw_oh0062_01 = PySem.Challenge.rw_oh0062_01 ∧ hd.heap_1 = hd.heap_1 := by k_fill; exact ⟨rfl, rfl⟩
local macro_rules | `(tactic| walk_at "eval ListComp") => `(tactic| refine stopMark ?_)
local macro_rules | `(tactic| walk_at "CompIn") => `(tactic| refine stopMark ?_)
local macro_rules | `(tactic| walk_at "pyIter ref") => `(tactic| ((with_reducible show wpAny _ _ _ (fun it s₂ => CompIn _ _ _ _ _ _ _ _ _ _ _ _ it s₂) _ _); refine stopMark ?_))
local macro_rules | `(tactic| walk_at "pyIter ref") => `(tactic| ((with_reducible show wpAny _ _ _ (fun it' s2 => codeAny _ _ (Code.compStart _ _ it' _ _) _ s2) _ _); refine stopMark ?_))
local macro_rules | `(tactic| walk_at "call builtin:sorted") => `(tactic| refine stopMark ?_)
local macro_rules | `(tactic| walk_at "call builtin:str.join") => `(tactic| refine stopMark ?_)
local macro_rules | `(tactic| walk_at "subscriptTail Name Constant ref int") => `(tactic| refine stopMark ?_)
local macro_rules | `(tactic| walk_at "subscriptTail Name Subscript str int") => `(tactic| refine stopMark ?_)
local macro_rules | `(tactic| walk_at "compareOp NotEq ref ref") => `(tactic| refine stopMark ?_)
local macro_rules | `(tactic| walk_at "subscriptTail Name UnaryOp ref int") => `(tactic| refine stopMark ?_)
local macro_rules | `(tactic| walk_at "SegIter") => `(tactic| refine stopMark ?_)
local macro_rules | `(tactic| walk_at "subscriptTail Name Name ref int") => `(tactic| ((with_reducible show wpAny _ _ (subscriptTail (PySem.Expr.Name (PySem.Str.ofString "paths") _) _ _ _) _ _ _); refine stopMark ?_))
local macro_rules | `(tactic| walk_at "subscriptTail Name Slice ref ref") => `(tactic| ((with_reducible show wpAny _ _ (subscriptTail (PySem.Expr.Name (PySem.Str.ofString "rounds") _) _ _ _) _ _ _); refine stopMark ?_))
local macro_rules | `(tactic| walk_at "assign Tuple") => `(tactic| refine stopMark ?_)
local macro_rules | `(tactic| walk_at "call builtin:len") => `(tactic| ((with_reducible rename Mine.Mark => hM); clear hM; refine stopMark ?_))
noncomputable def brS (x : Int) : Str := if x.fmod 2 = 0 then "(" else ")"
theorem brS_len (x : Int) : (brS x).length = 1 := by
  unfold brS; split <;> rfl
theorem brS_sum (l : List Int) : ((l.map brS).map (·.length)).sum = l.length := by
  induction l with
  | nil => rfl
  | cons a r ih => simp only [List.map_cons, List.sum_cons, List.length_cons, ih, brS_len]; omega
noncomputable def brC (x : Int) : Nat := if x.fmod 2 = 0 then 40 else 41
theorem brS_cps (x : Int) : (brS x).cps.toList = [brC x] := by
  unfold brS brC; split <;> rfl
theorem brS_all (l : List Int) : (PySem.Txt.join (PySem.Str.ofString "") (l.map brS)).cps.toList = l.map brC := by
  rw [join_cps]
  induction l with
  | nil => rfl
  | cons a r ih => simp only [List.map_cons, List.flatMap_cons, brS_cps, ih]; rfl
/-- the pairs as they are made -/
structure PSt' where
  vs : List Value
  n : Nat
  objs : List (Addr × Obj)
/-- pair by pair: the second is the place -/
inductive PrsAt (objs : List (Addr × Obj)) : List Value → List Int → Prop
  | nil : PrsAt objs [] []
  | snoc {vs ys} {a : Addr} {x y : Int} {t u : Tok} : PrsAt objs vs ys → (a, tupObj [.int x t, .int y u]) ∈ objs → PrsAt objs (vs ++ [.ref a]) (ys ++ [y])
theorem PrsAt.prs {objs : List (Addr × Obj)} {vs : List Value} {ys : List Int} (h : PrsAt objs vs ys) : Prs objs vs := by
  induction h with
  | nil => intro v hv; cases hv
  | snoc _ hm ih =>
    intro v hv
    rcases List.mem_append.mp hv with hv | hv
    · exact ih v hv
    · rw [List.mem_singleton.mp hv]; exact ⟨_, _, _, _, _, rfl, hm⟩
theorem PrsAt.pairs {objs : List (Addr × Obj)} {vs : List Value} {ys : List Int} (h : PrsAt objs vs ys) : ∃ zs : List (Value × Int), zs.map (·.1) = vs ∧ zs.map (·.2) = ys ∧ ∀ z ∈ zs, ∃ (a : Addr) (x : Int) (t u : Tok), z.1 = .ref a ∧ (a, tupObj [.int x t, .int z.2 u]) ∈ objs := by
  induction h with
  | nil => exact ⟨[], rfl, rfl, fun z hz => nomatch hz⟩
  | @snoc vs ys a x y t u _ hm ih =>
    obtain ⟨zs, rfl, rfl, h3⟩ := ih
    refine ⟨zs ++ [(.ref a, y)], by simp, by simp, fun z hz => ?_⟩
    rcases List.mem_append.mp hz with hz | hz
    · exact h3 z hz
    · rw [List.mem_singleton.mp hz]; exact ⟨a, x, t, u, rfl, hm⟩
theorem map_perm {α β : Type} {f : α → β} {l' : List β} : ∀ {l : List α}, l'.Perm (l.map f) → ∃ l2 : List α, l2.Perm l ∧ l2.map f = l' := by
  intro l h
  generalize hm : l.map f = m at h
  induction h generalizing l with
  | nil => exact ⟨[], by rw [List.map_eq_nil_iff.mp hm], rfl⟩
  | @cons x a b _ ih =>
    match l, hm with
    | y :: r, hm =>
      simp only [List.map_cons, List.cons.injEq] at hm
      obtain ⟨l2, h1, h2⟩ := ih hm.2
      exact ⟨y :: l2, h1.cons y, by simp [h2, hm.1]⟩
  | @swap x y a =>
    match l, hm with
    | p :: q :: r, hm =>
      simp only [List.map_cons, List.cons.injEq] at hm
      exact ⟨q :: p :: r, List.Perm.swap _ _ _, by simp [hm.1, hm.2.1, hm.2.2]⟩
  | trans _ _ ih1 ih2 =>
    obtain ⟨l2, h1, h2⟩ := ih2 hm
    obtain ⟨l3, h3, h4⟩ := ih1 h2
    exact ⟨l3, h3.trans h1, h4⟩
/-- pair by pair, in any order -/
inductive PrsIn (objs : List (Addr × Obj)) : List Value → List Int → Prop
  | nil : PrsIn objs [] []
  | cons {vs ys} {a : Addr} {x y : Int} {t u : Tok} : (a, tupObj [.int x t, .int y u]) ∈ objs → PrsIn objs vs ys → PrsIn objs (.ref a :: vs) (y :: ys)
theorem PrsAt.perm {objs : List (Addr × Obj)} {vs vs' : List Value} {ys : List Int} (h : PrsAt objs vs ys) (hp : vs'.Perm vs) : ∃ ys', PrsIn objs vs' ys' ∧ ys'.Perm ys := by
  obtain ⟨zs, rfl, rfl, h3⟩ := h.pairs
  obtain ⟨l2, h4, rfl⟩ := map_perm hp
  refine ⟨l2.map (·.2), ?_, h4.map _⟩
  have h5 : ∀ z ∈ l2, ∃ (a : Addr) (x : Int) (t u : Tok), z.1 = .ref a ∧ (a, tupObj [.int x t, .int z.2 u]) ∈ objs := fun z hz => h3 z (h4.mem_iff.mp hz)
  clear h4 h3 hp h
  induction l2 with
  | nil => exact .nil
  | cons z r ih =>
    obtain ⟨a, x, t, u, e, hm⟩ := h5 z (.head _)
    rw [List.map_cons, List.map_cons, e]
    exact .cons hm (ih fun z hz => h5 z (.tail _ hz))
theorem PrsIn.get {objs : List (Addr × Obj)} {vs : List Value} {ys : List Int} (h : PrsIn objs vs ys) : ∀ (i : Nat) (v : Value), vs[i]? = some v → ∃ (a : Addr) (x y : Int) (t u : Tok), v = .ref a ∧ ys[i]? = some y ∧ (a, tupObj [.int x t, .int y u]) ∈ objs := by
  induction h with
  | nil => intro i v h; simp at h
  | @cons vs ys a x y t u hm _ ih =>
    intro i v h
    cases i with
    | zero => simp only [List.getElem?_cons_zero, Option.some.injEq] at h; exact ⟨a, x, y, t, u, h.symm, rfl, hm⟩
    | succ i => simp only [List.getElem?_cons_succ] at h ⊢; exact ih i v h
theorem PrsIn.len {objs : List (Addr × Obj)} {vs : List Value} {ys : List Int} (h : PrsIn objs vs ys) : vs.length = ys.length := by
  induction h with
  | nil => rfl
  | cons _ _ ih => simp [ih]
theorem TT.get {news : List (Addr × Obj)} {vl : List Value} {nsl : List (List Int)} (h : TT news vl nsl) : ∀ (i : Nat) (v : Value), vl[i]? = some v → ∀ (hi : i < nsl.length), ∃ (a : Addr) (vs : List Value), v = .ref a ∧ (a, tupObj vs) ∈ news ∧ IntsAre vs nsl[i] := by
  induction h with
  | nil => intro i v h; simp at h
  | @cons a vs ns vl nsl hm hI _ ih =>
    intro i v h hi
    cases i with
    | zero => simp only [List.getElem?_cons_zero, Option.some.injEq] at h; exact ⟨a, vs, h.symm, hm, hI⟩
    | succ i => simp only [List.getElem?_cons_succ] at h; exact ih i v h (by simpa using hi)
theorem LL.get {news : List (Addr × Obj)} {vl : List Value} {nsl : List (List Int)} (h : LL news vl nsl) : ∀ (i : Nat) (v : Value), vl[i]? = some v → ∀ (hi : i < nsl.length), ∃ (a : Addr) (vs : List Value) (n : Nat), v = .ref a ∧ (a, W.listOf vs.toArray n) ∈ news ∧ IntsAre vs nsl[i] := by
  induction h with
  | nil => intro i v h; simp at h
  | @cons a vs n ns vl nsl hm hI _ ih =>
    intro i v h hi
    cases i with
    | zero => simp only [List.getElem?_cons_zero, Option.some.injEq] at h; exact ⟨a, vs, n, h.symm, hm, hI⟩
    | succ i => simp only [List.getElem?_cons_succ] at h; exact ih i v h (by simpa using hi)
theorem fr_self {g : Heap} {L : Addr} {h : Heap} {m : Str → Option Value} (x : Str) (F : Fr g L h m) : Fr g L h (fun y => if y = x then m x else m y) := by
  have e : (fun y => if y = x then m x else m y) = m := by
    funext y
    by_cases hy : y = x
    · subst hy; rw [if_pos rfl]
    · rw [if_neg hy]
  rw [e]; exact F
theorem fr_two {g : Heap} {L : Addr} {h : Heap} {m : Str → Option Value} {x : Str} {a b : Option Value} (F : Fr g L h (fun y => if y = x then a else if y = x then b else m y)) : Fr g L h (fun y => if y = x then a else m y) := by
  have e : (fun y => if y = x then a else m y) = (fun y => if y = x then a else if y = x then b else m y) := by
    funext y
    by_cases hy : y = x
    · rw [if_pos hy, if_pos hy]
    · rw [if_neg hy, if_neg hy, if_neg hy]
  rw [e]; exact F
/-- the law's last loop, ahead of its i-th turn -/
inductive LawT (base : Heap) (L I : Addr) (k : Nat) (s : Shared) (mp : Option Value → Str → Option Value) (led : Obj → List (Addr × Obj)) (m : Nat) (s' : Shared) : Prop
  | mk (i : Nat) (h : Heap) (tk : Nat) (gens : Array GenState) (oa' : Obj) (v0 u : Option Value) (hi : i ≤ k + 1) (hm : m = k + 2 - i) (e : s' = { s with heap := h, toks := tk, gens := gens }) (hb : AllBare gens)
      (hst : IsRangeIter h I (0 + (i : Int) * 1) (((k + 1 : Nat) : Int) - (i : Int)) 1) (F : Fr base L h (mp u)) (N : News base L h (led oa')) (hd : oa'.data = .cell v0) : LawT base L I k s mp led m s'
structure SSt.Ok (D : Addr) (f : Nat → List Int) (i : Nat) (c : PSt') : Prop where
  l : LL c.objs c.vs ((List.range i).map f)
  al : ∀ q ∈ c.objs, q.1 ≠ D
structure PSt'.Ok (D : Addr) (i : Nat) (c : PSt') : Prop where
  p : PrsAt c.objs c.vs ((List.range i).map fun (j : Nat) => (j : Int))
  len : c.vs.length = i
  al : ∀ q ∈ c.objs, q.1 ≠ D
theorem PrsAt.mono {objs objs' : List (Addr × Obj)} {vs : List Value} {ys : List Int} (h : PrsAt objs vs ys) (hs : ∀ p ∈ objs, p ∈ objs') : PrsAt objs' vs ys := by
  induction h with
  | nil => exact .nil
  | snoc _ hm ih => exact .snoc ih (hs _ hm)
theorem Cr.le {A : Around} {env : Env} {outer : List Env} {L : Addr} {d d' : Nat} (C : Cr A env outer L d) (h : d' ≤ d) : Cr A env outer L d' := ⟨C.fr, C.fl, C.ki, C.hh, by have := C.dp; omega, by have := C.un; omega⟩
theorem law_code {w : World} {A₀ : Around} {base : Heap} {mean : ExcName → Option Value} {mg mb : Str → Option Value} {s : Shared} {Q : Value → Shared → Prop} {ls : Addr} {vs : List Value} {xs : List Int}
    (GB : Gb w base mean mg mb) (G : Gd w A₀ base [] base mean mg mb) (hs : s.heap = base) (hh : A₀.handled = none) (dp : A₀.depth + 21 < recursionLimit) (un : A₀.units + 8 * 21 + 200 < cLine) (hls : base.IsList ls vs.toArray) (hI : IntsAre vs xs) (hlen : xs.length ≤ 63) (hgens : AllBare s.gens) (plain : ∀ fl gl : List Nat, (∀ c ∈ fl, c = 40 ∨ c = 41) → gl.Perm fl → fl.length ≤ 8 → ∃ k rk, PL fl gl k rk)
    (hQ : ∀ h' tk gens', AllBare gens' → (∀ b o, base.get? b = some o → h'.get? b = some o) → Q (.bool true) { s with heap := h', toks := tk, gens := gens' }) :
    codeAny (model pw w) A₀ (.call (.ref 210) { pos := [.ref ls] }) (fun r s' => match r with | .ok (.ret v) => Q v s' | .ok _ => False | .error _ => False) s := by
  refine enterLaw (d := 20) [(("script" : Str), Value.ref ls)] G hs hh dp un (by k_is) (by k_is) (BindsTo.of_eq rfl) rfl (by decide +kernel) rfl rfl rfl ?_
  intro L h1 tk1 cells F1 N1 Y1 C1
  have hh := C1.hh
  have hu64 := C1.u64
  obtain ⟨B1, X1, T1⟩ := id G
  have Y2 := CellsAre.three Y1
  obtain ⟨oa, of, os, rfl, ha0, hf0, hs0⟩ := Y2
  have ca : oa.data = .cell none := ha0
  have cf : of.data = .cell none := hf0
  have cs : os.data = .cell (some (.ref ls)) := hs0
  clear Y1 ha0 hf0 hs0
  have F1 : Fr base L h1 (fun _ => none) := F1
  ((try first | refine genQ (fun Qx hQx => ?_)); k_steps)
  unfold Stop
  refine compTop (cl := []) F1 N1 rfl (by decide) rfl (by decide) ?_
  ((try first | refine genQ (fun Qx hQx => ?_)); k_steps)
  rename_i D2 ws h2 F2 N2 hI2 hC2 hL2 lq2
  unfold Stop
  generalize hX : xs.take 8 = X0 at *
  have hX8 : X0.length ≤ 8 := by omega
  refine compIn_list (items := ws) ⟨_, (N2 _ (.head _)).1, rfl, _, rfl⟩ hh F2 (fun p hp => N2 p (.tail _ hp)) ?_
  intro g3 D3 C3 h3 tk3 I3 St3 Wk3 hst3 hCl3 K3
  have X3 : (hd.heap_1 w.params).In g3 := X1.keeps K3.old
  have hCf3 : C3 ∉ [I3, D2] := by
    intro hm
    rcases List.mem_cons.mp hm with e | e
    · exact K3.cw (by rw [e]; exact .head _)
    · exact hCl3 (List.mem_singleton.mp e)
  have hlD3 : D2 ≠ D3 := Nat.ne_of_lt (K3.lt _ _ (N2 _ (.head _)).1)
  have q3 : @LT.lt Nat _ (L + 1 + 1 + 1) D3 := K3.lt _ _ (N2 (L + 1 + 1 + 1, oa) (.tail _ (.head _))).1
  refine compLoopLed (Q := fun _ _ => True) (fun c : List Value × Nat => [(D3, W.listOf c.1.toArray c.2)]) [] (fun i c => StrsAre c.1 ((X0.take i).map brS) ∧ c.1.length ≤ i) ([], 0) (turn1 _ _ _ _ _ _ _ _ _) Wk3 hCf3 K3.gw ?_ hst3 K3.F K3.N ?_ rfl rfl ?_ ?_
  · intro p hp; simp only [List.mem_singleton] at hp; subst hp; exact K3.dw
  · exact ⟨.nil, Nat.zero_le _⟩
  · rintro i v ⟨vs', n'⟩ u h tk own hi hv ⟨hI', hsz⟩ hnw hfp F4 N4
    dsimp only [cont_nil, List.cons_append, List.nil_append, compEnvC] at F4 N4 hI' hnw hsz
    have hoff : ∀ p ∈ own, p.1 ≠ D3 := fun p hp e => by
      rcases List.mem_cons.mp (hfp p hp) with q | q
      · exact hnw _ (.head _) (by rw [← e, q]; exact .head _)
      · exact hlD3 (by rw [← e, List.mem_singleton.mp q])
    obtain ⟨x, hx⟩ : ∃ x, X0[i]? = some x := by
      have h1 := hi
      rw [hI2.length] at h1
      exact ⟨_, List.getElem?_eq_getElem h1⟩
    obtain ⟨ti, hti⟩ := hI2.get i x hx
    rw [hti] at hv
    cases hv
    have hszW : vs'.length ≤ 1000000 := by have := hI2.length; omega
    refine body1 ?_
    ((try first | refine genQ (fun Qx hQx => ?_)); k_steps)
    · rename x.fmod 2 = 0 => hb
      rename Fr _ _ _ _ => F'
      rename News _ _ _ _ => N'
      refine TurnEnd.push F' N' (hnw _ (.head _)) ?_ ⟨?_, ?_⟩
      · intro y h1 _; simp only [if_neg h1]
      · show StrsAre (vs' ++ [_]) _
        rw [List.take_add_one, hx, List.map_append]
        refine hI'.append' ?_
        simp only [Option.toList, List.map_cons, List.map_nil, brS, if_pos hb]
        exact .cons _ _ .nil
      · simp only [List.length_append, List.length_cons, List.length_nil]; omega
    · rename x.fmod 2 ≠ 0 => hb
      rename Fr _ _ _ _ => F'
      rename News _ _ _ _ => N'
      refine TurnEnd.push F' N' (hnw _ (.head _)) ?_ ⟨?_, ?_⟩
      · intro y h1 _; simp only [if_neg h1]
      · show StrsAre (vs' ++ [_]) _
        rw [List.take_add_one, hx, List.map_append]
        refine hI'.append' ?_
        simp only [Option.toList, List.map_cons, List.map_nil, brS, if_neg hb]
        exact .cons _ _ .nil
      · simp only [List.length_append, List.length_cons, List.length_nil]; omega
  rintro ⟨bv, nb⟩ u4 h4 tk4 ⟨hSb, hszb⟩ F4 N4
  refine ⟨_, _, _, [], F4, N4, fun h5 F5 N5 hne5 => ?_⟩
  simp only [List.nil_append] at N5 hSb hszb
  rw [hI2.length, List.take_length] at hSb
  clear N4 F4 N2 F2
  ((try first | refine genQ (fun Qx hQx => ?_)); k_steps)
  unfold Stop
  have hbsum := brS_sum X0
  refine join_listC (by is_list) hSb (by decide +kernel) (by rw [hbsum, List.length_map]; exact Nat.le_trans (Nat.add_le_add hX8 (Nat.mul_le_mul_right 64 hX8)) (by decide)) ?_
  intro t5 k5
  have ffS : ∃ first, first = Txt.join "" (X0.map brS) := ⟨_, rfl⟩
  obtain ⟨first, hfirst⟩ := ffS
  have hfl : first.cps.toList = X0.map brC := by rw [hfirst]; exact brS_all X0
  have hflen : first.length = X0.length := by
    show first.cps.size = _
    rw [← Array.length_toList, hfl, List.length_map]
  rw [← hfirst]
  refine storeX_C (c := L + 1 + 1) F5 N5 rfl (by k_updF) cf ?_ rfl rfl
  intro h6 of6 F6 N6 cf6
  have cf6 : of6.data = .cell (some (.str first t5)) := cf6
  ((try first | refine genQ (fun Qx hQx => ?_)); k_steps)
  unfold Stop
  refine compTop (cl := [(("script" : Str), L + 1)]) F6 N6 rfl (by decide) rfl (by decide) ?_
  ((try first | refine genQ (fun Qx hQx => ?_)); k_steps)
  rename IsRange _ _ _ _ _ _ _ _ => R7
  rename Fr _ _ _ _ => F7
  rename News _ _ _ _ => N7
  unfold Stop
  rw [hflen] at R7
  refine compIn_rangeL (n := X0.length) R7 (small_one (by decide) (by decide) (by omega) (by omega)) (by rw [rangeSize_nat]; omega) hh F7 N7 ?_
  intro g8 D8 C8 h8 tk8 I8 St8 Wk8 hID8 hst8 K8
  have X8 : (hd.heap_1 w.params).In g8 := X1.keeps K8.old
  have hcell8 : g8.get? (L + 1) = some os := K8.own (L + 1, os) (by first | k_mem | simp)
  have hls8 : g8.IsList ls vs.toArray := by
    obtain ⟨o, ho, r⟩ := hls
    exact ⟨o, K8.old _ _ ho, r⟩
  refine compLoopLed (Q := fun _ _ => True) (fun c : PSt' => (D8, W.listOf c.vs.toArray c.n) :: c.objs) [] (fun i c => PSt'.Ok D8 i c) ⟨[], 0, []⟩ (turn1 _ _ _ _ _ _ _ _ _) Wk8 K8.cw K8.gw ?_ hst8 K8.F K8.N ?_ rfl rfl ?_ ?_
  · intro p hp; simp only [List.mem_singleton] at hp; subst hp; exact K8.dw
  · exact ⟨.nil, rfl, fun q hq => nomatch hq⟩
  · rintro i v ⟨pv, n', objs⟩ u h tk own hi ⟨ti, rfl⟩ hP hnw hfp F9 N9
    dsimp only [cont_nil, List.cons_append, compEnvC] at F9 N9 hP hnw
    have ei : (0 + (i : Int) * 1) = (i : Int) := by omega
    rw [ei] at F9
    have hoff : ∀ p ∈ objs ++ own, p.1 ≠ D8 := by
      intro p hp e
      rcases List.mem_append.mp hp with q | q
      · exact hP.al p q e
      · exact hnw _ (.head _) (by rw [← e]; exact hfp p q)
    have hszW : pv.length ≤ 1000000 := by have := hP.len; dsimp only at this; omega
    refine body1 ?_
    ((try first | refine genQ (fun Qx hQx => ?_)); k_steps)
    rename_i Dp _ lp10 h10 F10 N10
    have hDp : Dp ≠ D8 := Nat.ne_of_gt lp10.1
    have epush : W.listOf (pv.toArray.push (Value.ref Dp)) (n' + 1) = W.listOf (pv ++ [Value.ref Dp]).toArray (n' + 1) := by congr 1; simp
    rw [epush] at N10
    obtain ⟨x10, t10, N10⟩ : ∃ x10 t10, News g8 C8 h10 ((Dp, tupObj [.int x10 t10, .int (i : Int) ti]) :: (D8, W.listOf (pv ++ [Value.ref Dp]).toArray (n' + 1)) :: (objs ++ own)) := ⟨_, _, N10⟩
    refine ⟨⟨pv ++ [.ref Dp], n' + 1, (Dp, tupObj [.int x10 t10, .int (i : Int) ti]) :: objs⟩, _, _, _, _, rfl, F10, N10, ?_, ?_, ?_, (fun p hp => nomatch hp), ?_, ⟨?_, ?_, ?_⟩⟩
    · intro p hp
      revert p; walk_at "mine sub"
    · intro p hp
      exact .tail _ (.tail _ (List.mem_append_right _ hp))
    · intro p hp
      rcases List.mem_cons.mp hp with rfl | hp
      · exact hnw (D8, W.listOf pv.toArray n') (.head _)
      rcases List.mem_cons.mp hp with rfl | hp
      · intro hm
        have e : Dp = I8 := List.mem_singleton.mp hm
        exact absurd (Nat.lt_trans hID8 lp10.1) (by rw [e]; exact Nat.lt_irrefl _)
      · exact hnw p (.tail _ hp)
    · intro z h1 _ _; simp only [if_neg h1]
    · show PrsAt _ (pv ++ [.ref Dp]) _
      rw [List.range_succ, List.map_append]
      exact .snoc (hP.p.mono fun p hp => .tail _ hp) (.head _)
    · have := hP.len
      dsimp only at this ⊢
      simp only [List.length_append, List.length_cons, List.length_nil, this]
    · intro q hq
      rcases List.mem_cons.mp hq with rfl | hq
      · exact hDp
      · exact hP.al q hq
  rintro ⟨pv, np, objs⟩ u9 h9 tk9 ⟨kP, kL, kA⟩ F9 N9
  refine ⟨_, _, _, objs, F9, N9, fun h10 F10 N10 hne10 => ?_⟩
  dsimp only at N10 kP kL kA hne10
  clear N9 F9 F7 N7 N5 F5
  ((try first | refine genQ (fun Qx hQx => ?_)); k_steps)
  unfold Stop
  have kPrs : Prs ((D8, W.listOf pv.toArray np) :: (objs ++ [(D3, W.listOf bv.toArray nb), (L + 1 + 1 + 1, oa), (L + 1 + 1, of6), (L + 1, os)])) pv := (kP.mono fun p hp => .tail _ (List.mem_append_left _ hp)).prs
  refine sorted_pairs F10 N10 ⟨_, (N10 _ (.head _)).1, rfl, np, rfl⟩ kPrs (by omega) ?_
  intro D11 sv n11 h11 F11 N11 lt11 perm11
  have q8 : @LT.lt Nat _ (L + 1 + 1 + 1) D11 := lt11 (L + 1 + 1 + 1, oa) (by first | k_mem | simp)
  obtain ⟨ys, kS, kperm⟩ := kP.perm perm11
  have hsv : sv.length = X0.length := by rw [perm11.length_eq]; exact kL
  have hys : ∀ y ∈ ys, ∃ j : Nat, y = (j : Int) ∧ j < X0.length := by
    intro y hy
    obtain ⟨j, hj, rfl⟩ := List.mem_map.mp (kperm.mem_iff.mp hy)
    exact ⟨j, rfl, List.mem_range.mp hj⟩
  have N12 : News base L h11 ((D11, W.listOf sv.toArray n11) :: (L + 1 + 1 + 1, oa) :: (L + 1 + 1, of6) :: (L + 1, os) :: objs) := by
    intro p hp
    refine N11 p ?_
    revert p; walk_at "mine sub"
  clear N11 N10 F10
  ((try first | refine genQ (fun Qx hQx => ?_)); k_steps)
  rename Fr _ _ _ _ => F13
  rename News _ _ _ _ => N13
  unfold Stop
  refine heights_call G (C1.le (by omega)) F13 N13 (by show first.length ≤ 1000; omega) ?_
  intro lS vS nS h14 tk14 hIS F14 N14 hS14
  have hgs : ∃ hs, hs = hts (X0.map brC) := ⟨_, rfl⟩
  obtain ⟨hs', hhs⟩ := hgs
  rw [hfl, ← hhs] at hIS
  ((try first | refine genQ (fun Qx hQx => ?_)); k_steps)
  unfold Stop
  rename Fr _ _ _ _ => F15
  rename News _ _ _ _ => N15
  refine compTop (cl := [(("first" : Str), L + 1 + 1)]) F15 N15 rfl (by decide) rfl (by decide) ?_
  ((try first | refine genQ (fun Qx hQx => ?_)); k_steps)
  rename Fr _ _ _ _ => F16
  rename News _ _ _ _ => N16
  unfold Stop
  refine compIn_list (items := sv) ⟨_, (N16 _ (.tail _ (.head _))).1, rfl, _, rfl⟩ hh F16 N16 ?_
  intro g17 D17 C17 h17 tk17 I17 St17 Wk17 hst17 hCl17 K17
  have X17 : (hd.heap_1 w.params).In g17 := X1.keeps K17.old
  have hcell17 : g17.get? (L + 1 + 1) = some of6 := K17.own (L + 1 + 1, of6) (by first | k_mem | simp)
  have hCf17 : C17 ∉ [I17, D11] := by
    intro hm
    rcases List.mem_cons.mp hm with e | e
    · exact K17.cw (by rw [e]; exact .head _)
    · exact hCl17 (List.mem_singleton.mp e)
  have hlD17 : D11 ≠ D17 := Nat.ne_of_lt (K17.lt _ _ (N16 _ (.tail _ (.head _))).1)
  have hobj17 : ∀ p ∈ objs, g17.get? p.1 = some p.2 := fun p hp => K17.own p (.tail _ (.tail _ (.tail _ (.tail _ (.tail _ hp)))))
  refine compLoopLed (Q := fun _ _ => True) (fun c : List Value × Nat => [(D17, W.listOf c.1.toArray c.2)]) [] (fun i c => StrsAre c.1 ((ys.take i).map fun y => PySem.Str.mk #[first.cps.toList.getD y.toNat 0]) ∧ c.1.length ≤ i) ([], 0) (turn1 _ _ _ _ _ _ _ _ _) Wk17 hCf17 K17.gw ?_ hst17 K17.F K17.N ?_ rfl rfl ?_ ?_
  · intro p hp; simp only [List.mem_singleton] at hp; subst hp; exact K17.dw
  · exact ⟨.nil, Nat.zero_le _⟩
  · rintro i v ⟨vs', n'⟩ u h tk own hi hv ⟨hI', hsz⟩ hnw hfp F18 N18
    dsimp only [cont_nil, List.cons_append, List.nil_append, compEnvC] at F18 N18 hI' hnw hsz
    have hoff : ∀ p ∈ own, p.1 ≠ D17 := fun p hp e => by
      rcases List.mem_cons.mp (hfp p hp) with q | q
      · exact hnw _ (.head _) (by rw [← e, q]; exact .head _)
      · exact hlD17 (by rw [← e, List.mem_singleton.mp q])
    obtain ⟨pa, px, py, pt, pu, rfl, hpy, hpm⟩ := kS.get i v hv
    have hszW : vs'.length ≤ 1000000 := by omega
    refine body1 ?_
    ((try first | refine genQ (fun Qx hQx => ?_)); k_steps)
    unfold Stop
    refine item_tupleT (l := [.int px pt, .int py pu]) (j := 1) (x := .int py pu) ⟨_, F18.keep _ _ (hobj17 _ hpm), rfl, _, rfl⟩ (by decide) (by decide) (by show seqIndex? 1 2 = some 1; decide) rfl ?_
    ((try first | refine genQ (fun Qx hQx => ?_)); k_steps)
    unfold Stop
    obtain ⟨j, rfl, hj⟩ := hys py (List.mem_of_getElem? hpy)
    have hcj : first.cps[j]? = some (first.cps.toList.getD ((j : Int)).toNat 0) := by
      have h1 : j < first.cps.toList.length := by rw [hfl, List.length_map]; exact hj
      rw [Int.toNat_natCast, List.getD_eq_getElem?_getD, List.getElem?_eq_getElem h1]
      simp
    refine tail_any (T := "str") (typeIs_str _ _ _) PySem.F.slot_str_getitem.lookup (P.getItem_str (c := first.cps.toList.getD ((j : Int)).toNat 0) ?_ ?_ ?_) (by with_unfolding_all rfl)
    · simp only [Bool.or_eq_false_iff, decide_eq_false_iff_not]; omega
    · have hjl : j < first.length := by omega
      have e : seqIndex? (j : Int) first.length = some j := by
        unfold seqIndex?
        have h1 : ¬ ((j : Int) < 0) := by omega
        have h2 : (j : Int) < ((first.length : Nat) : Int) := by omega
        simp [h1]
        omega
      rw [e]; exact hcj
    ((try first | refine genQ (fun Qx hQx => ?_)); k_steps)
    rename Fr _ _ _ _ => F'
    rename News _ _ _ _ => N'
    refine TurnEnd.push F' N' (hnw _ (.head _)) ?_ ⟨?_, ?_⟩
    · intro y h1 _; simp only [if_neg h1]
    · show StrsAre (vs' ++ [_]) _
      rw [List.take_add_one, hpy, List.map_append]
      exact hI'.append' (.cons _ _ .nil)
    · simp only [List.length_append, List.length_cons, List.length_nil]; omega
  rintro ⟨gv, ng⟩ u18 h18 tk18 ⟨hSg, hszg⟩ F18 N18
  refine ⟨_, _, _, [], F18, N18, fun h19 F19 N19 hne19 => ?_⟩
  simp only [List.nil_append] at N19 hSg hszg
  rw [show sv.length = ys.length from kS.len, List.take_length] at hSg
  clear N18 F18 N16 F16
  ((try first | refine genQ (fun Qx hQx => ?_)); k_steps)
  unfold Stop
  have hgsum : ((ys.map fun y => PySem.Str.mk #[first.cps.toList.getD y.toNat 0]).map (·.length)).sum = ys.length := by
    clear hSg
    generalize first.cps.toList = cc
    clear kS kperm hys hszg
    induction ys with
    | nil => rfl
    | cons a r ih => simp only [List.map_cons, List.sum_cons, ih, List.length_cons]; show 1 + _ = _; omega
  have hyl : ys.length = X0.length := by rw [← kS.len]; exact hsv
  refine join_listC (by is_list) hSg (by decide +kernel) (by rw [hgsum, List.length_map, hyl]; exact Nat.le_trans (Nat.add_le_add hX8 (Nat.mul_le_mul_right 64 hX8)) (by decide)) ?_
  intro t20 k20
  have hgl : ∃ gl, gl = Txt.join "" (ys.map fun y => PySem.Str.mk #[first.cps.toList.getD y.toNat 0]) := ⟨_, rfl⟩
  obtain ⟨goalS, hgoal⟩ := hgl
  rw [← hgoal]
  have hgoalc : goalS.cps.toList = ys.map fun y => (X0.map brC).getD y.toNat 0 := by
    rw [hgoal, join_cps, hfl]
    clear hSg hgsum hgoal kS kperm hys hszg hyl
    induction ys with
    | nil => rfl
    | cons a r ih => simp only [List.map_cons, List.flatMap_cons, ih]; rfl
  have hgoalp : goalS.cps.toList.Perm (X0.map brC) := by
    rw [hgoalc]
    have h1 := kperm.map fun (y : Int) => (X0.map brC).getD y.toNat 0
    refine h1.trans ?_
    rw [List.map_map]
    have e : (List.range X0.length).map ((fun (y : Int) => (X0.map brC).getD y.toNat 0) ∘ fun (j : Nat) => (j : Int)) = X0.map brC := by
      apply List.ext_getElem (by first | k_mem | simp)
      intro i h1 h2
      simp only [List.length_map] at h2
      simp [h2]
    have e2 : (List.range (PSt'.mk pv np objs).vs.length) = List.range X0.length := by rw [show (PSt'.mk pv np objs).vs.length = X0.length from kL]
    rw [e]
  obtain ⟨k, rk, H⟩ := plain (X0.map brC) goalS.cps.toList (fun c hc => by
    obtain ⟨x, _, rfl⟩ := List.mem_map.mp hc
    unfold brC; split
    · exact .inl rfl
    · exact .inr rfl) hgoalp (by rw [List.length_map]; exact hX8)
  have hgoall : goalS.cps.size ≤ 1000 := by
    rw [← Array.length_toList, hgoalp.length_eq, List.length_map]; omega
  have F19 : Fr base L h19 fun y => if y = "start" then some (Value.ref lS) else if y = "places" then some (Value.ref D11) else none := F19
  have N20 : News base L h19 ((lS, W.listOf vS.toArray nS) :: (L + 1 + 1 + 1, oa) :: []) := by
    intro p hp
    refine N19 p ?_
    revert p; walk_at "mine sub"
  clear N19
  ((try first | refine genQ (fun Qx hQx => ?_)); k_steps)
  unfold Stop
  refine heights_call G (C1.le (by omega)) F19 N20 hgoall ?_
  intro lG vG nG h21 tk21 hIG F21 N21 hS21
  generalize hfL : X0.map brC = fl at *
  generalize hgL : goalS.cps.toList = gl at *
  rw [hhs] at hIS
  ((try first | refine genQ (fun Qx hQx => ?_)); k_steps)
  unfold Stop
  rename Fr _ _ _ _ => F22
  rename News _ _ _ _ => N22
  refine cells_call G (C1.le (by omega)) F22 N22 (by is_list) hIS H.sz H.pos H.bh ?_
  intro l1 v1 n1 h23 tk23 hI1 F23 N23 hS23
  ((try first | refine genQ (fun Qx hQx => ?_)); k_steps)
  unfold Stop
  refine cells_call G (C1.le (by omega)) F23 N23 (by is_list) hIG (by rw [← H.len]; exact H.sz) (by rw [← H.len]; exact H.pos) H.bg ?_
  intro l2 v2 n2 h24 tk24 hI2' F24 N24 hS24
  ((try first | refine genQ (fun Qx hQx => ?_)); k_steps)
  unfold Stop
  refine sld_call GB G (fun b hb => nomatch hb) (C1.le (by omega)) F24 N24 (by is_list) hI1 (by is_list) hI2' H.chl H.cgl H.ch H.cg ?_
  intro hx tp lm lu vm vu nm nu h25 tk25 _ hx0 _ hIm hIu F25 N25 hS25 hmu
  have e25 := (hx0 rfl).symm
  subst e25
  clear N24 N23 N22 F24 F23 F22
  ((try first | refine genQ (fun Qx hQx => ?_)); k_steps)
  unfold Stop
  refine assign2 hh F25 (v1 := .ref lm) (v2 := .ref lu) ⟨_, (N25 _ (.head _)).1, rfl, _, rfl⟩ rfl rfl rfl ?_
  intro h26 tk26 F26 hk26
  have N26 : News base L h26 ((lm, W.listOf vm.toArray nm) :: (lu, W.listOf vu.toArray nu) :: (lG, W.listOf vG.toArray nG) :: (lS, W.listOf vS.toArray nS) :: (L + 1 + 1 + 1, oa) :: []) := by
    intro p hp
    have h0 := N25 p (by
      revert p; walk_at "mine sub")
    exact ⟨hk26 p.1 p.2 h0.2.1 h0.1, h0.2⟩
  have F26 : Fr base L h26 fun y => if y = "on" then some (Value.ref lu) else if y = "off" then some (Value.ref lm) else if y = "goal" then some (Value.ref lG) else if y = "start" then some (Value.ref lS) else if y = "places" then some (Value.ref D11) else none := F26
  clear N25 F25 hk26
  ((try first | refine genQ (fun Qx hQx => ?_)); k_steps)
  unfold Stop
  refine rounds_call (rk := rk) (k := k) GB G (fun b hb => nomatch hb) (C1.le (by omega)) F26 N26 ⟨_, (N26 _ (.head _)).1, rfl, _, rfl⟩ hIm ⟨_, (N26 _ (.tail _ (.head _))).1, rfl, _, rfl⟩ hIu H.offl H.onl H.rh ?_
  intro hx lr vr nr rob h27 tk27 _ hx0 _ hTT F27 N27 hS27
  have hTT : TT rob vr ((List.range k).map fun t => (rdSt (offOf fl gl) (onOf fl gl) t).2) := hTT
  have hIm : IntsAre vm (offOf fl gl) := hIm
  have hIu : IntsAre vu (onOf fl gl) := hIu
  have e27 := (hx0 rfl).symm
  subst e27
  have N28 : News base L h27 ((lS, W.listOf vS.toArray nS) :: (lr, W.listOf vr.toArray nr) :: (lm, W.listOf vm.toArray nm) :: (lu, W.listOf vu.toArray nu) :: (lG, W.listOf vG.toArray nG) :: (L + 1 + 1 + 1, oa) :: rob) := by
    intro p hp
    refine N27 p ?_
    revert p; walk_at "mine sub"
  clear N27 N26 F26
  ((try first | refine genQ (fun Qx hQx => ?_)); k_steps)
  unfold Stop
  rename Fr _ _ _ _ => F28
  rename News _ _ _ _ => N28
  have kk : ∀ p ∈ (lr, W.listOf vr.toArray nr) :: (lm, W.listOf vm.toArray nm) :: (lu, W.listOf vu.toArray nu) :: (lG, W.listOf vG.toArray nG) :: (L + 1 + 1 + 1, oa) :: rob, lS ≠ p.1 := by
    intro p hp
    simp only [List.mem_cons] at hp
    rcases hp with rfl | rfl | rfl | rfl | rfl | hp
    · exact Ne.symm (hS27 _ (.head _) (lS, W.listOf vS.toArray nS) (by first | k_mem | simp))
    · exact Ne.symm (hS25 (lm, W.listOf vm.toArray nm) (by first | k_mem | simp) (lS, W.listOf vS.toArray nS) (by first | k_mem | simp))
    · exact Ne.symm (hS25 (lu, W.listOf vu.toArray nu) (by first | k_mem | simp) (lS, W.listOf vS.toArray nS) (by first | k_mem | simp))
    · exact Ne.symm (hS21 (lS, W.listOf vS.toArray nS) (.head _))
    · exact hS14 (L + 1 + 1 + 1, oa) (by first | k_mem | simp)
    · exact Ne.symm (hS27 p (.tail _ hp) (lS, W.listOf vS.toArray nS) (by first | k_mem | simp))
  refine walk_call (k := k) G (C1.le (by omega)) F28 N28 kk ⟨_, (N28 (lG, W.listOf vG.toArray nG) (by first | k_mem | simp)).1, rfl, _, rfl⟩ (hS21 _ (.head _)) hIS hIG H.len H.sz H.pos H.k1 H.k2 H.rh.k3 ?_
  intro tw lp lt vp vt np2 nt wob h29 tk29 hLP hLT hlS F29 N29 hS29
  ((try first | refine genQ (fun Qx hQx => ?_)); k_steps)
  unfold Stop
  refine assign2 hh F29 (v1 := .ref lp) (v2 := .ref lt) ⟨_, (N29 _ (.head _)).1, rfl, _, rfl⟩ rfl rfl rfl ?_
  intro h30 tk30 F30 hk30
  have N30 : News base L h30 ((L + 1 + 1 + 1, oa) :: (lp, W.listOf vp.toArray np2) :: (lt, W.listOf vt.toArray nt) :: (lr, W.listOf vr.toArray nr) :: (lm, W.listOf vm.toArray nm) :: (lu, W.listOf vu.toArray nu) :: (lG, W.listOf vG.toArray nG) :: (wob ++ rob)) := by
    intro p hp
    have h0 := N29 p (by
      revert p; walk_at "mine sub")
    exact ⟨hk30 p.1 p.2 h0.2.1 h0.1, h0.2⟩
  have F30 : Fr base L h30 fun y => if y = "turns" then some (Value.ref lt) else if y = "paths" then some (Value.ref lp) else if y = "rounds" then some (Value.ref lr) else if y = "on" then some (Value.ref lu) else if y = "off" then some (Value.ref lm) else if y = "goal" then some (Value.ref lG) else if y = "start" then some (Value.ref lS) else if y = "places" then some (Value.ref D11) else none := F30
  clear N29 F29 hk30 N28 F28
  ((try first | refine genQ (fun Qx hQx => ?_)); k_steps)
  unfold Stop
  refine compTop (cl := []) F30 N30 rfl (by decide) rfl (by decide) ?_
  ((try first | refine genQ (fun Qx hQx => ?_)); k_steps)
  unfold Stop
  refine compIn_listL (items := vr) ⟨_, (N30 (lr, W.listOf vr.toArray nr) (by first | k_mem | simp)).1, rfl, _, rfl⟩ hh F30 N30 ?_
  intro g32 D32 C32 h32 tk32 I32 St32 Wk32 hst32 hCl32 hID32 hlD32 K32
  have X32 : (hd.heap_1 w.params).In g32 := X1.keeps K32.old
  have T32 := T1.keeps K32.old
  have hCf32 : C32 ∉ [I32, lr] := by
    intro hm
    rcases List.mem_cons.mp hm with e | e
    · exact K32.cw (by rw [e]; exact .head _)
    · exact hCl32 (List.mem_singleton.mp e)
  have hrob32 : ∀ p ∈ rob, g32.get? p.1 = some p.2 := fun p hp => K32.own p (by simp [hp])
  have hkl : vr.length = k := by rw [hTT.length]; simp
  refine compLoopLed (Q := fun _ _ => True) (fun c : PSt' => (D32, W.listOf c.vs.toArray c.n) :: c.objs) [] (fun i c => SSt.Ok D32 (fun t => crn (wit (hts fl) (hts gl) t) (hts gl)) i c) ⟨[], 0, []⟩ (turn1 _ _ _ _ _ _ _ _ _) Wk32 hCf32 K32.gw ?_ hst32 K32.F K32.N ?_ rfl rfl ?_ ?_
  · intro p hp; simp only [List.mem_singleton] at hp; subst hp; exact K32.dw
  · exact ⟨.nil, fun q hq => nomatch hq⟩
  · rintro i v ⟨pv2, n', objs2⟩ u h tk own hi hv hP hnw hfp F33 N33
    dsimp only [cont_nil, List.cons_append, compEnvC] at F33 N33 hP hnw
    have hoff : ∀ p ∈ objs2 ++ own, p.1 ≠ D32 := by
      intro p hp e
      rcases List.mem_append.mp hp with q | q
      · exact hP.al p q e
      · rcases List.mem_cons.mp (hfp p q) with z | z
        · exact hnw _ (.head _) (by rw [← e, z]; exact .head _)
        · exact absurd hlD32 (by rw [← e, List.mem_singleton.mp z]; exact Nat.lt_irrefl _)
    have hik : i < k := by rw [← hkl]; exact hi
    obtain ⟨ra, rv, rfl, hrm, hrI⟩ := hTT.get i v hv (by simpa using hik)
    have hszW : pv2.length ≤ 1000000 := by have h1 := hP.l.length; have h2 := H.rh.k3; simp only [List.length_map, List.length_range] at h1; omega
    refine body1 ?_
    ((try first | refine genQ (fun Qx hQx => ?_)); k_steps)
    unfold Stop
    refine sorted_tup F33 N33 (F33.keep _ _ (hrob32 _ hrm)) hrI (by rw [hrI.length]; simpa using H.r64 i) ?_
    intro Ds sv3 ns3 c3 h34 F34 N34 hlt34 hI34 hp34 hs34
    have q34 : @LT.lt Nat _ D32 Ds := hlt34 _ _ (N33 _ (.head _)).1
    have e34 : ns3 = crn (wit (hts fl) (hts gl) i) (hts gl) := H.srt i hik ns3 (by simpa using hp34) hs34
    ((try first | refine genQ (fun Qx hQx => ?_)); k_steps)
    rename_i h35 F35 N35
    have hDs : Ds ≠ D32 := Nat.ne_of_gt q34
    have hI35 : IntsAre sv3 (crn (wit (hts fl) (hts gl) i) (hts gl)) := by rw [← e34]; exact hI34
    have epush : W.listOf (pv2.toArray.push (Value.ref Ds)) (n' + 1) = W.listOf (pv2 ++ [Value.ref Ds]).toArray (n' + 1) := by congr 1; simp
    rw [epush] at N35
    refine ⟨⟨pv2 ++ [.ref Ds], n' + 1, (Ds, W.listOf sv3.toArray c3) :: objs2⟩, _, _, _, _, rfl, F35, N35, ?_, ?_, ?_, (fun p hp => nomatch hp), ?_, ⟨?_, ?_⟩⟩
    · intro p hp
      revert p; walk_at "mine sub"
    · intro p hp
      exact .tail _ (.tail _ (List.mem_append_right _ hp))
    · intro p hp
      rcases List.mem_cons.mp hp with rfl | hp
      · exact hnw (D32, W.listOf pv2.toArray n') (.head _)
      rcases List.mem_cons.mp hp with rfl | hp
      · intro hm
        have e : Ds = I32 := List.mem_singleton.mp hm
        exact absurd (Nat.lt_trans hID32 q34) (by rw [e]; exact Nat.lt_irrefl _)
      · exact hnw p (.tail _ hp)
    · intro z h1 _ _; simp only [if_neg h1]
    · show LL ((Ds, W.listOf sv3.toArray c3) :: objs2) (pv2 ++ [.ref Ds]) _
      rw [List.range_succ, List.map_append]
      exact (hP.l.mono fun p hp => .tail _ hp).snoc (.head _) hI35
    · intro q hq
      rcases List.mem_cons.mp hq with rfl | hq
      · exact hDs
      · exact hP.al q hq
  rintro ⟨qv, nq, qob⟩ u33 h33 tk33 ⟨kQ, kQA⟩ F33 N33
  refine ⟨_, _, _, qob, F33, N33, fun h34 F34 N34 hne34 => ?_⟩
  dsimp only at N34 kQ kQA hne34
  rw [hkl] at kQ
  clear N33 F33
  ((try first | refine genQ (fun Qx hQx => ?_)); k_steps)
  unfold Stop
  refine ne_LL (news := qob ++ wob) (l := (List.range k).map fun t => crn (wit (hts fl) (hts gl) t) (hts gl)) (vs := qv) (us := vt) ⟨_, (N34 _ (.head _)).1, rfl, nq, rfl⟩ ⟨_, (N34 (lt, W.listOf vt.toArray nt) (by first | k_mem | simp)).1, rfl, nt, rfl⟩ (fun p hp => (N34 p (by
    rcases List.mem_append.mp hp with h | h
    · exact .tail _ (List.mem_append_left _ h)
    · exact .tail _ (List.mem_append_right _ (by simp [h])))).1) (kQ.mono fun p hp => List.mem_append_left _ hp) (hLT.mono fun p hp => List.mem_append_right _ hp) hu64 ?_
  have N36 : News base L h34 ((L + 1 + 1 + 1, oa) :: (lp, W.listOf vp.toArray np2) :: (lr, W.listOf vr.toArray nr) :: (lm, W.listOf vm.toArray nm) :: (lu, W.listOf vu.toArray nu) :: (lG, W.listOf vG.toArray nG) :: (wob ++ rob)) := by
    intro p hp
    refine N34 p (.tail _ (List.mem_append_right _ ?_))
    revert p; walk_at "mine sub"
  clear N34
  ((try first | refine genQ (fun Qx hQx => ?_)); k_steps)
  unfold Stop
  have hvpl : vp.length = k + 1 := by rw [hLP.length]; simp
  obtain ⟨vk, hvk⟩ : ∃ v, vp[k]? = some v := ⟨_, List.getElem?_eq_getElem (by omega)⟩
  obtain ⟨la, va, nla, rfl, hlam, hlaI⟩ := hLP.get k vk hvk (by first | k_mem | simp)
  have hla : (la, W.listOf va.toArray nla) ∈ (L + 1 + 1 + 1, oa) :: (lp, W.listOf vp.toArray np2) :: (lr, W.listOf vr.toArray nr) :: (lm, W.listOf vm.toArray nm) :: (lu, W.listOf vu.toArray nu) :: (lG, W.listOf vG.toArray nG) :: (wob ++ rob) := by simp [hlam]
  refine item_lastV (vs := vp) ⟨_, (N36 (lp, W.listOf vp.toArray np2) (by first | k_mem | simp)).1, rfl, np2, rfl⟩ (by rw [List.getLast?_eq_getElem?, hvpl]; exact hvk) ?_
  ((try first | refine genQ (fun Qx hQx => ?_)); k_steps)
  unfold Stop
  refine ne_intsK (vs := va) (us := vG) ⟨_, (N36 _ hla).1, rfl, nla, rfl⟩ hlaI ⟨_, (N36 (lG, W.listOf vG.toArray nG) (by first | k_mem | simp)).1, rfl, nG, rfl⟩ hIG hu64 ?_
  have efin : (!decide (((List.range (k + 1)).map (wit (hts fl) (hts gl)))[k]'(by first | k_mem | simp) = hts gl)) = false := by simp [H.fin]
  rw [efin]
  ((try first | refine genQ (fun Qx hQx => ?_)); k_steps)
  unfold Stop
  refine wpAny_For (?_ : wpAny _ _ _ (SegIter _) _ _)
  have mk1 : Mark := trivial
  ((try first | refine genQ (fun Qx hQx => ?_)); k_steps)
  unfold Stop
  refine PyProof.Rows.len_list (items := vp.toArray) ⟨_, (N36 (lp, W.listOf vp.toArray np2) (by first | k_mem | simp)).1, rfl, np2, rfl⟩ (by rw [List.size_toArray]; have := H.rh.k3; omega) ?_
  have eL : ((vp.toArray.size : Nat) : Int) = ((k + 1 : Nat) : Int) := by rw [List.size_toArray, hvpl]
  rw [eL]
  ((try first | refine genQ (fun Qx hQx => ?_)); k_steps)
  rename IsRange _ _ _ _ _ _ _ _ => R37
  rename Fr _ _ _ _ => F37
  rename News _ _ _ _ => N37
  unfold Stop SegIter
  refine wpAny_pyIter_range R37 (small_one (by decide) (by decide) (by have := H.rh.k3; omega) (by have := H.rh.k3; omega)) ?_
  rename_i h37 _ _ _ _ _
  have hL3 : ∀ p ∈ (lp, W.listOf vp.toArray np2) :: (lr, W.listOf vr.toArray nr) :: (lm, W.listOf vm.toArray nm) :: (lu, W.listOf vu.toArray nu) :: (lG, W.listOf vG.toArray nG) :: (wob ++ rob), p.1 ≠ L + 1 + 1 + 1 := by
    intro p hp
    simp only [List.mem_cons, List.mem_append] at hp
    rcases hp with rfl | rfl | rfl | rfl | rfl | hp | hp
    · exact hS29 (lp, W.listOf vp.toArray np2) (by first | k_mem | simp) (L + 1 + 1 + 1, oa) (by first | k_mem | simp)
    · exact hS27 (lr, W.listOf vr.toArray nr) (by first | k_mem | simp) (L + 1 + 1 + 1, oa) (by first | k_mem | simp)
    · exact hS25 (lm, W.listOf vm.toArray nm) (by first | k_mem | simp) (L + 1 + 1 + 1, oa) (by first | k_mem | simp)
    · exact hS25 (lu, W.listOf vu.toArray nu) (by first | k_mem | simp) (L + 1 + 1 + 1, oa) (by first | k_mem | simp)
    · exact hS21 (L + 1 + 1 + 1, oa) (by first | k_mem | simp)
    · exact hS29 p (by simp [hp]) (L + 1 + 1 + 1, oa) (by first | k_mem | simp)
    · exact hS27 p (by simp [hp]) (L + 1 + 1 + 1, oa) (by first | k_mem | simp)
  have n37 : base.get? h37.objs.size = none := next_is_new F37
  have iL : h37.objs.size ≠ L := fun e => by have := F37.ns.lt; rw [← e] at this; exact absurd this (Nat.lt_irrefl _)
  have Wk : Walks pw w (A₀.deeper _) h37.objs.size [h37.objs.size] [h37.objs.size] (k + 1) (fun i v => ∃ t, v = .int (0 + i * 1) t) _ := Walks.range (prog := pw) (w := w) hh h37.objs.size 0 1 (k + 1)
  have hI37 : ∀ p ∈ (L + 1 + 1 + 1, oa) :: (lp, W.listOf vp.toArray np2) :: (lr, W.listOf vr.toArray nr) :: (lm, W.listOf vm.toArray nm) :: (lu, W.listOf vu.toArray nu) :: (lG, W.listOf vG.toArray nG) :: (wob ++ rob), p.1 < h37.objs.size := fun p hp => Heap.lt_size (N37 p hp).1
  refine forAny (fun A m s' => LawT base L h37.objs.size k s (fun u y => if y = "turn" then u else if y = "turns" then some (Value.ref lt) else if y = "paths" then some (Value.ref lp) else if y = "rounds" then some (Value.ref lr) else if y = "on" then some (Value.ref lu) else if y = "off" then some (Value.ref lm) else if y = "goal" then some (Value.ref lG) else if y = "start" then some (Value.ref lS) else if y = "places" then some (Value.ref D11) else none)
      (fun oa' => (L + 1 + 1 + 1, oa') :: (lp, W.listOf vp.toArray np2) :: (lr, W.listOf vr.toArray nr) :: (lm, W.listOf vm.toArray nm) :: (lu, W.listOf vu.toArray nu) :: (lG, W.listOf vG.toArray nG) :: (wob ++ rob)) m s') ?_ (k + 2) ⟨0, _, _, _, oa, none, (fun y : Str => if y = "turns" then some (Value.ref lt) else if y = "paths" then some (Value.ref lp) else if y = "rounds" then some (Value.ref lr) else if y = "on" then some (Value.ref lu) else if y = "off" then some (Value.ref lm) else if y = "goal" then some (Value.ref lG) else if y = "start" then some (Value.ref lS) else if y = "places" then some (Value.ref D11) else none) "turn", Nat.zero_le _, by omega, rfl, hgens, ?_, ?_, (fun p hp => ⟨Heap.get?_push_of_some _ (N37 p hp).1, (N37 p hp).2⟩), ca⟩
  case refine_2 =>
    have e : Builtin.Range.rangeSize 0 ((k + 1 : Nat) : Int) 1 = ((k + 1 : Nat) : Int) := by rw [rangeSize_nat]; omega
    rw [e]
    simpa using Heap.get?_push_size _ rfl
  case refine_3 =>
    have F38 := F37.push { cls := .type "range_iterator", data := .fields #[rawInt 0, rawInt (Builtin.Range.rangeSize 0 ((k + 1 : Nat) : Int) 1), rawInt 1] }
    exact fr_self "turn" F38
  clear F37 N37 F30 N30
  rintro m s' ⟨i, h38, tk38, gens38, oa38, v0, u38, hi, rfl, rfl, hb38, hst38, F38, N38, hd38⟩
  try dsimp only at F38 N38
  have keep1 : ∀ h₁ : Heap, (∀ b o, b ∉ [h37.objs.size] → h38.get? b = some o → h₁.get? b = some o) → ∀ {mm}, Fr base L h38 mm → Fr base L h₁ mm := fun h₁ hk₁ mm F => ⟨F.ns.at' fun o e => hk₁ _ o (by simpa using Ne.symm iL) e, fun b o e => hk₁ b o (fun hm => by rw [List.mem_singleton.mp hm, n37] at e; cases e) (F.keep b o e), F.above⟩
  rcases Nat.lt_or_ge i (k + 1) with hlt | hge
  · refine Wk.item i _ _ _ hlt hst38 fun v h39 tk39 hPv hst39 hk39 => ?_
    obtain ⟨t39, rfl⟩ := hPv
    have F39 := keep1 h39 hk39 F38
    have hI38 : ∀ p ∈ (L + 1 + 1 + 1, oa38) :: (lp, W.listOf vp.toArray np2) :: (lr, W.listOf vr.toArray nr) :: (lm, W.listOf vm.toArray nm) :: (lu, W.listOf vu.toArray nu) :: (lG, W.listOf vG.toArray nG) :: (wob ++ rob), p.1 ≠ h37.objs.size := fun p hp => by
      rcases List.mem_cons.mp hp with rfl | hp
      · exact Nat.ne_of_lt (hI37 (L + 1 + 1 + 1, oa) (.head _))
      · exact Nat.ne_of_lt (hI37 p (.tail _ hp))
    have N39 : News base L h39 ((L + 1 + 1 + 1, oa38) :: (lp, W.listOf vp.toArray np2) :: (lr, W.listOf vr.toArray nr) :: (lm, W.listOf vm.toArray nm) :: (lu, W.listOf vu.toArray nu) :: (lG, W.listOf vG.toArray nG) :: (wob ++ rob)) := fun p hp => ⟨hk39 _ _ (fun hm => hI38 p hp (List.mem_singleton.mp hm)) (N38 p hp).1, (N38 p hp).2⟩
    refine wpAny_of_eq (a := ()) rfl ?_
    refine wpAny_assign_Name (wpAny_storeName_local rfl F39.ns (fun h40 hn40 hs40 => ?_) rfl)
    have F40 := fr_two (F39.set hn40 hs40)
    have ei : (0 + (i : Int) * 1) = (i : Int) := by omega
    rw [ei] at F40
    have hst40 : h40.get? h37.objs.size = some { cls := .type "range_iterator", data := .fields #[rawInt (0 + ((i + 1 : Nat) : Int) * 1), rawInt (((k + 1 : Nat) : Int) - ((i + 1 : Nat) : Int)), rawInt 1] } := (hs40.2 _ iL).trans hst39
    generalize hoI : ({ cls := .type "range_iterator", data := .fields #[rawInt (0 + ((i + 1 : Nat) : Int) * 1), rawInt (((k + 1 : Nat) : Int) - ((i + 1 : Nat) : Int)), rawInt 1] } : Obj) = oI at hst40
    have N40 : News base L h40 ((L + 1 + 1 + 1, oa38) :: (h37.objs.size, oI) :: (lp, W.listOf vp.toArray np2) :: (lr, W.listOf vr.toArray nr) :: (lm, W.listOf vm.toArray nm) :: (lu, W.listOf vu.toArray nu) :: (lG, W.listOf vG.toArray nG) :: (wob ++ rob)) := by
      have Ns := N39.set hs40
      intro p hp
      rcases List.mem_cons.mp hp with rfl | hp
      · exact Ns _ (.head _)
      rcases List.mem_cons.mp hp with rfl | hp
      · exact ⟨hst40, iL, n37⟩
      · exact Ns p (.tail _ hp)
    generalize hIad : h37.objs.size = I37 at *
    clear N39 F39 N38 F38
    ((try first | refine genQ (fun Qx hQx => ?_)); k_steps)
    unfold Stop
    refine compTop (cl := []) F40 N40 rfl (by decide) rfl (by decide) ?_
    ((try first | refine genQ (fun Qx hQx => ?_)); k_steps)
    unfold Stop
    refine kmk_slice_lit (zs := vr.drop i) (its := vr.toArray) F40 N40 ⟨_, (N40 (lr, W.listOf vr.toArray nr) (by first | k_mem | simp)).1, rfl, nr, rfl⟩ (.int _ _) .none (pickV_from vr i) ?_ (by with_unfolding_all rfl) (by intro _; with_unfolding_all rfl) (by rw [List.size_toArray, hkl]; exact Nat.le_trans H.rh.k3 (by decide))
    intro D41 h41 F41 N41 lt41
    ((try first | refine genQ (fun Qx hQx => ?_)); k_steps)
    unfold Stop
    refine compIn_listL (items := vr.drop i) ⟨_, (N41 _ (.head _)).1, rfl, 0, rfl⟩ hh F41 (fun p hp => N41 p (.tail _ hp)) ?_
    intro g42 D42 C42 h42 tk42 I42 St42 Wk42 hst42 hCl42 hID42 hlD42 K42
    have X42 : (hd.heap_1 w.params).In g42 := X1.keeps K42.old
    have hCf42 : C42 ∉ [I42, D41] := by
      intro hm
      rcases List.mem_cons.mp hm with e | e
      · exact K42.cw (by rw [e]; exact .head _)
      · exact hCl42 (List.mem_singleton.mp e)
    have hrob42 : ∀ p ∈ rob, g42.get? p.1 = some p.2 := fun p hp => K42.own p (by simp [hp])
    have q42 : @LT.lt Nat _ (L + 1 + 1 + 1) D42 := K42.lt _ _ (N41 (L + 1 + 1 + 1, oa38) (by first | k_mem | simp)).1
    refine compLoopLed (Q := fun _ _ => True) (fun c : List Value × Nat => [(D42, W.listOf c.1.toArray c.2)]) [("cell" : Str)] (fun j c => IntsAre c.1 ((((List.range k).drop i).take j).flatMap fun t => (rdSt (offOf fl gl) (onOf fl gl) t).2) ∧ c.1.length ≤ 100 * j) ([], 0) (turn2a _ _ _ _ _ _ _ _ _ _ _ _) Wk42 hCf42 K42.gw ?_ hst42 K42.F K42.N ?_ rfl rfl ?_ ?_
    · intro p hp; simp only [List.mem_singleton] at hp; subst hp; exact K42.dw
    · exact ⟨.nil, Nat.zero_le _⟩
    · rintro j v ⟨vs', n'⟩ u h tk own hj hv ⟨hI', hsz⟩ hnw hfp F43 N43
      simp only [List.cons_append, List.nil_append] at F43 N43 hI' hnw hsz
      dsimp only [compEnvC] at F43 N43
      have hij : i + j < k := by rw [List.length_drop, hkl] at hj; omega
      rw [List.getElem?_drop] at hv
      obtain ⟨ra, rv, rfl, hrm, hrI⟩ := hTT.get (i + j) v hv (by simpa using hij)
      have hrI : IntsAre rv (rdSt (offOf fl gl) (onOf fl gl) (i + j)).2 := by simpa using hrI
      have hoff : ∀ p ∈ own, p.1 ≠ D42 := fun p hp e => by
        rcases List.mem_cons.mp (hfp p hp) with z | z
        · exact hnw _ (.head _) (by rw [← e, z]; exact .head _)
        · exact absurd hlD42 (by rw [← e, List.mem_singleton.mp z]; exact Nat.lt_irrefl _)
      have hra : g42.get? ra = some (tupObj rv) := hrob42 _ hrm
      refine body2a (by intro _; rfl) ?_
      ((try first | refine genQ (fun Qx hQx => ?_)); k_steps)
      refine inner_tuple (items := rv) ⟨_, F43.keep _ _ hra, rfl, _, rfl⟩ (fun e => by have h1 := (F43.ns.lt); have := K42.lt ra; exact absurd (Heap.lt_size hra) (by rw [← e]; exact Nat.not_lt.mpr F43.above)) hh F43 N43 ?_
      intro J42 St43 h44 Wj hst44 F44 N44 hCJ hnJ hgJ
      refine compLoopLed (Q := fun _ _ => True) (fun c : List Value × Nat => (D42, W.listOf c.1.toArray c.2) :: own) [] (fun l c => IntsAre c.1 (((((List.range k).drop i).take j).flatMap fun t => (rdSt (offOf fl gl) (onOf fl gl) t).2) ++ (rdSt (offOf fl gl) (onOf fl gl) (i + j)).2.take l) ∧ c.1.length ≤ 100 * j + l) (vs', n') (turn2b _ _ _ _ _ _ _ _ _ _ _ _) Wj hCJ hgJ hnJ hst44 F44 N44 ?_ rfl rfl ?_ ?_
      · exact ⟨by simpa using hI', by simpa using hsz⟩
      · rintro l v ⟨ws, n''⟩ u' h' tk' own' hl hv' ⟨hI'', hsz'⟩ hnw' hfp' F45 N45
        dsimp only [cont_nil, List.cons_append, compEnvC] at F45 N45 hI'' hnw'
        obtain ⟨z, hz⟩ : ∃ z, (rdSt (offOf fl gl) (onOf fl gl) (i + j)).2[l]? = some z := by
          rw [hrI.length] at hl
          exact ⟨_, List.getElem?_eq_getElem hl⟩
        obtain ⟨tz, htz⟩ := hrI.get l z hz
        rw [htz] at hv'
        cases hv'
        have hoff2 : ∀ p ∈ own ++ own', p.1 ≠ D42 := by
          intro p hp e
          rcases List.mem_append.mp hp with q | q
          · exact hoff p q e
          · rcases List.mem_cons.mp (hfp' p q) with y | y
            · exact hnw' _ (.head _) (by rw [← e, y]; exact .head _)
            · have h1 := (N45 (D42, W.listOf ws.toArray n'') (.head _)).2.2
              rw [← e, List.mem_singleton.mp y, hra] at h1; cases h1
        have hszW : ws.length ≤ 1000000 := by
          have h2 := H.rh.k3
          have h3 := H.r64 (i + j)
          rw [hrI.length] at hl
          dsimp only at hsz'
          omega
        refine body1 ?_
        ((try first | refine genQ (fun Qx hQx => ?_)); k_steps)
        rename Fr _ _ _ _ => F'
        rename News _ _ _ _ => N'
        refine TurnEnd.pushR (rest := own) F' N' (hnw' _ (.head _)) (fun p hp => hnw' p (.tail _ hp)) ?_ ⟨?_, ?_⟩
        · intro y h1 _; simp only [if_neg h1]
        · show IntsAre (ws ++ [_]) _
          rw [List.take_add_one, hz, ← List.append_assoc]
          exact hI''.append (.cons _ _ .nil)
        · simp only [List.length_append, List.length_cons, List.length_nil]; dsimp only at hsz'; omega
      · rintro ⟨ws, n''⟩ u' h' tk' ⟨hI'', hsz'⟩ F45 N45
        refine TurnEnd.pass F45 N45 (hnw _ (.head _)) ?_ ⟨?_, ?_⟩
        · intro y h1 h2
          have h3 := notin1 h2
          simp only [if_neg h3, List.contains_nil, Bool.false_eq_true, if_false, if_neg h1, h2]
        · dsimp only at hI'' ⊢
          rw [hrI.length, List.take_length] at hI''
          rw [List.take_add_one, List.getElem?_drop, List.getElem?_range hij, List.flatMap_append]
          simpa using hI''
        · dsimp only at hsz' ⊢
          have h3 := H.r64 (i + j)
          rw [hrI.length] at hsz'
          omega
    rintro ⟨av, na⟩ u43 h43 tk43 ⟨hIa, hsza⟩ F43 N43
    refine ⟨_, _, _, [], F43, N43, fun h44 F44 N44 hne44 => ?_⟩
    simp only [List.nil_append] at N44
    dsimp only at hIa hsza hne44
    have hIa : IntsAre av (aheadOf (offOf fl gl) (onOf fl gl) k i) := by
      have e1 : (vr.drop i).length = ((List.range k).drop i).length := by simp [hkl]
      rw [e1, List.take_length] at hIa
      exact hIa
    clear N43 F43 N41 F41 N40 F40
    have hL3' : ∀ p ∈ (I37, oI) :: (lp, W.listOf vp.toArray np2) :: (lr, W.listOf vr.toArray nr) :: (lm, W.listOf vm.toArray nm) :: (lu, W.listOf vu.toArray nu) :: (lG, W.listOf vG.toArray nG) :: (wob ++ rob), p.1 ≠ L + 1 + 1 + 1 := by
      intro p hp
      rcases List.mem_cons.mp hp with rfl | hp
      · exact Ne.symm (hI38 (L + 1 + 1 + 1, oa38) (.head _))
      · exact hL3 p hp
    refine storeX_C (c := L + 1 + 1 + 1) F44 N44 rfl (.tail (Nat.ne_of_gt q42) (.head hL3')) hd38 ?_ rfl rfl
    intro h45 oa45 F45 N45 cd45
    have cd45 : oa45.data = .cell (some (.ref D42)) := cd45
    obtain ⟨v46, hv46⟩ : ∃ v, vp[i]? = some v := ⟨_, List.getElem?_eq_getElem (by omega)⟩
    obtain ⟨lA, vA, nA, rfl, hlAm, hlAI⟩ := hLP.get i v46 hv46 (by simp; omega)
    have hlAI : IntsAre vA (wit (hts fl) (hts gl) i) := by simpa using hlAI
    have hik1 : i ≤ k := by omega
    have wlen : (wit (hts fl) (hts gl) i).length = (hts fl).length := wit_len _ _ _
    have e46 : ((i : Int)).toNat = i := by omega
    ((try first | refine genQ (fun Qx hQx => ?_)); k_steps)
    unfold Stop
    refine item_listL (l := vp) ⟨_, (N45 (lp, W.listOf vp.toArray np2) (by first | k_mem | simp)).1, rfl, np2, rfl⟩ (by omega) (by have := H.rh.k3; omega) (by rw [e46]; exact hv46) ?_
    ((try first | refine genQ (fun Qx hQx => ?_)); k_steps)
    unfold Stop
    refine mixed_call G (C1.le (by omega)) F45 N45 ⟨_, (N45 (lA, W.listOf vA.toArray nA) (by simp [hlAm])).1, rfl, nA, rfl⟩ hlAI ⟨_, (N45 (lG, W.listOf vG.toArray nG) (by first | k_mem | simp)).1, rfl, nG, rfl⟩ hIG (by rw [wlen]; exact H.len) (by rw [wlen]; exact H.sz) (by rw [wlen]; exact H.pos) (by rw [wlen]; exact H.mx1 i hik1) ?_
    intro t47 h47 tk47 F47 N47
    rw [wlen]
    ((try first | refine genQ (fun Qx hQx => ?_)); k_steps)
    unfold Stop
    refine paren_call G (C1.le (by omega)) F47 N47 (mix_chars _ _ _) (by rw [mix_size]; have := H.sz; omega) ?_
    intro h48 tk48 gens48 hb48 F48 N48
    have hb48 : AllBare gens48 := hb48 hb38
    rw [H.p1 i hik1]
    ((try first | refine genQ (fun Qx hQx => ?_)); k_steps)
    unfold Stop
    refine compTop (cl := [(("ahead" : Str), L + 1 + 1 + 1)]) F48 N48 rfl (by decide) rfl (by decide) ?_
    ((try first | refine genQ (fun Qx hQx => ?_)); k_steps)
    unfold Stop
    refine compIn_listL (items := vm) ⟨_, (N48 (lm, W.listOf vm.toArray nm) (by first | k_mem | simp)).1, rfl, _, rfl⟩ hh F48 N48 ?_
    intro g50 D50 C50 h50 tk50 I50 St50 Wk50 hst50 hCl50 hID50 hlD50 K50
    have X50 : (hd.heap_1 w.params).In g50 := X1.keeps K50.old
    have hcell50 : g50.get? (L + 1 + 1 + 1) = some oa45 := K50.own (L + 1 + 1 + 1, oa45) (by first | k_mem | simp)
    have hls50 : g50.IsList D42 av.toArray := ⟨_, K50.own (D42, W.listOf av.toArray na) (by first | k_mem | simp), rfl, na, rfl⟩
    have hCf50 : C50 ∉ [I50, lm] := by
      intro hm
      rcases List.mem_cons.mp hm with e | e
      · exact K50.cw (by rw [e]; exact .head _)
      · exact hCl50 (List.mem_singleton.mp e)
    have hal50 : (aheadOf (offOf fl gl) (onOf fl gl) k i).length ≤ 100000 := by
      rw [← hIa.length]
      have h1 : (vr.drop i).length ≤ 1000 := by rw [List.length_drop, hkl]; have := H.rh.k3; omega
      exact Nat.le_trans hsza (by omega)
    refine compLoopLed (Q := fun _ _ => True) (fun c : List Value × Nat => [(D50, W.listOf c.1.toArray c.2)]) [] (fun j c => IntsAre c.1 (((offOf fl gl).take j).filter fun x => decide (x ∈ aheadOf (offOf fl gl) (onOf fl gl) k i)) ∧ c.1.length ≤ j) ([], 0) (turn1t _ _ _ _ _ _ _ _ _ _) Wk50 hCf50 K50.gw ?_ hst50 K50.F K50.N ?_ rfl rfl ?_ ?_
    · intro p hp; simp only [List.mem_singleton] at hp; subst hp; exact K50.dw
    · exact ⟨.nil, Nat.zero_le _⟩
    · rintro j v ⟨vs', n'⟩ u h tk own hj hv ⟨hI', hsz⟩ hnw hfp F51 N51
      dsimp only [cont_nil, List.cons_append, List.nil_append, compEnvC] at F51 N51 hI' hnw hsz
      have hoff : ∀ p ∈ own, p.1 ≠ D50 := fun p hp e => by
        rcases List.mem_cons.mp (hfp p hp) with q | q
        · exact hnw _ (.head _) (by rw [← e, q]; exact .head _)
        · exact absurd hlD50 (by rw [← e, List.mem_singleton.mp q]; exact Nat.lt_irrefl _)
      obtain ⟨z, hz⟩ : ∃ z, (offOf fl gl)[j]? = some z := by
        rw [hIm.length] at hj
        exact ⟨_, List.getElem?_eq_getElem hj⟩
      obtain ⟨tz, htz⟩ := hIm.get j z hz
      rw [htz] at hv
      cases hv
      have hszW : vs'.length ≤ 1000000 := by have h1 := H.offl; rw [hIm.length] at hj; omega
      refine body1t ?_
      ((try first | refine genQ (fun Qx hQx => ?_)); k_steps)
      · rename ((aheadOf _ _ _ _).any _) = true => hb9
        rename Fr _ _ _ _ => F10
        rename News _ _ _ _ => N10
        rw [any_beq] at hb9
        refine TurnEnd.push F10 N10 (hnw _ (.head _)) ?_ ⟨?_, ?_⟩
        · intro y h1 _; simp only [if_neg h1]
        · show IntsAre (vs' ++ [_]) _
          rw [List.take_add_one, hz, List.filter_append]
          refine hI'.append ?_
          simp only [Option.toList, List.filter_cons, hb9, if_true, List.filter_nil]
          exact .cons _ _ .nil
        · simp only [List.length_append, List.length_cons, List.length_nil]; omega
      · rename ((aheadOf _ _ _ _).any _) = false => hb9
        rename Fr _ _ _ _ => F10
        rename News _ _ _ _ => N10
        rw [any_beq] at hb9
        refine TurnEnd.pass F10 N10 (hnw _ (.head _)) ?_ ⟨?_, ?_⟩
        · intro y h1 _; simp only [if_neg h1]
        · rw [List.take_add_one, hz, List.filter_append]
          simp only [Option.toList, List.filter_cons, hb9, Bool.false_eq_true, if_false, List.filter_nil, List.append_nil]
          exact hI'
        · dsimp only; omega
    rintro ⟨fv, nf⟩ u51 h51 tk51 ⟨hIf, hszf⟩ F51 N51
    refine ⟨_, _, _, [], F51, N51, fun h52 F52 N52 hne52 => ?_⟩
    simp only [List.nil_append] at N52
    dsimp only at hIf hszf hne52
    rw [hIm.length, List.take_length] at hIf
    clear N51 F51 N48 F48
    ((try first | refine genQ (fun Qx hQx => ?_)); k_steps)
    try (focus (rename (_ != _) = true => hbad; simp at hbad; done))
    rename_i le1 h53 F53 N53' _
    have N53 : News base L h53 ((D42, W.listOf av.toArray na) :: (L + 1 + 1 + 1, oa45) :: (I37, oI) :: (lp, W.listOf vp.toArray np2) :: (lr, W.listOf vr.toArray nr) :: (lm, W.listOf vm.toArray nm) :: (lu, W.listOf vu.toArray nu) :: (lG, W.listOf vG.toArray nG) :: (wob ++ rob)) := fun p hp => N53' p (.tail _ (.tail _ hp))
    clear N53'
    unfold Stop
    refine item_listL (l := vp) ⟨_, (N53 (lp, W.listOf vp.toArray np2) (by first | k_mem | simp)).1, rfl, np2, rfl⟩ (by omega) (by have := H.rh.k3; omega) (by rw [e46]; exact hv46) ?_
    ((try first | refine genQ (fun Qx hQx => ?_)); k_steps)
    unfold Stop
    refine mixed_call G (C1.le (by omega)) F53 N53 ⟨_, (N53 (lG, W.listOf vG.toArray nG) (by first | k_mem | simp)).1, rfl, nG, rfl⟩ hIG ⟨_, (N53 (lA, W.listOf vA.toArray nA) (by simp [hlAm])).1, rfl, nA, rfl⟩ hlAI (by rw [wlen]; exact H.len.symm) (by rw [← H.len]; exact H.sz) (by rw [← H.len]; exact H.pos) (by rw [← H.len]; exact H.mx2 i hik1) ?_
    intro t54 h54 tk54 F54 N54
    rw [← H.len]
    ((try first | refine genQ (fun Qx hQx => ?_)); k_steps)
    unfold Stop
    refine paren_call G (C1.le (by omega)) F54 N54 (mix_chars _ _ _) (by rw [mix_size]; have := H.sz; omega) ?_
    intro h55 tk55 gens55 hb55 F55 N55
    have hb55 : AllBare gens55 := hb55 hb48
    rw [H.p2 i hik1]
    ((try first | refine genQ (fun Qx hQx => ?_)); k_steps)
    unfold Stop
    refine compTop (cl := [(("ahead" : Str), L + 1 + 1 + 1)]) F55 N55 rfl (by decide) rfl (by decide) ?_
    ((try first | refine genQ (fun Qx hQx => ?_)); k_steps)
    unfold Stop
    refine compIn_listL (items := vu) ⟨_, (N55 (lu, W.listOf vu.toArray nu) (by first | k_mem | simp)).1, rfl, _, rfl⟩ hh F55 N55 ?_
    intro g56 D56 C56 h56 tk56 I56 St56 Wk56 hst56 hCl56 hID56 hlD56 K56
    have X56 : (hd.heap_1 w.params).In g56 := X1.keeps K56.old
    have hcell56 : g56.get? (L + 1 + 1 + 1) = some oa45 := K56.own (L + 1 + 1 + 1, oa45) (by first | k_mem | simp)
    have hls56 : g56.IsList D42 av.toArray := ⟨_, K56.own (D42, W.listOf av.toArray na) (by first | k_mem | simp), rfl, na, rfl⟩
    have hCf56 : C56 ∉ [I56, lu] := by
      intro hm
      rcases List.mem_cons.mp hm with e | e
      · exact K56.cw (by rw [e]; exact .head _)
      · exact hCl56 (List.mem_singleton.mp e)
    have hal56 : (aheadOf (offOf fl gl) (onOf fl gl) k i).length ≤ 100000 := by
      rw [← hIa.length]
      have h1 : (vr.drop i).length ≤ 1000 := by rw [List.length_drop, hkl]; have := H.rh.k3; omega
      exact Nat.le_trans hsza (by omega)
    refine compLoopLed (Q := fun _ _ => True) (fun c : List Value × Nat => [(D56, W.listOf c.1.toArray c.2)]) [] (fun j c => IntsAre c.1 (((onOf fl gl).take j).filter fun x => decide (x ∈ aheadOf (offOf fl gl) (onOf fl gl) k i)) ∧ c.1.length ≤ j) ([], 0) (turn1t _ _ _ _ _ _ _ _ _ _) Wk56 hCf56 K56.gw ?_ hst56 K56.F K56.N ?_ rfl rfl ?_ ?_
    · intro p hp; simp only [List.mem_singleton] at hp; subst hp; exact K56.dw
    · exact ⟨.nil, Nat.zero_le _⟩
    · rintro j v ⟨vs', n'⟩ u h tk own hj hv ⟨hI', hsz⟩ hnw hfp F57 N57
      dsimp only [cont_nil, List.cons_append, List.nil_append, compEnvC] at F57 N57 hI' hnw hsz
      have hoff : ∀ p ∈ own, p.1 ≠ D56 := fun p hp e => by
        rcases List.mem_cons.mp (hfp p hp) with q | q
        · exact hnw _ (.head _) (by rw [← e, q]; exact .head _)
        · exact absurd hlD56 (by rw [← e, List.mem_singleton.mp q]; exact Nat.lt_irrefl _)
      obtain ⟨z, hz⟩ : ∃ z, (onOf fl gl)[j]? = some z := by
        rw [hIu.length] at hj
        exact ⟨_, List.getElem?_eq_getElem hj⟩
      obtain ⟨tz, htz⟩ := hIu.get j z hz
      rw [htz] at hv
      cases hv
      have hszW : vs'.length ≤ 1000000 := by have h1 := H.onl; rw [hIu.length] at hj; omega
      refine body1t ?_
      ((try first | refine genQ (fun Qx hQx => ?_)); k_steps)
      · rename ((aheadOf _ _ _ _).any _) = true => hb9
        rename Fr _ _ _ _ => F10
        rename News _ _ _ _ => N10
        rw [any_beq] at hb9
        refine TurnEnd.push F10 N10 (hnw _ (.head _)) ?_ ⟨?_, ?_⟩
        · intro y h1 _; simp only [if_neg h1]
        · show IntsAre (vs' ++ [_]) _
          rw [List.take_add_one, hz, List.filter_append]
          refine hI'.append ?_
          simp only [Option.toList, List.filter_cons, hb9, if_true, List.filter_nil]
          exact .cons _ _ .nil
        · simp only [List.length_append, List.length_cons, List.length_nil]; omega
      · rename ((aheadOf _ _ _ _).any _) = false => hb9
        rename Fr _ _ _ _ => F10
        rename News _ _ _ _ => N10
        rw [any_beq] at hb9
        refine TurnEnd.pass F10 N10 (hnw _ (.head _)) ?_ ⟨?_, ?_⟩
        · intro y h1 _; simp only [if_neg h1]
        · rw [List.take_add_one, hz, List.filter_append]
          simp only [Option.toList, List.filter_cons, hb9, Bool.false_eq_true, if_false, List.filter_nil, List.append_nil]
          exact hI'
        · dsimp only; omega
    rintro ⟨fv, nf⟩ u57 h57 tk57 ⟨hIf, hszf⟩ F57 N57
    refine ⟨_, _, _, [], F57, N57, fun h58 F58 N58 hne58 => ?_⟩
    simp only [List.nil_append] at N58
    dsimp only at hIf hszf hne58
    rw [hIu.length, List.take_length] at hIf
    clear N57 F57 N55 F55
    ((try first | refine genQ (fun Qx hQx => ?_)); k_steps)
    try (focus (rename (_ != _) = true => hbad; simp at hbad; done))
    rename_i le2 h59 F59 N59 _
    have hI59 : h59.get? I37 = some oI := (N59 (I37, oI) (by first | k_mem | simp)).1
    refine ⟨k + 2 - (i + 1), by omega, i + 1, h59, _, _, oa45, _, _, by omega, rfl, rfl, hb55, ?_, F59, ?_, cd45⟩
    · show h59.get? I37 = some _
      rw [hI59, ← hoI]
    · intro p hp
      refine N59 p (.tail _ (.tail _ (.tail _ ?_)))
      rcases List.mem_cons.mp hp with h | hp
      · rw [h]; exact .head _
      · exact .tail _ (.tail _ hp)
  · have hik : i = k + 1 := by omega
    subst hik
    refine Wk.done _ _ _ hst38 fun h39 tk39 hk39 => ?_
    have F39 := keep1 h39 hk39 F38
    show wpAny _ _ (execs _ _) _ _ _
    ((try first | refine genQ (fun Qx hQx => ?_)); k_steps)
    exact hQ _ _ _ hb38 F39.keep

end Mine
end

-- part MA
section
open PySem PySem.W PyProof.Rows
namespace Mine
theorem off_MA : True := by
  w_top off
  first | (walk1; done) | trivial
noncomputable def keysP (P : List Pn) : List Int := P.map (·.key)
noncomputable def updP (P : List Pn) (k : Int) (f : Pn → Pn) : List Pn := P.map fun p => if p.key = k then f p else p
theorem keys_upd {P : List Pn} {k : Int} {f : Pn → Pn} (hf : ∀ p, (f p).key = p.key) : keysP (updP P k f) = keysP P := by
  unfold keysP updP
  rw [List.map_map]
  apply List.map_congr_left
  intro p _
  show (if p.key = k then f p else p).key = p.key
  split
  · exact hf p
  · rfl
theorem find_upd {P : List Pn} {k c : Int} {f : Pn → Pn} (hf : ∀ p, (f p).key = p.key) : (updP P k f).find? (fun p => p.key == c) = (P.find? (fun p => p.key == c)).map fun p => if c = k then f p else p := by
  unfold updP
  induction P with
  | nil => rfl
  | cons p P ih =>
    rw [List.map_cons, List.find?_cons, List.find?_cons]
    have e : (if p.key = k then f p else p).key = p.key := by split; exact hf p; rfl
    rw [e]
    by_cases h : p.key = c
    · subst h
      simp only [beq_self_eq_true, Option.map_some]
    · rw [show (p.key == c) = false by simpa using h]
      exact ih
theorem find_none {P : List Pn} {c : Int} (h : c ∉ keysP P) : P.find? (fun p => p.key == c) = none := by
  rw [List.find?_eq_none]
  intro p hp e
  exact h (List.mem_map.mpr ⟨p, hp, by simpa using e⟩)
theorem find_some {P : List Pn} {c : Int} (h : c ∈ keysP P) : ∃ p, P.find? (fun p => p.key == c) = some p ∧ p ∈ P ∧ p.key = c := by
  cases hf : P.find? (fun p => p.key == c) with
  | none =>
    obtain ⟨p, hp, e⟩ := List.mem_map.mp h
    have := List.find?_eq_none.mp hf p hp
    simp [e] at this
  | some p => exact ⟨p, rfl, List.mem_of_find?_eq_some hf, by simpa using List.find?_some hf⟩
theorem find_mem {P : List Pn} (hn : (keysP P).Nodup) {p : Pn} (hp : p ∈ P) : P.find? (fun q => q.key == p.key) = some p := by
  induction P with
  | nil => cases hp
  | cons q P ih =>
    rw [List.find?_cons]
    simp only [keysP, List.map_cons, List.nodup_cons] at hn
    rcases List.mem_cons.mp hp with rfl | hp
    · simp
    · have : (q.key == p.key) = false := by
        rw [beq_eq_false_iff_ne]
        intro e
        exact hn.1 (List.mem_map.mpr ⟨p, hp, e.symm⟩)
      rw [this]
      exact ih hn.2 hp
theorem np_mem {P : List Pn} (hn : (keysP P).Nodup) {p : Pn} (hp : p ∈ P) : npOf P p.key = p.np := by
  unfold npOf; rw [find_mem hn hp]; rfl
theorem ss_mem {P : List Pn} (hn : (keysP P).Nodup) {p : Pn} (hp : p ∈ P) : ssOf P p.key = p.ss := by
  unfold ssOf; rw [find_mem hn hp]; rfl
theorem np_pnp {P : List Pn} {k c d : Int} (h : k ∈ keysP P) : npOf (pnp P k d) c = npOf P c + if c = k then d else 0 := by
  show ((updP P k (fun p => { p with np := p.np + d })).find? _ |>.map (·.np)).getD 0 = _
  rw [find_upd (f := fun p => { p with np := p.np + d }) (fun _ => rfl)]
  unfold npOf
  by_cases hc : c ∈ keysP P
  · obtain ⟨p, hp, _⟩ := find_some hc
    rw [hp]
    simp only [Option.map_some, Option.getD_some]
    split <;> simp
  · have hck : c ≠ k := fun e => hc (e ▸ h)
    rw [find_none hc]; simp [hck]
theorem ss_pnp {P : List Pn} {k c d : Int} : ssOf (pnp P k d) c = ssOf P c := by
  show ((updP P k (fun p => { p with np := p.np + d })).find? _ |>.map (·.ss)).getD [] = _
  rw [find_upd (f := fun p => { p with np := p.np + d }) (fun _ => rfl)]
  unfold ssOf
  cases P.find? (fun p => p.key == c) with
  | none => rfl
  | some p => simp only [Option.map_some, Option.getD_some]; split <;> rfl
theorem keys_pnp {P : List Pn} {k d : Int} : keysP (pnp P k d) = keysP P := keys_upd (fun _ => rfl)
theorem np_pset {P : List Pn} {k c v : Int} (h : k ∈ keysP P) : npOf (psetnp P k v) c = if c = k then v else npOf P c := by
  show ((updP P k (fun p => { p with np := v })).find? _ |>.map (·.np)).getD 0 = _
  rw [find_upd (f := fun p => { p with np := v }) (fun _ => rfl)]
  unfold npOf
  by_cases hc : c ∈ keysP P
  · obtain ⟨p, hp, _⟩ := find_some hc
    rw [hp]
    simp only [Option.map_some, Option.getD_some]
    split <;> simp
  · have hck : c ≠ k := fun e => hc (e ▸ h)
    rw [find_none hc]; simp [hck]
theorem ss_pset {P : List Pn} {k c v : Int} : ssOf (psetnp P k v) c = ssOf P c := by
  show ((updP P k (fun p => { p with np := v })).find? _ |>.map (·.ss)).getD [] = _
  rw [find_upd (f := fun p => { p with np := v }) (fun _ => rfl)]
  unfold ssOf
  cases P.find? (fun p => p.key == c) with
  | none => rfl
  | some p => simp only [Option.map_some, Option.getD_some]; split <;> rfl
theorem keys_pset {P : List Pn} {k v : Int} : keysP (psetnp P k v) = keysP P := keys_upd (fun _ => rfl)
theorem np_pss {P : List Pn} {k c v : Int} : npOf (pss P k v) c = npOf P c := by
  show ((updP P k (fun p => { p with ss := p.ss ++ [v] })).find? _ |>.map (·.np)).getD 0 = _
  rw [find_upd (f := fun p => { p with ss := p.ss ++ [v] }) (fun _ => rfl)]
  unfold npOf
  cases P.find? (fun p => p.key == c) with
  | none => rfl
  | some p => simp only [Option.map_some, Option.getD_some]; split <;> rfl
theorem ss_pss {P : List Pn} {k c v : Int} (h : k ∈ keysP P) : ssOf (pss P k v) c = if c = k then ssOf P c ++ [v] else ssOf P c := by
  show ((updP P k (fun p => { p with ss := p.ss ++ [v] })).find? _ |>.map (·.ss)).getD [] = _
  rw [find_upd (f := fun p => { p with ss := p.ss ++ [v] }) (fun _ => rfl)]
  unfold ssOf
  by_cases hc : c ∈ keysP P
  · obtain ⟨p, hp, _⟩ := find_some hc
    rw [hp]
    simp only [Option.map_some, Option.getD_some]
    split <;> simp
  · have hck : c ≠ k := fun e => hc (e ▸ h)
    rw [find_none hc]; simp [hck]
theorem keys_pss {P : List Pn} {k v : Int} : keysP (pss P k v) = keysP P := keys_upd (fun _ => rfl)
theorem any_keys {P : List Pn} {k : Int} : P.any (fun p => p.key == k) = true ↔ k ∈ keysP P := by
  rw [List.any_eq_true]
  constructor
  · rintro ⟨p, hp, e⟩; exact List.mem_map.mpr ⟨p, hp, by simpa using e⟩
  · intro h; obtain ⟨p, hp, e⟩ := List.mem_map.mp h; exact ⟨p, hp, by simpa using e⟩
theorem keys_pget {P : List Pn} {k : Int} : keysP (pget P k) = if k ∈ keysP P then keysP P else keysP P ++ [k] := by
  unfold pget
  by_cases h : k ∈ keysP P
  · rw [if_pos (any_keys.mpr h), if_pos h]
  · rw [if_neg (fun e => h (any_keys.mp e)), if_neg h]; simp [keysP]
theorem mem_pget {P : List Pn} {k c : Int} : c ∈ keysP (pget P k) ↔ c ∈ keysP P ∨ c = k := by
  rw [keys_pget]; split
  · constructor
    · exact .inl
    · rintro (h | rfl); exact h; assumption
  · simp
theorem nodup_pget {P : List Pn} {k : Int} (h : (keysP P).Nodup) : (keysP (pget P k)).Nodup := by
  rw [keys_pget]; split
  · exact h
  · rename_i hk
    rw [List.nodup_append]
    exact ⟨h, by simp, fun a ha b hb e => hk (by rw [← List.mem_singleton.mp hb, ← e]; exact ha)⟩
theorem find_pget {P : List Pn} {k c : Int} : (pget P k).find? (fun p => p.key == c) = if c ∈ keysP P then P.find? (fun p => p.key == c) else if c = k then some ⟨k, 0, []⟩ else none := by
  unfold pget
  by_cases h : k ∈ keysP P
  · rw [if_pos (any_keys.mpr h)]
    split
    · rfl
    · rename_i hc
      rw [find_none hc, if_neg (fun e : c = k => hc (by rw [e]; exact h))]
  · rw [if_neg (fun e => h (any_keys.mp e)), List.find?_append]
    split
    · rename_i hc
      obtain ⟨p, hp, _⟩ := find_some hc
      rw [hp]; rfl
    · rename_i hc
      rw [find_none hc]
      simp only [Option.none_or, List.find?_cons, List.find?_nil]
      by_cases e : c = k
      · subst e; simp
      · rw [if_neg e, show (k == c) = false by simpa using Ne.symm e]
theorem np_pget {P : List Pn} {k c : Int} : npOf (pget P k) c = npOf P c := by
  unfold npOf
  rw [find_pget]
  split
  · rfl
  · rename_i hc
    rw [find_none hc]; split <;> rfl
theorem ss_pget {P : List Pn} {k c : Int} : ssOf (pget P k) c = ssOf P c := by
  unfold ssOf
  rw [find_pget]
  split
  · rfl
  · rename_i hc
    rw [find_none hc]; split <;> rfl
/-- what has been told so far -/
structure Told (P : List Pn) (A : List (Int × List Int)) : Prop where
  nd : (keysP P).Nodup
  ks : ∀ c, c ∈ keysP P ↔ ∃ x ∈ A, c = x.1 ∨ c ∈ x.2
  np : ∀ x ∈ A, npOf P x.1 = (x.2.length : Int)
  n0 : ∀ c, (∀ x ∈ A, c ≠ x.1) → npOf P c = 0
  ss : ∀ c, ssOf P c = (A.filter fun x => decide (c ∈ x.2)).map (·.1)
theorem fold_pss (k : Int) : ∀ (ps : List Int) (P : List Pn), ps.Nodup → (keysP P).Nodup →
    (keysP (ps.foldl (fun P p => pss (pget P p) p k) P)).Nodup ∧ (∀ c, c ∈ keysP (ps.foldl (fun P p => pss (pget P p) p k) P) ↔ c ∈ keysP P ∨ c ∈ ps) ∧
    (∀ c, npOf (ps.foldl (fun P p => pss (pget P p) p k) P) c = npOf P c) ∧ ∀ c, ssOf (ps.foldl (fun P p => pss (pget P p) p k) P) c = ssOf P c ++ if c ∈ ps then [k] else []
  | [], P, _, h => ⟨h, by simp, fun _ => rfl, by simp⟩
  | p :: ps, P, hn, h => by
    have hn' := List.nodup_cons.mp hn
    have h1 : (keysP (pss (pget P p) p k)).Nodup := by rw [keys_pss]; exact nodup_pget h
    obtain ⟨a, b, c, d⟩ := fold_pss k ps (pss (pget P p) p k) hn'.2 h1
    have hp : p ∈ keysP (pget P p) := mem_pget.mpr (.inr rfl)
    refine ⟨a, fun x => ?_, fun x => ?_, fun x => ?_⟩
    · rw [List.foldl_cons, b x, keys_pss, mem_pget, List.mem_cons, or_assoc]
    · rw [List.foldl_cons, c x, np_pss, np_pget]
    · rw [List.foldl_cons, d x, ss_pss hp, ss_pget]
      by_cases e : x = p
      · subst e
        simp [hn'.1]
      · simp [e]
theorem Told.add {P : List Pn} {A : List (Int × List Int)} {k : Int} {ps : List Int} (T : Told P A) (hk : ∀ x ∈ A, k ≠ x.1) (hps : ps.Nodup) : Told (padd P k ps) (A ++ [(k, ps)]) := by
  have hkk : k ∈ keysP (pget P k) := mem_pget.mpr (.inr rfl)
  have h1 : (keysP (pnp (pget P k) k ps.length)).Nodup := by rw [keys_pnp]; exact nodup_pget T.nd
  obtain ⟨a, b, c, d⟩ := fold_pss k ps _ hps h1
  have e : padd P k ps = ps.foldl (fun P p => pss (pget P p) p k) (pnp (pget P k) k ps.length) := rfl
  rw [← e] at a b c d
  refine ⟨a, fun x => ?_, fun x hx => ?_, fun x hx => ?_, fun x => ?_⟩
  · rw [b x, keys_pnp, mem_pget, T.ks x]
    constructor
    · rintro ((⟨y, hy, h⟩ | h) | h)
      · exact ⟨y, List.mem_append_left _ hy, h⟩
      · exact ⟨(k, ps), List.mem_append_right _ (.head _), .inl h⟩
      · exact ⟨(k, ps), List.mem_append_right _ (.head _), .inr h⟩
    · rintro ⟨y, hy, h⟩
      rcases List.mem_append.mp hy with hy | hy
      · exact .inl (.inl ⟨y, hy, h⟩)
      · rw [List.mem_singleton.mp hy] at h
        rcases h with h | h
        · exact .inl (.inr h)
        · exact .inr h
  · rw [c, np_pnp hkk, np_pget]
    rcases List.mem_append.mp hx with hx | hx
    · rw [if_neg (Ne.symm (hk x hx)), T.np x hx]; simp
    · rw [List.mem_singleton.mp hx]
      show npOf P k + (if k = k then _ else _) = _
      rw [if_pos rfl, T.n0 k hk]; simp
  · have h2 : x ≠ k := hx (k, ps) (List.mem_append_right _ (.head _))
    rw [c, np_pnp hkk, np_pget, if_neg h2, T.n0 x fun y hy => hx y (List.mem_append_left _ hy)]; rfl
  · rw [d, ss_pnp, ss_pget, T.ss x, List.filter_append, List.map_append]
    congr 1
    by_cases h : x ∈ ps <;> simp [h]
noncomputable def adds (l : List Int) (a b : Int) : List (Int × List Int) := l.map fun c => (c, prF l a b c)
theorem prF_nodup {l : List Int} {a b c : Int} (h : a ≠ b) : (prF l a b c).Nodup := by
  unfold prF
  refine List.Pairwise.filter _ ?_
  simp; omega
theorem told_to {l : List Int} {a b : Int} {P : List Pn} {A : List (Int × List Int)} (T : Told P A) (hab : a ≠ b) (hl : l.Nodup) (hd : ∀ c ∈ l, ∀ x ∈ A, c ≠ x.1) : ∀ i, i ≤ l.length → Told (rdTo l a b P i) (A ++ (l.take i).map fun c => (c, prF l a b c))
  | 0, _ => by simpa [rdTo] using T
  | i + 1, hi => by
    have ih := told_to T hab hl hd i (by omega)
    have hc : l[i]? = some l[i] := List.getElem?_eq_getElem (by omega)
    rw [rdTo_succ hc, List.take_add_one, hc, List.map_append, ← List.append_assoc]
    refine ih.add (fun x hx => ?_) (prF_nodup hab)
    rcases List.mem_append.mp hx with hx | hx
    · exact hd _ (List.getElem_mem _) x hx
    · obtain ⟨c, hc', rfl⟩ := List.mem_map.mp hx
      intro e
      obtain ⟨j, hj, e2⟩ := List.mem_iff_getElem.mp hc'
      rw [List.getElem_take] at e2
      have hj' : j < i := by rw [List.length_take] at hj; omega
      exact List.pairwise_iff_getElem.mp hl j i (by omega) (by omega) hj' (e2.trans e.symm)
theorem told_nil : Told [] [] := ⟨.nil, fun c => by simp [keysP], fun x hx => (nomatch hx), fun c _ => rfl, fun c => rfl⟩
theorem told_rd {off on : List Int} (ho : off.Nodup) (hn : on.Nodup) (hd : ∀ c ∈ on, c ∉ off) : Told (rdP off on) (adds off (-39) 41 ++ adds on (-41) 39) := by
  have h1 := told_to (a := -39) (b := 41) told_nil (by decide) ho (fun _ _ x hx => nomatch hx) off.length (Nat.le_refl _)
  rw [List.take_length, List.nil_append] at h1
  have h2 := told_to (l := on) (a := -41) (b := 39) h1 (by decide) hn (fun c hc x hx e => by
    obtain ⟨c', hc', rfl⟩ := List.mem_map.mp hx
    exact hd c hc (e ▸ hc')) on.length (Nat.le_refl _)
  rw [List.take_length] at h2
  exact h2
end Mine
end

-- part MB
section
open PySem PySem.W PyProof.Rows
namespace Mine
theorem off_MB : True := by
  w_top off
  first | (walk1; done) | trivial
/-- how many of the cells ahead are still to be done -/
noncomputable def cntP (prs : Int → List Int) (dn : Int → Bool) (c : Int) : List Int := (prs c).filter fun p => !dn p
structure Sch (K : Int → Prop) (prs suc : Int → List Int) : Prop where
  nd : ∀ c, (prs c).Nodup
  sn : ∀ c, (suc c).Nodup
  sm : ∀ c d, d ∈ suc c ↔ K d ∧ c ∈ prs d
structure St0 (K : Int → Prop) (suc : Int → List Int) (P : List Pn) : Prop where
  nd : (keysP P).Nodup
  ks : ∀ c, c ∈ keysP P ↔ K c
  ss : ∀ c, K c → ssOf P c = suc c
structure StR (K : Int → Prop) (prs suc : Int → List Int) (P : List Pn) (rs : List Int) (dn : Int → Bool) : Prop where
  s0 : St0 K suc P
  np : ∀ c, K c → npOf P c = if dn c then -2 else ((cntP prs dn c).length : Int)
  rn : rs.Nodup
  rm : ∀ c, c ∈ rs ↔ K c ∧ dn c = false ∧ ∀ p ∈ prs c, dn p = true
  cl : ∀ c, K c → dn c = true → ∀ p ∈ prs c, dn p = true
theorem St0.pset {K : Int → Prop} {suc : Int → List Int} {P : List Pn} {k v : Int} (h : St0 K suc P) : St0 K suc (psetnp P k v) :=
  ⟨by rw [keys_pset]; exact h.nd, fun c => by rw [keys_pset]; exact h.ks c, fun c hc => by rw [ss_pset]; exact h.ss c hc⟩
theorem St0.pnp {K : Int → Prop} {suc : Int → List Int} {P : List Pn} {k v : Int} (h : St0 K suc P) : St0 K suc (pnp P k v) :=
  ⟨by rw [keys_pnp]; exact h.nd, fun c => by rw [keys_pnp]; exact h.ks c, fun c hc => by rw [ss_pnp]; exact h.ss c hc⟩
theorem pout_facts {K : Int → Prop} {suc : Int → List Int} : ∀ (rs : List Int) (P : List Pn), (∀ r ∈ rs, K r) → St0 K suc P → St0 K suc (pout P rs) ∧ ∀ c, npOf (pout P rs) c = if c ∈ rs then -1 else npOf P c
  | [], P, _, h => ⟨h, fun c => by simp [pout]⟩
  | r :: rs, P, hr, h => by
    obtain ⟨a, b⟩ := pout_facts rs (psetnp P r (-1)) (fun x hx => hr x (.tail _ hx)) h.pset
    have e : pout P (r :: rs) = pout (psetnp P r (-1)) rs := rfl
    rw [e]
    refine ⟨a, fun c => ?_⟩
    rw [b, np_pset ((h.ks r).mpr (hr r (.head _)))]
    by_cases h1 : c = r
    · subst h1; simp
    · simp [h1]
/-- the list of those ready -/
structure OutI (K : Int → Prop) (off : Int → Prop) (Q : List Pn) (out : List Int) : Prop where
  nd : out.Nodup
  mem : ∀ c, c ∈ out ↔ K c ∧ ¬ off c ∧ npOf Q c = 0
theorem dstep_facts {K : Int → Prop} {off : Int → Prop} {suc : Int → List Int} {Q : List Pn} {out : List Int} {q : Int} (h : St0 K suc Q) (o : OutI K off Q out) (hq : K q) (ho : ¬ off q) (h1 : 1 ≤ npOf Q q) :
    St0 K suc (dstep (Q, out) q).1 ∧ OutI K off (dstep (Q, out) q).1 (dstep (Q, out) q).2 ∧ ∀ c, npOf (dstep (Q, out) q).1 c = npOf Q c - if c = q then 1 else 0 := by
  have hk := (h.ks q).mpr hq
  have hnp : ∀ c, npOf (pnp Q q (-1)) c = npOf Q c - if c = q then 1 else 0 := fun c => by
    rw [np_pnp hk]; split <;> omega
  have hno : q ∉ out := fun hm => by have := ((o.mem q).mp hm).2.2; omega
  have e1 : (dstep (Q, out) q).1 = pnp Q q (-1) := rfl
  have e2 : (dstep (Q, out) q).2 = if npOf (pnp Q q (-1)) q = 0 then out ++ [q] else out := rfl
  rw [e1, e2]
  refine ⟨h.pnp, ?_, hnp⟩
  have hqq : npOf (pnp Q q (-1)) q = npOf Q q - 1 := by rw [hnp, if_pos rfl]
  by_cases hz : npOf (pnp Q q (-1)) q = 0
  · rw [if_pos hz]
    refine ⟨?_, fun c => ?_⟩
    · rw [List.nodup_append]
      exact ⟨o.nd, by simp, fun a ha b hb e => hno (by rw [← List.mem_singleton.mp hb, ← e]; exact ha)⟩
    · rw [List.mem_append, List.mem_singleton, o.mem c, hnp]
      by_cases hc : c = q
      · subst hc
        constructor
        · intro _; exact ⟨hq, ho, by rw [if_pos rfl]; omega⟩
        · intro _; exact .inr rfl
      · simp [hc]
  · rw [if_neg hz]
    refine ⟨o.nd, fun c => ?_⟩
    rw [o.mem c, hnp]
    by_cases hc : c = q
    · subst hc
      rw [if_pos rfl]
      constructor
      · rintro ⟨_, _, h3⟩; omega
      · rintro ⟨_, _, h3⟩; omega
    · simp [hc]
theorem dfold_facts {K : Int → Prop} {off : Int → Prop} {suc : Int → List Int} : ∀ (l : List Int) (Q : List Pn) (out : List Int), l.Nodup → St0 K suc Q → OutI K off Q out → (∀ q ∈ l, K q ∧ ¬ off q ∧ 1 ≤ npOf Q q) →
    St0 K suc (l.foldl dstep (Q, out)).1 ∧ OutI K off (l.foldl dstep (Q, out)).1 (l.foldl dstep (Q, out)).2 ∧ ∀ c, npOf (l.foldl dstep (Q, out)).1 c = npOf Q c - if c ∈ l then 1 else 0
  | [], Q, out, _, h, o, _ => ⟨h, o, fun c => by simp⟩
  | q :: l, Q, out, hn, h, o, hl => by
    have hn' := List.nodup_cons.mp hn
    obtain ⟨a1, a2, a3⟩ := hl q (.head _)
    obtain ⟨b1, b2, b3⟩ := dstep_facts h o a1 a2 a3
    have e : dstep (Q, out) q = ((dstep (Q, out) q).1, (dstep (Q, out) q).2) := rfl
    rw [List.foldl_cons, e]
    obtain ⟨c1, c2, c3⟩ := dfold_facts l _ _ hn'.2 b1 b2 (fun x hx => by
      obtain ⟨y1, y2, y3⟩ := hl x (.tail _ hx)
      refine ⟨y1, y2, ?_⟩
      rw [b3, if_neg (fun e : x = q => hn'.1 (by rw [← e]; exact hx))]; omega)
    refine ⟨c1, c2, fun c => ?_⟩
    rw [c3, b3]
    by_cases hc : c = q
    · subst hc; simp [hn'.1]
    · simp [hc]
theorem filter_one {l : List Int} {f g : Int → Bool} {k : Int} (hn : l.Nodup) (hk : k ∈ l) (hf : f k = true) (hg : ∀ p, g p = (f p && !(p == k))) : ((l.filter g).length : Int) = (l.filter f).length - 1 := by
  induction l with
  | nil => cases hk
  | cons a l ih =>
    have hn' := List.nodup_cons.mp hn
    by_cases h : a = k
    · subst h
      have e : l.filter g = l.filter f := List.filter_congr fun p hp => by
        rw [hg]
        have : p ≠ a := fun e => hn'.1 (e ▸ hp)
        simp [this]
      rw [List.filter_cons, List.filter_cons, hg, hf, e]
      simp only [beq_self_eq_true, Bool.not_true, Bool.and_false, Bool.false_eq_true, if_false, if_true, List.length_cons]
      omega
    · have hk' : k ∈ l := by rcases List.mem_cons.mp hk with e | e; exact absurd e.symm h; exact e
      have := ih hn'.2 hk'
      rw [List.filter_cons, List.filter_cons, hg]
      simp only [show (a == k) = false by simpa using h, Bool.not_false, Bool.and_true]
      split
      · simp only [List.length_cons]; omega
      · exact this
theorem filter_none {l : List Int} {f g : Int → Bool} {k : Int} (hk : k ∉ l) (hg : ∀ p, g p = (f p && !(p == k))) : l.filter g = l.filter f := List.filter_congr fun p hp => by
  rw [hg]
  have : p ≠ k := fun e => hk (e ▸ hp)
  simp [this]
/-- within a round -/
structure InR (K : Int → Prop) (prs suc : Int → List Int) (rs : List Int) (dn : Int → Bool) (i : Nat) (b : List Pn × List Int) : Prop where
  s0 : St0 K suc b.1
  np : ∀ c, K c → npOf b.1 c = if dn c = true ∨ c ∈ rs.take i then -2 else if c ∈ rs then -1 else (((prs c).filter fun p => !(dn p || decide (p ∈ rs.take i))).length : Int)
  out : OutI K (fun c => dn c = true ∨ c ∈ rs) b.1 b.2
theorem take_succ' {rs : List Int} {i : Nat} {k : Int} (h : rs[i]? = some k) (c : Int) : c ∈ rs.take (i + 1) ↔ c ∈ rs.take i ∨ c = k := by
  rw [List.take_add_one, h]; simp
theorem not_take {rs : List Int} {i : Nat} {k : Int} (hn : rs.Nodup) (h : rs[i]? = some k) : k ∉ rs.take i := by
  intro hm
  obtain ⟨j, hj, e⟩ := List.mem_iff_getElem.mp hm
  rw [List.getElem_take] at e
  obtain ⟨hi, e2⟩ := List.getElem?_eq_some_iff.mp h
  have hji : j < i := by rw [List.length_take] at hj; omega
  exact List.pairwise_iff_getElem.mp hn j i (by omega) hi hji (e.trans e2.symm)
theorem InR.step {K : Int → Prop} {prs suc : Int → List Int} {P : List Pn} {rs : List Int} {dn : Int → Bool} {i : Nat} {b : List Pn × List Int} {k : Int} (S : Sch K prs suc) (R : StR K prs suc P rs dn) (I : InR K prs suc rs dn i b) (hk : rs[i]? = some k) : InR K prs suc rs dn (i + 1) (dnode b k) := by
  have hkr : k ∈ rs := List.mem_of_getElem? hk
  obtain ⟨hK, hkd, hkp⟩ := (R.rm k).mp hkr
  have hkt := not_take R.rn hk
  have hkey := (I.s0.ks k).mpr hK
  have h0 : St0 K suc (psetnp b.1 k (-2)) := I.s0.pset
  have o0 : OutI K (fun c => dn c = true ∨ c ∈ rs) (psetnp b.1 k (-2)) b.2 := ⟨I.out.nd, fun c => by
    rw [I.out.mem c, np_pset hkey]
    by_cases hc : c = k
    · subst hc
      constructor
      · rintro ⟨_, h2, _⟩; exact absurd (.inr hkr) h2
      · rintro ⟨_, h2, _⟩; exact absurd (.inr hkr) h2
    · simp [hc]⟩
  have hss : ssOf b.1 k = suc k := I.s0.ss k hK
  have sucs : ∀ q ∈ suc k, K q ∧ k ∈ prs q ∧ dn q = false ∧ q ∉ rs := fun q hq => by
    obtain ⟨hq1, hq2⟩ := (S.sm k q).mp hq
    have hqd : dn q = false := by
      cases h : dn q with
      | false => rfl
      | true => have := R.cl q hq1 h k hq2; rw [hkd] at this; cases this
    refine ⟨hq1, hq2, hqd, fun hm => ?_⟩
    have := ((R.rm q).mp hm).2.2 k hq2
    rw [hkd] at this; cases this
  have hl : ∀ q ∈ suc k, K q ∧ ¬ (dn q = true ∨ q ∈ rs) ∧ 1 ≤ npOf (psetnp b.1 k (-2)) q := fun q hq => by
    obtain ⟨h1, h2, h3, h4⟩ := sucs q hq
    refine ⟨h1, fun h => h.elim (fun h => by rw [h3] at h; cases h) h4, ?_⟩
    rw [np_pset hkey, if_neg (fun e : q = k => h4 (by rw [e]; exact hkr)), I.np q h1, if_neg (fun h => h.elim (fun h => by rw [h3] at h; cases h) fun h => h4 (List.mem_of_mem_take h)), if_neg h4]
    have hm : k ∈ (prs q).filter fun p => !(dn p || decide (p ∈ rs.take i)) := List.mem_filter.mpr ⟨h2, by simp [hkd, hkt]⟩
    have := List.length_pos_of_mem hm
    omega
  obtain ⟨c1, c2, c3⟩ := dfold_facts (suc k) _ _ (S.sn k) h0 o0 hl
  have e : dnode b k = (suc k).foldl dstep (psetnp b.1 k (-2), b.2) := by unfold dnode; rw [hss]
  rw [e]
  refine ⟨c1, fun c hc => ?_, c2⟩
  rw [c3, np_pset hkey]
  by_cases hck : c = k
  · subst hck
    have : c ∉ suc c := fun h => (sucs c h).2.2.2 hkr
    rw [if_pos rfl, if_neg this, if_pos (.inr ((take_succ' hk c).mpr (.inr rfl)))]; rfl
  · rw [if_neg hck, I.np c hc]
    have ht : (dn c = true ∨ c ∈ rs.take (i + 1)) ↔ (dn c = true ∨ c ∈ rs.take i) := by
      rw [take_succ' hk c]; simp [hck]
    by_cases hd : dn c = true ∨ c ∈ rs.take i
    · rw [if_pos hd, if_pos (ht.mpr hd)]
      have : c ∉ suc k := fun h => by
        obtain ⟨_, _, h3, h4⟩ := sucs c h
        rcases hd with h | h
        · rw [h3] at h; cases h
        · exact h4 (List.mem_of_mem_take h)
      rw [if_neg this]; rfl
    · rw [if_neg hd, if_neg (fun h => hd (ht.mp h))]
      by_cases hr : c ∈ rs
      · rw [if_pos hr, if_pos hr, if_neg (fun h => (sucs c h).2.2.2 hr)]; rfl
      · rw [if_neg hr, if_neg hr]
        have hg : ∀ p, (!(dn p || decide (p ∈ rs.take (i + 1)))) = ((!(dn p || decide (p ∈ rs.take i))) && !(p == k)) := fun p => by
          by_cases hp : p = k
          · subst hp; simp [take_succ' hk]
          · have := take_succ' hk p
            simp [this, hp]
        by_cases hs : c ∈ suc k
        · rw [if_pos hs]
          exact (filter_one (S.nd c) (sucs c hs).2.1 (by simp [hkd, hkt]) hg).symm
        · rw [if_neg hs]
          have : k ∉ prs c := fun h => hs ((S.sm k c).mpr ⟨hc, h⟩)
          rw [filter_none this hg]; omega
theorem StR.start {K : Int → Prop} {prs suc : Int → List Int} {P : List Pn} {rs : List Int} {dn : Int → Bool} (R : StR K prs suc P rs dn) : InR K prs suc rs dn 0 (pout P rs, []) := by
  obtain ⟨a, b⟩ := pout_facts (suc := suc) rs P (fun r hr => ((R.rm r).mp hr).1) R.s0
  refine ⟨a, fun c hc => ?_, .nil, fun c => ?_⟩
  · rw [b, R.np c hc]
    simp only [List.take_zero, List.not_mem_nil, or_false, decide_false, Bool.or_false]
    by_cases hr : c ∈ rs
    · have := ((R.rm c).mp hr).2.1
      rw [if_pos hr, this]; simp [hr]
    · rw [if_neg hr, if_neg hr]
      cases dn c <;> rfl
  · simp only [List.not_mem_nil, false_iff]
    rintro ⟨hc, h2, h3⟩
    have hr : c ∉ rs := fun h => h2 (.inr h)
    have hd : dn c = false := by cases h : dn c with
      | false => rfl
      | true => exact absurd (.inl h) h2
    rw [b, if_neg hr, R.np c hc, hd] at h3
    simp only [Bool.false_eq_true, if_false] at h3
    refine hr ((R.rm c).mpr ⟨hc, hd, fun p hp => ?_⟩)
    cases h : dn p with
    | true => rfl
    | false =>
      have hm : p ∈ cntP prs dn c := List.mem_filter.mpr ⟨hp, by simp [h]⟩
      have := List.length_pos_of_mem hm
      omega
theorem InR.to {K : Int → Prop} {prs suc : Int → List Int} {P : List Pn} {rs : List Int} {dn : Int → Bool} (S : Sch K prs suc) (R : StR K prs suc P rs dn) : ∀ i, i ≤ rs.length → InR K prs suc rs dn i ((rs.take i).foldl dnode (pout P rs, []))
  | 0, _ => R.start
  | i + 1, hi => by
    have hk : rs[i]? = some rs[i] := List.getElem?_eq_getElem (by omega)
    rw [List.take_add_one, hk, List.foldl_append]
    exact (InR.to S R i (by omega)).step S R hk
theorem StR.next {K : Int → Prop} {prs suc : Int → List Int} {P : List Pn} {rs : List Int} {dn : Int → Bool} (S : Sch K prs suc) (R : StR K prs suc P rs dn) :
    StR K prs suc (rs.foldl dnode (pout P rs, [])).1 (rs.foldl dnode (pout P rs, [])).2 (fun c => dn c || decide (c ∈ rs)) := by
  have I := InR.to S R rs.length (Nat.le_refl _)
  rw [List.take_length] at I
  have np : ∀ c, K c → npOf (rs.foldl dnode (pout P rs, [])).1 c = if (dn c || decide (c ∈ rs)) = true then -2 else ((cntP prs (fun c => dn c || decide (c ∈ rs)) c).length : Int) := fun c hc => by
    have h := I.np c hc
    rw [List.take_length] at h
    rw [h]
    by_cases hd : dn c = true ∨ c ∈ rs
    · rw [if_pos hd, if_pos (by simpa using hd)]
    · have h1 : c ∉ rs := fun h => hd (.inr h)
      have h2 : (dn c || decide (c ∈ rs)) = false := by
        cases h3 : dn c with
        | true => exact absurd (.inl h3) hd
        | false => simp [h1]
      rw [if_neg hd, if_neg h1, h2]; rfl
  refine ⟨I.s0, np, I.out.nd, fun c => ?_, fun c hc hd p hp => ?_⟩
  · rw [I.out.mem c]
    constructor
    · rintro ⟨h1, h2, h3⟩
      have hd : (dn c || decide (c ∈ rs)) = false := by simpa using h2
      refine ⟨h1, hd, fun p hp => ?_⟩
      rw [np c h1, if_neg (by rw [hd]; decide)] at h3
      cases h : (dn p || decide (p ∈ rs)) with
      | true => rfl
      | false =>
        have hm : p ∈ cntP prs (fun c => dn c || decide (c ∈ rs)) c := List.mem_filter.mpr ⟨hp, by simp only [h]; rfl⟩
        have := List.length_pos_of_mem hm
        omega
    · rintro ⟨h1, h2, h3⟩
      refine ⟨h1, by simpa using h2, ?_⟩
      rw [np c h1, if_neg (by rw [h2]; decide)]
      have : cntP prs (fun c => dn c || decide (c ∈ rs)) c = [] := List.filter_eq_nil_iff.mpr fun p hp => by simp [h3 p hp]
      rw [this]; rfl
  · have hd' : dn c = true ∨ c ∈ rs := by simpa using hd
    have : dn p = true := by
      rcases hd' with h | h
      · exact R.cl c hc h p hp
      · exact ((R.rm c).mp h).2.2 p hp
    simp [this]
end Mine
end

-- part MC
section
open PySem PySem.W PyProof.Rows
namespace Mine
theorem off_MC : True := by
  w_top off
  first | (walk1; done) | trivial
noncomputable abbrev at' (h : List Int) (i : Nat) : Int := h.getD i 0
structure Path (n : Nat) (h : List Int) : Prop where
  len : h.length = n + 1
  z : at' h 0 = 0
  st : ∀ i, i < n → at' h (i + 1) = at' h i + 1 ∨ at' h (i + 1) = at' h i - 1
noncomputable def sg (c : Nat) : Int := if c = 40 then 1 else -1
theorem at_append_left {a b : List Int} {i : Nat} (h : i < a.length) : at' (a ++ b) i = at' a i := by
  show (a ++ b).getD i 0 = a.getD i 0
  rw [List.getD_eq_getElem?_getD, List.getD_eq_getElem?_getD, List.getElem?_append_left h]
theorem at_append_one {a : List Int} {x : Int} : at' (a ++ [x]) a.length = x := by
  show (a ++ [x]).getD a.length 0 = x
  rw [List.getD_eq_getElem?_getD, List.getElem?_append_right (Nat.le_refl _)]; simp
theorem last_at {a : List Int} {n : Nat} (h : a.length = n + 1) : a.getLast?.getD 0 = at' a n := by
  show _ = a.getD n 0
  rw [List.getLast?_eq_getElem?, h, List.getD_eq_getElem?_getD]; rfl
theorem hts_path : ∀ (n : Nat) (l : List Nat), l.length = n → Path n (hts l) ∧ at' (hts l) n = (l.map sg).sum
  | 0, l, h => by
    rw [List.length_eq_zero_iff.mp h]
    exact ⟨⟨rfl, rfl, fun i hi => absurd hi (Nat.not_lt_zero _)⟩, rfl⟩
  | n + 1, l, h => by
    rcases List.eq_nil_or_concat l with rfl | ⟨a, c, rfl⟩
    · cases h
    · rw [List.concat_eq_append, List.length_append] at h
      have ha : a.length = n := by simpa using h
      obtain ⟨p, q⟩ := hts_path n a ha
      have e : hts (a.concat c) = hts a ++ [at' (hts a) n + sg c] := by
        rw [List.concat_eq_append, hts_snoc, last_at p.len]; rfl
      rw [e]
      have hl := p.len
      refine ⟨⟨by rw [List.length_append, hl]; rfl, by rw [at_append_left (by omega)]; exact p.z, fun i hi => ?_⟩, ?_⟩
      · rcases Nat.lt_or_ge i n with hin | hin
        · rw [at_append_left (by omega), at_append_left (by omega)]
          exact p.st i hin
        · have : i = n := by omega
          subst this
          have h0 : at' (hts a ++ [at' (hts a) i + sg c]) i = at' (hts a) i := at_append_left (by omega)
          have : at' (hts a ++ [at' (hts a) i + sg c]) (i + 1) = at' (hts a) i + sg c := by rw [← hl]; exact at_append_one
          rw [h0, this]
          unfold sg; split
          · exact .inl rfl
          · exact .inr rfl
      · have : at' (hts a ++ [at' (hts a) n + sg c]) (n + 1) = at' (hts a) n + sg c := by rw [← hl]; exact at_append_one
        rw [this, q, List.concat_eq_append, List.map_append, List.sum_append]; simp
theorem perm_sum {f : Nat → Int} {a b : List Nat} (h : a.Perm b) : (a.map f).sum = (b.map f).sum := by
  induction h with
  | nil => rfl
  | cons x _ ih => simp [ih]
  | swap x y l => simp only [List.map_cons, List.sum_cons]; omega
  | trans _ _ ih1 ih2 => exact ih1.trans ih2
theorem Path.bd {n : Nat} {h : List Int} (p : Path n h) : ∀ i, i ≤ n → -(i : Int) ≤ at' h i ∧ at' h i ≤ i ∧ (at' h i - i) % 2 = 0
  | 0, _ => by rw [p.z]; decide
  | i + 1, hi => by
    have ih := p.bd i (by omega)
    rcases p.st i (by omega) with e | e <;> rw [e] <;> omega
theorem Path.le1 {n : Nat} {h : List Int} (p : Path n h) {i : Nat} (hi : i < n) : at' h (i + 1) ≤ at' h i + 1 := by
  rcases p.st i hi with e | e <;> rw [e]
  · exact Int.le_refl _
  · omega
theorem Path.le2 {n : Nat} {h : List Int} (p : Path n h) {i : Nat} (hi : i < n) : at' h i ≤ at' h (i + 1) + 1 := by
  rcases p.st i hi with e | e <;> rw [e] <;> omega
theorem rng_of {i n : Nat} {x : Int} (hi : i ≤ n) (hn : n ≤ 8) (h1 : -(i : Int) ≤ x) (h2 : x ≤ i) : -8 ≤ x ∧ x ≤ 8 := by omega
theorem Path.rng {n : Nat} {h : List Int} (p : Path n h) (hn : n ≤ 8) {i : Nat} (hi : i ≤ n) : -8 ≤ at' h i ∧ at' h i ≤ 8 := rng_of hi hn (p.bd i hi).1 (p.bd i hi).2.1
theorem cell_lt {i j : Nat} {x y : Int} (hij : i < j) (hx : x ≤ 10) (hy : -10 ≤ y) : 40 * (i : Int) + x < 40 * (j : Int) + y := by omega
theorem cell_inj {i j : Nat} {x y : Int} (hx : -10 ≤ x ∧ x ≤ 10) (hy : -10 ≤ y ∧ y ≤ 10) (e : 40 * (i : Int) + x = 40 * (j : Int) + y) : i = j ∧ x = y := by
  rcases Nat.lt_trichotomy i j with h | h | h
  · exact absurd e (Int.ne_of_lt (cell_lt h hx.2 hy.1))
  · subst h; exact ⟨rfl, Int.add_left_cancel e⟩
  · exact absurd e (Int.ne_of_gt (cell_lt h hy.2 hx.1))
theorem half_of {i : Nat} {x : Int} (h3 : -(i : Int) ≤ x) (h5 : (x - i) % 2 = 0) : ∃ l : Nat, x = -(i : Int) + (l : Int) * 2 := ⟨((x + i) / 2).toNat, by omega⟩
theorem half_to {i l : Nat} : -(i : Int) ≤ -(i : Int) + (l : Int) * 2 ∧ (-(i : Int) + (l : Int) * 2 - i) % 2 = 0 := by omega
theorem pos_of {j n : Nat} : j < n + 1 - 2 ↔ 1 ≤ j + 1 ∧ j + 1 + 1 ≤ n := by omega
theorem mem_cells {n : Nat} {h : List Int} (p : Path n h) (c : Int) : c ∈ cellsF h ↔ ∃ i : Nat, 1 ≤ i ∧ i + 1 ≤ n ∧ ∃ x : Int, c = 40 * (i : Int) + x ∧ -(i : Int) ≤ x ∧ x < at' h i ∧ (x - i) % 2 = 0 := by
  unfold cellsF cellsTo
  rw [List.mem_flatMap, p.len]
  constructor
  · rintro ⟨j, hj, hc⟩
    obtain ⟨l, hl, rfl⟩ := List.mem_map.mp hc
    obtain ⟨j1, j2⟩ := pos_of.mp (List.mem_range.mp hj)
    exact ⟨j + 1, j1, j2, _, rfl, half_to.1, range_lt.mp (List.mem_range.mp hl), half_to.2⟩
  · rintro ⟨_ | i, h1, h2, x, rfl, h3, h4, h5⟩
    · cases h1
    · obtain ⟨l, rfl⟩ := half_of h3 h5
      exact ⟨i, List.mem_range.mpr (pos_of.mpr ⟨h1, h2⟩), List.mem_map.mpr ⟨l, List.mem_range.mpr (range_lt.mpr h4), rfl⟩⟩
theorem step_two {i a b : Nat} (h : a < b) : 40 * (i : Int) + (-(i : Int) + (a : Int) * 2) < 40 * (i : Int) + (-(i : Int) + (b : Int) * 2) := by omega
theorem le_ten {i l n : Nat} {y : Int} (hi : i + 1 ≤ n) (hn : n ≤ 8) (h : -(i : Int) + (l : Int) * 2 < y) (hy : y ≤ i) : -10 ≤ -(i : Int) + (l : Int) * 2 ∧ -(i : Int) + (l : Int) * 2 ≤ 10 := by omega
theorem cells_sorted {n : Nat} {h : List Int} (p : Path n h) (hn : n ≤ 8) : (cellsF h).Pairwise (· < ·) := by
  unfold cellsF cellsTo
  rw [List.pairwise_flatMap, p.len]
  have mem : ∀ (i : Nat) (c : Int), i ∈ List.range (n + 1 - 2) → c ∈ cellsAt h (i + 1) (cellN h (i + 1)) → ∃ x : Int, (-10 ≤ x ∧ x ≤ 10) ∧ c = 40 * ((i + 1 : Nat) : Int) + x := fun i c hi hc => by
    obtain ⟨l, hl, rfl⟩ := List.mem_map.mp hc
    have hi' := (pos_of.mp (List.mem_range.mp hi)).2
    exact ⟨_, le_ten hi' hn (range_lt.mp (List.mem_range.mp hl)) (p.bd (i + 1) (Nat.le_of_lt hi')).2.1, rfl⟩
  constructor
  · intro i _
    unfold cellsAt
    rw [List.pairwise_map]
    exact List.pairwise_lt_range.imp step_two
  · refine (List.pairwise_lt_range (n := n + 1 - 2)).imp_of_mem fun {a b} ha hb hab x hx y hy => ?_
    obtain ⟨u, hu, rfl⟩ := mem _ _ ha hx
    obtain ⟨v, hv, rfl⟩ := mem _ _ hb hy
    exact cell_lt (Nat.succ_lt_succ hab) hu.2 hv.1
noncomputable def tri : Nat → Nat
  | 0 => 0
  | k + 1 => tri k + (k + 1)
theorem no_more {i : Nat} {y : Int} (hy : y ≤ i) : ¬ -(i : Int) + (i : Int) * 2 < y := by omega
theorem cells_len {n : Nat} {h : List Int} (p : Path n h) (hn : n ≤ 8) : (cellsF h).length ≤ 28 := by
  unfold cellsF
  rw [p.len]
  have key : ∀ k, k ≤ n → (cellsTo h k).length ≤ tri k := by
    intro k
    induction k with
    | zero => exact fun _ => Nat.le_refl _
    | succ k ih =>
      intro hk
      have hc : cellN h (k + 1) ≤ k + 1 := Nat.le_of_not_lt fun e => no_more (p.bd (k + 1) hk).2.1 (range_lt.mp e)
      rw [cellsTo_succ, List.length_append]
      unfold cellsAt
      rw [List.length_map, List.length_range]
      exact Nat.add_le_add (ih (Nat.le_of_lt hk)) hc
  have t : ∀ k, k < 8 → tri k ≤ 28 := by decide
  exact Nat.le_trans (key (n + 1 - 2) (by omega)) (t _ (by omega))
theorem sld_filter (xs ys : List Int) (hx : xs.Pairwise (· < ·)) (hy : ys.Pairwise (· < ·)) : (sld xs ys).1 = xs.filter (fun x => decide (x ∉ ys)) ∧ (sld xs ys).2 = ys.filter (fun y => decide (y ∉ xs)) := by
  induction xs, ys using sld.induct with
  | case1 ys => exact ⟨by simp [sld], by rw [sld]; exact (List.filter_eq_self.mpr fun a _ => by simp).symm⟩
  | case2 x xs => exact ⟨by rw [sld]; exact (List.filter_eq_self.mpr fun a _ => by simp).symm, by simp [sld]⟩
  | case3 x xs y ys hxy ih =>
    have hx' := List.pairwise_cons.mp hx
    have hy' := List.pairwise_cons.mp hy
    obtain ⟨a, b⟩ := ih hx'.2 hy
    rw [sld, if_pos hxy]
    have h1 : x ∉ y :: ys := fun hm => by
      rcases List.mem_cons.mp hm with e | e
      · omega
      · have := hy'.1 x e; omega
    refine ⟨?_, ?_⟩
    · rw [List.filter_cons, if_pos (by simpa using h1), a]
    · rw [b]
      refine List.filter_congr fun z hz => ?_
      have : z ≠ x := fun e => h1 (e ▸ hz)
      simp [this]
  | case4 x xs y ys hxy hyx ih =>
    have hx' := List.pairwise_cons.mp hx
    have hy' := List.pairwise_cons.mp hy
    obtain ⟨a, b⟩ := ih hx hy'.2
    rw [sld, if_neg hxy, if_pos hyx]
    have h1 : y ∉ x :: xs := fun hm => by
      rcases List.mem_cons.mp hm with e | e
      · omega
      · have := hx'.1 y e; omega
    refine ⟨?_, ?_⟩
    · rw [a]
      refine List.filter_congr fun z hz => ?_
      have : z ≠ y := fun e => h1 (e ▸ hz)
      simp [this]
    · rw [List.filter_cons, if_pos (by simpa using h1), b]
  | case5 x xs y ys hxy hyx ih =>
    have hx' := List.pairwise_cons.mp hx
    have hy' := List.pairwise_cons.mp hy
    have e : x = y := by omega
    subst e
    obtain ⟨a, b⟩ := ih hx'.2 hy'.2
    rw [sld, if_neg hxy, if_neg hyx]
    refine ⟨?_, ?_⟩
    · rw [List.filter_cons, if_neg (by simp), a]
      refine List.filter_congr fun z hz => ?_
      have : z ≠ x := fun e => by have := hx'.1 z hz; omega
      simp [this]
    · rw [List.filter_cons, if_neg (by simp), b]
      refine List.filter_congr fun z hz => ?_
      have : z ≠ x := fun e => by have := hy'.1 z hz; omega
      simp [this]
end Mine
end

-- part MD
section
open PySem PySem.W PyProof.Rows
namespace Mine
theorem off_MD : True := by
  w_top off
  first | (walk1; done) | trivial
/-- a cell of the one row and not of the other -/
noncomputable def Dif (n : Nat) (h g : List Int) (i : Nat) (x : Int) : Prop := 1 ≤ i ∧ i + 1 ≤ n ∧ at' g i ≤ x ∧ x < at' h i ∧ (x - i) % 2 = 0
theorem ten_of {a b x : Int} (ha : -8 ≤ a ∧ a ≤ 8) (hb : -8 ≤ b ∧ b ≤ 8) (h1 : a ≤ x) (h2 : x < b) : -10 ≤ x ∧ x ≤ 10 := by omega
theorem ten_of' {i n : Nat} {b x : Int} (hi : i + 1 ≤ n) (hn : n ≤ 8) (hb : -8 ≤ b ∧ b ≤ 8) (h1 : -(i : Int) ≤ x) (h2 : x < b) : -10 ≤ x ∧ x ≤ 10 := by omega
theorem mem_diff {n : Nat} {h g : List Int} (p : Path n h) (q : Path n g) (hn : n ≤ 8) (c : Int) : (c ∈ cellsF h ∧ c ∉ cellsF g) ↔ ∃ (i : Nat) (x : Int), c = 40 * (i : Int) + x ∧ Dif n h g i x := by
  rw [mem_cells p, mem_cells q]
  constructor
  · rintro ⟨⟨i, h1, h2, x, rfl, h3, h4, h5⟩, hno⟩
    exact ⟨i, x, rfl, h1, h2, Int.not_lt.mp fun hlt => hno ⟨i, h1, h2, x, rfl, h3, hlt, h5⟩, h4, h5⟩
  · rintro ⟨i, x, rfl, h1, h2, h3, h4, h5⟩
    refine ⟨⟨i, h1, h2, x, rfl, Int.le_trans (q.bd i (Nat.le_of_lt h2)).1 h3, h4, h5⟩, ?_⟩
    rintro ⟨j, g1, g2, y, e, g3, g4, g5⟩
    obtain ⟨rfl, rfl⟩ := cell_inj (ten_of (q.rng hn (Nat.le_of_lt h2)) (p.rng hn (Nat.le_of_lt h2)) h3 h4) (ten_of' g2 hn (q.rng hn (Nat.le_of_lt g2)) g3 g4) e
    exact Int.not_lt.mpr h3 g4
theorem dif_at {n : Nat} {h g : List Int} (p : Path n h) (q : Path n g) (hn : n ≤ 8) {i : Nat} {x : Int} (hx : -10 ≤ x ∧ x ≤ 10) : (40 * (i : Int) + x ∈ cellsF h ∧ 40 * (i : Int) + x ∉ cellsF g) ↔ Dif n h g i x := by
  rw [mem_diff p q hn]
  constructor
  · rintro ⟨j, y, e, d⟩
    obtain ⟨rfl, rfl⟩ := cell_inj hx (ten_of (q.rng hn (Nat.le_of_lt d.2.1)) (p.rng hn (Nat.le_of_lt d.2.1)) d.2.2.1 d.2.2.2.1) e
    exact d
  · intro d; exact ⟨i, x, rfl, d⟩
noncomputable def Up (n : Nat) (W g : List Int) (i : Nat) : Prop := 1 ≤ i ∧ i + 1 ≤ n ∧ at' W (i - 1) = at' W (i + 1) ∧ at' W i < at' W (i - 1) ∧ at' W i < at' g i
noncomputable def Dn (n : Nat) (W g : List Int) (i : Nat) : Prop := 1 ≤ i ∧ i + 1 ≤ n ∧ at' W (i - 1) = at' W (i + 1) ∧ at' W i > at' W (i - 1) ∧ at' W i > at' g i
theorem mem_corner {W g : List Int} {i : Nat} {c : Int} : c ∈ cornerAt W g i ↔ at' W (i - 1) = at' W (i + 1) ∧ ((at' W i < at' W (i - 1) ∧ at' W i < at' g i ∧ c = 40 * (i : Int) + at' W i) ∨ (at' W i > at' W (i - 1) ∧ at' W i > at' g i ∧ c = 40 * (i : Int) + at' W i - 2)) := by
  unfold cornerAt
  show (c ∈ if at' W (i - 1) = at' W (i + 1) then (if at' W i < at' W (i - 1) ∧ at' W i < at' g i then [40 * (i : Int) + at' W i] else []) ++ (if at' W i > at' W (i - 1) ∧ at' W i > at' g i then [40 * (i : Int) + at' W i - 2] else []) else []) ↔ _
  by_cases h1 : at' W (i - 1) = at' W (i + 1)
  · rw [if_pos h1, List.mem_append]
    constructor
    · rintro (h | h)
      · split at h
        · rename_i hc; exact ⟨h1, .inl ⟨hc.1, hc.2, List.mem_singleton.mp h⟩⟩
        · cases h
      · split at h
        · rename_i hc; exact ⟨h1, .inr ⟨hc.1, hc.2, List.mem_singleton.mp h⟩⟩
        · cases h
    · rintro ⟨_, ⟨a, b, rfl⟩ | ⟨a, b, rfl⟩⟩
      · left; rw [if_pos ⟨a, b⟩]; exact .head _
      · right; rw [if_pos ⟨a, b⟩]; exact .head _
  · rw [if_neg h1]
    constructor
    · intro h; cases h
    · rintro ⟨h, _⟩; exact absurd h h1
theorem mem_crn {n : Nat} {W g : List Int} (p : Path n W) (c : Int) : c ∈ crn W g ↔ ∃ i : Nat, (Up n W g i ∧ c = 40 * (i : Int) + at' W i) ∨ (Dn n W g i ∧ c = 40 * (i : Int) + at' W i - 2) := by
  unfold crn crnTo
  rw [List.mem_flatMap, p.len]
  constructor
  · rintro ⟨j, hj, hc⟩
    obtain ⟨j1, j2⟩ := pos_of.mp (List.mem_range.mp hj)
    obtain ⟨h1, h2⟩ := mem_corner.mp hc
    exact ⟨j + 1, h2.imp (fun ⟨a, b, e⟩ => ⟨⟨j1, j2, h1, a, b⟩, e⟩) (fun ⟨a, b, e⟩ => ⟨⟨j1, j2, h1, a, b⟩, e⟩)⟩
  · rintro ⟨_ | i, ⟨⟨h1, h2, h3, h4, h5⟩, e⟩ | ⟨⟨h1, h2, h3, h4, h5⟩, e⟩⟩
    · cases h1
    · cases h1
    · exact ⟨i, List.mem_range.mpr (pos_of.mpr ⟨h1, h2⟩), mem_corner.mpr ⟨h3, .inl ⟨h4, h5, e⟩⟩⟩
    · exact ⟨i, List.mem_range.mpr (pos_of.mpr ⟨h1, h2⟩), mem_corner.mpr ⟨h3, .inr ⟨h4, h5, e⟩⟩⟩
theorem ten8 {x : Int} (h : -8 ≤ x ∧ x ≤ 8) : (-10 ≤ x ∧ x ≤ 10) ∧ (-10 ≤ x - 2 ∧ x - 2 ≤ 10) ∧ (-10 ≤ x - 1 ∧ x - 1 ≤ 10) ∧ (-10 ≤ x - 2 + 1 ∧ x - 2 + 1 ≤ 10) := by omega
theorem crn_at {n : Nat} {W g : List Int} (p : Path n W) (hn : n ≤ 8) {i : Nat} {x : Int} (hx : -10 ≤ x ∧ x ≤ 10) : 40 * (i : Int) + x ∈ crn W g ↔ (Up n W g i ∧ x = at' W i) ∨ (Dn n W g i ∧ x = at' W i - 2) := by
  rw [mem_crn p]
  constructor
  · rintro ⟨j, ⟨u, e⟩ | ⟨u, e⟩⟩
    · obtain ⟨rfl, rfl⟩ := cell_inj hx (ten8 (p.rng hn (Nat.le_of_lt u.2.1))).1 e
      exact .inl ⟨u, rfl⟩
    · rw [Int.add_sub_assoc] at e
      obtain ⟨rfl, rfl⟩ := cell_inj hx (ten8 (p.rng hn (Nat.le_of_lt u.2.1))).2.1 e
      exact .inr ⟨u, rfl⟩
  · rintro (⟨u, rfl⟩ | ⟨u, rfl⟩)
    · exact ⟨i, .inl ⟨u, rfl⟩⟩
    · exact ⟨i, .inr ⟨u, (Int.add_sub_assoc ..).symm⟩⟩
theorem crn_sorted {n : Nat} {W g : List Int} (p : Path n W) (hn : n ≤ 8) : (crn W g).Pairwise (· < ·) := by
  unfold crn crnTo
  rw [List.pairwise_flatMap, p.len]
  have mem : ∀ (i : Nat) (c : Int), i ∈ List.range (n + 1 - 2) → c ∈ cornerAt W g (i + 1) → ∃ x : Int, (-10 ≤ x ∧ x ≤ 10) ∧ c = 40 * ((i + 1 : Nat) : Int) + x := fun i c hi hc => by
    have r := ten8 (p.rng hn (Nat.le_of_lt (pos_of.mp (List.mem_range.mp hi)).2))
    obtain ⟨_, ⟨_, _, rfl⟩ | ⟨_, _, rfl⟩⟩ := mem_corner.mp hc
    · exact ⟨_, r.1, rfl⟩
    · exact ⟨_, r.2.1, Int.add_sub_assoc ..⟩
  constructor
  · intro i _
    unfold cornerAt
    split
    · split
      · rename_i h1
        rw [if_neg fun e => Int.lt_asymm h1.1 e.1]
        exact List.pairwise_singleton _ _
      · split
        · exact List.pairwise_singleton _ _
        · exact .nil
    · exact .nil
  · refine (List.pairwise_lt_range (n := n + 1 - 2)).imp_of_mem fun {a b} ha hb hab x hx y hy => ?_
    obtain ⟨u, hu, rfl⟩ := mem _ _ ha hx
    obtain ⟨v, hv, rfl⟩ := mem _ _ hb hy
    exact cell_lt (Nat.succ_lt_succ hab) hu.2 hv.1
/-- how far the walk is -/
structure Geo (n : Nat) (h g W : List Int) (dn : Int → Bool) : Prop where
  p : Path n W
  bt : ∀ i, i ≤ n → (at' h i ≤ at' g i → at' h i ≤ at' W i ∧ at' W i ≤ at' g i) ∧ (at' g i ≤ at' h i → at' g i ≤ at' W i ∧ at' W i ≤ at' h i)
  d1 : ∀ (i : Nat) (x : Int), Dif n h g i x → (dn (40 * (i : Int) + x) = true ↔ at' W i ≤ x)
  d2 : ∀ (i : Nat) (x : Int), Dif n g h i x → (dn (40 * (i : Int) + x) = true ↔ x < at' W i)
theorem Geo.zero {n : Nat} {h g : List Int} (p : Path n h) : Geo n h g h (fun _ => false) :=
  ⟨p, fun i _ => ⟨fun h => ⟨Int.le_refl _, h⟩, fun h => ⟨h, Int.le_refl _⟩⟩, fun i x d => ⟨(fun e => nomatch e), fun e => absurd d.2.2.2.1 (Int.not_lt.mpr e)⟩, fun i x d => ⟨(fun e => nomatch e), fun e => absurd d.2.2.1 (Int.not_le.mpr e)⟩⟩
theorem at_wstep {W cs : List Int} {k i : Nat} (hi : i < k) : at' (wstep W cs k) i = if 40 * (i : Int) + at' W i ∈ cs then at' W i + 2 else if 40 * (i : Int) + at' W i - 2 ∈ cs then at' W i - 2 else at' W i := by
  unfold wstep
  show ((List.range k).map _).getD i 0 = _
  rw [List.getD_eq_getElem?_getD, List.getElem?_map, List.getElem?_range hi]
  rfl
theorem Geo.h_le {n : Nat} {h g W : List Int} {dn : Int → Bool} (G : Geo n h g W dn) {i : Nat} (hi : i ≤ n) (e : at' W i < at' g i) : at' h i ≤ at' W i := by
  rcases Int.le_total (at' h i) (at' g i) with a | a
  · exact ((G.bt i hi).1 a).1
  · exact absurd e (Int.not_lt.mpr ((G.bt i hi).2 a).1)
theorem Geo.le_h {n : Nat} {h g W : List Int} {dn : Int → Bool} (G : Geo n h g W dn) {i : Nat} (hi : i ≤ n) (e : at' g i < at' W i) : at' W i ≤ at' h i := by
  rcases Int.le_total (at' h i) (at' g i) with a | a
  · exact absurd e (Int.not_lt.mpr ((G.bt i hi).1 a).2)
  · exact ((G.bt i hi).2 a).2
theorem Geo.le {n : Nat} {h g W : List Int} {dn : Int → Bool} (G : Geo n h g W dn) {i : Nat} (hi : i ≤ n) {c : Int} (h1 : at' h i ≤ c) (h2 : at' g i ≤ c) : at' W i ≤ c := by
  rcases Int.le_total (at' h i) (at' g i) with a | a
  · exact Int.le_trans ((G.bt i hi).1 a).2 h2
  · exact Int.le_trans ((G.bt i hi).2 a).2 h1
theorem Geo.ge {n : Nat} {h g W : List Int} {dn : Int → Bool} (G : Geo n h g W dn) {i : Nat} (hi : i ≤ n) {c : Int} (h1 : c ≤ at' h i) (h2 : c ≤ at' g i) : c ≤ at' W i := by
  rcases Int.le_total (at' h i) (at' g i) with a | a
  · exact Int.le_trans h1 ((G.bt i hi).1 a).1
  · exact Int.le_trans h2 ((G.bt i hi).2 a).1
/-- two of one parity -/
theorem par_up {a b k : Int} (ha : (a - k) % 2 = 0) (hb : (b - k) % 2 = 0) (e : a < b) : a + 2 ≤ b := by omega
theorem wstep_cases {n : Nat} {W g : List Int} (p : Path n W) (hn : n ≤ 8) {i : Nat} (hi : i ≤ n) :
    (Up n W g i ∧ at' (wstep W (crn W g) (n + 1)) i = at' W i + 2) ∨ (Dn n W g i ∧ at' (wstep W (crn W g) (n + 1)) i = at' W i - 2) ∨ (¬ Up n W g i ∧ ¬ Dn n W g i ∧ at' (wstep W (crn W g) (n + 1)) i = at' W i) := by
  have r := ten8 (p.rng hn hi)
  rw [at_wstep (Nat.lt_succ_of_le hi), Int.add_sub_assoc]
  have e1 := crn_at (g := g) p hn (i := i) r.1
  have e2 := crn_at (g := g) p hn (i := i) r.2.1
  by_cases h1 : 40 * (i : Int) + at' W i ∈ crn W g
  · rw [if_pos h1]
    rcases e1.mp h1 with ⟨u, _⟩ | ⟨_, e⟩
    · exact .inl ⟨u, rfl⟩
    · exact absurd e (Int.ne_of_gt (Int.sub_lt_self _ (by decide)))
  · rw [if_neg h1]
    have hu : ¬ Up n W g i := fun u => h1 (e1.mpr (.inl ⟨u, rfl⟩))
    by_cases h2 : 40 * (i : Int) + (at' W i - 2) ∈ crn W g
    · rw [if_pos h2]
      rcases e2.mp h2 with ⟨_, e⟩ | ⟨u, _⟩
      · exact absurd e (Int.ne_of_lt (Int.sub_lt_self _ (by decide)))
      · exact .inr (.inl ⟨u, rfl⟩)
    · rw [if_neg h2]
      exact .inr (.inr ⟨hu, fun d => h2 (e2.mpr (.inr ⟨d, rfl⟩)), rfl⟩)
/-- what a place does, with the next one seen -/
noncomputable def Mv (a b a' ga : Int) : Prop := (a' = a + 2 ∧ a < b ∧ a + 2 ≤ ga) ∨ (a' = a - 2 ∧ b < a ∧ ga + 2 ≤ a) ∨ a' = a
theorem no1 {a : Int} : ¬ a + 1 < a := Int.not_lt.mpr (Int.le_add_of_nonneg_right (by decide))
theorem lt2 (a : Int) : a < a + 2 := Int.lt_add_of_pos_right _ (by decide)
theorem mv_up {a a' b' ga gb : Int} (sg : ga ≤ gb + 1) (ha : Mv a (a + 1) a' ga) (hb : Mv (a + 1) a b' gb) : b' = a' + 1 ∨ b' = a' - 1 := by
  rcases ha with ⟨rfl, _, y⟩ | ⟨_, x, _⟩ | rfl
  · rcases hb with ⟨_, x, _⟩ | ⟨_, _, v⟩ | rfl
    · exact absurd x no1
    · omega
    · exact .inr (by omega)
  · exact absurd x no1
  · rcases hb with ⟨_, x, _⟩ | ⟨rfl, _, _⟩ | rfl
    · exact absurd x no1
    · exact .inr (by omega)
    · exact .inl rfl
theorem mv_step {a b a' b' ga gb : Int} (s : b = a + 1 ∨ b = a - 1) (sg : gb ≤ ga + 1) (sg' : ga ≤ gb + 1) (ha : Mv a b a' ga) (hb : Mv b a b' gb) : b' = a' + 1 ∨ b' = a' - 1 := by
  rcases s with rfl | e
  · exact mv_up sg' ha hb
  · have e : a = b + 1 := by omega
    subst e
    rcases mv_up sg hb ha with rfl | rfl
    · exact .inr (by omega)
    · exact .inl (by omega)
theorem mv_bt {h g w w' c : Int} (b : (h ≤ g → h ≤ w ∧ w ≤ g) ∧ (g ≤ h → g ≤ w ∧ w ≤ h)) (m : Mv w c w' g) : (h ≤ g → h ≤ w' ∧ w' ≤ g) ∧ (g ≤ h → g ≤ w' ∧ w' ≤ h) := by
  rcases m with ⟨rfl, _, e⟩ | ⟨rfl, _, e⟩ | rfl
  · exact ⟨fun a => ⟨Int.le_trans (b.1 a).1 (Int.le_of_lt (lt2 w)), e⟩, fun a => absurd (b.2 a).1 (Int.not_le.mpr (Int.lt_of_lt_of_le (lt2 w) e))⟩
  · exact ⟨fun a => absurd (b.1 a).2 (Int.not_le.mpr (Int.lt_of_lt_of_le (lt2 g) e)), fun a => ⟨Int.le_sub_right_of_add_le e, Int.le_trans (Int.sub_le_self _ (by decide)) (b.2 a).2⟩⟩
  · exact b
theorem Up.mv {n : Nat} {W g : List Int} (p : Path n W) (q : Path n g) {i : Nat} {a' : Int} (u : Up n W g i) (e : a' = at' W i + 2) : Mv (at' W i) (at' W (i + 1)) a' (at' g i) ∧ Mv (at' W i) (at' W (i - 1)) a' (at' g i) :=
  have hi := Nat.le_of_lt u.2.1
  have h := par_up (p.bd i hi).2.2 (q.bd i hi).2.2 u.2.2.2.2
  ⟨.inl ⟨e, u.2.2.1 ▸ u.2.2.2.1, h⟩, .inl ⟨e, u.2.2.2.1, h⟩⟩
theorem Dn.mv {n : Nat} {W g : List Int} (p : Path n W) (q : Path n g) {i : Nat} {a' : Int} (u : Dn n W g i) (e : a' = at' W i - 2) : Mv (at' W i) (at' W (i + 1)) a' (at' g i) ∧ Mv (at' W i) (at' W (i - 1)) a' (at' g i) :=
  have hi := Nat.le_of_lt u.2.1
  have h := par_up (q.bd i hi).2.2 (p.bd i hi).2.2 u.2.2.2.2
  ⟨.inr (.inl ⟨e, u.2.2.1 ▸ u.2.2.2.1, h⟩), .inr (.inl ⟨e, u.2.2.2.1, h⟩)⟩
theorem wstep_mv {n : Nat} {W g : List Int} (p : Path n W) (q : Path n g) (hn : n ≤ 8) {i : Nat} (hi : i ≤ n) : Mv (at' W i) (at' W (i + 1)) (at' (wstep W (crn W g) (n + 1)) i) (at' g i) ∧ Mv (at' W i) (at' W (i - 1)) (at' (wstep W (crn W g) (n + 1)) i) (at' g i) := by
  rcases wstep_cases (g := g) p hn hi with ⟨u, e⟩ | ⟨u, e⟩ | ⟨_, _, e⟩
  · exact u.mv p q e
  · exact u.mv p q e
  · exact ⟨.inr (.inr e), .inr (.inr e)⟩
theorem dn_le {w x k : Int} (pw : (w - k) % 2 = 0) (px : (x - k) % 2 = 0) : (w ≤ x ∨ x = w - 2) ↔ w - 2 ≤ x := by
  constructor
  · rintro (a | rfl)
    · exact Int.le_trans (Int.sub_le_self _ (by decide)) a
    · exact Int.le_refl _
  · intro a
    rcases Int.lt_or_le x w with h | h
    · exact .inr (Int.le_antisymm (Int.le_sub_right_of_add_le (par_up px pw h)) a)
    · exact .inl h
theorem up_lt {w x k : Int} (pw : (w - k) % 2 = 0) (px : (x - k) % 2 = 0) : (x < w ∨ x = w) ↔ x < w + 2 := by
  constructor
  · rintro (a | rfl)
    · exact Int.lt_trans a (lt2 w)
    · exact lt2 _
  · intro a
    rcases Int.lt_trichotomy x w with h | h | h
    · exact .inl h
    · exact .inr h
    · exact absurd a (Int.not_lt.mpr (par_up pw px h))
theorem Geo.step {n : Nat} {h g W : List Int} {dn : Int → Bool} (p : Path n h) (q : Path n g) (hn : n ≤ 8) (G : Geo n h g W dn) (dn' : Int → Bool) (hd : ∀ c, dn' c = (dn c || decide (c ∈ crn W g))) : Geo n h g (wstep W (crn W g) (n + 1)) dn' := by
  have P := G.p
  refine ⟨⟨wstep_len _ _ _, ?_, fun i hi => ?_⟩, fun i hi => ?_, fun i x d => ?_, fun i x d => ?_⟩
  · rcases wstep_cases (g := g) P hn (i := 0) (Nat.zero_le _) with ⟨u, _⟩ | ⟨u, _⟩ | ⟨_, _, e⟩
    · exact absurd u.1 (by decide)
    · exact absurd u.1 (by decide)
    · rw [e]; exact P.z
  · exact mv_step (P.st i hi) (q.le1 hi) (q.le2 hi) (wstep_mv P q hn (Nat.le_of_lt hi)).1 (wstep_mv P q hn (i := i + 1) hi).2
  · exact mv_bt (G.bt i hi) (wstep_mv P q hn hi).1
  · have hi : i ≤ n := Nat.le_of_lt d.2.1
    rw [hd, Bool.or_eq_true, decide_eq_true_iff, G.d1 i x d, crn_at (g := g) P hn (ten_of (q.rng hn hi) (p.rng hn hi) d.2.2.1 d.2.2.2.1)]
    rcases wstep_cases (g := g) P hn (i := i) hi with ⟨u, e⟩ | ⟨u, e⟩ | ⟨v1, v2, e⟩
    · exact absurd ((G.bt i hi).2 (Int.le_of_lt (Int.lt_of_le_of_lt d.2.2.1 d.2.2.2.1))).1 (Int.not_le.mpr u.2.2.2.2)
    · rw [e, ← dn_le (P.bd i hi).2.2 d.2.2.2.2]
      exact or_congr_right ⟨fun a => a.elim (fun a => absurd a.1.2.2.2.1 (Int.lt_asymm u.2.2.2.1)) And.right, fun a => .inr ⟨u, a⟩⟩
    · rw [e]; exact or_iff_left fun a => a.elim (fun a => v1 a.1) fun a => v2 a.1
  · have hi : i ≤ n := Nat.le_of_lt d.2.1
    rw [hd, Bool.or_eq_true, decide_eq_true_iff, G.d2 i x d, crn_at (g := g) P hn (ten_of (p.rng hn hi) (q.rng hn hi) d.2.2.1 d.2.2.2.1)]
    rcases wstep_cases (g := g) P hn (i := i) hi with ⟨u, e⟩ | ⟨u, e⟩ | ⟨v1, v2, e⟩
    · rw [e, ← up_lt (P.bd i hi).2.2 d.2.2.2.2]
      exact or_congr_right ⟨fun a => a.elim And.right (fun a => absurd a.1.2.2.2.1 (Int.lt_asymm u.2.2.2.1)), fun a => .inl ⟨u, a⟩⟩
    · exact absurd ((G.bt i hi).1 (Int.le_of_lt (Int.lt_of_le_of_lt d.2.2.1 d.2.2.2.1))).2 (Int.not_le.mpr u.2.2.2.2)
    · rw [e]; exact or_iff_left fun a => a.elim (fun a => v1 a.1) fun a => v2 a.1
end Mine
end

-- part ME
section
open PySem PySem.W PyProof.Rows
namespace Mine
theorem off_ME : True := by
  w_top off
  first | (walk1; done) | trivial
structure Ctx (n : Nat) (h g off on : List Int) : Prop where
  p : Path n h
  q : Path n g
  hn : n ≤ 8
  en : at' h n = at' g n
  mo : ∀ c, c ∈ off ↔ (c ∈ cellsF h ∧ c ∉ cellsF g)
  mn : ∀ c, c ∈ on ↔ (c ∈ cellsF g ∧ c ∉ cellsF h)
  no : off.Nodup
  nn : on.Nodup
  lo : off.length ≤ 28
  ln : on.length ≤ 28
noncomputable def prsF (off on : List Int) (c : Int) : List Int := if c ∈ off then prF off (-39) 41 c else if c ∈ on then prF on (-41) 39 c else []
noncomputable def sucF (off on : List Int) (c : Int) : List Int := ((adds off (-39) 41 ++ adds on (-41) 39).filter fun x => decide (c ∈ x.2)).map (·.1)
noncomputable def KF (off on : List Int) (c : Int) : Prop := c ∈ off ∨ c ∈ on
section
variable {n : Nat} {h g off on : List Int}
theorem Ctx.dj (X : Ctx n h g off on) : ∀ c ∈ on, c ∉ off := fun c h1 h2 => ((X.mo c).mp h2).2 ((X.mn c).mp h1).1
theorem Ctx.dif_off (X : Ctx n h g off on) {i : Nat} {x : Int} (hx : -10 ≤ x ∧ x ≤ 10) : 40 * (i : Int) + x ∈ off ↔ Dif n h g i x := (X.mo _).trans (dif_at X.p X.q X.hn hx)
theorem Ctx.dif_on (X : Ctx n h g off on) {i : Nat} {x : Int} (hx : -10 ≤ x ∧ x ≤ 10) : 40 * (i : Int) + x ∈ on ↔ Dif n g h i x := (X.mn _).trans (dif_at X.q X.p X.hn hx)
theorem Ctx.mem_off (X : Ctx n h g off on) {i : Nat} {x : Int} (d : Dif n h g i x) : 40 * (i : Int) + x ∈ off := (X.mo _).mpr ((mem_diff X.p X.q X.hn _).mpr ⟨i, x, rfl, d⟩)
theorem Ctx.mem_on (X : Ctx n h g off on) {i : Nat} {x : Int} (d : Dif n g h i x) : 40 * (i : Int) + x ∈ on := (X.mn _).mpr ((mem_diff X.q X.p X.hn _).mpr ⟨i, x, rfl, d⟩)
theorem Ctx.off_dif (X : Ctx n h g off on) {c : Int} (hc : c ∈ off) : ∃ (i : Nat) (x : Int), c = 40 * (i : Int) + x ∧ Dif n h g i x := (mem_diff X.p X.q X.hn c).mp ((X.mo c).mp hc)
theorem Ctx.on_dif (X : Ctx n h g off on) {c : Int} (hc : c ∈ on) : ∃ (i : Nat) (x : Int), c = 40 * (i : Int) + x ∧ Dif n g h i x := (mem_diff X.q X.p X.hn c).mp ((X.mn c).mp hc)
theorem mem_prF {l : List Int} {a b c p : Int} : p ∈ prF l a b c ↔ (p = c + a ∨ p = c + b) ∧ p ∈ l := by
  unfold prF; rw [List.mem_filter]; simp
theorem Ctx.mem_prs (X : Ctx n h g off on) {c p : Int} : p ∈ prsF off on c ↔ (c ∈ off ∧ p ∈ off ∧ (p = c - 39 ∨ p = c + 41)) ∨ (c ∈ on ∧ p ∈ on ∧ (p = c - 41 ∨ p = c + 39)) := by
  unfold prsF
  by_cases h1 : c ∈ off
  · rw [if_pos h1, mem_prF]
    have h2 : c ∉ on := fun e => X.dj c e h1
    simp only [h1, h2, true_and, false_and, or_false, Int.sub_eq_add_neg]
    exact ⟨fun e => ⟨e.2, e.1⟩, fun e => ⟨e.2, e.1⟩⟩
  · rw [if_neg h1]
    by_cases h2 : c ∈ on
    · rw [if_pos h2, mem_prF]
      simp only [h1, h2, true_and, false_and, false_or, Int.sub_eq_add_neg]
      exact ⟨fun e => ⟨e.2, e.1⟩, fun e => ⟨e.2, e.1⟩⟩
    · rw [if_neg h2]; simp [h1, h2]
theorem Ctx.adds_mem (X : Ctx n h g off on) {x : Int × List Int} : x ∈ adds off (-39) 41 ++ adds on (-41) 39 ↔ KF off on x.1 ∧ x.2 = prsF off on x.1 := by
  rw [List.mem_append]
  unfold adds prsF KF
  constructor
  · rintro (hm | hm)
    · obtain ⟨c, hc, rfl⟩ := List.mem_map.mp hm
      exact ⟨.inl hc, by dsimp only; rw [if_pos hc]⟩
    · obtain ⟨c, hc, rfl⟩ := List.mem_map.mp hm
      exact ⟨.inr hc, by dsimp only; rw [if_neg (X.dj c hc), if_pos hc]⟩
  · rintro ⟨hc, e⟩
    obtain ⟨c, l⟩ := x
    dsimp only at hc e
    by_cases h1 : c ∈ off
    · rw [if_pos h1] at e
      exact .inl (List.mem_map.mpr ⟨c, h1, by rw [e]⟩)
    · have h2 := hc.resolve_left h1
      rw [if_neg h1, if_pos h2] at e
      exact .inr (List.mem_map.mpr ⟨c, h2, by rw [e]⟩)
theorem adds_fst (l : List Int) (a b : Int) : (adds l a b).map (·.1) = l := by unfold adds; rw [List.map_map]; exact List.map_id' l
theorem Ctx.nd (X : Ctx n h g off on) : (off ++ on).Nodup := List.nodup_append.mpr ⟨X.no, X.nn, fun a ha b hb e => X.dj b hb (e ▸ ha)⟩
theorem Ctx.sch (X : Ctx n h g off on) : Sch (KF off on) (prsF off on) (sucF off on) where
  nd := fun c => by
    unfold prsF
    split
    · exact prF_nodup (by decide)
    · split
      · exact prF_nodup (by decide)
      · exact .nil
  sn := fun c => by
    unfold sucF
    have h1 : ((adds off (-39) 41 ++ adds on (-41) 39).map (·.1)).Nodup := by rw [List.map_append, adds_fst, adds_fst]; exact X.nd
    exact List.Sublist.nodup (List.Sublist.map _ List.filter_sublist) h1
  sm := fun c d => by
    unfold sucF
    rw [List.mem_map]
    constructor
    · rintro ⟨x, hx, rfl⟩
      obtain ⟨h1, h2⟩ := List.mem_filter.mp hx
      obtain ⟨h3, h4⟩ := X.adds_mem.mp h1
      exact ⟨h3, by rw [← h4]; simpa using h2⟩
    · rintro ⟨h1, h2⟩
      exact ⟨(d, prsF off on d), List.mem_filter.mpr ⟨X.adds_mem.mpr ⟨h1, rfl⟩, by simpa using h2⟩, rfl⟩
theorem Ctx.prsK (X : Ctx n h g off on) {c p : Int} (hp : p ∈ prsF off on c) : KF off on p := by
  rcases X.mem_prs.mp hp with ⟨_, h2, _⟩ | ⟨_, h2, _⟩
  · exact .inl h2
  · exact .inr h2
theorem Ctx.told (X : Ctx n h g off on) : St0 (KF off on) (sucF off on) (rdP off on) ∧ ∀ c, KF off on c → npOf (rdP off on) c = ((prsF off on c).length : Int) := by
  have T := told_rd X.no X.nn X.dj
  refine ⟨⟨T.nd, fun c => ?_, fun c _ => T.ss c⟩, fun c hc => T.np (c, prsF off on c) (X.adds_mem.mpr ⟨hc, rfl⟩)⟩
  rw [T.ks]
  constructor
  · rintro ⟨x, hx, e⟩
    obtain ⟨h3, h4⟩ := X.adds_mem.mp hx
    rcases e with rfl | e
    · exact h3
    · rw [h4] at e; exact X.prsK e
  · intro hc
    exact ⟨(c, prsF off on c), X.adds_mem.mpr ⟨hc, rfl⟩, .inl rfl⟩
noncomputable def dnT (off on : List Int) : Nat → Int → Bool
  | 0, _ => false
  | t + 1, c => dnT off on t c || decide (c ∈ (rdSt off on t).2)
theorem Ctx.rt (X : Ctx n h g off on) : ∀ t, StR (KF off on) (prsF off on) (sucF off on) (rdSt off on t).1 (rdSt off on t).2 (dnT off on t)
  | 0 => by
    obtain ⟨a, b⟩ := X.told
    have cnt : ∀ c, cntP (prsF off on) (fun _ => false) c = prsF off on c := fun c => List.filter_eq_self.mpr fun _ _ => rfl
    refine ⟨a, fun c hc => by
      show npOf (rdP off on) c = if false = true then _ else ((cntP (prsF off on) (fun _ => false) c).length : Int)
      rw [cnt, b c hc]; rfl, ?_, fun c => ?_, fun c _ hd => nomatch hd⟩
    · exact List.Sublist.nodup (List.Sublist.map _ List.filter_sublist) a.nd
    · show c ∈ ((rdP off on).filter (fun p => p.np == 0)).map (·.key) ↔ _
      rw [List.mem_map]
      constructor
      · rintro ⟨p, hp, rfl⟩
        obtain ⟨h1, h2⟩ := List.mem_filter.mp hp
        have hk : KF off on p.key := (a.ks _).mp (List.mem_map.mpr ⟨p, h1, rfl⟩)
        refine ⟨hk, rfl, fun q hq => ?_⟩
        have h3 := b _ hk
        rw [np_mem a.nd h1] at h3
        have h4 : p.np = 0 := by simpa using h2
        have := List.length_pos_of_mem hq
        omega
      · rintro ⟨hk, _, h3⟩
        obtain ⟨p, hp, e⟩ := List.mem_map.mp ((a.ks c).mpr hk)
        refine ⟨p, List.mem_filter.mpr ⟨hp, ?_⟩, e⟩
        have h4 := b c hk
        rw [← e, np_mem a.nd hp] at h4
        have : prsF off on p.key = [] := List.eq_nil_iff_forall_not_mem.mpr fun q hq => nomatch (h3 q (e ▸ hq))
        rw [this] at h4
        simp [h4]
  | t + 1 => (X.rt t).next X.sch
/-- a place where the rows differ is none of the ends -/
theorem Ctx.inner (X : Ctx n h g off on) {i : Nat} (hi : i ≤ n) (e : at' h i ≠ at' g i) : 1 ≤ i ∧ i + 1 ≤ n := by
  refine ⟨Nat.pos_of_ne_zero fun e0 => e ?_, Nat.lt_of_le_of_ne hi fun e0 => e ?_⟩
  · rw [e0, X.p.z, X.q.z]
  · rw [e0, X.en]
theorem Ctx.offN {W : List Int} {dn : Int → Bool} (X : Ctx n h g off on) (G : Geo n h g W dn) {k : Nat} {y : Int} (hk : k ≤ n) (hg : at' g k ≤ y) (par : (y - k) % 2 = 0) (hp : 40 * (k : Int) + y ∈ off → dn (40 * (k : Int) + y) = true) : at' W k ≤ y := by
  rcases Int.lt_or_le y (at' h k) with hx | hx
  · obtain ⟨h1, h2⟩ := X.inner hk (Int.ne_of_gt (Int.lt_of_le_of_lt hg hx))
    have d : Dif n h g k y := ⟨h1, h2, hg, hx, par⟩
    exact (G.d1 k y d).mp (hp (X.mem_off d))
  · exact G.le hk hx hg
theorem Ctx.onN {W : List Int} {dn : Int → Bool} (X : Ctx n h g off on) (G : Geo n h g W dn) {k : Nat} {y : Int} (hk : k ≤ n) (hg : y < at' g k) (par : (y - k) % 2 = 0) (hp : 40 * (k : Int) + y ∈ on → dn (40 * (k : Int) + y) = true) : y < at' W k := by
  rcases Int.lt_or_le y (at' h k) with hx | hx
  · exact G.ge (c := y + 1) hk hx hg
  · obtain ⟨h1, h2⟩ := X.inner hk (Int.ne_of_lt (Int.lt_of_le_of_lt hx hg))
    have d : Dif n g h k y := ⟨h1, h2, hx, hg, par⟩
    exact (G.d2 k y d).mp (hp (X.mem_on d))
theorem eq39 (j : Nat) (y : Int) : 40 * (j : Int) + (y + 1) = 40 * ((j + 1 : Nat) : Int) + y - 39 := by omega
theorem eq41 (j : Nat) (y : Int) : 40 * ((j + 1 : Nat) : Int) + (y + 1) = 40 * (j : Int) + y + 41 := by omega
theorem eq39' (j : Nat) (y : Int) : 40 * ((j + 1 : Nat) : Int) + (y - 1) = 40 * (j : Int) + y + 39 := by omega
theorem eq41' (j : Nat) (y : Int) : 40 * (j : Int) + (y - 1) = 40 * ((j + 1 : Nat) : Int) + y - 41 := by omega
theorem pa1 {x : Int} {j : Nat} (h : (x - (j + 1 : Nat)) % 2 = 0) : (x + 1 - j) % 2 = 0 ∧ (x - 1 - j) % 2 = 0 ∧ (x + 1 - (j + 1 + 1 : Nat)) % 2 = 0 ∧ (x - 1 - (j + 1 + 1 : Nat)) % 2 = 0 := by omega
theorem le_up {a b x : Int} (h : a ≤ b + 1) (e : b ≤ x) : a ≤ x + 1 := Int.le_trans h (Int.add_le_add_right e 1)
theorem lt_dn {a b x : Int} (h : b ≤ a + 1) (e : x < b) : x - 1 < a := Int.sub_right_lt_of_lt_add (Int.lt_of_lt_of_le e h)
theorem core_dn {x w a b y k c : Int} (k0 : x < w) (pw : (w - k) % 2 = 0) (px : (x - k) % 2 = 0) (l : a ≤ x + 1) (r : b ≤ x + 1) (sl : w ≤ a + 1) (sr : w ≤ b + 1) (hg : y ≤ x) : a = b ∧ w > a ∧ w > y ∧ c + x = c + w - 2 := by
  have h := par_up px pw k0
  have ea : a = x + 1 := Int.le_antisymm l (by omega)
  have eb : b = x + 1 := Int.le_antisymm r (by omega)
  have ew : w = x + 2 := Int.le_antisymm (by omega) h
  subst ew
  exact ⟨ea.trans eb.symm, by omega, Int.lt_of_le_of_lt hg (lt2 x), by omega⟩
theorem core_up {x w a b y j c : Int} (k0 : w ≤ x) (pw : (w - j) % 2 = 0) (px : (x - j) % 2 = 0) (l : x - 1 < a) (r : x - 1 < b) (sl : w = a + 1 ∨ w = a - 1) (sr : b = w + 1 ∨ b = w - 1) (hg : x < y) : a = b ∧ w < a ∧ w < y ∧ c + x = c + w := by
  have e : w = x := by
    rcases Int.lt_or_eq_of_le k0 with h | h
    · have := par_up pw px h
      omega
    · exact h
  subst e
  have ea : a = w + 1 := by omega
  have eb : b = w + 1 := by omega
  exact ⟨ea.trans eb.symm, by omega, hg, rfl⟩
theorem pa2 {w k : Int} (h : (w - k) % 2 = 0) : (w - 2 - k) % 2 = 0 := by omega
theorem lt_sub {a w : Int} (h : w > a) : a ≤ w - 2 + 1 := by omega
theorem Ctx.ready {W : List Int} {dn : Int → Bool} (X : Ctx n h g off on) (G : Geo n h g W dn) (c : Int) : (KF off on c ∧ dn c = false ∧ ∀ p ∈ prsF off on c, dn p = true) ↔ c ∈ crn W g := by
  have P := G.p
  have hn := X.hn
  rw [mem_crn P]
  constructor
  · rintro ⟨hc | hc, hd, hp⟩
    · obtain ⟨i, x, rfl, d⟩ := X.off_dif hc
      have k0 : x < at' W i := Int.not_le.mp fun e => by rw [(G.d1 i x d).mpr e] at hd; cases hd
      obtain ⟨d1, d2, d3, d4, d5⟩ := d
      obtain _ | j := i
      · cases d1
      have hj := Nat.lt_of_succ_lt d2
      obtain ⟨p1, _, p3, _⟩ := pa1 d5
      obtain ⟨e1, e2, e3, e4⟩ := core_dn (c := 40 * ((j + 1 : Nat) : Int)) k0 (P.bd (j + 1) (Nat.le_of_lt d2)).2.2 d5
        (X.offN G (Nat.le_of_lt hj) (le_up (X.q.le2 hj) d3) p1 fun hm => hp _ (X.mem_prs.mpr (.inl ⟨hc, hm, .inl (eq39 j x)⟩)))
        (X.offN G d2 (le_up (X.q.le1 d2) d3) p3 fun hm => hp _ (X.mem_prs.mpr (.inl ⟨hc, hm, .inr (eq41 (j + 1) x)⟩)))
        (P.le1 hj) (P.le2 d2) d3
      exact ⟨j + 1, .inr ⟨⟨d1, d2, e1, e2, e3⟩, e4⟩⟩
    · obtain ⟨i, x, rfl, d⟩ := X.on_dif hc
      have k0 : at' W i ≤ x := Int.not_lt.mp fun e => by rw [(G.d2 i x d).mpr e] at hd; cases hd
      obtain ⟨d1, d2, d3, d4, d5⟩ := d
      obtain _ | j := i
      · cases d1
      have hj := Nat.lt_of_succ_lt d2
      obtain ⟨_, p2, _, p4⟩ := pa1 d5
      obtain ⟨e1, e2, e3, e4⟩ := core_up (c := 40 * ((j + 1 : Nat) : Int)) k0 (P.bd (j + 1) (Nat.le_of_lt d2)).2.2 d5
        (X.onN G (Nat.le_of_lt hj) (lt_dn (X.q.le1 hj) d4) p2 fun hm => hp _ (X.mem_prs.mpr (.inr ⟨hc, hm, .inl (eq41' j x)⟩)))
        (X.onN G d2 (lt_dn (X.q.le2 d2) d4) p4 fun hm => hp _ (X.mem_prs.mpr (.inr ⟨hc, hm, .inr (eq39' (j + 1) x)⟩)))
        (P.st j hj) (P.st (j + 1) d2) d4
      exact ⟨j + 1, .inl ⟨⟨d1, d2, e1, e2, e3⟩, e4⟩⟩
  · rintro ⟨_ | j, ⟨⟨u1, u2, u3, u4, u5⟩, rfl⟩ | ⟨⟨u1, u2, u3, u4, u5⟩, rfl⟩⟩
    · cases u1
    · cases u1
    · have r := (ten8 (P.rng hn (Nat.le_of_lt u2))).2.2.1
      have hi := Nat.le_of_lt u2
      have u4' : at' W (j + 1) < at' W (j + 1 + 1) := u3 ▸ u4
      have d : Dif n g h (j + 1) (at' W (j + 1)) := ⟨u1, u2, G.h_le hi u5, u5, (P.bd (j + 1) hi).2.2⟩
      have hc := X.mem_on d
      refine ⟨.inr hc, Bool.eq_false_iff.mpr fun e => Int.lt_irrefl _ ((G.d2 _ _ d).mp e), fun p hp => ?_⟩
      rcases X.mem_prs.mp hp with ⟨h1, _, _⟩ | ⟨_, h2, rfl | rfl⟩
      · exact absurd h1 (X.dj _ hc)
      · rw [← eq41'] at h2 ⊢
        exact (G.d2 _ _ ((X.dif_on r).mp h2)).mpr (Int.lt_trans (Int.sub_lt_self _ (by decide)) u4)
      · rw [← eq39'] at h2 ⊢
        exact (G.d2 _ _ ((X.dif_on r).mp h2)).mpr (Int.lt_trans (Int.sub_lt_self _ (by decide)) u4')
    · have r := (ten8 (P.rng hn (Nat.le_of_lt u2))).2.2.2
      have hi := Nat.le_of_lt u2
      have u4' : at' W (j + 1) > at' W (j + 1 + 1) := u3 ▸ u4
      have pw := (P.bd (j + 1) hi).2.2
      have d : Dif n h g (j + 1) (at' W (j + 1) - 2) := ⟨u1, u2, Int.le_sub_right_of_add_le (par_up (X.q.bd (j + 1) hi).2.2 pw u5), Int.lt_of_lt_of_le (Int.sub_lt_self _ (by decide)) (G.le_h hi u5), pa2 pw⟩
      have hc := X.mem_off d
      rw [Int.add_sub_assoc]
      refine ⟨.inl hc, Bool.eq_false_iff.mpr fun e => absurd ((G.d1 _ _ d).mp e) (Int.not_le.mpr (Int.sub_lt_self _ (by decide))), fun p hp => ?_⟩
      rcases X.mem_prs.mp hp with ⟨_, h2, rfl | rfl⟩ | ⟨h1, _, _⟩
      · rw [← eq39] at h2 ⊢
        exact (G.d1 _ _ ((X.dif_off r).mp h2)).mpr (lt_sub u4)
      · rw [← eq41] at h2 ⊢
        exact (G.d1 _ _ ((X.dif_off r).mp h2)).mpr (lt_sub u4')
      · exact absurd hc (X.dj _ h1)
end
end Mine
end

-- part MF
section
open PySem PySem.W PyProof.Rows
namespace Mine
theorem off_MF : True := by
  w_top off
  first | (walk1; done) | trivial
theorem sub_len {l m : List Int} (hn : l.Nodup) (hs : ∀ c ∈ l, c ∈ m) : l.length ≤ m.length := by
  induction l generalizing m with
  | nil => exact Nat.zero_le _
  | cons a l ih =>
    have hn' := List.nodup_cons.mp hn
    have ha : a ∈ m := hs a (.head _)
    have h1 := ih (m := m.erase a) hn'.2 fun c hc => (List.mem_erase_of_ne (fun e : c = a => hn'.1 (by rw [← e]; exact hc))).mpr (hs c (.tail _ hc))
    rw [List.length_erase_of_mem ha] at h1
    have := List.length_pos_of_mem ha
    simp only [List.length_cons]; omega
theorem least {P : Nat → Prop} : ∀ m, P m → ∃ k, P k ∧ ∀ j, j < k → ¬ P j := by
  intro m
  induction m using Nat.strongRecOn with
  | ind m ih =>
    intro hm
    by_cases h : ∃ j, j < m ∧ P j
    · obtain ⟨j, hj, hp⟩ := h
      exact ih j hj hp
    · exact ⟨m, hm, fun j hj hp => h ⟨j, hj, hp⟩⟩
noncomputable def rkF (on : List Int) (c : Int) : Nat := if c ∈ on then ((c + 20) % 40).toNat else (100 - (c + 20) % 40).toNat
section
variable {n : Nat} {h g off on : List Int}
theorem Ctx.rsK (X : Ctx n h g off on) (t : Nat) : ∀ c ∈ (rdSt off on t).2, KF off on c := fun c hc => (((X.rt t).rm c).mp hc).1
theorem Ctx.rs_len (X : Ctx n h g off on) (t : Nat) : (rdSt off on t).2.length ≤ 56 := by
  have := sub_len (m := off ++ on) (X.rt t).rn fun c hc => List.mem_append.mpr (X.rsK t c hc)
  rw [List.length_append] at this
  have := X.lo; have := X.ln; omega
theorem Ctx.geo (X : Ctx n h g off on) : ∀ t, Geo n h g (wit h g t) (dnT off on t)
  | 0 => Geo.zero X.p
  | t + 1 => by
    have G := X.geo t
    have hrs : ∀ c, c ∈ (rdSt off on t).2 ↔ c ∈ crn (wit h g t) g := fun c => ((X.rt t).rm c).trans (X.ready G c)
    have e : wit h g (t + 1) = wstep (wit h g t) (crn (wit h g t) g) (n + 1) := by
      show wstep _ _ h.length = _
      rw [X.p.len]
    rw [e]
    refine Geo.step X.p X.q X.hn G _ fun c => ?_
    show (dnT off on t c || decide (c ∈ (rdSt off on t).2)) = _
    congr 1
    exact decide_eq_decide.mpr (hrs c)
theorem Ctx.rs_crn (X : Ctx n h g off on) (t : Nat) (c : Int) : c ∈ (rdSt off on t).2 ↔ c ∈ crn (wit h g t) g := ((X.rt t).rm c).trans (X.ready (X.geo t) c)
theorem Ctx.nil_iff (X : Ctx n h g off on) (t : Nat) : (rdSt off on t).2 = [] ↔ crn (wit h g t) g = [] := by
  rw [List.eq_nil_iff_forall_not_mem, List.eq_nil_iff_forall_not_mem]
  exact ⟨fun a c hc => a c ((X.rs_crn t c).mpr hc), fun a c hc => a c ((X.rs_crn t c).mp hc)⟩
theorem mod40 {i x : Int} (h : -20 ≤ x) (h' : x < 20) : (40 * i + x + 20) % 40 = x + 20 := by omega
theorem rk_off {a b : Int} (ha : a = b + 1) (hb : b ≤ 10) : (100 - (a + 20)).toNat < (100 - (b + 20)).toNat := by omega
theorem rk_on {a b : Int} (ha : a = b - 1) (hb : -10 ≤ b) : (a + 20).toNat < (b + 20).toNat := by omega
theorem at_off {i : Int} {x : Int} : (40 * i + x - 39 = 40 * (i - 1) + (x + 1) ∧ 40 * i + x + 41 = 40 * (i + 1) + (x + 1)) ∧ 40 * i + x - 41 = 40 * (i - 1) + (x - 1) ∧ 40 * i + x + 39 = 40 * (i + 1) + (x - 1) := by omega
theorem ten20 {x : Int} (h : -10 ≤ x ∧ x ≤ 10) : (-20 ≤ x ∧ x < 20) ∧ (-20 ≤ x + 1 ∧ x + 1 < 20) ∧ -20 ≤ x - 1 ∧ x - 1 < 20 := by omega
theorem Ctx.rk_lt (X : Ctx n h g off on) {c p : Int} (hp : p ∈ prsF off on c) : rkF on p < rkF on c := by
  have hn := X.hn
  unfold rkF
  rcases X.mem_prs.mp hp with ⟨h1, h2, h3⟩ | ⟨h1, h2, h3⟩
  · rw [if_neg (fun e => X.dj p e h2), if_neg (fun e => X.dj c e h1)]
    obtain ⟨i, x, rfl, d⟩ := X.off_dif h1
    have hi := Nat.le_of_lt d.2.1
    have r := ten_of (X.q.rng hn hi) (X.p.rng hn hi) d.2.2.1 d.2.2.2.1
    obtain ⟨r1, r2, _⟩ := ten20 r
    have e : (p + 20) % 40 = x + 1 + 20 := by
      rcases h3 with rfl | rfl
      · rw [at_off.1.1]; exact mod40 r2.1 r2.2
      · rw [at_off.1.2]; exact mod40 r2.1 r2.2
    rw [e, mod40 r1.1 r1.2]; exact rk_off rfl r.2
  · rw [if_pos h2, if_pos h1]
    obtain ⟨i, x, rfl, d⟩ := X.on_dif h1
    have hi := Nat.le_of_lt d.2.1
    have r := ten_of (X.p.rng hn hi) (X.q.rng hn hi) d.2.2.1 d.2.2.2.1
    obtain ⟨r1, _, r2⟩ := ten20 r
    have e : (p + 20) % 40 = x - 1 + 20 := by
      rcases h3 with rfl | rfl
      · rw [at_off.2.1]; exact mod40 r2.1 r2.2
      · rw [at_off.2.2]; exact mod40 r2.1 r2.2
    rw [e, mod40 r1.1 r1.2]; exact rk_on rfl r.1
theorem Ctx.all_done (X : Ctx n h g off on) {k : Nat} (hk : (rdSt off on k).2 = []) : ∀ c, KF off on c → dnT off on k c = true := by
  have key : ∀ (m : Nat) (c : Int), rkF on c = m → KF off on c → dnT off on k c = true := by
    intro m
    induction m using Nat.strongRecOn with
    | ind m ih =>
      intro c hm hc
      cases hd : dnT off on k c with
      | true => rfl
      | false =>
        have : c ∈ (rdSt off on k).2 := ((X.rt k).rm c).mpr ⟨hc, hd, fun p hp => ih _ (hm ▸ X.rk_lt hp) p rfl (X.prsK hp)⟩
        rw [hk] at this; cases this
  exact fun c hc => key _ c rfl hc
theorem Geo.at_eq {W : List Int} {dn : Int → Bool} (G : Geo n h g W dn) {i : Nat} (hi : i ≤ n) (e : at' h i = at' g i) : at' W i = at' g i := by
  have b := (G.bt i hi).1 (Int.le_of_eq e)
  exact Int.le_antisymm b.2 (e ▸ b.1)
theorem Ctx.low {W : List Int} {dn : Int → Bool} (X : Ctx n h g off on) (G : Geo n h g W dn) {i : Nat} (hi : i ≤ n) (e : at' W i < at' g i) : at' W i ≤ at' g i - 2 ∧ Dif n g h i (at' g i - 2) := by
  have l : at' W i ≤ at' g i - 2 := Int.le_sub_right_of_add_le (par_up (G.p.bd i hi).2.2 (X.q.bd i hi).2.2 e)
  obtain ⟨a, b⟩ := X.inner hi fun e' => absurd (G.at_eq hi e') (Int.ne_of_lt e)
  exact ⟨l, a, b, Int.le_trans (G.h_le hi e) l, Int.sub_lt_self _ (by decide), pa2 (X.q.bd i hi).2.2⟩
theorem Ctx.high {W : List Int} {dn : Int → Bool} (X : Ctx n h g off on) (G : Geo n h g W dn) {i : Nat} (hi : i ≤ n) (e : at' g i < at' W i) : Dif n h g i (at' g i) := by
  obtain ⟨a, b⟩ := X.inner hi fun e' => absurd (G.at_eq hi e') (Int.ne_of_gt e)
  exact ⟨a, b, Int.le_refl _, Int.lt_of_lt_of_le e (G.le_h hi e), (X.q.bd i hi).2.2⟩
theorem Ctx.fin (X : Ctx n h g off on) {k : Nat} (hk : (rdSt off on k).2 = []) : ∀ i, i ≤ n → at' (wit h g k) i = at' g i := by
  intro i hi
  have G := X.geo k
  rcases Int.lt_trichotomy (at' (wit h g k) i) (at' g i) with hlt | heq | hgt
  · obtain ⟨l, d⟩ := X.low G hi hlt
    exact absurd ((G.d2 i _ d).mp (X.all_done hk _ (.inr (X.mem_on d)))) (Int.not_lt.mpr l)
  · exact heq
  · have d := X.high G hi hgt
    exact absurd ((G.d1 i _ d).mp (X.all_done hk _ (.inl (X.mem_off d)))) (Int.not_le.mpr hgt)
noncomputable def left (off on : List Int) (t : Nat) : List Int := (off ++ on).filter fun c => !dnT off on t c
theorem filter_lt {l : List Int} {f f' : Int → Bool} (hs : ∀ c, f' c = true → f c = true) {c : Int} (hc : c ∈ l) (h1 : f c = true) (h2 : f' c = false) : (l.filter f').length < (l.filter f).length := by
  have e : l.filter f' = (l.filter f).filter f' := by
    rw [List.filter_filter]
    refine List.filter_congr fun x _ => ?_
    cases hx : f' x with
    | false => rfl
    | true => rw [hs x hx]; rfl
  rw [e]
  refine Nat.lt_of_le_of_ne (List.length_filter_le _ _) fun e => ?_
  have := (List.filter_eq_self.mp (List.Sublist.eq_of_length List.filter_sublist e)) c (List.mem_filter.mpr ⟨hc, h1⟩)
  rw [h2] at this; cases this
theorem Ctx.left_lt (X : Ctx n h g off on) {t : Nat} (ht : (rdSt off on t).2 ≠ []) : (left off on (t + 1)).length < (left off on t).length := by
  obtain ⟨c, hc⟩ := List.exists_mem_of_ne_nil _ ht
  have hd := (((X.rt t).rm c).mp hc).2.1
  refine filter_lt (c := c) (fun x hx => ?_) (List.mem_append.mpr (X.rsK t c hc)) (by rw [hd]; rfl) ?_
  · have e : dnT off on (t + 1) x = (dnT off on t x || decide (x ∈ (rdSt off on t).2)) := rfl
    rw [e] at hx
    cases h1 : dnT off on t x with
    | false => rfl
    | true => rw [h1] at hx; cases hx
  · have e : dnT off on (t + 1) c = (dnT off on t c || decide (c ∈ (rdSt off on t).2)) := rfl
    rw [e, hd]; simp [hc]
theorem Ctx.left_le (X : Ctx n h g off on) : ∀ t, (∀ j, j < t → (rdSt off on j).2 ≠ []) → (left off on t).length + t ≤ 56
  | 0, _ => by
    have h1 : (left off on 0).length ≤ (off ++ on).length := List.length_filter_le _ _
    rw [List.length_append] at h1
    have := X.lo; have := X.ln; omega
  | t + 1, ht => by
    have h1 := X.left_le t fun j hj => ht j (by omega)
    have h2 := X.left_lt (ht t (by omega))
    omega
theorem Ctx.ends (X : Ctx n h g off on) : ∃ k, (rdSt off on k).2 = [] ∧ (∀ j, j < k → (rdSt off on j).2 ≠ []) ∧ k ≤ 56 := by
  have hex : ∃ m, (rdSt off on m).2 = [] := by
    by_cases hc : ∃ m, (rdSt off on m).2 = []
    · exact hc
    · have := X.left_le 57 fun j _ e => hc ⟨j, e⟩
      omega
  obtain ⟨m, hm⟩ := hex
  obtain ⟨k, h1, h2⟩ := least (P := fun m => (rdSt off on m).2 = []) m hm
  exact ⟨k, h1, h2, by have := X.left_le k h2; omega⟩
theorem mono_dn (off on : List Int) (t : Nat) (c : Int) : ∀ d, dnT off on t c = true → dnT off on (t + d) c = true
  | 0, h => h
  | d + 1, h => by
    have := mono_dn off on t c d h
    show (dnT off on (t + d) c || _) = true
    rw [this]; rfl
theorem done_in (off on : List Int) (t : Nat) (c : Int) (h0 : dnT off on t c = false) : ∀ d, dnT off on (t + d) c = true → ∃ j, t ≤ j ∧ j < t + d ∧ c ∈ (rdSt off on j).2
  | 0, h => by rw [Nat.add_zero, h0] at h; cases h
  | d + 1, h => by
    have e : dnT off on (t + (d + 1)) c = (dnT off on (t + d) c || decide (c ∈ (rdSt off on (t + d)).2)) := rfl
    rw [e, Bool.or_eq_true, decide_eq_true_iff] at h
    rcases h with h | h
    · obtain ⟨j, h1, h2, h3⟩ := done_in off on t c h0 d h
      exact ⟨j, h1, by omega, h3⟩
    · exact ⟨t + d, by omega, by omega, h⟩
theorem mem_ahead {k t : Nat} {c : Int} : c ∈ aheadOf off on k t ↔ ∃ j, t ≤ j ∧ j < k ∧ c ∈ (rdSt off on j).2 := by
  unfold aheadOf
  rw [List.mem_flatMap]
  have e : ∀ j, j ∈ (List.range k).drop t ↔ t ≤ j ∧ j < k := fun j => by
    rw [List.mem_iff_getElem?]
    constructor
    · rintro ⟨i, hi⟩
      rw [List.getElem?_drop] at hi
      obtain ⟨h1, h2⟩ := List.getElem?_eq_some_iff.mp hi
      rw [List.getElem_range] at h2
      rw [List.length_range] at h1
      omega
    · rintro ⟨h1, h2⟩
      exact ⟨j - t, by rw [List.getElem?_drop, show t + (j - t) = j by omega, List.getElem?_range h2]⟩
  constructor
  · rintro ⟨j, hj, hc⟩
    exact ⟨j, ((e j).mp hj).1, ((e j).mp hj).2, hc⟩
  · rintro ⟨j, h1, h2, hc⟩
    exact ⟨j, (e j).mpr ⟨h1, h2⟩, hc⟩
theorem Ctx.ahead (X : Ctx n h g off on) {k t : Nat} (hk : (rdSt off on k).2 = []) (ht : t ≤ k) (c : Int) : c ∈ aheadOf off on k t ↔ KF off on c ∧ dnT off on t c = false := by
  rw [mem_ahead]
  constructor
  · rintro ⟨j, h1, h2, hc⟩
    refine ⟨X.rsK j c hc, ?_⟩
    have hd := (((X.rt j).rm c).mp hc).2.1
    cases e : dnT off on t c with
    | false => rfl
    | true =>
      have := mono_dn off on t c (j - t) e
      rw [show t + (j - t) = j by omega, hd] at this; cases this
  · rintro ⟨hK, hd⟩
    have := X.all_done hk c hK
    obtain ⟨j, h1, h2, h3⟩ := done_in off on t c hd (k - t) (by rw [show t + (k - t) = k by omega]; exact this)
    exact ⟨j, h1, by omega, h3⟩
theorem Ctx.off_nil (X : Ctx n h g off on) {k t : Nat} (hk : (rdSt off on k).2 = []) (ht : t ≤ k) : off.filter (fun x => decide (x ∈ aheadOf off on k t)) = [] ↔ ∀ i, i ≤ n → at' (wit h g t) i ≤ at' g i := by
  have G := X.geo t
  rw [List.filter_eq_nil_iff]
  constructor
  · intro a i hi
    refine Int.not_lt.mp fun hlt => ?_
    have d := X.high G hi hlt
    have hm := X.mem_off d
    refine absurd ?_ (a _ hm)
    rw [decide_eq_true_iff, X.ahead hk ht]
    exact ⟨.inl hm, Bool.eq_false_iff.mpr fun e => absurd ((G.d1 i _ d).mp e) (Int.not_le.mpr hlt)⟩
  · intro a c hc e
    rw [decide_eq_true_iff, X.ahead hk ht] at e
    obtain ⟨i, x, rfl, d⟩ := X.off_dif hc
    have h2 := (G.d1 i x d).mpr (Int.le_trans (a i (Nat.le_of_lt d.2.1)) d.2.2.1)
    rw [h2] at e; cases e.2
theorem Ctx.on_nil (X : Ctx n h g off on) {k t : Nat} (hk : (rdSt off on k).2 = []) (ht : t ≤ k) : on.filter (fun x => decide (x ∈ aheadOf off on k t)) = [] ↔ ∀ i, i ≤ n → at' g i ≤ at' (wit h g t) i := by
  have G := X.geo t
  rw [List.filter_eq_nil_iff]
  constructor
  · intro a i hi
    refine Int.not_lt.mp fun hlt => ?_
    obtain ⟨l, d⟩ := X.low G hi hlt
    have hm := X.mem_on d
    refine absurd ?_ (a _ hm)
    rw [decide_eq_true_iff, X.ahead hk ht]
    exact ⟨.inr hm, Bool.eq_false_iff.mpr fun e => absurd ((G.d2 i _ d).mp e) (Int.not_lt.mpr l)⟩
  · intro a c hc e
    rw [decide_eq_true_iff, X.ahead hk ht] at e
    obtain ⟨i, x, rfl, d⟩ := X.on_dif hc
    have h2 := (G.d2 i x d).mpr (Int.lt_of_lt_of_le d.2.2.2.1 (a i (Nat.le_of_lt d.2.1)))
    rw [h2] at e; cases e.2
end
end Mine
end

-- part MG
section
open PySem PySem.W PyProof.Rows
namespace Mine
theorem off_MG : True := by
  w_top off
  first | (walk1; done) | trivial
noncomputable def mixC (k : Int) : List Nat := if k = 0 then [40, 41] else if k = 2 then [40, 40] else [41, 41]
theorem par_mix (bs as : List Int) (D : Nat → Int) (hD : ∀ i, mixK bs as i = D (i + 1) - D i) : ∀ (m i : Nat), (∀ j, i ≤ j → j < i + m → mixK bs as j = 0 ∨ mixK bs as j = 2 ∨ mixK bs as j = -2) → 0 ≤ D i →
    (par ((List.range' i m).flatMap fun j => mixC (mixK bs as j)) (D i) = true ↔ (∀ j, i ≤ j → j ≤ i + m → 0 ≤ D j) ∧ D (i + m) = 0)
  | 0, i, _, h0 => by
    show ((D i == 0) = true ↔ _)
    rw [beq_iff_eq]
    constructor
    · intro e
      exact ⟨fun j h1 h2 => by have : j = i := by omega
                               subst this; exact h0, e⟩
    · rintro ⟨_, e⟩; exact e
  | m + 1, i, hm, h0 => by
    have hK := hm i (Nat.le_refl _) (by omega)
    have hd := hD i
    have ih := par_mix bs as D hD m (i + 1) (fun j h1 h2 => hm j (by omega) (by omega))
    have e0 : i + 1 + m = i + (m + 1) := by omega
    rw [e0] at ih
    have split : (∀ j, i ≤ j → j ≤ i + (m + 1) → 0 ≤ D j) ↔ 0 ≤ D (i + 1) ∧ ∀ j, i + 1 ≤ j → j ≤ i + (m + 1) → 0 ≤ D j := by
      constructor
      · intro a; exact ⟨a (i + 1) (by omega) (by omega), fun j h1 h2 => a j (by omega) h2⟩
      · rintro ⟨_, a⟩ j h1 h2
        rcases Nat.lt_or_ge i j with h | h
        · exact a j h h2
        · have : j = i := by omega
          subst this; exact h0
    rw [split, List.range'_succ, List.flatMap_cons]
    rcases hK with e | e | e
    · rw [show mixC (mixK bs as i) = [40, 41] by rw [e]; rfl]
      have e1 : D (i + 1) = D i := by omega
      rw [e1] at ih ⊢
      have e2 : par ([40, 41] ++ (List.range' (i + 1) m).flatMap fun j => mixC (mixK bs as j)) (D i) = par ((List.range' (i + 1) m).flatMap fun j => mixC (mixK bs as j)) (D i) := by
        show (if D i + 1 - 1 < 0 then false else par _ (D i + 1 - 1)) = _
        rw [if_neg (by omega), show D i + 1 - 1 = D i by omega]; rfl
      rw [e2, ih h0]
      simp [h0]
    · rw [show mixC (mixK bs as i) = [40, 40] by rw [e]; rfl]
      have e1 : D (i + 1) = D i + 2 := by omega
      have h1 : 0 ≤ D (i + 1) := by omega
      have e2 : par ([40, 40] ++ (List.range' (i + 1) m).flatMap fun j => mixC (mixK bs as j)) (D i) = par ((List.range' (i + 1) m).flatMap fun j => mixC (mixK bs as j)) (D (i + 1)) := by
        show par _ (D i + 1 + 1) = _
        rw [e1, show D i + 1 + 1 = D i + 2 by omega]; rfl
      rw [e2, ih h1]
      simp [h1]
    · rw [show mixC (mixK bs as i) = [41, 41] by rw [e]; rfl]
      have e1 : D (i + 1) = D i - 2 := by omega
      have e2 : par ([41, 41] ++ (List.range' (i + 1) m).flatMap fun j => mixC (mixK bs as j)) (D i) = (if D i - 1 < 0 then false else if D i - 1 - 1 < 0 then false else par ((List.range' (i + 1) m).flatMap fun j => mixC (mixK bs as j)) (D i - 1 - 1)) := rfl
      rw [e2]
      by_cases h1 : 0 ≤ D (i + 1)
      · rw [if_neg (by omega), if_neg (by omega), show D i - 1 - 1 = D (i + 1) by omega, ih h1]
        simp [h1]
      · have : (if D i - 1 < 0 then false else if D i - 1 - 1 < 0 then false else par ((List.range' (i + 1) m).flatMap fun j => mixC (mixK bs as j)) (D i - 1 - 1)) = false := by
          by_cases h2 : D i - 1 < 0
          · rw [if_pos h2]
          · rw [if_neg h2, if_pos (by omega)]
        rw [this]
        simp [h1]
theorem mix_three {a a' b b' : Int} (h : a' = a + 1 ∨ a' = a - 1) (h' : b' = b + 1 ∨ b' = b - 1) : b' - b - a' + a = 0 ∨ b' - b - a' + a = 2 ∨ b' - b - a' + a = -2 := by omega
theorem mix_ok {n : Nat} {bs as : List Int} (p : Path n bs) (q : Path n as) : ∀ j, j < n → mixK bs as j = 0 ∨ mixK bs as j = 2 ∨ mixK bs as j = -2 := fun j hj => mix_three (p.st j hj) (q.st j hj)
theorem par_all {n : Nat} {bs as : List Int} (p : Path n bs) (q : Path n as) (he : at' bs n = at' as n) : par (Txt.join "" (mixTo bs as n)).cps.toList 0 = true ↔ ∀ i, i ≤ n → at' bs i ≤ at' as i := by
  have hk : ∀ j, 0 ≤ j → j < 0 + n → mixK bs as j = 0 ∨ mixK bs as j = 2 ∨ mixK bs as j = -2 := fun j _ hj => mix_ok p q j (Nat.zero_add n ▸ hj)
  have h := par_mix bs as (fun i => at' as i - at' bs i) (fun i => by show at' as (i + 1) - at' as i - at' bs (i + 1) + at' bs i = _; omega) n 0 hk (by show 0 ≤ at' as 0 - at' bs 0; rw [p.z, q.z]; decide)
  have e : (Txt.join "" (mixTo bs as n)).cps.toList = (List.range' 0 n).flatMap fun j => mixC (mixK bs as j) := by
    rw [mix_cps, List.range_eq_range']; rfl
  have h : par ((List.range' 0 n).flatMap fun j => mixC (mixK bs as j)) (at' as 0 - at' bs 0) = true ↔ (∀ j, 0 ≤ j → j ≤ 0 + n → 0 ≤ at' as j - at' bs j) ∧ at' as (0 + n) - at' bs (0 + n) = 0 := h
  rw [p.z, q.z] at h
  rw [e]
  rw [show (0 : Int) - 0 = 0 by decide] at h
  rw [h, Nat.zero_add, he]
  constructor
  · rintro ⟨a, _⟩ i hi; have := a i (Nat.zero_le _) hi; omega
  · intro a; exact ⟨fun j _ hj => by have := a j hj; omega, by omega⟩
theorem eq_of_at {a b : List Int} {n : Nat} (h1 : a.length = n + 1) (h2 : b.length = n + 1) (h : ∀ i, i ≤ n → at' a i = at' b i) : a = b := by
  apply List.ext_getElem (by rw [h1, h2])
  intro i i1 i2
  have := h i (by omega)
  show a[i] = b[i]
  have e1 : at' a i = a[i] := by show a.getD i 0 = _; rw [List.getD_eq_getElem?_getD, List.getElem?_eq_getElem i1]; rfl
  have e2 : at' b i = b[i] := by show b.getD i 0 = _; rw [List.getD_eq_getElem?_getD, List.getElem?_eq_getElem i2]; rfl
  rw [← e1, ← e2, this]
theorem nodup_of_lt {l : List Int} (h : l.Pairwise (· < ·)) : l.Nodup := h.imp fun {a b} hab => Int.ne_of_lt hab
theorem mem_bound {n : Nat} {h : List Int} (p : Path n h) (hn : n ≤ 8) : ∀ x ∈ h, -100 ≤ x ∧ x ≤ 100 := fun x hx => by
  obtain ⟨i, hi, e⟩ := List.mem_iff_getElem.mp hx
  have e1 : at' h i = x := by show h.getD i 0 = _; rw [List.getD_eq_getElem?_getD, List.getElem?_eq_getElem hi]; exact e
  have b := p.rng hn (Nat.le_of_lt_succ (p.len ▸ hi))
  rw [e1] at b
  exact ⟨Int.le_trans (by decide) b.1, Int.le_trans b.2 (by decide)⟩
theorem plain (fl gl : List Nat) (_hc : ∀ c ∈ fl, c = 40 ∨ c = 41) (hp : gl.Perm fl) (hl : fl.length ≤ 8) : ∃ k rk, PL fl gl k rk := by
  obtain ⟨p, sp⟩ := hts_path fl.length fl rfl
  obtain ⟨q, sq⟩ := hts_path fl.length gl hp.length_eq
  generalize hn : fl.length = n at *
  have sc := cells_sorted p hl
  have sd := cells_sorted q hl
  obtain ⟨eo, en⟩ := sld_filter _ _ sc sd
  have X : Ctx n (hts fl) (hts gl) (offOf fl gl) (onOf fl gl) := by
    refine ⟨p, q, hl, by rw [sp, sq]; exact (perm_sum hp).symm, fun c => ?_, fun c => ?_, ?_, ?_, ?_, ?_⟩
    · show c ∈ (sld _ _).1 ↔ _
      rw [eo, List.mem_filter, decide_eq_true_iff]
    · show c ∈ (sld _ _).2 ↔ _
      rw [en, List.mem_filter, decide_eq_true_iff]
    · show (sld _ _).1.Nodup
      rw [eo]; exact List.Pairwise.filter _ (nodup_of_lt sc)
    · show (sld _ _).2.Nodup
      rw [en]; exact List.Pairwise.filter _ (nodup_of_lt sd)
    · show (sld _ _).1.length ≤ _
      rw [eo]; exact Nat.le_trans (List.length_filter_le _ _) (cells_len p hl)
    · show (sld _ _).2.length ≤ _
      rw [en]; exact Nat.le_trans (List.length_filter_le _ _) (cells_len q hl)
  obtain ⟨k, k2, k1, k3⟩ := X.ends
  have S0 := X.told.1
  have keyOf : ∀ c, KF (offOf fl gl) (onOf fl gl) c → ∃ p ∈ rdP (offOf fl gl) (onOf fl gl), p.key = c := fun c hK => List.mem_map.mp ((S0.ks c).mpr hK)
  have ssK : ∀ p ∈ rdP (offOf fl gl) (onOf fl gl), ∀ q ∈ p.ss, KF (offOf fl gl) (onOf fl gl) q ∧ p.key ∈ prsF (offOf fl gl) (onOf fl gl) q := fun p hpm q hq => by
    have hK : KF (offOf fl gl) (onOf fl gl) p.key := (S0.ks _).mp (List.mem_map.mpr ⟨p, hpm, rfl⟩)
    have h1 := S0.ss _ hK
    rw [ss_mem S0.nd hpm] at h1
    rw [h1] at hq
    exact (X.sch.sm _ _).mp hq
  have inr : ∀ t i, i ≤ (rdSt (offOf fl gl) (onOf fl gl) t).2.length → InR (KF (offOf fl gl) (onOf fl gl)) (prsF (offOf fl gl) (onOf fl gl)) (sucF (offOf fl gl) (onOf fl gl)) (rdSt (offOf fl gl) (onOf fl gl) t).2 (dnT (offOf fl gl) (onOf fl gl) t) i
      (((rdSt (offOf fl gl) (onOf fl gl) t).2.take i).foldl dnode (pout (rdSt (offOf fl gl) (onOf fl gl) t).1 (rdSt (offOf fl gl) (onOf fl gl) t).2, [])) := fun t i hi => InR.to X.sch (X.rt t) i hi
  have lenh : (hts fl).length = n + 1 := p.len
  have wp : ∀ t, Path n (wit (hts fl) (hts gl) t) := fun t => (X.geo t).p
  have wend : ∀ t, at' (wit (hts fl) (hts gl) t) n = at' (hts gl) n := fun t => (X.geo t).at_eq (Nat.le_refl _) X.en
  refine ⟨k, rkF (onOf fl gl), ⟨by rw [p.len, q.len], by omega, by omega, mem_bound p hl, mem_bound q hl, sc, sd, Nat.le_trans (cells_len p hl) (by decide), Nat.le_trans (cells_len q hl) (by decide), Nat.le_trans X.lo (by decide), Nat.le_trans X.ln (by decide), ?_, fun j hj e => k1 j hj ((X.nil_iff j).mpr e), (X.nil_iff k).mp k2, ?_, fun t ht l hpl hsl => ?_, fun t => Nat.lt_of_le_of_lt (X.rs_len t) (by decide), fun t _ i hi => mix_ok (wp t) q i (by omega), fun t _ i hi => mix_ok q (wp t) i (by omega), fun t ht => ?_, fun t ht => ?_⟩⟩
  · refine ⟨fun p hpm q hq => keyOf q (ssK p hpm q hq).1, fun p hpm q hq => X.rk_lt (ssK p hpm q hq).2, k1, k2, by omega, fun t => Nat.le_trans (X.rs_len t) (by decide), fun t r hr => keyOf r (X.rsK t r hr), fun t _ i c q hi hq => ?_, fun t _ i c hi => ?_, fun t _ i => ?_⟩
    · obtain ⟨hi', e⟩ := List.getElem?_eq_some_iff.mp hi
      have I := inr t i (by omega)
      have hK := X.rsK t c (List.mem_of_getElem? hi)
      rw [I.s0.ss c hK] at hq
      exact keyOf q ((X.sch.sm _ _).mp hq).1
    · obtain ⟨hi', e⟩ := List.getElem?_eq_some_iff.mp hi
      have I := inr t i (by omega)
      have hm := List.mem_of_getElem? hi
      have hK := X.rsK t c hm
      have hd := (((X.rt t).rm c).mp hm).2.1
      have hnt := not_take (X.rt t).rn hi
      rw [I.np c hK, if_neg (fun h => h.elim (fun h => by rw [hd] at h; cases h) hnt), if_pos hm]
    · have lenb : ∀ j, j ≤ (rdSt (offOf fl gl) (onOf fl gl) t).2.length → (((rdSt (offOf fl gl) (onOf fl gl) t).2.take j).foldl dnode (pout (rdSt (offOf fl gl) (onOf fl gl) t).1 (rdSt (offOf fl gl) (onOf fl gl) t).2, [])).2.length ≤ 900 := fun j hj => by
        have I := inr t j hj
        have h1 := sub_len (m := offOf fl gl ++ onOf fl gl) I.out.nd fun c hc => List.mem_append.mpr ((I.out.mem c).mp hc).1
        rw [List.length_append] at h1
        have := X.lo; have := X.ln; omega
      rcases Nat.le_total i (rdSt (offOf fl gl) (onOf fl gl) t).2.length with h | h
      · exact lenb i h
      · have := lenb _ (Nat.le_refl _)
        rw [List.take_length] at this
        rw [List.take_of_length_le h]; exact this
  · exact eq_of_at (wp k).len q.len (X.fin k2)
  · have hc := crn_sorted (g := hts gl) (wp t) hl
    have hn' : l.Nodup := hpl.nodup_iff.mpr (X.rt t).rn
    have hp2 : l.Perm (crn (wit (hts fl) (hts gl) t) (hts gl)) := (List.perm_ext_iff_of_nodup hn' (nodup_of_lt hc)).mpr fun c => (hpl.mem_iff).trans (X.rs_crn t c)
    exact List.Perm.eq_of_pairwise (le := fun a b => a ≤ b) (fun a b _ _ h1 h2 => Int.le_antisymm h1 h2) hsl (hc.imp fun {a b} h => Int.le_of_lt h) hp2
  · rw [lenh, Nat.add_sub_cancel, Bool.eq_iff_iff, decide_eq_true_iff, X.off_nil k2 ht]
    exact par_all (wp t) q (wend t)
  · rw [lenh, Nat.add_sub_cancel, Bool.eq_iff_iff, decide_eq_true_iff, X.on_nil k2 ht]
    exact par_all q (wp t) (wend t).symm
end Mine
end

-- part LZ
section
open PySem PySem.W PyProof.Rows
namespace Mine
theorem off_LZ : True := by
  w_top off
  first | (walk1; done) | trivial
theorem law_end {w : World} {A₀ : Around} {base : Heap} {mean : ExcName → Option Value} {mg mb : Str → Option Value} {s : Shared} {R : Result → Shared → Prop} {ls : Addr} {vs : List Value} {xs : List Int}
    (GB : Gb w base mean mg mb) (G : Gd w A₀ base [] base mean mg mb) (hs : s.heap = base) (hh : A₀.handled = none) (dp : A₀.depth + 21 < recursionLimit) (un : A₀.units + 8 * 21 + 200 < cLine) (hls : base.IsList ls vs.toArray) (hI : IntsAre vs xs) (hlen : xs.length ≤ 63) (hgens : AllBare s.gens)
    (hQ : ∀ h' tk gens', AllBare gens' → (∀ b o, base.get? b = some o → h'.get? b = some o) → R (.ok (.ret (.bool true))) { s with heap := h', toks := tk, gens := gens' }) :
    codeAny (model pw w) A₀ (.call (.ref 210) { pos := [.ref ls] }) R s := by
  refine codeAny_mono (law_code (Q := fun v s' => R (.ok (.ret v)) s') GB G hs hh dp un hls hI hlen hgens plain hQ) ?_
  rintro (e | f) s' q
  · exact q.elim
  · cases f with
    | ret v => exact q
    | _ => exact q.elim
end Mine
theorem PySem.Challenge.cw_oh0062_01_holds : PySem.Challenge.rw_oh0062_01.Holds := by
  w_on
  refine holds_law Mine.topSaid fun said => ?_
  refine holds_open (q := Mine.hd.view_1) (loose := [Str.ofString "_NodeInfo"]) (Xt := fun s => xlAt Mine.hd.view_1 [] s && recOk (OpenLaw.row PySem.Challenge.rw_oh0062_01).toRowW.records s) (XP := XL Mine.hd.view_1 [])
    (Yf := Hook.obs (kHook Mine.hd.heap_1 [2, 3, 15, 17, 18, 20, 21, 22, 24, 25, 27, 28, 29, 31, 32, 34, 35, 36, 38, 39, 41, 42, 50, 51, 53, 54, 56, 57, 58, 60, 61, 62, 63, 64, 67, 74, 75, 76, 77, 87, 88, 90, 91, 93, 94, 95, 97, 98, 100, 101, 102, 104, 105, 107, 108, 109, 112, 113, 114, 116, 117, 119, 120, 121, 123, 124, 126, 127, 128, 130, 131, 133, 134, 135, 137, 138, 140, 141, 142, 144, 145, 147, 148, 149, 151, 152, 154, 155, 156, 157, 158, 159, 160, 163, 165, 166, 168, 169, 170, 172, 173, 175, 176, 177, 180, 181, 182, 185, 186, 187, 189, 190, 192, 193, 194, 196, 197, 199, 200, 201, 204, 205, 206, 209, 210] (fun _ => by kernel_rfl))) (Ya := Hook.val (kHook Mine.hd.heap_1 [2, 3, 15, 17, 18, 20, 21, 22, 24, 25, 27, 28, 29, 31, 32, 34, 35, 36, 38, 39, 41, 42, 50, 51, 53, 54, 56, 57, 58, 60, 61, 62, 63, 64, 67, 74, 75, 76, 77, 87, 88, 90, 91, 93, 94, 95, 97, 98, 100, 101, 102, 104, 105, 107, 108, 109, 112, 113, 114, 116, 117, 119, 120, 121, 123, 124, 126, 127, 128, 130, 131, 133, 134, 135, 137, 138, 140, 141, 142, 144, 145, 147, 148, 149, 151, 152, 154, 155, 156, 157, 158, 159, 160, 163, 165, 166, 168, 169, 170, 172, 173, 175, 176, 177, 180, 181, 182, 185, 186, 187, 189, 190, 192, 193, 194, 196, 197, 199, 200, 201, 204, 205, 206, 209, 210] (fun _ => by kernel_rfl))) (YP := Hook.says (kHook Mine.hd.heap_1 [2, 3, 15, 17, 18, 20, 21, 22, 24, 25, 27, 28, 29, 31, 32, 34, 35, 36, 38, 39, 41, 42, 50, 51, 53, 54, 56, 57, 58, 60, 61, 62, 63, 64, 67, 74, 75, 76, 77, 87, 88, 90, 91, 93, 94, 95, 97, 98, 100, 101, 102, 104, 105, 107, 108, 109, 112, 113, 114, 116, 117, 119, 120, 121, 123, 124, 126, 127, 128, 130, 131, 133, 134, 135, 137, 138, 140, 141, 142, 144, 145, 147, 148, 149, 151, 152, 154, 155, 156, 157, 158, 159, 160, 163, 165, 166, 168, 169, 170, 172, 173, 175, 176, 177, 180, 181, 182, 185, 186, 187, 189, 190, 192, 193, 194, 196, 197, 199, 200, 201, 204, 205, 206, 209, 210] (fun _ => by kernel_rfl))) (N := 2938) Mine.topLeft (Hook.of (kHook Mine.hd.heap_1 [2, 3, 15, 17, 18, 20, 21, 22, 24, 25, 27, 28, 29, 31, 32, 34, 35, 36, 38, 39, 41, 42, 50, 51, 53, 54, 56, 57, 58, 60, 61, 62, 63, 64, 67, 74, 75, 76, 77, 87, 88, 90, 91, 93, 94, 95, 97, 98, 100, 101, 102, 104, 105, 107, 108, 109, 112, 113, 114, 116, 117, 119, 120, 121, 123, 124, 126, 127, 128, 130, 131, 133, 134, 135, 137, 138, 140, 141, 142, 144, 145, 147, 148, 149, 151, 152, 154, 155, 156, 157, 158, 159, 160, 163, 165, 166, 168, 169, 170, 172, 173, 175, 176, 177, 180, 181, 182, 185, 186, 187, 189, 190, 192, 193, 194, 196, 197, 199, 200, 201, 204, 205, 206, 209, 210] (fun _ => by kernel_rfl))) (Hook.keeps (kHook Mine.hd.heap_1 [2, 3, 15, 17, 18, 20, 21, 22, 24, 25, 27, 28, 29, 31, 32, 34, 35, 36, 38, 39, 41, 42, 50, 51, 53, 54, 56, 57, 58, 60, 61, 62, 63, 64, 67, 74, 75, 76, 77, 87, 88, 90, 91, 93, 94, 95, 97, 98, 100, 101, 102, 104, 105, 107, 108, 109, 112, 113, 114, 116, 117, 119, 120, 121, 123, 124, 126, 127, 128, 130, 131, 133, 134, 135, 137, 138, 140, 141, 142, 144, 145, 147, 148, 149, 151, 152, 154, 155, 156, 157, 158, 159, 160, 163, 165, 166, 168, 169, 170, 172, 173, 175, 176, 177, 180, 181, 182, 185, 186, 187, 189, 190, 192, 193, 194, 196, 197, 199, 200, 201, 204, 205, 206, 209, 210] (fun _ => by kernel_rfl)))
    (fun s e => xl_of s (Bool.and_eq_true_iff.mp e).1) XL.keeps (by rfl) (by rfl) (by rfl) (fun s e => recFacts_of (Bool.and_eq_true_iff.mp e).2) (by rfl) (by first | assumption | decide +kernel) (by decide +kernel) ⟨rfl, rfl, rfl, rfl, rfl, by decide +kernel⟩ ?hw ?hc
  case hw => w_witness2
  case hc =>
    k_fill
    intro w s₀ s₁ mg mb G Y fa o pm cd doc dV kV ho hd hcd hD hmg hg args vals as hpre hlay hrd hwl hlo
    have KX := kIn_of Y
    have X := (Ground.X G).1
    have V := (Ground.X G).2
    refine Ground.open G ?_
    intro T B D TE TW
    try (refine guard_noD D (by decide +kernel) ?_; clear D)
    obtain ⟨_, _, M⟩ := bmod_of_top T
    wrow_args hpre hlay hrd hwl hlo
    all_goals (
      first | refine callC_kw (enter_call ?_) | refine enter_call ?_ | refine callC_kw (enter_callW ?_) | refine enter_callW ?_ | w_how
      w_top on
      have K0 := below_caller (Top.heap T)
      have eT : looseW Mine.hd.view_1 [Str.ofString "_NodeInfo"] = [Str.ofString "_NodeInfo", Str.ofString "TopologicalSorter"] := by decide +kernel
      have T' : Top Mine.hd.view_1 [Str.ofString "_NodeInfo", Str.ofString "TopologicalSorter"] (ExcName.means s₀.heap) mg mb s₁.heap := by
        have T2 := T
        rw [eT] at T2
        exact T2
      have h1 : mg (Str.ofString "law") = some (.ref 210) := mg_of KX T'.g (by k_is)
      have h2 : mg (Str.ofString "law") = some (.ref fa) := hmg
      have hfa : fa = 210 := by rw [h1] at h2; cases h2; rfl
      subst hfa
      refine Mine.law_end ⟨KX, T'⟩ ⟨K0, KX, T'⟩ rfl rfl (by decide) (by decide) (by assumption) (by assumption) (by omega) (.of_eq hg) ?_
      intro h' tk gens' hb hk
      exact ⟨.inl ⟨_, _, [], rfl, fun _ => rfl, ReadsW.bool true, (by first | kc_post | wrow_post), fun _ => ⟨List.nodup_nil, fun _ hm => (nomatch hm)⟩⟩, .of_keep hk, rfl, hb⟩)
end
