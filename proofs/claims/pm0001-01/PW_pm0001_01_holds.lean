import PyProof.Rows.All
import Wide.All
import OpenK.AllK
import Wide.FinOn
import PySem.Challenge.RW_pm0001_01
set_option Elab.async false
set_option linter.unusedVariables false
section
open PySem PySem.W PyProof.Rows
namespace Mine
set_option maxRecDepth 100000 in
set_option maxHeartbeats 8000000 in
open_top hd for PySem.Challenge.rw_pm0001_01
end Mine
end
section
open PySem PySem.W PySem.Calls PyProof.Rows PySem.Spec
set_option maxRecDepth 100000
namespace Mine
abbrev PG : Program := PySem.Challenge.rw_pm0001_01.row.prog
def Keep (W : List Addr) (h h' : Heap) : Prop := ∀ b o, b ∉ W → h.get? b = some o → h'.get? b = some o
theorem Keep.refl (W h) : Keep W h h := fun _ _ _ e => e
theorem Keep.trans {W h h' h''} (x : Keep W h h') (y : Keep W h' h'') : Keep W h h'' := fun b o hb e => y b o hb (x b o hb e)
theorem Keep.weaken {W W' h h'} (x : Keep W h h') (hs : ∀ a ∈ W, a ∈ W') : Keep W' h h' := fun b o hb e => x b o (fun q => hb (hs b q)) e
theorem Keep.of_frame {W : List Addr} {h h' : Heap} {L : Addr} {m : Str → Option Value} (F : Fr (hideAll h W) L h' m) : Keep W h h' :=
  fun b o hb e => F.keep b o (hideAll_get W e hb)
theorem Keep.stays {W : List Addr} {b0 h h' : Heap} (x : Keep W h h') (hB : b0.StaysIn h) (hW : ∀ a ∈ W, b0.get? a = none) : b0.StaysIn h' :=
  fun b o e => x b o (fun q => by rw [hW b q] at e; cases e) (hB b o e)
theorem stays_hide {W : List Addr} {b0 h : Heap} (hB : b0.StaysIn h) (hW : ∀ a ∈ W, b0.get? a = none) : b0.StaysIn (hideAll h W) :=
  fun b o e => hideAll_get W (hB b o e) fun q => by rw [hW b q] at e; cases e
section
variable {w : World} {A : Around} {s : Shared} {K : Frag} {b0 : Heap} {Q E : Value → Shared → Prop}
theorem enterS {name qual : Str} {params : Arguments} {body : List Stmt} {scope : Scope} {dV kV doc pm cdv ct oc : Value} {an od : Option Addr} {osl : Array (Option Value)} {f : Addr} {pos : List Value} {kw : List (Str × Value)} {binds : List (Str × Value)}
    (W : List (Addr × Obj)) (X : K.In b0) (hB : b0.StaysIn s.heap) (hlim : b0.NoLimit)
    (ho : K.lookup f = some ⟨oc, od, .func (fnOf name qual params body scope dV kV doc pm an cdv ct), osl⟩) (hcd : codeIn K cdv qual = true) (hroom : A.depth < recursionLimit)
    (hbind : BindsTo s (fnOf name qual params body scope dV kV doc pm an cdv ct) ⟨pos, kw⟩ binds) (hloc : ∀ y ∈ binds, scope.names.lookup y.1 = some .local)
    (hW : ∀ p ∈ W, s.heap.get? p.1 = some p.2)
    (h : ∀ L h₁, L = s.heap.objs.size → Fr (hideAll s.heap (W.map (·.1))) L h₁ (fun y => binds.reverse.lookup y) → News (hideAll s.heap (W.map (·.1))) L h₁ W →
      wpAny (model PG w) (A.deeper (envX qual scope L f cdv [])) (execs body (envX qual scope L f cdv []))
        (fun fl s' => Q (match fl with | .ret v => v | _ => .none) s') (fun _ _ => False) { s with heap := h₁, toks := s.toks + binds.length })
    (hco : scope.isCoroutine = false) (hgen : scope.isGenerator = false) (hk : scope.kind = .function)
    (hcell : ∀ x ∈ scope.names, x.2 ≠ .cell) : wpAny (model PG w) A (call (.ref f) pos kw) Q E s := by
  refine wpAny_call ?_
  refine codeAny_call_def (fd := fnOf name qual params body scope dV kV doc pm an cdv ct) (body := body) (binds := binds) hroom (hB _ _ (X _ _ ho)) rfl (hlim.keeps hB) (codeRec_of (X.keeps hB) hcd) rfl hbind hcell hloc (fun h₁ hns hk₁ => ?_) hco hgen hk
  refine wpAny_mono (h _ h₁ rfl ⟨hns, fun b o e => hk₁ b o (of_hideAll _ e), Nat.le_of_eq (hideAll_size _ _)⟩
    (fun p hp => ⟨hk₁ _ _ (hW p hp), Nat.ne_of_lt (Heap.lt_size (hW p hp)), hideAll_none _ (List.mem_map_of_mem hp)⟩)) (fun fl s' hl => hl) fun _ _ y => y.elim
end
theorem fillK : (hd.heap_39, PySem.Challenge.rw_pm0001_01) = (hd.heap_39, PySem.Challenge.rw_pm0001_01) := by k_fill; rfl
end Mine
end
section
open PySem PySem.W PySem.Calls PyProof.Rows PySem.Spec
set_option maxRecDepth 100000
namespace Mine
theorem walk_off_B2 : True := by
  w_top off
  trivial
local macro_rules | `(tactic| walk_at "pad 0") => `(tactic| fail)
section
variable {w : World} {A : Around} {s : Shared} {b0 : Heap} {Q E : Value → Shared → Prop} {p : Program} {loose : List Str} {mean : ExcName → Option Value} {mg mb : Str → Option Value}
set_option maxHeartbeats 4000000 in
theorem ask_spec {pA pN : Addr} {its : Array Value} {n : Nat} {vs : List Value} {ns : List Int} {t o : Int} {tt to : Tok} {b : Bool}
    (X0 : (hd.heap_39 w.params).In b0) (T0 : Top p loose mean mg mb b0) (hB : b0.StaysIn s.heap) (hp : b0.get? pA = none)
    (hA : s.heap.get? pA = some (listOf its n)) (hN : s.heap.IsList pN vs.toArray) (hI : IntsAre vs ns) (hne : pN ≠ pA)
    (ho0 : 0 ≤ o) (ho1 : o < ns.length) (hsz : ns.length < 1000) (hsa : its.size < 1000) (hroom : A.depth < recursionLimit)
    (h : ∀ r h' tk tk2, Keep [pA] s.heap h' → h'.get? pA = some (listOf (its.push (.ref r)) (n + 1)) → s.heap.get? r = none →
      h'.get? r = some (listOf #[.int t tt, .int o to, .bool b] 0) → Q (.int (ns.getD o.toNat 0) tk2) { s with heap := h', toks := tk }) :
    wpAny (model PG w) A (call (.ref 39) [.ref pA, .int t tt, .int o to, .bool b, .ref pN]) Q E s := by
  refine' enterS [(pA, listOf its n)] X0 hB T0.nolimit ?ho ?hcd hroom ?hbind ?hloc ?hW ?h ?c1 ?c2 ?c3 ?c4
  case ho => k_is
  case hcd => k_is
  case hbind => exact BindsTo.of_eq rfl
  case hloc => exact locs rfl
  case c1 => exact rfl
  case c2 => exact rfl
  case c3 => exact rfl
  case c4 => decide
  case hW => intro p hp; cases hp with | head => exact hA | tail _ h => cases h
  intro L h₁ hL F N
  have hWn : ∀ a ∈ ([(pA, listOf its n)] : List (Addr × Obj)).map (·.1), b0.get? a = none := by
    intro a ha; cases ha with | head => exact hp | tail _ h => cases h
  have X := X0.keeps (stays_hide hB hWn)
  have T := T0.keeps (stays_hide hB hWn)
  have hN' : (hideAll s.heap [pA]).IsList pN vs.toArray := by
    obtain ⟨ob, h1, h2⟩ := hN
    exact ⟨ob, hideAll_get _ h1 (by simpa using hne), h2⟩
  dsimp only [List.map] at *
  show wpAny _ _ _ _ _ _
  k_fold
  k_steps
  dsimp only [qk]
  rename_i l' _ l1 h2 F2 N2 tk4
  refine h l' h2 _ _ (Keep.of_frame (W := [pA]) F2) (N2.get (.tail _ (.head _))) ?_ (N2.get (.head _))
  cases hq : s.heap.get? l' with
  | none => rfl
  | some ob =>
    have := N2.fresh (.head _)
    rw [hideAll_get [pA] hq (by simpa using Nat.ne_of_gt l1)] at this; cases this
end
end Mine
end
section
namespace Mine
abbrev Q3 := Nat × Nat × Bool
def goL (right : Bool) (x y : Int) : Bool := if right then decide (x < y) else !decide (y < x)
def bis (num : Nat → Int) (t : Nat) (right : Bool) (row : List Nat) : Nat → Nat → Nat → List Q3 × Nat
  | 0, lo, _ => ([], lo)
  | f + 1, lo, hi =>
    if lo < hi then
      if goL right (num t) (num (row.getD ((lo + hi) / 2) 0)) then
        ((t, row.getD ((lo + hi) / 2) 0, right) :: (bis num t right row f lo ((lo + hi) / 2)).1, (bis num t right row f lo ((lo + hi) / 2)).2)
      else
        ((t, row.getD ((lo + hi) / 2) 0, right) :: (bis num t right row f ((lo + hi) / 2 + 1) hi).1, (bis num t right row f ((lo + hi) / 2 + 1) hi).2)
    else ([], lo)
def place (num : Nat → Int) (t : Nat) (right : Bool) (row : List Nat) (high : Option Nat) : List Q3 × Nat :=
  bis num t right row row.length 0 (high.getD row.length)
theorem bis_stop {num t right row} {f lo hi : Nat} (h : ¬ lo < hi) : bis num t right row f lo hi = ([], lo) := by
  cases f with
  | zero => rfl
  | succ f => rw [bis, if_neg h]
theorem bis_left {num t right row} {f lo hi : Nat} (h : lo < hi) (g : goL right (num t) (num (row.getD ((lo + hi) / 2) 0)) = true) :
    bis num t right row (f + 1) lo hi = ((t, row.getD ((lo + hi) / 2) 0, right) :: (bis num t right row f lo ((lo + hi) / 2)).1, (bis num t right row f lo ((lo + hi) / 2)).2) := by
  rw [bis, if_pos h, if_pos g]
theorem bis_right {num t right row} {f lo hi : Nat} (h : lo < hi) (g : goL right (num t) (num (row.getD ((lo + hi) / 2) 0)) = false) :
    bis num t right row (f + 1) lo hi = ((t, row.getD ((lo + hi) / 2) 0, right) :: (bis num t right row f ((lo + hi) / 2 + 1) hi).1, (bis num t right row f ((lo + hi) / 2 + 1) hi).2) := by
  rw [bis, if_pos h, if_neg (by rw [g]; exact Bool.false_ne_true)]
theorem fdiv_mid (lo hi : Nat) : Int.fdiv ((lo : Int) + (hi : Int)) 2 = (((lo + hi) / 2 : Nat) : Int) := by
  rw [Int.fdiv_eq_ediv_of_nonneg _ (by decide)]; omega
theorem getD_ofNat (row : List Nat) (k : Nat) : (row.map Int.ofNat).getD k 0 = ((row.getD k 0 : Nat) : Int) := by
  simp only [List.getD_eq_getElem?_getD, List.getElem?_map]
  cases row[k]? <;> rfl
theorem getD_mem {row : List Nat} {k : Nat} (h : k < row.length) : row.getD k 0 ∈ row := by
  rw [List.getD_eq_getElem?_getD, List.getElem?_eq_getElem h]; exact List.getElem_mem h
end Mine
end
section
open PySem PySem.W PySem.Calls PyProof.Rows PySem.Spec
set_option maxRecDepth 100000
namespace Mine
section
variable {w : World} {A : Around} {s : Shared} {b0 : Heap} {Q E : Value → Shared → Prop} {p : Program} {loose : List Str} {mean : ExcName → Option Value} {mg mb : Str → Option Value}
def Trip (h : Heap) (pA : Addr) (v : Value) (q : Q3) : Prop :=
  ∃ r t1 t2 n, v = .ref r ∧ r ≠ pA ∧ h.get? r = some (listOf #[.int (q.1 : Int) t1, .int (q.2.1 : Int) t2, .bool q.2.2] n)
inductive Trips (h : Heap) (pA : Addr) : List Value → List Q3 → Prop where
  | nil : Trips h pA [] []
  | cons {v q vs qs} : Trip h pA v q → Trips h pA vs qs → Trips h pA (v :: vs) (q :: qs)
theorem Trips.length {h pA vs qs} (x : Trips h pA vs qs) : vs.length = qs.length := by
  induction x with
  | nil => rfl
  | cons _ _ ih => simp [ih]
theorem Trip.keep {h h' pA v q} (x : Trip h pA v q) (k : Keep [pA] h h') : Trip h' pA v q :=
  let ⟨r, t1, t2, n, e, ne, g⟩ := x
  ⟨r, t1, t2, n, e, ne, k _ _ (by simpa using ne) g⟩
theorem Trips.keep {h h' pA vs qs} (x : Trips h pA vs qs) (k : Keep [pA] h h') : Trips h' pA vs qs := by
  induction x with
  | nil => exact .nil
  | cons a _ ih => exact .cons (a.keep k) ih
theorem Trips.snoc {h pA vs qs v q} (x : Trips h pA vs qs) (y : Trip h pA v q) : Trips h pA (vs ++ [v]) (qs ++ [q]) := by
  induction x with
  | nil => exact .cons y .nil
  | cons a _ ih => exact .cons a ih
def AskedIs (h : Heap) (pA : Addr) (qs : List Q3) : Prop := ∃ its n, h.get? pA = some (listOf its n) ∧ Trips h pA its.toList qs
theorem AskedIs.size {h pA qs its n} (_ : h.get? pA = some (listOf its n)) (x : Trips h pA its.toList qs) : its.size = qs.length := by
  rw [← x.length]; simp
theorem FnAt_keeps {f : Addr} {h h' : Heap} (x : FnAt f h) (k : ∀ b o, h.get? b = some o → h'.get? b = some o) : FnAt f h' := by
  obtain ⟨oc, od, fd, sl, h1⟩ := x
  exact ⟨oc, od, fd, sl, k _ _ h1⟩
theorem FnAt_hide {f pA : Addr} {h : Heap} {its n} (x : FnAt f h) (hA : h.get? pA = some (listOf its n)) : FnAt f (hideAll h [pA]) := by
  obtain ⟨oc, od, fd, sl, h1⟩ := x
  refine ⟨oc, od, fd, sl, hideAll_get _ h1 ?_⟩
  intro q
  have e : f = pA := by simpa using q
  rw [e, hA] at h1; cases h1
def Halt (P : Prop) : Prop := P
theorem Halt.out {P : Prop} (h : Halt P) : P := h
theorem Halt.mk {P : Prop} (h : P) : Halt P := h
theorem Fr_congr {g h : Heap} {L : Addr} {m m' : Str → Option Value} (F : Fr g L h m) (e : ∀ y, m y = m' y) : Fr g L h m' := (funext e) ▸ F
theorem lookup_cons_if {α β : Type} [DecidableEq α] (y k : α) (v : β) (l : List (α × β)) : List.lookup y ((k, v) :: l) = if y = k then some v else List.lookup y l := by
  rw [List.lookup_cons]
  by_cases e : y = k
  · simp [e]
  · have : (y == k) = false := by simpa using e
    simp [this, e]
abbrev tripObj (q : Q3) (t1 t2 : Tok) (n : Nat) : Obj := listOf #[.int (q.1 : Int) t1, .int (q.2.1 : Int) t2, .bool q.2.2] n
def TripL (g : Heap) (pA : Addr) (T : List (Addr × Obj)) (v : Value) (q : Q3) : Prop :=
  ∃ r t1 t2 n, v = .ref r ∧ r ≠ pA ∧ (g.get? r = some (tripObj q t1 t2 n) ∨ (r, tripObj q t1 t2 n) ∈ T)
inductive TripsL (g : Heap) (pA : Addr) (T : List (Addr × Obj)) : List Value → List Q3 → Prop where
  | nil : TripsL g pA T [] []
  | cons {v q vs qs} : TripL g pA T v q → TripsL g pA T vs qs → TripsL g pA T (v :: vs) (q :: qs)
theorem TripsL.mono {g pA T T' vs qs} (x : TripsL g pA T vs qs) (h : ∀ p ∈ T, p ∈ T') : TripsL g pA T' vs qs := by
  induction x with
  | nil => exact .nil
  | cons a _ ih =>
    obtain ⟨r, t1, t2, n, e, ne, o⟩ := a
    exact .cons ⟨r, t1, t2, n, e, ne, o.imp id (h _)⟩ ih
theorem TripsL.back {g h : Heap} {L pA : Addr} {m : Str → Option Value} {T U : List (Addr × Obj)} {vs qs} (x : TripsL g pA T vs qs) (F : Fr g L h m) (N : News g L h U) (hs : ∀ p ∈ T, p ∈ U) : Trips h pA vs qs := by
  induction x with
  | nil => exact .nil
  | cons a _ ih =>
    obtain ⟨r, t1, t2, n, e, ne, o⟩ := a
    exact .cons ⟨r, t1, t2, n, e, ne, o.elim (F.keep _ _) fun q => (N _ (hs _ q)).1⟩ ih
theorem ledger_add {g h : Heap} {L r : Addr} {m : Str → Option Value} {T : List (Addr × Obj)} {its : Array Value} {n : Nat} (F : Fr g L h m) (N : News g L h T) (hr : h.get? r = some (listOf its n)) :
    g.get? r = some (listOf its n) ∨ News g L h ((r, listOf its n) :: T) := by
  cases q : g.get? r with
  | some o => left; have := F.keep _ _ q; rw [hr] at this; exact this.symm
  | none =>
    right
    intro p hp
    cases hp with
    | head =>
      refine ⟨hr, fun e => ?_, q⟩
      obtain ⟨oL, es, ep, hL, hd, _⟩ := F.ns
      dsimp only at e
      rw [← e, hr] at hL; cases hL; cases hd
    | tail _ h => exact N _ h
theorem adopt {g h : Heap} {L pA : Addr} {m : Str → Option Value} {W : List (Addr × Obj)} {vs qs} (F : Fr g L h m) (N : News g L h W) (R : Trips h pA vs qs) :
    ∃ T, News g L h (W ++ T) ∧ (∀ p ∈ T, p.1 ≠ pA) ∧ TripsL g pA T vs qs := by
  induction R with
  | nil => exact ⟨[], by simpa using N, (fun _ h => nomatch h), .nil⟩
  | cons a _ ih =>
    obtain ⟨T, N1, hT, x⟩ := ih
    obtain ⟨r, t1, t2, n, e, ne, hr⟩ := a
    rcases ledger_add F N1 hr with q | q
    · exact ⟨T, N1, hT, .cons ⟨r, t1, t2, n, e, ne, .inl q⟩ x⟩
    · refine ⟨_ :: T, fun p hp => ?_, ?_, .cons ⟨r, t1, t2, n, e, ne, .inr (.head _)⟩ (x.mono fun p hp => .tail _ hp)⟩
      · rcases List.mem_append.mp hp with hp | hp
        · exact N1 _ (List.mem_append_left _ hp)
        · cases hp with
          | head => exact q _ (.head _)
          | tail _ hp => exact N1 _ (List.mem_append_right _ hp)
      · intro p hp
        cases hp with
        | head => exact ne
        | tail _ hp => exact hT p hp
theorem after_keep {g h h' : Heap} {L pA : Addr} {m : Str → Option Value} {o o' : Obj} {T : List (Addr × Obj)} (F : Fr g L h m) (N : News g L h ((pA, o) :: T)) (hT : ∀ p ∈ T, p.1 ≠ pA) (k : Keep [pA] h h') (e : h'.get? pA = some o') :
    Fr g L h' m ∧ News g L h' ((pA, o') :: T) := by
  have hx : Heap.ExtBut pA h h' := fun b ob hb q => k b ob (by simpa using hb) q
  have hm := N (pA, o) (.head _)
  refine ⟨⟨F.ns.extBut hx hm.2.1.symm, fun b ob q => hx b ob (fun z => by rw [z, hm.2.2] at q; cases q) (F.keep b ob q), F.above⟩, ?_⟩
  intro p hp
  cases hp with
  | head => exact ⟨e, hm.2⟩
  | tail _ h => exact ⟨hx _ _ (hT _ h) (N _ (.tail _ h)).1, (N _ (.tail _ h)).2⟩
def KeySpec (w : World) (pA : Addr) (num : Nat → Int) (c t : Nat) (right : Bool) (f : Addr) (h0 : Heap) : Prop :=
  ∀ (A : Around) (s : Shared) (Q E : Value → Shared → Prop) (o : Nat) (to : Tok) (qs : List Q3), Keep [pA] h0 s.heap → AskedIs s.heap pA qs → o < c → qs.length < 900 → A.depth + 2 < recursionLimit →
    (∀ h' tk tk2, Keep [pA] s.heap h' → AskedIs h' pA (qs ++ [(t, o, right)]) → Q (.int (num o) tk2) { s with heap := h', toks := tk }) →
    wpAny (model PG w) A (call (.ref f) [.int (o : Int) to]) Q E s
theorem while_S {σ : Type} {env : Env} {test : Expr} {body : List Stmt} {pos : Pos} {Q : Flow → Shared → Prop} (I : σ → Shared → Prop) (μ : σ → Nat) (c₀ : σ) (h0 : I c₀ s)
    (turn : ∀ c s₁, I c s₁ → wpAny (model PG w) A (isTrue test env (eval test env)) (fun b s₂ =>
      if b = true then wpAny (model PG w) A (execs body env) (fun f s₃ => match f with
        | .next | .cont => Halt (∃ c', μ c' < μ c ∧ I c' s₃)
        | .brk => Q .next s₃
        | .ret v => Q (.ret v) s₃) (fun _ _ => False) s₂ else Q .next s₂) (fun _ _ => False) s₁) :
    wpAny (model PG w) A (exec (.While test body [] pos) env) Q (fun _ _ => False) s := by
  refine wpAny_While (codeAny_whileLoop (fun n s' => ∃ c, μ c = n ∧ I c s') ?_ (μ c₀) ⟨c₀, rfl, h0⟩)
  rintro n s₁ ⟨c, rfl, hc⟩
  refine wpAny_mono (turn c s₁ hc) (fun b s₂ h₂ => ?_) fun _ _ x => x.elim
  cases b with
  | false =>
    simp only [Bool.false_eq_true, if_false] at h₂ ⊢
    exact wpAny_execs_nil h₂
  | true =>
    simp only [if_true] at h₂ ⊢
    refine wpAny_mono h₂ (fun f s₃ h₃ => ?_) fun _ _ x => x.elim
    cases f with
    | next => obtain ⟨c', a, b⟩ := h₃; exact ⟨_, a, c', rfl, b⟩
    | cont => obtain ⟨c', a, b⟩ := h₃; exact ⟨_, a, c', rfl, b⟩
    | brk => exact h₃
    | ret v => exact h₃
end
end Mine
end
section
open PySem PySem.W PySem.Calls PyProof.Rows PySem.Spec
set_option maxRecDepth 100000
namespace Mine
theorem walk_off_B4 : True := by
  w_top off
  trivial
section
variable {w : World} {A : Around} {s : Shared} {b0 : Heap} {Q E : Value → Shared → Prop} {p : Program} {loose : List Str} {mean : ExcName → Option Value} {mg mb : Str → Option Value}
def HighIs (v : Value) : Option Nat → Prop
  | none => v = .none
  | some k => ∃ t, v = .int (k : Int) t
def bmap (pR f : Addr) (x : Int) (tx : Tok) (lo : Int) (tl : Tok) (hi : Int) (th : Tok) (u : Option Value) : Str → Option Value := fun y =>
  if y = Str.ofString "mid" then u else if y = Str.ofString "lo" then some (.int lo tl) else if y = Str.ofString "hi" then some (.int hi th) else
  if y = Str.ofString "key" then some (.ref f) else if y = Str.ofString "x" then some (.int x tx) else if y = Str.ofString "a" then some (.ref pR) else none
local macro_rules | `(tactic| walk_at "exec While Compare cons nil") => `(tactic| refine Halt.out ?_)
local macro_rules | `(tactic| walk_at "callWith ref") => `(tactic| (refine' callWith_F ?k1 ?_; (case k1 => exact FnAt_keeps (by assumption) (Fr.keep (by assumption)))))
local macro_rules | `(tactic| walk_at "And") => `(tactic| ((with_reducible show FnAt _ _ ∧ _); refine ⟨FnAt_keeps (by assumption) (Fr.keep (by assumption)), ?_⟩))
local macro_rules | `(tactic| walk_at "call ref") => `(tactic| refine Halt.out ?_)
set_option maxHeartbeats 4000000 in
theorem bright_spec {pA pR f : Addr} {vs : List Value} {row : List Nat} {num : Nat → Int} {c t : Nat} {tx tl : Tok} {hv : Value} {high : Option Nat} {qs : List Q3}
    (X0 : (hd.heap_39 w.params).In b0) (T0 : Top p loose mean mg mb b0) (hB : b0.StaysIn s.heap) (hp : b0.get? pA = none)
    (hA : AskedIs s.heap pA qs) (hR : s.heap.IsList pR vs.toArray) (hI : IntsAre vs (row.map Int.ofNat)) (hne : pR ≠ pA) (hrow : ∀ o ∈ row, o < c)
    (hF : FnAt f s.heap) (hK : KeySpec w pA num c t true f s.heap) (hh : HighIs hv high) (hhi : high.getD row.length ≤ row.length)
    (hsz : row.length < 100) (hsa : qs.length < 800) (hroom : A.depth + 4 < recursionLimit) (hu : A.units + 20 < cLine)
    (h : ∀ h' tk tk2, Keep [pA] s.heap h' → AskedIs h' pA (qs ++ (place num t true row high).1) → Q (.int ((place num t true row high).2 : Nat) tk2) { s with heap := h', toks := tk }) :
    wpAny (model PG w) A (call (.ref 23) [.ref pR, .int (num t) tx, .int 0 tl, hv] [(Str.ofString "key", .ref f)]) Q E s := by
  obtain ⟨its, n, hA1, hA2⟩ := hA
  refine' enterS [(pA, listOf its n)] X0 hB T0.nolimit ?ho ?hcd (by omega) ?hbind ?hloc ?hW ?h ?c1 ?c2 ?c3 ?c4
  case ho => k_is
  case hcd => k_is
  case hbind => exact binds_K (X0.keeps hB) rfl (by k_is) rfl rfl rfl
  case hloc => exact locs rfl
  case c1 => exact rfl
  case c2 => exact rfl
  case c3 => exact rfl
  case c4 => decide
  case hW => intro p hp; cases hp with | head => exact hA1 | tail _ h => cases h
  intro L h₁ hL F N
  have hWn : ∀ a ∈ ([(pA, listOf its n)] : List (Addr × Obj)).map (·.1), b0.get? a = none := by
    intro a ha; cases ha with | head => exact hp | tail _ h => cases h
  have X := X0.keeps (stays_hide hB hWn)
  have T := T0.keeps (stays_hide hB hWn)
  have hR' : (hideAll s.heap [pA]).IsList pR vs.toArray := by
    obtain ⟨ob, h1, h2⟩ := hR
    exact ⟨ob, hideAll_get _ h1 (by simpa using hne), h2⟩
  dsimp only [List.map] at *
  show wpAny _ _ _ _ _ _
  have hF' := FnAt_hide hF hA1
  have ehigh : ∃ high', high' = high := ⟨_, rfl⟩
  obtain ⟨high', ehigh⟩ := ehigh
  rcases high with _ | k
  cases hh
  show wpAny _ _ _ _ _ _
  k_fold
  k_steps
  rename Fr _ _ _ _ => F1
  rename News _ _ _ _ => N1
  rename_i tk1 h1
  simp only [List.length_map] at F1
  have F2 := Fr_congr (m' := bmap pR f (num t) tx 0 tl row.length (tk1 + 1) none) F1 (by
    intro y
    by_cases e1 : y = Str.ofString "mid"; · (subst e1; rfl)
    by_cases e2 : y = Str.ofString "lo"; · (subst e2; rfl)
    by_cases e3 : y = Str.ofString "hi"; · (subst e3; rfl)
    by_cases e4 : y = Str.ofString "key"; · (subst e4; rfl)
    by_cases e5 : y = Str.ofString "x"; · (subst e5; rfl)
    by_cases e6 : y = Str.ofString "a"; · (subst e6; rfl)
    show (if y = Str.ofString "hi" then some (Value.int _ _) else List.lookup y [(Str.ofString "key", Value.ref f), (Str.ofString "hi", Value.none), (Str.ofString "lo", Value.int 0 tl), (Str.ofString "x", Value.int (num t) tx), (Str.ofString "a", Value.ref pR)]) = _
    simp only [lookup_cons_if, List.lookup_nil, bmap, if_neg e1, if_neg e2, if_neg e3, if_neg e4, if_neg e5, if_neg e6])
  clear F1
  have Fx : ∃ (hiN : Nat) (th0 : Tok), hiN = (none : Option Nat).getD row.length ∧ Fr (hideAll s.heap [pA]) L h1 (bmap pR f (num t) tx 0 tl hiN th0 none) := ⟨_, _, rfl, F2⟩
  clear F2
  have hh : True := trivial
  rotate_left
  obtain ⟨th, rfl⟩ := hh
  show wpAny _ _ _ _ _ _
  k_fold
  k_steps
  rename Fr _ _ _ _ => F1
  rename News _ _ _ _ => N1
  have F2 := Fr_congr (m' := bmap pR f (num t) tx 0 tl k th none) F1 (by
    intro y
    by_cases e1 : y = Str.ofString "mid"; · (subst e1; rfl)
    by_cases e2 : y = Str.ofString "lo"; · (subst e2; rfl)
    by_cases e3 : y = Str.ofString "hi"; · (subst e3; rfl)
    by_cases e4 : y = Str.ofString "key"; · (subst e4; rfl)
    by_cases e5 : y = Str.ofString "x"; · (subst e5; rfl)
    by_cases e6 : y = Str.ofString "a"; · (subst e6; rfl)
    show (List.lookup y [(Str.ofString "key", Value.ref f), (Str.ofString "hi", Value.int (k : Int) th), (Str.ofString "lo", Value.int 0 tl), (Str.ofString "x", Value.int (num t) tx), (Str.ofString "a", Value.ref pR)]) = _
    simp only [lookup_cons_if, List.lookup_nil, bmap, if_neg e1, if_neg e2, if_neg e3, if_neg e4, if_neg e5, if_neg e6])
  clear F1
  have Fx : ∃ (hiN : Nat) (th0 : Tok), hiN = (some k : Option Nat).getD row.length ∧ Fr (hideAll s.heap [pA]) L _ (bmap pR f (num t) tx 0 tl hiN th0 none) := ⟨_, _, rfl, F2⟩
  clear F2
  have hh : True := trivial
  all_goals (
    obtain ⟨hiN, th0, ehi, F3⟩ := Fx
    clear hh
    have hhi2 : hiN ≤ row.length := by rw [ehi]; exact hhi
    refine Halt.mk ?_
    refine while_S (σ := Nat × Nat × Nat) (fun c s₁ => ∃ (h : Heap) (tk : Nat) (its : Array Value) (n : Nat) (tlo thi : Tok) (u : Option Value) (qs' : List Q3), s₁ = { s with heap := h, toks := tk } ∧
        Fr (hideAll s.heap [pA]) L h (bmap pR f (num t) tx c.2.1 tlo c.2.2 thi u) ∧ News (hideAll s.heap [pA]) L h [(pA, listOf its n)] ∧ Trips h pA its.toList qs' ∧ Keep [pA] s.heap h ∧
        qs' ++ (bis num t true row c.1 c.2.1 c.2.2).1 = qs ++ (place num t true row high').1 ∧ (bis num t true row c.1 c.2.1 c.2.2).2 = (place num t true row high').2 ∧ c.2.2 ≤ row.length ∧ c.2.2 ≤ c.2.1 + c.1 ∧ qs'.length + c.1 ≤ qs.length + row.length)
      (fun c => c.1) (row.length, 0, hiN) ?start ?turn
    case start =>
      refine ⟨_, _, its, n, tl, th0, none, qs, rfl, F3, N1, ?_, Keep.of_frame (W := [pA]) F3, ?_, ?_, hhi2, ?_, ?_⟩
      · exact hA2.keep (Keep.of_frame (W := [pA]) F3)
      · rw [ehi, ehigh]; rfl
      · rw [ehi, ehigh]; rfl
      · show hiN ≤ 0 + row.length; omega
      · exact Nat.le_refl _
    case turn =>
      rintro ⟨fu, lo, hi⟩ s₁ ⟨h2, tk2, its2, n2, tlo, thi, u, qs2, rfl, F4, N4, R4, K4, q1, q2, q3, q4, q5⟩
      clear F3 N1
      dsimp only at F4 q1 q2 q3 q4 q5 ⊢
      obtain ⟨T, N4, hT, Rl⟩ := adopt F4 N4 R4
      rw [List.cons_append, List.nil_append] at N4
      show wpAny _ _ _ _ _ _
      k_steps
      · rename_i hlt h4 F5 N5 t5
        have hlt' : lo < hi := by omega
        have hmid : (lo + hi) / 2 < row.length := by omega
        cases fu with
        | zero => omega
        | succ fu =>
        refine Halt.mk ?_
        rw [fdiv_mid, Int.toNat_natCast, getD_ofNat]
        have K5 : Keep [pA] s.heap h4 := Keep.of_frame (W := [pA]) F5
        have R5 : AskedIs h4 pA qs2 := ⟨its2, n2, (N5 _ (.head _)).1, Rl.back F5 N5 fun _ h => .tail _ h⟩
        refine hK _ _ _ _ _ _ qs2 K5 R5 (hrow _ (getD_mem hmid)) (by omega) (by show A.depth + 1 + 2 < _; omega) (fun h6 tk6 tk7 K6 R6 => ?_)
        obtain ⟨its3, n3, g6, R6⟩ := R6
        obtain ⟨F6, N6⟩ := after_keep F5 N5 hT K6 g6
        clear F5 N5
        rw [fdiv_mid] at F6
        obtain ⟨T3, N7, hT3, Rl3⟩ := adopt F6 N6 R6
        rw [List.cons_append] at N7
        clear N6
        k_steps
        · rename_i hg h8 F8 N8
          have hgl : goL true (num t) (num (row.getD ((lo + hi) / 2) 0)) = true := decide_eq_true hg
          rw [bis_left hlt' hgl] at q1 q2
          dsimp only at q1 q2 ⊢
          refine Halt.mk ⟨(fu, lo, (lo + hi) / 2), Nat.lt_succ_self _, h8, _, its3, n3, tlo, _, some (.int ((lo + hi) / 2 : Nat) _), _, rfl, Fr_congr F8 (by
            intro y
            by_cases e1 : y = Str.ofString "mid"; · (subst e1; rfl)
            by_cases e2 : y = Str.ofString "lo"; · (subst e2; rfl)
            by_cases e3 : y = Str.ofString "hi"; · (subst e3; rfl)
            simp only [bmap, if_neg e1, if_neg e2, if_neg e3]),
            (fun p hp => N8 p (by cases hp with | head => exact .head _ | tail _ h => cases h)), Rl3.back F8 N8 (fun p hp => .tail _ (List.mem_append_right _ hp)), Keep.of_frame (W := [pA]) F8, ?_, q2, ?_, ?_, ?_⟩
          · rw [← q1]; simp
          · dsimp only; omega
          · dsimp only; omega
          · simp only [List.length_append, List.length_cons, List.length_nil]; omega
        · rename_i hg h8 F8 N8
          have hgl : goL true (num t) (num (row.getD ((lo + hi) / 2) 0)) = false := decide_eq_false hg
          rw [bis_right hlt' hgl] at q1 q2
          dsimp only at q1 q2 ⊢
          refine Halt.mk ⟨(fu, (lo + hi) / 2 + 1, hi), Nat.lt_succ_self _, h8, _, its3, n3, _, thi, some (.int ((lo + hi) / 2 : Nat) _), _, rfl, Fr_congr F8 (by
            intro y
            by_cases e1 : y = Str.ofString "mid"; · (subst e1; rfl)
            by_cases e2 : y = Str.ofString "lo"; · (subst e2; rfl)
            by_cases e3 : y = Str.ofString "hi"; · (subst e3; rfl)
            simp only [bmap, if_neg e1, if_neg e2, if_neg e3]),
            (fun p hp => N8 p (by cases hp with | head => exact .head _ | tail _ h => cases h)), Rl3.back F8 N8 (fun p hp => .tail _ (List.mem_append_right _ hp)), Keep.of_frame (W := [pA]) F8, ?_, q2, ?_, ?_, ?_⟩
          · rw [← q1]; simp
          · dsimp only; omega
          · dsimp only; omega
          · simp only [List.length_append, List.length_cons, List.length_nil]; omega
      · rename_i hlt
        have hlt' : ¬ lo < hi := by omega
        rw [bis_stop hlt'] at q1 q2
        subst ehigh
        dsimp only at q1 q2 ⊢
        rename Fr _ _ _ _ => F5
        rename News _ _ _ _ => N5
        rw [List.append_nil] at q1
        rw [q2]
        exact h _ _ _ K4 ⟨its2, n2, (N5 _ (.head _)).1, by rw [← q1]; exact R4⟩)
end
end Mine
end
section
open PySem PySem.W PySem.Calls PyProof.Rows PySem.Spec
set_option maxRecDepth 100000
namespace Mine
theorem walk_off_B5 : True := by
  w_top off
  trivial
local macro_rules | `(tactic| walk_at "pad 0") => `(tactic| fail)
section
variable {w : World} {A : Around} {s : Shared} {b0 : Heap} {Q E : Value → Shared → Prop} {p : Program} {loose : List Str} {mean : ExcName → Option Value} {mg mb : Str → Option Value}
local macro_rules | `(tactic| walk_at "exec While Compare cons nil") => `(tactic| refine Halt.out ?_)
local macro_rules | `(tactic| walk_at "callWith ref") => `(tactic| (refine' callWith_F ?k1 ?_; (case k1 => exact FnAt_keeps (by assumption) (Fr.keep (by assumption)))))
local macro_rules | `(tactic| walk_at "And") => `(tactic| ((with_reducible show FnAt _ _ ∧ _); refine ⟨FnAt_keeps (by assumption) (Fr.keep (by assumption)), ?_⟩))
local macro_rules | `(tactic| walk_at "call ref") => `(tactic| refine Halt.out ?_)
set_option maxHeartbeats 4000000 in
theorem bleft_spec {pA pR f : Addr} {vs : List Value} {row : List Nat} {num : Nat → Int} {c t : Nat} {tx tl : Tok} {hv : Value} {high : Option Nat} {qs : List Q3}
    (X0 : (hd.heap_39 w.params).In b0) (T0 : Top p loose mean mg mb b0) (hB : b0.StaysIn s.heap) (hp : b0.get? pA = none)
    (hA : AskedIs s.heap pA qs) (hR : s.heap.IsList pR vs.toArray) (hI : IntsAre vs (row.map Int.ofNat)) (hne : pR ≠ pA) (hrow : ∀ o ∈ row, o < c)
    (hF : FnAt f s.heap) (hK : KeySpec w pA num c t false f s.heap) (hh : HighIs hv high) (hhi : high.getD row.length ≤ row.length)
    (hsz : row.length < 100) (hsa : qs.length < 800) (hroom : A.depth + 4 < recursionLimit) (hu : A.units + 20 < cLine)
    (h : ∀ h' tk tk2, Keep [pA] s.heap h' → AskedIs h' pA (qs ++ (place num t false row high).1) → Q (.int ((place num t false row high).2 : Nat) tk2) { s with heap := h', toks := tk }) :
    wpAny (model PG w) A (call (.ref 32) [.ref pR, .int (num t) tx, .int 0 tl, hv] [(Str.ofString "key", .ref f)]) Q E s := by
  obtain ⟨its, n, hA1, hA2⟩ := hA
  refine' enterS [(pA, listOf its n)] X0 hB T0.nolimit ?ho ?hcd (by omega) ?hbind ?hloc ?hW ?h ?c1 ?c2 ?c3 ?c4
  case ho => k_is
  case hcd => k_is
  case hbind => exact binds_K (X0.keeps hB) rfl (by k_is) rfl rfl rfl
  case hloc => exact locs rfl
  case c1 => exact rfl
  case c2 => exact rfl
  case c3 => exact rfl
  case c4 => decide
  case hW => intro p hp; cases hp with | head => exact hA1 | tail _ h => cases h
  intro L h₁ hL F N
  have hWn : ∀ a ∈ ([(pA, listOf its n)] : List (Addr × Obj)).map (·.1), b0.get? a = none := by
    intro a ha; cases ha with | head => exact hp | tail _ h => cases h
  have X := X0.keeps (stays_hide hB hWn)
  have T := T0.keeps (stays_hide hB hWn)
  have hR' : (hideAll s.heap [pA]).IsList pR vs.toArray := by
    obtain ⟨ob, h1, h2⟩ := hR
    exact ⟨ob, hideAll_get _ h1 (by simpa using hne), h2⟩
  dsimp only [List.map] at *
  show wpAny _ _ _ _ _ _
  have hF' := FnAt_hide hF hA1
  have ehigh : ∃ high', high' = high := ⟨_, rfl⟩
  obtain ⟨high', ehigh⟩ := ehigh
  rcases high with _ | k
  cases hh
  show wpAny _ _ _ _ _ _
  k_fold
  k_steps
  rename Fr _ _ _ _ => F1
  rename News _ _ _ _ => N1
  rename_i tk1 h1
  simp only [List.length_map] at F1
  have F2 := Fr_congr (m' := bmap pR f (num t) tx 0 tl row.length (tk1 + 1) none) F1 (by
    intro y
    by_cases e1 : y = Str.ofString "mid"; · (subst e1; rfl)
    by_cases e2 : y = Str.ofString "lo"; · (subst e2; rfl)
    by_cases e3 : y = Str.ofString "hi"; · (subst e3; rfl)
    by_cases e4 : y = Str.ofString "key"; · (subst e4; rfl)
    by_cases e5 : y = Str.ofString "x"; · (subst e5; rfl)
    by_cases e6 : y = Str.ofString "a"; · (subst e6; rfl)
    show (if y = Str.ofString "hi" then some (Value.int _ _) else List.lookup y [(Str.ofString "key", Value.ref f), (Str.ofString "hi", Value.none), (Str.ofString "lo", Value.int 0 tl), (Str.ofString "x", Value.int (num t) tx), (Str.ofString "a", Value.ref pR)]) = _
    simp only [lookup_cons_if, List.lookup_nil, bmap, if_neg e1, if_neg e2, if_neg e3, if_neg e4, if_neg e5, if_neg e6])
  clear F1
  have Fx : ∃ (hiN : Nat) (th0 : Tok), hiN = (none : Option Nat).getD row.length ∧ Fr (hideAll s.heap [pA]) L h1 (bmap pR f (num t) tx 0 tl hiN th0 none) := ⟨_, _, rfl, F2⟩
  clear F2
  have hh : True := trivial
  rotate_left
  obtain ⟨th, rfl⟩ := hh
  show wpAny _ _ _ _ _ _
  k_fold
  k_steps
  rename Fr _ _ _ _ => F1
  rename News _ _ _ _ => N1
  have F2 := Fr_congr (m' := bmap pR f (num t) tx 0 tl k th none) F1 (by
    intro y
    by_cases e1 : y = Str.ofString "mid"; · (subst e1; rfl)
    by_cases e2 : y = Str.ofString "lo"; · (subst e2; rfl)
    by_cases e3 : y = Str.ofString "hi"; · (subst e3; rfl)
    by_cases e4 : y = Str.ofString "key"; · (subst e4; rfl)
    by_cases e5 : y = Str.ofString "x"; · (subst e5; rfl)
    by_cases e6 : y = Str.ofString "a"; · (subst e6; rfl)
    show (List.lookup y [(Str.ofString "key", Value.ref f), (Str.ofString "hi", Value.int (k : Int) th), (Str.ofString "lo", Value.int 0 tl), (Str.ofString "x", Value.int (num t) tx), (Str.ofString "a", Value.ref pR)]) = _
    simp only [lookup_cons_if, List.lookup_nil, bmap, if_neg e1, if_neg e2, if_neg e3, if_neg e4, if_neg e5, if_neg e6])
  clear F1
  have Fx : ∃ (hiN : Nat) (th0 : Tok), hiN = (some k : Option Nat).getD row.length ∧ Fr (hideAll s.heap [pA]) L _ (bmap pR f (num t) tx 0 tl hiN th0 none) := ⟨_, _, rfl, F2⟩
  clear F2
  have hh : True := trivial
  all_goals (
    obtain ⟨hiN, th0, ehi, F3⟩ := Fx
    clear hh
    have hhi2 : hiN ≤ row.length := by rw [ehi]; exact hhi
    refine Halt.mk ?_
    refine while_S (σ := Nat × Nat × Nat) (fun c s₁ => ∃ (h : Heap) (tk : Nat) (its : Array Value) (n : Nat) (tlo thi : Tok) (u : Option Value) (qs' : List Q3), s₁ = { s with heap := h, toks := tk } ∧
        Fr (hideAll s.heap [pA]) L h (bmap pR f (num t) tx c.2.1 tlo c.2.2 thi u) ∧ News (hideAll s.heap [pA]) L h [(pA, listOf its n)] ∧ Trips h pA its.toList qs' ∧ Keep [pA] s.heap h ∧
        qs' ++ (bis num t false row c.1 c.2.1 c.2.2).1 = qs ++ (place num t false row high').1 ∧ (bis num t false row c.1 c.2.1 c.2.2).2 = (place num t false row high').2 ∧ c.2.2 ≤ row.length ∧ c.2.2 ≤ c.2.1 + c.1 ∧ qs'.length + c.1 ≤ qs.length + row.length)
      (fun c => c.1) (row.length, 0, hiN) ?start ?turn
    case start =>
      refine ⟨_, _, its, n, tl, th0, none, qs, rfl, F3, N1, ?_, Keep.of_frame (W := [pA]) F3, ?_, ?_, hhi2, ?_, ?_⟩
      · exact hA2.keep (Keep.of_frame (W := [pA]) F3)
      · rw [ehi, ehigh]; rfl
      · rw [ehi, ehigh]; rfl
      · show hiN ≤ 0 + row.length; omega
      · exact Nat.le_refl _
    case turn =>
      rintro ⟨fu, lo, hi⟩ s₁ ⟨h2, tk2, its2, n2, tlo, thi, u, qs2, rfl, F4, N4, R4, K4, q1, q2, q3, q4, q5⟩
      clear F3 N1
      dsimp only at F4 q1 q2 q3 q4 q5 ⊢
      obtain ⟨T, N4, hT, Rl⟩ := adopt F4 N4 R4
      rw [List.cons_append, List.nil_append] at N4
      show wpAny _ _ _ _ _ _
      k_steps
      · rename_i hlt h4 F5 N5 t5
        have hlt' : lo < hi := by omega
        have hmid : (lo + hi) / 2 < row.length := by omega
        cases fu with
        | zero => omega
        | succ fu =>
        refine Halt.mk ?_
        rw [fdiv_mid, Int.toNat_natCast, getD_ofNat]
        have K5 : Keep [pA] s.heap h4 := Keep.of_frame (W := [pA]) F5
        have R5 : AskedIs h4 pA qs2 := ⟨its2, n2, (N5 _ (.head _)).1, Rl.back F5 N5 fun _ h => .tail _ h⟩
        refine hK _ _ _ _ _ _ qs2 K5 R5 (hrow _ (getD_mem hmid)) (by omega) (by show A.depth + 1 + 2 < _; omega) (fun h6 tk6 tk7 K6 R6 => ?_)
        obtain ⟨its3, n3, g6, R6⟩ := R6
        obtain ⟨F6, N6⟩ := after_keep F5 N5 hT K6 g6
        clear F5 N5
        rw [fdiv_mid] at F6
        obtain ⟨T3, N7, hT3, Rl3⟩ := adopt F6 N6 R6
        rw [List.cons_append] at N7
        clear N6
        k_steps
        · rename_i hg h8 F8 N8
          have hgl : goL false (num t) (num (row.getD ((lo + hi) / 2) 0)) = false := by show (!decide (num (row.getD ((lo + hi) / 2) 0) < num t)) = false; rw [decide_eq_true hg]; rfl
          rw [bis_right hlt' hgl] at q1 q2
          dsimp only at q1 q2 ⊢
          refine Halt.mk ⟨(fu, (lo + hi) / 2 + 1, hi), Nat.lt_succ_self _, h8, _, its3, n3, _, thi, some (.int ((lo + hi) / 2 : Nat) _), _, rfl, Fr_congr F8 (by
            intro y
            by_cases e1 : y = Str.ofString "mid"; · (subst e1; rfl)
            by_cases e2 : y = Str.ofString "lo"; · (subst e2; rfl)
            by_cases e3 : y = Str.ofString "hi"; · (subst e3; rfl)
            simp only [bmap, if_neg e1, if_neg e2, if_neg e3]),
            (fun p hp => N8 p (by cases hp with | head => exact .head _ | tail _ h => cases h)), Rl3.back F8 N8 (fun p hp => .tail _ (List.mem_append_right _ hp)), Keep.of_frame (W := [pA]) F8, ?_, q2, ?_, ?_, ?_⟩
          · rw [← q1]; simp
          · dsimp only; omega
          · dsimp only; omega
          · simp only [List.length_append, List.length_cons, List.length_nil]; omega
        · rename_i hg h8 F8 N8
          have hgl : goL false (num t) (num (row.getD ((lo + hi) / 2) 0)) = true := by show (!decide (num (row.getD ((lo + hi) / 2) 0) < num t)) = true; rw [decide_eq_false hg]; rfl
          rw [bis_left hlt' hgl] at q1 q2
          dsimp only at q1 q2 ⊢
          refine Halt.mk ⟨(fu, lo, (lo + hi) / 2), Nat.lt_succ_self _, h8, _, its3, n3, tlo, _, some (.int ((lo + hi) / 2 : Nat) _), _, rfl, Fr_congr F8 (by
            intro y
            by_cases e1 : y = Str.ofString "mid"; · (subst e1; rfl)
            by_cases e2 : y = Str.ofString "lo"; · (subst e2; rfl)
            by_cases e3 : y = Str.ofString "hi"; · (subst e3; rfl)
            simp only [bmap, if_neg e1, if_neg e2, if_neg e3]),
            (fun p hp => N8 p (by cases hp with | head => exact .head _ | tail _ h => cases h)), Rl3.back F8 N8 (fun p hp => .tail _ (List.mem_append_right _ hp)), Keep.of_frame (W := [pA]) F8, ?_, q2, ?_, ?_, ?_⟩
          · rw [← q1]; simp
          · dsimp only; omega
          · dsimp only; omega
          · simp only [List.length_append, List.length_cons, List.length_nil]; omega
      · rename_i hlt
        have hlt' : ¬ lo < hi := by omega
        rw [bis_stop hlt'] at q1 q2
        subst ehigh
        dsimp only at q1 q2 ⊢
        rename Fr _ _ _ _ => F5
        rename News _ _ _ _ => N5
        rw [List.append_nil] at q1
        rw [q2]
        exact h _ _ _ K4 ⟨its2, n2, (N5 _ (.head _)).1, by rw [← q1]; exact R4⟩)
end
end Mine
end
section
open PySem PySem.W PySem.Calls PyProof.Rows PySem.Spec
set_option maxRecDepth 100000
namespace Mine
section
variable {w : World} {A : Around} {s : Shared} {K : Frag} {b0 : Heap} {Q E : Value → Shared → Prop}
theorem enterC {name qual : Str} {params : Arguments} {body : List Stmt} {scope : Scope} {dV kV doc pm cdv ct oc : Value} {an od : Option Addr} {osl : Array (Option Value)} {f : Addr} {pos : List Value} {kw : List (Str × Value)} {binds : List (Str × Value)}
    (W : List (Addr × Obj)) (X : K.In b0) (hB : b0.StaysIn s.heap) (hlim : b0.NoLimit)
    (ho : K.lookup f = some ⟨oc, od, .func (fnOf name qual params body scope dV kV doc pm an cdv ct), osl⟩) (hcd : codeIn K cdv qual = true) (hroom : A.depth < recursionLimit)
    (hbind : BindsTo s (fnOf name qual params body scope dV kV doc pm an cdv ct) ⟨pos, kw⟩ binds) (hkind : (binds.all fun y => scope.names.lookup y.1 == some .local || scope.names.lookup y.1 == some .cell) = true)
    (hnd : ((cellsFrom 0 scope.names []).map (·.1)).Nodup)
    (hW : ∀ p ∈ W, s.heap.get? p.1 = some p.2)
    (h : ∀ L h₁ tk cells, L = s.heap.objs.size → Fr (hideAll s.heap (W.map (·.1))) L h₁ (bindL (envOfC qual scope L f cdv).kindOf binds fun _ => none) → News (hideAll s.heap (W.map (·.1))) L h₁ (cells ++ W) →
      CellsAre (bindC (envOfC qual scope L f cdv).kindOf binds fun _ => none) (cellsFrom (L + 1) scope.names []) cells →
      wpAny (model PG w) (A.deeper (envOfC qual scope L f cdv)) (execs body (envOfC qual scope L f cdv))
        (fun fl s' => Q (match fl with | .ret v => v | _ => .none) s') (fun _ _ => False) { s with heap := h₁, toks := tk })
    (hco : scope.isCoroutine = false) (hgen : scope.isGenerator = false) (hk : scope.kind = .function) : wpAny (model PG w) A (call (.ref f) pos kw) Q E s := by
  refine wpAny_call ?_
  refine codeAny_call_function (fd := fnOf name qual params body scope dV kV doc pm an cdv ct) hroom (hB _ _ (X _ _ ho)) rfl hco hgen rfl (codeRec_of (X.keeps hB) hcd) (hbind _ _ _ _ ?_)
  refine wpAny_newFunctionEnv_cells hk (kindsX hkind _) fun env' he s' x => ?_
  subst he
  refine ⟨(hlim.keeps hB).keeps x.toInCall.keep, codeAny_func ?_⟩
  obtain ⟨h₁, tk, rfl, _⟩ := x.done
  have hk₁ := x.toInCall.keep
  obtain ⟨cells, NC, Y⟩ := Cl.news (h₀ := s.heap) (Nat.le_refl _) fun n c hm => ⟨x.cell n c (lookup_of_mem_nodup (cellsFrom_names scope.names 0 (s.heap.objs.size + 1) [] [] rfl ▸ hnd) hm), x.above n c hm⟩
  refine wpAny_mono (h _ h₁ tk cells rfl ⟨x.toInCall.ns, fun b o e => hk₁ b o (of_hideAll _ e), Nat.le_of_eq (hideAll_size _ _)⟩ (fun p hp => ?_) Y) (fun fl s' hl => hl) fun _ _ y => y.elim
  rcases List.mem_append.mp hp with hp | hp
  · refine ⟨(NC p hp).1, (NC p hp).2.1, ?_⟩
    cases q : (hideAll s.heap (W.map (·.1))).get? p.1 with
    | none => rfl
    | some o => have := of_hideAll _ q; rw [(NC p hp).2.2] at this; cases this
  · exact ⟨hk₁ _ _ (hW p hp), Nat.ne_of_lt (Heap.lt_size (hW p hp)), hideAll_none _ (List.mem_map_of_mem hp)⟩
theorem enterL {name qual : Str} {params : Arguments} {body : Expr} {scope : Scope} {cl : List (Str × Addr)} {pm ctv : Value} {c' f : Addr} {pos : List Value} {kw : List (Str × Value)} {binds : List (Str × Value)}
    (W : List (Addr × Obj)) (hlim : s.heap.NoLimit) (ho : s.heap.get? f = some (kla_obj name qual params body scope cl pm c' ctv)) (hcd : s.heap.CodeRec (.ref c') qual) (hroom : A.depth < recursionLimit)
    (hbind : bindArgs (kla_fn name qual params body scope cl pm (.ref c') ctv) ⟨pos, kw⟩ = pure binds) (hloc : ∀ y ∈ binds, scope.names.lookup y.1 = some .local)
    (hW : ∀ p ∈ W, s.heap.get? p.1 = some p.2)
    (h : ∀ L h₁, L = s.heap.objs.size → Fr (hideAll s.heap (W.map (·.1))) L h₁ (fun y => binds.reverse.lookup y) → News (hideAll s.heap (W.map (·.1))) L h₁ W →
      wpAny (model PG w) (A.deeper (envX qual scope L f (.ref c') cl)) (eval body (envX qual scope L f (.ref c') cl))
        (fun v s' => Q v s') (fun _ _ => False) { s with heap := h₁, toks := s.toks + binds.length })
    (hco : scope.isCoroutine = false) (hgen : scope.isGenerator = false) (hk : scope.kind = .function)
    (hcell : ∀ x ∈ scope.names, x.2 ≠ .cell) : wpAny (model PG w) A (call (.ref f) pos kw) Q E s := by
  refine wpAny_call ?_
  refine kla_callFunE hroom ho rfl hco hgen rfl hcd ?_
  rw [hbind]
  refine wpAny_pure (wpAny_newFunctionEnv hcell hloc (fun h₁ hns hsb => ⟨hlim.fresh _ hsb, ?_⟩) hk)
  have hk₁ : ∀ b o, s.heap.get? b = some o → h₁.get? b = some o := fun b o e => hsb.extBut b o (Nat.ne_of_lt (Heap.lt_size e)) (Heap.get?_push_of_some _ e)
  exact kla_codeExpr (wpAny_mono (h _ h₁ rfl ⟨hns, fun b o e => hk₁ b o (of_hideAll _ e), Nat.le_of_eq (hideAll_size _ _)⟩
    (fun p hp => ⟨hk₁ _ _ (hW p hp), Nat.ne_of_lt (Heap.lt_size (hW p hp)), hideAll_none _ (List.mem_map_of_mem hp)⟩)) (fun v s' hl => hl) fun _ _ y => y.elim)
end
section
variable {M : Model} {A : Around} {E : Value → Shared → Prop} {s : Shared} {h₀ : Heap} {L a : Addr} {m : Str → Option Value} {cn : Str} {cs : Scope} {ccd : Value} {cl : List (Str × Addr)} {x : Str} {pos : Pos} {v : Value} {Q : Value → Shared → Prop} {c : Addr}
theorem nameX_FB (F : Fr h₀ L s.heap m) (hc : cl.lookup x = some c) (hd : h₀.IsCell c (some v)) (h : Q v s)
    (hk : cs.kind = .function) (hx : (envX cn cs L a ccd cl).kindOf x = some .free) (hb : (x == ("__debug__" : Str)) = false := by decide) (hn : (x == ("__classdict__" : Str)) = false := by decide) :
    wpAny M A (eval (.Name x pos) (envX cn cs L a ccd cl)) Q E s := wpAny_Name (wpAny_loadName_free hk hx hc (hd.keeps F.keep) h hn) hb
end
def TabOk (ql : Str) (p1 p2 : Pos) (h : Heap) : Prop :=
  ∃ ps, h.get? 41 = some (tabObj ps) ∧ TriplesOk ps.toList ∧ ∀ q, q = p1 ∨ q = p2 → codeAmong q ps.toList = none ∨ ∃ c', codeAmong q ps.toList = some (.ref c') ∧ c' ≠ 41 ∧ h.CodeRec (.ref c') ql
theorem codeAmong_other {q q' : Pos} {c : Value} (hne : ¬ (q'.line = q.line ∧ q'.col = q.col)) (l : List Value) (h : TriplesOk l) : codeAmong q (l ++ [rawInt q'.line, rawInt q'.col, c]) = codeAmong q l := by
  fun_induction TriplesOk l with
  | case1 =>
    have : ((q'.line : Int) == (q.line : Int) && (q'.col : Int) == (q.col : Int)) = false := by
      cases e1 : ((q'.line : Int) == (q.line : Int)) with
      | false => rfl
      | true =>
        cases e2 : ((q'.col : Int) == (q.col : Int)) with
        | false => rfl
        | true => exact absurd ⟨Int.ofNat.inj (beq_iff_eq.mp e1), Int.ofNat.inj (beq_iff_eq.mp e2)⟩ hne
    simp [codeAmong, rawInt, this]
  | case2 a t b u x rest ih =>
    simp only [List.cons_append, codeAmong]
    split
    · rfl
    · exact ih h
  | case3 l h1 h2 => exact h.elim
end Mine
end
section
open PySem PySem.W PySem.Calls PyProof.Rows PySem.Spec
set_option maxRecDepth 100000
namespace Mine
theorem walk_off_B7 : True := by
  w_top off
  trivial
local macro_rules | `(tactic| walk_at "pad 0") => `(tactic| fail)
local macro_rules | `(tactic| walk_at "pad 1") => `(tactic| fail)
local macro_rules | `(tactic| walk_at "pad 2") => `(tactic| fail)
local macro_rules | `(tactic| walk_at "pad 3") => `(tactic| fail)
abbrev posR : Pos := ⟨48, 62, 48, 121⟩
abbrev posL : Pos := ⟨49, 57, 49, 116⟩
abbrev qualL : Str := (PySem.Str.ofString "_law_place" ++ ".<locals>.") ++ "<lambda>"
abbrev Tab (h : Heap) : Prop := TabOk qualL posR posL h
section
variable {w : World} {A : Around} {s : Shared} {b0 : Heap} {Q E : Value → Shared → Prop} {p : Program} {loose : List Str} {mean : ExcName → Option Value} {mg mb : Str → Option Value}
theorem isList_hide {h : Heap} {a : Addr} {vs : Array Value} {W : List Addr} (x : h.IsList a vs) (hn : a ∉ W) : (hideAll h W).IsList a vs := by
  obtain ⟨ob, h1, h2⟩ := x
  exact ⟨ob, hideAll_get _ h1 hn, h2⟩
theorem isList_ne {h : Heap} {a P : Addr} {vs ps : Array Value} (x : h.IsList a vs) (hP : h.get? P = some (tabObj ps)) : a ≠ P := by
  rintro rfl
  obtain ⟨ob, h1, h2, n, h3⟩ := x
  rw [hP] at h1; cases h1; cases h3
abbrev lamParams (l c : Nat) : Arguments := { posonlyargs := [], args := [{ arg := Str.ofString "other", annotation := none, pos := ⟨l, c - 7, l, c - 2⟩ }], vararg := none, kwonlyargs := [], kw_defaults := [], kwarg := none, defaults := [] }
abbrev lamBody (l c : Nat) : PySem.Expr := .Call (.Name (Str.ofString "_law_ask") ⟨l, c, l, c + 8⟩)
  [.Name (Str.ofString "asked") ⟨l, c + 9, l, c + 14⟩, .Name (Str.ofString "thing") ⟨l, c + 16, l, c + 21⟩, .Name (Str.ofString "other") ⟨l, c + 23, l, c + 28⟩,
   .Name (Str.ofString "right") ⟨l, c + 30, l, c + 35⟩, .Name (Str.ofString "numbers") ⟨l, c + 37, l, c + 44⟩] [] ⟨l, c, l, c + 45⟩
abbrev lamScope : Scope := { kind := .function, names := [(Str.ofString "other", .local), (Str.ofString "asked", .free), (Str.ofString "numbers", .free), (Str.ofString "right", .free), (Str.ofString "thing", .free), (Str.ofString "_law_ask", .globalImplicit)], isGenerator := false, isCoroutine := false, more := [] }
abbrev lamClos (a1 a2 a3 a4 : Addr) : List (Str × Addr) := [(Str.ofString "thing", a1), (Str.ofString "right", a2), (Str.ofString "numbers", a3), (Str.ofString "asked", a4)]
theorem isCell_ne {h : Heap} {a pA : Addr} {v} {its n} (x : h.IsCell a v) (hA : h.get? pA = some (listOf its n)) : a ≠ pA := by
  rintro rfl
  obtain ⟨o, h1, h2⟩ := x
  rw [hA] at h1; cases h1; cases h2
theorem isCell_keep {W : List Addr} {h h' : Heap} {a : Addr} {v} (x : h.IsCell a v) (k : Keep W h h') (hn : a ∉ W) : h'.IsCell a v := by
  obtain ⟨o, h1, h2⟩ := x
  exact ⟨o, k _ _ hn h1, h2⟩
theorem isCell_hide {W : List Addr} {h : Heap} {a : Addr} {v} (x : h.IsCell a v) (hn : a ∉ W) : (hideAll h W).IsCell a v := by
  obtain ⟨o, h1, h2⟩ := x
  exact ⟨o, hideAll_get _ h1 hn, h2⟩
theorem isList_keep {W : List Addr} {h h' : Heap} {a : Addr} {vs : Array Value} (x : h.IsList a vs) (k : Keep W h h') (hn : a ∉ W) : h'.IsList a vs := by
  obtain ⟨o, h1, h2⟩ := x
  exact ⟨o, k _ _ hn h1, h2⟩
theorem codeRec_keep {W : List Addr} {h h' : Heap} {c : Addr} {q} (x : h.CodeRec (.ref c) q) (k : Keep W h h') (hn : c ∉ W) : h'.CodeRec (.ref c) q := by
  obtain ⟨c2, o, vs, t, e, h1, h2⟩ := x
  cases e
  exact ⟨_, o, vs, t, rfl, k _ _ hn h1, h2⟩
theorem codeRec_ne {h : Heap} {c pA : Addr} {q} {its n} (x : h.CodeRec (.ref c) q) (hA : h.get? pA = some (listOf its n)) : c ≠ pA := by
  rintro rfl
  obtain ⟨c2, o, vs, t, e, h1, h2, _⟩ := x
  cases e
  rw [hA] at h1; cases h1; cases h2
section
local macro_rules | `(tactic| walk_at "call ref") => `(tactic| refine Halt.out ?_)
local macro_rules | `(tactic| walk_at "eval Name") => `(tactic| (k_here; k_dflt (refine' nameX_FB ?F ?c ?d ?_ ?a ?b; (case a => rfl); (case b => rfl); (case F => k_asm); (case c => rfl); (case d => assumption); k_whole)))
set_option maxHeartbeats 4000000 in
theorem lam_key {l c : Nat} {pA pN f c' : Addr} {vn : List Value} {ns : List Int} {t : Nat} {tt : Tok} {b : Bool} {pm ctv : Value} {a1 a2 a3 a4 : Addr} {h0 : Heap} {its : Array Value} {n : Nat}
    (X0 : (hd.heap_39 w.params).In b0) (T0 : Top p loose mean mg mb b0) (hB : b0.StaysIn h0) (hp : b0.get? pA = none) (hgA : h0.get? pA = some (listOf its n))
    (hf : h0.get? f = some (kla_obj (Str.ofString "<lambda>") qualL (lamParams l c) (lamBody l c) lamScope (lamClos a1 a2 a3 a4) pm c' ctv)) (hcr : h0.CodeRec (.ref c') qualL)
    (k1 : h0.IsCell a1 (some (.int (t : Int) tt))) (k2 : h0.IsCell a2 (some (.bool b))) (k3 : h0.IsCell a3 (some (.ref pN))) (k4 : h0.IsCell a4 (some (.ref pA)))
    (hN : h0.IsList pN vn.toArray) (hNI : IntsAre vn ns) (hne2 : pN ≠ pA) (hszn : ns.length < 100) : KeySpec w pA (fun k => ns.getD k 0) ns.length t b f h0 := by
  intro A s Q E o to qs K hA ho hlen hroom h
  obtain ⟨its2, n2, hA1, hA2⟩ := hA
  have hfne : f ≠ pA := by
    rintro rfl
    rw [hgA] at hf
    have := congrArg Obj.data (Option.some.inj hf)
    cases this
  have hfs := K _ _ (by simpa using hfne) hf
  have hcs := codeRec_keep hcr K (by simpa using codeRec_ne hcr hgA)
  have hBs : b0.StaysIn s.heap := K.stays hB (by simpa using hp)
  have hNs := isList_keep hN K (by simpa using hne2)
  have j1 := isCell_keep k1 K (by simpa using isCell_ne k1 hgA)
  have j2 := isCell_keep k2 K (by simpa using isCell_ne k2 hgA)
  have j3 := isCell_keep k3 K (by simpa using isCell_ne k3 hgA)
  have j4 := isCell_keep k4 K (by simpa using isCell_ne k4 hgA)
  refine' enterL [(pA, listOf its2 n2)] (T0.nolimit.keeps hBs) hfs hcs (by omega) ?hbind ?hloc ?hW ?h ?c1 ?c2 ?c3 ?c4
  case hbind => exact rfl
  case hloc => exact locs rfl
  case c1 => exact rfl
  case c2 => exact rfl
  case c3 => exact rfl
  case c4 => decide
  case hW => intro p hp; cases hp with | head => exact hA1 | tail _ h => cases h
  intro L h₁ hL F N
  have hWn : ∀ a ∈ ([(pA, listOf its2 n2)] : List (Addr × Obj)).map (·.1), b0.get? a = none := by
    intro a ha; cases ha with | head => exact hp | tail _ h => cases h
  have X := X0.keeps (stays_hide hBs hWn)
  have T := T0.keeps (stays_hide hBs hWn)
  dsimp only [List.map] at *
  have i1 := isCell_hide (W := [pA]) j1 (by simpa using isCell_ne j1 hA1)
  have i2 := isCell_hide (W := [pA]) j2 (by simpa using isCell_ne j2 hA1)
  have i3 := isCell_hide (W := [pA]) j3 (by simpa using isCell_ne j3 hA1)
  have i4 := isCell_hide (W := [pA]) j4 (by simpa using isCell_ne j4 hA1)
  clear j1 j2 j3 j4 k1 k2 k3 k4
  show wpAny _ _ _ _ _ _
  k_fold
  k_steps
  have Ks : Keep [pA] s.heap h₁ := Keep.of_frame (W := [pA]) F
  have R2 := hA2.keep Ks
  have gA := (N _ (.head _)).1
  dsimp only at gA
  refine Halt.mk ?_
  refine ask_spec (its := its2) (n := n2) X0 T0 (Ks.stays hBs (by simpa using hp)) hp gA (isList_keep hNs Ks (by simpa using hne2)) hNI hne2 (by omega) (by omega) (by omega) (by have := AskedIs.size gA R2; omega) (by show A.depth + 1 < _; omega) (fun r h' tk tk2 K2 g2 hr g3 => ?_)
  dsimp only [qk]
  rw [Int.toNat_natCast]
  refine h h' tk tk2 (Ks.trans K2) ⟨_, _, g2, ?_⟩
  rw [Array.toList_push]
  refine Trips.snoc (R2.keep K2) ⟨r, tt, to, 0, rfl, ?_, g3⟩
  rintro rfl
  dsimp only at hr
  rw [gA] at hr; cases hr
end
local macro_rules | `(tactic| walk_at "eval Lambda") => `(tactic| refine Halt.out ?_)
local macro_rules | `(tactic| walk_at "call ref") => `(tactic| refine Halt.out ?_)
end
end Mine
end
section
open PySem PySem.W PySem.Calls PyProof.Rows PySem.Spec
set_option maxRecDepth 100000
namespace Mine
theorem walk_off_B8 : True := by
  w_top off
  trivial
local macro_rules | `(tactic| walk_at "pad 0") => `(tactic| fail)
local macro_rules | `(tactic| walk_at "pad 1") => `(tactic| fail)
local macro_rules | `(tactic| walk_at "pad 2") => `(tactic| fail)
local macro_rules | `(tactic| walk_at "pad 3") => `(tactic| fail)
local macro_rules | `(tactic| walk_at "pad 4") => `(tactic| fail)
local macro_rules | `(tactic| walk_at "pad 5") => `(tactic| fail)
local macro_rules | `(tactic| walk_at "pad 6") => `(tactic| fail)
section
variable {w : World} {A : Around} {s : Shared} {b0 : Heap} {Q E : Value → Shared → Prop} {p : Program} {loose : List Str} {mean : ExcName → Option Value} {mg mb : Str → Option Value}
theorem trips_keep2 {h h' : Heap} {pA : Addr} {ps : Array Value} {vs qs} (x : Trips h pA vs qs) (hP : h.get? 41 = some (tabObj ps)) (k : Keep [pA, 41] h h') : Trips h' pA vs qs := by
  induction x with
  | nil => exact .nil
  | cons a _ ih =>
    obtain ⟨r, t1, t2, n, e, ne, g⟩ := a
    refine .cons ⟨r, t1, t2, n, e, ne, k _ _ ?_ g⟩ ih
    have : r ≠ 41 := by
      rintro rfl
      rw [hP] at g
      have := congrArg Obj.data (Option.some.inj g)
      cases this
    simpa using ⟨ne, this⟩
local macro_rules | `(tactic| walk_at "eval Lambda") => `(tactic| refine Halt.out ?_)
local macro_rules | `(tactic| walk_at "call ref") => `(tactic| refine Halt.out ?_)
set_option maxHeartbeats 4000000 in
theorem place_spec {pA pR pN : Addr} {vs vn : List Value} {row : List Nat} {ns : List Int} {t : Nat} {tt : Tok} {b : Bool} {hv : Value} {high : Option Nat} {qs : List Q3}
    (X0 : (hd.heap_39 w.params).In b0) (T0 : Top p loose mean mg mb b0) (C0 : CodeHd b0 45 41) (hB : b0.StaysIn s.heap) (hp : b0.get? pA = none) (h41 : b0.get? 41 = none) (hp41 : pA ≠ 41)
    (hA : AskedIs s.heap pA qs) (hT41 : Tab s.heap) (hR : s.heap.IsList pR vs.toArray) (hI : IntsAre vs (row.map Int.ofNat)) (hN : s.heap.IsList pN vn.toArray) (hNI : IntsAre vn ns)
    (hne : pR ≠ pA) (hne2 : pN ≠ pA) (hrow : ∀ o ∈ row, o < ns.length) (ht : t < ns.length)
    (hh : HighIs hv high) (hhi : high.getD row.length ≤ row.length)
    (hsz : row.length < 100) (hszn : ns.length < 100) (hsa : qs.length < 800) (hroom : A.depth + 6 < recursionLimit) (hu : A.units + 40 < cLine)
    (h : ∀ h' tk tk2, Keep [pA, 41] s.heap h' → AskedIs h' pA (qs ++ (place (fun k => ns.getD k 0) t b row high).1) → Tab h' →
      Q (.int ((place (fun k => ns.getD k 0) t b row high).2 : Nat) tk2) { s with heap := h', toks := tk }) :
    wpAny (model PG w) A (call (.ref 46) [.ref pR, .int (t : Int) tt, hv, .bool b, .ref pN, .ref pA]) Q E s := by
  obtain ⟨its, n, hA1, hA2⟩ := hA
  obtain ⟨ps, hP, hTr, hcodes⟩ := hT41
  refine' enterC [(pA, listOf its n), (41, tabObj ps)] X0 hB T0.nolimit ?ho ?hcd (by omega) ?hbind ?hloc ?hnd ?hW ?h ?c1 ?c2 ?c3
  case ho => k_is
  case hcd => k_is
  case hbind => exact BindsTo.of_eq rfl
  case hloc => exact rfl
  case hnd => decide +kernel
  case c1 => exact rfl
  case c2 => exact rfl
  case c3 => exact rfl
  case hW =>
    intro p hp
    rcases List.mem_cons.mp hp with rfl | hp
    · exact hA1
    · cases hp with | head => exact hP | tail _ h => cases h
  intro L h₁ tk0 cells hL F N Y
  have hWn : ∀ a ∈ ([(pA, listOf its n), (41, tabObj ps)] : List (Addr × Obj)).map (·.1), b0.get? a = none := by
    intro a ha
    rcases List.mem_cons.mp ha with rfl | ha
    · exact hp
    · cases ha with | head => exact h41 | tail _ h => cases h
  have X := X0.keeps (stays_hide hB hWn)
  have T := T0.keeps (stays_hide hB hWn)
  have C := C0.keeps (stays_hide hB hWn)
  dsimp only [List.map] at *
  k_cells Y
  rename_i o1 o2 o3 o4 d1 d2 d3 d4
  have d1 : o1.data = .cell (some (.ref pA)) := d1
  have d2 : o2.data = .cell (some (.ref pN)) := d2
  have d3 : o3.data = .cell (some (.bool b)) := d3
  have d4 : o4.data = .cell (some (.int (t : Int) tt)) := d4
  have hpAL : pA < L := hL ▸ Heap.lt_size hA1
  have h41L : 41 < L := hL ▸ Heap.lt_size hP
  have hR' := isList_hide hR (W := [pA, 41]) (by simpa using ⟨hne, isList_ne hR hP⟩)
  have hN' := isList_hide hN (W := [pA, 41]) (by simpa using ⟨hne2, isList_ne hN hP⟩)
  rw [show ∀ a b : List (Addr × Obj), a ++ b = List.append a b from fun _ _ => rfl] at N
  dsimp only [List.append] at N
  cases b with
  | true =>
    show wpAny _ _ _ _ _ _
    k_fold
    k_steps
    refine Halt.mk ?_
    refine' kla_eval ?d0 ?_
    case d0 => exact rfl
    have fin : ∀ (f' c' : Addr) (ct' : Value) (h' : Heap) (ps2 : Array Value) (tk : Nat) (tx tz : Tok) (A' : Around), A'.depth = A.depth + 1 → A'.units = A.units + 3 →
        Keep [pA, 41] s.heap h' → h'.get? pA = some (listOf its n) → h'.get? 41 = some (tabObj ps2) → TriplesOk ps2.toList →
        (∀ q, q = posR ∨ q = posL → codeAmong q ps2.toList = none ∨ ∃ c', codeAmong q ps2.toList = some (.ref c') ∧ c' ≠ 41 ∧ h'.CodeRec (.ref c') qualL) →
        h'.get? f' = some (kla_obj (Str.ofString "<lambda>") qualL (lamParams 48 76) (lamBody 48 76) lamScope (lamClos (L + 1) (L + 1 + 1) (L + 1 + 1 + 1) (L + 1 + 1 + 1 + 1)) ((mg "__name__").getD .none) c' ct') →
        h'.CodeRec (.ref c') qualL → h'.IsCell (L + 1 + 1 + 1 + 1) (some (.ref pA)) → h'.IsCell (L + 1 + 1 + 1) (some (.ref pN)) → h'.IsCell (L + 1 + 1) (some (.bool true)) → h'.IsCell (L + 1) (some (.int (t : Int) tt)) →
        wpAny (model PG w) A' (call (.ref 23) [.ref pR, .int (ns.getD t 0) tx, .int 0 tz, hv] [(Str.ofString "key", .ref f')]) (fun v s' => qk (Flow.ret v) s') (fun _ _ => False) { s with heap := h', toks := tk } := by
      intro f' c' ct' h' ps2 tk tx tz A' hd' hu' KK gA gT hT2 hC2 hf' hcr q1 q2 q3 q4
      have Rn := trips_keep2 hA2 hP KK
      have hBn : b0.StaysIn h' := KK.stays hB hWn
      have hNn := isList_keep hN KK (by simpa using ⟨hne2, isList_ne hN hP⟩)
      have hRn := isList_keep hR KK (by simpa using ⟨hne, isList_ne hR hP⟩)
      refine bright_spec (pA := pA) (pR := pR) (f := f') (vs := vs) (row := row) (num := fun k => ns.getD k 0) (c := ns.length) (t := t) (high := high) (qs := qs) X0 T0 hBn hp ⟨its, n, gA, Rn⟩ hRn hI hne hrow ⟨_, _, _, _, hf'⟩
        (lam_key X0 T0 hBn hp gA hf' hcr q4 q3 q2 q1 hNn hNI hne2 hszn) hh hhi hsz hsa (by omega) (by omega) (fun h8 tk8 tk9 K8 A8 => ?_)
      dsimp only [qk]
      have K8' : Keep [pA] h' h8 := K8
      refine h h8 tk8 tk9 (KK.trans (K8'.weaken (by intro a ha; cases ha with | head => exact .head _ | tail _ h => cases h))) A8 ⟨ps2, K8' _ _ (by simpa using hp41.symm) gT, hT2, fun q hq => ?_⟩
      rcases hC2 q hq with z | ⟨c2, z1, z2, z3⟩
      · exact .inl z
      · exact .inr ⟨c2, z1, z2, codeRec_keep z3 K8' (by simpa using codeRec_ne z3 gA)⟩
    rcases hcodes posR (.inl rfl) with hno | ⟨c', hyes, hc41, hcr⟩
    · refine' kla_nest ?F ?N ?T ?C ?cd ?U ?t ?n ?cl ?_
      case F => k_asm
      case N => k_asm
      case T => k_asm
      case C => k_asm
      case cd => exact rfl
      case U => k_updF
      case t => exact hTr
      case n => exact hno
      case cl => exact rfl
      intro f' c' oc' vs' t' ct' h' tk' F' N' e1 e2 l1 l2
      dsimp only at N'
      k_steps
      refine Halt.mk ?_
      have KK : Keep [pA, 41] s.heap h' := Keep.of_frame (W := [pA, 41]) F'
      have hcr' : h'.CodeRec (.ref c') qualL := ⟨c', oc', vs', t', rfl, (N' _ (.tail _ (.head _))).1, e1, e2⟩
      have h41c : c' ≠ 41 := by have := l1 (41, tabObj ps) (by k_mem); exact Nat.ne_of_gt this
      refine fin f' c' ct' h' (ps ++ #[rawInt posR.line, rawInt posR.col, .ref c']) _ _ _ _ (by rfl) (by rfl) KK (N'.get (by k_mem)) (N'.get (by k_mem)) ?_ ?_ (N' _ (.head _)).1 hcr' ⟨o1, N'.get (by k_mem), d1⟩ ⟨o2, N'.get (by k_mem), d2⟩ ⟨o3, N'.get (by k_mem), d3⟩ ⟨o4, N'.get (by k_mem), d4⟩
      · simp only [Array.toList_append]; exact TriplesOk_snoc _ _ _ _ hTr
      · simp only [Array.toList_append]
        rintro q (rfl | rfl)
        · exact .inr ⟨c', codeAmong_snoc (pos := posR) _ hTr hno, h41c, hcr'⟩
        · have eo := codeAmong_other (q := posL) (q' := posR) (c := .ref c') (by decide) _ hTr
          refine (show codeAmong posL (ps.toList ++ [rawInt posR.line, rawInt posR.col, .ref c']) = none ∨ ∃ c'_1, codeAmong posL (ps.toList ++ [rawInt posR.line, rawInt posR.col, .ref c']) = some (.ref c'_1) ∧ c'_1 ≠ 41 ∧ h'.CodeRec (.ref c'_1) qualL from ?_)
          rw [eo]
          rcases hcodes posL (.inr rfl) with z | ⟨c2, z1, z2, z3⟩
          · exact .inl z
          · exact .inr ⟨c2, z1, z2, codeRec_keep z3 KK (by simpa using ⟨codeRec_ne z3 hA1, z2⟩)⟩
    · refine' kla_hit ?F ?N ?T ?C ?cd ?mem ?t ?n ?cl ?_
      case F => k_asm
      case N => k_asm
      case T => k_asm
      case C => k_asm
      case cd => exact rfl
      case mem => k_mem
      case t => exact hTr
      case n => exact hyes
      case cl => exact rfl
      intro f' ct' h' tk' F' N' l1
      k_steps
      refine Halt.mk ?_
      have KK : Keep [pA, 41] s.heap h' := Keep.of_frame (W := [pA, 41]) F'
      have hcr' := codeRec_keep hcr KK (by simpa using ⟨codeRec_ne hcr hA1, hc41⟩)
      refine fin f' c' ct' h' ps _ _ _ _ (by rfl) (by rfl) KK (N'.get (by k_mem)) (N'.get (by k_mem)) hTr ?_ (N' _ (.head _)).1 hcr' ⟨o1, N'.get (by k_mem), d1⟩ ⟨o2, N'.get (by k_mem), d2⟩ ⟨o3, N'.get (by k_mem), d3⟩ ⟨o4, N'.get (by k_mem), d4⟩
      intro q hq
      rcases hcodes q hq with z | ⟨c2, z1, z2, z3⟩
      · exact .inl z
      · exact .inr ⟨c2, z1, z2, codeRec_keep z3 KK (by simpa using ⟨codeRec_ne z3 hA1, z2⟩)⟩
  | false =>
    show wpAny _ _ _ _ _ _
    k_fold
    k_steps
    refine Halt.mk ?_
    refine' kla_eval ?d0 ?_
    case d0 => exact rfl
    have fin : ∀ (f' c' : Addr) (ct' : Value) (h' : Heap) (ps2 : Array Value) (tk : Nat) (tx tz : Tok) (A' : Around), A'.depth = A.depth + 1 → A'.units = A.units + 3 →
        Keep [pA, 41] s.heap h' → h'.get? pA = some (listOf its n) → h'.get? 41 = some (tabObj ps2) → TriplesOk ps2.toList →
        (∀ q, q = posR ∨ q = posL → codeAmong q ps2.toList = none ∨ ∃ c', codeAmong q ps2.toList = some (.ref c') ∧ c' ≠ 41 ∧ h'.CodeRec (.ref c') qualL) →
        h'.get? f' = some (kla_obj (Str.ofString "<lambda>") qualL (lamParams 49 71) (lamBody 49 71) lamScope (lamClos (L + 1) (L + 1 + 1) (L + 1 + 1 + 1) (L + 1 + 1 + 1 + 1)) ((mg "__name__").getD .none) c' ct') →
        h'.CodeRec (.ref c') qualL → h'.IsCell (L + 1 + 1 + 1 + 1) (some (.ref pA)) → h'.IsCell (L + 1 + 1 + 1) (some (.ref pN)) → h'.IsCell (L + 1 + 1) (some (.bool false)) → h'.IsCell (L + 1) (some (.int (t : Int) tt)) →
        wpAny (model PG w) A' (call (.ref 32) [.ref pR, .int (ns.getD t 0) tx, .int 0 tz, hv] [(Str.ofString "key", .ref f')]) (fun v s' => qk (Flow.ret v) s') (fun _ _ => False) { s with heap := h', toks := tk } := by
      intro f' c' ct' h' ps2 tk tx tz A' hd' hu' KK gA gT hT2 hC2 hf' hcr q1 q2 q3 q4
      have Rn := trips_keep2 hA2 hP KK
      have hBn : b0.StaysIn h' := KK.stays hB hWn
      have hNn := isList_keep hN KK (by simpa using ⟨hne2, isList_ne hN hP⟩)
      have hRn := isList_keep hR KK (by simpa using ⟨hne, isList_ne hR hP⟩)
      refine bleft_spec (pA := pA) (pR := pR) (f := f') (vs := vs) (row := row) (num := fun k => ns.getD k 0) (c := ns.length) (t := t) (high := high) (qs := qs) X0 T0 hBn hp ⟨its, n, gA, Rn⟩ hRn hI hne hrow ⟨_, _, _, _, hf'⟩
        (lam_key X0 T0 hBn hp gA hf' hcr q4 q3 q2 q1 hNn hNI hne2 hszn) hh hhi hsz hsa (by omega) (by omega) (fun h8 tk8 tk9 K8 A8 => ?_)
      dsimp only [qk]
      have K8' : Keep [pA] h' h8 := K8
      refine h h8 tk8 tk9 (KK.trans (K8'.weaken (by intro a ha; cases ha with | head => exact .head _ | tail _ h => cases h))) A8 ⟨ps2, K8' _ _ (by simpa using hp41.symm) gT, hT2, fun q hq => ?_⟩
      rcases hC2 q hq with z | ⟨c2, z1, z2, z3⟩
      · exact .inl z
      · exact .inr ⟨c2, z1, z2, codeRec_keep z3 K8' (by simpa using codeRec_ne z3 gA)⟩
    rcases hcodes posL (.inr rfl) with hno | ⟨c', hyes, hc41, hcr⟩
    · refine' kla_nest ?F ?N ?T ?C ?cd ?U ?t ?n ?cl ?_
      case F => k_asm
      case N => k_asm
      case T => k_asm
      case C => k_asm
      case cd => exact rfl
      case U => k_updF
      case t => exact hTr
      case n => exact hno
      case cl => exact rfl
      intro f' c' oc' vs' t' ct' h' tk' F' N' e1 e2 l1 l2
      dsimp only at N'
      k_steps
      refine Halt.mk ?_
      have KK : Keep [pA, 41] s.heap h' := Keep.of_frame (W := [pA, 41]) F'
      have hcr' : h'.CodeRec (.ref c') qualL := ⟨c', oc', vs', t', rfl, (N' _ (.tail _ (.head _))).1, e1, e2⟩
      have h41c : c' ≠ 41 := by have := l1 (41, tabObj ps) (by k_mem); exact Nat.ne_of_gt this
      refine fin f' c' ct' h' (ps ++ #[rawInt posL.line, rawInt posL.col, .ref c']) _ _ _ _ (by rfl) (by rfl) KK (N'.get (by k_mem)) (N'.get (by k_mem)) ?_ ?_ (N' _ (.head _)).1 hcr' ⟨o1, N'.get (by k_mem), d1⟩ ⟨o2, N'.get (by k_mem), d2⟩ ⟨o3, N'.get (by k_mem), d3⟩ ⟨o4, N'.get (by k_mem), d4⟩
      · simp only [Array.toList_append]; exact TriplesOk_snoc _ _ _ _ hTr
      · simp only [Array.toList_append]
        rintro q (rfl | rfl)
        · have eo := codeAmong_other (q := posR) (q' := posL) (c := .ref c') (by decide) _ hTr
          refine (show codeAmong posR (ps.toList ++ [rawInt posL.line, rawInt posL.col, .ref c']) = none ∨ ∃ c'_1, codeAmong posR (ps.toList ++ [rawInt posL.line, rawInt posL.col, .ref c']) = some (.ref c'_1) ∧ c'_1 ≠ 41 ∧ h'.CodeRec (.ref c'_1) qualL from ?_)
          rw [eo]
          rcases hcodes posR (.inl rfl) with z | ⟨c2, z1, z2, z3⟩
          · exact .inl z
          · exact .inr ⟨c2, z1, z2, codeRec_keep z3 KK (by simpa using ⟨codeRec_ne z3 hA1, z2⟩)⟩
        · exact .inr ⟨c', codeAmong_snoc (pos := posL) _ hTr hno, h41c, hcr'⟩
    · refine' kla_hit ?F ?N ?T ?C ?cd ?mem ?t ?n ?cl ?_
      case F => k_asm
      case N => k_asm
      case T => k_asm
      case C => k_asm
      case cd => exact rfl
      case mem => k_mem
      case t => exact hTr
      case n => exact hyes
      case cl => exact rfl
      intro f' ct' h' tk' F' N' l1
      k_steps
      refine Halt.mk ?_
      have KK : Keep [pA, 41] s.heap h' := Keep.of_frame (W := [pA, 41]) F'
      have hcr' := codeRec_keep hcr KK (by simpa using ⟨codeRec_ne hcr hA1, hc41⟩)
      refine fin f' c' ct' h' ps _ _ _ _ (by rfl) (by rfl) KK (N'.get (by k_mem)) (N'.get (by k_mem)) hTr ?_ (N' _ (.head _)).1 hcr' ⟨o1, N'.get (by k_mem), d1⟩ ⟨o2, N'.get (by k_mem), d2⟩ ⟨o3, N'.get (by k_mem), d3⟩ ⟨o4, N'.get (by k_mem), d4⟩
      intro q hq
      rcases hcodes q hq with z | ⟨c2, z1, z2, z3⟩
      · exact .inl z
      · exact .inr ⟨c2, z1, z2, codeRec_keep z3 KK (by simpa using ⟨codeRec_ne z3 hA1, z2⟩)⟩
end
end Mine
end
section
namespace Mine
def pairUp (num : Nat → Int) : List Nat → List (Nat × Nat) × List Q3
  | a :: b :: r => ((if (place num b true [a] (some 1)).2 = 1 then (b, a) else (a, b)) :: (pairUp num r).1, (place num b true [a] (some 1)).1 ++ (pairUp num r).2)
  | _ => ([], [])
def look (u : List (Nat × Nat)) (x : Nat) : Nat := ((u.find? fun p => p.1 == x).map (·.2)).getD 0
def insertAt (l : List Nat) (i v : Nat) : List Nat := l.take i ++ v :: l.drop i
def highOf (above row : List Nat) (k : Nat) : Option Nat := if k < above.length then some (row.idxOf (above.getD k 0)) else none
def insStep (num : Nat → Int) (above lower : List Nat) (st : List Nat × List Q3) (k : Nat) : List Nat × List Q3 :=
  (insertAt st.1 (place num (lower.getD k 0) (k % 2 == 0) st.1 (highOf above st.1 k)).2 (lower.getD k 0), st.2 ++ (place num (lower.getD k 0) (k % 2 == 0) st.1 (highOf above st.1 k)).1)
def downs (a b : Nat) : List Nat := (List.range (a - b)).map fun i => a - 1 - i
def ksOf (n : Nat) : List Nat := downs (min 3 n) 1 ++ downs (min 5 n) (min 3 n)
def lowerOf (num : Nat → Int) (things above : List Nat) : List Nat := above.map (look (pairUp num things).1) ++ things.drop (2 * (pairUp num things).1.length)
def rowF (num : Nat → Int) : Nat → List Nat → List Nat × List Q3
  | 0, things => (things, [])
  | f + 1, things =>
    if things.length < 2 then (things, []) else
    let ab := rowF num f ((pairUp num things).1.map (·.1))
    let fin := (ksOf (lowerOf num things ab.1).length).foldl (insStep num ab.1 (lowerOf num things ab.1)) ((lowerOf num things ab.1).getD 0 0 :: ab.1, [])
    (fin.1, (pairUp num things).2 ++ ab.2 ++ fin.2)
theorem pairUp_cons (num : Nat → Int) (a b : Nat) (r : List Nat) : pairUp num (a :: b :: r) =
    ((if (place num b true [a] (some 1)).2 = 1 then (b, a) else (a, b)) :: (pairUp num r).1, (place num b true [a] (some 1)).1 ++ (pairUp num r).2) := by rw [pairUp]
theorem pairUp_len (num : Nat → Int) : ∀ l : List Nat, (pairUp num l).1.length = l.length / 2
  | [] => rfl
  | [_] => by simp [pairUp]
  | a :: b :: r => by
    rw [pairUp_cons]
    simp only [List.length_cons, pairUp_len num r]
    omega
theorem pairUp_short (num : Nat → Int) {l : List Nat} (h : l.length < 2) : pairUp num l = ([], []) := by
  match l, h with
  | [], _ => rfl
  | [_], _ => rfl
  | _ :: _ :: _, h => simp at h; omega
theorem rowF_step (num : Nat → Int) (f : Nat) (things : List Nat) (h : ¬ things.length < 2) : rowF num (f + 1) things =
    (((ksOf (lowerOf num things (rowF num f ((pairUp num things).1.map (·.1))).1).length).foldl (insStep num (rowF num f ((pairUp num things).1.map (·.1))).1 (lowerOf num things (rowF num f ((pairUp num things).1.map (·.1))).1)) ((lowerOf num things (rowF num f ((pairUp num things).1.map (·.1))).1).getD 0 0 :: (rowF num f ((pairUp num things).1.map (·.1))).1, [])).1,
     (pairUp num things).2 ++ (rowF num f ((pairUp num things).1.map (·.1))).2 ++ ((ksOf (lowerOf num things (rowF num f ((pairUp num things).1.map (·.1))).1).length).foldl (insStep num (rowF num f ((pairUp num things).1.map (·.1))).1 (lowerOf num things (rowF num f ((pairUp num things).1.map (·.1))).1)) ((lowerOf num things (rowF num f ((pairUp num things).1.map (·.1))).1).getD 0 0 :: (rowF num f ((pairUp num things).1.map (·.1))).1, [])).2) := by
  rw [rowF, if_neg h]
theorem pairUp_keys (num : Nat → Int) : ∀ l : List Nat, (∀ x ∈ (pairUp num l).1.map (·.1), x ∈ l) ∧ (l.Nodup → ((pairUp num l).1.map (·.1)).Nodup)
  | [] => ⟨fun _ h => (nomatch h), fun _ => List.nodup_nil⟩
  | [a] => by simp [pairUp]
  | a :: b :: r => by
    have ih := pairUp_keys num r
    rw [pairUp_cons]
    simp only [List.map_cons]
    have hk : (if (place num b true [a] (some 1)).2 = 1 then (b, a) else (a, b)).1 = a ∨ (if (place num b true [a] (some 1)).2 = 1 then (b, a) else (a, b)).1 = b := by
      split
      · exact .inr rfl
      · exact .inl rfl
    generalize (if (place num b true [a] (some 1)).2 = 1 then (b, a) else (a, b)).1 = k at hk
    refine ⟨fun x hx => ?_, fun hn => ?_⟩
    · rcases List.mem_cons.mp hx with rfl | hx
      · rcases hk with rfl | rfl <;> simp
      · exact .tail _ (.tail _ (ih.1 x hx))
    · have h1 := List.nodup_cons.mp hn
      have h2 := List.nodup_cons.mp h1.2
      refine List.nodup_cons.mpr ⟨fun hx => ?_, ih.2 h2.2⟩
      rcases hk with rfl | rfl
      · exact h1.1 (.tail _ (ih.1 _ hx))
      · exact h2.1 (ih.1 _ hx)
def nums (l : List Int) (k : Nat) : Int := l.getD k 0
end Mine
end
section
open PySem PySem.W PySem.Calls PyProof.Rows PySem.Spec
set_option maxRecDepth 100000
namespace Mine
theorem after_keepW {W : List Addr} {g h h' : Heap} {L : Addr} {m : Str → Option Value} {U : List (Addr × Obj)} (U' : List (Addr × Obj)) (F : Fr g L h m) (N : News g L h U) (k : Keep W h h')
    (hW : ∀ a ∈ W, ∃ o, (a, o) ∈ U) (hU : ∀ p ∈ U', (p ∈ U ∧ p.1 ∉ W) ∨ (p.1 ∈ W ∧ h'.get? p.1 = some p.2)) : Fr g L h' m ∧ News g L h' U' := by
  have hL : L ∉ W := fun q => let ⟨o, ho⟩ := hW _ q; (N _ ho).2.1 rfl
  have hg : ∀ a ∈ W, g.get? a = none := fun a ha => let ⟨o, ho⟩ := hW _ ha; (N _ ho).2.2
  refine ⟨⟨?_, fun b ob q => k b ob (fun z => by rw [hg b z] at q; cases q) (F.keep b ob q), F.above⟩, fun p hp => ?_⟩
  · obtain ⟨oL, es, ep, h1, r⟩ := F.ns
    exact ⟨oL, es, ep, k _ _ hL h1, r⟩
  · rcases hU p hp with ⟨q, z⟩ | ⟨q, z⟩
    · exact ⟨k _ _ z (N _ q).1, (N _ q).2⟩
    · obtain ⟨o, ho⟩ := hW _ q
      exact ⟨z, (N _ ho).2⟩
def Side (o : Obj) : Prop := (∃ q t1 t2 n, o = tripObj q t1 t2 n) ∨ ∃ vs, o.data = .fields vs
def Codes (h : Heap) (ps : Array Value) : Prop :=
  TriplesOk ps.toList ∧ ∀ q, q = posR ∨ q = posL → codeAmong q ps.toList = none ∨ ∃ c', codeAmong q ps.toList = some (.ref c') ∧ c' ≠ 41 ∧ h.CodeRec (.ref c') qualL
theorem Tab.open {h : Heap} (x : Tab h) : ∃ ps, h.get? 41 = some (tabObj ps) ∧ Codes h ps := let ⟨ps, a, b, c⟩ := x; ⟨ps, a, b, c⟩
theorem Tab.mk {h : Heap} {ps} (a : h.get? 41 = some (tabObj ps)) (b : Codes h ps) : Tab h := ⟨ps, a, b.1, b.2⟩
def AT (h : Heap) (pA : Addr) (its ps : Array Value) (qs : List Q3) : Prop := Trips h pA its.toList qs ∧ Codes h ps
def ATL (g : Heap) (T : List (Addr × Obj)) (pA : Addr) (its ps : Array Value) (qs : List Q3) : Prop :=
  TripsL g pA T its.toList qs ∧ TriplesOk ps.toList ∧ ∀ q, q = posR ∨ q = posL → codeAmong q ps.toList = none ∨
    ∃ c' o vs t, codeAmong q ps.toList = some (.ref c') ∧ c' ≠ 41 ∧ o.data = .fields vs ∧ vs[1]? = some (.str qualL t) ∧ (g.get? c' = some o ∨ (c', o) ∈ T)
theorem ledger_addF {g h : Heap} {L r : Addr} {m : Str → Option Value} {T : List (Addr × Obj)} {o : Obj} {vs : Array Value} (F : Fr g L h m) (N : News g L h T) (hr : h.get? r = some o) (hd : o.data = .fields vs) :
    g.get? r = some o ∨ News g L h ((r, o) :: T) := by
  cases q : g.get? r with
  | some o' => left; have := F.keep _ _ q; rw [hr] at this; exact this.symm
  | none =>
    right
    intro p hp
    cases hp with
    | head =>
      refine ⟨hr, fun e => ?_, q⟩
      obtain ⟨oL, es, ep, hL, hd', _⟩ := F.ns
      dsimp only at e
      rw [← e, hr] at hL; cases hL; rw [hd] at hd'; cases hd'
    | tail _ h => exact N _ h
theorem adopt_code {g h : Heap} {L pA : Addr} {m : Str → Option Value} {W : List (Addr × Obj)} {its ps : Array Value} {n : Nat} (F : Fr g L h m) (N : News g L h W) (hA : h.get? pA = some (listOf its n)) (q : Pos)
    (hq : codeAmong q ps.toList = none ∨ ∃ c', codeAmong q ps.toList = some (.ref c') ∧ c' ≠ 41 ∧ h.CodeRec (.ref c') qualL) :
    ∃ T, News g L h (W ++ T) ∧ (∀ p ∈ T, p.1 ≠ pA ∧ p.1 ≠ 41 ∧ Side p.2) ∧ (codeAmong q ps.toList = none ∨
    ∃ c' o vs t, codeAmong q ps.toList = some (.ref c') ∧ c' ≠ 41 ∧ o.data = .fields vs ∧ vs[1]? = some (.str qualL t) ∧ (g.get? c' = some o ∨ (c', o) ∈ T)) := by
  rcases hq with z | ⟨c', z1, z2, z3⟩
  · exact ⟨[], by simpa using N, (fun _ h => nomatch h), .inl z⟩
  · have hne := codeRec_ne z3 hA
    obtain ⟨c2, o, vs, t, e, h1, h2, h3⟩ := z3
    cases e
    rcases ledger_addF F N h1 h2 with y | y
    · exact ⟨[], by simpa using N, (fun _ h => nomatch h), .inr ⟨_, o, vs, t, z1, z2, h2, h3, .inl y⟩⟩
    · refine ⟨[(_, o)], fun p hp => ?_, ?_, .inr ⟨_, o, vs, t, z1, z2, h2, h3, .inr (.head _)⟩⟩
      · rcases List.mem_append.mp hp with hp | hp
        · exact N _ hp
        · cases hp with
          | head => exact y _ (.head _)
          | tail _ h => cases h
      · intro p hp
        cases hp with
        | head => exact ⟨hne, z2, .inr ⟨_, h2⟩⟩
        | tail _ h => cases h
theorem trips_ne41 {h : Heap} {pA : Addr} {ps : Array Value} {vs qs} (x : Trips h pA vs qs) (hP : h.get? 41 = some (tabObj ps)) {g : Heap} {L : Addr} {m : Str → Option Value} {W : List (Addr × Obj)} (F : Fr g L h m) (N : News g L h W) :
    ∃ T, News g L h (W ++ T) ∧ (∀ p ∈ T, p.1 ≠ pA ∧ p.1 ≠ 41 ∧ Side p.2) ∧ TripsL g pA T vs qs := by
  induction x with
  | nil => exact ⟨[], by simpa using N, (fun _ h => nomatch h), .nil⟩
  | cons a _ ih =>
    obtain ⟨T, N1, hT, x⟩ := ih
    obtain ⟨r, t1, t2, n, e, ne, hr⟩ := a
    rcases ledger_add F N1 hr with q | q
    · exact ⟨T, N1, hT, .cons ⟨r, t1, t2, n, e, ne, .inl q⟩ x⟩
    · refine ⟨_ :: T, fun p hp => ?_, ?_, .cons ⟨r, t1, t2, n, e, ne, .inr (.head _)⟩ (x.mono fun p hp => .tail _ hp)⟩
      · rcases List.mem_append.mp hp with hp | hp
        · exact N1 _ (List.mem_append_left _ hp)
        · cases hp with
          | head => exact q _ (.head _)
          | tail _ hp => exact N1 _ (List.mem_append_right _ hp)
      · intro p hp
        cases hp with
        | head =>
          refine ⟨ne, ?_, .inl ⟨_, _, _, _, rfl⟩⟩
          rintro rfl
          rw [hP] at hr
          have := congrArg Obj.data (Option.some.inj hr)
          cases this
        | tail _ hp => exact hT p hp
theorem adopt2 {g h : Heap} {L pA : Addr} {m : Str → Option Value} {W : List (Addr × Obj)} {its ps : Array Value} {n : Nat} {qs : List Q3} (F : Fr g L h m) (N : News g L h W) (hA : (pA, listOf its n) ∈ W) (hP : (41, tabObj ps) ∈ W) (R : AT h pA its ps qs) :
    ∃ T, News g L h (W ++ T) ∧ (∀ p ∈ T, p.1 ≠ pA ∧ p.1 ≠ 41 ∧ Side p.2) ∧ ATL g T pA its ps qs := by
  have hA' := N.get hA
  have hP' := N.get hP
  obtain ⟨T, N1, t1, x1⟩ := trips_ne41 R.1 hP' F N
  obtain ⟨T2, N2, t2, x2⟩ := adopt_code (ps := ps) F N1 hA' posR (R.2.2 _ (.inl rfl))
  obtain ⟨T3, N3, t3, x3⟩ := adopt_code (ps := ps) F N2 hA' posL (R.2.2 _ (.inr rfl))
  refine ⟨T ++ (T2 ++ T3), by simpa using N3, ?_, x1.mono (fun p hp => List.mem_append_left _ hp), R.2.1, ?_⟩
  · intro p hp
    rcases List.mem_append.mp hp with hp | hp
    · exact t1 p hp
    · rcases List.mem_append.mp hp with hp | hp
      · exact t2 p hp
      · exact t3 p hp
  · rintro q (rfl | rfl)
    · rcases x2 with z | ⟨c', o, vs, t, a, b, c, d, e⟩
      · exact .inl z
      · exact .inr ⟨c', o, vs, t, a, b, c, d, e.imp id fun q => List.mem_append_right _ (List.mem_append_left _ q)⟩
    · rcases x3 with z | ⟨c', o, vs, t, a, b, c, d, e⟩
      · exact .inl z
      · exact .inr ⟨c', o, vs, t, a, b, c, d, e.imp id fun q => List.mem_append_right _ (List.mem_append_right _ q)⟩
theorem side_off {g h : Heap} {L pA x : Addr} {T U : List (Addr × Obj)} {o : Obj} (hT : ∀ p ∈ T, p.1 ≠ pA ∧ p.1 ≠ 41 ∧ Side p.2) (N : News g L h U) (hs : ∀ p ∈ T, p ∈ U) (hx : (x, o) ∈ U) (ho : ¬ Side o) : ∀ p ∈ T, p.1 ≠ x := by
  rintro p hp rfl
  have h1 := (N _ (hs p hp)).1
  have h2 := (N _ hx).1
  dsimp only at h2
  rw [h1] at h2
  exact ho (Option.some.inj h2 ▸ (hT p hp).2.2)
theorem ATL.mono {g T T' pA its ps qs} (x : ATL g T pA its ps qs) (hs : ∀ p ∈ T, p ∈ T') : ATL g T' pA its ps qs := by
  refine ⟨x.1.mono hs, x.2.1, fun q hq => ?_⟩
  rcases x.2.2 q hq with z | ⟨c', o, vs, t, a, b, c, d, e⟩
  · exact .inl z
  · exact .inr ⟨c', o, vs, t, a, b, c, d, e.imp id (hs _)⟩
theorem ATL.back {g h : Heap} {L pA : Addr} {m : Str → Option Value} {T U : List (Addr × Obj)} {its ps : Array Value} {qs} (x : ATL g T pA its ps qs) (F : Fr g L h m) (N : News g L h U) (hs : ∀ p ∈ T, p ∈ U) : AT h pA its ps qs := by
  refine ⟨x.1.back F N hs, x.2.1, fun q hq => ?_⟩
  rcases x.2.2 q hq with z | ⟨c', o, vs, t, a, b, c, d, e⟩
  · exact .inl z
  · exact .inr ⟨c', a, b, c', o, vs, t, rfl, e.elim (F.keep _ _) fun q => (N _ (hs _ q)).1, c, d⟩
abbrev rIt (x left step : Int) : Obj := { cls := .type "range_iterator", dict := none, data := .fields #[rawInt x, rawInt left, rawInt step], slots := #[] }
theorem trips_keepO {h h' : Heap} {I pA : Addr} {vs : List Value} {qs} {o : Obj} (x : Trips h pA vs qs) (hI : h.get? I = some o) (h1 : ∀ its n, o ≠ listOf its n) (k : Keep [I] h h') : Trips h' pA vs qs := by
  induction x with
  | nil => exact .nil
  | cons a _ ih =>
    obtain ⟨r, t1, t2, n, e, ne, g⟩ := a
    refine .cons ⟨r, t1, t2, n, e, ne, k _ _ ?_ g⟩ ih
    have : r ≠ I := by
      rintro rfl
      rw [hI] at g
      exact h1 _ _ (Option.some.inj g)
    simpa using this
theorem codes_keepO {h h' : Heap} {I : Addr} {ps : Array Value} {o : Obj} (x : Codes h ps) (hI : h.get? I = some o) (h2 : ∀ vs t q, o.data = .fields vs → vs[1]? ≠ some (.str q t)) (k : Keep [I] h h') : Codes h' ps := by
  refine ⟨x.1, fun q hq => ?_⟩
  rcases x.2 q hq with z | ⟨c2, z1, z2, z3⟩
  · exact .inl z
  · refine .inr ⟨c2, z1, z2, codeRec_keep z3 k ?_⟩
    have : c2 ≠ I := by
      rintro rfl
      obtain ⟨c3, o3, vs, t, e, g1, g2, g3⟩ := z3
      cases e
      rw [hI] at g1
      exact h2 vs t _ (by rw [Option.some.inj g1]; exact g2) g3
    simpa using this
theorem AT.keepR {h h' : Heap} {I pA : Addr} {its ps : Array Value} {qs} {a b c : Int} (x : AT h pA its ps qs) (hI : h.get? I = some (rIt a b c)) (k : Keep [I] h h') : AT h' pA its ps qs :=
  ⟨trips_keepO x.1 hI (fun its n e => by have := congrArg Obj.data e; cases this) k, codes_keepO x.2 hI (fun vs t q e => by cases e; simp [rawInt]) k⟩
theorem AT.keep2 {h h' : Heap} {pA : Addr} {its ps : Array Value} {qs} (x : AT h pA its ps qs) {n} (hA : h.get? pA = some (listOf its n)) (hP : h.get? 41 = some (tabObj ps)) (k : Keep [pA, 41] h h') : AT h' pA its ps qs := by
  refine ⟨trips_keep2 x.1 hP k, x.2.1, fun q hq => ?_⟩
  rcases x.2.2 q hq with z | ⟨c2, z1, z2, z3⟩
  · exact .inl z
  · exact .inr ⟨c2, z1, z2, codeRec_keep z3 k (by simpa using ⟨codeRec_ne z3 hA, z2⟩)⟩
section
variable {w : World} {A : Around} {s : Shared} {env : Env}
theorem for_W {target : Expr} {body : List Stmt} {Q : Flow → Shared → Prop} {E : Value → Shared → Prop} {I : Addr} {fp wr : List Addr} {n : Nat} {P : Nat → Value → Prop} {St : Nat → Heap → Prop}
    (W : Walks PG w A I fp wr n P St) (J : Nat → Shared → Prop) (h0 : J 0 s) (hst : ∀ i s₁, J i s₁ → St i s₁.heap)
    (turn : ∀ i v s₁ h' tk, i < n → P i v → J i s₁ → St (i + 1) h' → Keep wr s₁.heap h' →
      wpAny (model PG w) A (letOwnedTupleGo target (.ref I) v) (fun _ s₁' => wpAny (model PG w) A (assign target env v) (fun _ s₂ => wpAny (model PG w) A (execs body env) (fun f s₃ => match f with
        | .next | .cont => Halt (J (i + 1) s₃)
        | .brk => Q .next s₃
        | .ret v => Q (.ret v) s₃) (fun _ _ => False) s₂) (fun _ _ => False) s₁') (fun _ _ => False) { s₁ with heap := h', toks := tk })
    (done : ∀ s₁ h' tk, J n s₁ → Keep wr s₁.heap h' → Q .next { s₁ with heap := h', toks := tk }) :
    codeAny (model PG w) A (.forLoop target (.ref I) body [] env) (fun r s' => match r with | .ok f => Q f s' | .error e => cameBackBy (model PG w) A env E e s') s := by
  refine codeAny_forLoop_any (fun k s' => ∃ i, i ≤ n ∧ k = n - i ∧ J i s') ?_ n ⟨0, Nat.zero_le _, rfl, h0⟩
  rintro k s₁ ⟨i, hi, rfl, hJ⟩
  by_cases hlt : i < n
  · refine W.item i _ _ _ hlt (hst _ _ hJ) fun v h' tk hP hSt hk => ?_
    refine wpAny_mono (turn i v s₁ h' tk hlt hP hJ hSt hk) (fun _ s₂ h₂ => ?_) fun _ _ x => x.elim
    refine wpAny_mono h₂ (fun _ s₃ h₃ => ?_) fun _ _ x => x.elim
    refine wpAny_mono h₃ (fun f s₄ h₄ => ?_) fun _ _ x => x.elim
    cases f with
    | next => exact ⟨n - (i + 1), by omega, i + 1, hlt, rfl, h₄⟩
    | cont => exact ⟨n - (i + 1), by omega, i + 1, hlt, rfl, h₄⟩
    | brk => exact h₄
    | ret v => exact h₄
  · have : i = n := by omega
    subst this
    exact W.done _ _ _ (hst _ _ hJ) fun h' tk hk => wpAny_execs_nil (done s₁ h' tk hJ hk)
end
end Mine
end
section
open PySem PySem.W PySem.Calls PyProof.Rows PySem.Spec
set_option maxRecDepth 100000
namespace Mine
section
variable {w : World} {A : Around} {s : Shared} {env : Env} {E : Value → Shared → Prop}
def CompL (w : World) (A : Around) (env : Env) (scope : Scope) (cl : List (Str × Addr)) (x : Str) (ifs : List Expr) (elt : Expr) (p : Value → Bool) (F : Value → Value → Prop) (Q : Value → Shared → Prop) (xv : Value) (s₁ : Shared) : Prop :=
  ∃ (ax : Addr) (its : Array Value), xv = .ref ax ∧ s₁.heap.IsList ax its ∧ its.size ≤ sizeLine ∧
    (∀ C v s₃ m₃ E', s₁.heap.objs.size ≤ C → v ∈ its.toList → s₃.heap.Ns C m₃ → m₃ x = some v → (∀ b o, s₁.heap.get? b = some o → s₃.heap.get? b = some o) →
      wpAny (model PG w) A (forIn ifs true fun c r => if r = true then do let ok ← isTrue c (compEnvC scope cl C env) (eval c (compEnvC scope cl C env)); pure (ForInStep.yield ok) else pure (ForInStep.yield r))
        (fun ok s₄ => ok = p v ∧ Keeps s₃ s₄) E' s₃) ∧
    (∀ C v s₃ m₃ E', s₁.heap.objs.size ≤ C → v ∈ its.toList → p v = true → s₃.heap.Ns C m₃ → m₃ x = some v → (∀ b o, s₁.heap.get? b = some o → s₃.heap.get? b = some o) →
      wpAny (model PG w) A (eval elt (compEnvC scope cl C env)) (fun y s₄ => F v y ∧ Keeps s₃ s₄) E' s₃) ∧
    (∀ D h' tk ys n, s₁.heap.get? D = none → h'.get? D = some (listOf ys n) → Paired F (its.toList.filter p) ys.toList → (∀ b o, s₁.heap.get? b = some o → h'.get? b = some o) →
      Q (.ref D) { s₁ with heap := h', toks := tk })
theorem list_of_places {vs its : List Value} (hl : vs.length = its.length) (h : ∀ (j : Nat) (v : Value), vs[j]? = some v → its[j]? = some v) : vs = its := by
  apply List.ext_getElem? 
  intro j
  cases q : vs[j]? with
  | some v => exact (h j v q).symm
  | none =>
    have : vs.length ≤ j := List.getElem?_eq_none_iff.mp q
    exact (List.getElem?_eq_none (by omega)).symm
theorem comp_list {elt iter : Expr} {x : Str} {px : Pos} {ifs : List Expr} {scope : Scope} {cl : List (Str × Addr)} {pos : Pos} {Q : Value → Shared → Prop} (p : Value → Bool) (F : Value → Value → Prop) (hh : A.handled = none)
    (hclos : closureFor scope env = pure cl) (hcell : ∀ y ∈ scope.names, y.2 ≠ .cell) (hkind : scope.kind = .function)
    (hnames : ∀ y ∈ scope.names, y.2 = .local → scope.names.lookup y.1 = some .local) (hx : scope.names.lookup x = some .local)
    (h : wpAny (model PG w) A (eval iter env) (CompL w A env scope cl x ifs elt p F Q) E s)
    (hs : ∀ x, foldedSetIterable iter env x = pure x := by intro _; rfl) :
    wpAny (model PG w) A (eval (.ListComp elt [⟨.Name x px, iter, ifs, 0⟩] scope pos) env) Q E s := by
  refine wpAny_ListComp_free p F hclos hcell hkind hnames hx (wpAny_mono h (fun xv s₁ h₁ => ?_) fun _ _ e => e) hs
  obtain ⟨ax, its, rfl, hl, hsz, ht, he, hQ⟩ := h₁
  have hlt : ax < s₁.heap.objs.size := by obtain ⟨_, e, _⟩ := hl; exact Heap.lt_size e
  refine wpAny_pyIter_list hl ?_
  refine ⟨s₁.heap.objs.size, _, _, _, _, _, rfl, Walks.list hh s₁.heap.objs.size ax (Nat.ne_of_lt hlt) its, hsz, ⟨⟨_, Heap.get?_push_size _ rfl, rfl, rfl⟩, hl.push _⟩, ?_, ⟨?_, ?_⟩, ?_⟩
  · intro b hb
    rw [Heap.size_push]
    rcases List.mem_cons.mp hb with rfl | hb
    · exact Nat.lt_succ_self _
    · cases hb with | head => exact Nat.lt_succ_of_lt hlt | tail _ h => cases h
  · intro C i v s₃ m₃ E' hC hP hn hm hk _
    have hk' : ∀ b o, s₁.heap.get? b = some o → s₃.heap.get? b = some o := fun b o e => hk b o (by simpa using Nat.ne_of_lt (Heap.lt_size e)) (Heap.get?_push_of_some _ e)
    exact ht C v s₃ m₃ E' (Nat.le_of_succ_le (by rw [Heap.size_push] at hC; exact hC)) (Array.mem_toList_iff.mpr (Array.mem_of_getElem? hP)) hn hm hk'
  · intro C i v s₃ m₃ E' hC hP hp hn hm hk _
    have hk' : ∀ b o, s₁.heap.get? b = some o → s₃.heap.get? b = some o := fun b o e => hk b o (by simpa using Nat.ne_of_lt (Heap.lt_size e)) (Heap.get?_push_of_some _ e)
    exact he C v s₃ m₃ E' (Nat.le_of_succ_le (by rw [Heap.size_push] at hC; exact hC)) (Array.mem_toList_iff.mpr (Array.mem_of_getElem? hP)) hp hn hm hk'
  · intro D h' tk ys vs hD hl' hpl hlen hP hF hk
    have ev : vs = its.toList := list_of_places (by simpa using hlen) (fun j v q => by simpa using hP j v q)
    subst ev
    obtain ⟨n, hpl⟩ := hpl
    have hD' : s₁.heap.get? D = none := by
      cases q : s₁.heap.get? D with
      | none => rfl
      | some o => have := Heap.get?_push_of_some { cls := .type "list_iterator", data := .fields #[.ref ax, .int 0 0] } q; dsimp only at hD; rw [this] at hD; cases hD
    exact hQ D h' tk ys n hD' hpl hF fun b o e => hk b o (by simpa using Nat.ne_of_lt (Heap.lt_size e)) (Heap.get?_push_of_some _ e)
theorem noTests {C : Addr} {scope : Scope} {cl : List (Str × Addr)} {v : Value} {E' : Value → Shared → Prop} :
    wpAny (model PG w) A (forIn ([] : List Expr) true fun c r => if r = true then do let ok ← isTrue c (compEnvC scope cl C env) (eval c (compEnvC scope cl C env)); pure (ForInStep.yield ok) else pure (ForInStep.yield r))
      (fun ok s₄ => ok = (fun _ : Value => true) v ∧ Keeps s s₄) E' s := by
  rw [List.forIn_nil]
  exact wpAny_pure ⟨rfl, s.heap, s.toks, rfl, fun _ _ e => e⟩
end
theorem news_new {g h h' : Heap} {L D : Addr} {m : Str → Option Value} {U : List (Addr × Obj)} {o : Obj} (F : Fr g L h m) (N : News g L h U) (hD : h.get? D = none) (hD' : h'.get? D = some o) (k : ∀ b o, h.get? b = some o → h'.get? b = some o) :
    Fr g L h' m ∧ News g L h' ((D, o) :: U) := by
  refine ⟨⟨F.ns.keeps k, fun b ob q => k b ob (F.keep b ob q), F.above⟩, fun p hp => ?_⟩
  cases hp with
  | head =>
    refine ⟨hD', fun e => ?_, ?_⟩
    · obtain ⟨oL, es, ep, hL, _⟩ := F.ns
      dsimp only at e
      rw [e, hL] at hD; cases hD
    · cases q : g.get? D with
      | none => rfl
      | some ob => rw [F.keep _ _ q] at hD; cases hD
  | tail _ hp => exact ⟨k _ _ (N _ hp).1, (N _ hp).2⟩
theorem ints_mem {vs : List Value} {ns : List Int} {v : Value} (h : IntsAre vs ns) (hv : v ∈ vs) : ∃ n t, v = .int n t ∧ n ∈ ns := by
  induction h with
  | nil => cases hv
  | cons a b _ ih =>
    cases hv with
    | head => exact ⟨_, _, rfl, .head _⟩
    | tail _ hv => obtain ⟨n, t, e, hn⟩ := ih hv; exact ⟨n, t, e, .tail _ hn⟩
theorem paired_ints {vs ys : List Value} {ns : List Int} {f : Int → Int} (h : IntsAre vs ns) (hp : Paired (fun v y => ∃ k t t', v = Value.int k t ∧ y = Value.int (f k) t') vs ys) : IntsAre ys (ns.map f) := by
  induction hp generalizing ns with
  | nil => cases h; exact IntsAre.nil
  | cons a _ ih =>
    obtain ⟨k, t, t', rfl, rfl⟩ := a
    cases h with
    | cons _ _ h' => exact IntsAre.cons _ _ (ih h')
end Mine
end
section
namespace Mine
abbrev rowInit (lower ab : List Nat) : List Nat × List Q3 := (lower.getD 0 0 :: ab, [])
abbrev rowAt (ns : List Int) (lower ab ds : List Nat) : List Nat × List Q3 := ds.foldl (insStep (fun k => ns.getD k 0) ab lower) (rowInit lower ab)
def endV (i : Nat) : Nat := if i = 0 then 3 else 5
def doneV (n : Nat) : Nat → Nat
  | 0 => 1
  | i + 1 => min (endV i) n
def procs (n : Nat) : Nat → List Nat
  | 0 => []
  | i + 1 => procs n i ++ downs (min (endV i) n) (doneV n i)
theorem procs_two (n : Nat) : procs n 2 = ksOf n := rfl
theorem insertAt_length (l : List Nat) (i v : Nat) : (insertAt l i v).length = l.length + 1 := by
  unfold insertAt
  rw [List.length_append, List.length_cons, List.length_take, List.length_drop]
  omega
theorem insertAt_mem {l : List Nat} {i v x : Nat} : x ∈ insertAt l i v ↔ x = v ∨ x ∈ l := by
  unfold insertAt
  rw [List.mem_append, List.mem_cons]
  have : x ∈ l ↔ x ∈ l.take i ∨ x ∈ l.drop i := by rw [← List.mem_append, List.take_append_drop]
  rw [this]
  constructor
  · rintro (h | h | h)
    · exact .inr (.inl h)
    · exact .inl h
    · exact .inr (.inr h)
  · rintro (h | h | h)
    · exact .inr (.inl h)
    · exact .inl h
    · exact .inr (.inr h)
theorem insertAt_perm (l : List Nat) (i v : Nat) : (insertAt l i v).Perm (v :: l) := by
  unfold insertAt
  have := List.perm_middle (a := v) (l₁ := l.take i) (l₂ := l.drop i)
  rwa [List.take_append_drop] at this
theorem rowAt_snoc (ns : List Int) (lower ab ds : List Nat) (k : Nat) : rowAt ns lower ab (ds ++ [k]) = insStep (fun k => ns.getD k 0) ab lower (rowAt ns lower ab ds) k := by
  simp [rowAt]
theorem foldl_ins_mono (num : Nat → Int) (ab lower : List Nat) : ∀ (es : List Nat) (st : List Nat × List Q3), st.2.length ≤ (es.foldl (insStep num ab lower) st).2.length
  | [], _ => Nat.le_refl _
  | k :: es, st => by
    refine Nat.le_trans ?_ (foldl_ins_mono num ab lower es _)
    simp [insStep]
theorem rowAt_mono (ns : List Int) (lower ab ds es : List Nat) : (rowAt ns lower ab ds).2.length ≤ (rowAt ns lower ab (ds ++ es)).2.length := by
  rw [rowAt, rowAt, List.foldl_append]
  exact foldl_ins_mono _ _ _ _ _
theorem foldl_ins_perm (num : Nat → Int) (ab lower : List Nat) : ∀ (es : List Nat) (st : List Nat × List Q3), (es.foldl (insStep num ab lower) st).1.Perm (es.map (fun k => lower.getD k 0) ++ st.1)
  | [], _ => List.Perm.refl _
  | k :: es, st => by
    refine (foldl_ins_perm num ab lower es _).trans ?_
    refine (List.Perm.append_left _ (insertAt_perm _ _ _)).trans ?_
    exact List.perm_middle
theorem rowAt_perm (ns : List Int) (lower ab ds : List Nat) : (rowAt ns lower ab ds).1.Perm (ds.map (fun k => lower.getD k 0) ++ (lower.getD 0 0 :: ab)) := foldl_ins_perm _ _ _ _ _
theorem rowAt_len (ns : List Int) (lower ab ds : List Nat) : (rowAt ns lower ab ds).1.length = ds.length + ab.length + 1 := by
  rw [(rowAt_perm ns lower ab ds).length_eq]; simp; omega
theorem rowAt_sub (ns : List Int) (lower ab ds : List Nat) {x : Nat} (h : x ∈ ab) : x ∈ (rowAt ns lower ab ds).1 :=
  (rowAt_perm ns lower ab ds).mem_iff.mpr (List.mem_append_right _ (.tail _ h))
theorem rowAt_lt (ns : List Int) (lower ab ds : List Nat) {c : Nat} (h1 : ∀ o ∈ lower, o < c) (h2 : ∀ o ∈ ab, o < c) (h3 : 1 ≤ lower.length) : ∀ o ∈ (rowAt ns lower ab ds).1, o < c := by
  have hc : 0 < c := by
    match lower, h1, h3 with
    | a :: _, h1, _ => exact Nat.lt_of_le_of_lt (Nat.zero_le _) (h1 a (.head _))
  have hg : ∀ k, lower.getD k 0 < c := by
    intro k
    rw [List.getD_eq_getElem?_getD]
    cases q : lower[k]? with
    | none => exact hc
    | some v => exact h1 _ (List.mem_of_getElem? q)
  intro o ho
  have := (rowAt_perm ns lower ab ds).mem_iff.mp ho
  rcases List.mem_append.mp this with h | h
  · obtain ⟨k, _, rfl⟩ := List.mem_map.mp h; exact hg k
  · rcases List.mem_cons.mp h with rfl | h
    · exact hg 0
    · exact h2 _ h
theorem downs_length (a b : Nat) : (downs a b).length = a - b := by simp [downs]
theorem downs_take (a b i : Nat) (h : i < a - b) : (downs a b).take (i + 1) = (downs a b).take i ++ [a - 1 - i] := by
  rw [List.take_add_one]
  congr 1
  simp [downs, h]
theorem downs_all (a b : Nat) : (downs a b).take (a - b) = downs a b := List.take_of_length_le (by rw [downs_length]; exact Nat.le_refl _)
theorem procs_pre (n i : Nat) (h : i < 2) : ∃ es, ksOf n = procs n i ++ downs (min (endV i) n) (doneV n i) ++ es := by
  match i, h with
  | 0, _ => exact ⟨downs (min (endV 1) n) (doneV n 1), rfl⟩
  | 1, _ => exact ⟨[], by rw [List.append_nil]; rfl⟩
theorem procs_take_len (n i j : Nat) (h : i < 2) (hn : n ≤ 20) : (procs n i ++ (downs (min (endV i) n) (doneV n i)).take j).length ≤ 20 := by
  have h1 : (procs n i ++ (downs (min (endV i) n) (doneV n i)).take j).length ≤ (procs n i ++ (downs (min (endV i) n) (doneV n i))).length := by
    rw [List.length_append, List.length_append, List.length_take]; omega
  refine Nat.le_trans h1 ?_
  match i, h with
  | 0, _ => simp [procs, downs_length, endV, doneV]; omega
  | 1, _ => simp [procs, downs_length, endV, doneV]; omega
theorem pairUp_vals (num : Nat → Int) : ∀ l : List Nat, ∀ p ∈ (pairUp num l).1, p.2 ∈ l
  | [] => fun _ h => (nomatch h)
  | [a] => fun _ h => (nomatch h)
  | a :: b :: r => by
    intro p hp
    rw [pairUp_cons] at hp
    rcases List.mem_cons.mp hp with rfl | hp
    · split
      · exact .head _
      · exact .tail _ (.head _)
    · exact .tail _ (.tail _ (pairUp_vals num r p hp))
theorem look_mem {u : List (Nat × Nat)} {x : Nat} (h : x ∈ u.map (·.1)) : ∃ p ∈ u, look u x = p.2 := by
  unfold look
  obtain ⟨q, hq, rfl⟩ := List.mem_map.mp h
  cases e : u.find? fun p => p.1 == q.1 with
  | none =>
    have := List.find?_eq_none.mp e q hq
    simp at this
  | some p => exact ⟨p, List.mem_of_find?_eq_some e, rfl⟩
theorem lowerOf_mem {num : Nat → Int} {things ab : List Nat} (hab : ∀ x ∈ ab, x ∈ (pairUp num things).1.map (·.1)) : ∀ o ∈ lowerOf num things ab, o ∈ things := by
  intro o ho
  rcases List.mem_append.mp ho with h | h
  · obtain ⟨x, hx, rfl⟩ := List.mem_map.mp h
    obtain ⟨p, hp, e⟩ := look_mem (hab x hx)
    rw [e]; exact pairUp_vals num things p hp
  · exact List.mem_of_mem_drop h
theorem lowerOf_len {num : Nat → Int} {things ab : List Nat} (habl : ab.length = (pairUp num things).1.length) : (lowerOf num things ab).length = things.length - things.length / 2 := by
  unfold lowerOf
  rw [List.length_append, List.length_map, List.length_drop, habl, pairUp_len]; omega
theorem bis_le (num : Nat → Int) (t : Nat) (right : Bool) (row : List Nat) : ∀ (f lo hi : Nat), lo ≤ hi → (bis num t right row f lo hi).2 ≤ hi
  | 0, lo, hi, h => h
  | f + 1, lo, hi, h => by
    rw [bis]
    split
    · split
      · exact Nat.le_trans (bis_le num t right row f lo _ (by omega)) (by omega)
      · exact bis_le num t right row f _ hi (by omega)
    · exact h
theorem place_le (num : Nat → Int) (t : Nat) (right : Bool) (row : List Nat) (high : Option Nat) (h : high.getD row.length ≤ row.length) : (place num t right row high).2 ≤ row.length :=
  Nat.le_trans (bis_le num t right row _ 0 _ (Nat.zero_le _)) h
end Mine
namespace Mine
theorem downs_lt {a b k : Nat} (h : k ∈ downs a b) : k < a := by
  obtain ⟨i, hi, rfl⟩ := List.mem_map.mp h
  have := List.mem_range.mp hi
  omega
theorem ksOf_lt {n k : Nat} (h : k ∈ ksOf n) : k < n := by
  rcases List.mem_append.mp h with h | h <;> have := downs_lt h <;> omega
theorem ksOf_len (n : Nat) (h1 : 1 ≤ n) (h2 : n ≤ 5) : (ksOf n).length = n - 1 := by
  unfold ksOf
  rw [List.length_append, downs_length, downs_length]; omega
theorem rowF_keys (num : Nat → Int) : ∀ (f : Nat) (things : List Nat), things.length ≤ 10 → (∀ x ∈ (rowF num f things).1, x ∈ things) ∧ (rowF num f things).1.length = things.length
  | 0, things, _ => ⟨fun _ h => h, rfl⟩
  | f + 1, things, hl => by
    by_cases hs : things.length < 2
    · rw [rowF, if_pos hs]; exact ⟨fun _ h => h, rfl⟩
    · have hkl : ((pairUp num things).1.map (·.1)).length = things.length / 2 := by rw [List.length_map, pairUp_len]
      obtain ⟨i1, i2⟩ := rowF_keys num f ((pairUp num things).1.map (·.1)) (by omega)
      rw [rowF_step num f things hs]
      generalize (rowF num f ((pairUp num things).1.map (·.1))).1 = ab at *
      dsimp only
      have hll := lowerOf_len (num := num) (things := things) (ab := ab) (by rw [i2, List.length_map])
      have hm := lowerOf_mem (num := num) i1
      have hp := foldl_ins_perm num ab (lowerOf num things ab) (ksOf (lowerOf num things ab).length) ((lowerOf num things ab).getD 0 0 :: ab, [])
      dsimp only at hp
      have hk := ksOf_len (lowerOf num things ab).length (by omega) (by omega)
      refine ⟨fun x hx => ?_, ?_⟩
      · rcases List.mem_append.mp (hp.mem_iff.mp hx) with h | h
        · obtain ⟨k, hk, rfl⟩ := List.mem_map.mp h
          exact hm _ (getD_mem (ksOf_lt hk))
        · rcases List.mem_cons.mp h with rfl | h
          · exact hm _ (getD_mem (by omega))
          · exact (pairUp_keys num things).1 x (i1 x h)
      · rw [hp.length_eq, List.length_append, List.length_map, hk, List.length_cons]; omega
end Mine
end
section
open PySem PySem.W PySem.Calls PyProof.Rows PySem.Spec
set_option maxRecDepth 100000
namespace Mine
theorem walk_off_B12 : True := by
  w_top off
  trivial
local macro_rules | `(tactic| walk_at "pad 0") => `(tactic| fail)
local macro_rules | `(tactic| walk_at "pad 1") => `(tactic| fail)
local macro_rules | `(tactic| walk_at "pad 2") => `(tactic| fail)
local macro_rules | `(tactic| walk_at "pad 3") => `(tactic| fail)
theorem elimE {P : Prop} {α : Type} {x : Option α} {v v' : α} (h1 : x = some v) (h2 : x = some v') (k : v = v' → P) : P := k (Option.some.inj (h1.symm.trans h2))
theorem notin1 {a b : Nat} (h : a ≠ b) : a ∉ [b] := by simpa using h
theorem notin2 {a b c : Nat} (h : a ≠ b) (h2 : a ≠ c) : a ∉ [b, c] := by simpa using ⟨h, h2⟩
def rmap (pT pN pA r : Addr) (ulow urow udone uend uk uhigh u2 u3 : Option Value) : Str → Option Value := fun y =>
  if y = Str.ofString "k" then uk else if y = Str.ofString "high" then uhigh else if y = Str.ofString "end" then uend else if y = Str.ofString "done" then udone else
  if y = Str.ofString "row" then urow else if y = Str.ofString "lower" then ulow else if y = Str.ofString "above" then some (.ref r) else
  if y = Str.ofString "one" then u2 else if y = Str.ofString "other" then u3 else
  if y = Str.ofString "things" then some (.ref pT) else if y = Str.ofString "numbers" then some (.ref pN) else if y = Str.ofString "asked" then some (.ref pA) else none
section
variable {w : World} {b0 : Heap} {p : Program} {loose : List Str} {mean : ExcName → Option Value} {mg mb : Str → Option Value}
local macro_rules | `(tactic| k_all) => `(tactic| assumption)
local macro_rules | `(tactic| walk_at "call ref") => `(tactic| refine Halt.out ?_)
local macro_rules | `(tactic| walk_at "pyIter ref") => `(tactic| refine Halt.out ?_)
local macro_rules | `(tactic| walk_at "exec For Name Call cons nil") => `(tactic| refine Halt.out ?_)
local macro_rules | `(tactic| walk_at "call builtin:list.index") => `(tactic| refine Halt.out ?_)
local macro_rules | `(tactic| walk_at "call builtin:list.insert") => `(tactic| refine Halt.out ?_)
local macro_rules | `(tactic| walk_at "exec For Name Tuple cons nil") => `(tactic| refine Halt.out ?_)
theorem ints_kf {vs : List Value} {ns : List Int} (h : IntsAre vs ns) : kf_ints vs = true := by
  induction h with
  | nil => rfl
  | cons _ _ _ ih => exact ih
theorem kfAt_idx {vs : List Value} {row : List Nat} {x : Nat} (h : IntsAre vs (row.map Int.ofNat)) (hx : x ∈ row) : kf_at (x : Int) vs = some (row.idxOf x) := by
  induction row generalizing vs with
  | nil => cases hx
  | cons a r ih =>
    cases h with
    | cons _ t h' =>
      by_cases e : a = x
      · subst e
        simp [kf_at, isInt]
      · have h1 : isInt (x : Int) (.int (Int.ofNat a) t) = false := by simp [isInt]; omega
        rcases List.mem_cons.mp hx with q | q
        · exact absurd q.symm e
        · unfold kf_at
          rw [h1, ih h' q]
          have h2 : (a == x) = false := by simpa using e
          simp [List.idxOf_cons, h2]
theorem fmod2 (kk : Nat) : (Int.fmod (kk : Int) 2 == 0) = (kk % 2 == 0) := by
  rw [Int.fmod_eq_emod_of_nonneg _ (by decide), Bool.eq_iff_iff, beq_iff_eq, beq_iff_eq]; omega
theorem ints_ins {vs : List Value} {row : List Nat} (h : IntsAre vs (row.map Int.ofNat)) (p x : Nat) (t : Tok) : IntsAre (kl_ins vs (p : Int) (.int (x : Int) t)) ((insertAt row p x).map Int.ofNat) := by
  have e : kl_ins vs (p : Int) (.int (x : Int) t) = vs.take p ++ .int (x : Int) t :: vs.drop p := by
    unfold kl_ins
    rw [if_neg (by omega), Int.toNat_natCast]
    by_cases hp : p ≤ vs.length
    · rw [Nat.min_eq_left hp]
    · rw [Nat.min_eq_right (by omega), List.take_of_length_le (Nat.le_refl _), List.drop_of_length_le (Nat.le_refl _), List.take_of_length_le (by omega), List.drop_of_length_le (by omega)]
  rw [e]
  unfold insertAt
  rw [List.map_append, List.map_cons, List.map_take, List.map_drop]
  exact (h.take p).append (IntsAre.cons _ _ (h.drop p))
theorem list_notSide {vs : List Value} {ns : List Int} (h : IntsAre vs ns) (n : Nat) : ¬ Side (listOf vs.toArray n) := by
  rintro (⟨q, t1, t2, m, e⟩ | ⟨ws, e⟩)
  · have h1 := congrArg Obj.data e
    injection h1 with h2 h3
    have h4 : vs = [.int (q.1 : Int) t1, .int (q.2.1 : Int) t2, .bool q.2.2] := by simpa using congrArg Array.toList h2
    subst h4
    cases h with | cons _ _ h => cases h with | cons _ _ h => cases h
  · cases e
theorem fits_small (p : Nat) (h : p ≤ 1000) : Builtin.List.listFitsIndex (p : Int) = true := by
  unfold Builtin.List.listFitsIndex
  simp; omega
theorem Fr_high {g h : Heap} {L pT pN pA r : Addr} {v1 v2 : Value} {ul ur ud ue uk uh u2 u3 : Option Value}
    (F : Fr g L h (fun y => if y = Str.ofString "high" then some v1 else if y = Str.ofString "k" then some v2 else rmap pT pN pA r ul ur ud ue uk uh u2 u3 y)) : Fr g L h (rmap pT pN pA r ul ur ud ue (some v2) (some v1) u2 u3) := by
  refine Fr_congr F fun y => ?_
  by_cases e1 : y = Str.ofString "high"; · (subst e1; rfl)
  by_cases e2 : y = Str.ofString "k"; · (subst e2; rfl)
  simp only [rmap, if_neg e1, if_neg e2]
theorem Fr_done {g h : Heap} {L pT pN pA r : Addr} {v1 : Value} {ul ur ud ue uk uh u2 u3 : Option Value}
    (F : Fr g L h (fun y => if y = Str.ofString "done" then some v1 else rmap pT pN pA r ul ur ud ue uk uh u2 u3 y)) : Fr g L h (rmap pT pN pA r ul ur (some v1) ue uk uh u2 u3) := by
  refine Fr_congr F fun y => ?_
  by_cases e1 : y = Str.ofString "done"; · (subst e1; rfl)
  simp only [rmap, if_neg e1]
theorem hide_none {h : Heap} {W : List Addr} {a : Addr} (e : (hideAll h W).get? a = none) (hn : a ∉ W) : h.get? a = none := by
  cases q : h.get? a with
  | none => rfl
  | some o => rw [hideAll_get W q hn] at e; cases e
theorem rangeD_small (m d : Nat) (hm : m ≤ 5) (hd : d ≤ 5) : Builtin.Range.small ((m : Int) - 1) ((d : Int) - 1) (-1) = true := by
  have : ∀ m : Nat, m < 6 → ∀ d : Nat, d < 6 → Builtin.Range.small ((m : Int) - 1) ((d : Int) - 1) (-1) = true := by decide
  exact this m (by omega) d (by omega)
theorem rangeD_size (m d : Nat) (hm : m ≤ 5) (hd : d ≤ 5) : Builtin.Range.rangeSize ((m : Int) - 1) ((d : Int) - 1) (-1) = ((m - d : Nat) : Int) := by
  have : ∀ m : Nat, m < 6 → ∀ d : Nat, d < 6 → Builtin.Range.rangeSize ((m : Int) - 1) ((d : Int) - 1) (-1) = ((m - d : Nat) : Int) := by decide
  exact this m (by omega) d (by omega)
theorem endV_le (i : Nat) : endV i ≤ 5 := by unfold endV; split <;> omega
theorem doneV_le (n i : Nat) : doneV n i ≤ 5 := by
  cases i with
  | zero => simp [doneV]
  | succ i => exact Nat.le_trans (Nat.min_le_left _ _) (endV_le i)
theorem doneV_pos (n i : Nat) (hn : 1 ≤ n) : 1 ≤ doneV n i := by
  cases i with
  | zero => exact Nat.le_refl _
  | succ i =>
    show 1 ≤ min (endV i) n
    have : 1 ≤ endV i := by unfold endV; split <;> omega
    omega
theorem min_if (n e : Nat) : (if (n : Int) < (e : Int) then (n : Int) else (e : Int)) = ((min e n : Nat) : Int) := by
  split <;> omega
theorem AT.keepO {h h' : Heap} {I pA : Addr} {its ps : Array Value} {qs} {o : Obj} (x : AT h pA its ps qs) (hI : h.get? I = some o) (h1 : ∀ its n, o ≠ listOf its n) (h2 : ∀ vs t q, o.data = .fields vs → vs[1]? ≠ some (.str q t)) (k : Keep [I] h h') : AT h' pA its ps qs :=
  ⟨trips_keepO x.1 hI h1 k, codes_keepO x.2 hI h2 k⟩
theorem tupIt_1 {o : Obj} {t : Addr} {i : Nat} (hd : o.data = .fields #[.ref t, .int i 0]) : ∀ its n, o ≠ listOf its n := by
  rintro its n rfl; cases hd
theorem tupIt_2 {o : Obj} {t : Addr} {i : Nat} (hd : o.data = .fields #[.ref t, .int i 0]) : ∀ vs t q, o.data = .fields vs → vs[1]? ≠ some (.str q t) := by
  intro vs t2 q e; rw [hd] at e; cases e; simp
set_option maxHeartbeats 4000000 in
theorem row_loop {dp un : Nat} {fr : Option (List Env)} {gd : Option (List Code)} {s : Shared} {Q : Value → Shared → Prop} {pA pT pN L r Dl Dr : Addr} {vn vr vlow vrow : List Value} {lower ab : List Nat} {ns : List Int} {qs : List Q3}
    {u1 u2 u3 : Option Value} {its ps : Array Value} {n nr nl nrow td : Nat} {h : Heap} {tk : Nat}
    {name qual : Str} {params : Arguments} {body : List Stmt} {scope : Scope} {dV kV doc pm cdv ct oc : Value} {an ond : Option Addr} {osl : Array (Option Value)}
    (ho : (hd.heap_39 w.params).lookup 51 = some ⟨oc, ond, .func (fnOf name qual params body scope dV kV doc pm an cdv ct), osl⟩)
    (X0 : (hd.heap_39 w.params).In b0) (T0 : Top p loose mean mg mb b0) (C0 : CodeHd b0 45 41) (h41 : b0.get? 41 = none) (hB : b0.StaysIn s.heap) (hp : b0.get? pA = none) (hp41 : pA ≠ 41)
    (hN : s.heap.IsList pN vn.toArray) (hNI : IntsAre vn ns) (hneN : pN ≠ pA) (hN41 : pN ≠ 41)
    (hlow : ∀ o ∈ lower, o < ns.length) (habn : ∀ o ∈ ab, o < ns.length) (hl1 : 1 ≤ lower.length) (hl20 : lower.length ≤ 20) (ha20 : ab.length ≤ 20) (hszn : ns.length < 100)
    (hsa : qs.length + (rowAt ns lower ab (ksOf lower.length)).2.length < 700)
    (hroom : dp + 10 < recursionLimit) (hun : un + 60 < cLine)
    (hpAL : @LT.lt Nat _ pA L) (h41L : @LT.lt Nat _ 41 L) (hrL : @LT.lt Nat _ L r) (hrl : @LT.lt Nat _ r Dl) (hlr : @LT.lt Nat _ Dl Dr)
    (F : Fr (hideAll s.heap [pA, 41]) L h (rmap pT pN pA r (some (.ref Dl)) (some (.ref Dr)) (some (.int 1 td)) none u1 none u2 u3))
    (N : News (hideAll s.heap [pA, 41]) L h [(Dr, listOf vrow.toArray nrow), (Dl, listOf vlow.toArray nl), (r, listOf vr.toArray nr), (pA, listOf its n), (41, tabObj ps)])
    (hrI : IntsAre vr (ab.map Int.ofNat)) (hlI : IntsAre vlow (lower.map Int.ofNat)) (hwI : IntsAre vrow ((lower.getD 0 0 :: ab).map Int.ofNat)) (hat : AT h pA its ps qs)
    (hq : ∀ r h' tk vr nr, Keep [pA, 41] s.heap h' → @LT.lt Nat _ L r → h'.get? r = some (listOf vr.toArray nr) → IntsAre vr ((rowAt ns lower ab (ksOf lower.length)).1.map Int.ofNat) →
      AskedIs h' pA (qs ++ (rowAt ns lower ab (ksOf lower.length)).2) → Tab h' → Q (.ref r) { s with heap := h', toks := tk }) :
    wpAny (model PG w) (Around.deeper { handled := none, depth := dp, frames := fr, guards := gd, units := un } (envOfC qual scope L 51 cdv)) (execs (body.drop 7) (envOfC qual scope L 51 cdv))
      (fun fl s' => Q (match fl with | .ret v => v | _ => .none) s') (fun _ _ => False) { s with heap := h, toks := tk } := by
  have hWn : ∀ a ∈ ([pA, 41] : List Addr), b0.get? a = none := by
    intro a ha
    rcases List.mem_cons.mp ha with rfl | ha
    · exact hp
    · cases ha with | head => exact h41 | tail _ h => cases h
  have X := X0.keeps (stays_hide hB hWn)
  have T := T0.keeps (stays_hide hB hWn)
  have hNs : Halt (s.heap.IsList pN vn.toArray) := hN
  have hNIs : Halt (IntsAre vn ns) := hNI
  have hNb := isList_hide hN (W := [pA, 41]) (notin2 hneN hN41)
  refine' elimE ho ?h2 ?k
  case h2 => k_is
  intro e
  cases e
  dsimp only [List.drop]
  obtain ⟨T0', N0, hT0', al0⟩ := adopt2 F N (by k_mem) (by k_mem) hat
  simp only [List.cons_append, List.nil_append] at N0
  clear N
  show wpAny _ _ _ _ _ _
  k_fold
  k_steps
  refine Halt.mk ?_
  refine wpAny_For ?_
  k_steps
  rename_i tp h1 F1 N1 l1
  have htp : h1.IsTuple tp _ := ⟨_, N1.get (.head _), rfl, _, rfl⟩
  refine Halt.mk ?_
  refine wpAny_pyIter_tuple htp ?_
  have N2 := N1.push F1 { cls := .type "tuple_iterator", data := .fields #[.ref tp, .int 0 0] }
  have F2 := F1.push { cls := .type "tuple_iterator", data := .fields #[.ref tp, .int 0 0] }
  have htI : @LT.lt Nat _ tp h1.objs.size := Heap.lt_size (N1.get (.head _))
  have hwI2 : @LT.lt Nat _ Dr h1.objs.size := Heap.lt_size (N1.get (.tail _ (.head _)))
  have hlI2 : @LT.lt Nat _ Dl h1.objs.size := Heap.lt_size (N1.get (.tail _ (.tail _ (.head _))))
  have hrI2 : @LT.lt Nat _ r h1.objs.size := Heap.lt_size (N1.get (.tail _ (.tail _ (.tail _ (.head _)))))
  have hpI : @LT.lt Nat _ pA h1.objs.size := Heap.lt_size (N1.get (.tail _ (.tail _ (.tail _ (.tail _ (.head _))))))
  have h4I : @LT.lt Nat _ 41 h1.objs.size := Heap.lt_size (N1.get (.tail _ (.tail _ (.tail _ (.tail _ (.tail _ (.head _)))))))
  have hIt0 : (h1.push { cls := .type "tuple_iterator", data := .fields #[.ref tp, .int 0 0] }).IsTupleIter h1.objs.size tp 0 := ⟨_, Heap.get?_push_size _ rfl, rfl, rfl⟩
  have atI : AT (h1.push { cls := .type "tuple_iterator", data := .fields #[.ref tp, .int 0 0] }) pA its ps qs := al0.back F2 N2 (fun p hp => .tail _ (.tail _ (.tail _ (.tail _ (.tail _ (.tail _ (.tail _ hp)))))))
  dsimp only
  generalize hI : h1.objs.size = I at *
  clear F1 N1 htp al0
  obtain ⟨tA, htA⟩ : ∃ t, t = tk := ⟨_, rfl⟩
  subst htA
  refine for_W (Walks.tuple rfl I tp (Nat.ne_of_lt htI) #[.int 3 tA, .int 5 (tA + 1)]) (fun i s₁ => ∃ (h' : Heap) (tk' : Nat) (oI : Obj) (its ps : Array Value) (n : Nat) (vrow : List Value) (nrow : Nat) (ue uk uh : Option Value) (td : Tok),
      s₁ = { s with heap := h', toks := tk' } ∧ Fr (hideAll s.heap [pA, 41]) L h' (rmap pT pN pA r (some (.ref Dl)) (some (.ref Dr)) (some (.int (doneV lower.length i : Nat) td)) ue uk uh u2 u3) ∧
      News (hideAll s.heap [pA, 41]) L h' [(I, oI), (tp, { cls := .type "tuple", data := .seq #[.int 3 tA, .int 5 (tA + 1)] }), (Dr, listOf vrow.toArray nrow), (Dl, listOf vlow.toArray nl), (r, listOf vr.toArray nr), (pA, listOf its n), (41, tabObj ps)] ∧
      h'.IsTupleIter I tp i ∧ IntsAre vrow ((rowAt ns lower ab (procs lower.length i)).1.map Int.ofNat) ∧ AT h' pA its ps (qs ++ (rowAt ns lower ab (procs lower.length i)).2)) ?start ?st ?turn ?done
  case start =>
    refine ⟨_, _, { cls := .type "tuple_iterator", data := .fields #[.ref tp, .int 0 0] }, its, ps, n, vrow, nrow, _, _, _, _, rfl, F2, ?_, hIt0, hwI, ?_⟩
    · intro p hp
      refine N2 p ?_
      simp only [List.mem_cons, List.not_mem_nil, or_false] at hp
      rcases hp with rfl | rfl | rfl | rfl | rfl | rfl | rfl <;> k_mem
    · show AT _ _ _ _ (qs ++ [])
      rw [List.append_nil]; exact atI
  case st =>
    rintro i s₁ ⟨h, tk', oI, its, ps, n, vrow, nrow, ue, uk, uh, td, rfl, F, N, hI, _⟩
    exact ⟨hI, ⟨_, N.get (.tail _ (.head _)), rfl, _, rfl⟩⟩
  case done =>
    clear atI F2 N2 hIt0
    rintro s₁ h4 tk4 ⟨h3, tk3, oI, its3, ps3, n3, vrow3, nrow3, ue, uk, uh, td3, rfl, F3, N3, hI3, hw3, at3⟩ k4
    have k4' : Keep [I] h3 h4 := k4
    obtain ⟨oI', gI, cI, dI⟩ := hI3
    have e0 : oI = oI' := Option.some.inj ((N3.get (.head _)).symm.trans gI)
    subst e0
    obtain ⟨F4, N4⟩ := after_keepW [(Dr, listOf vrow3.toArray nrow3), (pA, listOf its3 n3), (41, tabObj ps3)] F3 N3 k4' (by
      intro a ha; cases ha with | head => exact ⟨_, .head _⟩ | tail _ h => cases h) (by
      refine List.forall_mem_cons.mpr ⟨?_, List.forall_mem_cons.mpr ⟨?_, List.forall_mem_cons.mpr ⟨?_, fun _ h => nomatch h⟩⟩⟩
      · exact .inl ⟨by k_mem, notin1 (Nat.ne_of_lt hwI2)⟩
      · exact .inl ⟨by k_mem, notin1 (Nat.ne_of_lt hpI)⟩
      · exact .inl ⟨by k_mem, notin1 (Nat.ne_of_lt h4I)⟩)
    have at4 := at3.keepO gI (tupIt_1 dI) (tupIt_2 dI) k4'
    clear F3 N3
    dsimp only
    obtain ⟨T4, N4, hT4, al4⟩ := adopt2 F4 N4 (by k_mem) (by k_mem) at4
    simp only [List.cons_append, List.nil_append] at N4
    k_steps
    refine hq Dr h4 tk4 vrow3 nrow3 (Keep.of_frame (W := [pA, 41]) F4) ?_ (N4.get (.head _)) hw3 ⟨its3, n3, N4.get (by k_mem), at4.1⟩ (Tab.mk (N4.get (a := 41) (o := tabObj ps3) (by k_mem)) at4.2)
    exact Nat.lt_trans hrL (Nat.lt_trans hrl hlr)
  case turn =>
    clear atI F2 N2 hIt0
    rintro i v s₁ h4 tk4 hin hv ⟨h3, tk3, oI, its3, ps3, n3, vrow3, nrow3, ue, uk, uh, td3, rfl, F3, N3, hI3, hw3, at3⟩ hst4 k4
    have k4' : Keep [I] h3 h4 := k4
    obtain ⟨oI', gI, cI, dI⟩ := hI3
    have e0 : oI = oI' := Option.some.inj ((N3.get (.head _)).symm.trans gI)
    subst e0
    obtain ⟨⟨oJ, gJ, cJ, dJ⟩, _⟩ := hst4
    obtain ⟨F4, N4⟩ := after_keepW [(I, oJ), (tp, { cls := .type "tuple", data := .seq #[.int 3 tA, .int 5 (tA + 1)] }), (Dr, listOf vrow3.toArray nrow3), (Dl, listOf vlow.toArray nl), (r, listOf vr.toArray nr), (pA, listOf its3 n3), (41, tabObj ps3)] F3 N3 k4' (by
      intro a ha; cases ha with | head => exact ⟨_, .head _⟩ | tail _ h => cases h) (by
      refine List.forall_mem_cons.mpr ⟨?_, List.forall_mem_cons.mpr ⟨?_, List.forall_mem_cons.mpr ⟨?_, List.forall_mem_cons.mpr ⟨?_, List.forall_mem_cons.mpr ⟨?_, List.forall_mem_cons.mpr ⟨?_, List.forall_mem_cons.mpr ⟨?_, fun _ h => nomatch h⟩⟩⟩⟩⟩⟩⟩
      · exact .inr ⟨.head _, gJ⟩
      · exact .inl ⟨by k_mem, notin1 (Nat.ne_of_lt htI)⟩
      · exact .inl ⟨by k_mem, notin1 (Nat.ne_of_lt hwI2)⟩
      · exact .inl ⟨by k_mem, notin1 (Nat.ne_of_lt hlI2)⟩
      · exact .inl ⟨by k_mem, notin1 (Nat.ne_of_lt hrI2)⟩
      · exact .inl ⟨by k_mem, notin1 (Nat.ne_of_lt hpI)⟩
      · exact .inl ⟨by k_mem, notin1 (Nat.ne_of_lt h4I)⟩)
    have at4 := at3.keepO gI (tupIt_1 dI) (tupIt_2 dI) k4'
    clear F3 N3 gI cI dI gJ
    obtain ⟨T4, N4, hT4, al4⟩ := adopt2 F4 N4 (by k_mem) (by k_mem) at4
    simp only [List.cons_append, List.nil_append] at N4
    obtain ⟨te, rfl⟩ : ∃ te, v = .int ((endV i : Nat) : Int) te := by
      match i, hin, hv with
      | 0, _, hv => exact ⟨_, (Option.some.inj hv).symm⟩
      | 1, _, hv => exact ⟨_, (Option.some.inj hv).symm⟩
    clear hv
    refine wpAny_of_eq (a := ()) rfl ?_
    refine wpAny_assign_Name ?_
    k_steps
    refine Halt.mk ?_
    refine wpAny_For ?_
    k_steps
    rename_i _ _ _ _ _ _ h5 tk5 _ _ _ hR F5 N5 _
    rw [show (((List.map Int.ofNat lower).length : Nat) : Int) = (lower.length : Int) by simp, min_if] at hR
    obtain ⟨mm, hmm⟩ : ∃ mm, mm = min (endV i) lower.length := ⟨_, rfl⟩
    obtain ⟨dd, hdd⟩ : ∃ dd, dd = doneV lower.length i := ⟨_, rfl⟩
    rw [← hmm, ← hdd] at hR
    have hm5 : mm ≤ 5 := by have := endV_le i; omega
    have hd5 : dd ≤ 5 := by have := doneV_le lower.length i; omega
    have hd1 : 1 ≤ dd := by have := doneV_pos lower.length i hl1; omega
    have hmn : mm ≤ lower.length := by omega
    have hrs := rangeD_size mm dd hm5 hd5
    refine Halt.mk ?_
    refine wpAny_pyIter_range hR (rangeD_small mm dd hm5 hd5) ?_
    have F6 := Fr_congr (m' := rmap pT pN pA r (some (.ref Dl)) (some (.ref Dr)) (some (.int (dd : Nat) td3)) (some (.int (endV i : Nat) te)) uk uh u2 u3) F5 (by
      intro y
      rw [hdd]
      by_cases e1 : y = Str.ofString "end"; · (subst e1; rfl)
      simp only [rmap, if_neg e1])
    have N6 := N5.push F5 (rIt ((mm : Int) - 1) (Builtin.Range.rangeSize ((mm : Int) - 1) ((dd : Int) - 1) (-1)) (-1))
    have F7 := F6.push (rIt ((mm : Int) - 1) (Builtin.Range.rangeSize ((mm : Int) - 1) ((dd : Int) - 1) (-1)) (-1))
    have zI : @LT.lt Nat _ I h5.objs.size := Heap.lt_size (N5.get (.head _))
    dsimp only
    rw [hrs] at N6 F7 ⊢
    have at6 := al4.back F7 N6 (fun p hp => .tail _ (.tail _ (.tail _ (.tail _ (.tail _ (.tail _ (.tail _ (.tail _ hp))))))))
    generalize hI5 : h5.objs.size = I5 at *
    have ztI : @LT.lt Nat _ tp I5 := Nat.lt_trans htI zI
    have zwI : @LT.lt Nat _ Dr I5 := Nat.lt_trans hwI2 zI
    have zlI : @LT.lt Nat _ Dl I5 := Nat.lt_trans hlI2 zI
    have zrI : @LT.lt Nat _ r I5 := Nat.lt_trans hrI2 zI
    have zpI : @LT.lt Nat _ pA I5 := Nat.lt_trans hpI zI
    have z4I : @LT.lt Nat _ 41 I5 := Nat.lt_trans h4I zI
    clear F5 N5 F6 hR al4 at4 at3 hT4
    refine for_W (Walks.range rfl I5 ((mm : Int) - 1) (-1) (mm - dd)) (fun j s₁ => ∃ (h' : Heap) (tk' : Nat) (its ps : Array Value) (n : Nat) (vrow : List Value) (nrow : Nat) (uk uh : Option Value),
      s₁ = { s with heap := h', toks := tk' } ∧ Fr (hideAll s.heap [pA, 41]) L h' (rmap pT pN pA r (some (.ref Dl)) (some (.ref Dr)) (some (.int (dd : Nat) td3)) (some (.int (endV i : Nat) te)) uk uh u2 u3) ∧
      News (hideAll s.heap [pA, 41]) L h' [(I5, rIt ((mm : Int) - 1 + (j : Nat) * (-1)) (((mm - dd : Nat) : Int) - (j : Nat)) (-1)), (I, oJ), (tp, { cls := .type "tuple", data := .seq #[.int 3 tA, .int 5 (tA + 1)] }), (Dr, listOf vrow.toArray nrow), (Dl, listOf vlow.toArray nl), (r, listOf vr.toArray nr), (pA, listOf its n), (41, tabObj ps)] ∧
      IntsAre vrow ((rowAt ns lower ab (procs lower.length i ++ (downs mm dd).take j)).1.map Int.ofNat) ∧ AT h' pA its ps (qs ++ (rowAt ns lower ab (procs lower.length i ++ (downs mm dd).take j)).2)) ?start2 ?st2 ?turn2 ?done2
    case start2 =>
      refine ⟨_, _, its3, ps3, n3, vrow3, nrow3, _, _, rfl, F7, ?_, ?_, ?_⟩
      · intro p hp
        refine N6 p ?_
        simp only [List.mem_cons, List.not_mem_nil, or_false] at hp
        rcases hp with rfl | rfl | rfl | rfl | rfl | rfl | rfl | rfl
        · simpa using .head _
        all_goals k_mem
      · rw [List.take_zero, List.append_nil]; exact hw3
      · rw [List.take_zero, List.append_nil]; exact at6
    case st2 =>
      rintro j s₁ ⟨h, tk', its, ps, n, vrow, nrow, uk, uh, rfl, F, N, _⟩
      exact (N _ (.head _)).1
    case done2 =>
      clear F7 N6 at6 hw3
      rintro s₁ h7 tk7 ⟨h6, tk6, its6, ps6, n6, vrow6, nrow6, uk6, uh6, rfl, F6, N6, hw6, at6⟩ k7
      have k7' : Keep [I5] h6 h7 := k7
      obtain ⟨F8, N8⟩ := after_keepW [(I, oJ), (tp, { cls := .type "tuple", data := .seq #[.int 3 tA, .int 5 (tA + 1)] }), (Dr, listOf vrow6.toArray nrow6), (Dl, listOf vlow.toArray nl), (r, listOf vr.toArray nr), (pA, listOf its6 n6), (41, tabObj ps6)] F6 N6 k7' (by
        intro a ha; cases ha with | head => exact ⟨_, .head _⟩ | tail _ h => cases h) (by
        refine List.forall_mem_cons.mpr ⟨?_, List.forall_mem_cons.mpr ⟨?_, List.forall_mem_cons.mpr ⟨?_, List.forall_mem_cons.mpr ⟨?_, List.forall_mem_cons.mpr ⟨?_, List.forall_mem_cons.mpr ⟨?_, List.forall_mem_cons.mpr ⟨?_, fun _ h => nomatch h⟩⟩⟩⟩⟩⟩⟩
        · exact .inl ⟨by k_mem, notin1 (Nat.ne_of_lt zI)⟩
        · exact .inl ⟨by k_mem, notin1 (Nat.ne_of_lt ztI)⟩
        · exact .inl ⟨by k_mem, notin1 (Nat.ne_of_lt zwI)⟩
        · exact .inl ⟨by k_mem, notin1 (Nat.ne_of_lt zlI)⟩
        · exact .inl ⟨by k_mem, notin1 (Nat.ne_of_lt zrI)⟩
        · exact .inl ⟨by k_mem, notin1 (Nat.ne_of_lt zpI)⟩
        · exact .inl ⟨by k_mem, notin1 (Nat.ne_of_lt z4I)⟩)
      have at8 := at6.keepR (N6 _ (.head _)).1 k7'
      clear F6 N6 at6
      obtain ⟨T8, N8, hT8, al8⟩ := adopt2 F8 N8 (by k_mem) (by k_mem) at8
      simp only [List.cons_append, List.nil_append] at N8
      dsimp only
      k_steps
      rename Fr _ _ _ _ => F9
      rename News _ _ _ _ => N9
      have e9 : (((List.map Int.ofNat lower).length : Nat) : Int) = (lower.length : Int) := by simp
      rw [e9, min_if] at F9
      have F10 := Fr_done F9
      have at10 := al8.back F10 N9 (fun p hp => .tail _ (.tail _ (.tail _ (.tail _ (.tail _ (.tail _ (.tail _ hp)))))))
      rw [downs_all, hmm, hdd] at hw6 at10
      refine Halt.mk ⟨_, _, oJ, its6, ps6, n6, vrow6, nrow6, _, _, _, _, rfl, F10, ?_, ⟨oJ, N9.get (by k_mem), cJ, dJ⟩, hw6, at10⟩
      intro p hp
      refine N9 p ?_
      simp only [List.mem_cons, List.not_mem_nil, or_false] at hp
      rcases hp with rfl | rfl | rfl | rfl | rfl | rfl | rfl <;> k_mem
    case turn2 =>
      clear F7 N6 at6 hw3
      rintro j v s₁ h7 tk7 hjn ⟨tv, rfl⟩ ⟨h6, tk6, its6, ps6, n6, vrow6, nrow6, uk6, uh6, rfl, F6, N6, hw6, at6⟩ hst7 k7
      have k7' : Keep [I5] h6 h7 := k7
      obtain ⟨F8, N8o⟩ := after_keepW [(I5, rIt ((mm : Int) - 1 + ((j + 1 : Nat) : Int) * (-1)) (((mm - dd : Nat) : Int) - ((j + 1 : Nat) : Int)) (-1)), (I, oJ), (tp, { cls := .type "tuple", data := .seq #[.int 3 tA, .int 5 (tA + 1)] }), (Dr, listOf vrow6.toArray nrow6), (Dl, listOf vlow.toArray nl), (r, listOf vr.toArray nr), (pA, listOf its6 n6), (41, tabObj ps6)] F6 N6 k7' (by
        intro a ha; cases ha with | head => exact ⟨_, .head _⟩ | tail _ h => cases h) (by
        refine List.forall_mem_cons.mpr ⟨?_, List.forall_mem_cons.mpr ⟨?_, List.forall_mem_cons.mpr ⟨?_, List.forall_mem_cons.mpr ⟨?_, List.forall_mem_cons.mpr ⟨?_, List.forall_mem_cons.mpr ⟨?_, List.forall_mem_cons.mpr ⟨?_, List.forall_mem_cons.mpr ⟨?_, fun _ h => nomatch h⟩⟩⟩⟩⟩⟩⟩⟩
        · exact .inr ⟨.head _, hst7⟩
        · exact .inl ⟨by k_mem, notin1 (Nat.ne_of_lt zI)⟩
        · exact .inl ⟨by k_mem, notin1 (Nat.ne_of_lt ztI)⟩
        · exact .inl ⟨by k_mem, notin1 (Nat.ne_of_lt zwI)⟩
        · exact .inl ⟨by k_mem, notin1 (Nat.ne_of_lt zlI)⟩
        · exact .inl ⟨by k_mem, notin1 (Nat.ne_of_lt zrI)⟩
        · exact .inl ⟨by k_mem, notin1 (Nat.ne_of_lt zpI)⟩
        · exact .inl ⟨by k_mem, notin1 (Nat.ne_of_lt z4I)⟩)
      have at8 := at6.keepR (N6 _ (.head _)).1 k7'
      clear F6 N6 at6
      obtain ⟨T8, N8, hT8, al8⟩ := adopt2 F8 N8o (by k_mem) (by k_mem) at8
      clear N8o
      simp only [List.cons_append, List.nil_append] at N8
      have zpr : @LT.lt Nat _ pA r := Nat.lt_trans hpAL hrL
      have z4r : @LT.lt Nat _ 41 r := Nat.lt_trans h41L hrL
      have z4Dr : @LT.lt Nat _ 41 Dr := Nat.lt_trans z4r (Nat.lt_trans hrl hlr)
      have zDr : Dr ≠ pA := Nat.ne_of_gt (Nat.lt_trans zpr (Nat.lt_trans hrl hlr))
      obtain ⟨kk, hkk⟩ : ∃ kk, kk = mm - 1 - j := ⟨_, rfl⟩
      have ekk : (mm : Int) - 1 + (j : Int) * (-1) = (kk : Int) := by omega
      rw [ekk]
      have hkl : kk < lower.length := by omega
      have hsn := rowAt_snoc ns lower ab (procs lower.length i ++ (downs mm dd).take j) kk
      rw [List.append_assoc, hkk, ← downs_take mm dd j hjn, ← hkk] at hsn
      have hlen9 := rowAt_len ns lower ab (procs lower.length i ++ (downs mm dd).take j)
      have hsub9 := fun x => rowAt_sub ns lower ab (procs lower.length i ++ (downs mm dd).take j) (x := x)
      have hlt9 := rowAt_lt ns lower ab (procs lower.length i ++ (downs mm dd).take j) hlow habn hl1
      have hpl9 : (procs lower.length i ++ (downs mm dd).take j).length ≤ 20 := by
        rw [hmm, hdd]; exact procs_take_len _ _ _ hin hl20
      obtain ⟨row6, q6, e6⟩ : ∃ a b, rowAt ns lower ab (procs lower.length i ++ (downs mm dd).take j) = (a, b) := ⟨_, _, rfl⟩
      rw [e6] at hw6 at8 al8 hsn hlen9 hsub9 hlt9
      dsimp only at hw6 at8 al8 hlen9 hsub9 hlt9
      refine wpAny_of_eq (a := ()) rfl ?_
      refine wpAny_assign_Name ?_
      k_steps
      · rename_i hka t1
        rename Fr _ _ _ _ => F9
        rename News _ _ _ _ => N9
        rw [Int.toNat_natCast, getD_ofNat]
        rw [List.length_map] at hka
        have hka' : kk < ab.length := by omega
        have hmem : ab.getD kk 0 ∈ row6 := hsub9 _ (getD_mem hka')
        refine Halt.mk ?_
        refine' kf_index (k := ((ab.getD kk 0 : Nat) : Int)) (j := row6.idxOf (ab.getD kk 0)) (i := ((row6.idxOf (ab.getD kk 0) : Nat) : Int)) N9 ?mm ?ii ?ee rfl ?zz ?_
        case mm => k_mem
        case ii => exact ints_kf hw6
        case ee => exact kfAt_idx hw6 hmem
        case zz =>
          have : vrow6.length = row6.length := by rw [hw6.length, List.length_map]
          have h1 : (100 : Nat) ≤ sizeLine := by decide
          rw [List.toList_toArray]; omega
        k_steps
        rename Fr _ _ _ _ => F10
        rename News _ _ _ _ => N10
        rw [fmod2, Int.toNat_natCast, getD_ofNat]
        have at10 := al8.back F10 N10 (fun p hp => .tail _ (.tail _ (.tail _ (.tail _ (.tail _ (.tail _ (.tail _ (.tail _ hp))))))))
        have hB10 : b0.StaysIn _ := fun x o e => F10.keep x o (stays_hide hB hWn x o e)
        have hN10 := isList_keep hNs (Keep.of_frame (W := [pA, 41]) F10) (notin2 hneN hN41)
        have hho : highOf ab row6 kk = some (row6.idxOf (ab.getD kk 0)) := if_pos hka'
        have hhl : (Option.getD (some (row6.idxOf (ab.getD kk 0)) : Option Nat) row6.length) ≤ row6.length := Nat.le_of_lt (List.idxOf_lt_length_of_mem hmem)
        have hasz : (qs ++ q6).length < 800 := by
          obtain ⟨es, he⟩ := procs_pre lower.length i hin
          have m1 := rowAt_mono ns lower ab (procs lower.length i ++ (downs mm dd).take j) ((downs mm dd).drop j ++ es)
          have m2 : procs lower.length i ++ (downs mm dd).take j ++ ((downs mm dd).drop j ++ es) = ksOf lower.length := by
            rw [he, ← hmm, ← hdd, ← List.append_assoc, List.append_assoc (procs lower.length i), List.take_append_drop]
          rw [m2, e6] at m1
          dsimp only at m1
          rw [List.length_append]; omega
        refine Halt.mk ?_
        refine place_spec (vs := vrow6) (row := row6) (ns := ns) (high := some (row6.idxOf (ab.getD kk 0))) (qs := qs ++ q6) X0 T0 C0 hB10 hp h41 hp41 ⟨its6, n6, N10.get (by k_mem), at10.1⟩ (Tab.mk (N10.get (a := 41) (o := tabObj ps6) (by k_mem)) at10.2) ⟨_, N10.get (a := Dr) (by k_mem), rfl, _, rfl⟩
          hw6 hN10 hNIs zDr hneN hlt9 (hlow _ (getD_mem hkl)) ⟨_, rfl⟩ hhl (by omega) hszn hasz (by show dp + 1 + 6 < _; omega) (by show un + 3 + 40 < _; omega) (fun h11 tk11 tp11 K11 A11 T11 => ?_)
        obtain ⟨its11, n11, gA11, R11⟩ := A11
        obtain ⟨ps11, gP11, C11⟩ := T11.open
        have K11' : Keep [pA, 41] _ h11 := K11
        obtain ⟨F12, N12o⟩ := after_keepW [(I5, rIt ((mm : Int) - 1 + ((j + 1 : Nat) : Int) * (-1)) (((mm - dd : Nat) : Int) - ((j + 1 : Nat) : Int)) (-1)), (I, oJ), (tp, { cls := .type "tuple", data := .seq #[.int 3 tA, .int 5 (tA + 1)] }), (Dr, listOf vrow6.toArray nrow6), (Dl, listOf vlow.toArray nl), (r, listOf vr.toArray nr), (pA, listOf its11 n11), (41, tabObj ps11)] F10 N10 K11' (by
          intro a ha
          rcases List.mem_cons.mp ha with rfl | ha
          · exact ⟨listOf its6 n6, by k_mem⟩
          · cases ha with | head => exact ⟨tabObj ps6, by k_mem⟩ | tail _ h => cases h) (by
          refine List.forall_mem_cons.mpr ⟨?_, List.forall_mem_cons.mpr ⟨?_, List.forall_mem_cons.mpr ⟨?_, List.forall_mem_cons.mpr ⟨?_, List.forall_mem_cons.mpr ⟨?_, List.forall_mem_cons.mpr ⟨?_, List.forall_mem_cons.mpr ⟨?_, List.forall_mem_cons.mpr ⟨?_, fun _ h => nomatch h⟩⟩⟩⟩⟩⟩⟩⟩
          · exact .inl ⟨by k_mem, notin2 (Nat.ne_of_gt zpI) (Nat.ne_of_gt z4I)⟩
          · exact .inl ⟨by k_mem, notin2 (Nat.ne_of_gt hpI) (Nat.ne_of_gt h4I)⟩
          · exact .inl ⟨by k_mem, notin2 (Nat.ne_of_gt l1.2.2.2.1) (Nat.ne_of_gt l1.2.2.2.2.1)⟩
          · exact .inl ⟨by k_mem, notin2 zDr (Nat.ne_of_gt z4Dr)⟩
          · exact .inl ⟨by k_mem, notin2 (Nat.ne_of_gt (Nat.lt_trans zpr hrl)) (Nat.ne_of_gt (Nat.lt_trans z4r hrl))⟩
          · exact .inl ⟨by k_mem, notin2 (Nat.ne_of_gt zpr) (Nat.ne_of_gt z4r)⟩
          · exact .inr ⟨.head _, gA11⟩
          · exact .inr ⟨.tail _ (.head _), gP11⟩)
        obtain ⟨T12, N12, hT12, al12⟩ := adopt2 F12 N12o (by k_mem) (by k_mem) ⟨R11, C11⟩
        simp only [List.cons_append, List.nil_append] at N12
        have hTr : ∀ p ∈ T12, p.1 ≠ Dr := side_off hT12 N12 (fun p hp => .tail _ (.tail _ (.tail _ (.tail _ (.tail _ (.tail _ (.tail _ (.tail _ hp)))))))) (.tail _ (.tail _ (.tail _ (.head _)))) (list_notSide hw6 _)
        clear F10 N10 N12o at10 K11' K11
        have hpl := place_le (fun k => ns.getD k 0) (lower.getD kk 0) (kk % 2 == 0) row6 (some (row6.idxOf (ab.getD kk 0))) hhl
        k_steps
        rename_i t14
        rename Fr _ _ _ _ => F13
        rename News _ _ _ _ => N13
        rw [Int.toNat_natCast, getD_ofNat]
        refine Halt.mk ?_
        refine' kl_insert (its := vrow6.toArray) (n := nrow6) (l := kl_ins vrow6 _ _) F13 N13 ?f13 rfl ?U13 ?z13 ?_
        case f13 => exact fits_small _ (by omega)
        case U13 => k_upd
        case z13 =>
          have : vrow6.length = row6.length := by rw [hw6.length, List.length_map]
          have h1 : (100 : Nat) ≤ sizeLine := by decide
          rw [List.toList_toArray]; omega
        intro h14 F14 N14
        k_steps
        rename Fr _ _ _ _ => F15
        rename News _ _ _ _ => N15
        refine Halt.mk ⟨_, _, its11, ps11, n11, kl_ins vrow6 ((place (fun k => ns.getD k 0) (lower.getD kk 0) (kk % 2 == 0) row6 (some (row6.idxOf (ab.getD kk 0)))).2 : Nat) (.int (lower.getD kk 0 : Nat) t14), nrow6 + 1, _, _, rfl, Fr_high F15, ?_, ?_, ?_⟩
        · intro p hp
          refine N15 p ?_
          simp only [List.mem_cons, List.not_mem_nil, or_false] at hp
          rcases hp with rfl | rfl | rfl | rfl | rfl | rfl | rfl | rfl <;> k_mem
        · rw [hsn]
          show IntsAre _ ((insertAt row6 (place (fun k => ns.getD k 0) (lower.getD kk 0) (kk % 2 == 0) row6 (highOf ab row6 kk)).2 (lower.getD kk 0)).map Int.ofNat)
          rw [hho]
          exact ints_ins hw6 _ _ _
        · rw [hsn]
          show AT _ _ _ _ (qs ++ (q6 ++ (place (fun k => ns.getD k 0) (lower.getD kk 0) (kk % 2 == 0) row6 (highOf ab row6 kk)).1))
          rw [hho, ← List.append_assoc]
          exact al12.back F15 N15 (fun p hp => .tail _ (.tail _ (.tail _ (.tail _ (.tail _ (.tail _ (.tail _ (.tail _ hp))))))))
      · rename_i hka _ F9 N9 _
        rw [List.length_map] at hka
        have hka' : ¬ kk < ab.length := by omega
        rename Fr _ _ _ _ => F10
        rename News _ _ _ _ => N10
        rw [fmod2, Int.toNat_natCast, getD_ofNat]
        have at10 := al8.back F10 N10 (fun p hp => .tail _ (.tail _ (.tail _ (.tail _ (.tail _ (.tail _ (.tail _ (.tail _ hp))))))))
        have hB10 : b0.StaysIn _ := fun x o e => F10.keep x o (stays_hide hB hWn x o e)
        have hN10 := isList_keep hNs (Keep.of_frame (W := [pA, 41]) F10) (notin2 hneN hN41)
        have hho : highOf ab row6 kk = none := if_neg hka'
        have hhl : (Option.getD (none : Option Nat) row6.length) ≤ row6.length := Nat.le_refl _
        have hasz : (qs ++ q6).length < 800 := by
          obtain ⟨es, he⟩ := procs_pre lower.length i hin
          have m1 := rowAt_mono ns lower ab (procs lower.length i ++ (downs mm dd).take j) ((downs mm dd).drop j ++ es)
          have m2 : procs lower.length i ++ (downs mm dd).take j ++ ((downs mm dd).drop j ++ es) = ksOf lower.length := by
            rw [he, ← hmm, ← hdd, ← List.append_assoc, List.append_assoc (procs lower.length i), List.take_append_drop]
          rw [m2, e6] at m1
          dsimp only at m1
          rw [List.length_append]; omega
        refine Halt.mk ?_
        refine place_spec (vs := vrow6) (row := row6) (ns := ns) (high := none) (qs := qs ++ q6) X0 T0 C0 hB10 hp h41 hp41 ⟨its6, n6, N10.get (by k_mem), at10.1⟩ (Tab.mk (N10.get (a := 41) (o := tabObj ps6) (by k_mem)) at10.2) ⟨_, N10.get (a := Dr) (by k_mem), rfl, _, rfl⟩
          hw6 hN10 hNIs zDr hneN hlt9 (hlow _ (getD_mem hkl)) rfl hhl (by omega) hszn hasz (by show dp + 1 + 6 < _; omega) (by show un + 3 + 40 < _; omega) (fun h11 tk11 tp11 K11 A11 T11 => ?_)
        obtain ⟨its11, n11, gA11, R11⟩ := A11
        obtain ⟨ps11, gP11, C11⟩ := T11.open
        have K11' : Keep [pA, 41] _ h11 := K11
        obtain ⟨F12, N12o⟩ := after_keepW [(I5, rIt ((mm : Int) - 1 + ((j + 1 : Nat) : Int) * (-1)) (((mm - dd : Nat) : Int) - ((j + 1 : Nat) : Int)) (-1)), (I, oJ), (tp, { cls := .type "tuple", data := .seq #[.int 3 tA, .int 5 (tA + 1)] }), (Dr, listOf vrow6.toArray nrow6), (Dl, listOf vlow.toArray nl), (r, listOf vr.toArray nr), (pA, listOf its11 n11), (41, tabObj ps11)] F10 N10 K11' (by
          intro a ha
          rcases List.mem_cons.mp ha with rfl | ha
          · exact ⟨listOf its6 n6, by k_mem⟩
          · cases ha with | head => exact ⟨tabObj ps6, by k_mem⟩ | tail _ h => cases h) (by
          refine List.forall_mem_cons.mpr ⟨?_, List.forall_mem_cons.mpr ⟨?_, List.forall_mem_cons.mpr ⟨?_, List.forall_mem_cons.mpr ⟨?_, List.forall_mem_cons.mpr ⟨?_, List.forall_mem_cons.mpr ⟨?_, List.forall_mem_cons.mpr ⟨?_, List.forall_mem_cons.mpr ⟨?_, fun _ h => nomatch h⟩⟩⟩⟩⟩⟩⟩⟩
          · exact .inl ⟨by k_mem, notin2 (Nat.ne_of_gt zpI) (Nat.ne_of_gt z4I)⟩
          · exact .inl ⟨by k_mem, notin2 (Nat.ne_of_gt hpI) (Nat.ne_of_gt h4I)⟩
          · exact .inl ⟨by k_mem, notin2 (Nat.ne_of_gt l1.2.2.2.1) (Nat.ne_of_gt l1.2.2.2.2.1)⟩
          · exact .inl ⟨by k_mem, notin2 zDr (Nat.ne_of_gt z4Dr)⟩
          · exact .inl ⟨by k_mem, notin2 (Nat.ne_of_gt (Nat.lt_trans zpr hrl)) (Nat.ne_of_gt (Nat.lt_trans z4r hrl))⟩
          · exact .inl ⟨by k_mem, notin2 (Nat.ne_of_gt zpr) (Nat.ne_of_gt z4r)⟩
          · exact .inr ⟨.head _, gA11⟩
          · exact .inr ⟨.tail _ (.head _), gP11⟩)
        obtain ⟨T12, N12, hT12, al12⟩ := adopt2 F12 N12o (by k_mem) (by k_mem) ⟨R11, C11⟩
        simp only [List.cons_append, List.nil_append] at N12
        have hTr : ∀ p ∈ T12, p.1 ≠ Dr := side_off hT12 N12 (fun p hp => .tail _ (.tail _ (.tail _ (.tail _ (.tail _ (.tail _ (.tail _ (.tail _ hp)))))))) (.tail _ (.tail _ (.tail _ (.head _)))) (list_notSide hw6 _)
        clear F10 N10 N12o at10 K11' K11
        have hpl := place_le (fun k => ns.getD k 0) (lower.getD kk 0) (kk % 2 == 0) row6 (none) hhl
        k_steps
        rename_i t14
        rename Fr _ _ _ _ => F13
        rename News _ _ _ _ => N13
        rw [Int.toNat_natCast, getD_ofNat]
        refine Halt.mk ?_
        refine' kl_insert (its := vrow6.toArray) (n := nrow6) (l := kl_ins vrow6 _ _) F13 N13 ?f13 rfl ?U13 ?z13 ?_
        case f13 => exact fits_small _ (by omega)
        case U13 => k_upd
        case z13 =>
          have : vrow6.length = row6.length := by rw [hw6.length, List.length_map]
          have h1 : (100 : Nat) ≤ sizeLine := by decide
          rw [List.toList_toArray]; omega
        intro h14 F14 N14
        k_steps
        rename Fr _ _ _ _ => F15
        rename News _ _ _ _ => N15
        refine Halt.mk ⟨_, _, its11, ps11, n11, kl_ins vrow6 ((place (fun k => ns.getD k 0) (lower.getD kk 0) (kk % 2 == 0) row6 (none)).2 : Nat) (.int (lower.getD kk 0 : Nat) t14), nrow6 + 1, _, _, rfl, Fr_high F15, ?_, ?_, ?_⟩
        · intro p hp
          refine N15 p ?_
          simp only [List.mem_cons, List.not_mem_nil, or_false] at hp
          rcases hp with rfl | rfl | rfl | rfl | rfl | rfl | rfl | rfl <;> k_mem
        · rw [hsn]
          show IntsAre _ ((insertAt row6 (place (fun k => ns.getD k 0) (lower.getD kk 0) (kk % 2 == 0) row6 (highOf ab row6 kk)).2 (lower.getD kk 0)).map Int.ofNat)
          rw [hho]
          exact ints_ins hw6 _ _ _
        · rw [hsn]
          show AT _ _ _ _ (qs ++ (q6 ++ (place (fun k => ns.getD k 0) (lower.getD kk 0) (kk % 2 == 0) row6 (highOf ab row6 kk)).1))
          rw [hho, ← List.append_assoc]
          exact al12.back F15 N15 (fun p hp => .tail _ (.tail _ (.tail _ (.tail _ (.tail _ (.tail _ (.tail _ (.tail _ hp))))))))
end
end Mine
end
section
open PySem PySem.W PySem.Calls PyProof.Rows PySem.Spec
set_option maxRecDepth 100000
namespace Mine
theorem walk_off_B11 : True := by
  w_top off
  trivial
local macro_rules | `(tactic| walk_at "pad 0") => `(tactic| fail)
local macro_rules | `(tactic| walk_at "pad 1") => `(tactic| fail)
local macro_rules | `(tactic| walk_at "pad 2") => `(tactic| fail)
def dOf (u : List (Nat × Nat)) : List (PyData × PyData) := u.map fun p => (PyData.int (p.1 : Int), PyData.int (p.2 : Int))
def cOf (u : List (Nat × Nat)) : List (Int × Int) := u.map fun p => ((p.1 : Int), (p.2 : Int))
theorem dOf_eq (u : List (Nat × Nat)) : dOf u = kdfD (cOf u) := by simp [dOf, kdfD, cOf]
theorem cOf_keys (u : List (Nat × Nat)) : (cOf u).map (·.1) = (u.map (·.1)).map Int.ofNat := by simp [cOf]
theorem kdfLook_look (u : List (Nat × Nat)) (x : Nat) : kdfLook (cOf u) (x : Int) 0 = ((look u x : Nat) : Int) := by
  unfold kdfLook look cOf
  induction u with
  | nil => rfl
  | cons q r ih =>
    simp only [List.map_cons, List.find?_cons]
    by_cases e : q.1 = x
    · have h1 : decide (((q.1 : Nat) : Int) = (x : Int)) = true := by simp [e]
      have h2 : (q.1 == x) = true := by simp [e]
      rw [h1, h2]
      rfl
    · have h1 : decide (((q.1 : Nat) : Int) = (x : Int)) = false := by simp; omega
      have h2 : (q.1 == x) = false := by simp [e]
      rw [h1, h2]
      exact ih
theorem kdfHas_cOf {u : List (Nat × Nat)} {x : Nat} (h : x ∈ u.map (·.1)) : kdfHas (cOf u) (x : Int) = true := by
  unfold kdfHas cOf
  rw [List.any_eq_true]
  obtain ⟨q, hq, rfl⟩ := List.mem_map.mp h
  exact ⟨_, List.mem_map.mpr ⟨q, hq, rfl⟩, by simp⟩
section
variable {w : World} {b0 : Heap} {p : Program} {loose : List Str} {mean : ExcName → Option Value} {mg mb : Str → Option Value}
theorem dict_notSide {o : Obj} {kvs : List (Int × Value)} (h : Obj.IsDictOf (intKind PG w) o kvs) : ¬ Side o := by
  rintro (⟨q, t1, t2, n, rfl⟩ | ⟨vs, e⟩)
  · obtain ⟨es, ep, h1, h2, _⟩ := h
    simp at h2
  · obtain ⟨es, ep, h1, h2, _⟩ := h
    rw [e] at h2; cases h2
local macro_rules | `(tactic| k_all) => `(tactic| assumption)
local macro_rules | `(tactic| walk_at "call ref") => `(tactic| refine Halt.out ?_)
local macro_rules | `(tactic| walk_at "pyIter ref") => `(tactic| refine Halt.out ?_)
local macro_rules | `(tactic| walk_at "exec For Name Call cons nil") => `(tactic| refine Halt.out ?_)
local macro_rules | `(tactic| walk_at "exec For Name Tuple cons nil") => `(tactic| refine Halt.out ?_)
local macro_rules | `(tactic| walk_at "call builtin:len") => `(tactic| ((with_reducible show wpAny _ _ (call (Value.builtin "len") [Value.ref _]) _ _ _); (rename IntTab _ _ _ _ _ => itX); refine Halt.out ?_))
local macro_rules | `(tactic| walk_at "subscriptTail Name Slice ref ref") => `(tactic| refine Halt.out ?_)
local macro_rules | `(tactic| walk_at "eval ListComp") => `(tactic| refine Halt.out ?_)
local macro_rules | `(tactic| walk_at "execs cons") => `(tactic| ((with_reducible show wpAny _ _ (execs (Stmt.For _ (Expr.Tuple _ _ _) _ _ _ :: _) _) _ _ _); refine Halt.out ?_))
theorem Fr_three {g h : Heap} {L pT pN pA r : Addr} {v1 v2 v3 : Value} {uk u2 u3 : Option Value}
    (F : Fr g L h (fun y => if y = Str.ofString "done" then some v1 else if y = Str.ofString "row" then some v2 else if y = Str.ofString "lower" then some v3 else rmap pT pN pA r none none none none uk none u2 u3 y)) :
    Fr g L h (rmap pT pN pA r (some v3) (some v2) (some v1) none uk none u2 u3) := by
  refine Fr_congr F fun y => ?_
  by_cases e1 : y = Str.ofString "done"; · (subst e1; rfl)
  by_cases e2 : y = Str.ofString "row"; · (subst e2; rfl)
  by_cases e3 : y = Str.ofString "lower"; · (subst e3; rfl)
  simp only [rmap, if_neg e1, if_neg e2, if_neg e3]
set_option maxHeartbeats 4000000 in
theorem row_rest {dp un : Nat} {fr : Option (List Env)} {gd : Option (List Code)} {s : Shared} {Q : Value → Shared → Prop} {pA pT pN L d r : Addr} {vt vn vr : List Value} {things ab : List Nat} {u : List (Nat × Nat)} {ns : List Int} {qs : List Q3}
    {od3 od : Obj} {kvs : List (Int × Value)} {u1 u2 u3 : Option Value} {its ps : Array Value} {n nr : Nat} {h : Heap} {tk : Nat}
    {name qual : Str} {params : Arguments} {body : List Stmt} {scope : Scope} {dV kV doc pm cdv ct oc : Value} {an ond : Option Addr} {osl : Array (Option Value)}
    (ho : (hd.heap_39 w.params).lookup 51 = some ⟨oc, ond, .func (fnOf name qual params body scope dV kV doc pm an cdv ct), osl⟩)
    (X0 : (hd.heap_39 w.params).In b0) (T0 : Top p loose mean mg mb b0) (C0 : CodeHd b0 45 41) (h41 : b0.get? 41 = none) (hB : b0.StaysIn s.heap) (hp : b0.get? pA = none) (hp41 : pA ≠ 41)
    (hT : s.heap.IsList pT vt.toArray) (hTI : IntsAre vt (things.map Int.ofNat)) (hN : s.heap.IsList pN vn.toArray) (hNI : IntsAre vn ns) (hneT : pT ≠ pA) (hneN : pN ≠ pA) (hT41 : pT ≠ 41) (hN41 : pN ≠ 41)
    (hlt : ∀ o ∈ things, o < ns.length) (hlen20 : things.length ≤ 20) (hge : ¬ things.length < 2) (hszn : ns.length < 100)
    (hu : u = (pairUp (fun k => ns.getD k 0) things).1) (hab : ∀ x ∈ ab, x ∈ u.map (·.1)) (habl : ab.length = u.length)
    (hsa : qs.length + ((ksOf (lowerOf (fun k => ns.getD k 0) things ab).length).foldl (insStep (fun k => ns.getD k 0) ab (lowerOf (fun k => ns.getD k 0) things ab)) ((lowerOf (fun k => ns.getD k 0) things ab).getD 0 0 :: ab, [])).2.length < 700)
    (hroom : dp + 10 < recursionLimit) (hun : un + 60 < cLine)
    (hpAL : @LT.lt Nat _ pA L) (h41L : @LT.lt Nat _ 41 L) (hdL : @LT.lt Nat _ (L + 1) d) (hrd : @LT.lt Nat _ d r) (lo0 : (d == sysModules) = false)
    (F : Fr (hideAll s.heap [pA, 41]) L h (rmap pT pN pA r none none none none u1 none u2 u3))
    (N : News (hideAll s.heap [pA, 41]) L h [(r, listOf vr.toArray nr), (d, od3), (L + 1, od), (pA, listOf its n), (41, tabObj ps)])
    (dd : od.data = .cell (some (.ref d))) (hd3 : od3.IsDictOf (intKind PG w) kvs) (hf3 : PyProof.V.FlatPairs PyData.int kvs (dOf u)) (hrI : IntsAre vr (ab.map Int.ofNat)) (hat : AT h pA its ps qs)
    (hq : ∀ r h' tk vr nr, Keep [pA, 41] s.heap h' → @LT.lt Nat _ L r → h'.get? r = some (listOf vr.toArray nr) →
      IntsAre vr (((ksOf (lowerOf (fun k => ns.getD k 0) things ab).length).foldl (insStep (fun k => ns.getD k 0) ab (lowerOf (fun k => ns.getD k 0) things ab)) ((lowerOf (fun k => ns.getD k 0) things ab).getD 0 0 :: ab, [])).1.map Int.ofNat) →
      AskedIs h' pA (qs ++ ((ksOf (lowerOf (fun k => ns.getD k 0) things ab).length).foldl (insStep (fun k => ns.getD k 0) ab (lowerOf (fun k => ns.getD k 0) things ab)) ((lowerOf (fun k => ns.getD k 0) things ab).getD 0 0 :: ab, [])).2) → Tab h' → Q (.ref r) { s with heap := h', toks := tk }) :
    wpAny (model PG w) (Around.deeper { handled := none, depth := dp, frames := fr, guards := gd, units := un } (envOfC qual scope L 51 cdv)) (execs (body.drop 4) (envOfC qual scope L 51 cdv))
      (fun fl s' => Q (match fl with | .ret v => v | _ => .none) s') (fun _ _ => False) { s with heap := h, toks := tk } := by
  have hWn : ∀ a ∈ ([pA, 41] : List Addr), b0.get? a = none := by
    intro a ha
    rcases List.mem_cons.mp ha with rfl | ha
    · exact hp
    · cases ha with | head => exact h41 | tail _ h => cases h
  have X := X0.keeps (stays_hide hB hWn)
  have T := T0.keeps (stays_hide hB hWn)
  have hNs : Halt (s.heap.IsList pN vn.toArray) := hN
  have hTs : Halt (s.heap.IsList pT vt.toArray) := hT
  have hNIs : Halt (IntsAre vn ns) := hNI
  have hTIs : Halt (IntsAre vt (things.map Int.ofNat)) := hTI
  have hTb := isList_hide hT (W := [pA, 41]) (notin2 hneT hT41)
  have hNb := isList_hide hN (W := [pA, 41]) (notin2 hneN hN41)
  refine' elimE ho ?h2 ?k
  case h2 => k_is
  intro e
  cases e
  dsimp only [List.drop]
  show wpAny _ _ _ _ _ _
  k_fold
  k_steps
  refine Halt.mk ?_
  refine' comp_list (cl := [(Str.ofString "under", L + 1)]) (fun _ => true) (fun v y => ∃ k t t', v = Value.int k t ∧ y = Value.int (kdfLook (cOf u) k 0) t') rfl ?clos ?cell ?kind ?names ?x ?_
  case clos => rfl
  case cell => decide
  case kind => rfl
  case names => decide
  case x => rfl
  k_steps
  have hcell : h.IsCell (L + 1) (some (.ref d)) := ⟨od, N.get (by k_mem), dd⟩
  have hIT : IntTab PG w h d (kdfD (cOf u)) := ⟨lo0, kvs, Heap.dictOf_iff.mpr ⟨od3, N.get (by k_mem), hd3⟩, dOf_eq _ ▸ hf3⟩
  have hvl : vr.length = ab.length := by rw [hrI.length, List.length_map]
  have hul : u.length = things.length / 2 := by rw [hu, pairUp_len]
  refine ⟨r, vr.toArray, rfl, ⟨_, N.get (.head _), rfl, _, rfl⟩, ?_, fun _ v _ _ _ _ _ _ _ _ => noTests (v := v), ?_, ?_⟩
  · have : (20 : Nat) ≤ sizeLine := by decide
    simp only [List.size_toArray]
    omega
  · intro C v s₃ m₃ E' hC hv _ hn hm hk
    obtain ⟨k, t, rfl, hk2⟩ := ints_mem hrI (by simpa using hv)
    obtain ⟨x, hx, rfl⟩ := List.mem_map.mp hk2
    refine Subscript_ (wpAny_Name (wpAny_loadName_cell rfl rfl rfl (hcell.keeps hk) (wpAny_Name (wpAny_loadName_local rfl rfl hn hm ?_))))
    refine kdf_item (let ⟨a1, kv, b1, c1⟩ := hIT; ⟨a1, kv, b1.keep hk, c1⟩) (kdfHas_cOf (hab x hx)) (fun t2 => ⟨⟨_, _, _, rfl, rfl⟩, s₃.heap, _, rfl, fun _ _ e => e⟩)
  intro D h2 tk2 ys n2 hD hD2 hpair hk2
  obtain ⟨yl, rfl⟩ : ∃ yl : List Value, ys = yl.toArray := ⟨ys.toList, by simp⟩
  have hyI : IntsAre yl ((ab.map (look u)).map Int.ofNat) := by
    have hp2 : Paired (fun v y => ∃ k t t', v = Value.int k t ∧ y = Value.int (kdfLook (cOf u) k 0) t') vr yl := by
      rw [List.filter_eq_self.mpr (fun _ _ => rfl)] at hpair
      exact hpair
    have := paired_ints hrI hp2
    rw [List.map_map] at this
    rw [show (List.map Int.ofNat (List.map (look u) ab)) = ab.map ((fun k => kdfLook (cOf u) k 0) ∘ Int.ofNat) from ?_]
    · exact this
    · rw [List.map_map]
      apply List.map_congr_left
      intro x _
      exact (kdfLook_look u x).symm
  obtain ⟨F2, N2⟩ := news_new F N hD hD2 hk2
  have hat2 : AT h2 pA its ps qs := ⟨hat.1.keep (fun b o _ e => hk2 b o e), hat.2.1, fun q hq => (hat.2.2 q hq).imp id fun ⟨c', a, b, c⟩ => ⟨c', a, b, c.keeps hk2⟩⟩
  obtain ⟨T2, N2, hT2, al2⟩ := adopt2 F2 N2 (by k_mem) (by k_mem) hat2
  simp only [List.cons_append, List.nil_append] at N2
  have hf4 := hf3
  rw [dOf_eq] at hf4
  clear F N
  k_steps
  have hul2 : (cOf u).length = u.length := by simp [cOf]
  refine Halt.mk ?_
  refine kdf_len (c := cOf u) ⟨lo0, kvs, Heap.dictOf_iff.mpr ⟨od3, N2.get (by k_mem), hd3⟩, hf4⟩ (by rw [hul2]; omega) ?_
  rw [hul2]
  rename IntTab _ _ _ _ _ => hIT2
  clear hIT2
  k_steps
  rename Fr _ _ _ _ => F3
  rename News _ _ _ _ => N3
  refine Halt.mk ?_
  refine' kmk_slice_ints F3 N3 ?zl ?zp ?zq hTIs ?zm ?zc ?_ ?zs ?zt ?zz
  case zl => exact isList_keep hTs (Keep.of_frame (W := [pA, 41]) F3) (notin2 hneT hT41)
  case zp => exact IsPart.int _ _
  case zq => exact IsPart.none
  case zm => exact kmk_from hTIs (by omega)
  case zc => exact rfl
  case zs => with_unfolding_all rfl
  case zt => intro _; with_unfolding_all rfl
  case zz =>
    have e1 : vt.length = things.length := by rw [(hTIs : IntsAre vt (things.map Int.ofNat)).length, List.length_map]
    have : (20 : Nat) ≤ sizeLine := by decide
    rw [List.size_toArray]; omega
  intro D3 w3 h3 F4 N4 l3 hI3 _ _
  rw [show ((2 : Int) * (u.length : Int)).toNat = 2 * u.length by omega, ← List.map_drop] at hI3
  clear F3 N3
  k_steps
  rename_i Dl wl _ hIl lA _ _ _ _ _ lB Dr wr _ hIr lC _ _ FF NN
  subst hu
  have hml : ∀ x ∈ (pairUp (fun k => ns.getD k 0) things).1.map (·.1), x ∈ things := (pairUp_keys _ _).1
  have hll := lowerOf_len (num := fun k => ns.getD k 0) habl
  have hlm := lowerOf_mem (num := fun k => ns.getD k 0) hab
  rw [← List.map_append] at hIl hIr
  have hIl' : IntsAre wl ((lowerOf (fun k => ns.getD k 0) things ab).map Int.ofNat) := hIl
  have hIr' : IntsAre wr (((lowerOf (fun k => ns.getD k 0) things ab).getD 0 0 :: ab).map Int.ofNat) := by
    rw [getD_ofNat] at hIr; exact hIr
  have at9 := al2.back FF NN (fun p hp => .tail _ (.tail _ (.tail _ (.tail _ (.tail _ (.tail _ (.tail _ (.tail _ (.tail _ (.tail _ hp))))))))))
  refine Halt.mk ?_
  refine row_loop (s := s) (Q := Q) (n := n) (nr := nr) (nl := 0) (nrow := 0) (lower := lowerOf (fun k => ns.getD k 0) things ab) (ab := ab) (vrow := wr) (vlow := wl) (vr := vr) (its := its) (ps := ps) (qs := qs) ho X0 T0 C0 h41 hB hp hp41 hNs hNIs hneN hN41 (fun o ho => hlt o (hlm o ho)) (fun o ho => hlt o (hml o (hab o ho))) (by omega) (by omega) (by omega) hszn hsa hroom hun hpAL h41L
    (Nat.lt_trans (Nat.lt_succ_self L) (Nat.lt_trans hdL hrd)) lA.2.2.1 lC.2.1 (Fr_three FF) ?_ hrI hIl' hIr' at9 hq
  intro p hp
  refine NN p ?_
  simp only [List.mem_cons, List.not_mem_nil, or_false] at hp
  rcases hp with rfl | rfl | rfl | rfl | rfl <;> k_mem
end
end Mine
end
section
open PySem PySem.W PySem.Calls PyProof.Rows PySem.Spec
set_option maxRecDepth 100000
namespace Mine
theorem walk_off_B10 : True := by
  w_top off
  trivial
local macro_rules | `(tactic| walk_at "pad 0") => `(tactic| fail)
local macro_rules | `(tactic| walk_at "pad 1") => `(tactic| fail)
local macro_rules | `(tactic| walk_at "pad 2") => `(tactic| fail)
local macro_rules | `(tactic| walk_at "pad 3") => `(tactic| fail)
local macro_rules | `(tactic| walk_at "pad 4") => `(tactic| fail)
local macro_rules | `(tactic| walk_at "pad 5") => `(tactic| fail)
section
variable {w : World} {b0 : Heap} {p : Program} {loose : List Str} {mean : ExcName → Option Value} {mg mb : Str → Option Value}
local macro_rules | `(tactic| k_all) => `(tactic| assumption)
local macro_rules | `(tactic| walk_at "call ref") => `(tactic| refine Halt.out ?_)
local macro_rules | `(tactic| walk_at "pyIter ref") => `(tactic| refine Halt.out ?_)
local macro_rules | `(tactic| walk_at "exec For Name Call cons nil") => `(tactic| refine Halt.out ?_)
local macro_rules | `(tactic| walk_at "exec For Name Tuple cons nil") => `(tactic| refine Halt.out ?_)
local macro_rules | `(tactic| walk_at "eval ListComp") => `(tactic| refine Halt.out ?_)
theorem putD_dOf {u : List (Nat × Nat)} {k v : Nat} (h : ∀ p ∈ u, p.1 ≠ k) : PyProof.V.putD (.int (k : Int)) (.int (v : Int)) (dOf u) = dOf (u ++ [(k, v)]) := by
  unfold PyProof.V.putD
  have : (dOf u).any (fun p => PySem.Spec.same p.1 (.int (k : Int))) = false := by
    rw [List.any_eq_false]
    intro p hp
    obtain ⟨q, hq, rfl⟩ := List.mem_map.mp hp
    rw [PyProof.V.same_int]
    have := h q hq
    simp; omega
  rw [this]
  simp [dOf]
theorem range2_small (q : Nat) (h : q ≤ 20) : Builtin.Range.small 1 (q : Int) 2 = true := by
  have : ∀ q : Nat, q < 21 → Builtin.Range.small 1 (q : Int) 2 = true := by decide
  exact this q (by omega)
theorem range2_size (q : Nat) (h : q ≤ 20) : Builtin.Range.rangeSize 1 (q : Int) 2 = (q / 2 : Nat) := by
  have : ∀ q : Nat, q < 21 → Builtin.Range.rangeSize 1 (q : Int) 2 = (q / 2 : Nat) := by decide
  exact this q (by omega)
def pmap (pT pN pA : Addr) (u1 u2 u3 : Option Value) : Str → Option Value := fun y =>
  if y = Str.ofString "k" then u1 else if y = Str.ofString "one" then u2 else if y = Str.ofString "other" then u3 else
  if y = Str.ofString "things" then some (.ref pT) else if y = Str.ofString "numbers" then some (.ref pN) else if y = Str.ofString "asked" then some (.ref pA) else none
theorem mp2 {P : Prop} {α : Type} {x : Option α} {v : α} (h : x = some v) (k : x = some v → P) : P := k h
theorem Fr_above {g h : Heap} {L pT pN pA r : Addr} {u1 u2 u3 : Option Value}
    (F : Fr g L h (fun y => if y = Str.ofString "above" then some (.ref r) else pmap pT pN pA u1 u2 u3 y)) :
    Fr g L h (rmap pT pN pA r none none none none u1 none u2 u3) := by
  refine Fr_congr F fun y => ?_
  by_cases e1 : y = Str.ofString "k"; · (subst e1; rfl)
  by_cases e2 : y = Str.ofString "high"; · (subst e2; rfl)
  by_cases e3 : y = Str.ofString "end"; · (subst e3; rfl)
  by_cases e4 : y = Str.ofString "done"; · (subst e4; rfl)
  by_cases e5 : y = Str.ofString "row"; · (subst e5; rfl)
  by_cases e6 : y = Str.ofString "lower"; · (subst e6; rfl)
  by_cases e7 : y = Str.ofString "above"; · (subst e7; rfl)
  simp only [rmap, pmap, if_neg e1, if_neg e2, if_neg e3, if_neg e4, if_neg e5, if_neg e6, if_neg e7]
def RowSpec (w : World) (b0 : Heap) (fuel : Nat) : Prop :=
  ∀ {A : Around} {s : Shared} {Q E : Value → Shared → Prop} {pA pT pN : Addr} {vt vn : List Value} {things : List Nat} {ns : List Int} {qs : List Q3},
    A.handled = none → b0.StaysIn s.heap → b0.get? pA = none → pA ≠ 41 →
    AskedIs s.heap pA qs → Tab s.heap → s.heap.IsList pT vt.toArray → IntsAre vt (things.map Int.ofNat) → s.heap.IsList pN vn.toArray → IntsAre vn ns →
    pT ≠ pA → pN ≠ pA → (∀ o ∈ things, o < ns.length) → things.Nodup → things.length ≤ fuel + 1 → things.length ≤ 10 → ns.length < 100 →
    qs.length + (rowF (fun k => ns.getD k 0) fuel things).2.length < 700 → A.depth + fuel + 10 < recursionLimit → A.units + 3 * fuel + 60 < cLine →
    (∀ r h' tk vr nr, Keep [pA, 41] s.heap h' → @LE.le Nat _ s.heap.objs.size r → h'.get? r = some (listOf vr.toArray nr) → IntsAre vr ((rowF (fun k => ns.getD k 0) fuel things).1.map Int.ofNat) →
      AskedIs h' pA (qs ++ (rowF (fun k => ns.getD k 0) fuel things).2) → Tab h' → Q (.ref r) { s with heap := h', toks := tk }) →
    wpAny (model PG w) A (call (.ref 51) [.ref pT, .ref pN, .ref pA]) Q E s
local macro_rules | `(tactic| walk_at "execs cons") => `(tactic| ((with_reducible show wpAny _ _ (execs (Stmt.Assign _ (Expr.BinOp (Expr.ListComp _ _ _ _) _ _ _) _ :: _) _) _ _ _); refine Halt.out ?_))
set_option maxHeartbeats 4000000 in
theorem row_step {fuel : Nat} (X0 : (hd.heap_39 w.params).In b0) (T0 : Top p loose mean mg mb b0) (C0 : CodeHd b0 45 41) (h41 : b0.get? 41 = none) (IH : ∀ f, fuel = f + 1 → RowSpec w b0 f) : RowSpec w b0 fuel := by
  intro A s Q E pA pT pN vt vn things ns qs hh hB hp hp41 hA hT41 hT hTI hN hNI hneT hneN hlt hnd hlen hlen20 hszn hsa hroom hu h
  obtain ⟨hdl, dp, fr, gd, un⟩ := A
  dsimp only at hh hroom hu
  subst hh
  obtain ⟨its, n, hA1, hA2⟩ := hA
  obtain ⟨ps, hP, hTr, hcodes⟩ := hT41
  refine' enterC [(pA, listOf its n), (41, tabObj ps)] X0 hB T0.nolimit ?ho ?hcd (by show dp < _; omega) ?hbind ?hloc ?hnd ?hW ?h ?c1 ?c2 ?c3
  case ho => k_is
  case hcd => k_is
  case hbind => exact BindsTo.of_eq rfl
  case hloc => exact rfl
  case hnd => decide +kernel
  case c1 => exact rfl
  case c2 => exact rfl
  case c3 => exact rfl
  case hW =>
    intro p hp
    rcases List.mem_cons.mp hp with rfl | hp
    · exact hA1
    · cases hp with | head => exact hP | tail _ h => cases h
  intro L h₁ tk0 cells hL F N Y
  have hWn : ∀ a ∈ ([(pA, listOf its n), (41, tabObj ps)] : List (Addr × Obj)).map (·.1), b0.get? a = none := by
    intro a ha
    rcases List.mem_cons.mp ha with rfl | ha
    · exact hp
    · cases ha with | head => exact h41 | tail _ h => cases h
  have X := X0.keeps (stays_hide hB hWn)
  have T := T0.keeps (stays_hide hB hWn)
  dsimp only [List.map] at *
  k_cells Y
  rename_i o1 d1
  replace d1 : o1.data = .cell none := d1
  have hpAL : @LT.lt Nat _ pA L := hL ▸ Heap.lt_size hA1
  have h41L : @LT.lt Nat _ 41 L := hL ▸ Heap.lt_size hP
  have hNs : Halt (s.heap.IsList pN vn.toArray) := hN
  have hN41 : pN ≠ 41 := isList_ne hN hP
  have hTs : Halt (s.heap.IsList pT vt.toArray) := hT
  have hT41' : pT ≠ 41 := isList_ne hT hP
  have hNIs : Halt (IntsAre vn ns) := hNI
  have hTIs : Halt (IntsAre vt (things.map Int.ofNat)) := hTI
  have hTb := isList_hide hT (W := [pA, 41]) (by simpa using ⟨hneT, isList_ne hT hP⟩)
  have hNb := isList_hide hN (W := [pA, 41]) (by simpa using ⟨hneN, isList_ne hN hP⟩)
  simp only [List.cons_append, List.nil_append] at N
  show wpAny _ _ _ _ _ _
  k_fold
  k_steps
  · rename_i hlt2 _ _ _ F1 N1 l1
    rw [List.length_map] at hlt2
    have hs2 : things.length < 2 := by omega
    have hrf : rowF (fun k => ns.getD k 0) fuel things = (things, []) := by
      cases fuel with
      | zero => rfl
      | succ f => rw [rowF, if_pos hs2]
    have KK : Keep [pA, 41] s.heap _ := Keep.of_frame (W := [pA, 41]) F1
    refine h _ _ _ vt _ KK (hL ▸ Nat.le_of_lt (Nat.lt_trans (Nat.lt_succ_self L) l1.1)) (N1.get (.head _)) (by rw [hrf]; exact hTIs) ?_ ?_
    · rw [hrf, List.append_nil]
      exact ⟨its, n, N1.get (by k_mem), trips_keep2 hA2 hP KK⟩
    · refine ⟨ps, N1.get (by k_mem), hTr, fun q hq => ?_⟩
      rcases hcodes q hq with z | ⟨c2, z1, z2, z3⟩
      · exact .inl z
      · exact .inr ⟨c2, z1, z2, codeRec_keep z3 KK (by simpa using ⟨codeRec_ne z3 hA1, z2⟩)⟩
  · rename_i hge d _ od0 lo0 hs0 fs0 hi0 fi0 lt0 h2 od F1 N1 dd
    clear hs0 fs0
    have e0 : (↑(List.map Int.ofNat things).length : Int) = (things.length : Int) := by simp
    rw [e0] at hge
    have hge' : ¬ things.length < 2 := by omega
    obtain ⟨f, rfl⟩ : ∃ f, fuel = f + 1 := ⟨fuel - 1, by omega⟩
    have hrow := rowF_step (fun k => ns.getD k 0) f things hge'
    have hpl2 : (pairUp (fun k => ns.getD k 0) things).2.length ≤ (rowF (fun k => ns.getD k 0) (f + 1) things).2.length := by
      rw [hrow]; simp only [List.length_append]; omega
    refine Halt.mk ?_
    refine wpAny_For ?_
    k_steps
    rename_i _ _ _ h3 tk3 _ _ _ hR F3 N3 _
    rw [e0] at hR
    have hsm : Builtin.Range.small 1 (things.length : Int) 2 = true := range2_small _ (by omega : things.length ≤ 20)
    have hrs := range2_size _ (by omega : things.length ≤ 20)
    refine Halt.mk ?_
    refine wpAny_pyIter_range hR hsm ?_
    have F4 := Fr_congr (m' := pmap pT pN pA none none none) F3 (by
      intro y
      by_cases e1 : y = Str.ofString "k"; · (subst e1; rfl)
      by_cases e2 : y = Str.ofString "one"; · (subst e2; rfl)
      by_cases e3 : y = Str.ofString "other"; · (subst e3; rfl)
      by_cases e4 : y = Str.ofString "things"; · (subst e4; rfl)
      by_cases e5 : y = Str.ofString "numbers"; · (subst e5; rfl)
      by_cases e6 : y = Str.ofString "asked"; · (subst e6; rfl)
      show (if y = Str.ofString "asked" then _ else if y = Str.ofString "numbers" then _ else if y = Str.ofString "things" then _ else none) = _
      simp only [pmap, if_neg e1, if_neg e2, if_neg e3, if_neg e4, if_neg e5, if_neg e6])
    have hIl : ∀ p ∈ [(d, od0), (L + 1, od), (pA, listOf its n), (41, tabObj ps)], @LT.lt Nat _ p.1 h3.objs.size := fun p hp => Heap.lt_size (N3 p hp).1
    have N4 := N3.push F3 (rIt 1 (Builtin.Range.rangeSize 1 (things.length : Int) 2) 2)
    have F5 := F4.push (rIt 1 (Builtin.Range.rangeSize 1 (things.length : Int) 2) 2)
    rw [hrs] at N4 F5
    dsimp only
    rw [hrs]
    generalize hI : h3.objs.size = I at *
    have hdI : @LT.lt Nat _ d I := hIl (d, od0) (by k_mem)
    have hLI : @LT.lt Nat _ (L + 1) I := hIl (L + 1, od) (by k_mem)
    have hpI : @LT.lt Nat _ pA I := hIl (pA, listOf its n) (by k_mem)
    have h4I : @LT.lt Nat _ 41 I := hIl (41, tabObj ps) (by k_mem)
    have R3 : AT (h3.push (rIt 1 (things.length / 2 : Nat) 2)) pA its ps qs := AT.keep2 ⟨hA2, hTr, hcodes⟩ hA1 hP (Keep.of_frame (W := [pA, 41]) F5)
    clear F3 N3 F4 hIl
    refine for_W (Walks.range rfl I 1 2 (things.length / 2)) (fun i s₁ => ∃ (h : Heap) (tk : Nat) (its ps : Array Value) (n : Nat) (od0 : Obj) (kvs : List (Int × Value)) (u1 u2 u3 : Option Value) (pre rest : List Nat) (u : List (Nat × Nat)) (qs' : List Q3),
      s₁ = { s with heap := h, toks := tk } ∧ Fr (hideAll s.heap [pA, 41]) L h (pmap pT pN pA u1 u2 u3) ∧ News (hideAll s.heap [pA, 41]) L h [(I, rIt (1 + (i : Nat) * 2) ((things.length / 2 : Nat) - (i : Nat)) 2), (d, od0), (L + 1, od), (pA, listOf its n), (41, tabObj ps)] ∧
      od0.IsDictOf (intKind PG w) kvs ∧ PyProof.V.FlatPairs PyData.int kvs (dOf u) ∧ AT h pA its ps qs' ∧ things = pre ++ rest ∧ pre.length = 2 * i ∧ (∀ p ∈ u, p.1 ∈ pre) ∧
      u ++ (pairUp (fun k => ns.getD k 0) rest).1 = (pairUp (fun k => ns.getD k 0) things).1 ∧ qs' ++ (pairUp (fun k => ns.getD k 0) rest).2 = qs ++ (pairUp (fun k => ns.getD k 0) things).2) ?start ?st ?turn ?done
    case start =>
      refine ⟨_, _, its, ps, n, od0, _, none, none, none, [], things, [], qs, rfl, F5, ?_, hi0, fi0, R3, rfl, rfl, (fun _ h => nomatch h), rfl, rfl⟩
      simpa using N4
    case st =>
      rintro i s₁ ⟨h, tk, its, ps, n, od0, kvs, u1, u2, u3, pre, rest, u, qs', rfl, F, N, _⟩
      exact (N _ (.head _)).1
    case done =>
      clear R3 N4 F5 hi0 fi0 hA2 hTr hcodes
      rintro s₁ h4 tk4 ⟨h3, tk3, its3, ps3, n3, od3, kvs3, u1, u2, u3, pre, rest, u, qs3, rfl, F3, N3, hd3, hf3, at3, hpre, hprel, hkeys, hu, hq⟩ k4
      have k4' : Keep [I] h3 h4 := k4
      obtain ⟨F4, N4⟩ := after_keepW [(d, od3), (L + 1, od), (pA, listOf its3 n3), (41, tabObj ps3)] F3 N3 k4' (by
        intro a ha; cases ha with | head => exact ⟨_, .head _⟩ | tail _ h => cases h) (by
        refine List.forall_mem_cons.mpr ⟨?_, List.forall_mem_cons.mpr ⟨?_, List.forall_mem_cons.mpr ⟨?_, List.forall_mem_cons.mpr ⟨?_, fun _ h => nomatch h⟩⟩⟩⟩
        · exact .inl ⟨by k_mem, notin1 (Nat.ne_of_lt hdI)⟩
        · exact .inl ⟨by k_mem, notin1 (Nat.ne_of_lt hLI)⟩
        · exact .inl ⟨by k_mem, notin1 (Nat.ne_of_lt hpI)⟩
        · exact .inl ⟨by k_mem, notin1 (Nat.ne_of_lt h4I)⟩)
      have at4 := at3.keepR (N3 _ (.head _)).1 k4'
      clear F3 N3
      have hrest : rest.length < 2 := by
        have := congrArg List.length hpre
        rw [List.length_append] at this
        omega
      rw [pairUp_short _ hrest, List.append_nil] at hu hq
      subst hu
      subst hq
      obtain ⟨T4, N4, hT4, al4⟩ := adopt2 F4 N4 (.tail _ (.tail _ (.head _))) (.tail _ (.tail _ (.tail _ (.head _)))) at4
      simp only [List.cons_append, List.nil_append] at N4
      dsimp only
      k_steps
      refine kdy_list (c := cOf (pairUp (fun k => ns.getD k 0) things).1) rfl F4 N4 ⟨lo0, kvs3, Heap.dictOf_iff.mpr ⟨od3, N4.get (by k_mem), hd3⟩, dOf_eq _ ▸ hf3⟩ ?_ ?_
      · have := pairUp_len (fun k => ns.getD k 0) things
        simp only [cOf, List.length_map]
        omega
      intro D nD h5 tk5 vD F5 N5 lD hiD
      rw [cOf_keys] at hiD
      have hiDs : Halt (IntsAre vD (((pairUp (fun k => ns.getD k 0) things).1.map (·.1)).map Int.ofNat)) := hiD
      have hDA : @LT.lt Nat _ pA D := lD (pA, listOf its3 n3) (by k_mem)
      have hDd : @LT.lt Nat _ d D := lD (d, od3) (by k_mem)
      have hDL : @LT.lt Nat _ (L + 1) D := lD (L + 1, od) (by k_mem)
      have hD4 : @LT.lt Nat _ 41 D := lD (41, tabObj ps3) (by k_mem)
      clear F4 N4
      k_steps
      rename Fr _ _ _ _ => F6
      rename News _ _ _ _ => N6
      have hkeysP := pairUp_keys (fun k => ns.getD k 0) things
      have at5 := al4.back F6 N6 (fun p hp => .tail _ (.tail _ (.tail _ (.tail _ (.tail _ hp)))))
      refine Halt.mk ?_
      refine IH f rfl rfl (fun x o e => F6.keep x o (stays_hide hB hWn x o e)) hp hp41 ⟨its3, n3, N6.get (by k_mem), at5.1⟩ (Tab.mk (N6.get (a := 41) (o := tabObj ps3) (by k_mem)) at5.2) ⟨_, N6.get (.head _), rfl, _, rfl⟩ hiDs
        (isList_keep hNs (Keep.of_frame (W := [pA, 41]) F6) (notin2 hneN hN41)) hNIs (Nat.ne_of_gt hDA) hneN (fun o ho => hlt o (hkeysP.1 o ho)) (hkeysP.2 hnd) ?_ ?_ hszn ?_ (by show dp + 1 + f + 10 < _; omega) (by show un + 3 + 3 * f + 60 < _; omega) (fun r h7 tk7 vr nr K7 hr7 gr7 hi7 A7 T7 => ?_)
      · rw [List.length_map, pairUp_len]; omega
      · rw [List.length_map, pairUp_len]; omega
      · have := hsa
        rw [hrow] at this
        simp only [List.length_append] at this ⊢
        omega
      obtain ⟨its7, n7, gA7, R7⟩ := A7
      obtain ⟨ps7, gP7, C7⟩ := T7.open
      have K7' : Keep [pA, 41] _ h7 := K7
      obtain ⟨F8, N8o⟩ := after_keepW [(d, od3), (L + 1, od), (pA, listOf its7 n7), (41, tabObj ps7)] F6 N6 K7' (by
        intro a ha
        rcases List.mem_cons.mp ha with rfl | ha
        · exact ⟨listOf its3 n3, by k_mem⟩
        · cases ha with | head => exact ⟨tabObj ps3, by k_mem⟩ | tail _ h => cases h) (by
        refine List.forall_mem_cons.mpr ⟨?_, List.forall_mem_cons.mpr ⟨?_, List.forall_mem_cons.mpr ⟨?_, List.forall_mem_cons.mpr ⟨?_, fun _ h => nomatch h⟩⟩⟩⟩
        · exact .inl ⟨by k_mem, notin2 (Nat.ne_of_gt lt0.2.1) (Nat.ne_of_gt lt0.2.2)⟩
        · exact .inl ⟨by k_mem, notin2 (Nat.ne_of_gt (Nat.lt_succ_of_lt hpAL)) (Nat.ne_of_gt (Nat.lt_succ_of_lt h41L))⟩
        · exact .inr ⟨.head _, gA7⟩
        · exact .inr ⟨.tail _ (.head _), gP7⟩)
      have hdr : @LT.lt Nat _ d r := Nat.lt_of_lt_of_le (Heap.lt_size (N6.get (a := d) (o := od3) (by k_mem))) hr7
      have hLr : @LT.lt Nat _ L r := Nat.lt_trans (Nat.lt_succ_self L) (Nat.lt_trans lt0.1 hdr)
      have hgr : (hideAll s.heap [pA, 41]).get? r = none := by
        cases q : (hideAll s.heap [pA, 41]).get? r with
        | none => rfl
        | some o => have := F6.keep _ _ q; rw [Heap.get?_none_of_le hr7] at this; cases this
      have N9 : News (hideAll s.heap [pA, 41]) L h7 [(r, listOf vr.toArray nr), (d, od3), (L + 1, od), (pA, listOf its7 n7), (41, tabObj ps7)] := by
        intro p hp
        rcases List.mem_cons.mp hp with rfl | hp
        · exact ⟨gr7, Nat.ne_of_gt hLr, hgr⟩
        · exact N8o p hp
      have hTd7 := hd3
      clear N8o F6 N6
      obtain ⟨T9, N10, hT9, al9⟩ := adopt2 F8 N9 (by k_mem) (by k_mem) ⟨R7, C7⟩
      simp only [List.cons_append, List.nil_append] at N10
      clear N9
      k_steps
      rename Fr _ _ _ _ => FF
      rename News _ _ _ _ => NN
      have at11 := al9.back FF NN (fun p hp => .tail _ (.tail _ (.tail _ (.tail _ (.tail _ hp)))))
      have hkl := rowF_keys (fun k => ns.getD k 0) f ((pairUp (fun k => ns.getD k 0) things).1.map (·.1)) (by rw [List.length_map, pairUp_len]; omega)
      refine Halt.mk ?_
      refine' mp2 (x := (hd.heap_39 w.params).lookup 51) ?hlook ?_
      case hlook => k_is
      intro ho
      refine row_rest (s := s) (Q := Q) (n := n7) (nr := nr) (vr := vr) (ab := (rowF (fun k => ns.getD k 0) f ((pairUp (fun k => ns.getD k 0) things).1.map (·.1))).1) (u := (pairUp (fun k => ns.getD k 0) things).1)
        (its := its7) (ps := ps7) (qs := qs ++ (pairUp (fun k => ns.getD k 0) things).2 ++ (rowF (fun k => ns.getD k 0) f ((pairUp (fun k => ns.getD k 0) things).1.map (·.1))).2) (od3 := od3) (od := od)
        ho X0 T0 C0 h41 hB hp hp41 hTs hTIs hNs hNIs hneT hneN hT41' hN41 hlt (by omega) hge' hszn rfl hkl.1 (by rw [hkl.2, List.length_map]) ?_ (by omega) (by omega) hpAL h41L lt0.1 hdr lo0 (Fr_above FF) ?_ dd hd3 hf3 hi7 at11 ?_
      · have := hsa
        rw [hrow] at this
        simp only [List.length_append] at this ⊢
        omega
      · intro p hp
        refine NN p ?_
        simp only [List.mem_cons, List.not_mem_nil, or_false] at hp
        rcases hp with rfl | rfl | rfl | rfl | rfl <;> k_mem
      · intro r' h' tk' vr' nr' K' lr' g' i' A' T'
        refine h r' h' tk' vr' nr' K' (hL ▸ Nat.le_of_lt lr') g' (by rw [hrow]; exact i') ?_ T'
        rw [hrow]
        simpa only [List.append_assoc] using A'
    case turn =>
      clear R3 N4 F5 hi0 fi0 hA2 hTr hcodes
      rintro i _ s₁ h4 tk4 hin ⟨tv, rfl⟩ ⟨h3, tk3, its3, ps3, n3, od3, kvs3, u1, u2, u3, pre, rest, u, qs3, rfl, F3, N3, hd3, hf3, at3, hpre, hprel, hkeys, hu, hq⟩ hst4 k4
      have k4' : Keep [I] h3 h4 := k4
      obtain ⟨F4, N4⟩ := after_keepW [(I, rIt (1 + ((i + 1 : Nat) : Int) * 2) ((things.length / 2 : Nat) - ((i + 1 : Nat) : Int)) 2), (d, od3), (L + 1, od), (pA, listOf its3 n3), (41, tabObj ps3)] F3 N3 k4' (by
        intro a ha; cases ha with | head => exact ⟨_, .head _⟩ | tail _ h => cases h) (by
        refine List.forall_mem_cons.mpr ⟨?_, List.forall_mem_cons.mpr ⟨?_, List.forall_mem_cons.mpr ⟨?_, List.forall_mem_cons.mpr ⟨?_, List.forall_mem_cons.mpr ⟨?_, fun _ h => nomatch h⟩⟩⟩⟩⟩
        · exact .inr ⟨.head _, hst4⟩
        · exact .inl ⟨by k_mem, notin1 (Nat.ne_of_lt hdI)⟩
        · exact .inl ⟨by k_mem, notin1 (Nat.ne_of_lt hLI)⟩
        · exact .inl ⟨by k_mem, notin1 (Nat.ne_of_lt hpI)⟩
        · exact .inl ⟨by k_mem, notin1 (Nat.ne_of_lt h4I)⟩)
      have at4 := at3.keepR (N3 _ (.head _)).1 k4'
      obtain ⟨T4, N4, hT4, al4⟩ := adopt2 F4 N4 (.tail _ (.tail _ (.tail _ (.head _)))) (.tail _ (.tail _ (.tail _ (.tail _ (.head _))))) at4
      simp only [List.cons_append, List.nil_append] at N4
      refine wpAny_of_eq (a := ()) rfl ?_
      refine wpAny_assign_Name ?_
      have hr2 : ∃ a b r, rest = a :: b :: r := by
        have h1 : things.length = pre.length + rest.length := by rw [hpre, List.length_append]
        match rest, h1 with
        | a :: b :: r, _ => exact ⟨a, b, r, rfl⟩
        | [_], h1 => simp at h1; omega
        | [], h1 => simp at h1; omega
      obtain ⟨a, b, r, rfl⟩ := hr2
      have ga : things.getD (2 * i) 0 = a := by rw [hpre, ← hprel]; simp [List.getD]
      have gb : things.getD (2 * i + 1) 0 = b := by rw [hpre, ← hprel]; simp [List.getD]
      have ea : (List.map Int.ofNat things).getD ((1 : Int) + (i : Int) * 2 - 1).toNat 0 = (a : Int) := by
        rw [show ((1 : Int) + (i : Int) * 2 - 1).toNat = 2 * i by omega, getD_ofNat, ga]
      have eb : (List.map Int.ofNat things).getD ((1 : Int) + (i : Int) * 2).toNat 0 = (b : Int) := by
        rw [show ((1 : Int) + (i : Int) * 2).toNat = 2 * i + 1 by omega, getD_ofNat, gb]
      k_steps
      rename_i _ tkq t1 t2 D _ lD _ _ h5 F5 N5 h6 F6 N6 hk6 _ _ _ _ _
      rw [eb]
      rw [ea] at N6
      have zA : @LT.lt Nat _ pA h5.objs.size := Heap.lt_size (N5.get (a := pA) (o := listOf its3 n3) (by k_mem))
      have zI : @LT.lt Nat _ I h5.objs.size := Heap.lt_size (N5.get (a := I) (by k_mem))
      have hB6 : b0.StaysIn h6 := fun x o e => F6.keep x o (stays_hide hB hWn x o e)
      have at6 := al4.back F6 N6 (fun p hp => .tail _ (.tail _ (.tail _ (.tail _ (.tail _ (.tail _ (.tail _ hp)))))))
      have hN6 : h6.IsList pN vn.toArray := isList_keep hNs (Keep.of_frame (W := [pA, 41]) F6) (notin2 hneN hN41)
      have hbm : b ∈ things := by rw [hpre]; simp
      have ham : a ∈ things := by rw [hpre]; simp
      refine Halt.mk ?_
      refine place_spec (vs := [.int (a : Int) t1]) (row := [a]) (ns := ns) (high := some 1) (qs := qs3) X0 T0 C0 hB6 hp h41 hp41 ⟨its3, n3, N6.get (by k_mem), at6.1⟩ (Tab.mk (N6.get (a := 41) (o := tabObj ps3) (by k_mem)) at6.2) ⟨_, N6.get (.head _), rfl, _, rfl⟩
        (IntsAre.cons _ _ IntsAre.nil) hN6 hNIs (Nat.ne_of_gt zA) hneN (by simpa using hlt a ham) (hlt b hbm) ⟨_, rfl⟩ (Nat.le_refl _) (by show 1 < 100; decide) hszn ?_ (by show dp + 1 + 6 < _; omega) (by show un + 3 + 40 < _; omega) (fun h8 tk8 tk9 K8 A8 T8 => ?_)
      · have := congrArg List.length hq
        simp only [List.length_append] at this
        omega
      obtain ⟨its8, n8, gA8, R8⟩ := A8
      obtain ⟨ps8, gP8, C8⟩ := T8.open
      have K8' : Keep [pA, 41] h6 h8 := K8
      obtain ⟨F8, N8⟩ := after_keepW [(I, rIt (1 + ((i + 1 : Nat) : Int) * 2) ((things.length / 2 : Nat) - ((i + 1 : Nat) : Int)) 2), (d, od3), (L + 1, od), (pA, listOf its8 n8), (41, tabObj ps8)] F6 N6 K8' (by
        intro a ha
        rcases List.mem_cons.mp ha with rfl | ha
        · exact ⟨listOf its3 n3, by k_mem⟩
        · cases ha with | head => exact ⟨tabObj ps3, by k_mem⟩ | tail _ h => cases h) (by
        refine List.forall_mem_cons.mpr ⟨?_, List.forall_mem_cons.mpr ⟨?_, List.forall_mem_cons.mpr ⟨?_, List.forall_mem_cons.mpr ⟨?_, List.forall_mem_cons.mpr ⟨?_, fun _ h => nomatch h⟩⟩⟩⟩⟩
        · exact .inl ⟨by k_mem, notin2 (Nat.ne_of_gt hpI) (Nat.ne_of_gt h4I)⟩
        · exact .inl ⟨by k_mem, notin2 (Nat.ne_of_gt lt0.2.1) (Nat.ne_of_gt lt0.2.2)⟩
        · exact .inl ⟨by k_mem, notin2 (Nat.ne_of_gt (Nat.lt_succ_of_lt hpAL)) (Nat.ne_of_gt (Nat.lt_succ_of_lt h41L))⟩
        · exact .inr ⟨.head _, gA8⟩
        · exact .inr ⟨.tail _ (.head _), gP8⟩)
      obtain ⟨T8, N8, hT8, al8⟩ := adopt2 F8 N8 (.tail _ (.tail _ (.tail _ (.head _)))) (.tail _ (.tail _ (.tail _ (.tail _ (.head _))))) ⟨R8, C8⟩
      simp only [List.cons_append, List.nil_append] at N8
      clear F5 N5 F6 N6
      rw [ea, eb] at F8
      have hTd : ∀ p ∈ T8, p.1 ≠ d := side_off hT8 N8 (fun p hp => .tail _ (.tail _ (.tail _ (.tail _ (.tail _ hp))))) (.tail _ (.head _)) (dict_notSide hd3)
      have hulen : (dOf u).length ≤ sizeLine := by
        have e1 : (pairUp (fun k => ns.getD k 0) things).1.length = things.length / 2 := pairUp_len _ _
        rw [← hu] at e1
        have e2 : (dOf u).length = u.length := by simp [dOf]
        have e3 : (20 : Nat) ≤ sizeLine := by decide
        simp only [List.length_append] at e1
        omega
      have hnda : a ∉ pre ∧ b ∉ pre := by
        rw [hpre] at hnd
        have := (List.nodup_append.mp hnd).2.2
        exact ⟨fun q => this _ q _ (.head _) rfl, fun q => this _ q _ (.tail _ (.head _)) rfl⟩
      have hnewa : ∀ p ∈ u, p.1 ≠ a := fun p hp e => hnda.1 (e ▸ hkeys p hp)
      have hnewb : ∀ p ∈ u, p.1 ≠ b := fun p hp e => hnda.2 (e ▸ hkeys p hp)
      have hIs : Halt (Obj.IsDictOf (intKind PG w) od3 kvs3) := hd3
      have hFs : Halt (PyProof.V.FlatPairs PyData.int kvs3 (dOf u)) := ‹PyProof.V.FlatPairs PyData.int kvs3 (dOf u)›
      k_steps
      · rename_i hpl
        have hpl : (place (fun k => ns.getD k 0) b true [a] (some 1)).2 = 1 := by omega
        refine' setItem_K (knd := intKind PG w) (enc := PyData.int) (k := (b : Int)) (dv := PyData.int (a : Int)) (kvs := kvs3) (D := dOf u) PyProof.V.same_int (intKind_is _ _ _ _) ?v F8 N8 ?U hIs hFs ?_ ?z
        case v => exact PyProof.V.Flat.int _ _
        case U => k_updF
        case z => exact hulen
        intro h9 o9 F9 N9 hd9 hf9
        try dsimp only at N9
        rw [putD_dOf (fun p hp => hnewb p hp)] at hf9
        k_steps
        rw [pairUp_cons, if_pos hpl] at hu
        refine Halt.mk ⟨h9, _, its8, ps8, n8, o9, _, some (.int (1 + (i : Int) * 2) tv), some (.int (a : Int) t1), some (.int (b : Int) t2), pre ++ [a, b], r, u ++ [(b, a)], _, rfl, Fr_congr F9 (by
            intro y
            by_cases e1 : y = Str.ofString "k"; · (subst e1; rfl)
            by_cases e2 : y = Str.ofString "one"; · (subst e2; rfl)
            by_cases e3 : y = Str.ofString "other"; · (subst e3; rfl)
            simp only [pmap, if_neg e1, if_neg e2, if_neg e3]), fun p hp => N9 p (by
              simp only [List.mem_cons, List.not_mem_nil, or_false] at hp
              rcases hp with rfl | rfl | rfl | rfl | rfl <;> k_mem), hd9, hf9, al8.back F9 N9 (fun p hp => .tail _ (.tail _ (.tail _ (.tail _ (.tail _ hp))))), by rw [hpre]; simp, by simp; omega, ?_, ?_, ?_⟩
        · intro p hp
          rcases List.mem_append.mp hp with hp | hp
          · exact List.mem_append_left _ (hkeys p hp)
          · cases hp with | head => simp | tail _ h => cases h
        · rw [← hu]; simp
        · rw [← hq, pairUp_cons]; simp
      · rename_i hpl
        have hpl : ¬ (place (fun k => ns.getD k 0) b true [a] (some 1)).2 = 1 := by omega
        refine' setItem_K (knd := intKind PG w) (enc := PyData.int) (k := (a : Int)) (dv := PyData.int (b : Int)) (kvs := kvs3) (D := dOf u) PyProof.V.same_int (intKind_is _ _ _ _) ?v F8 N8 ?U hIs hFs ?_ ?z
        case v => exact PyProof.V.Flat.int _ _
        case U => k_updF
        case z => exact hulen
        intro h9 o9 F9 N9 hd9 hf9
        try dsimp only at N9
        rw [putD_dOf (fun p hp => hnewa p hp)] at hf9
        k_steps
        rw [pairUp_cons, if_neg hpl] at hu
        refine Halt.mk ⟨h9, _, its8, ps8, n8, o9, _, some (.int (1 + (i : Int) * 2) tv), some (.int (a : Int) t1), some (.int (b : Int) t2), pre ++ [a, b], r, u ++ [(a, b)], _, rfl, Fr_congr F9 (by
            intro y
            by_cases e1 : y = Str.ofString "k"; · (subst e1; rfl)
            by_cases e2 : y = Str.ofString "one"; · (subst e2; rfl)
            by_cases e3 : y = Str.ofString "other"; · (subst e3; rfl)
            simp only [pmap, if_neg e1, if_neg e2, if_neg e3]), fun p hp => N9 p (by
              simp only [List.mem_cons, List.not_mem_nil, or_false] at hp
              rcases hp with rfl | rfl | rfl | rfl | rfl <;> k_mem), hd9, hf9, al8.back F9 N9 (fun p hp => .tail _ (.tail _ (.tail _ (.tail _ (.tail _ hp))))), by rw [hpre]; simp, by simp; omega, ?_, ?_, ?_⟩
        · intro p hp
          rcases List.mem_append.mp hp with hp | hp
          · exact List.mem_append_left _ (hkeys p hp)
          · cases hp with | head => simp | tail _ h => cases h
        · rw [← hu]; simp
        · rw [← hq, pairUp_cons]; simp
end
end Mine
end
section
open PySem PySem.W PySem.Calls PyProof.Rows PySem.Spec
namespace Mine
theorem row_spec {w : World} {b0 : Heap} {p : Program} {loose : List Str} {mean : ExcName → Option Value} {mg mb : Str → Option Value}
    (X0 : (hd.heap_39 w.params).In b0) (T0 : Top p loose mean mg mb b0) (C0 : CodeHd b0 45 41) (h41 : b0.get? 41 = none) : ∀ fuel, RowSpec w b0 fuel
  | 0 => row_step X0 T0 C0 h41 (fun f e => by cases e)
  | f + 1 => row_step X0 T0 C0 h41 (fun f' e => by cases e; exact row_spec X0 T0 C0 h41 f)
end Mine
end
section
namespace Mine
section
variable {β : Type}
def fN (a : Nat) (k : Nat → β) : β := match a with
  | 0 => k 0
  | n + 1 => k (Nat.succ n)
def fL (l : List Nat) (k : List Nat → β) : β := match l with
  | [] => k []
  | a :: r => fN a fun a' => fL r fun r' => k (a' :: r')
theorem fN_eq (a : Nat) (k : Nat → β) : fN a k = k a := by cases a <;> rfl
theorem fL_eq (l : List Nat) (k : List Nat → β) : fL l k = k l := by
  induction l generalizing k with
  | nil => rfl
  | cons a r ih => rw [fL, fN_eq, ih]
def goN (right : Bool) (x y : Nat) : Bool := if right then Nat.blt x y else !(Nat.blt y x)
theorem goN_eq (right : Bool) (x y : Nat) : goN right x y = goL right (x : Int) (y : Int) := by
  have h : ∀ a b : Nat, Nat.blt a b = decide ((a : Int) < (b : Int)) := by
    intro a b
    rw [Bool.eq_iff_iff, decide_eq_true_iff, Nat.blt, Nat.ble_eq]; omega
  unfold goN goL
  rw [h, h]
def nth (l : List Nat) (k : Nat) : Nat := l.getD k 0
def bisE (l : List Nat) (t : Nat) (right : Bool) (row : List Nat) : Nat → Nat → Nat → (List Q3 → Nat → β) → β
  | 0, lo, _, k => k [] lo
  | f + 1, lo, hi, k =>
    if lo < hi then
      fN ((lo + hi) / 2) fun mid => fN (row.getD mid 0) fun o =>
        bif goN right (nth l t) (nth l o) then bisE l t right row f lo mid fun q p => k ((t, o, right) :: q) p
        else bisE l t right row f (mid + 1) hi fun q p => k ((t, o, right) :: q) p
    else k [] lo
abbrev numOf (l : List Nat) (k : Nat) : Int := (nth l k : Int)
theorem bisE_eq (l : List Nat) (t : Nat) (right : Bool) (row : List Nat) : ∀ (f lo hi : Nat) (k : List Q3 → Nat → β),
    bisE l t right row f lo hi k = k (bis (numOf l) t right row f lo hi).1 (bis (numOf l) t right row f lo hi).2
  | 0, lo, hi, k => rfl
  | f + 1, lo, hi, k => by
    rw [bisE, bis]
    split
    · rw [fN_eq, fN_eq, goN_eq]
      cases h : goL right (numOf l t) (numOf l (row.getD ((lo + hi) / 2) 0)) with
      | true => rw [if_pos rfl, cond_true, bisE_eq l t right row f]
      | false => rw [if_neg Bool.false_ne_true, cond_false, bisE_eq l t right row f]
    · rfl
def placeE (l : List Nat) (t : Nat) (right : Bool) (row : List Nat) (high : Option Nat) (k : List Q3 → Nat → β) : β :=
  fN row.length fun n => fN (high.getD n) fun hi => bisE l t right row n 0 hi fun q p => fN p fun p' => k q p'
theorem placeE_eq (l : List Nat) (t : Nat) (right : Bool) (row : List Nat) (high : Option Nat) (k : List Q3 → Nat → β) :
    placeE l t right row high k = k (place (numOf l) t right row high).1 (place (numOf l) t right row high).2 := by
  rw [placeE, fN_eq, fN_eq, bisE_eq, fN_eq]; rfl
def pairUpE (l : List Nat) : List Nat → (List (Nat × Nat) → List Q3 → β) → β
  | a :: b :: r, k => placeE l b true [a] (some 1) fun q p => pairUpE l r fun u qs =>
      if p = 1 then k ((b, a) :: u) (q ++ qs) else k ((a, b) :: u) (q ++ qs)
  | [], k => k [] []
  | [_], k => k [] []
theorem pairUpE_eq (l : List Nat) : ∀ (things : List Nat) (k : List (Nat × Nat) → List Q3 → β), pairUpE l things k = k (pairUp (numOf l) things).1 (pairUp (numOf l) things).2
  | [], k => rfl
  | [_], k => rfl
  | a :: b :: r, k => by
    rw [pairUpE, placeE_eq, pairUpE_eq l r, pairUp_cons]
    split <;> rfl
def insE (l above lower : List Nat) : List Nat → List Nat → List Q3 → (List Nat → List Q3 → β) → β
  | [], row, qs, k => k row qs
  | i :: is, row, qs, k => fN i fun i' => fN (lower.getD i' 0) fun x => placeE l x (i' % 2 == 0) row (highOf above row i') fun q p =>
      fL (insertAt row p x) fun row' => insE l above lower is row' (qs ++ q) k
theorem insE_eq (l above lower : List Nat) : ∀ (is row : List Nat) (qs : List Q3) (k : List Nat → List Q3 → β),
    insE l above lower is row qs k = k (is.foldl (insStep (numOf l) above lower) (row, qs)).1 (is.foldl (insStep (numOf l) above lower) (row, qs)).2
  | [], row, qs, k => rfl
  | i :: is, row, qs, k => by
    rw [insE, fN_eq, fN_eq, placeE_eq, fL_eq, insE_eq l above lower is]
    rfl
def rowE (l : List Nat) : Nat → List Nat → (List Nat → List Q3 → β) → β
  | 0, things, k => k things []
  | f + 1, things, k =>
    if things.length < 2 then k things [] else
    pairUpE l things fun u q1 => fL (u.map (·.1)) fun keys => rowE l f keys fun ab q2 =>
      fL (ab.map (look u) ++ things.drop (2 * u.length)) fun lower => insE l ab lower (ksOf lower.length) (lower.getD 0 0 :: ab) [] fun row q3 => k row (q1 ++ q2 ++ q3)
theorem rowE_eq (l : List Nat) : ∀ (f : Nat) (things : List Nat) (k : List Nat → List Q3 → β), rowE l f things k = k (rowF (numOf l) f things).1 (rowF (numOf l) f things).2
  | 0, things, k => rfl
  | f + 1, things, k => by
    rw [rowE]
    by_cases h : things.length < 2
    · rw [if_pos h, rowF, if_pos h]
    · rw [if_neg h, pairUpE_eq, fL_eq, rowE_eq l f, fL_eq, insE_eq, rowF_step _ _ _ h]
      rfl
end
def sortedN (l : List Nat) : List Nat → Bool
  | a :: b :: r => Nat.ble (nth l a) (nth l b) && sortedN l (b :: r)
  | _ => true
def pairB (q : Q3) : Nat × Nat := if q.1 ≤ q.2.1 then (q.1, q.2.1) else (q.2.1, q.1)
def fP {β : Type} (l : List Q3) (k : List (Nat × Nat) → β) : β := match l with
  | [] => k []
  | q :: r => if q.1 ≤ q.2.1 then fP r fun r' => k ((q.1, q.2.1) :: r') else fP r fun r' => k ((q.2.1, q.1) :: r')
theorem fP_eq {β : Type} (l : List Q3) (k : List (Nat × Nat) → β) : fP l k = k (l.map pairB) := by
  induction l generalizing k with
  | nil => rfl
  | cons q r ih =>
    rw [fP, List.map_cons, pairB]
    split <;> rw [ih]
def memP (a b : Nat) : List (Nat × Nat) → Bool
  | [] => false
  | p :: r => (Nat.beq p.1 a && Nat.beq p.2 b) || memP a b r
def nodupB : List (Nat × Nat) → Bool
  | [] => true
  | a :: r => !memP a.1 a.2 r && nodupB r
def adjB (ps : List (Nat × Nat)) : List Nat → Bool
  | a :: b :: r => (bif Nat.ble a b then memP a b ps else memP b a ps) && adjB ps (b :: r)
  | _ => true
def factB : Nat → Nat
  | 0 => 1
  | n + 1 => factB n * (n + 1)
def memN (a : Nat) : List Nat → Bool
  | [] => false
  | b :: r => Nat.beq b a || memN a r
def posN (a : Nat) : List Nat → Nat
  | [] => 0
  | b :: r => bif Nat.beq b a then 0 else Nat.succ (posN a r)
def lawN (l : List Nat) (n : Nat) (row : List Nat) (qs : List Q3) : Bool :=
  ((List.range n).all fun k => memN k row) && sortedN l row && Nat.blt (2 ^ qs.length) (2 * factB n) &&
  (qs.all fun q => Nat.blt q.1 n && Nat.blt q.2.1 n && (Nat.blt (posN q.1 row) (posN q.2.1 row) == (Nat.blt (nth l q.1) (nth l q.2.1) || (Nat.beq (nth l q.1) (nth l q.2.1) && !q.2.2)))) &&
  fP qs fun ps => nodupB ps && adjB ps row
def okN (us : List Nat) : Bool := rowE ([4, 5, 4, 6, 6] ++ us) 9 (List.range (5 + us.length)) fun row qs => fL row fun row' => lawN ([4, 5, 4, 6, 6] ++ us) (5 + us.length) row' qs
def vals : List Nat := [0, 1, 2, 3, 4, 5, 6, 7, 8, 9, 10]
def allB : Nat → (List Nat → Bool) → Bool
  | 0, p => p []
  | n + 1, p => vals.all fun v => allB n fun ys => p (v :: ys)
end Mine
end
section
namespace Mine
noncomputable section
section
variable {β : Type}
def iteR (c : Bool) (a b : β) : β := Bool.rec (motive := fun _ => β) b a c
theorem iteR_eq (c : Bool) (a b : β) : iteR c a b = bif c then a else b := by cases c <;> rfl
def fNR (a : Nat) (k : Nat → β) : β := Nat.rec (motive := fun _ => β) (k 0) (fun n _ => k (Nat.succ n)) a
theorem fNR_eq (a : Nat) (k : Nat → β) : fNR a k = k a := by cases a <;> rfl
def fBR (a : Bool) (k : Bool → β) : β := Bool.rec (motive := fun _ => β) (k false) (k true) a
theorem fBR_eq (a : Bool) (k : Bool → β) : fBR a k = k a := by cases a <;> rfl
def fLR (l : List Nat) (k : List Nat → β) : β := List.rec (motive := fun _ => (List Nat → β) → β) (fun k => k []) (fun a _ ih k => fNR a fun a' => ih fun r' => k (a' :: r')) l k
theorem fLR_eq (l : List Nat) : ∀ k : List Nat → β, fLR l k = k l := by
  induction l with
  | nil => exact fun _ => rfl
  | cons a r ih =>
    intro k
    show fNR a (fun a' => fLR r fun r' => k (a' :: r')) = _
    rw [fNR_eq, ih]
def fSR (l : List Nat) (k : List Nat → β) : β := List.rec (motive := fun _ => (List Nat → β) → β) (fun k => k []) (fun a _ ih k => ih fun r' => k (a :: r')) l k
theorem fSR_eq (l : List Nat) : ∀ k : List Nat → β, fSR l k = k l := by
  induction l with
  | nil => exact fun _ => rfl
  | cons a r ih =>
    intro k
    show fSR r (fun r' => k (a :: r')) = _
    rw [ih]
def nthR (l : List Nat) (k : Nat) : Nat := List.rec (motive := fun _ => Nat → Nat) (fun _ => 0) (fun a _ ih k => Nat.rec (motive := fun _ => Nat) a (fun j _ => ih j) k) l k
theorem nthR_eq : ∀ (l : List Nat) (k : Nat), nthR l k = nth l k
  | [], k => by unfold nth; rw [List.getD_nil]; rfl
  | a :: r, 0 => rfl
  | a :: r, k + 1 => by
    show nthR r k = _
    rw [nthR_eq r k]; unfold nth; rw [List.getD_cons_succ]
def lenR (l : List Nat) : Nat := List.rec (motive := fun _ => Nat) 0 (fun _ _ ih => Nat.succ ih) l
theorem lenR_eq : ∀ l : List Nat, lenR l = l.length
  | [] => rfl
  | _ :: r => congrArg Nat.succ (lenR_eq r)
def idxR (a : Nat) (l : List Nat) : Nat := List.rec (motive := fun _ => Nat) 0 (fun b _ ih => iteR (Nat.beq b a) 0 (Nat.succ ih)) l
theorem idxR_eq (a : Nat) : ∀ l : List Nat, idxR a l = posN a l
  | [] => rfl
  | b :: r => by
    show iteR (Nat.beq b a) 0 (Nat.succ (idxR a r)) = _
    rw [iteR_eq, idxR_eq a r]; rfl
def goR (right : Bool) (x y : Nat) : Bool := iteR right (Nat.blt x y) (iteR (Nat.blt y x) false true)
theorem goR_eq (right : Bool) (x y : Nat) : goR right x y = goN right x y := by
  unfold goR goN
  rw [iteR_eq, iteR_eq]
  cases right <;> cases Nat.blt y x <;> simp
def bisR (l : List Nat) (x t : Nat) (right : Bool) (row : List Nat) (f lo hi : Nat) (k : List Q3 → Nat → β) : β :=
  Nat.rec (motive := fun _ => Nat → Nat → (List Q3 → Nat → β) → β) (fun lo _ k => k [] lo)
    (fun _ ih lo hi k => iteR (Nat.blt lo hi) (fNR (Nat.div (Nat.add lo hi) 2) fun mid => fNR (nthR row mid) fun o =>
      iteR (goR right x (nthR l o)) (ih lo mid fun q p => k ((t, o, right) :: q) p) (ih (Nat.succ mid) hi fun q p => k ((t, o, right) :: q) p)) (k [] lo)) f lo hi k
theorem blt_if {a b : Nat} {x y : β} : (bif Nat.blt a b then x else y) = if a < b then x else y := by
  have h : Nat.blt a b = decide (a < b) := by rw [Bool.eq_iff_iff, decide_eq_true_iff, Nat.blt, Nat.ble_eq]; omega
  rw [h]
  by_cases q : a < b <;> simp [q]
theorem bisR_eq (l : List Nat) (t : Nat) (right : Bool) (row : List Nat) : ∀ (f lo hi : Nat) (k : List Q3 → Nat → β), bisR l (nth l t) t right row f lo hi k = bisE l t right row f lo hi k
  | 0, lo, hi, k => rfl
  | f + 1, lo, hi, k => by
    show iteR (Nat.blt lo hi) (fNR ((lo + hi) / 2) fun mid => fNR (nthR row mid) fun o => iteR (goR right (nth l t) (nthR l o)) (bisR l (nth l t) t right row f lo mid fun q p => k ((t, o, right) :: q) p) (bisR l (nth l t) t right row f (mid + 1) hi fun q p => k ((t, o, right) :: q) p)) (k [] lo) = _
    rw [iteR_eq, blt_if, bisE, fNR_eq, fNR_eq, iteR_eq, fN_eq, fN_eq, nthR_eq, nthR_eq, goR_eq, bisR_eq l t right row f, bisR_eq l t right row f]
    rfl
def placeR (l : List Nat) (t : Nat) (right : Bool) (row : List Nat) (n hi : Nat) (k : List Q3 → Nat → β) : β :=
  fNR hi fun hi => fNR (nthR l t) fun x => bisR l x t right row n 0 hi fun q p => fNR p fun p' => k q p'
theorem placeR_eq (l : List Nat) (t : Nat) (right : Bool) (row : List Nat) (high : Option Nat) (k : List Q3 → Nat → β) :
    placeR l t right row row.length (high.getD row.length) k = k (place (numOf l) t right row high).1 (place (numOf l) t right row high).2 := by
  rw [placeR, fNR_eq, fNR_eq, nthR_eq, bisR_eq, bisE_eq, fNR_eq]; rfl
def pairR (l : List Nat) (things : List Nat) (k : List (Nat × Nat) → List Q3 → β) : β := match things with
  | a :: b :: r => iteR (Nat.blt (nthR l b) (nthR l a)) (pairR l r fun u qs => k ((a, b) :: u) ((b, a, true) :: qs)) (pairR l r fun u qs => k ((b, a) :: u) ((b, a, true) :: qs))
  | [] => k [] []
  | [_] => k [] []
theorem place_one (l : List Nat) (a b : Nat) : place (numOf l) b true [a] (some 1) = ([(b, a, true)], bif Nat.blt (nth l b) (nth l a) then 0 else 1) := by
  have h := goN_eq true (nth l b) (nth l a)
  unfold place
  rw [show [a].length = 1 from rfl, bis]
  rw [if_pos (by decide : (0 : Nat) < (some 1).getD 1)]
  rw [show ([a].getD ((0 + (some 1).getD 1) / 2) 0) = a from rfl]
  cases hb : Nat.blt (nth l b) (nth l a) with
  | true =>
    have : goL true (numOf l b) (numOf l a) = true := by rw [← h]; exact hb
    rw [if_pos this]; rfl
  | false =>
    have : goL true (numOf l b) (numOf l a) = false := by rw [← h]; exact hb
    rw [if_neg (by rw [this]; exact Bool.false_ne_true)]; rfl
theorem pairR_eq (l : List Nat) : ∀ (things : List Nat) (k : List (Nat × Nat) → List Q3 → β), pairR l things k = k (pairUp (numOf l) things).1 (pairUp (numOf l) things).2
  | [], k => rfl
  | [_], k => rfl
  | a :: b :: r, k => by
    rw [pairR, iteR_eq, pairR_eq l r, pairR_eq l r, pairUp_cons, place_one, nthR_eq, nthR_eq]
    cases Nat.blt (nth l b) (nth l a) <;> rfl
def insR0 (l : List Nat) (p x : Nat) : List Nat := List.rec (motive := fun _ => Nat → List Nat) (fun _ => [x]) (fun a r ih p => Nat.rec (motive := fun _ => List Nat) (x :: a :: r) (fun p' _ => a :: ih p') p) l p
theorem insR0_eq : ∀ (l : List Nat) (p x : Nat), insR0 l p x = insertAt l p x
  | [], p, x => by simp [insertAt, insR0]
  | a :: r, 0, x => rfl
  | a :: r, p + 1, x => by
    show a :: insR0 r p x = _
    rw [insR0_eq r p x]; rfl
def appR (a b : List Q3) : List Q3 := List.rec (motive := fun _ => List Q3) b (fun q _ ih => q :: ih) a
theorem appR_eq : ∀ a b : List Q3, appR a b = a ++ b
  | [], b => rfl
  | q :: a, b => congrArg (List.cons q) (appR_eq a b)
def insR (l above : List Nat) (an : Nat) (lower ks row : List Nat) (n : Nat) (qs : List Q3) (k : List Nat → List Q3 → β) : β :=
  List.rec (motive := fun _ => List Nat → Nat → List Q3 → (List Nat → List Q3 → β) → β) (fun row _ qs k => k row qs)
    (fun i _ ih row n qs k => fNR i fun i => fNR (nthR lower i) fun x => fBR (Nat.beq (Nat.mod i 2) 0) fun right =>
      placeR l x right row n (iteR (Nat.blt i an) (idxR (nthR above i) row) n) fun q p => fSR (insR0 row p x) fun row' => ih row' (Nat.succ n) (appR qs q) k) ks row n qs k
theorem high_eq (above row : List Nat) (i : Nat) : iteR (Nat.blt i above.length) (idxR (nthR above i) row) row.length = (highOf above row i).getD row.length := by
  have hp : ∀ (a : Nat) (l : List Nat), posN a l = l.idxOf a := by
    intro a l
    induction l with
    | nil => rfl
    | cons b r ih =>
      have e : (b == a) = Nat.beq b a := by rw [Bool.eq_iff_iff, beq_iff_eq]; exact ⟨fun e => e ▸ Nat.beq_refl b, Nat.eq_of_beq_eq_true⟩
      rw [posN, List.idxOf_cons, ih, e]
  rw [iteR_eq, blt_if, idxR_eq, hp, nthR_eq]
  unfold highOf nth
  split <;> rfl
theorem insR_eq (l above lower : List Nat) : ∀ (ks row : List Nat) (qs : List Q3) (k : List Nat → List Q3 → β),
    insR l above above.length lower ks row row.length qs k = k (ks.foldl (insStep (numOf l) above lower) (row, qs)).1 (ks.foldl (insStep (numOf l) above lower) (row, qs)).2
  | [], row, qs, k => rfl
  | i :: is, row, qs, k => by
    show fNR i (fun i => fNR (nthR lower i) fun x => fBR (Nat.beq (Nat.mod i 2) 0) fun right =>
      placeR l x right row row.length (iteR (Nat.blt i above.length) (idxR (nthR above i) row) row.length) fun q p => fSR (insR0 row p x) fun row' => insR l above above.length lower is row' (Nat.succ row.length) (appR qs q) k) = _
    rw [fNR_eq, fNR_eq, fBR_eq, high_eq, placeR_eq, fSR_eq, insR0_eq, appR_eq]
    rw [show Nat.succ row.length = (insertAt row (place (numOf l) (nthR lower i) (Nat.beq (Nat.mod i 2) 0) row (highOf above row i)).2 (nthR lower i)).length from (insertAt_length _ _ _).symm]
    rw [insR_eq l above lower is, nthR_eq]
    have e : Nat.beq (Nat.mod i 2) 0 = (i % 2 == 0) := by rw [Bool.eq_iff_iff, beq_iff_eq]; exact ⟨Nat.eq_of_beq_eq_true, fun e => by rw [show Nat.mod i 2 = 0 from e]; rfl⟩
    rw [e]
    rfl
def lookR (u : List (Nat × Nat)) (x : Nat) : Nat := List.rec (motive := fun _ => Nat) 0 (fun p _ ih => iteR (Nat.beq p.1 x) p.2 ih) u
theorem lookR_eq (x : Nat) : ∀ u : List (Nat × Nat), lookR u x = look u x
  | [] => rfl
  | p :: r => by
    show iteR (Nat.beq p.1 x) p.2 (lookR r x) = _
    have e : (p.1 == x) = Nat.beq p.1 x := by rw [Bool.eq_iff_iff, beq_iff_eq]; exact ⟨fun e => e ▸ Nat.beq_refl p.1, Nat.eq_of_beq_eq_true⟩
    rw [iteR_eq, lookR_eq x r]
    unfold look
    rw [List.find?_cons, e]
    cases Nat.beq p.1 x <;> rfl
def keysR (u : List (Nat × Nat)) : List Nat := List.rec (motive := fun _ => List Nat) [] (fun p _ ih => p.1 :: ih) u
theorem keysR_eq : ∀ u : List (Nat × Nat), keysR u = u.map (·.1)
  | [] => rfl
  | p :: r => congrArg (List.cons p.1) (keysR_eq r)
def lowR (u : List (Nat × Nat)) (ab rest : List Nat) : List Nat := List.rec (motive := fun _ => List Nat) rest (fun a _ ih => lookR u a :: ih) ab
theorem lowR_eq (u : List (Nat × Nat)) (rest : List Nat) : ∀ ab : List Nat, lowR u ab rest = ab.map (look u) ++ rest
  | [] => rfl
  | a :: r => by
    show lookR u a :: lowR u r rest = _
    rw [lookR_eq, lowR_eq u rest r]; rfl
def ksR (n : Nat) : List Nat := iteR (Nat.blt n 6) (nthL [[], [], [1], [2, 1], [2, 1, 3], [2, 1, 4, 3]] n) (ksOf n)
where nthL (t : List (List Nat)) (k : Nat) : List Nat := List.rec (motive := fun _ => Nat → List Nat) (fun _ => []) (fun a _ ih k => Nat.rec (motive := fun _ => List Nat) a (fun j _ => ih j) k) t k
theorem ksR_eq (n : Nat) : ksR n = ksOf n := by
  unfold ksR
  rw [iteR_eq, blt_if]
  split
  · rename_i h
    match n, h with
    | 0, _ => rfl
    | 1, _ => rfl
    | 2, _ => rfl
    | 3, _ => rfl
    | 4, _ => rfl
    | 5, _ => rfl
  · rfl
def rowR (l : List Nat) (f : Nat) (things : List Nat) (k : List Nat → List Q3 → β) : β :=
  Nat.rec (motive := fun _ => List Nat → (List Nat → List Q3 → β) → β) (fun things k => k things [])
    (fun _ ih things k => iteR (Nat.blt (lenR things) 2) (k things []) (pairR l things fun u q1 => fSR (keysR u) fun keys => ih keys fun ab q2 =>
      fLR (lowR u ab (things.drop (2 * u.length))) fun lower => fNR (lenR ab) fun an => insR l ab an lower (ksR (lenR lower)) (nthR lower 0 :: ab) (Nat.succ an) [] fun row q3 => k row (appR (appR q1 q2) q3))) f things k
theorem rowR_eq (l : List Nat) : ∀ (f : Nat) (things : List Nat) (k : List Nat → List Q3 → β), rowR l f things k = k (rowF (numOf l) f things).1 (rowF (numOf l) f things).2
  | 0, things, k => rfl
  | f + 1, things, k => by
    show iteR (Nat.blt (lenR things) 2) (k things []) (pairR l things fun u q1 => fSR (keysR u) fun keys => rowR l f keys fun ab q2 =>
      fLR (lowR u ab (things.drop (2 * u.length))) fun lower => fNR (lenR ab) fun an => insR l ab an lower (ksR (lenR lower)) (nthR lower 0 :: ab) (Nat.succ an) [] fun row q3 => k row (appR (appR q1 q2) q3)) = _
    rw [iteR_eq, blt_if, lenR_eq]
    by_cases h : things.length < 2
    · rw [if_pos h, rowF, if_pos h]
    · rw [if_neg h, pairR_eq, fSR_eq, keysR_eq, rowR_eq l f, fLR_eq, lowR_eq, fNR_eq, lenR_eq, lenR_eq, ksR_eq, nthR_eq]
      rw [show Nat.succ (rowF (numOf l) f ((pairUp (numOf l) things).1.map (·.1))).1.length = (nth ((rowF (numOf l) f ((pairUp (numOf l) things).1.map (·.1))).1.map (look (pairUp (numOf l) things).1) ++ things.drop (2 * (pairUp (numOf l) things).1.length)) 0 :: (rowF (numOf l) f ((pairUp (numOf l) things).1.map (·.1))).1).length from rfl]
      rw [insR_eq, appR_eq, appR_eq, rowF_step _ _ _ h]
      rfl
end
def andR (a b : Bool) : Bool := Bool.rec (motive := fun _ => Bool) false b a
theorem andR_eq (a b : Bool) : andR a b = (a && b) := by cases a <;> rfl
def orR (a b : Bool) : Bool := Bool.rec (motive := fun _ => Bool) b true a
theorem orR_eq (a b : Bool) : orR a b = (a || b) := by cases a <;> rfl
def notR (a : Bool) : Bool := Bool.rec (motive := fun _ => Bool) true false a
theorem notR_eq (a : Bool) : notR a = !a := by cases a <;> rfl
def eqR (a b : Bool) : Bool := Bool.rec (motive := fun _ => Bool) (notR b) b a
theorem eqR_eq (a b : Bool) : eqR a b = (a == b) := by cases a <;> cases b <;> rfl
def memR (a : Nat) (l : List Nat) : Bool := List.rec (motive := fun _ => Bool) false (fun b _ ih => orR (Nat.beq b a) ih) l
theorem memR_eq (a : Nat) : ∀ l : List Nat, memR a l = memN a l
  | [] => rfl
  | b :: r => by
    show orR (Nat.beq b a) (memR a r) = _
    rw [orR_eq, memR_eq a r]; rfl
def allMR (row : List Nat) (ts : List Nat) : Bool := List.rec (motive := fun _ => Bool) true (fun t _ ih => andR (memR t row) ih) ts
theorem allMR_eq (row : List Nat) : ∀ ts : List Nat, allMR row ts = ts.all fun k => memN k row
  | [] => rfl
  | t :: r => by
    show andR (memR t row) (allMR row r) = _
    rw [andR_eq, memR_eq, allMR_eq row r, List.all_cons]
def sortR (l : List Nat) (x : Nat) (row : List Nat) : Bool := List.rec (motive := fun _ => Nat → Bool) (fun _ => true) (fun b _ ih x => fNR (nthR l b) fun y => andR (Nat.ble x y) (ih y)) row x
theorem sortR_eq (l : List Nat) : ∀ (row : List Nat) (a : Nat), sortR l (nth l a) row = sortedN l (a :: row)
  | [], a => rfl
  | b :: r, a => by
    show fNR (nthR l b) (fun y => andR (Nat.ble (nth l a) y) (sortR l y r)) = _
    rw [fNR_eq, andR_eq, nthR_eq, sortR_eq l r b]; rfl
def sortR0 (l row : List Nat) : Bool := List.rec (motive := fun _ => Bool) true (fun a r _ => fNR (nthR l a) fun x => sortR l x r) row
theorem sortR0_eq (l : List Nat) : ∀ row : List Nat, sortR0 l row = sortedN l row
  | [] => rfl
  | a :: r => by
    show fNR (nthR l a) (fun x => sortR l x r) = _
    rw [fNR_eq, nthR_eq, sortR_eq]
def memPR (a b : Nat) (l : List (Nat × Nat)) : Bool := List.rec (motive := fun _ => Bool) false (fun p _ ih => orR (andR (Nat.beq p.1 a) (Nat.beq p.2 b)) ih) l
theorem memPR_eq (a b : Nat) : ∀ l : List (Nat × Nat), memPR a b l = memP a b l
  | [] => rfl
  | p :: r => by
    show orR (andR (Nat.beq p.1 a) (Nat.beq p.2 b)) (memPR a b r) = _
    rw [orR_eq, andR_eq, memPR_eq a b r]; rfl
def nodupR (l : List (Nat × Nat)) : Bool := List.rec (motive := fun _ => Bool) true (fun a r ih => andR (notR (memPR a.1 a.2 r)) ih) l
theorem nodupR_eq : ∀ l : List (Nat × Nat), nodupR l = nodupB l
  | [] => rfl
  | a :: r => by
    show andR (notR (memPR a.1 a.2 r)) (nodupR r) = _
    rw [andR_eq, notR_eq, memPR_eq, nodupR_eq r]; rfl
def adjR (ps : List (Nat × Nat)) (a : Nat) (row : List Nat) : Bool := List.rec (motive := fun _ => Nat → Bool) (fun _ => true) (fun b _ ih a => andR (iteR (Nat.ble a b) (memPR a b ps) (memPR b a ps)) (ih b)) row a
theorem adjR_eq (ps : List (Nat × Nat)) : ∀ (row : List Nat) (a : Nat), adjR ps a row = adjB ps (a :: row)
  | [], a => rfl
  | b :: r, a => by
    show andR (iteR (Nat.ble a b) (memPR a b ps) (memPR b a ps)) (adjR ps b r) = _
    rw [andR_eq, iteR_eq, memPR_eq, memPR_eq, adjR_eq ps r b]; rfl
def adjR0 (ps : List (Nat × Nat)) (row : List Nat) : Bool := List.rec (motive := fun _ => Bool) true (fun a r _ => adjR ps a r) row
theorem adjR0_eq (ps : List (Nat × Nat)) : ∀ row : List Nat, adjR0 ps row = adjB ps row
  | [] => rfl
  | a :: r => adjR_eq ps r a
def fPR {β : Type} (l : List Q3) (k : List (Nat × Nat) → β) : β := List.rec (motive := fun _ => (List (Nat × Nat) → β) → β) (fun k => k []) (fun q _ ih k => iteR (Nat.ble q.1 q.2.1) (ih fun r' => k ((q.1, q.2.1) :: r')) (ih fun r' => k ((q.2.1, q.1) :: r'))) l k
theorem fPR_eq {β : Type} : ∀ (l : List Q3) (k : List (Nat × Nat) → β), fPR l k = k (l.map pairB)
  | [], k => rfl
  | q :: r, k => by
    show iteR (Nat.ble q.1 q.2.1) (fPR r fun r' => k ((q.1, q.2.1) :: r')) (fPR r fun r' => k ((q.2.1, q.1) :: r')) = _
    rw [iteR_eq, fPR_eq r, fPR_eq r, List.map_cons, pairB]
    by_cases h : q.1 ≤ q.2.1
    · rw [if_pos h, Nat.ble_eq.mpr h]; rfl
    · rw [if_neg h, show Nat.ble q.1 q.2.1 = false from by rw [Bool.eq_false_iff]; intro z; exact h (Nat.ble_eq.mp z)]; rfl
def befR (a b : Nat) (row : List Nat) : Bool := List.rec (motive := fun _ => Bool) false (fun c _ ih => iteR (Nat.beq c b) false (iteR (Nat.beq c a) true ih)) row
theorem befR_eq (a b : Nat) : ∀ row : List Nat, befR a b row = Nat.blt (posN a row) (posN b row)
  | [] => rfl
  | c :: r => by
    show iteR (Nat.beq c b) false (iteR (Nat.beq c a) true (befR a b r)) = _
    rw [iteR_eq, iteR_eq, befR_eq a b r, posN, posN]
    cases Nat.beq c b with
    | true => rw [cond_true, cond_true]; rfl
    | false =>
      rw [cond_false, cond_false]
      cases Nat.beq c a with
      | true => rfl
      | false => rfl
def qsR (l : List Nat) (n : Nat) (row : List Nat) (qs : List Q3) : Bool := List.rec (motive := fun _ => Bool) true (fun q _ ih => andR (andR (andR (Nat.blt q.1 n) (Nat.blt q.2.1 n))
  (fNR (nthR l q.1) fun x => fNR (nthR l q.2.1) fun y => eqR (befR q.1 q.2.1 row) (orR (Nat.blt x y) (andR (Nat.beq x y) (notR q.2.2))))) ih) qs
theorem qsR_eq (l : List Nat) (n : Nat) (row : List Nat) : ∀ qs : List Q3, qsR l n row qs = qs.all fun q => Nat.blt q.1 n && Nat.blt q.2.1 n && (Nat.blt (posN q.1 row) (posN q.2.1 row) == (Nat.blt (nth l q.1) (nth l q.2.1) || (Nat.beq (nth l q.1) (nth l q.2.1) && !q.2.2)))
  | [] => rfl
  | q :: r => by
    show andR (andR (andR (Nat.blt q.1 n) (Nat.blt q.2.1 n)) (fNR (nthR l q.1) fun x => fNR (nthR l q.2.1) fun y => eqR (befR q.1 q.2.1 row) (orR (Nat.blt x y) (andR (Nat.beq x y) (notR q.2.2))))) (qsR l n row r) = _
    rw [andR_eq, andR_eq, andR_eq, fNR_eq, fNR_eq, eqR_eq, orR_eq, andR_eq, notR_eq, befR_eq, nthR_eq, nthR_eq, qsR_eq l n row r, List.all_cons]
def lenQR (l : List Q3) : Nat := List.rec (motive := fun _ => Nat) 0 (fun _ _ ih => Nat.succ ih) l
theorem lenQR_eq : ∀ l : List Q3, lenQR l = l.length
  | [] => rfl
  | _ :: r => congrArg Nat.succ (lenQR_eq r)
def lawR (l ts : List Nat) (n : Nat) (row : List Nat) (qs : List Q3) : Bool :=
  andR (andR (andR (andR (allMR row ts) (sortR0 l row)) (Nat.blt (2 ^ lenQR qs) (2 * factB n))) (qsR l n row qs)) (fPR qs fun ps => andR (nodupR ps) (adjR0 ps row))
theorem lawR_eq (l : List Nat) (n : Nat) (row : List Nat) (qs : List Q3) : lawR l (List.range n) n row qs = lawN l n row qs := by
  unfold lawR lawN
  rw [andR_eq, andR_eq, andR_eq, andR_eq, allMR_eq, sortR0_eq, lenQR_eq, qsR_eq, fPR_eq, fP_eq, andR_eq, nodupR_eq, adjR0_eq]
def okR (us : List Nat) : Bool := fLR ([4, 5, 4, 6, 6] ++ us) fun l => fNR (lenR l) fun n => fLR (List.range n) fun ts => rowR l 9 ts fun row qs => lawR l ts n row qs
theorem okR_eq (us : List Nat) : okR us = okN us := by
  unfold okR okN
  rw [fLR_eq, fNR_eq, lenR_eq, fLR_eq, rowR_eq, rowE_eq, fL_eq, lawR_eq]
  have e : ([4, 5, 4, 6, 6] ++ us).length = 5 + us.length := by simp; omega
  rw [e]
end
end Mine
end
section
namespace Mine
section
variable {num num' : Nat → Int} {n : Nat} (H : ∀ x, x < n → ∀ y, y < n → (num x < num y ↔ num' x < num' y))
include H
theorem goL_congr (right : Bool) {x y : Nat} (hx : x < n) (hy : y < n) : goL right (num x) (num y) = goL right (num' x) (num' y) := by
  unfold goL
  split
  · rw [Bool.eq_iff_iff, decide_eq_true_iff, decide_eq_true_iff]; exact H x hx y hy
  · rw [show decide (num y < num x) = decide (num' y < num' x) from by rw [Bool.eq_iff_iff, decide_eq_true_iff, decide_eq_true_iff]; exact H y hy x hx]
theorem bis_congr {t : Nat} (right : Bool) {row : List Nat} (ht : t < n) (hr : ∀ o ∈ row, o < n) : ∀ (f lo hi : Nat), hi ≤ row.length → bis num t right row f lo hi = bis num' t right row f lo hi
  | 0, lo, hi, _ => rfl
  | f + 1, lo, hi, h => by
    rw [bis, bis]
    split
    · rename_i hlt
      have hm : row.getD ((lo + hi) / 2) 0 < n := hr _ (getD_mem (by omega))
      rw [goL_congr H right ht hm, bis_congr right ht hr f lo _ (by omega), bis_congr right ht hr f _ hi h]
    · rfl
theorem place_congr {t : Nat} (right : Bool) {row : List Nat} (ht : t < n) (hr : ∀ o ∈ row, o < n) {high : Option Nat} (hh : high.getD row.length ≤ row.length) : place num t right row high = place num' t right row high := by
  unfold place
  exact bis_congr H right ht hr _ _ _ hh
theorem pairUp_congr : ∀ (l : List Nat), (∀ o ∈ l, o < n) → pairUp num l = pairUp num' l
  | [], _ => rfl
  | [_], _ => rfl
  | a :: b :: r, h => by
    rw [pairUp_cons, pairUp_cons, place_congr H true (row := [a]) (high := some 1) (h b (by simp)) (by simpa using h a (by simp)) (by simp), pairUp_congr r (fun o ho => h o (by simp [ho]))]
theorem highOf_le {above row : List Nat} (hs : ∀ x ∈ above, x ∈ row) (k : Nat) : (highOf above row k).getD row.length ≤ row.length := by
  unfold highOf
  split
  · rename_i h
    exact Nat.le_of_lt (List.idxOf_lt_length_of_mem (hs _ (getD_mem h)))
  · exact Nat.le_refl _
theorem fold_congr {above lower : List Nat} (hl : ∀ o ∈ lower, o < n) (hn : 0 < n) : ∀ (ks : List Nat) (st : List Nat × List Q3), (∀ o ∈ st.1, o < n) → (∀ x ∈ above, x ∈ st.1) →
    ks.foldl (insStep num above lower) st = ks.foldl (insStep num' above lower) st
  | [], _, _, _ => rfl
  | k :: ks, st, h1, h2 => by
    have ht : lower.getD k 0 < n := by
      rw [List.getD_eq_getElem?_getD]
      cases q : lower[k]? with
      | none => exact hn
      | some v => exact hl _ (List.mem_of_getElem? q)
    have hp : place num (lower.getD k 0) (k % 2 == 0) st.1 (highOf above st.1 k) = place num' (lower.getD k 0) (k % 2 == 0) st.1 (highOf above st.1 k) := place_congr H _ ht h1 (highOf_le H h2 k)
    have hi : insStep num above lower st k = insStep num' above lower st k := by unfold insStep; rw [hp]
    rw [List.foldl_cons, List.foldl_cons, hi]
    refine fold_congr hl hn ks _ (fun o ho => ?_) (fun x hx => insertAt_mem.mpr (.inr (h2 x hx)))
    rcases insertAt_mem.mp ho with rfl | ho
    · exact ht
    · exact h1 o ho
theorem rowF_congr : ∀ (f : Nat) (things : List Nat), things.length ≤ 10 → (∀ o ∈ things, o < n) → rowF num f things = rowF num' f things
  | 0, things, _, _ => rfl
  | f + 1, things, hl, hb => by
    by_cases hs : things.length < 2
    · rw [rowF, rowF, if_pos hs, if_pos hs]
    · have hpc := pairUp_congr H things hb
      have hkl : ((pairUp num things).1.map (·.1)).length = things.length / 2 := by rw [List.length_map, pairUp_len]
      have hkb : ∀ o ∈ (pairUp num things).1.map (·.1), o < n := fun o ho => hb o ((pairUp_keys num things).1 o ho)
      have ih := rowF_congr f ((pairUp num things).1.map (·.1)) (by omega) hkb
      have hk := rowF_keys num f ((pairUp num things).1.map (·.1)) (by omega)
      have hn : 0 < n := by
        match things, hs, hb with
        | a :: _, _, hb => exact Nat.lt_of_le_of_lt (Nat.zero_le _) (hb a (.head _))
        | [], hs, _ => exact absurd (by decide) hs
      have hlm := lowerOf_mem (num := num) hk.1
      have hlow : lowerOf num things (rowF num f ((pairUp num things).1.map (·.1))).1 = lowerOf num' things (rowF num f ((pairUp num things).1.map (·.1))).1 := by unfold lowerOf; rw [hpc]
      have hll := lowerOf_len (num := num) (things := things) (ab := (rowF num f ((pairUp num things).1.map (·.1))).1) (by rw [hk.2, List.length_map])
      have hfold := fold_congr H (above := (rowF num f ((pairUp num things).1.map (·.1))).1) (lower := lowerOf num things (rowF num f ((pairUp num things).1.map (·.1))).1) (fun o ho => hb o (hlm o ho)) hn (ksOf (lowerOf num things (rowF num f ((pairUp num things).1.map (·.1))).1).length)
        ((lowerOf num things (rowF num f ((pairUp num things).1.map (·.1))).1).getD 0 0 :: (rowF num f ((pairUp num things).1.map (·.1))).1, [])
        (fun o ho => by
          rcases List.mem_cons.mp ho with rfl | ho
          · exact hb _ (hlm _ (getD_mem (by omega)))
          · exact hkb _ (hk.1 o ho)) (fun x hx => .tail _ hx)
      rw [rowF_step num f things hs, rowF_step num' f things hs, ← hpc, ← ih, ← hlow, hfold]
end
end Mine
end
section
namespace Mine
def canB (us : List Nat) : Bool := us.all fun u => bif Nat.blt u 4 then Nat.beq (u + us.countP (fun v => Nat.blt u v && Nat.blt v 4)) 3 else (bif Nat.blt 6 u then Nat.beq u (7 + us.countP (fun v => Nat.blt 6 v && Nat.blt v u)) else true)
noncomputable section
def cntR (a b : Nat) (us : List Nat) : Nat := List.rec (motive := fun _ => Nat) 0 (fun v _ ih => iteR (Nat.blt a v) (iteR (Nat.blt v b) (Nat.succ ih) ih) ih) us
theorem cntR_eq (a b : Nat) : ∀ us : List Nat, cntR a b us = us.countP fun v => Nat.blt a v && Nat.blt v b
  | [] => rfl
  | v :: r => by
    show iteR (Nat.blt a v) (iteR (Nat.blt v b) (Nat.succ (cntR a b r)) (cntR a b r)) (cntR a b r) = _
    rw [iteR_eq, iteR_eq, cntR_eq a b r, List.countP_cons]
    cases Nat.blt a v <;> cases Nat.blt v b <;> rfl
def can1 (us : List Nat) (u : Nat) : Bool := iteR (Nat.blt u 4) (Nat.beq (Nat.add u (cntR u 4 us)) 3) (iteR (Nat.blt 6 u) (Nat.beq u (Nat.add 7 (cntR 6 u us))) true)
def canR (us vs : List Nat) : Bool := List.rec (motive := fun _ => Bool) true (fun u _ ih => andR (can1 us u) ih) vs
theorem canR_eq (us : List Nat) : ∀ vs : List Nat, canR us vs = vs.all fun u => bif Nat.blt u 4 then Nat.beq (u + us.countP (fun v => Nat.blt u v && Nat.blt v 4)) 3 else (bif Nat.blt 6 u then Nat.beq u (7 + us.countP (fun v => Nat.blt 6 v && Nat.blt v u)) else true)
  | [] => rfl
  | u :: r => by
    show andR (can1 us u) (canR us r) = _
    rw [andR_eq, can1, iteR_eq, iteR_eq, cntR_eq, cntR_eq, canR_eq us r, List.all_cons]; rfl
def okC (us : List Nat) : Bool := iteR (canR us us) (okR us) true
end
theorem okC_eq (us : List Nat) : okC us = (!canB us || okN us) := by
  rw [okC, iteR_eq, canR_eq, okR_eq, canB]
  cases (us.all fun u => bif Nat.blt u 4 then Nat.beq (u + us.countP (fun v => Nat.blt u v && Nat.blt v 4)) 3 else (bif Nat.blt 6 u then Nat.beq u (7 + us.countP (fun v => Nat.blt 6 v && Nat.blt v u)) else true)) <;> rfl
theorem okc0 : allB 0 okC = true := by decide +kernel
theorem okc1 : allB 1 okC = true := by decide +kernel
theorem okc2 : allB 2 okC = true := by decide +kernel
end Mine
end
section
namespace Mine
theorem okc3 : allB 3 okC = true := by decide +kernel
end Mine
end
section
namespace Mine
theorem countP_lt {α : Type} {p q : α → Bool} (h : ∀ x, p x = true → q x = true) : ∀ {l : List α} {b : α}, b ∈ l → q b = true → p b = false → l.countP p < l.countP q
  | a :: r, b, hb, hq, hp => by
    have hle : r.countP p ≤ r.countP q := List.countP_mono_left (fun x _ hx => h x hx)
    rw [List.countP_cons, List.countP_cons]
    rcases List.mem_cons.mp hb with rfl | hb
    · simp [hq, hp]; omega
    · have ih := countP_lt h hb hq hp
      cases e : p a with
      | true => simp [h a e]; omega
      | false => cases q a <;> simp <;> omega
def cLo (xs : List Int) (x : Int) : Nat := xs.countP fun y => decide (x < y) && decide (y < 3)
def cHi (xs : List Int) (x : Int) : Nat := xs.countP fun y => decide (5 < y) && decide (y < x)
def gOf (xs : List Int) (x : Int) : Nat := if x < 3 then 3 - cLo xs x else if x ≤ 5 then (x + 1).toNat else 7 + cHi xs x
theorem cLo_le {xs : List Int} {x : Int} (hx : x ∈ xs) (h : xs.length ≤ 4) : cLo xs x ≤ 3 := by
  have h1 : cLo xs x < xs.countP (fun _ => true) := countP_lt (fun _ _ => rfl) hx rfl (by simp)
  rw [List.countP_true] at h1
  omega
theorem cHi_le {xs : List Int} {x : Int} (hx : x ∈ xs) (h : xs.length ≤ 4) : cHi xs x ≤ 3 := by
  have h1 : cHi xs x < xs.countP (fun _ => true) := countP_lt (fun _ _ => rfl) hx rfl (by simp)
  rw [List.countP_true] at h1
  omega
theorem g_mono {xs : List Int} (h : xs.length ≤ 4) {a b : Int} (ha : a ∈ xs ∨ (3 ≤ a ∧ a ≤ 5)) (hb : b ∈ xs ∨ (3 ≤ b ∧ b ≤ 5)) (hab : a < b) : gOf xs a < gOf xs b := by
  unfold gOf
  by_cases a3 : a < 3
  · have ham : a ∈ xs := by rcases ha with h | h; exact h; omega
    have la := cLo_le ham h
    rw [if_pos a3]
    by_cases b3 : b < 3
    · have hbm : b ∈ xs := by rcases hb with h | h; exact h; omega
      rw [if_pos b3]
      have : cLo xs b < cLo xs a := countP_lt (fun x hx => by simp at hx ⊢; omega) hbm (by simp; omega) (by simp)
      omega
    · rw [if_neg b3]
      split <;> omega
  · rw [if_neg a3]
    have b3 : ¬ b < 3 := by omega
    rw [if_neg b3]
    by_cases a5 : a ≤ 5
    · rw [if_pos a5]
      split <;> omega
    · rw [if_neg a5, if_neg (by omega)]
      have ham : a ∈ xs := by rcases ha with h | h; exact h; omega
      have : cHi xs a < cHi xs b := countP_lt (fun x hx => by simp at hx ⊢; omega) ham (by simp; omega) (by simp)
      omega
theorem g_iff {xs : List Int} (h : xs.length ≤ 4) {a b : Int} (ha : a ∈ xs ∨ (3 ≤ a ∧ a ≤ 5)) (hb : b ∈ xs ∨ (3 ≤ b ∧ b ≤ 5)) : a < b ↔ gOf xs a < gOf xs b := by
  refine ⟨g_mono h ha hb, fun q => ?_⟩
  rcases Int.lt_trichotomy a b with z | z | z
  · exact z
  · subst z; omega
  · have := g_mono h hb ha z; omega
theorem g_le {xs : List Int} (h : xs.length ≤ 4) {a : Int} (ha : a ∈ xs) : gOf xs a ≤ 10 := by
  have := cHi_le ha h
  unfold gOf
  split
  · omega
  · split <;> omega
theorem g_lo (xs : List Int) (y : Int) : gOf xs y < 4 ↔ y < 3 := by
  unfold gOf
  split
  · omega
  · split <;> omega
theorem g_hi (xs : List Int) (y : Int) : 6 < gOf xs y ↔ 5 < y := by
  unfold gOf
  split
  · omega
  · split <;> omega
theorem blt_iff (a b : Nat) : Nat.blt a b = true ↔ a < b := by rw [Nat.blt, Nat.ble_eq]; omega
theorem beq_iff' (a b : Nat) : (Nat.beq a b = true) = (a = b) := propext ⟨Nat.eq_of_beq_eq_true, fun e => e ▸ Nat.beq_refl a⟩
theorem can_ok {xs : List Int} (h : xs.length ≤ 4) : canB (xs.map (gOf xs)) = true := by
  unfold canB
  rw [List.all_eq_true]
  intro u hu
  obtain ⟨x, hx, rfl⟩ := List.mem_map.mp hu
  by_cases h1 : x < 3
  · rw [(blt_iff _ 4).mpr ((g_lo xs x).mpr h1), cond_true, beq_iff', List.countP_map]
    have : xs.countP ((fun v => Nat.blt (gOf xs x) v && Nat.blt v 4) ∘ gOf xs) = cLo xs x := by
      refine List.countP_congr fun y hy => ?_
      simp only [Function.comp, Bool.and_eq_true, blt_iff, decide_eq_true_eq, g_lo]
      rw [← g_iff h (.inl hx) (.inl hy)]
    rw [this]
    have := cLo_le hx h
    unfold gOf
    rw [if_pos h1]; omega
  · have n1 : Nat.blt (gOf xs x) 4 = false := by
      rw [Bool.eq_false_iff]; intro q; exact h1 ((g_lo xs x).mp ((blt_iff _ _).mp q))
    rw [n1, cond_false]
    by_cases h2 : 5 < x
    · rw [(blt_iff 6 _).mpr ((g_hi xs x).mpr h2), cond_true, beq_iff', List.countP_map]
      have : xs.countP ((fun v => Nat.blt 6 v && Nat.blt v (gOf xs x)) ∘ gOf xs) = cHi xs x := by
        refine List.countP_congr fun y hy => ?_
        simp only [Function.comp, Bool.and_eq_true, blt_iff, decide_eq_true_eq, g_hi]
        rw [← g_iff h (.inl hy) (.inl hx)]
      rw [this]
      unfold gOf
      rw [if_neg h1, if_neg (by omega)]
    · have n2 : Nat.blt 6 (gOf xs x) = false := by
        rw [Bool.eq_false_iff]; intro q; exact h2 ((g_hi xs x).mp ((blt_iff _ _).mp q))
      rw [n2, cond_false]
end Mine
end
section
namespace Mine
theorem okc4n0 : (allB 3 fun ys => okC (0 :: ys)) = true := by decide +kernel
theorem okc4n1 : (allB 3 fun ys => okC (1 :: ys)) = true := by decide +kernel
theorem okc4n2 : (allB 3 fun ys => okC (2 :: ys)) = true := by decide +kernel
theorem okc4n3 : (allB 3 fun ys => okC (3 :: ys)) = true := by decide +kernel
theorem okc4n4 : (allB 3 fun ys => okC (4 :: ys)) = true := by decide +kernel
theorem okc4n5 : (allB 3 fun ys => okC (5 :: ys)) = true := by decide +kernel
theorem okc4n6 : (allB 3 fun ys => okC (6 :: ys)) = true := by decide +kernel
theorem okc4n7 : (allB 3 fun ys => okC (7 :: ys)) = true := by decide +kernel
theorem okc4n8 : (allB 3 fun ys => okC (8 :: ys)) = true := by decide +kernel
theorem okc4n9 : (allB 3 fun ys => okC (9 :: ys)) = true := by decide +kernel
theorem okc4n10 : (allB 3 fun ys => okC (10 :: ys)) = true := by decide +kernel
theorem okc4 : allB 4 okC = true := by
  show (vals.all fun v => allB 3 fun ys => okC (v :: ys)) = true
  simp only [vals, List.all_cons, List.all_nil, okc4n0, okc4n1, okc4n2, okc4n3, okc4n4, okc4n5, okc4n6, okc4n7, okc4n8, okc4n9, okc4n10, Bool.and_self]
end Mine
end
section
namespace Mine
theorem allB_mem : ∀ (n : Nat) (p : List Nat → Bool), allB n p = true → ∀ us : List Nat, us.length = n → (∀ u ∈ us, u ≤ 10) → p us = true
  | 0, p, h, us, hl, _ => by
    match us, hl with
    | [], _ => exact h
  | n + 1, p, h, us, hl, hu => by
    match us, hl with
    | u :: us, hl =>
      have h1 := List.all_eq_true.mp (show (vals.all fun v => allB n fun ys => p (v :: ys)) = true from h) u (by
        have := hu u (.head _)
        have : ∀ u, u < 11 → u ∈ vals := by decide
        exact this u (by omega))
      exact allB_mem n (fun ys => p (u :: ys)) h1 us (by simpa using hl) (fun v hv => hu v (.tail _ hv))
end Mine
end
section
namespace Mine
abbrev nsOf (xs : List Int) : List Int := [3, 4, 3, 5, 5] ++ xs
abbrev numX (xs : List Int) (k : Nat) : Int := (nsOf xs).getD k 0
structure PlainOk (xs : List Int) (row : List Nat) (qs : List Q3) : Prop where
  few : qs.length ≤ 19
  perm : (row.map (numX xs)).Perm (nsOf xs)
  sorted : (row.map (numX xs)).Pairwise (· ≤ ·)
  fact : 2 ^ qs.length < 2 * factB (5 + xs.length)
  nodup : (qs.map pairB).Nodup
  mem : ∀ q ∈ qs, q.1 < 5 + xs.length ∧ q.2.1 < 5 + xs.length
  order : ∀ q ∈ qs, decide (row.idxOf q.1 < row.idxOf q.2.1) = (decide (numX xs q.1 < numX xs q.2.1) || (decide (numX xs q.1 = numX xs q.2.1) && !q.2.2))
  adj : ∀ k, 1 ≤ k → k < 5 + xs.length → pairB (row.getD (k - 1) 0, row.getD k 0, true) ∈ qs.map pairB
  all : ∀ k, k < 5 + xs.length → k ∈ row
theorem memN_iff {a : Nat} : ∀ {l : List Nat}, memN a l = true ↔ a ∈ l
  | [] => by simp [memN]
  | b :: r => by
    rw [memN, Bool.or_eq_true, beq_iff', memN_iff, List.mem_cons]
    constructor
    · rintro (h | h)
      · exact .inl h.symm
      · exact .inr h
    · rintro (h | h)
      · exact .inl h.symm
      · exact .inr h
theorem memP_iff {a b : Nat} : ∀ {l : List (Nat × Nat)}, memP a b l = true ↔ (a, b) ∈ l
  | [] => by simp [memP]
  | p :: r => by
    rw [memP, Bool.or_eq_true, Bool.and_eq_true, beq_iff', beq_iff', memP_iff, List.mem_cons]
    constructor
    · rintro (⟨h1, h2⟩ | h)
      · exact .inl (Prod.ext h1.symm h2.symm)
      · exact .inr h
    · rintro (h | h)
      · exact .inl ⟨by rw [← h], by rw [← h]⟩
      · exact .inr h
theorem posN_eq {a : Nat} : ∀ {l : List Nat}, posN a l = l.idxOf a
  | [] => rfl
  | b :: r => by
    have e : (b == a) = Nat.beq b a := by rw [Bool.eq_iff_iff, beq_iff_eq, beq_iff']
    rw [posN, List.idxOf_cons, posN_eq, e]
    done
theorem nodupB_nodup : ∀ {l : List (Nat × Nat)}, nodupB l = true → l.Nodup
  | [], _ => List.nodup_nil
  | a :: r, h => by
    rw [nodupB, Bool.and_eq_true, Bool.not_eq_true'] at h
    refine List.nodup_cons.mpr ⟨fun hm => ?_, nodupB_nodup h.2⟩
    have := memP_iff.mpr (show (a.1, a.2) ∈ r from hm)
    rw [h.1] at this; cases this
theorem adjB_adj {ps : List (Nat × Nat)} : ∀ {row : List Nat}, adjB ps row = true → ∀ k, k + 1 < row.length → pairB (row.getD k 0, row.getD (k + 1) 0, true) ∈ ps
  | [], _, k, h => by simp at h
  | [_], _, k, h => by simp at h
  | a :: b :: r, h, k, hk => by
    rw [adjB, Bool.and_eq_true] at h
    match k, hk with
    | 0, _ =>
      have h1 := h.1
      show pairB (a, b, true) ∈ ps
      unfold pairB
      dsimp only
      by_cases hab : a ≤ b
      · rw [if_pos hab]
        rw [show Nat.ble a b = true from Nat.ble_eq.mpr hab, cond_true] at h1
        exact memP_iff.mp h1
      · rw [if_neg hab]
        rw [show Nat.ble a b = false from by rw [Bool.eq_false_iff]; intro q; exact hab (Nat.ble_eq.mp q), cond_false] at h1
        exact memP_iff.mp h1
    | k + 1, hk =>
      have := adjB_adj (row := b :: r) h.2 k (by simpa using hk)
      simpa using this
theorem sortedN_pair {l : List Nat} : ∀ {row : List Nat}, sortedN l row = true → row.Pairwise (fun a b => nth l a ≤ nth l b)
  | [], _ => List.Pairwise.nil
  | [_], _ => by simp
  | a :: b :: r, h => by
    rw [sortedN, Bool.and_eq_true, Nat.ble_eq] at h
    have ih := sortedN_pair (row := b :: r) h.2
    refine List.pairwise_cons.mpr ⟨fun x hx => ?_, ih⟩
    rcases List.mem_cons.mp hx with rfl | hx
    · exact h.1
    · exact Nat.le_trans h.1 ((List.pairwise_cons.mp ih).1 x hx)
theorem perm_of_sub : ∀ {l1 l2 : List Nat}, l1.Nodup → (∀ x ∈ l1, x ∈ l2) → l2.length = l1.length → l2.Perm l1
  | [], l2, _, _, hl => by
    match l2, hl with
    | [], _ => exact List.Perm.refl _
  | a :: l1, l2, hn, hs, hl => by
    have h1 := List.nodup_cons.mp hn
    have ha := hs a (.head _)
    refine (List.perm_cons_erase ha).trans (List.Perm.cons a ?_)
    refine perm_of_sub h1.2 (fun x hx => ?_) ?_
    · exact (List.mem_erase_of_ne (fun e : x = a => h1.1 (e ▸ hx))).mpr (hs x (.tail _ hx))
    · rw [List.length_erase_of_mem ha, hl]; rfl
theorem map_range_num (xs : List Int) : (List.range (5 + xs.length)).map (numX xs) = nsOf xs := by
  apply List.ext_getElem
  · simp; omega
  · intro i h1 h2
    rw [List.getElem_map, List.getElem_range]
    show (nsOf xs).getD i 0 = _
    rw [List.getD_eq_getElem?_getD, List.getElem?_eq_getElem h2]; rfl
theorem factB_le {n : Nat} (h : n ≤ 9) : factB n ≤ 362880 := by
  have : ∀ n : Nat, n < 10 → factB n ≤ 362880 := by decide
  exact this n (by omega)
theorem few_of {q n : Nat} (hn : n ≤ 9) (h : 2 ^ q < 2 * factB n) : q ≤ 19 := by
  have h1 := factB_le hn
  by_cases hq : q ≤ 19
  · exact hq
  · have h2 : 2 ^ 20 ≤ 2 ^ q := Nat.pow_le_pow_right (by decide) (by omega)
    have h3 : (2 : Nat) ^ 20 = 1048576 := by decide
    omega
theorem ok_all (xs : List Int) (h : xs.length ≤ 4) : okN (xs.map (gOf xs)) = true := by
  have hb : ∀ u ∈ xs.map (gOf xs), u ≤ 10 := by
    intro u hu
    obtain ⟨x, hx, rfl⟩ := List.mem_map.mp hu
    exact g_le h hx
  have hc : okC (xs.map (gOf xs)) = true := by
    have hl : (xs.map (gOf xs)).length = xs.length := List.length_map _
    have h5 : xs.length = 0 ∨ xs.length = 1 ∨ xs.length = 2 ∨ xs.length = 3 ∨ xs.length = 4 := by omega
    rcases h5 with e | e | e | e | e
    · exact allB_mem 0 okC okc0 _ (hl.trans e) hb
    · exact allB_mem 1 okC okc1 _ (hl.trans e) hb
    · exact allB_mem 2 okC okc2 _ (hl.trans e) hb
    · exact allB_mem 3 okC okc3 _ (hl.trans e) hb
    · exact allB_mem 4 okC okc4 _ (hl.trans e) hb
  rw [okC_eq, can_ok h, Bool.not_true, Bool.false_or] at hc
  exact hc
theorem lOf_eq (xs : List Int) : [4, 5, 4, 6, 6] ++ xs.map (gOf xs) = (nsOf xs).map (gOf xs) := by
  rw [List.map_append]
  have h3 : gOf xs 3 = 4 := by simp [gOf]
  have h4 : gOf xs 4 = 5 := by simp [gOf]
  have h5 : gOf xs 5 = 6 := by simp [gOf]
  simp [h3, h4, h5]
theorem num_in (xs : List Int) {k : Nat} (h : k < 5 + xs.length) : numX xs k ∈ xs ∨ (3 ≤ numX xs k ∧ numX xs k ≤ 5) := by
  have hm : numX xs k ∈ nsOf xs := by
    show (nsOf xs).getD k 0 ∈ _
    rw [List.getD_eq_getElem?_getD, List.getElem?_eq_getElem (by simp; omega)]
    exact List.getElem_mem _
  rcases List.mem_append.mp hm with h | h
  · right
    simp only [List.mem_cons, List.not_mem_nil, or_false] at h
    omega
  · exact .inl h
theorem nth_num (xs : List Int) {k : Nat} (h : k < 5 + xs.length) : nth ([4, 5, 4, 6, 6] ++ xs.map (gOf xs)) k = gOf xs (numX xs k) := by
  rw [lOf_eq]
  have hk : k < (nsOf xs).length := by simp; omega
  unfold nth
  rw [List.getD_eq_getElem?_getD, List.getElem?_map, List.getElem?_eq_getElem hk]
  show gOf xs _ = gOf xs ((nsOf xs).getD k 0)
  rw [List.getD_eq_getElem?_getD, List.getElem?_eq_getElem hk]; rfl
theorem nth_lt (xs : List Int) (h : xs.length ≤ 4) {x y : Nat} (hx : x < 5 + xs.length) (hy : y < 5 + xs.length) :
    numX xs x < numX xs y ↔ nth ([4, 5, 4, 6, 6] ++ xs.map (gOf xs)) x < nth ([4, 5, 4, 6, 6] ++ xs.map (gOf xs)) y := by
  rw [nth_num xs hx, nth_num xs hy]
  exact g_iff h (num_in xs hx) (num_in xs hy)
theorem blt_dec (a b : Nat) : Nat.blt a b = decide (a < b) := by rw [Bool.eq_iff_iff, blt_iff, decide_eq_true_iff]
theorem beq_dec (a b : Nat) : Nat.beq a b = decide (a = b) := by rw [Bool.eq_iff_iff, beq_iff', decide_eq_true_iff]
theorem plain_all (xs : List Int) (h : xs.length ≤ 4) : PlainOk xs (rowF (numX xs) 9 (List.range (5 + xs.length))).1 (rowF (numX xs) 9 (List.range (5 + xs.length))).2 := by
  have hok := ok_all xs h
  rw [okN, rowE_eq, fL_eq, List.length_map] at hok
  have hlt := fun {x y} hx hy => nth_lt xs h (x := x) (y := y) hx hy
  generalize [4, 5, 4, 6, 6] ++ xs.map (gOf xs) = l at hok hlt
  rw [← rowF_congr (num := numX xs) (num' := numOf l) (n := 5 + xs.length) (fun x hx y hy => by rw [hlt hx hy]; exact Int.ofNat_lt.symm) 9 (List.range (5 + xs.length)) (by rw [List.length_range]; omega) (fun o ho => List.mem_range.mp ho)] at hok
  obtain ⟨hk1, hk2⟩ := rowF_keys (numX xs) 9 (List.range (5 + xs.length)) (by rw [List.length_range]; omega)
  generalize (rowF (numX xs) 9 (List.range (5 + xs.length))).1 = row at *
  generalize (rowF (numX xs) 9 (List.range (5 + xs.length))).2 = qs at *
  rw [List.length_range] at hk2
  have hk3 : ∀ x ∈ row, x < 5 + xs.length := fun x hx => List.mem_range.mp (hk1 x hx)
  unfold lawN at hok
  simp only [Bool.and_eq_true, fP_eq, List.all_eq_true, List.mem_range, blt_iff, memN_iff, beq_iff_eq] at hok
  obtain ⟨⟨⟨⟨h1, h2⟩, h3⟩, h4⟩, h5, h6⟩ := hok
  have hp : row.Perm (List.range (5 + xs.length)) := perm_of_sub List.nodup_range (fun x hx => h1 x (List.mem_range.mp hx)) (by rw [hk2, List.length_range])
  refine ⟨few_of (by omega) h3, ?_, ?_, h3, nodupB_nodup h5, fun q hq => (h4 q hq).1, fun q hq => ?_, fun k k1 k2 => ?_, h1⟩
  · have := hp.map (numX xs)
    rwa [map_range_num] at this
  · rw [List.pairwise_map]
    refine List.Pairwise.imp_of_mem (fun {a b} ha hb hab => ?_) (sortedN_pair h2)
    have := hlt (hk3 b hb) (hk3 a ha)
    omega
  · obtain ⟨⟨q1, q2⟩, q3⟩ := h4 q hq
    rw [posN_eq, posN_eq, blt_dec, blt_dec, beq_dec] at q3
    rw [q3]
    have e1 := hlt q1 q2
    have e2 := hlt q2 q1
    congr 1
    · rw [Bool.eq_iff_iff, decide_eq_true_iff, decide_eq_true_iff]; exact e1.symm
    · congr 1
      rw [Bool.eq_iff_iff, decide_eq_true_iff, decide_eq_true_iff]; omega
  · have := adjB_adj h6 (k - 1) (by omega)
    rwa [show k - 1 + 1 = k from by omega] at this
end Mine
end
section
open PySem PySem.W PySem.Calls PyProof.Rows PySem.Spec
set_option maxRecDepth 100000
namespace Mine
section
variable {w : World} {A : Around} {s : Shared} {env : Env} {E : Value → Shared → Prop}
theorem assign3 {a b c : Str} {pa pb pc tp : Pos} {kk : Nat} {T : Addr} {x y z : Value} {m : Str → Option Value} {Q : Unit → Shared → Prop} (hh : A.handled = none) (ht : s.heap.IsList T #[x, y, z])
    (ha : env.kindOf a = some .local) (hb : env.kindOf b = some .local) (hc : env.kindOf c = some .local) (hp : (env.scope.kind == .class || (env.scope.kind == .module && env.locals != env.globals)) = false) (hn : s.heap.Ns env.locals m)
    (h : ∀ (h' : Heap) (tk : Nat), h'.Ns env.locals (fun q => if q = c then some z else if q = b then some y else if q = a then some x else m q) → (∀ e o, e ≠ env.locals → s.heap.get? e = some o → h'.get? e = some o) → Q () { s with heap := h', toks := tk }) :
    wpAny (model PG w) A (assign (.Tuple [.Name a pa, .Name b pb, .Name c pc] kk tp) env (.ref T)) Q E s := by
  rw [assign_Tuple]
  refine wpAny_bind (wpAny_standAt ?_)
  unfold unpack
  rw [show (assignEach [.Name a pa, .Name b pb, .Name c pc] env).length = (#[x, y, z] : Array Value).size from rfl, show (assignEach [.Name a pa, .Name b pb, .Name c pc] env).findIdx? (·.1) = none from rfl]
  refine wpAny_bind (wpAny_holding (kun_itemsOf hh ht fun h₁ he₁ => ?_))
  have hL : env.locals ≠ s.heap.objs.size := Nat.ne_of_lt hn.lt
  have hn₁ : h₁.Ns env.locals m := hn.at' fun o e => he₁ _ o hL e
  have up₁ : ∀ c o, s.heap.get? c = some o → h₁.get? c = some o := fun c o e => he₁ c o (Nat.ne_of_lt (Heap.lt_size e)) e
  show wpAny _ _ (assignInOrder [assign (.Name a pa) env, assign (.Name b pb) env, assign (.Name c pc) env] [x, y, z]) _ _ _
  refine assignInOrder_cons ?_
  refine wpAny_assign_Name (wpAny_storeName_local ha hn₁ (fun h₂ hn₂ hs₂ => ?_) hp)
  refine assignInOrder_cons ?_
  refine wpAny_assign_Name (wpAny_storeName_local hb hn₂ (fun h₃ hn₃ hs₃ => ?_) hp)
  refine assignInOrder_cons ?_
  refine wpAny_assign_Name (wpAny_storeName_local hc hn₃ (fun h₄ hn₄ hs₄ => ?_) hp)
  refine assignInOrder_nil ?_
  exact h h₄ _ hn₄ fun c o hc e => hs₄.extBut c o hc (hs₃.extBut c o hc (hs₂.extBut c o hc (up₁ c o e)))
def Fresh (R : Value → Obj → Prop) (g : Heap) (W : List Addr) (h : Heap) (v r : Value) : Prop := ∃ D o, r = .ref D ∧ D ∉ W ∧ g.get? D = none ∧ h.get? D = some o ∧ R v o
theorem Fresh.keep {R : Value → Obj → Prop} {g : Heap} {W : List Addr} {h h' : Heap} {v r : Value} (x : Fresh R g W h v r) (k : ∀ b o, b ∉ W → h.get? b = some o → h'.get? b = some o) : Fresh R g W h' v r := by
  obtain ⟨D, o, e, l, n, q, z⟩ := x
  exact ⟨D, o, e, l, n, k _ _ l q, z⟩
theorem fresh_ledger {R : Value → Obj → Prop} {g : Heap} {W : List Addr} {h : Heap} {vs ys : List Value} (x : Paired (Fresh R g W h) vs ys) :
    ∃ PU : List (Addr × Obj), (∀ p ∈ PU, h.get? p.1 = some p.2 ∧ p.1 ∉ W ∧ g.get? p.1 = none) ∧ ∀ h' : Heap, (∀ p ∈ PU, h'.get? p.1 = some p.2) → Paired (Fresh R g W h') vs ys := by
  induction x with
  | nil => exact ⟨[], (fun _ h => nomatch h), fun _ _ => .nil⟩
  | cons a _ ih =>
    obtain ⟨PU, h1, h2⟩ := ih
    obtain ⟨D, o, e, l, n, q, z⟩ := a
    refine ⟨(D, o) :: PU, fun p hp => ?_, fun h' hk => .cons ⟨D, o, e, l, n, hk _ (.head _), z⟩ (h2 h' fun p hp => hk p (.tail _ hp))⟩
    rcases List.mem_cons.mp hp with rfl | hp
    · exact ⟨q, l, n⟩
    · exact h1 p hp
theorem paired_imp {F G : Value → Value → Prop} (i : ∀ v r, F v r → G v r) : ∀ {vs ys : List Value}, Paired F vs ys → Paired G vs ys
  | _, _, .nil => .nil
  | _, _, .cons a b => .cons (i _ _ a) (paired_imp i b)
theorem paired_snoc {F : Value → Value → Prop} {v y : Value} (h : F v y) : ∀ {vs ys : List Value}, Paired F vs ys → Paired F (vs ++ [v]) (ys ++ [y])
  | _, _, .nil => .cons h .nil
  | _, _, .cons a b => .cons a (paired_snoc h b)
def CompT (w : World) (A : Around) (env : Env) (scope : Scope) (cl : List (Str × Addr)) (a b c : Str) (elt : Expr) (R : Value → Obj → Prop) (Q : Value → Shared → Prop) (xv : Value) (s₁ : Shared) : Prop :=
  ∃ (ax : Addr) (its : Array Value), xv = .ref ax ∧ s₁.heap.IsList ax its ∧ its.size ≤ sizeLine ∧
    (∀ v, v ∈ its.toList → ∃ t x y z, v = .ref t ∧ s₁.heap.IsList t #[x, y, z] ∧
      ∀ C s₃ m₃ E' U, Fr s₁.heap C s₃.heap m₃ → News s₁.heap C s₃.heap U → m₃ a = some x → m₃ b = some y → m₃ c = some z →
        wpAny (model PG w) A (eval elt (compEnvC scope cl C env)) (fun r s₄ => Halt (∃ D o h tk, r = .ref D ∧ s₄ = { s₃ with heap := h, toks := tk } ∧ Fr s₁.heap C h m₃ ∧ News s₁.heap C h ((D, o) :: U) ∧ (∀ p ∈ U, p.1 ≠ D) ∧ R v o)) E' s₃) ∧
    (∀ D h' tk ys n, @LE.le Nat _ s₁.heap.objs.size D → h'.get? D = some (listOf ys n) → Paired (Fresh R s₁.heap [D] h') its.toList ys.toList → (∀ q o, s₁.heap.get? q = some o → h'.get? q = some o) →
      Q (.ref D) { s₁ with heap := h', toks := tk })
theorem comp_trip {elt iter : Expr} {a b c : Str} {pa pb pc tp : Pos} {kk : Nat} {scope : Scope} {cl : List (Str × Addr)} {pos : Pos} {Q : Value → Shared → Prop} (R : Value → Obj → Prop) (hh : A.handled = none)
    (hclos : closureFor scope env = pure cl) (hcell : ∀ y ∈ scope.names, y.2 ≠ .cell) (hkind : scope.kind = .function)
    (hnames : ∀ y ∈ scope.names, y.2 = .local → scope.names.lookup y.1 = some .local) (hxa : scope.names.lookup a = some .local) (hxb : scope.names.lookup b = some .local) (hxc : scope.names.lookup c = some .local)
    (hab : a ≠ b) (hac : a ≠ c) (hbc : b ≠ c)
    (h : wpAny (model PG w) A (eval iter env) (CompT w A env scope cl a b c elt R Q) E s)
    (hs : ∀ x, foldedSetIterable iter env x = pure x := by intro _; rfl) :
    wpAny (model PG w) A (eval (.ListComp elt [⟨.Tuple [.Name a pa, .Name b pb, .Name c pc] kk tp, iter, [], 0⟩] scope pos) env) Q E s := by
  rw [eval_ListComp]
  refine wpAny_comprehension_free (use := none) rfl hs hclos hkind hnames (wpAny_mono h (fun xv s₁ h₁ => ?_) fun _ _ e => e)
  obtain ⟨ax, its, rfl, hl, hsz, ht, hQ⟩ := h₁
  have haxlt : @LT.lt Nat _ ax s₁.heap.objs.size := by obtain ⟨_, e, _⟩ := hl; exact Heap.lt_size e
  refine wpAny_pyIter_list hl ?_
  obtain ⟨I, hI⟩ : ∃ I, I = s₁.heap.objs.size := ⟨_, rfl⟩
  obtain ⟨H1, hH1⟩ : ∃ H1, H1 = s₁.heap.push { cls := .type "list_iterator", data := .fields #[.ref ax, .int 0 0] } := ⟨_, rfl⟩
  have hit1 : H1.IsListIter I ax 0 := by rw [hH1, hI]; exact ⟨_, Heap.get?_push_size _ rfl, rfl, rfl⟩
  have hl1 : H1.IsList ax its := hH1 ▸ hl.push _
  have k1 : ∀ q o, s₁.heap.get? q = some o → H1.get? q = some o := fun q o e => hH1 ▸ Heap.get?_push_of_some _ e
  have sz1 : H1.objs.size = I + 1 := by rw [hH1, Heap.size_push, hI]
  rw [← hI, ← hH1]
  refine wpAny_newObj_type (wpAny_newFunctionEnv hcell (by intro y hy; simp at hy) (fun h₁ hns₁ hsb₁ => ?_) hkind)
  dsimp only at hns₁ hsb₁ ⊢
  generalize hH2 : H1.push { cls := .type "list", dict := none, data := .seq ([] : List Value).toArray } = H2 at hns₁ hsb₁ ⊢
  have hC : H2.objs.size = H1.objs.size + 1 := by rw [← hH2, Heap.size_push]
  have hDC : H1.objs.size ≠ H2.objs.size := by rw [hC]; exact Nat.ne_of_lt (Nat.lt_succ_self _)
  have below : ∀ b, b < H1.objs.size → b ≠ H2.objs.size ∧ b ≠ H1.objs.size := fun b hb => ⟨by rw [hC]; exact Nat.ne_of_lt (Nat.lt_succ_of_lt hb), Nat.ne_of_lt hb⟩
  have old : ∀ b o, H1.get? b = some o → h₁.get? b = some o := fun b o e => hsb₁.extBut b o (below b (Heap.lt_size e)).1 (Heap.get?_push_of_some _ (hH2 ▸ Heap.get?_push_of_some _ e))
  have hacc : h₁.PlainList H1.objs.size #[] := ⟨_, hsb₁.extBut _ _ hDC (Heap.get?_push_of_some _ (hH2 ▸ Heap.get?_push_size _ rfl))⟩
  have hIlt : @LT.lt Nat _ I H1.objs.size := by rw [sz1]; exact Nat.lt_succ_self _
  have haxI : ax ≠ I := hI ▸ Nat.ne_of_lt haxlt
  have haxH1 : @LT.lt Nat _ ax H1.objs.size := Nat.lt_trans (hI ▸ haxlt) hIlt
  have W := Walks.list (prog := PG) (w := w) (A := A) hh I ax haxI its
  have hCl : @LE.le Nat _ s₁.heap.objs.size H2.objs.size := by rw [hC, sz1, ← hI]; exact Nat.le_add_right I 2
  generalize hDe : H1.objs.size = D at *
  generalize hCe : H2.objs.size = C at *
  have hID : I ≠ D := Nat.ne_of_lt hIlt
  have hIC : I ≠ C := (below I hIlt).1
  have haxD : ax ≠ D := Nat.ne_of_lt haxH1
  have haxC : ax ≠ C := (below ax haxH1).1
  have hsD : @LE.le Nat _ s₁.heap.objs.size D := by rw [← hI]; exact Nat.le_of_lt hIlt
  have sub : ∀ b : Addr, @LT.lt Nat _ b s₁.heap.objs.size → b ≠ I ∧ b ≠ C ∧ b ≠ D := fun b hb => ⟨Nat.ne_of_lt (hI ▸ hb), Nat.ne_of_lt (Nat.lt_of_lt_of_le hb hCl), Nat.ne_of_lt (Nat.lt_of_lt_of_le hb hsD)⟩
  have hcompk : ∀ x, scope.names.lookup x = some .local → (compEnvC scope cl C env).kindOf x = some .local := fun x hx => lookup_relabel_local hx
  have loop : ∀ s₃ : Shared, s₃ = { s₁ with heap := h₁, toks := s₁.toks + ([] : List (Str × Value)).length } →
      codeAny (model PG w) A (.compLoop (.ListComp elt [⟨.Tuple [.Name a pa, .Name b pb, .Name c pc] kk tp, iter, [], 0⟩] scope pos) 0 (.ref I) (.ref D) (compEnvC scope cl C env))
        (compPost (model PG w) A E none Q (.ref D) C) s₃ := by
    rintro s₃ rfl
    refine kcp_loop
      (fun k s' => ∃ h' tk i ys m', s' = { s₁ with heap := h', toks := tk } ∧ i ≤ its.size ∧ k = its.size + 1 - i ∧ ys.length = i ∧ h'.IsListIter I ax i ∧ h'.Ns C m' ∧ h'.PlainList D ys.toArray ∧
        (∀ q o, s₁.heap.get? q = some o → h'.get? q = some o) ∧ Paired (Fresh R s₁.heap [I, C, D] h') (its.toList.take i) ys) ?_ (its.size + 1)
      ⟨h₁, _, 0, [], _, rfl, Nat.zero_le _, rfl, rfl, hit1.at fun o e => old _ o e, hns₁, hacc, fun q o e => old q o (k1 q o e), by simpa using Paired.nil⟩
    rintro k s' ⟨h', tk, i, ys, m', rfl, hi, rfl, hyl, hit', hn', hp', hk', hP'⟩
    have hl' : h'.IsList ax its := by obtain ⟨o, e, r⟩ := hl; exact ⟨o, hk' _ _ e, r⟩
    by_cases hlt : i < its.size
    · refine wpAny_pyNext_list_item hit' hl' (x := its[i]) (by simp [hlt]) fun h₂ hit₂ hs₂ => ?_
      obtain ⟨t, x, y, z, ev, hti, helt⟩ := ht its[i] (by simp)
      have htlt : @LT.lt Nat _ t s₁.heap.objs.size := by obtain ⟨_, e, _⟩ := hti; exact Heap.lt_size e
      rw [ev]
      refine wpAny_letOwnedTupleGo_listiter hit₂ ?_
      have k2 : ∀ q o, q ≠ I → h'.get? q = some o → h₂.get? q = some o := fun q o hq e => hs₂.extBut q o hq e
      have ht2 : h₂.IsList t #[x, y, z] := by obtain ⟨o, e, r⟩ := hti; exact ⟨o, k2 _ _ (sub t htlt).1 (hk' _ _ e), r⟩
      refine assign3 (env := compEnvC scope cl C env) hh ht2 (hcompk a hxa) (hcompk b hxb) (hcompk c hxc) (by simp [compEnvC, relabel, hkind]) (hn'.at' fun o e => k2 _ o (Ne.symm hIC) e) fun h₃ tk₃ hn₃ hk₃ => ?_
      have k3 : ∀ q o, q ≠ I → q ≠ C → h'.get? q = some o → h₃.get? q = some o := fun q o h1 h2 e => hk₃ q o h2 (k2 q o h1 e)
      have up3 : ∀ q o, s₁.heap.get? q = some o → h₃.get? q = some o := fun q o e => k3 q o (sub q (Heap.lt_size e)).1 (sub q (Heap.lt_size e)).2.1 (hk' q o e)
      have hClt : @LT.lt Nat _ C h₃.objs.size := hn₃.lt
      have hP3 := paired_imp (fun v r x => Fresh.keep x (h' := h₃) (fun q o hq e => by
        simp only [List.mem_cons, List.not_mem_nil, or_false, not_or] at hq
        exact k3 q o hq.1 hq.2.1 e)) hP'
      obtain ⟨PU, hPU, hPk⟩ := fresh_ledger hP3
      obtain ⟨oI, gI, cI, dI⟩ := hit₂
      obtain ⟨nD, gD⟩ := hp'
      have gI3 := hk₃ I _ hIC gI
      have gD3 := k3 D _ (Ne.symm hID) (fun q => hDC q) gD
      have n1 : ∀ q : Addr, @LE.le Nat _ s₁.heap.objs.size q → s₁.heap.get? q = none := fun q hq => Heap.get?_none_of_le hq
      have F3 : Fr s₁.heap C h₃ _ := ⟨hn₃, up3, hCl⟩
      have N3 : News s₁.heap C h₃ ((I, oI) :: (D, listOf ys.toArray nD) :: PU) := by
        intro p hp
        rcases List.mem_cons.mp hp with rfl | hp
        · exact ⟨gI3, hIC, n1 I (by rw [hI]; exact Nat.le_refl _)⟩
        · rcases List.mem_cons.mp hp with rfl | hp
          · exact ⟨gD3, hDC, n1 D hsD⟩
          · have := hPU p hp
            refine ⟨this.1, fun q => this.2.1 ?_, this.2.2⟩
            rw [q]; exact .tail _ (.head _)
      refine wpAny_mono (helt C _ _ _ _ F3 N3 (by simp [hac, hab]) (by simp [hbc]) (by simp)) (fun r s₄ h₄ => ?_) fun _ _ e => e
      obtain ⟨D4, o4, h₄, tk₄, rfl, rfl, F4, N4, hne4, hR4⟩ := h₄
      have gI4 := (N4 _ (.tail _ (.head _))).1
      have gD4 := (N4 _ (.tail _ (.tail _ (.head _)))).1
      have hpl4 : h₄.PlainList D ys.toArray := ⟨nD, gD4⟩
      refine wpAny_list_append_plain (hsz := by simp; omega) hpl4 fun h₅ hl₅ hs₅ => ?_
      have k5 : ∀ q o, q ≠ D → h₄.get? q = some o → h₅.get? q = some o := fun q o hq e => hs₅.extBut q o hq e
      have hD4I : D4 ≠ I := fun q => hne4 _ (.head _) q.symm
      have hD4D : D4 ≠ D := fun q => hne4 _ (.tail _ (.head _)) q.symm
      have hD4C : D4 ≠ C := (N4 _ (.head _)).2.1
      refine ⟨its.size + 1 - (i + 1), by omega, h₅, tk₄, i + 1, ys ++ [.ref D4], _, rfl, hlt, rfl, by simp [hyl], ?_, F4.ns.sameBut hs₅ (Ne.symm hDC), by simpa using hl₅, fun q o e => k5 q o (sub q (Heap.lt_size e)).2.2 (F4.keep q o e), ?_⟩
      · exact ⟨oI, k5 I _ hID gI4, cI, dI⟩
      · rw [List.take_add_one, show its.toList[i]? = some its[i] from by simp [hlt]]
        refine paired_snoc ?_ (paired_imp (fun v r x => x.keep (fun q o hq e => ?_)) (hPk h₄ fun p hp => (N4 _ (.tail _ (.tail _ (.tail _ hp)))).1))
        · exact ⟨D4, o4, rfl, by simp [hD4I, hD4C, hD4D], (N4 _ (.head _)).2.2, k5 _ _ hD4D (N4 _ (.head _)).1, hR4⟩
        · simp only [List.mem_cons, List.not_mem_nil, or_false, not_or] at hq
          exact k5 q o hq.2.2 e
    · have hin : i = its.size := by omega
      subst hin
      refine wpAny_pyNext_list_end hh hit' hl' (by simp) fun h₂ he₂ => ?_
      refine ⟨m', hn'.at' fun o e => he₂ _ o (Ne.symm hIC) e, fun h₆ hs₆ => ?_⟩
      have k6 : ∀ q o, q ≠ I → q ≠ C → h'.get? q = some o → h₆.get? q = some o := fun q o h1 h2 e => hs₆.extBut q o h2 (he₂ q o h1 e)
      obtain ⟨nD, eD⟩ := hp'
      have hDnone : s₁.heap.get? D = none := Heap.get?_none_of_le hsD
      refine hQ D h₆ _ ys.toArray nD hsD (k6 D _ (Ne.symm hID) (fun q => hDC q) eD) ?_ (fun q o e => k6 q o (sub q (Heap.lt_size e)).1 (sub q (Heap.lt_size e)).2.1 (hk' q o e))
      rw [List.take_of_length_le (by simp)] at hP'
      refine paired_imp (fun v r x => ?_) hP'
      obtain ⟨D2, o2, e2, l2, n2, g2, r2⟩ := x
      simp only [List.mem_cons, List.not_mem_nil, or_false, not_or] at l2
      exact ⟨D2, o2, e2, by simpa using l2.2.2, n2, k6 _ _ l2.1 l2.2.1 g2, r2⟩
  exact codeAny_compStart_list (loop _ rfl) (wpAny_pyIter_listiter (hit1.at fun o e => old _ o e) (loop _ rfl))
end
end Mine
end
section
open PySem PySem.W PySem.Calls PyProof.Rows PySem.Spec PySem.SeqAt
set_option maxRecDepth 100000
namespace Mine
def PairIs (h : Heap) (y : Value) (p : Nat × Nat) : Prop := ∃ D t1 t2 n, y = .ref D ∧ h.get? D = some (listOf #[.int (p.1 : Int) t1, .int (p.2 : Int) t2] n)
theorem PairIs.inj {h : Heap} {y : Value} {p q : Nat × Nat} (a : PairIs h y p) (b : PairIs h y q) : p = q := by
  obtain ⟨D, t1, t2, n, rfl, g⟩ := a
  obtain ⟨D', t1', t2', n', e, g'⟩ := b
  cases e
  rw [g] at g'
  have h1 := congrArg Obj.data (Option.some.inj g')
  injection h1 with h2 h3
  have h4 := congrArg Array.toList h2
  have e1 : p.1 = q.1 := by
    have := congrArg (fun l => l[0]?) h4
    simp at this; omega
  have e2 : p.2 = q.2 := by
    have := congrArg (fun l => l[1]?) h4
    simp at this; omega
  exact Prod.ext e1 e2
inductive PairsAt (h : Heap) : List Value → List (Nat × Nat) → Prop where
  | nil : PairsAt h [] []
  | cons {v p vs ps} : PairIs h v p → PairsAt h vs ps → PairsAt h (v :: vs) (p :: ps)
theorem PairsAt.mem {h : Heap} {vs : List Value} {ps : List (Nat × Nat)} (x : PairsAt h vs ps) {v : Value} (hv : v ∈ vs) : ∃ p ∈ ps, PairIs h v p := by
  induction x with
  | nil => cases hv
  | cons a _ ih =>
    cases hv with
    | head => exact ⟨_, .head _, a⟩
    | tail _ hv => obtain ⟨p, hp, z⟩ := ih hv; exact ⟨p, .tail _ hp, z⟩
theorem PairsAt.keep {h h' : Heap} {vs : List Value} {ps : List (Nat × Nat)} (x : PairsAt h vs ps) (k : ∀ b o, h.get? b = some o → h'.get? b = some o) : PairsAt h' vs ps := by
  induction x with
  | nil => exact .nil
  | cons a _ ih =>
    obtain ⟨D, t1, t2, n, e, g⟩ := a
    exact .cons ⟨D, t1, t2, n, e, k _ _ g⟩ ih
open Classical in
theorem PairsAt.count {h : Heap} {vs : List Value} {ps : List (Nat × Nat)} (x : PairsAt h vs ps) (p0 : Nat × Nat) : vs.countP (fun y => decide (PairIs h y p0)) = ps.count p0 := by
  induction x with
  | nil => rfl
  | cons a _ ih =>
    rename_i v p vs ps _
    rw [List.countP_cons, List.count_cons, ih]
    by_cases e : p = p0
    · subst e; simp [a]
    · have : ¬ PairIs h v p0 := fun b => e (a.inj b)
      simp [this, e]
open Classical in
theorem PairsAt.any {h : Heap} {vs : List Value} {ps : List (Nat × Nat)} (x : PairsAt h vs ps) {p0 : Nat × Nat} (hm : p0 ∈ ps) : vs.any (fun y => decide (PairIs h y p0)) = true := by
  induction x with
  | nil => cases hm
  | cons a _ ih =>
    rw [List.any_cons]
    cases hm with
    | head => simp [a]
    | tail _ hm => rw [ih hm, Bool.or_true]
open Classical in
theorem eq_pair {A : Around} {s : Shared} {y x : Value} {p q : Nat × Nat} (a : PairIs s.heap y p) (b : PairIs s.heap x q) (hu : A.units < cLine) : EqAt A s y x (decide (PairIs s.heap y q)) := by
  have hd : decide (PairIs s.heap y q) = decide (p = q) := by
    by_cases e : p = q
    · subst e; simp [a]
    · have : ¬ PairIs s.heap y q := fun z => e (a.inj z)
      simp [this, e]
  rw [hd]
  by_cases hyx : y = x
  · subst hyx
    have := a.inj b
    subst this
    rw [decide_eq_true rfl]
    exact EqAt.same _
  · obtain ⟨D, t1, t2, n, rfl, g⟩ := a
    obtain ⟨D', t1', t2', n', rfl, g'⟩ := b
    have hne : D ≠ D' := fun z => hyx (by rw [z])
    refine EqAt.of_refs hne ?_
    have hr := RcAt.lists (A := A) (s := s) (l := D) (b := D') (items := #[.int (p.1 : Int) t1, .int (p.2 : Int) t2]) (items2 := #[.int (q.1 : Int) t1', .int (q.2 : Int) t2']) (e := fun j => if j = 0 then decide (p.1 = q.1) else decide (p.2 = q.2))
      ⟨_, g, rfl, _, rfl⟩ ⟨_, g', rfl, _, rfl⟩ rfl hu (fun j h1 h2 => by
        have hj : j = 0 ∨ j = 1 := by simp at h1; omega
        rcases hj with rfl | rfl
        · have := (MeetsSeq.EqGives.int (p.1 : Int) (q.1 : Int) t1 t1').at A.in1 s
          have e1 : (((p.1 : Nat) : Int) == ((q.1 : Nat) : Int)) = decide (p.1 = q.1) := by rw [Bool.eq_iff_iff]; simp; omega
          simpa [e1] using this
        · have := (MeetsSeq.EqGives.int (p.2 : Int) (q.2 : Int) t2 t2').at A.in1 s
          have e1 : (((p.2 : Nat) : Int) == ((q.2 : Nat) : Int)) = decide (p.2 = q.2) := by rw [Bool.eq_iff_iff]; simp; omega
          simpa [e1] using this)
    have e2 : ((List.range (#[Value.int (p.1 : Int) t1, .int (p.2 : Int) t2] : Array Value).size).all fun j => if j = 0 then decide (p.1 = q.1) else decide (p.2 = q.2)) = decide (p = q) := by
      rw [Bool.eq_iff_iff, decide_eq_true_iff, Prod.ext_iff]
      simp [List.range, List.range.loop]
    rw [e2] at hr
    exact hr
section
variable {w : World} {A : Around} {s : Shared} {E : Value → Shared → Prop}
theorem count_pairs {l : Addr} {vs : List Value} {ps : List (Nat × Nat)} {x : Value} {p0 : Nat × Nat} {Q : Value → Shared → Prop} (hl : s.heap.IsList l vs.toArray) (hps : PairsAt s.heap vs ps) (hx : PairIs s.heap x p0) (hu : A.units + 4 < cLine)
    (h : Q (.int (ps.count p0 : Nat) s.toks) { s with toks := s.toks + 1 }) : wpAny (model PG w) A (call (.builtin "list.count") [.ref l, x]) Q E s := by
  classical
  obtain ⟨⟨cls, dd, data, sl⟩, ho, hc, n, hd⟩ := id hl
  simp only at hc hd
  subst hc hd
  refine call_meets PySem.F.slot_list_count ⟨_, ho, rfl⟩ PySem.F.entry_list_count (PySem.F.args_list_count_2 _ _) (list_countAt l vs.toArray n dd sl x (fun y => decide (PairIs s.heap y p0))) ⟨ho, fun y hy => ?_, ?_⟩
  · obtain ⟨p, _, hp⟩ := hps.mem (by simpa using hy)
    exact eq_pair hp hx (by show A.units + _ < cLine; omega)
  · rw [show vs.toArray.toList = vs from rfl, hps.count p0]
    exact h
theorem notin_pairs {l : Addr} {vs : List Value} {ps : List (Nat × Nat)} {x : Value} {p0 : Nat × Nat} {Q : Value → Shared → Prop} (hl : s.heap.IsList l vs.toArray) (hps : PairsAt s.heap vs ps) (hx : PairIs s.heap x p0) (hu : A.units + 4 < cLine) (hm : p0 ∈ ps)
    (h : Q (.bool false) s) : wpAny (model PG w) A (compareOp .NotIn x (.ref l)) Q E s := by
  classical
  refine notIn_listAt (fun y => decide (PairIs s.heap y p0)) hl (fun y hy => ?_) ?_
  · obtain ⟨p, _, hp⟩ := hps.mem (by simpa using hy)
    exact eq_pair hp hx (by show A.units + _ < cLine; omega)
  · rw [← Array.any_toList, show vs.toArray.toList = vs from rfl, hps.any hm]
    exact h
end
end Mine
end
section
open PySem PySem.W PySem.Calls PyProof.Rows PySem.Spec
set_option maxRecDepth 100000
namespace Mine
section
variable {w : World} {A : Around} {s : Shared} {env : Env} {E : Value → Shared → Prop}
def CompN (w : World) (A : Around) (env : Env) (scope : Scope) (cl : List (Str × Addr)) (x : Str) (test : Expr) (Q : Value → Shared → Prop) (xv : Value) (s₁ : Shared) : Prop :=
  ∃ (r : Addr) (a b : Int) (n : Nat) (t u v : Tok), xv = .ref r ∧ IsRange s₁.heap r a b 1 t u v ∧ Builtin.Range.small a b 1 = true ∧ Builtin.Range.rangeSize a b 1 = (n : Int) ∧ n ≤ sizeLine ∧
    (∀ C i t s₃ m₃ E' U, i < n → Fr s₁.heap C s₃.heap m₃ → News s₁.heap C s₃.heap U → m₃ x = some (.int (a + (i : Nat) * 1) t) →
        wpAny (model PG w) A (isTrue test (compEnvC scope cl C env) (eval test (compEnvC scope cl C env))) (fun b s₄ => Halt (b = false ∧ ∃ h tk, s₄ = { s₃ with heap := h, toks := tk } ∧ Fr s₁.heap C h m₃ ∧ News s₁.heap C h U)) E' s₃) ∧
    (∀ D h' tk n, @LE.le Nat _ s₁.heap.objs.size D → h'.get? D = some (listOf #[] n) → (∀ q o, s₁.heap.get? q = some o → h'.get? q = some o) →
      Q (.ref D) { s₁ with heap := h', toks := tk })
theorem comp_none {elt iter test : Expr} {x : Str} {px : Pos} {scope : Scope} {cl : List (Str × Addr)} {pos : Pos} {Q : Value → Shared → Prop} (hh : A.handled = none)
    (hclos : closureFor scope env = pure cl) (hcell : ∀ y ∈ scope.names, y.2 ≠ .cell) (hkind : scope.kind = .function)
    (hnames : ∀ y ∈ scope.names, y.2 = .local → scope.names.lookup y.1 = some .local) (hx : scope.names.lookup x = some .local)
    (h : wpAny (model PG w) A (eval iter env) (CompN w A env scope cl x test Q) E s)
    (hs : ∀ x, foldedSetIterable iter env x = pure x := by intro _; rfl) :
    wpAny (model PG w) A (eval (.ListComp elt [⟨.Name x px, iter, [test], 0⟩] scope pos) env) Q E s := by
  rw [eval_ListComp]
  refine wpAny_comprehension_free (use := none) rfl hs hclos hkind hnames (wpAny_mono h (fun xv s₁ h₁ => ?_) fun _ _ e => e)
  obtain ⟨r, a, b, n, t0, u0, v0, rfl, hR, hsm, hsz, hnl, ht, hQ⟩ := h₁
  refine wpAny_pyIter_range hR hsm ?_
  rw [hsz]
  obtain ⟨I, hI⟩ : ∃ I, I = s₁.heap.objs.size := ⟨_, rfl⟩
  obtain ⟨H1, hH1⟩ : ∃ H1, H1 = s₁.heap.push { cls := .type "range_iterator", data := .fields #[rawInt a, rawInt (n : Int), rawInt 1] } := ⟨_, rfl⟩
  have hit1 : IsRangeIter H1 I (a + ((0 : Nat) : Int) * 1) ((n : Int) - ((0 : Nat) : Int)) 1 := by
    rw [hH1, hI]; show Heap.get? _ _ = _; rw [Heap.get?_push_size _ rfl]; simp
  have k1 : ∀ q o, s₁.heap.get? q = some o → H1.get? q = some o := fun q o e => hH1 ▸ Heap.get?_push_of_some _ e
  have sz1 : H1.objs.size = I + 1 := by rw [hH1, Heap.size_push, hI]
  rw [← hI, ← hH1]
  refine wpAny_newObj_type (wpAny_newFunctionEnv hcell (by intro y hy; simp at hy) (fun h₁ hns₁ hsb₁ => ?_) hkind)
  dsimp only at hns₁ hsb₁ ⊢
  generalize hH2 : H1.push { cls := .type "list", dict := none, data := .seq ([] : List Value).toArray } = H2 at hns₁ hsb₁ ⊢
  have hC : H2.objs.size = H1.objs.size + 1 := by rw [← hH2, Heap.size_push]
  have hDC : H1.objs.size ≠ H2.objs.size := by rw [hC]; exact Nat.ne_of_lt (Nat.lt_succ_self _)
  have below : ∀ b, b < H1.objs.size → b ≠ H2.objs.size ∧ b ≠ H1.objs.size := fun b hb => ⟨by rw [hC]; exact Nat.ne_of_lt (Nat.lt_succ_of_lt hb), Nat.ne_of_lt hb⟩
  have old : ∀ b o, H1.get? b = some o → h₁.get? b = some o := fun b o e => hsb₁.extBut b o (below b (Heap.lt_size e)).1 (Heap.get?_push_of_some _ (hH2 ▸ Heap.get?_push_of_some _ e))
  have hacc : h₁.PlainList H1.objs.size #[] := ⟨_, hsb₁.extBut _ _ hDC (Heap.get?_push_of_some _ (hH2 ▸ Heap.get?_push_size _ rfl))⟩
  have hIlt : @LT.lt Nat _ I H1.objs.size := by rw [sz1]; exact Nat.lt_succ_self _
  have hCl : @LE.le Nat _ s₁.heap.objs.size H2.objs.size := by rw [hC, sz1, ← hI]; exact Nat.le_add_right I 2
  generalize hDe : H1.objs.size = D at *
  generalize hCe : H2.objs.size = C at *
  have hID : I ≠ D := Nat.ne_of_lt hIlt
  have hIC : I ≠ C := (below I hIlt).1
  have hsD : @LE.le Nat _ s₁.heap.objs.size D := by rw [← hI]; exact Nat.le_of_lt hIlt
  have sub : ∀ b : Addr, @LT.lt Nat _ b s₁.heap.objs.size → b ≠ I ∧ b ≠ C ∧ b ≠ D := fun b hb => ⟨Nat.ne_of_lt (hI ▸ hb), Nat.ne_of_lt (Nat.lt_of_lt_of_le hb hCl), Nat.ne_of_lt (Nat.lt_of_lt_of_le hb hsD)⟩
  have W := Walks.range (prog := PG) (w := w) (A := A) hh I a 1 n
  have loop : ∀ s₃ : Shared, s₃ = { s₁ with heap := h₁, toks := s₁.toks + ([] : List (Str × Value)).length } →
      codeAny (model PG w) A (.compLoop (.ListComp elt [⟨.Name x px, iter, [test], 0⟩] scope pos) 0 (.ref I) (.ref D) (compEnvC scope cl C env))
        (compPost (model PG w) A E none Q (.ref D) C) s₃ := by
    rintro s₃ rfl
    refine codeAny_compLoop_tests
      (fun k s' => ∃ h' tk i m', s' = { s₁ with heap := h', toks := tk } ∧ i ≤ n ∧ k = n + 1 - i ∧ IsRangeIter h' I (a + (i : Nat) * 1) ((n : Int) - (i : Nat)) 1 ∧ h'.Ns C m' ∧ h'.PlainList D #[] ∧
        (∀ q o, s₁.heap.get? q = some o → h'.get? q = some o)) ?_ (n + 1)
      ⟨h₁, _, 0, _, rfl, Nat.zero_le _, rfl, old _ _ hit1, hns₁, hacc, fun q o e => old q o (k1 q o e)⟩
    rintro k s' ⟨h', tk, i, m', rfl, hi, rfl, hit', hn', hp', hk'⟩
    by_cases hlt : i < n
    · refine W.item i _ _ _ hlt hit' fun v h₂ tk₂ hP hit₂ hk₂ => ?_
      obtain ⟨tv, rfl⟩ := hP
      have k2 : ∀ q o, q ≠ I → h'.get? q = some o → h₂.get? q = some o := fun q o hq e => hk₂ q o (by simpa using hq) e
      refine wpAny_assign_Name (wpAny_storeName_local (env := compEnvC scope cl C env) (lookup_relabel_local hx) (hn'.at' fun o e => k2 _ o (Ne.symm hIC) e) (fun h₃ hn₃ hs₃ => ?_) (by simp [compEnvC, relabel, hkind]))
      have k3 : ∀ q o, q ≠ I → q ≠ C → h'.get? q = some o → h₃.get? q = some o := fun q o h1 h2 e => hs₃.extBut q o h2 (k2 q o h1 e)
      have up3 : ∀ q o, s₁.heap.get? q = some o → h₃.get? q = some o := fun q o e => k3 q o (sub q (Heap.lt_size e)).1 (sub q (Heap.lt_size e)).2.1 (hk' q o e)
      obtain ⟨nD, gD⟩ := hp'
      have gI3 := hs₃.extBut I _ hIC hit₂
      have gD3 := k3 D _ (Ne.symm hID) (fun q => hDC q) gD
      have n1 : ∀ q : Addr, @LE.le Nat _ s₁.heap.objs.size q → s₁.heap.get? q = none := fun q hq => Heap.get?_none_of_le hq
      have F3 : Fr s₁.heap C h₃ _ := ⟨hn₃, up3, hCl⟩
      have N3 : News s₁.heap C h₃ [(I, rIt (a + ((i + 1 : Nat) : Int) * 1) ((n : Int) - ((i + 1 : Nat) : Int)) 1), (D, listOf #[] nD)] := by
        intro p hp
        rcases List.mem_cons.mp hp with rfl | hp
        · exact ⟨gI3, hIC, n1 I (by rw [hI]; exact Nat.le_refl _)⟩
        · rcases List.mem_cons.mp hp with rfl | hp
          · exact ⟨gD3, hDC, n1 D hsD⟩
          · cases hp
      refine wpAny_tests_one ?_
      refine wpAny_mono (ht C i tv _ _ _ _ hlt F3 N3 (by simp)) (fun ok s₄ h₄ => ?_) fun _ _ e => e
      obtain ⟨rfl, h₄, tk₄, rfl, F4, N4⟩ := h₄
      refine ⟨n + 1 - (i + 1), by omega, h₄, tk₄, i + 1, _, rfl, hlt, rfl, (N4 _ (.head _)).1, F4.ns, ⟨nD, (N4 _ (.tail _ (.head _))).1⟩, F4.keep⟩
    · have hin : i = n := by omega
      subst hin
      refine W.done _ _ _ hit' fun h₂ tk₂ he₂ => ?_
      have k2 : ∀ q o, q ≠ I → h'.get? q = some o → h₂.get? q = some o := fun q o hq e => he₂ q o (by simpa using hq) e
      refine ⟨m', hn'.at' fun o e => k2 _ o (Ne.symm hIC) e, fun h₆ hs₆ => ?_⟩
      have k6 : ∀ q o, q ≠ I → q ≠ C → h'.get? q = some o → h₆.get? q = some o := fun q o h1 h2 e => hs₆.extBut q o h2 (k2 q o h1 e)
      obtain ⟨nD, eD⟩ := hp'
      exact hQ D h₆ _ nD hsD (k6 D _ (Ne.symm hID) (fun q => hDC q) eD) (fun q o e => k6 q o (sub q (Heap.lt_size e)).1 (sub q (Heap.lt_size e)).2.1 (hk' q o e))
  exact codeAny_compStart_list (loop _ rfl) (wpAny_pyIter_rangeiter (old _ _ hit1) (loop _ rfl))
end
end Mine
end
section
open PySem PySem.W PySem.Calls PyProof.Rows PySem.Spec
set_option maxRecDepth 100000
namespace Mine
theorem walk_off_L1 : True := by
  w_top off
  trivial
local macro_rules | `(tactic| k_all) => `(tactic| assumption)
local macro_rules | `(tactic| walk_at "call ref") => `(tactic| refine Halt.out ?_)
local macro_rules | `(tactic| walk_at "pyIter ref") => `(tactic| refine Halt.out ?_)
local macro_rules | `(tactic| walk_at "exec For Name Call cons nil") => `(tactic| refine Halt.out ?_)
local macro_rules | `(tactic| walk_at "exec For Tuple Name cons nil") => `(tactic| refine Halt.out ?_)
local macro_rules | `(tactic| walk_at "exec For Name Tuple cons nil") => `(tactic| refine Halt.out ?_)
local macro_rules | `(tactic| walk_at "eval ListComp") => `(tactic| refine Halt.out ?_)
theorem rangeKs_nat (n : Nat) : rangeKs 0 n = (List.range n).map Int.ofNat := by
  unfold rangeKs
  apply List.map_congr_left
  intro i _
  simp
def lmap (vS vA vR vC : Value) (uord uk uth uoth uri uah : Option Value) : Str → Option Value := fun y =>
  if y = Str.ofString "k" then uk else if y = Str.ofString "orders" then uord else if y = Str.ofString "thing" then uth else if y = Str.ofString "other" then uoth else if y = Str.ofString "right" then uri else
  if y = Str.ofString "ahead" then uah else if y = Str.ofString "rising" then some vR else if y = Str.ofString "asked" then some vA else if y = Str.ofString "count" then some vC else if y = Str.ofString "script" then some vS else none
theorem Fr_law {g h : Heap} {L : Addr} {v2 v3 v5 : Value} {n4 : Int} {t1 t4 : Tok} {c : Nat} {mb : Str → Option Value}
    (F : Fr g L h (fun y => if y = Str.ofString "orders" then some (.int 1 t1) else if y = Str.ofString "rising" then some v2 else if y = Str.ofString "asked" then some v3 else if y = Str.ofString "count" then some (.int n4 t4) else mb y))
    (hb : ∀ y, mb y = if y = Str.ofString "script" then some v5 else none) (hc : n4 = (c : Int)) : ∃ t1 t4, Fr g L h (lmap v5 v3 v2 (.int (c : Int) t4) (some (.int 1 t1)) none none none none none) := by
  subst hc
  refine ⟨t1, t4, ?_⟩
  refine Fr_congr F fun y => ?_
  by_cases e1 : y = Str.ofString "k"; · (subst e1; rw [hb]; rfl)
  by_cases e2 : y = Str.ofString "orders"; · (subst e2; rfl)
  by_cases e3 : y = Str.ofString "thing"; · (subst e3; rw [hb]; rfl)
  by_cases e4 : y = Str.ofString "other"; · (subst e4; rw [hb]; rfl)
  by_cases e5 : y = Str.ofString "right"; · (subst e5; rw [hb]; rfl)
  by_cases e6 : y = Str.ofString "ahead"; · (subst e6; rw [hb]; rfl)
  by_cases e7 : y = Str.ofString "rising"; · (subst e7; rfl)
  by_cases e8 : y = Str.ofString "asked"; · (subst e8; rfl)
  by_cases e9 : y = Str.ofString "count"; · (subst e9; rfl)
  simp only [lmap, if_neg e1, if_neg e2, if_neg e3, if_neg e4, if_neg e5, if_neg e6, if_neg e7, if_neg e8, if_neg e9, hb]
theorem rangeO_small (n : Nat) (h : n ≤ 9) : Builtin.Range.small 2 ((n : Int) + 1) 1 = true := by
  have : ∀ n : Nat, n < 10 → Builtin.Range.small 2 ((n : Int) + 1) 1 = true := by decide
  exact this n (by omega)
theorem rangeO_size (n : Nat) (h : n ≤ 9) : Builtin.Range.rangeSize 2 ((n : Int) + 1) 1 = ((n - 1 : Nat) : Int) := by
  have : ∀ n : Nat, n < 10 → Builtin.Range.rangeSize 2 ((n : Int) + 1) 1 = ((n - 1 : Nat) : Int) := by decide
  exact this n (by omega)
theorem Fr_ok {g h : Heap} {L : Addr} {vS vA vR vC v1 v2 : Value} {uo uk a b c d : Option Value}
    (F : Fr g L h (fun y => if y = Str.ofString "orders" then some v1 else if y = Str.ofString "k" then some v2 else lmap vS vA vR vC uo uk a b c d y)) : Fr g L h (lmap vS vA vR vC (some v1) (some v2) a b c d) := by
  refine Fr_congr F fun y => ?_
  by_cases e1 : y = Str.ofString "k"; · (subst e1; rfl)
  by_cases e2 : y = Str.ofString "orders"; · (subst e2; rfl)
  simp only [lmap, if_neg e1, if_neg e2]
theorem Fr_turn {g h : Heap} {L : Addr} {vS vA vR vC v1 v2 v3 : Value} {uo uk a b c d : Option Value}
    (F : Fr g L h (fun y => if y = Str.ofString "right" then some v3 else if y = Str.ofString "other" then some v2 else if y = Str.ofString "thing" then some v1 else lmap vS vA vR vC uo uk a b c d y)) : Fr g L h (lmap vS vA vR vC uo uk (some v1) (some v2) (some v3) d) := by
  refine Fr_congr F fun y => ?_
  by_cases e1 : y = Str.ofString "thing"; · (subst e1; rfl)
  by_cases e2 : y = Str.ofString "other"; · (subst e2; rfl)
  by_cases e3 : y = Str.ofString "right"; · (subst e3; rfl)
  simp only [lmap, if_neg e1, if_neg e2, if_neg e3]
theorem Fr_ahead {g h : Heap} {L : Addr} {vS vA vR vC v1 : Value} {uo uk a b c d : Option Value}
    (F : Fr g L h (fun y => if y = Str.ofString "ahead" then some v1 else lmap vS vA vR vC uo uk a b c d y)) : Fr g L h (lmap vS vA vR vC uo uk a b c (some v1)) := by
  refine Fr_congr F fun y => ?_
  by_cases e1 : y = Str.ofString "ahead"; · (subst e1; rfl)
  simp only [lmap, if_neg e1]
theorem rangeP_small (n : Nat) (h : n ≤ 9) : Builtin.Range.small 1 (n : Int) 1 = true := by
  have : ∀ n : Nat, n < 10 → Builtin.Range.small 1 (n : Int) 1 = true := by decide
  exact this n (by omega)
theorem rangeP_size (n : Nat) (h : n ≤ 9) : Builtin.Range.rangeSize 1 (n : Int) 1 = ((n - 1 : Nat) : Int) := by
  have : ∀ n : Nat, n < 10 → Builtin.Range.rangeSize 1 (n : Int) 1 = ((n - 1 : Nat) : Int) := by decide
  exact this n (by omega)
theorem ints_at {vr : List Value} {row : List Nat} {i : Nat} (h : IntsAre vr (row.map Int.ofNat)) (hi : i < row.length) : ∃ t, vr[i]? = some (.int ((row.getD i 0 : Nat) : Int) t) :=
  h.get i _ (by rw [List.getElem?_map, List.getD_eq_getElem?_getD, List.getElem?_eq_getElem hi]; rfl)
theorem pick2 {vr : List Value} {i : Nat} {a b : Value} (ha : vr[i]? = some a) (hb : vr[i + 1]? = some b) : slicePick vr.toArray (some (((i + 1 : Nat) : Int) - 1)) (some (((i + 1 : Nat) : Int) + 1)) none = #[a, b] := by
  obtain ⟨h1, e1⟩ := List.getElem?_eq_some_iff.mp ha
  obtain ⟨h2, e2⟩ := List.getElem?_eq_some_iff.mp hb
  rw [show (((i + 1 : Nat) : Int) - 1) = ((i : Nat) : Int) by omega, show (((i + 1 : Nat) : Int) + 1) = ((i + 2 : Nat) : Int) by omega, slicePick_run _ i (i + 2) (by simp; omega) (by omega)]
  have : vr.drop i = a :: b :: vr.drop (i + 2) := by
    rw [List.drop_eq_getElem_cons h1, List.drop_eq_getElem_cons h2, e1, e2]
  rw [show vr.toArray.toList = vr from rfl, this, show i + 2 - i = 2 by omega]
  rfl
theorem ord1 {a b : Int} {r : Bool} (h : a < b) : (decide (a < b) || (decide (a = b) && !r)) = true := by simp [h]
theorem ord2 {a b : Int} {r : Bool} (h : ¬ a < b) (e : a = b) : (decide (a < b) || (decide (a = b) && !r)) = !r := by subst e; simp
theorem ord3 {a b : Int} {r : Bool} (h : ¬ a < b) (e : ¬ a = b) : (decide (a < b) || (decide (a = b) && !r)) = false := by simp [h, e]
theorem fact_step (i : Nat) : ((factB (1 + i) : Nat) : Int) * (2 + (i : Int) * 1) = ((factB (1 + (i + 1)) : Nat) : Int) := by
  rw [show (2 + (i : Int) * 1) = ((1 + i + 1 : Nat) : Int) by omega, show 1 + (i + 1) = (1 + i) + 1 by omega, factB, Int.natCast_mul]
def PairObj (h0 : Heap) (pA : Addr) (v : Value) (o : Obj) : Prop := ∀ q, Trip h0 pA v q → ∃ t1 t2 n, o = listOf #[.int ((pairB q).1 : Int) t1, .int ((pairB q).2 : Int) t2] n
theorem allLt_mem {d : Nat} : ∀ {l : List (Addr × Obj)}, AllLt d l → ∀ {p}, p ∈ l → @LT.lt Nat _ p.1 d
  | [], _, _, h => nomatch h
  | _ :: _, h, _, hp => by
    rcases List.mem_cons.mp hp with rfl | hp
    · exact h.1
    · exact allLt_mem h.2 hp
theorem two_sorted {a b : Int} {n : List Int} (p : n.Perm [a, b]) (o : n.Pairwise (· ≤ ·)) : n = if a ≤ b then [a, b] else [b, a] := by
  split
  · rename_i h
    exact ksm_same p o (by simp [h])
  · rename_i h
    exact ksm_same (p.trans (List.Perm.swap _ _ _)) o (by simp; omega)
theorem pair_end {H0 h' : Heap} {C D l pA t : Addr} {lo : Obj} {m₃ : Str → Option Value} {U : List (Addr × Obj)} {v : List Value} {n' : List Int} {c n : Nat} {q : Q3} {t1 t2 : Tok} {s₃ : Shared} {tk' : Nat}
    (F16 : Fr H0 C h' m₃) (N16 : News H0 C h' ((D, listOf v.toArray c) :: (l, lo) :: U)) (hlt : AllLt D U) (i16 : IntsAre v n') (p16 : n'.Perm [(q.1 : Int), (q.2.1 : Int)]) (o16 : n'.Pairwise (· ≤ ·))
    (hg : H0.get? t = some (tripObj q t1 t2 n)) :
    ∃ D4 o h tk, Value.ref D = .ref D4 ∧ ({ s₃ with heap := h', toks := tk' } : Shared) = { s₃ with heap := h, toks := tk } ∧ Fr H0 C h m₃ ∧ News H0 C h ((D4, o) :: U) ∧ (∀ p ∈ U, p.1 ≠ D4) ∧ PairObj H0 pA (.ref t) o := by
  refine ⟨D, listOf v.toArray c, h', tk', rfl, rfl, F16, fun p hp => ?_, fun p hp => Nat.ne_of_lt (allLt_mem hlt hp), ?_⟩
  · rcases List.mem_cons.mp hp with rfl | hp
    · exact N16 _ (.head _)
    · exact N16 _ (.tail _ (.tail _ hp))
  · intro q' ht
    obtain ⟨r, a1, a2, m, e, _, g⟩ := ht
    cases e
    rw [hg] at g
    have h1 := congrArg Obj.data (Option.some.inj g)
    injection h1 with h2 h3
    have h4 := congrArg Array.toList h2
    have e1 : q.1 = q'.1 := by
      have := congrArg (fun l => l[0]?) h4
      simp at this; omega
    have e2 : q.2.1 = q'.2.1 := by
      have := congrArg (fun l => l[1]?) h4
      simp at this; omega
    have hn := two_sorted p16 o16
    have hpb : n' = [((pairB q').1 : Int), ((pairB q').2 : Int)] := by
      rw [hn]
      unfold pairB
      rw [e1, e2]
      by_cases hq : q'.1 ≤ q'.2.1
      · rw [if_pos (by omega), if_pos hq]
      · rw [if_neg (by omega), if_neg hq]
    rw [hpb] at i16
    obtain ⟨b1, v1, rfl, i17⟩ := i16.cons_inv
    obtain ⟨b2, v2, rfl, i18⟩ := i17.cons_inv
    obtain rfl := i18.nil_inv
    exact ⟨b1, b2, c, rfl⟩
theorem pair_is {h : Heap} {D : Addr} {v : List Value} {n' : List Int} {c : Nat} {xa xb : Nat} (i16 : IntsAre v n') (p16 : n'.Perm [(xa : Int), (xb : Int)]) (o16 : n'.Pairwise (· ≤ ·)) (hg : h.get? D = some (listOf v.toArray c)) :
    PairIs h (.ref D) (pairB (xa, xb, true)) := by
  have hn := two_sorted p16 o16
  have hpb : n' = [((pairB (xa, xb, true)).1 : Int), ((pairB (xa, xb, true)).2 : Int)] := by
    rw [hn]
    unfold pairB
    by_cases hq : xa ≤ xb
    · rw [if_pos (by omega), if_pos hq]
    · rw [if_neg (by omega), if_neg hq]
  rw [hpb] at i16
  obtain ⟨b1, v1, rfl, i17⟩ := i16.cons_inv
  obtain ⟨b2, v2, rfl, i18⟩ := i17.cons_inv
  obtain rfl := i18.nil_inv
  exact ⟨D, b1, b2, c, rfl, hg⟩
theorem abs_heap {h : Heap} {pA : Addr} {vs : List Value} {qs : List Q3} (x : Trips h pA vs qs) : ∃ H0, H0 = h ∧ Trips H0 pA vs qs := ⟨h, rfl, x⟩
theorem trips_mem2 {h : Heap} {pA : Addr} {vs : List Value} {qs : List Q3} (x : Trips h pA vs qs) {v : Value} (hv : v ∈ vs) : ∃ q, q ∈ qs ∧ Trip h pA v q := by
  induction x with
  | nil => cases hv
  | cons a _ ih =>
    cases hv with
    | head => exact ⟨_, .head _, a⟩
    | tail _ hv => obtain ⟨q, hq, z⟩ := ih hv; exact ⟨q, .tail _ hq, z⟩
theorem abs_fr {g h : Heap} {L : Addr} {m : Str → Option Value} (F : Fr g L h m) : ∃ H1, H1 = h ∧ Fr g L H1 m := ⟨h, rfl, F⟩
theorem trips_mem {h : Heap} {pA : Addr} {vs : List Value} {qs : List Q3} (x : Trips h pA vs qs) {v : Value} (hv : v ∈ vs) : ∃ q, Trip h pA v q := by
  induction x with
  | nil => cases hv
  | cons a _ ih =>
    cases hv with
    | head => exact ⟨_, a⟩
    | tail _ hv => exact ih hv
theorem pairs_at {H0 h g : Heap} {W : List Addr} {pA : Addr} {vs ys : List Value} {qs : List Q3} (x : Paired (Fresh (PairObj H0 pA) g W h) vs ys) (y : Trips H0 pA vs qs) : PairsAt h ys (qs.map pairB) := by
  induction x generalizing qs with
  | nil => cases y; exact .nil
  | cons a _ ih =>
    cases y with
    | cons b y =>
      obtain ⟨D, o, e, _, _, q, z⟩ := a
      obtain ⟨t1, t2, n, rfl⟩ := z _ b
      exact .cons ⟨D, t1, t2, n, e, q⟩ (ih y)
theorem cell_notSide {o : Obj} {v : Option Value} (h : o.data = .cell v) : ¬ Side o := by
  rintro (⟨q, t1, t2, n, rfl⟩ | ⟨vs, e⟩)
  · cases h
  · rw [h] at e; cases e
theorem emptyCodes {h : Heap} : Codes h #[] := ⟨trivial, fun _ _ => .inl rfl⟩
theorem use_row {w : World} {A : Around} {s : Shared} {b0 : Heap} {L : Addr} {m : Str → Option Value} {p : Program} {loose : List Str} {mean : ExcName → Option Value} {mg mb : Str → Option Value} {Q E : Value → Shared → Prop} {vn : List Value} {ns : List Int} {n : Nat}
    {pT pA pN c1 c2 c3 : Addr} {x1 x2 : Addr × Obj} {o1 o2 o3 : Obj} {vt : List Value} {cT cN : Nat}
    (X0 : (hd.heap_39 w.params).In b0) (T0 : Top p loose mean mg mb b0) (C0 : CodeHd b0 45 41) (hh : A.handled = none)
    (F : Fr b0 L s.heap m) (N : News b0 L s.heap [(pT, listOf vt.toArray cT), (pA, listOf #[] 0), (pN, listOf vn.toArray cN), x1, x2, (c1, o1), (c2, o2), (c3, o3), (41, tabObj #[])])
    {kT : Nat} (hvT' : IntsAre vt (rangeKs 0 kT)) (hkT : kT = n) (hvN : IntsAre vn ns) (hn : n = ns.length) (hn9 : n ≤ 9)
    (hneT : pT ≠ pA) (hneN : pN ≠ pA) (hp41 : pA ≠ 41) (hN41 : pN ≠ 41) (hc1 : c1 ∉ [pA, 41]) (hc2 : c2 ∉ [pA, 41]) (hc3 : c3 ∉ [pA, 41])
    (hsa : (rowF (fun k => ns.getD k 0) 9 (List.range n)).2.length < 700) (hroom : A.depth + 9 + 10 < recursionLimit) (hu : A.units + 3 * 9 + 60 < cLine)
    (h : ∀ r h' tk vr nr (il : List Value) n1 ps T, IntsAre vr ((rowF (fun k => ns.getD k 0) 9 (List.range n)).1.map Int.ofNat) → Fr b0 L h' m →
      News b0 L h' ([(r, listOf vr.toArray nr), (pA, listOf il.toArray n1), (pN, listOf vn.toArray cN), (c1, o1), (c2, o2), (c3, o3), (41, tabObj ps)] ++ T) →
      ATL b0 T pA il.toArray ps (rowF (fun k => ns.getD k 0) 9 (List.range n)).2 → (∀ p ∈ T, p.1 ≠ pA ∧ p.1 ≠ 41 ∧ Side p.2) → @LT.lt Nat _ c1 r → @LT.lt Nat _ c2 r → @LT.lt Nat _ c3 r → @LT.lt Nat _ pA r → @LT.lt Nat _ pN r → @LT.lt Nat _ 41 r →
      Q (.ref r) { s with heap := h', toks := tk }) :
    wpAny (model PG w) A (call (.ref 51) [.ref pT, .ref pN, .ref pA]) Q E s := by
  have h41 : b0.get? 41 = none := (N (41, tabObj #[]) (by k_mem)).2.2
  have hvT : IntsAre vt ((List.range n).map Int.ofNat) := by rw [hkT, rangeKs_nat] at hvT'; exact hvT'
  have hp : b0.get? pA = none := (N (pA, listOf #[] 0) (by k_mem)).2.2
  refine row_spec X0 T0 C0 h41 9 (qs := []) hh F.keep hp hp41 ⟨#[], 0, N.get (by k_mem), .nil⟩ (Tab.mk (N.get (a := 41) (o := tabObj #[]) (by k_mem)) emptyCodes) ⟨_, N.get (.head _), rfl, _, rfl⟩ hvT ⟨_, N.get (.tail _ (.tail _ (.head _))), rfl, _, rfl⟩ hvN hneT hneN
    (fun o ho => by have := List.mem_range.mp ho; omega) List.nodup_range (by rw [List.length_range]; omega) (by rw [List.length_range]; omega) (by omega) (by simpa using hsa) (by omega) (by omega) ?_
  intro r h' tk vr nr K lr gr hvr hA hT
  obtain ⟨its, n1, gA, RA⟩ := hA
  obtain ⟨il, rfl⟩ : ∃ il : List Value, its = il.toArray := ⟨its.toList, by simp⟩
  obtain ⟨ps, gP, CP⟩ := hT.open
  obtain ⟨F1, N1⟩ := after_keepW [(pA, listOf il.toArray n1), (pN, listOf vn.toArray cN), (c1, o1), (c2, o2), (c3, o3), (41, tabObj ps)] F N K (by
    intro a ha
    rcases List.mem_cons.mp ha with rfl | ha
    · exact ⟨listOf #[] 0, by k_mem⟩
    · cases ha with | head => exact ⟨tabObj #[], by k_mem⟩ | tail _ h => cases h) (by
    refine List.forall_mem_cons.mpr ⟨?_, List.forall_mem_cons.mpr ⟨?_, List.forall_mem_cons.mpr ⟨?_, List.forall_mem_cons.mpr ⟨?_, List.forall_mem_cons.mpr ⟨?_, List.forall_mem_cons.mpr ⟨?_, fun _ h => nomatch h⟩⟩⟩⟩⟩⟩
    · exact .inr ⟨.head _, gA⟩
    · exact .inl ⟨by k_mem, notin2 hneN hN41⟩
    · exact .inl ⟨by k_mem, hc1⟩
    · exact .inl ⟨by k_mem, hc2⟩
    · exact .inl ⟨by k_mem, hc3⟩
    · exact .inr ⟨.tail _ (.head _), gP⟩)
  have lt_r : ∀ a o, s.heap.get? a = some o → @LT.lt Nat _ a r := fun a o e => Nat.lt_of_lt_of_le (Heap.lt_size e) lr
  have hbr : b0.get? r = none := by
    cases q : b0.get? r with
    | none => rfl
    | some o => have := F.keep _ _ q; rw [Heap.get?_none_of_le lr] at this; cases this
  have hLr : @LT.lt Nat _ L r := by obtain ⟨oL, es, ep, hL, _⟩ := F.ns; exact lt_r _ _ hL
  have N2 : News b0 L h' [(r, listOf vr.toArray nr), (pA, listOf il.toArray n1), (pN, listOf vn.toArray cN), (c1, o1), (c2, o2), (c3, o3), (41, tabObj ps)] := by
    intro q hq
    rcases List.mem_cons.mp hq with rfl | hq
    · exact ⟨gr, Nat.ne_of_gt hLr, hbr⟩
    · exact N1 q hq
  obtain ⟨T, N3, hT3, al⟩ := adopt2 F1 N2 (by k_mem) (by k_mem) ⟨RA, CP⟩
  rw [List.nil_append] at al
  exact h r h' tk vr nr il n1 ps T hvr F1 N3 al hT3 (lt_r _ _ (N.get (a := c1) (o := o1) (by k_mem))) (lt_r _ _ (N.get (a := c2) (o := o2) (by k_mem))) (lt_r _ _ (N.get (a := c3) (o := o3) (by k_mem))) (lt_r _ _ (N.get (a := pA) (o := listOf #[] 0) (by k_mem))) (lt_r _ _ (N.get (a := pN) (o := listOf vn.toArray cN) (by k_mem))) (lt_r _ _ (N.get (a := 41) (o := tabObj #[]) (by k_mem)))
local macro_rules | `(tactic| walk_at "call builtin:len") => `(tactic| ((with_reducible show wpAny _ _ (call (Value.builtin "len") [Value.ref _]) _ _ _); (rename TripsL _ _ _ _ _ => tpX); refine Halt.out ?_))
local macro_rules | `(tactic| walk_at "execs cons") => `(tactic| ((with_reducible show wpAny _ _ (execs (Stmt.Assign _ (Expr.ListComp _ _ _ _) _ :: _) _) _ _ _); refine Halt.out ?_))
local macro_rules | `(tactic| walk_at "call builtin:list.count") => `(tactic| refine Halt.out ?_)
local macro_rules | `(tactic| walk_at "compareOp NotIn ref ref") => `(tactic| refine Halt.out ?_)
local macro_rules | `(tactic| walk_at "execs cons") => `(tactic| ((with_reducible show wpAny _ _ (execs (Stmt.Assign _ (Expr.BoolOp _ _ _) _ :: _) _) _ _ _); refine Halt.out ?_))
local macro_rules | `(tactic| walk_at "binaryOp Pow int int") => `(tactic| refine Halt.out ?_)
local macro_rules | `(tactic| walk_at "call builtin:list.index") => `(tactic| refine Halt.out ?_)
local macro_rules | `(tactic| walk_at "eval Subscript") => `(tactic| ((with_reducible show wpAny _ _ (eval (Expr.Subscript _ (Expr.Slice _ _ _ _) _) (compEnvC _ _ _ _)) _ _ _); refine Halt.out ?_))
local macro_rules | `(tactic| walk_at "subscriptTail Name Slice ref ref") => `(tactic| ((with_reducible show wpAny _ _ (subscriptTail (Expr.Name _ _) (Expr.Slice (some _) (some _) _ _) _ _) _ _ _); refine Halt.out ?_))
local macro_rules | `(tactic| walk_at "eval Name") => `(tactic| ((with_reducible show wpAny _ _ (eval (Expr.Name (Str.ofString "pairs") _) (compEnvC _ _ _ _)) _ _ _); refine Halt.out ?_))
set_option maxHeartbeats 8000000 in
theorem holds : PySem.Challenge.rw_pm0001_01.Holds := Mine.hd (by
  k_go0
  all_goals (try k_fold)
  k_steps
  rename_i w s0 s1 mg mb G Y fa o pm cd doc ho hcd X V T B TE TW sc hs hlay0 hL1 hr1 hl2 w7 w6 aS vS w3 hLS ra w1 r0 hIS hr hc1 hc2 hD h1 tk1 o2 o1 o0 dl1 dl2 dl3 X0 X' T' K' l0 lq hq8 l14 D2 ws1 h7' hI2 hC' hL' l13 pN vn _ hvN lN _ oC dC _ _ _ pA _ lA _ _ _ _ _ _ _ _ pT vt cT hh tkT F1 N1 hvT lT
  generalize hxs : List.take 4 sc = xs at *
  have hx4 : xs.length ≤ 4 := by rw [← hxs, List.length_take]; omega
  have hPO := plain_all xs hx4
  have hpl := hPO.few
  refine Halt.mk ?_
  refine use_row (n := 5 + xs.length) (ns := nsOf xs) X' T' codeHd rfl F1 N1 hvT (by omega) hvN (by simp; omega) (by omega) (Nat.ne_of_gt lT.1) (Nat.ne_of_lt lA.1) (Nat.ne_of_gt lA.2.2.2.2.2.2) (Nat.ne_of_gt ?_) (notin2 (Nat.ne_of_lt lA.2.2.2.1) ?_) (notin2 (Nat.ne_of_lt lA.2.2.2.2.1) ?_) (notin2 (Nat.ne_of_lt lA.2.2.2.2.2.1) ?_) (Nat.lt_of_le_of_lt hpl (by decide)) ?_ ?_ ?_
  · exact lN.2.2.2.2.2
  · exact Nat.ne_of_gt (Nat.lt_of_lt_of_le l0 (Nat.le_add_right _ 3))
  · exact Nat.ne_of_gt (Nat.lt_of_lt_of_le l0 (Nat.le_add_right _ 2))
  · exact Nat.ne_of_gt (Nat.lt_of_lt_of_le l0 (Nat.le_add_right _ 1))
  · show callerA.depth + 1 + 9 + 10 < recursionLimit; decide
  · show callerA.units + 3 + 3 * 9 + 60 < cLine; decide
  intro r h3 tk3 vr nr il n1 ps TT hvr F3 N3 al3 hT3 zr1 zr2 zr3 zrA zrN zr4
  simp only [List.cons_append, List.nil_append] at N3
  clear F1 N1
  dsimp only
  have hTrow : ∀ p ∈ TT, p.1 ≠ s0.heap.objs.size + 1 + 1 := side_off hT3 N3 (fun p hp => .tail _ (.tail _ (.tail _ (.tail _ (.tail _ (.tail _ (.tail _ hp))))))) (.tail _ (.tail _ (.tail _ (.tail _ (.head _))))) (cell_notSide dl2)
  have hTpairs : ∀ p ∈ TT, p.1 ≠ s0.heap.objs.size + 1 + 1 + 1 := side_off hT3 N3 (fun p hp => .tail _ (.tail _ (.tail _ (.tail _ (.tail _ (.tail _ (.tail _ hp))))))) (.tail _ (.tail _ (.tail _ (.head _)))) (cell_notSide dl1)
  k_steps
  obtain ⟨row, hrow⟩ : ∃ row, row = (rowF (fun k => (nsOf xs).getD k 0) 9 (List.range (5 + xs.length))).1 := ⟨_, rfl⟩
  obtain ⟨qs, hqs⟩ : ∃ qs, qs = (rowF (fun k => (nsOf xs).getD k 0) 9 (List.range (5 + xs.length))).2 := ⟨_, rfl⟩
  rw [← hrow] at hvr
  rw [← hqs] at al3 hpl
  rw [← hrow, ← hqs] at hPO
  refine Halt.mk ?_
  refine' comp_list (cl := _) (fun _ => true) (fun v y => ∃ k t t', v = Value.int k t ∧ y = Value.int ((nsOf xs).getD k.toNat 0) t') rfl ?clos ?cell ?kind ?names ?x ?_
  case clos => rfl
  case cell => decide
  case kind => rfl
  case names => decide
  case x => rfl
  k_steps
  rename_i _ oR dR _ DR vR nR cR _ iR eR _ hsort bR hperm lR _ F4 N4
  have hnc : Heap.IsCell _ (s0.heap.objs.size + 1) (some (.ref pN)) := ⟨oC, N4.get (by k_mem), dC⟩
  have hnl : Heap.IsList _ pN vn.toArray := ⟨_, N4.get (a := pN) (by k_mem), rfl, _, rfl⟩
  have hrl : row.length = 5 + xs.length := by rw [hrow, (rowF_keys _ _ _ (by rw [List.length_range]; omega)).2, List.length_range]
  have hrm : ∀ x ∈ row, x < 5 + xs.length := fun x hx => by rw [hrow] at hx; exact List.mem_range.mp ((rowF_keys _ _ _ (by rw [List.length_range]; omega)).1 x hx)
  have hvrl : vr.length = row.length := by rw [hvr.length, List.length_map]
  refine ⟨r, vr.toArray, rfl, ⟨_, N4.get (a := r) (by k_mem), rfl, _, rfl⟩, ?_, fun _ v _ _ _ _ _ _ _ _ => noTests (v := v), ?_, ?_⟩
  · have : (20 : Nat) ≤ sizeLine := by decide
    simp only [List.size_toArray]
    omega
  · intro C v s₃ m₃ E' hC hv _ hn hm hk
    obtain ⟨k, t, rfl, hk2⟩ := ints_mem hvr (by simpa using hv)
    obtain ⟨x, hx, rfl⟩ := List.mem_map.mp hk2
    have hxl := hrm x hx
    refine Subscript_ (wpAny_Name (wpAny_loadName_cell rfl rfl rfl (hnc.keeps hk) (wpAny_Name (wpAny_loadName_local rfl rfl hn hm ?_))))
    refine item_list_ints (hnl.at fun o e => hk _ o e) hvN (Int.natCast_nonneg x) ?_ ?_ (fun t2 => ⟨⟨_, _, _, rfl, rfl⟩, s₃.heap, _, rfl, fun _ _ e => e⟩)
    · show ((x : Nat) : Int) < _
      rw [List.length_append]; simp; omega
    · show ((x : Nat) : Int) < _
      omega
  intro D5 h5 tk5 ys5 n5 hD5 hD6 hp5 hk5
  obtain ⟨yl, rfl⟩ : ∃ yl : List Value, ys5 = yl.toArray := ⟨ys5.toList, by simp⟩
  obtain rfl := ksm_same (hperm.trans hPO.perm.symm) hsort hPO.sorted
  have hyI : IntsAre yl (row.map (numX xs)) := by
    have hp2 : Paired (fun v y => ∃ k t t', v = Value.int k t ∧ y = Value.int ((nsOf xs).getD k.toNat 0) t') vr yl := by
      rw [List.filter_eq_self.mpr (fun _ _ => rfl)] at hp5
      exact hp5
    have := paired_ints (f := fun k => (nsOf xs).getD k.toNat 0) hvr hp2
    rw [List.map_map] at this
    exact this
  obtain ⟨F5, N5⟩ := news_new F4 N4 hD5 hD6 hk5
  clear F4 N4
  k_steps
  rename Fr _ _ _ _ => F6
  rename News _ _ _ _ => N6
  obtain ⟨tO, tC, F7⟩ := Fr_law F6 (v5 := .ref aS) (c := 5 + xs.length) (fun y => rfl) (by omega)
  have N7 : News _ _ _ ([(r, listOf vr.toArray nr), (pA, listOf il.toArray n1), (pN, listOf vn.toArray 0), (s0.heap.objs.size + 1 + 1 + 1, o2), (s0.heap.objs.size + 1 + 1, oR), (s0.heap.objs.size + 1, oC), (41, tabObj ps)] ++ TT) := fun p hp => N6 p (by
    simp only [List.cons_append, List.nil_append, List.mem_cons] at hp
    rcases hp with rfl | rfl | rfl | rfl | rfl | rfl | rfl | hp
    all_goals first | k_mem | exact .tail _ (.tail _ (.tail _ (.tail _ (.tail _ (.tail _ (.tail _ (.tail _ (.tail _ hp)))))))))
  simp only [List.cons_append, List.nil_append] at N7
  clear N6 F6
  refine Halt.mk ?_
  refine wpAny_For ?_
  k_steps
  rename_i h8 tk8 _ _ _ hR F8 N8 _
  have hn9 : 5 + xs.length ≤ 9 := by omega
  refine Halt.mk ?_
  refine wpAny_pyIter_range hR (rangeO_small _ hn9) ?_
  have N9 := N8.push F8 (rIt 2 (Builtin.Range.rangeSize 2 (((5 + xs.length : Nat) : Int) + 1) 1) 1)
  have F9 := F8.push (rIt 2 (Builtin.Range.rangeSize 2 (((5 + xs.length : Nat) : Int) + 1) 1) 1)
  have zI := fun (p : Addr × Obj) hp => Heap.lt_size (N8 p hp).1
  dsimp only
  rw [rangeO_size _ hn9] at N9 F9 ⊢
  generalize hI : h8.objs.size = I at N9 F9 zI ⊢
  clear F8 N8 hR
  refine for_W (Walks.range rfl I 2 1 (5 + xs.length - 1)) (fun i s₁ => ∃ (h' : Heap) (tk' : Nat) (uk : Option Value) (tO : Tok),
      s₁ = { s0 with heap := h', toks := tk' } ∧ Fr (ghostOf s0.heap [(45, 41)]) s0.heap.objs.size h' (lmap (.ref aS) (.ref pA) (.ref DR) (.int ((5 + xs.length : Nat) : Int) tC) (some (.int ((factB (1 + i) : Nat) : Int) tO)) uk none none none none) ∧
      News (ghostOf s0.heap [(45, 41)]) s0.heap.objs.size h' ((I, rIt (2 + (i : Nat) * 1) (((5 + xs.length - 1 : Nat) : Int) - (i : Nat)) 1) :: (r, listOf vr.toArray nr) :: (pA, listOf il.toArray n1) :: (pN, listOf vn.toArray 0) :: (s0.heap.objs.size + 1 + 1 + 1, o2) :: (s0.heap.objs.size + 1 + 1, oR) :: (s0.heap.objs.size + 1, oC) :: (41, tabObj ps) :: TT)) ?start ?st ?turn ?done
  case start =>
    refine ⟨_, _, _, _, rfl, F9, ?_⟩
    simpa using N9
  case st =>
    rintro i s₁ ⟨h, tk', uk, tO', rfl, F, N⟩
    exact (N _ (.head _)).1
  case turn =>
    clear F9 N9
    rintro i v s₁ h4 tk4 hin ⟨tv, rfl⟩ ⟨h3', tk3', uk, tO', rfl, F3, N3⟩ hst4 k4
    have k4' : Keep [I] h3' h4 := k4
    have F4' : Fr (ghostOf s0.heap [(45, 41)]) s0.heap.objs.size h4 _ := (after_keepW [] F3 N3 k4' (by intro a ha; cases ha with | head => exact ⟨_, .head _⟩ | tail _ h => cases h) (fun _ h => nomatch h)).1
    have N4' : News (ghostOf s0.heap [(45, 41)]) s0.heap.objs.size h4 ((I, rIt (2 + ((i + 1 : Nat) : Int) * 1) (((5 + xs.length - 1 : Nat) : Int) - ((i + 1 : Nat) : Int)) 1) :: (r, listOf vr.toArray nr) :: (pA, listOf il.toArray n1) :: (pN, listOf vn.toArray 0) :: (s0.heap.objs.size + 1 + 1 + 1, o2) :: (s0.heap.objs.size + 1 + 1, oR) :: (s0.heap.objs.size + 1, oC) :: (41, tabObj ps) :: TT) := by
      intro p hp
      rcases List.mem_cons.mp hp with rfl | hp
      · exact ⟨hst4, (N3 _ (.head _)).2⟩
      · exact ⟨k4' _ _ (by simpa using Nat.ne_of_lt (zI p hp)) (N3 p (.tail _ hp)).1, (N3 p (.tail _ hp)).2⟩
    clear F3 N3
    refine wpAny_of_eq (a := ()) rfl ?_
    refine wpAny_assign_Name ?_
    k_steps
    rename Fr _ _ _ _ => F10
    rename News _ _ _ _ => N10
    rw [fact_step] at F10
    exact Halt.mk ⟨_, _, _, _, rfl, Fr_ok F10, N10⟩
  case done =>
    clear F9 N9
    rintro s₁ h4 tk4 ⟨h3', tk3', uk, tO', rfl, F3, N3⟩ k4
    have k4' : Keep [I] h3' h4 := k4
    have F4' : Fr (ghostOf s0.heap [(45, 41)]) s0.heap.objs.size h4 _ := (after_keepW [] F3 N3 k4' (by intro a ha; cases ha with | head => exact ⟨_, .head _⟩ | tail _ h => cases h) (fun _ h => nomatch h)).1
    have N4' : News (ghostOf s0.heap [(45, 41)]) s0.heap.objs.size h4 ((r, listOf vr.toArray nr) :: (pA, listOf il.toArray n1) :: (pN, listOf vn.toArray 0) :: (s0.heap.objs.size + 1 + 1 + 1, o2) :: (s0.heap.objs.size + 1 + 1, oR) :: (s0.heap.objs.size + 1, oC) :: (41, tabObj ps) :: TT) := by
      intro p hp
      exact ⟨k4' _ _ (by simpa using Nat.ne_of_lt (zI p hp)) (N3 p (.tail _ hp)).1, (N3 p (.tail _ hp)).2⟩
    clear F3 N3
    dsimp only
    have hfact : (2 : Int) ^ qs.length < 2 * ((factB (1 + (5 + xs.length - 1)) : Nat) : Int) := by
      have h0 := hPO.fact
      rw [show 1 + (5 + xs.length - 1) = 5 + xs.length from by omega]
      generalize factB (5 + xs.length) = G0 at h0 ⊢
      have e2 : ((2 ^ qs.length : Nat) : Int) = (2 : Int) ^ qs.length := by simp
      rw [← e2]
      generalize 2 ^ qs.length = P0 at h0 ⊢
      omega
    generalize ((factB (1 + (5 + xs.length - 1)) : Nat) : Int) = G at F4' hfact
    obtain ⟨P, hP0⟩ : ∃ P, (2 : Int) ^ qs.length = P := ⟨_, rfl⟩
    rw [hP0] at hfact
    have hTL := al3.1
    have hill : il.length = qs.length := by
      have := (al3.back F4' N4' (fun p hp => .tail _ (.tail _ (.tail _ (.tail _ (.tail _ (.tail _ (.tail _ hp)))))))).1.length
      simpa using this
    k_steps
    refine Halt.mk ?_
    refine len_list (items := il.toArray) ⟨_, N4'.get (.tail _ (.head _)), rfl, _, rfl⟩ (by rw [List.size_toArray]; omega) ?_
    rename TripsL _ _ _ _ _ => tpY
    clear tpY
    rw [show il.toArray.size = qs.length from by rw [← hill]; simp]
    k_steps
    refine Halt.mk ?_
    refine pow_int_small ?_ ?_ ?_ ?_
    · exact Int.natCast_nonneg _
    · omega
    · decide
    rw [Int.toNat_natCast]
    rw [hP0]
    k_steps
    rename Fr _ _ _ _ => F12
    rename News _ _ _ _ => N12
    refine Halt.mk ?_
    refine wpAny_execs_cons ?_
    refine wpAny_Assign_stores ?_ (by rfl) (by rfl)
    have at12 := al3.back F12 N12 (fun p hp => .tail _ (.tail _ (.tail _ (.tail _ (.tail _ (.tail _ (.tail _ hp)))))))
    obtain ⟨H0, hH0, tr12⟩ := abs_heap at12.1
    subst hH0
    refine' comp_trip (cl := []) (PairObj H0 pA) rfl rfl ?cell ?kind ?names ?xa ?xb ?xc ?ab ?ac ?bc ?_
    case cell => decide
    case kind => rfl
    case names => decide
    case xa => rfl
    case xb => rfl
    case xc => rfl
    case ab => decide
    case ac => decide
    case bc => decide
    k_steps
    refine ⟨pA, il.toArray, rfl, ⟨_, N12.get (a := pA) (by k_mem), rfl, _, rfl⟩, ?_, ?_, ?_⟩
    · have : (1000 : Nat) ≤ sizeLine := by decide
      rw [show il.toArray.size = qs.length from by rw [← hill]; simp]; omega
    · intro v hv
      obtain ⟨q, hq⟩ := trips_mem tr12 (show v ∈ il by simpa using hv)
      obtain ⟨t, t1, t2, n, rfl, _, hg⟩ := id hq
      refine ⟨t, .int (q.1 : Int) t1, .int (q.2.1 : Int) t2, .bool q.2.2, rfl, ⟨_, hg, rfl, _, rfl⟩, ?_⟩
      intro C s₃ m₃ E' U F13o N13o m1 m2 m3
      have F13 : Fr H0 C s₃.heap m₃ := F13o
      have N13 : News H0 C s₃.heap U := N13o
      have hn13 := F13.ns
      clear F13o N13o
      have X13 := X'.keeps F12.keep
      have T13 := T'.keeps F12.keep
      k_steps
      rename Fr _ _ _ _ => F16
      rename News _ _ _ _ => N16
      rename IntsAre _ _ => i16
      rename List.Pairwise _ _ => o16
      rename List.Perm _ _ => p16
      rename _ ∧ AllLt _ _ => l16
      exact Halt.mk (pair_end F16 N16 l16.2 i16 p16 o16 hg)
    intro D7 h7 tk7 ys7 n7 hD7l gD7 hp7 hk7
    have hD7l : @LE.le Nat _ H0.objs.size D7 := hD7l
    have hD7 := Heap.get?_none_of_le hD7l
    have z7 := fun (p : Addr × Obj) hp => Nat.lt_of_lt_of_le (Heap.lt_size (N12 p hp).1) hD7l
    have zp1 : @LT.lt Nat _ (s0.heap.objs.size + 1 + 1 + 1) D7 := z7 (s0.heap.objs.size + 1 + 1 + 1, o2) (by k_mem)
    have zp2 : @LT.lt Nat _ (s0.heap.objs.size + 1 + 1) D7 := z7 (s0.heap.objs.size + 1 + 1, oR) (by k_mem)
    have zp3 : @LT.lt Nat _ (s0.heap.objs.size + 1) D7 := z7 (s0.heap.objs.size + 1, oC) (by k_mem)
    have zp4 : @LT.lt Nat _ r D7 := z7 (r, listOf vr.toArray nr) (by k_mem)
    have zp5 : @LT.lt Nat _ pA D7 := z7 (pA, listOf il.toArray n1) (by k_mem)
    have zp6 : @LT.lt Nat _ pN D7 := z7 (pN, listOf vn.toArray 0) (by k_mem)
    have zp7 : @LT.lt Nat _ 41 D7 := z7 (41, tabObj ps) (by k_mem)
    obtain ⟨yl7, rfl⟩ : ∃ yl : List Value, ys7 = yl.toArray := ⟨ys7.toList, by simp⟩
    obtain ⟨PU, hPU, hPk⟩ := fresh_ledger hp7
    obtain ⟨F14, N14⟩ := news_new F12 N12 hD7 gD7 hk7
    have hL12 := F12.ns.lt
    have N15 : News (ghostOf s0.heap [(45, 41)]) s0.heap.objs.size h7 ((D7, listOf yl7.toArray n7) :: (r, listOf vr.toArray nr) :: (pA, listOf il.toArray n1) :: (pN, listOf vn.toArray 0) :: (s0.heap.objs.size + 1 + 1 + 1, o2) :: (s0.heap.objs.size + 1 + 1, oR) :: (s0.heap.objs.size + 1, oC) :: (41, tabObj ps) :: (TT ++ PU)) := by
      intro p hp
      simp only [List.mem_cons, List.mem_append] at hp
      rcases hp with rfl | rfl | rfl | rfl | rfl | rfl | rfl | rfl | hp | hp
      · exact N14 _ (.head _)
      · exact N14 _ (by k_mem)
      · exact N14 _ (by k_mem)
      · exact N14 _ (by k_mem)
      · exact N14 _ (by k_mem)
      · exact N14 _ (by k_mem)
      · exact N14 _ (by k_mem)
      · exact N14 _ (by k_mem)
      · exact N14 _ (.tail _ (.tail _ (.tail _ (.tail _ (.tail _ (.tail _ (.tail _ (.tail _ hp))))))))
      · have z := hPU p hp
        refine ⟨z.1, fun q => ?_, ?_⟩
        · obtain ⟨oL, es, ep, hL, _⟩ := F12.ns
          rw [q, hL] at z; cases z.2.2
        · cases q : (ghostOf s0.heap [(45, 41)]).get? p.1 with
          | none => rfl
          | some ob => have := F12.keep _ _ q; rw [z.2.2] at this; cases this
    have hT7 : ∀ p ∈ TT ++ PU, p.1 ≠ s0.heap.objs.size + 1 + 1 + 1 := by
      intro p hp
      rcases List.mem_append.mp hp with hp | hp
      · exact hTpairs p hp
      · intro q
        have z := (hPU p hp).2.2
        rw [q] at z
        have := N12.get (a := s0.heap.objs.size + 1 + 1 + 1) (o := o2) (by k_mem)
        rw [z] at this; cases this
    clear N12 N14
    obtain ⟨UU, hUU⟩ : ∃ UU, UU = TT ++ PU := ⟨_, rfl⟩
    rw [← hUU] at N15 hT7
    clear F12
    show wpAny _ _ (assign (.Name (Str.ofString "pairs") _) _ (.ref D7)) _ _ _
    refine wpAny_assign_Name ?_
    k_steps
    rename Fr _ _ _ _ => F17
    rename News _ _ _ _ => N17
    rename_i oP dP
    have PA17 : PairsAt _ yl7 (qs.map pairB) := pairs_at (hPk _ fun p hp => (N17 p (.tail _ (.tail _ (.tail _ (.tail _ (.tail _ (.tail _ (.tail _ (.tail _ (hUU ▸ List.mem_append_right _ hp)))))))))).1) tr12
    have hyl7 : yl7.length = qs.length := by
      have := hp7.length
      rw [List.toList_toArray, List.toList_toArray, hill] at this
      omega
    refine Halt.mk ?_
    refine' comp_list (cl := _) (fun _ => false) (fun _ _ => True) rfl ?clos2 ?cell2 ?kind2 ?names2 ?x2 ?_
    case clos2 => rfl
    case cell2 => decide
    case kind2 => rfl
    case names2 => decide
    case x2 => rfl
    k_steps
    refine ⟨D7, yl7.toArray, rfl, ⟨_, N17.get (.head _), rfl, _, rfl⟩, ?_, ?_, fun C v s₃ m₃ E' _ _ hpv => (nomatch hpv), ?_⟩
    · have : (1000 : Nat) ≤ sizeLine := by decide
      rw [show yl7.toArray.size = qs.length from by rw [← hyl7]; simp]; omega
    · intro C v s₃ m₃ E' hC hv hn hm hk
      have F18 : Fr (ghostOf s0.heap [(45, 41)]) C s₃.heap m₃ := ⟨hn, fun b o e => hk b o (F17.keep b o e), Nat.le_trans F17.above (Nat.le_trans (Nat.le_of_lt F17.ns.lt) hC)⟩
      have hcp : s₃.heap.IsCell (s0.heap.objs.size + 1 + 1 + 1) (some (.ref D7)) := ⟨oP, hk _ _ (N17.get (by k_mem)), dP⟩
      have hlp : s₃.heap.IsList D7 yl7.toArray := ⟨_, hk _ _ (N17.get (.head _)), rfl, _, rfl⟩
      obtain ⟨p0, hp0, hv0⟩ := PA17.mem (show v ∈ yl7 by simpa using hv)
      have PA18 := PA17.keep (h' := s₃.heap) hk
      have hv1 : PairIs s₃.heap v p0 := by obtain ⟨D0, a1, a2, n0, e0, g0⟩ := hv0; exact ⟨D0, a1, a2, n0, e0, hk _ _ g0⟩
      have hc1 : (qs.map pairB).count p0 = 1 := by
        have h1 := List.nodup_iff_count.mp hPO.nodup p0
        have h2 := List.count_pos_iff.mpr hp0
        omega
      refine wpAny_tests_one ?_
      refine wpAny_isTrue_Compare1 ?_
      refine wpAny_Call_method (T := "list") (id := "list.count") rfl rfl rfl PySem.F.plainAttrs_list PySem.F.slot_list_count PySem.F.type_list_count ?_
      refine wpAny_Name (wpAny_loadName_cell rfl rfl rfl hcp ?_)
      refine ⟨hlp.typeIs, (fun a e => by cases e; exact ⟨_, hk _ _ (N17.get (.head _)), rfl⟩), ?_⟩
      obtain ⟨D0, a1, a2, n0, rfl, g0⟩ := id hv1
      clear F17 N17
      k_steps
      refine Halt.mk ?_
      refine count_pairs hlp PA18 hv1 (by show callerA.units + 3 + 4 < cLine; decide) ?_
      rw [hc1]
      k_steps
      all_goals first | exact ⟨rfl, s₃.heap, _, rfl, fun _ _ e => e⟩ | exact ⟨s₃.heap, _, rfl, fun _ _ e => e⟩ | rfl
    intro D8 h8 tk8 ys8 n8 hD8 gD8 hp8 hk8
    have hys8 : ys8 = #[] := by
      have h1 : (yl7.toArray.toList.filter fun _ => false) = [] := List.filter_eq_nil_iff.mpr (fun _ _ h => nomatch h)
      rw [h1] at hp8
      cases ys8 with
      | mk l => cases hp8; rfl
    subst hys8
    obtain ⟨F19, N19⟩ := news_new F17 N17 hD8 gD8 hk8
    clear F17 N17
    k_steps
    rename Fr _ _ _ _ => F20
    rename News _ _ _ _ => N20
    have N21 : News (ghostOf s0.heap [(45, 41)]) s0.heap.objs.size _ ((D7, listOf yl7.toArray n7) :: (r, listOf vr.toArray nr) :: (pA, listOf il.toArray n1) :: (pN, listOf vn.toArray 0) :: (s0.heap.objs.size + 1 + 1 + 1, oP) :: (s0.heap.objs.size + 1 + 1, oR) :: (s0.heap.objs.size + 1, oC) :: (41, tabObj ps) :: UU) := fun p hp => N20 p (by
      simp only [List.mem_cons] at hp
      rcases hp with rfl | rfl | rfl | rfl | rfl | rfl | rfl | rfl | hp
      all_goals first | k_mem | exact .tail _ (.tail _ (.tail _ (.tail _ (.tail _ (.tail _ (.tail _ (.tail _ (.tail _ (.tail _ hp))))))))))
    clear N20
    refine Halt.mk ?_
    refine wpAny_For ?_
    k_steps
    rename Fr _ _ _ _ => F22
    rename News _ _ _ _ => N22
    obtain ⟨H1, hH1, F24⟩ := abs_fr F22
    subst hH1
    refine Halt.mk ?_
    refine wpAny_pyIter_list (l := pA) (items := il.toArray) ⟨_, N22.get (.tail _ (.tail _ (.head _))), rfl, _, rfl⟩ ?_
    have N25 := N22.push F24 { cls := .type "list_iterator", data := .fields #[.ref pA, .int 0 0] }
    have F25 := F24.push { cls := .type "list_iterator", data := .fields #[.ref pA, .int 0 0] }
    have zI := fun (p : Addr × Obj) hp => Heap.lt_size (N22 p hp).1
    have hit25 : (H1.push { cls := .type "list_iterator", data := .fields #[.ref pA, .int 0 0] }).IsListIter H1.objs.size pA 0 := ⟨_, Heap.get?_push_size _ rfl, rfl, rfl⟩
    dsimp only
    clear F22 F24 N22
    generalize hI1 : H1.objs.size = I1 at N25 F25 zI hit25 ⊢
    have zpI : @LT.lt Nat _ pA I1 := zI (pA, listOf il.toArray n1) (.tail _ (.tail _ (.head _)))
    refine for_W (Walks.list rfl I1 pA (Nat.ne_of_lt zpI) il.toArray) (fun i s₁ => ∃ (h' : Heap) (tk' : Nat) (oI : Obj) (uk' uth uoth uri uah : Option Value),
      s₁ = { s0 with heap := h', toks := tk' } ∧ Fr (ghostOf s0.heap [(45, 41)]) s0.heap.objs.size h' (lmap (.ref aS) (.ref pA) (.ref DR) (.int ((5 + xs.length : Nat) : Int) tC) (some (.int G tO')) uk' uth uoth uri uah) ∧
      News (ghostOf s0.heap [(45, 41)]) s0.heap.objs.size h' ((I1, oI) :: (D7, listOf yl7.toArray n7) :: (r, listOf vr.toArray nr) :: (pA, listOf il.toArray n1) :: (pN, listOf vn.toArray 0) :: (s0.heap.objs.size + 1 + 1 + 1, oP) :: (s0.heap.objs.size + 1 + 1, oR) :: (s0.heap.objs.size + 1, oC) :: (41, tabObj ps) :: UU) ∧
      h'.IsListIter I1 pA i) ?start ?st ?turn ?done
    case start => exact ⟨_, _, _, _, _, _, _, _, rfl, F25, N25, hit25⟩
    case st =>
      rintro i s₁ ⟨h, tk', oI, uk', uth, uoth, uri, uah, rfl, F, N, hit⟩
      exact ⟨hit, ⟨_, N.get (.tail _ (.tail _ (.tail _ (.head _)))), rfl, _, rfl⟩⟩
    case done =>
      clear F25 N25 hit25
      rintro s₁ h4 tk4 ⟨h3', tk3', oI, uk', uth, uoth, uri, uah, rfl, F3, N3, hit⟩ k4
      have k4' : Keep [I1] h3' h4 := k4
      have F26 : Fr (ghostOf s0.heap [(45, 41)]) s0.heap.objs.size h4 _ := (after_keepW [] F3 N3 k4' (by intro a ha; cases ha with | head => exact ⟨_, .head _⟩ | tail _ h => cases h) (fun _ h => nomatch h)).1
      have N26 : News (ghostOf s0.heap [(45, 41)]) s0.heap.objs.size h4 ((D7, listOf yl7.toArray n7) :: (r, listOf vr.toArray nr) :: (pA, listOf il.toArray n1) :: (pN, listOf vn.toArray 0) :: (s0.heap.objs.size + 1 + 1 + 1, oP) :: (s0.heap.objs.size + 1 + 1, oR) :: (s0.heap.objs.size + 1, oC) :: (41, tabObj ps) :: UU) := by
        intro p hp
        exact ⟨k4' _ _ (by simpa using Nat.ne_of_lt (zI p hp)) (N3 p (.tail _ hp)).1, (N3 p (.tail _ hp)).2⟩
      clear F3 N3
      dsimp only
      k_steps
      refine Halt.mk ?_
      refine' comp_none (cl := _) rfl ?clos3 ?cell3 ?kind3 ?names3 ?x3 ?_
      case clos3 => rfl
      case cell3 => decide
      case kind3 => rfl
      case names3 => decide
      case x3 => rfl
      k_steps
      rename Fr _ _ _ _ => F28o
      rename News _ _ _ _ => N28
      rename IsRange _ _ _ _ _ _ _ _ => hR28
      obtain ⟨H28, hH28, F28⟩ := abs_fr F28o
      subst hH28
      refine ⟨_, 1, ((5 + xs.length : Nat) : Int), 5 + xs.length - 1, _, _, _, rfl, hR28, rangeP_small _ (by omega), rangeP_size _ (by omega), ?_, ?_, ?_⟩
      · have : (20 : Nat) ≤ sizeLine := by decide
        omega
      · intro C i t s₃ m₃ E' U hi F29o N29o m1
        have F29 : Fr H28 C s₃.heap m₃ := F29o
        have N29 : News H28 C s₃.heap U := N29o
        have hn29 := F29.ns
        clear F29o N29o
        have X29 := X'.keeps F28.keep
        have T29 := T'.keeps F28.keep
        have hcR : Heap.IsCell H28 (s0.heap.objs.size + 1 + 1) (some (.ref r)) := ⟨oR, N28.get (by k_mem), dR⟩
        have hcP : Heap.IsCell H28 (s0.heap.objs.size + 1 + 1 + 1) (some (.ref D7)) := ⟨oP, N28.get (by k_mem), dP⟩
        have hlR : Heap.IsList H28 r vr.toArray := ⟨_, N28.get (a := r) (by k_mem), rfl, _, rfl⟩
        have hlP : Heap.IsList H28 D7 yl7.toArray := ⟨_, N28.get (a := D7) (by k_mem), rfl, _, rfl⟩
        have PA28 : PairsAt H28 yl7 (qs.map pairB) := pairs_at (hPk _ fun p hp => (N28 p (.tail _ (.tail _ (.tail _ (.tail _ (.tail _ (.tail _ (.tail _ (.tail _ (hUU ▸ List.mem_append_right _ hp)))))))))).1) tr12
        refine wpAny_isTrue_Compare1 ?_
        clear F28 N28
        rw [show (1 + (i : Int) * 1) = ((i + 1 : Nat) : Int) from by omega] at m1
        have hi1 : i + 1 < row.length := by omega
        obtain ⟨ta, hva⟩ := ints_at hvr (show i < row.length by omega)
        obtain ⟨tb, hvb⟩ := ints_at hvr hi1
        have hadj := hPO.adj (i + 1) (by omega) (by omega)
        rw [show i + 1 - 1 = i from rfl] at hadj
        generalize row.getD i 0 = xa at hva hadj
        generalize row.getD (i + 1) 0 = xb at hvb hadj
        k_steps
        refine Halt.mk ?_
        refine Subscript_ (wpAny_Name (wpAny_loadName_cell rfl rfl rfl (hcR.keeps F29.keep) ?_))
        k_steps
        refine Halt.mk ?_
        have hvs : vr.toArray.size ≤ sizeLine := by
          have : (20 : Nat) ≤ sizeLine := by decide
          rw [List.size_toArray]; omega
        refine slice_list F29 N29 (hlR.at fun o e => F29.keep _ o e) (.int _ _) (.int _ _) (fun h40 F40 N40 => ?_) (hsz := hvs)
        have N41 : News H28 C h40 ((s₃.heap.objs.size + 1, listOf #[.int (xa : Int) ta, .int (xb : Int) tb] 0) :: U) := by
          rw [pick2 hva hvb] at N40
          exact N40
        clear N40 F29 N29 hva hvb
        k_steps
        rename Fr _ _ _ _ => F42
        rename News _ _ _ _ => N42
        rename IntsAre _ _ => i42
        rename List.Pairwise _ _ => o42
        rename List.Perm _ _ => p42
        refine Halt.mk ?_
        refine wpAny_Name (wpAny_loadName_cell rfl rfl rfl (hcP.keeps F42.keep) ?_)
        refine notin_pairs (hlP.at fun o e => F42.keep _ o e) (PA28.keep F42.keep) (p0 := pairB (xa, xb, true)) (pair_is i42 p42 o42 (N42 _ (.head _)).1) (by show callerA.units + 3 + 4 < cLine; decide) hadj ?_
        refine wpAny_truthy_bool ?_
        exact Halt.mk ⟨rfl, _, _, rfl, F42, fun p hp => N42 p (.tail _ (.tail _ hp))⟩
      · intro D9 h9 tk9 n9 hD9l gD9 hk9
        have hD9 := Heap.get?_none_of_le hD9l
        obtain ⟨F30, N30⟩ := news_new F28 N28 hD9 gD9 hk9
        clear F28 N28
        k_steps
    case turn =>
      clear F25 N25 hit25
      rintro i v s₁ h4 tk4 hin hv ⟨h3', tk3', oI, uk', uth, uoth, uri, uah, rfl, F3, N3, hit⟩ hst4 k4
      have k4' : Keep [I1] h3' h4 := k4
      obtain ⟨⟨oJ, gJ, cJ, dJ⟩, _⟩ := hst4
      have F26 : Fr (ghostOf s0.heap [(45, 41)]) s0.heap.objs.size h4 _ := (after_keepW [] F3 N3 k4' (by intro a ha; cases ha with | head => exact ⟨_, .head _⟩ | tail _ h => cases h) (fun _ h => nomatch h)).1
      have N26 : News (ghostOf s0.heap [(45, 41)]) s0.heap.objs.size h4 ((I1, oJ) :: (D7, listOf yl7.toArray n7) :: (r, listOf vr.toArray nr) :: (pA, listOf il.toArray n1) :: (pN, listOf vn.toArray 0) :: (s0.heap.objs.size + 1 + 1 + 1, oP) :: (s0.heap.objs.size + 1 + 1, oR) :: (s0.heap.objs.size + 1, oC) :: (41, tabObj ps) :: UU) := by
        intro p hp
        rcases List.mem_cons.mp hp with rfl | hp
        · exact ⟨gJ, (N3 _ (.head _)).2⟩
        · exact ⟨k4' _ _ (by simpa using Nat.ne_of_lt (zI p hp)) (N3 p (.tail _ hp)).1, (N3 p (.tail _ hp)).2⟩
      clear F3 N3
      have at26 := al3.back F26 N26 (fun p hp => .tail _ (.tail _ (.tail _ (.tail _ (.tail _ (.tail _ (.tail _ (.tail _ (.tail _ (hUU ▸ List.mem_append_left _ hp))))))))))
      have hvm : v ∈ il := by have := List.mem_of_getElem? (l := il) (i := i) (a := v) (by simpa using hv); exact this
      obtain ⟨q, hq, t, q1, q2, nq, rfl, _, hgq⟩ := trips_mem2 at26.1 hvm
      refine wpAny_letOwnedTupleGo_listiter (l := pA) (i := i + 1) ⟨oJ, gJ, cJ, dJ⟩ ?_
      refine kun_list F26 N26 (l := t) (items := #[.int (q.1 : Int) q1, .int (q.2.1 : Int) q2, .bool q.2.2]) ⟨_, hgq, rfl, _, rfl⟩ rfl rfl rfl (fun h27 F27 N27 => ?_)
      clear F26 N26
      show wpAny _ _ (assignInOrder [assign (.Name (Str.ofString "thing") _) _, assign (.Name (Str.ofString "other") _) _, assign (.Name (Str.ofString "right") _) _] [_, _, _]) _ _ _
      refine assignInOrder_cons (wpAny_assign_Name ?_)
      k_steps
      rename Fr _ _ _ _ => F30
      rename News _ _ _ _ => N30
      obtain ⟨H31, hH31, F31⟩ := abs_fr (Fr_turn F30)
      subst hH31
      clear F30
      have hq1 := (hPO.mem q hq).1
      have hq2 := (hPO.mem q hq).2
      have hw1 := hPO.all q.1 hq1
      have hw2 := hPO.all q.2.1 hq2
      have hord := hPO.order q hq
      refine Halt.mk ?_
      refine wpAny_execs_cons ?_
      refine wpAny_Assign_stores ?_ (by rfl) (by rfl)
      have hnl31 : Heap.IsList _ pN vn.toArray := ⟨_, N30.get (a := pN) (by k_mem), rfl, _, rfl⟩
      have hnc31 : Heap.IsCell _ (s0.heap.objs.size + 1) (some (.ref pN)) := ⟨oC, N30.get (by k_mem), dC⟩
      have e1 : ((q.1 : Nat) : Int) < (nsOf xs).length := by rw [List.length_append]; simp; omega
      have e2 : ((q.2.1 : Nat) : Int) < (nsOf xs).length := by rw [List.length_append]; simp; omega
      have hvr20 : vr.toArray.toList.length ≤ sizeLine := by
        have : (20 : Nat) ≤ sizeLine := by decide
        rw [List.toList_toArray]; omega
      refine wpAny_mono (Q := fun v s' => ∃ tk : Nat, v = .bool (decide (row.idxOf q.1 < row.idxOf q.2.1)) ∧ s' = { s0 with heap := H31, toks := tk }) ?_ (fun v s' hz => ?_) (fun _ _ e => e)
      · rw [hord]
        refine BoolOp_or ?_
        refine wpAny_Compare1 ?_
        refine Subscript_ (wpAny_Name (wpAny_loadName_cell rfl rfl rfl hnc31 (wpAny_Name (wpAny_loadName_local rfl rfl F31.ns rfl ?_))))
        refine item_list_ints hnl31 hvN (Int.natCast_nonneg _) e1 (by omega) (fun t1 => ?_)
        refine Subscript_ (wpAny_Name (wpAny_loadName_cell rfl rfl rfl hnc31 (wpAny_Name (wpAny_loadName_local rfl rfl F31.ns rfl ?_))))
        refine item_list_ints hnl31 hvN (Int.natCast_nonneg _) e2 (by omega) (fun t2 => ?_)
        refine wpAny_lt_int ?_
        refine wpAny_truthy_bool ?_
        rw [Int.toNat_natCast, Int.toNat_natCast]
        by_cases hlt : (nsOf xs).getD q.1 0 < (nsOf xs).getD q.2.1 0
        · rw [if_pos (decide_eq_true hlt)]
          exact ⟨_, congrArg Value.bool ((decide_eq_true hlt).trans (ord1 hlt).symm), rfl⟩
        · rw [if_neg (by rw [decide_eq_false hlt]; exact Bool.false_ne_true)]
          refine BoolOp_one (BoolOp_and (wpAny_Compare1 ?_))
          refine Subscript_ (wpAny_Name (wpAny_loadName_cell rfl rfl rfl hnc31 (wpAny_Name (wpAny_loadName_local rfl rfl F31.ns rfl ?_))))
          refine item_list_ints hnl31 hvN (Int.natCast_nonneg _) e1 (by omega) (fun t3 => ?_)
          refine Subscript_ (wpAny_Name (wpAny_loadName_cell rfl rfl rfl hnc31 (wpAny_Name (wpAny_loadName_local rfl rfl F31.ns rfl ?_))))
          refine item_list_ints hnl31 hvN (Int.natCast_nonneg _) e2 (by omega) (fun t4 => ?_)
          refine PyProof.Rows.eq_int ?_
          refine wpAny_truthy_bool ?_
          rw [Int.toNat_natCast, Int.toNat_natCast]
          by_cases he : (nsOf xs).getD q.1 0 = (nsOf xs).getD q.2.1 0
          · rw [if_pos (beq_iff_eq.mpr he)]
            refine BoolOp_one (UnaryOp_ (wpAny_Name (wpAny_loadName_local rfl rfl F31.ns rfl (not_of (wpAny_truthy_bool ?_)))))
            exact ⟨_, congrArg Value.bool (ord2 hlt he).symm, rfl⟩
          · rw [if_neg (fun z => he (beq_iff_eq.mp z))]
            have h1 : ((nsOf xs).getD q.1 0 == (nsOf xs).getD q.2.1 0) = false := by rw [Bool.eq_false_iff]; exact fun z => he (beq_iff_eq.mp z)
            exact ⟨_, congrArg Value.bool (h1.trans (ord3 hlt he).symm), rfl⟩
      · obtain ⟨tkz, rfl, rfl⟩ := hz
        clear hord
        obtain ⟨j1, hj1⟩ : ∃ j, j = row.idxOf q.1 := ⟨_, rfl⟩
        obtain ⟨j2, hj2⟩ : ∃ j, j = row.idxOf q.2.1 := ⟨_, rfl⟩
        have kA := kfAt_idx hvr hw1
        have kB := kfAt_idx hvr hw2
        rw [← hj1, ← hj2]
        rw [← hj1] at kA
        rw [← hj2] at kB
        clear hj1 hj2
        show wpAny _ _ (assign (.Name (Str.ofString "ahead") _) _ (.bool _)) _ _ _
        have hsp : ∃ bz : Bool, decide (j1 < j2) = bz ∧ decide ((j1 : Int) < (j2 : Int)) = bz := ⟨_, rfl, by rw [Bool.eq_iff_iff, decide_eq_true_iff, decide_eq_true_iff]; omega⟩
        obtain ⟨bz, hb1, hb2⟩ := hsp
        rw [hb1]
        refine wpAny_assign_Name ?_
        k_steps
        rename News _ _ _ _ => N32
        refine Halt.mk ?_
        refine' kf_index (k := ((q.1 : Nat) : Int)) (j := j1) (i := (j1 : Int)) N32 ?mm1 (ints_kf hvr) kA rfl hvr20 ?_
        case mm1 => k_mem
        k_steps
        rename News _ _ _ _ => N33
        refine Halt.mk ?_
        refine' kf_index (k := ((q.2.1 : Nat) : Int)) (j := j2) (i := (j2 : Int)) N33 ?mm2 (ints_kf hvr) kB rfl hvr20 ?_
        case mm2 => k_mem
        clear hb1
        have hb3 : (decide ((j1 : Int) < (j2 : Int))) = bz := hb2
        clear hb2
        refine wpAny_lt_int ?_
        rw [hb3]
        clear hb3
        cases bz
        all_goals
          k_steps
          rename Fr _ _ _ _ => F34
          exact Halt.mk ⟨_, _, oJ, _, _, _, _, _, rfl, Fr_ahead F34, N33, ⟨oJ, N33.get (.head _), cJ, dJ⟩⟩)
end Mine
end
theorem PySem.Challenge.cw_pm0001_01_holds : PySem.Challenge.rw_pm0001_01.Holds := by
  exact Mine.holds
