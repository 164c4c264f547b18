import PyProof.Rows.All
import PyProof.ZipIter
import Flt.Ops
import KE.BitLaws
import KE.KDictList
import KE.KDictOf
import KE.KFromBytes
import Wide.FinOn
import OpenK.AllK
import Lean
import PySem.Challenge.RW_jr0030_02
set_option Elab.async false
set_option maxRecDepth 100000
set_option maxHeartbeats 8000000
set_option linter.all false
namespace Mine
open PySem PySem.W PySem.Calls PyProof.Rows
def topRunT (tb : String → Option Builtin) (p : Program) (w : World) (n₀ : Nat) (ann : Option Value) : Nat → SharedT → Thread → Option SharedT
  | 0, _, _ => none
  | n + 1, s, t => match through t with
    | true => some s
    | false => match stepOk n₀ ann t with
      | false => none
      | true => match stepT (denote tb) p w s t with
        | some (s', t') => topRunT tb p w n₀ ann n s' t'
        | none => none
theorem topRun_of {tb : String → Option Builtin} {p : Program} {w : World} {n₀ : Nat} {ann : Option Value} : ∀ {n : Nat} {s s' : SharedT} {t : Thread}, topRunT tb p w n₀ ann n s t = some s' → topRun tb p w n₀ ann n s.abs t = some s'.abs
  | 0, _, _, _, h => by cases h
  | n + 1, s, s', t, h => by
    unfold topRunT at h
    unfold topRun
    cases he : through t with
    | true => rw [he] at h; cases h; rfl
    | false =>
      rw [he] at h
      cases hk : stepOk n₀ ann t with
      | false => rw [hk] at h; cases h
      | true =>
        rw [hk] at h
        cases hs : stepT (denote tb) p w s t with
        | none => rw [hs] at h; cases h
        | some r => obtain ⟨s₂, t₂⟩ := r; rw [hs] at h; rw [stepT_spec hs]; exact topRun_of h
noncomputable def topRunF (tb : String → Option Builtin) (p : Program) (w : World) (n₀ : Nat) (ann : Option Value) : Nat → SharedT → Thread → Option SharedT
  | 0, _, _ => none
  | n + 1, s, t => match through t with
    | true => some s
    | false => match PySem.W.Fast.tw6613529449190102663 n₀ ann t with
      | false => none
      | true => match PySem.W.Fast.tw10156331382660048174 (PySem.W.Fast.tw11892475500146522536 tb) p w s t with
        | some (s', t') => topRunF tb p w n₀ ann n s' t'
        | none => none
theorem topRunF_eq {tb : String → Option Builtin} {p : Program} {w : World} {n₀ : Nat} {ann : Option Value} : ∀ (n : Nat) (s : SharedT) (t : Thread), topRunT tb p w n₀ ann n s t = topRunF tb p w n₀ ann n s t
  | 0, _, _ => rfl
  | n + 1, s, t => by
    unfold topRunT topRunF
    rw [PySem.W.Fast.te6613529449190102663, PySem.W.Fast.te10156331382660048174, PySem.W.Fast.te11892475500146522536]
    simp only [topRunF_eq n]
def looksAt (p q : Program) (loose : List Str) (Xt : Shared → Bool) {α : Type} (Yf : Shared → α) (h₀ : Heap) (s : Shared) :=
  (staticsOk (importedModules p.main.body) h₀ s.heap && namesBound p s.heap && gensDone s && laidKept h₀ s.heap, openSeen q loose (importedModules p.main.body) Xt true s, Yf s)
theorem left_one {p q : Program} {loose : List Str} {Xt : Shared → Bool} {α : Type} {Yf : Shared → α} {Ya : World → α} {N : Nat} (row : String)
    {T₀ : Params → BT} {n₀ : Nat} {life₀ : Life} {gs₀ : Array GenState} {d₀ : Drawn} {k₀ : Nat} {ann : Option Value} {H₀ : Params → Heap}
    (open_ : ∀ w : World, (fencedOpening treeTable p w N).map (fun s => (s.heap, s.gens, s.drawn, s.toks)) = some (H₀ w.params, gs₀, d₀, k₀))
    (hH : ∀ P : Params, H₀ P = absHeap (T₀ P) n₀ life₀)
    (size : ∀ w : World, ((H₀ w.params).isNs mainGlobals && gs₀.size == 0, (H₀ w.params).objs.size, (H₀ w.params).nsMap mainGlobals "__annotations__") = (true, n₀, ann))
    (h : ∀ (b : Bool) (w : World) (os : OsState), (topRunT treeTable p (w.withFollow row b) n₀ ann N ⟨T₀ (w.withFollow row b).params, n₀, life₀, gs₀, d₀, k₀, os⟩ (topStub p)).map (fun s => looksAt p q loose Xt Yf (H₀ (w.withFollow row b).params) s.abs) =
      some (true, openGood q loose, Ya (w.withFollow row b))) : LeftO p q loose Xt Yf Ya N := fun w => by
  obtain ⟨⟨hh, gs, d, k, os⟩, e, e'⟩ := Option.map_eq_some_iff.mp (open_ w)
  obtain ⟨rfl, rfl, rfl, rfl⟩ : hh = H₀ w.params ∧ gs = gs₀ ∧ d = d₀ ∧ k = k₀ := by simpa using e'
  obtain ⟨z1, z2, z3⟩ : _ ∧ _ ∧ _ := by simpa only [Prod.mk.injEq] using size w
  have key := h (w.params.followText row) w os
  rw [World.withFollow_self] at key
  obtain ⟨s, hs, hl⟩ := Option.map_eq_some_iff.mp key
  have r := topRun_of hs
  have ha : SharedT.abs ⟨T₀ w.params, n₀, life₀, gs, d, k, os⟩ = ⟨H₀ w.params, gs, d, k, os⟩ := by
    show Shared.mk _ _ _ _ _ = _
    rw [hH]
  rw [ha] at r
  unfold looksAt at hl
  obtain ⟨l1, l2, l3⟩ : _ ∧ _ ∧ _ := by simpa only [Prod.mk.injEq] using hl
  have t : topFrom treeTable p w N ⟨H₀ w.params, gs, d, k, os⟩ = some s.abs := by
    unfold topFrom
    dsimp only
    rw [z1, z2, z3]
    dsimp only
    rw [r, Option.bind_some, l1]
  unfold openEnds
  rw [e, Option.bind_some, t]
  show some (openSeen q loose _ Xt true s.abs, Yf s.abs) = _
  rw [l2, l3]
end Mine
namespace Mine
open PySem PySem.W PySem.Calls PyProof.Rows
def nid (s : Str) : Nat := if s.cps.all (fun c => decide (c < 2097150)) then s.cps.foldl (fun a c => a * 2097152 + (c + 1)) 0 else 0
inductive V where
  | none | bool (b : Bool) | int (i : Int) | str (s : Str) | bytes (b : List UInt8)
  | type (n : String) | bi (id : String) | old (a : Addr) | ref (i : Nat)
  deriving DecidableEq, Inhabited
inductive O where
  | junk
  | list (vs : List V)
  | tup (vs : List V)
  | dict (es : List (Nat × V))
  | inst (C : Addr) (fs : List (Nat × V))
  | barr (b : List UInt8)
  | slice (l h : V)
  | rng (a b c : Int)
  | cell (v : Option V)
  deriving DecidableEq, Inhabited
inductive Slot where
  | unset | val (v : V) | glob | cell (i : Nat) (own : Bool)
structure Mode where
  hd : Bool := false
  top : Bool := true
structure St where
  obj : Nat → O
  nxt : Nat
  loc : List (Nat × Slot)
  md : Mode := {}
inductive R (α : Type) where
  | ok (a : α) (s : St)
  | err (cls : V) (fs : List (Nat × V)) (s : St)
  | stuck (why : String)
abbrev M (α : Type) := St → R α
def ret {α : Type} (a : α) : M α := fun s => .ok a s
def bind {α β : Type} (m : M α) (f : α → M β) : M β := fun s => match m s with
  | .ok a s' => f a s'
  | .err c fs s' => .err c fs s'
  | .stuck w => .stuck w
instance : Monad M where
  pure := ret
  bind := bind
def stuck {α : Type} (w : String) : M α := fun _ => .stuck w
def updO (f : Nat → O) (i : Nat) (o : O) : Nat → O := fun j => if j = i then o else f j
def look {α : Type} (k : Nat) : List (Nat × α) → Option α
  | [] => .none
  | p :: r => if p.1 = k then some p.2 else look k r
def put {α : Type} (k : Nat) (v : α) : List (Nat × α) → List (Nat × α)
  | [] => [(k, v)]
  | p :: r => if p.1 = k then (k, v) :: r else p :: put k v r
theorem look_put {α : Type} (k : Nat) (v : α) (j : Nat) : ∀ l : List (Nat × α), look j (put k v l) = if k = j then some v else look j l
  | [] => by simp [put, look]
  | p :: r => by
    unfold put
    by_cases h : p.1 = k
    · rw [if_pos h]
      by_cases hj : k = j
      · simp [look, hj]
      · have : p.1 ≠ j := fun e => hj (h.symm.trans e)
        simp [look, hj, this]
    · rw [if_neg h]
      show look j (p :: put k v r) = _
      unfold look
      rw [look_put k v j r]
      by_cases hj : k = j
      · have : p.1 ≠ j := fun e => h (e.trans hj.symm)
        simp [hj, this]
      · simp [hj]
theorem foldl_inj : ∀ (a b : List Nat) (x y : Nat), (∀ c ∈ a, c < 2097150) → (∀ c ∈ b, c < 2097150) → a.length = b.length →
    a.foldl (fun a c => a * 2097152 + (c + 1)) x = b.foldl (fun a c => a * 2097152 + (c + 1)) y → x = y ∧ a = b
  | [], [], _, _, _, _, _, h => ⟨h, rfl⟩
  | [], _ :: _, _, _, _, _, h, _ => by cases h
  | _ :: _, [], _, _, _, _, h, _ => by cases h
  | c :: a, d :: b, x, y, ha, hb, hl, h => by
    have hc := ha c (.head _)
    have hd := hb d (.head _)
    obtain ⟨e, r⟩ := foldl_inj a b (x * 2097152 + (c + 1)) (y * 2097152 + (d + 1)) (fun z hz => ha z (.tail _ hz)) (fun z hz => hb z (.tail _ hz)) (by simpa using hl) h
    have : c = d := by omega
    exact ⟨by omega, by rw [this, r]⟩
theorem foldl_pos : ∀ (a : List Nat) (x : Nat), x * 2097152 ^ a.length ≤ a.foldl (fun a c => a * 2097152 + (c + 1)) x
  | [], x => by simp
  | c :: a, x => by
    have := foldl_pos a (x * 2097152 + (c + 1))
    refine Nat.le_trans ?_ this
    rw [List.length_cons, Nat.pow_succ, Nat.mul_comm (2097152 ^ a.length), ← Nat.mul_assoc]
    exact Nat.mul_le_mul_right _ (Nat.le_add_right _ _)
theorem foldl_lt : ∀ (a : List Nat) (x : Nat), (∀ c ∈ a, c < 2097150) → a.foldl (fun a c => a * 2097152 + (c + 1)) x < (x + 1) * 2097152 ^ a.length
  | [], x, _ => by simp
  | c :: a, x, h => by
    have := foldl_lt a (x * 2097152 + (c + 1)) (fun z hz => h z (.tail _ hz))
    refine Nat.lt_of_lt_of_le this ?_
    rw [List.length_cons, Nat.pow_succ, Nat.mul_comm (2097152 ^ a.length), ← Nat.mul_assoc]
    refine Nat.mul_le_mul_right _ ?_
    have := h c (.head _)
    omega
theorem foldl_len : ∀ (n : Nat) (a b : List Nat), a.length ≤ n → b.length ≤ n → (∀ c ∈ a, c < 2097150) → (∀ c ∈ b, c < 2097150) →
    a.foldl (fun a c => a * 2097152 + (c + 1)) 0 = b.foldl (fun a c => a * 2097152 + (c + 1)) 0 → a.length = b.length
  | n, a, b, _, _, ha, hb, h => by
    have key : ∀ (a b : List Nat), (∀ c ∈ a, c < 2097150) → (∀ c ∈ b, c < 2097150) → a.length < b.length → a.foldl (fun a c => a * 2097152 + (c + 1)) 0 < b.foldl (fun a c => a * 2097152 + (c + 1)) 0 := by
      intro a b ha _ hl
      cases b with
      | nil => simp at hl
      | cons d b =>
        have h1 := foldl_lt a 0 ha
        have h2 := foldl_pos b (0 * 2097152 + (d + 1))
        simp only [List.length_cons] at hl
        have h3 : 2097152 ^ a.length ≤ 2097152 ^ b.length := Nat.pow_le_pow_right (by decide) (by omega)
        simp only [Nat.zero_mul, Nat.zero_add, List.foldl_cons] at h1 h2 ⊢
        have h4 : 2097152 ^ b.length ≤ (d + 1) * 2097152 ^ b.length := Nat.le_mul_of_pos_left _ (by omega)
        omega
    rcases Nat.lt_trichotomy a.length b.length with q | q | q
    · exact absurd h (Nat.ne_of_lt (key a b ha hb q))
    · exact q
    · exact absurd h.symm (Nat.ne_of_lt (key b a hb ha q))
theorem nid_inj {a b : Str} (h : nid a = nid b) (h0 : nid a ≠ 0) : a = b := by
  unfold nid at h h0
  by_cases ha : a.cps.all (fun c => decide (c < 2097150)) = true
  · by_cases hb : b.cps.all (fun c => decide (c < 2097150)) = true
    · rw [if_pos ha, if_pos hb] at h
      rw [← Array.foldl_toList, ← Array.foldl_toList] at h
      have ha' : ∀ c ∈ a.cps.toList, c < 2097150 := fun c hc => by
        have := Array.all_eq_true'.mp ha c (Array.mem_toList_iff.mp hc)
        simpa using this
      have hb' : ∀ c ∈ b.cps.toList, c < 2097150 := fun c hc => by
        have := Array.all_eq_true'.mp hb c (Array.mem_toList_iff.mp hc)
        simpa using this
      have hl := foldl_len _ _ _ (Nat.le_max_left _ _) (Nat.le_max_right _ _) ha' hb' h
      have := (foldl_inj _ _ _ _ ha' hb' hl h).2
      cases a; cases b
      simp only [Str.mk.injEq]
      exact Array.toList_inj.mp this
    · rw [if_pos ha, if_neg hb] at h
      rw [if_pos ha] at h0
      exact absurd h h0
  · rw [if_neg ha] at h0
    exact absurd rfl h0
inductive All2 {α β : Type} (r : α → β → Prop) : List α → List β → Prop where
  | nil : All2 r [] []
  | cons {a b x y} (h : r a b) (t : All2 r x y) : All2 r (a :: x) (b :: y)
namespace All2
variable {α β : Type} {r r' : α → β → Prop}
theorem length {x : List α} {y : List β} (h : All2 r x y) : x.length = y.length := by
  induction h with
  | nil => rfl
  | cons _ _ ih => simp [ih]
theorem mono (hm : ∀ a b, r a b → r' a b) {x : List α} {y : List β} (h : All2 r x y) : All2 r' x y := by
  induction h with
  | nil => exact .nil
  | cons a _ ih => exact .cons (hm _ _ a) ih
theorem append {x x' : List α} {y y' : List β} (h : All2 r x y) (h' : All2 r x' y') : All2 r (x ++ x') (y ++ y') := by
  induction h with
  | nil => exact h'
  | cons a _ ih => exact .cons a ih
theorem get {x : List α} {y : List β} (h : All2 r x y) : ∀ {i : Nat} {a : α}, x[i]? = some a → ∃ b, y[i]? = some b ∧ r a b := by
  induction h with
  | nil => intro i a e; simp at e
  | cons p _ ih =>
    intro i a e
    cases i with
    | zero => simp only [List.getElem?_cons_zero, Option.some.injEq] at e; subst e; exact ⟨_, rfl, p⟩
    | succ i => exact ih (by simpa using e)
theorem set {x : List α} {y : List β} (h : All2 r x y) {a : α} {b : β} (hr : r a b) : ∀ i, All2 r (x.set i a) (y.set i b) := by
  induction h with
  | nil => intro i; exact .nil
  | cons p t ih =>
    intro i
    cases i with
    | zero => exact .cons hr t
    | succ i => exact .cons p (ih i)
theorem take {x : List α} {y : List β} (h : All2 r x y) : ∀ n, All2 r (x.take n) (y.take n) := by
  induction h with
  | nil => intro n; simp; exact .nil
  | cons p t ih =>
    intro n
    cases n with
    | zero => exact .nil
    | succ n => exact .cons p (ih n)
theorem drop {x : List α} {y : List β} (h : All2 r x y) : ∀ n, All2 r (x.drop n) (y.drop n) := by
  induction h with
  | nil => intro n; simp; exact .nil
  | cons p t ih =>
    intro n
    cases n with
    | zero => exact .cons p t
    | succ n => exact ih n
end All2
structure Cx where
  prog : Program
  w : World
  K : Frag
  B : Heap
  q : Program
  loose : List Str
  mg : Str → Option Value
  mb : Str → Option Value
  os : OsState
structure Cx.Ok (c : Cx) : Prop where
  inK : c.K.In c.B
  top : TopRead c.q c.loose c.mg c.mb c.B
  sys : (c.B.get? sysModules).isSome = true
inductive VR (ρ : Nat → Addr) (n : Nat) (B : Heap) : V → Value → Prop where
  | none : VR ρ n B .none .none
  | bool (b) : VR ρ n B (.bool b) (.bool b)
  | int (i t) : VR ρ n B (.int i) (.int i t)
  | str (s t) : VR ρ n B (.str s) (.str s t)
  | bytes (b t) : VR ρ n B (.bytes b) (.bytes b.toArray t)
  | type (m) : VR ρ n B (.type m) (.type m)
  | bi (i) : VR ρ n B (.bi i) (.builtin i)
  | old (a) (h : (B.get? a).isSome = true) : VR ρ n B (.old a) (.ref a)
  | ref (i) (h : i < n) : VR ρ n B (.ref i) (.ref (ρ i))
theorem VR.mono {ρ ρ' : Nat → Addr} {n n' : Nat} {B : Heap} {x : V} {v : Value} (h : VR ρ n B x v) (hn : n ≤ n') (hρ : ∀ i, i < n → ρ' i = ρ i) : VR ρ' n' B x v := by
  cases h with
  | ref i h => rw [← hρ i h]; exact .ref i (Nat.lt_of_lt_of_le h hn)
  | old a h => exact .old a h
  | none => exact .none
  | bool b => exact .bool b
  | int i t => exact .int i t
  | str s t => exact .str s t
  | bytes b t => exact .bytes b t
  | type m => exact .type m
  | bi i => exact .bi i
abbrev VRs (ρ : Nat → Addr) (n : Nat) (B : Heap) := All2 (VR ρ n B)
theorem VRs.mono {ρ ρ' : Nat → Addr} {n n' : Nat} {B : Heap} (hn : n ≤ n') (hρ : ∀ i, i < n → ρ' i = ρ i) {xs : List V} {vs : List Value} (h : VRs ρ n B xs vs) : VRs ρ' n' B xs vs := by
  induction h with
  | nil => exact .nil
  | cons a _ ih => exact .cons (a.mono hn hρ) ih
structure FR (P : Params) (ρ : Nat → Addr) (n : Nat) (B : Heap) (f : Nat × V) (e : DictEntry) : Prop where
  key : ∃ x t, e.key = .str x t ∧ nid x = f.1 ∧ e.hash = PyData.keyHash P x
  pos : f.1 ≠ 0
  val : VR ρ n B f.2 e.val
structure DR (ρ : Nat → Addr) (n : Nat) (B : Heap) (f : Nat × V) (e : Str × Value) : Prop where
  key : nid e.1 = f.1
  pos : f.1 ≠ 0
  val : VR ρ n B f.2 e.2
abbrev listO (vs : Array Value) (n : Nat) : Obj := { cls := .type "list", data := .seq vs n }
abbrev tupO (vs : Array Value) : Obj := { cls := .type "tuple", data := .seq vs }
abbrev barrO (b : Array UInt8) : Obj := { cls := .type "bytearray", data := .bytearray b }
inductive CellR (ρ : Nat → Addr) (n : Nat) (B : Heap) : Option V → Option Value → Prop where
  | none : CellR ρ n B none none
  | some {v u} (h : VR ρ n B v u) : CellR ρ n B (some v) (some u)
theorem CellR.mono {ρ ρ' : Nat → Addr} {n n' : Nat} {B : Heap} {x : Option V} {v : Option Value} (h : CellR ρ n B x v) (hn : n ≤ n') (hρ : ∀ i, i < n → ρ' i = ρ i) : CellR ρ' n' B x v := by
  cases h with
  | none => exact .none
  | some h => exact .some (h.mono hn hρ)
def Lay (pg : Program) (w : World) (ρ : Nat → Addr) (n : Nat) (B h : Heap) (a : Addr) (d : Addr) : O → Prop
  | .junk => True
  | .list xs => ∃ vs ep, h.get? a = some (listO vs ep) ∧ VRs ρ n B xs vs.toList
  | .tup xs => ∃ vs, h.get? a = some (tupO vs) ∧ VRs ρ n B xs vs.toList
  | .dict es => ∃ kvs, h.DictOf (strKind pg w) a kvs ∧ All2 (DR ρ n B) es kvs
  | .inst C fs => h.get? a = some (instObj C d) ∧ ∃ en ep, h.get? d = some (dictOf en ep) ∧ All2 (FR w.params ρ n B) fs en
  | .barr b => h.get? a = some (barrO b.toArray)
  | .slice l u => ∃ l' u', h.get? a = some { cls := .type "slice", data := .fields #[l', u', .none] } ∧ VR ρ n B l l' ∧ VR ρ n B u u'
  | .cell v => ∃ u, h.IsCell a u ∧ CellR ρ n B v u
  | .rng x y k => ∃ t t' t'', h.get? a = some { cls := .type "range", data := .fields #[.int x t, .int y t', .int k t''] }
def two : O → Bool
  | .inst _ _ => true
  | _ => false
structure Fm where
  env : Env
  stack : List Env
def Fm.L (f : Fm) : Addr := f.env.locals
def Fm.frs (f : Fm) : List Addr := (f.stack.filterMap (·.frame)).filter (fun a => decide (a ≠ f.L))
structure Fm.Good (f : Fm) : Prop where
  kind : f.env.scope.kind = .function
  glob : f.env.globals = mainGlobals
  bi : f.env.builtins = builtinsNs
theorem Fm.not_frs (f : Fm) : f.L ∉ f.frs := fun h => by
  have := (List.mem_filter.mp h).2
  simp at this
theorem Fm.mem_frs (f : Fm) {env : Env} {a : Addr} (h : env ∈ f.stack) (ha : env.frame = some a) : a ∈ f.frs ∨ a = f.L := by
  by_cases q : a = f.L
  · exact .inr q
  · exact .inl (List.mem_filter.mpr ⟨List.mem_filterMap.mpr ⟨env, h, ha⟩, by simpa using q⟩)
structure Sit where
  ρ : Nat → Addr
  δ : Nat → Addr
def LocR (f : Fm) (z : Sit) (n : Nat) (B : Heap) (loc : List (Nat × Slot)) (m : Str → Option Value) : Prop :=
  ∀ x : Str, nid x ≠ 0 → match look (nid x) loc with
    | some .glob => f.env.kindOf x = some .globalImplicit
    | some .unset => f.env.kindOf x = some .local ∧ m x = none
    | some (.val v) => f.env.kindOf x = some .local ∧ ∃ u, m x = some u ∧ VR z.ρ n B v u
    | some (.cell i own) => f.env.kindOf x = some (if own then .cell else .free) ∧ i < n ∧ f.env.cells.lookup x = some (z.ρ i) ∧ (x == ("__classdict__" : Str)) = false
    | none => True
structure Rel (c : Cx) (f : Fm) (kp : List Addr) (z : Sit) (st : St) (s : Shared) : Prop where
  base : c.B.StaysIn s.heap
  loc : ∃ m, s.heap.Ns f.L m ∧ LocR f z st.nxt c.B st.loc m
  objs : ∀ i, i < st.nxt → Lay c.prog c.w z.ρ st.nxt c.B s.heap (z.ρ i) (z.δ i) (st.obj i)
  own : ∀ i, i < st.nxt → ∀ a, a = z.ρ i ∨ a = z.δ i → c.B.get? a = none ∧ a ∉ kp ∧ a ∉ f.frs ∧ a ≠ f.L ∧ (s.heap.get? a).isSome = true ∧ ∀ j, j < st.nxt → a = z.ρ j ∨ a = z.δ j → j = i
  apart : ∀ i, i < st.nxt → two (st.obj i) = true → z.ρ i ≠ z.δ i
  kps : ∀ a ∈ kp, (s.heap.get? a).isSome = true ∧ a ≠ f.L ∧ a ∉ f.frs ∧ c.B.get? a = none
  frames : s.heap.FunFrames c.B f.stack
  bL : c.B.get? f.L = none
  gens : s.gens = #[]
  os : s.os = c.os
structure After (c : Cx) (f : Fm) (kp : List Addr) (z : Sit) (st : St) (s : Shared) (z' : Sit) (st' : St) (s' : Shared) : Prop where
  rel : Rel c f kp z' st' s'
  nxt : st.nxt ≤ st'.nxt
  same : ∀ i, i < st.nxt → z'.ρ i = z.ρ i ∧ z'.δ i = z.δ i
  keep : ∀ a ∈ kp, ∀ o, s.heap.get? a = some o → s'.heap.get? a = some o
  frm : ∀ a ∈ f.frs, ∀ o, s.heap.get? a = some o → ∃ sl, s'.heap.get? a = some { o with slots := sl }
  hd : st'.md = st.md
theorem After.refl {c : Cx} {f : Fm} {kp : List Addr} {z : Sit} {st : St} {s : Shared} (h : Rel c f kp z st s) : After c f kp z st s z st s :=
  ⟨h, Nat.le_refl _, fun _ _ => ⟨rfl, rfl⟩, fun _ _ _ e => e, fun _ _ o e => ⟨o.slots, e⟩, rfl⟩
theorem After.trans {c : Cx} {f : Fm} {kp : List Addr} {z z₁ z₂ : Sit} {st st₁ st₂ : St} {s s₁ s₂ : Shared} (x : After c f kp z st s z₁ st₁ s₁) (y : After c f kp z₁ st₁ s₁ z₂ st₂ s₂) : After c f kp z st s z₂ st₂ s₂ :=
  ⟨y.rel, Nat.le_trans x.nxt y.nxt, fun i hi => by
    have a := x.same i hi
    have b := y.same i (Nat.lt_of_lt_of_le hi x.nxt)
    exact ⟨b.1.trans a.1, b.2.trans a.2⟩, fun a ha o e => y.keep a ha o (x.keep a ha o e), fun a ha o e => by
    obtain ⟨sl, e₁⟩ := x.frm a ha o e
    obtain ⟨sl', e₂⟩ := y.frm a ha _ e₁
    exact ⟨sl', e₂⟩, y.hd.trans x.hd⟩
end Mine
namespace Mine
open PySem PySem.W PySem.Calls PyProof.Rows
def Fly (l : List Env) (Bq : Heap) (e : Addr) (cls a0 : Value) (h : Heap) : Prop :=
  Bq.StaysIn h ∧ Bq.get? e = none ∧ h.FunFrames Bq l ∧ ((∃ oe vs, h.get? e = some oe ∧ oe.cls = cls ∧ oe.data = .fields vs ∧ vs[0]? = some a0 ∧ vs[1]? = some .none) ∨ h.TracedW Bq e cls a0 ∨ ∃ env outer L, l = env :: outer ∧ env.frame = some L ∧ h.TracedAtW Bq e cls a0 (rawInt L))
def Ours (kp : List Addr) (z : Sit) (n : Nat) (a : Addr) : Prop := a ∈ kp ∨ ∃ i, i < n ∧ (a = z.ρ i ∨ a = z.δ i)
structure Raised (c : Cx) (f : Fm) (kp : List Addr) (z : Sit) (st : St) (s : Shared) (cls : V) (st' : St) (e : Value) (s' : Shared) : Prop where
  ex : ∃ z', After c f kp z st s z' st' s' ∧ ∃ ea cv a0 Bq, e = .ref ea ∧ VR z'.ρ st'.nxt c.B cls cv ∧ Fly f.stack Bq ea cv a0 s'.heap ∧ c.B.StaysIn Bq ∧ ∀ a o, Ours kp z' st'.nxt a → s'.heap.get? a = some o → Bq.get? a = some o
def Snd (c : Cx) (f : Fm) (kp : List Addr) (A : Around) {α β : Type} (t : Sem α) (r : R β) (P : Sit → Nat → β → α → Prop) (z : Sit) (st : St) (s : Shared) : Prop := match r with
  | .ok x st' => wpAny (model c.prog c.w) A t (fun v s' => ∃ z', After c f kp z st s z' st' s' ∧ P z' st'.nxt x v) (fun _ _ => False) s
  | .err cls _ st' => wpAny (model c.prog c.w) A t (fun _ _ => False) (fun e s' => Raised c f kp z st s cls st' e s') s
  | .stuck _ => True
structure AOk (A : Around) (f : Fm) (n : Nat) (md : Mode) : Prop where
  frames : A.frames = some f.stack
  depth : A.depth + n ≤ 950
  units : A.units + 10 * n ≤ 9000
  handled : md.hd = false → A.handled = none
  top : md.top = true → ∃ outer, f.stack = f.env :: outer ∧ f.env.frame = some f.L
  good : f.Good
theorem funFrames_turn {h h' B : Heap} : ∀ {l : List Env}, (∀ env ∈ l, ∀ a o, env.frame = some a → h.get? a = some o → (∀ vs, o.data ≠ .fields vs) → ∃ o', h'.get? a = some o' ∧ ∀ vs, o'.data ≠ .fields vs) → h.FunFrames B l → h'.FunFrames B l
  | [], _, _ => trivial
  | env :: rest, hk, ⟨k1, ⟨L, o, e1, e2, e3, e4⟩, k3⟩ => by
    obtain ⟨o', g1, g2⟩ := hk env (.head _) L o e1 e3 e4
    exact ⟨k1, ⟨L, o', e1, e2, g1, g2⟩, funFrames_turn (fun env he => hk env (.tail _ he)) k3⟩
section
variable {c : Cx} {f : Fm} {kp : List Addr} {A : Around} {z : Sit} {st : St} {s : Shared}
theorem Raised.from {z₁ : Sit} {st₁ st₂ : St} {s₁ s₂ : Shared} {cls : V} {e : Value} (x : After c f kp z st s z₁ st₁ s₁) (y : Raised c f kp z₁ st₁ s₁ cls st₂ e s₂) : Raised c f kp z st s cls st₂ e s₂ := by
  obtain ⟨z', a, r⟩ := y.ex
  exact ⟨z', x.trans a, r⟩
theorem Snd.bind {α β γ δ : Type} {t : Sem α} {g : α → Sem γ} {m : M β} {k : β → M δ} {P : Sit → Nat → β → α → Prop} {P' : Sit → Nat → δ → γ → Prop}
    (h1 : Snd c f kp A t (m st) P z st s)
    (h2 : ∀ x st' v z' s', m st = .ok x st' → After c f kp z st s z' st' s' → P z' st'.nxt x v → Snd c f kp A (g v) (k x st') P' z' st' s') :
    Snd c f kp A (t >>= g) (Mine.bind m k st) P' z st s := by
  unfold Mine.bind
  cases hm : m st with
  | stuck w => trivial
  | err cls fs st' =>
    rw [hm] at h1
    exact wpAny_bind (wpAny_mono h1 (fun _ _ h => h.elim) fun _ _ h => h)
  | ok x st' =>
    rw [hm] at h1
    have key : ∀ v z' s', After c f kp z st s z' st' s' → P z' st'.nxt x v → Snd c f kp A (g v) (k x st') P' z' st' s' := fun v z' s' a p => h2 x st' v z' s' hm a p
    show Snd c f kp A (t >>= g) (k x st') P' z st s
    cases hk : k x st' with
    | stuck w => trivial
    | err cls fs st₂ =>
      refine wpAny_bind (wpAny_mono h1 (fun v s₁ ⟨z', a, p⟩ => ?_) fun _ _ h => h.elim)
      have := key v z' s₁ a p
      rw [hk] at this
      exact wpAny_mono this (fun _ _ h => h) fun e s₂ r => Raised.from a r
    | ok y st₂ =>
      refine wpAny_bind (wpAny_mono h1 (fun v s₁ ⟨z', a, p⟩ => ?_) fun _ _ h => h.elim)
      have := key v z' s₁ a p
      rw [hk] at this
      exact wpAny_mono this (fun u s₂ ⟨z₂, a₂, p₂⟩ => ⟨z₂, a.trans a₂, p₂⟩) fun _ _ h => h
theorem Snd.mono {α β : Type} {t : Sem α} {r : R β} {P P' : Sit → Nat → β → α → Prop} (h : Snd c f kp A t r P z st s) (hP : ∀ z n x v, P z n x v → P' z n x v) : Snd c f kp A t r P' z st s := by
  cases r with
  | stuck w => trivial
  | err cls fs st' => exact h
  | ok x st' => exact wpAny_mono h (fun v s' ⟨z', a, p⟩ => ⟨z', a, hP _ _ _ _ p⟩) fun _ _ h => h
theorem Snd.pure {α β : Type} {x : β} {v : α} {P : Sit → Nat → β → α → Prop} (h : Rel c f kp z st s) (p : P z st.nxt x v) : Snd c f kp A (Pure.pure v : Sem α) (ret x st) P z st s :=
  wpAny_pure ⟨z, After.refl h, p⟩
theorem Snd.holding {α β : Type} {vs : List Value} {t : Sem α} {r : R β} {P : Sit → Nat → β → α → Prop} (h : Snd c f kp A t r P z st s) : Snd c f kp A (PySem.holding vs t) r P z st s := by
  cases r with
  | stuck w => trivial
  | err cls fs st' => exact wpAny_holding h
  | ok x st' => exact wpAny_holding h
theorem Snd.pre {α β γ : Type} {t : Sem γ} {g : γ → Sem α} {r : R β} {P : Sit → Nat → β → α → Prop} (R : γ → Shared → Prop)
    (h1 : wpAny (model c.prog c.w) A t R (fun _ _ => False) s) (h2 : ∀ v s', R v s' → After c f kp z st s z st s' ∧ Snd c f kp A (g v) r P z st s') : Snd c f kp A (t >>= g) r P z st s := by
  cases r with
  | stuck w => trivial
  | err cls fs st' => exact wpAny_bind (wpAny_mono h1 (fun v s' hr => wpAny_mono (h2 v s' hr).2 (fun _ _ h => h) fun e s₂ y => Raised.from (h2 v s' hr).1 y) fun _ _ h => h.elim)
  | ok x st' => exact wpAny_bind (wpAny_mono h1 (fun v s' hr => wpAny_mono (h2 v s' hr).2 (fun u s₂ ⟨z₂, a₂, p₂⟩ => ⟨z₂, (h2 v s' hr).1.trans a₂, p₂⟩) fun _ _ h => h) fun _ _ h => h.elim)
theorem Snd.standAt {α β : Type} {pos : Pos} {t : Sem α} {r : R β} {P : Sit → Nat → β → α → Prop} (hr : Rel c f kp z st s) (h : Snd c f kp A t r P z st s) : Snd c f kp A (PySem.standAt pos >>= fun _ => t) r P z st s :=
  Snd.pre (fun _ s' => s' = s) (wpAny_standAt rfl) fun _ s' e => by subst e; exact ⟨After.refl hr, h⟩
theorem Rel.toks (h : Rel c f kp z st s) (t : Nat) : Rel c f kp z st { s with toks := t } := ⟨h.base, h.loc, h.objs, h.own, h.apart, h.kps, h.frames, h.bL, h.gens, h.os⟩
theorem After.tok (h : Rel c f kp z st s) (t : Nat) : After c f kp z st s z st { s with toks := t } := ⟨h.toks t, Nat.le_refl _, fun _ _ => ⟨rfl, rfl⟩, fun _ _ _ e => e, fun _ _ o e => ⟨o.slots, e⟩, rfl⟩
theorem Lay.keeps {pg : Program} {w : World} {ρ : Nat → Addr} {n : Nat} {B h h' : Heap} {a d : Addr} {o : O} (x : Lay pg w ρ n B h a d o) (ha : ∀ ob, h.get? a = some ob → h'.get? a = some ob) (hd : ∀ ob, h.get? d = some ob → h'.get? d = some ob) : Lay pg w ρ n B h' a d o := by
  cases o with
  | junk => trivial
  | list xs => obtain ⟨vs, ep, e, r⟩ := x; exact ⟨vs, ep, ha _ e, r⟩
  | tup xs => obtain ⟨vs, e, r⟩ := x; exact ⟨vs, ha _ e, r⟩
  | dict es => obtain ⟨kvs, ⟨o, es, ep, e, q⟩, r⟩ := x; exact ⟨kvs, ⟨o, es, ep, ha _ e, q⟩, r⟩
  | inst C fs => obtain ⟨e, en, ep, e', r⟩ := x; exact ⟨ha _ e, en, ep, hd _ e', r⟩
  | barr b => exact ha _ x
  | slice l u => obtain ⟨l', u', e, r, r'⟩ := x; exact ⟨l', u', ha _ e, r, r'⟩
  | rng a b k => obtain ⟨t, t', t'', e⟩ := x; exact ⟨t, t', t'', ha _ e⟩
  | cell v => obtain ⟨u, ⟨ob, e, q⟩, r⟩ := x; exact ⟨u, ⟨ob, ha _ e, q⟩, r⟩
theorem Lay.mono {pg : Program} {w : World} {ρ ρ' : Nat → Addr} {n n' : Nat} {B h : Heap} {a d : Addr} {o : O} (hn : n ≤ n') (hρ : ∀ i, i < n → ρ' i = ρ i) (x : Lay pg w ρ n B h a d o) : Lay pg w ρ' n' B h a d o := by
  cases o with
  | junk => trivial
  | list xs => obtain ⟨vs, ep, e, r⟩ := x; exact ⟨vs, ep, e, r.mono hn hρ⟩
  | tup xs => obtain ⟨vs, e, r⟩ := x; exact ⟨vs, e, r.mono hn hρ⟩
  | dict es => obtain ⟨kvs, e, r⟩ := x; exact ⟨kvs, e, All2.mono (fun _ _ y => ⟨y.key, y.pos, y.val.mono hn hρ⟩) r⟩
  | inst C fs => obtain ⟨e, en, ep, e', r⟩ := x; exact ⟨e, en, ep, e', All2.mono (fun _ _ y => ⟨y.key, y.pos, y.val.mono hn hρ⟩) r⟩
  | barr b => exact x
  | slice l u => obtain ⟨l', u', e, r, r'⟩ := x; exact ⟨l', u', e, r.mono hn hρ, r'.mono hn hρ⟩
  | rng a b k => exact x
  | cell v => obtain ⟨u, e, r⟩ := x; exact ⟨u, e, r.mono hn hρ⟩
theorem LocR.mono {f : Fm} {z z' : Sit} {n n' : Nat} {B : Heap} {loc : List (Nat × Slot)} {m : Str → Option Value} (hn : n ≤ n') (hρ : ∀ i, i < n → z'.ρ i = z.ρ i) (h : LocR f z n B loc m) : LocR f z' n' B loc m := fun x hx => by
  have := h x hx
  cases q : look (nid x) loc with
  | none => trivial
  | some sl =>
    rw [q] at this
    cases sl with
    | unset => exact this
    | glob => exact this
    | cell i own => obtain ⟨a, hi, e, q⟩ := this; exact ⟨a, Nat.lt_of_lt_of_le hi hn, by rw [hρ i hi]; exact e, q⟩
    | val v => obtain ⟨a, u, b, r⟩ := this; exact ⟨a, u, b, r.mono hn hρ⟩
theorem Rel.heap {h' : Heap} (r : Rel c f kp z st s) (hk : ∀ a o, (c.B.get? a).isSome = true ∨ Ours kp z st.nxt a ∨ a ∈ f.frs ∨ a = f.L → s.heap.get? a = some o → h'.get? a = some o) :
    After c f kp z st s z st { s with heap := h' } := by
  have kb : c.B.StaysIn h' := fun b o e => hk b o (.inl (by rw [e]; rfl)) (r.base b o e)
  refine ⟨⟨kb, ?_, fun i hi => (r.objs i hi).keeps (fun o e => hk _ o (.inr (.inl (.inr ⟨i, hi, .inl rfl⟩))) e) (fun o e => hk _ o (.inr (.inl (.inr ⟨i, hi, .inr rfl⟩))) e), fun i hi a ha => ?_, r.apart, fun a ha => ?_, ?_, r.bL, r.gens, r.os⟩,
    Nat.le_refl _, fun _ _ => ⟨rfl, rfl⟩, fun a ha o e => hk a o (.inr (.inl (.inl ha))) e, fun a ha o e => ⟨o.slots, hk a o (.inr (.inr (.inl ha))) e⟩, rfl⟩
  · obtain ⟨m, ⟨o, es, ep, e, rest⟩, l⟩ := r.loc
    exact ⟨m, ⟨o, es, ep, hk _ o (.inr (.inr (.inr rfl))) e, rest⟩, l⟩
  · obtain ⟨p1, p2, p3, p4, p5, p6⟩ := r.own i hi a ha
    obtain ⟨o, e⟩ := Option.isSome_iff_exists.mp p5
    exact ⟨p1, p2, p3, p4, by rw [show h'.get? a = some o from hk a o (.inr (.inl (.inr ⟨i, hi, ha⟩))) e]; rfl, p6⟩
  · obtain ⟨p1, p2, p3, p4⟩ := r.kps a ha
    obtain ⟨o, e⟩ := Option.isSome_iff_exists.mp p1
    exact ⟨by rw [show h'.get? a = some o from hk a o (.inr (.inl (.inl ha))) e]; rfl, p2, p3, p4⟩
  · exact funFrames_turn (fun env he a o ha e hd => ⟨o, hk a o (.inr (.inr ((f.mem_frs he ha).elim .inl .inr))) e, hd⟩) r.frames
theorem Rel.grown {h' : Heap} (r : Rel c f kp z st s) (hk : ∀ a o, s.heap.get? a = some o → h'.get? a = some o) : After c f kp z st s z st { s with heap := h' } :=
  r.heap fun a o _ e => hk a o e
end
end Mine
namespace Mine
open PySem PySem.W PySem.Calls PyProof.Rows
def setN (f : Nat → Addr) (i : Nat) (a : Addr) : Nat → Addr := fun j => if j = i then a else f j
def Sit.put (z : Sit) (i : Nat) (a d : Addr) : Sit := ⟨setN z.ρ i a, setN z.δ i d⟩
def St.new (st : St) (o : O) : St := { st with obj := updO st.obj st.nxt o, nxt := st.nxt + 1 }
def St.set (st : St) (i : Nat) (o : O) : St := { st with obj := updO st.obj i o }
theorem funFrames_mem {h B : Heap} {env : Env} : ∀ {l : List Env}, h.FunFrames B l → env ∈ l → env.scope.kind ≠ .module ∧ ∃ L o, env.frame = some L ∧ B.get? L = none ∧ h.get? L = some o ∧ ∀ vs, o.data ≠ .fields vs
  | _ :: _, ⟨k1, k2, _⟩, .head _ => ⟨k1, k2⟩
  | _ :: _, ⟨_, _, k3⟩, .tail _ m => funFrames_mem k3 m
theorem setN_lt {f : Nat → Addr} {n i : Nat} {a : Addr} (h : i < n) : setN f n a i = f i := if_neg (Nat.ne_of_lt h)
theorem setN_self {f : Nat → Addr} {n : Nat} {a : Addr} : setN f n a n = a := if_pos rfl
section
variable {c : Cx} {f : Fm} {kp : List Addr} {A : Around} {z : Sit} {st : St} {s : Shared}
theorem funFrames_keeps {h h' base : Heap} (hk : ∀ b o, h.get? b = some o → h'.get? b = some o) {l : List Env} (x : h.FunFrames base l) : h'.FunFrames base l := x.of_keeps fun b o e _ => ⟨o, hk b o e, rfl⟩
theorem Rel.alloc {h' : Heap} {a d : Addr} {o : O} (r : Rel c f kp z st s) (hk : ∀ b ob, s.heap.get? b = some ob → h'.get? b = some ob)
    (ha : s.heap.get? a = none ∧ (h'.get? a).isSome = true) (hd : s.heap.get? d = none ∧ (h'.get? d).isSome = true) (hne : two o = true → a ≠ d)
    (hl : Lay c.prog c.w (setN z.ρ st.nxt a) (st.nxt + 1) c.B h' a d o) : After c f kp z st s (z.put st.nxt a d) (st.new o) { s with heap := h' } := by
  have kb : c.B.StaysIn h' := fun b ob e => hk b ob (r.base b ob e)
  have hρ : ∀ i, i < st.nxt → setN z.ρ st.nxt a i = z.ρ i := fun i hi => setN_lt hi
  have bnone : ∀ b, s.heap.get? b = none → c.B.get? b = none := fun b hb => by
    cases q : c.B.get? b with
    | none => rfl
    | some ob => rw [r.base b ob q] at hb; cases hb
  have no : ∀ b, s.heap.get? b = none → (s.heap.get? b).isSome = true → False := fun b e e' => by rw [e] at e'; cases e'
  have L_lt : (s.heap.get? f.L).isSome = true := by obtain ⟨m, ⟨o, _, _, e, _⟩, _⟩ := r.loc; rw [e]; rfl
  have fr_lt : ∀ b ∈ f.frs, (s.heap.get? b).isSome = true := fun b hb => by
    obtain ⟨env, he, hf⟩ := List.mem_filterMap.mp (List.mem_filter.mp hb).1
    obtain ⟨_, ⟨L, o, e1, e2, e3, e4⟩⟩ := funFrames_mem r.frames he
    rw [hf] at e1
    cases e1
    rw [e3]; rfl
  have kp_lt : ∀ b ∈ kp, (s.heap.get? b).isSome = true := fun b hb => (r.kps b hb).1
  refine ⟨⟨kb, ?_, fun i hi => ?_, fun i hi b hb => ?_, fun i hi => ?_, fun b hb => ?_, funFrames_keeps hk r.frames, r.bL, r.gens, r.os⟩, Nat.le_succ _, fun i hi => ⟨setN_lt hi, setN_lt hi⟩, fun b _ ob e => hk b ob e, fun b _ ob e => ⟨ob.slots, hk b ob e⟩, rfl⟩
  · obtain ⟨m, hn, l⟩ := r.loc
    exact ⟨m, hn.keeps hk, l.mono (Nat.le_succ _) hρ⟩
  · rcases Nat.lt_succ_iff_lt_or_eq.mp hi with q | rfl
    · have x := (r.objs i q).keeps (h' := h') (fun ob e => hk _ ob e) (fun ob e => hk _ ob e)
      have y := x.mono (Nat.le_succ _) hρ
      show Lay _ _ (setN z.ρ st.nxt a) (st.nxt + 1) _ _ (setN z.ρ st.nxt a i) (setN z.δ st.nxt d i) (updO st.obj st.nxt o i)
      rw [setN_lt q, setN_lt q]
      unfold updO
      rw [if_neg (Nat.ne_of_lt q)]
      exact y
    · show Lay _ _ (setN z.ρ st.nxt a) (st.nxt + 1) _ _ (setN z.ρ st.nxt a st.nxt) (setN z.δ st.nxt d st.nxt) (updO st.obj st.nxt o st.nxt)
      rw [setN_self, setN_self]
      unfold updO
      rw [if_pos rfl]
      exact hl
  · have hb' : b = setN z.ρ st.nxt a i ∨ b = setN z.δ st.nxt d i := hb
    have fresh : ∀ j, j < st.nxt → ∀ b', b' = z.ρ j ∨ b' = z.δ j → (s.heap.get? b').isSome = true := fun j hj b' h => (r.own j hj b' h).2.2.2.2.1
    rcases Nat.lt_succ_iff_lt_or_eq.mp hi with q | rfl
    · rw [setN_lt q, setN_lt q] at hb'
      obtain ⟨p1, p2, p3, p4, p5, p6⟩ := r.own i q b hb'
      obtain ⟨ob, eb⟩ := Option.isSome_iff_exists.mp p5
      refine ⟨p1, p2, p3, p4, by rw [show h'.get? b = some ob from hk b ob eb]; rfl, fun j hj e => ?_⟩
      have e' : b = setN z.ρ st.nxt a j ∨ b = setN z.δ st.nxt d j := e
      rcases Nat.lt_succ_iff_lt_or_eq.mp hj with q' | rfl
      · rw [setN_lt q', setN_lt q'] at e'
        exact p6 j q' e'
      · rw [setN_self, setN_self] at e'
        rcases e' with q | q
        · exact (no _ ha.1 (q ▸ p5)).elim
        · exact (no _ hd.1 (q ▸ p5)).elim
    · rw [setN_self, setN_self] at hb'
      have hge : s.heap.get? b = none ∧ (h'.get? b).isSome = true := by rcases hb' with q | q <;> (rw [q]; assumption)
      refine ⟨bnone b hge.1, fun hm => ?_, fun hm => ?_, fun e => ?_, hge.2, fun j hj e => ?_⟩
      · exact no _ hge.1 (kp_lt b hm)
      · exact no _ hge.1 (fr_lt b hm)
      · exact no _ hge.1 (e ▸ L_lt)
      · have e' : b = setN z.ρ st.nxt a j ∨ b = setN z.δ st.nxt d j := e
        rcases Nat.lt_succ_iff_lt_or_eq.mp hj with q' | rfl
        · rw [setN_lt q', setN_lt q'] at e'
          exact (no _ hge.1 (fresh j q' b e')).elim
        · rfl
  · show two (updO st.obj st.nxt o i) = true → setN z.ρ st.nxt a i ≠ setN z.δ st.nxt d i
    unfold updO
    rcases Nat.lt_succ_iff_lt_or_eq.mp hi with q | rfl
    · rw [if_neg (Nat.ne_of_lt q), setN_lt q, setN_lt q]; exact r.apart i q
    · rw [if_pos rfl, setN_self, setN_self]; exact hne
  · obtain ⟨p1, p2, p3, p4⟩ := r.kps b hb
    obtain ⟨ob, e⟩ := Option.isSome_iff_exists.mp p1
    exact ⟨by rw [show h'.get? b = some ob from hk b ob e]; rfl, p2, p3, p4⟩
theorem Rel.turn {h' : Heap} {i : Nat} {b : Addr} {o : O} (r : Rel c f kp z st s) (hi : i < st.nxt) (hb : b = z.ρ i ∨ b = z.δ i) (hs : Heap.SameBut b s.heap h') (hsome : (h'.get? b).isSome = true) (h2 : two o = true → z.ρ i ≠ z.δ i)
    (hl : Lay c.prog c.w z.ρ st.nxt c.B h' (z.ρ i) (z.δ i) o) : After c f kp z st s z (st.set i o) { s with heap := h' } := by
  obtain ⟨p1, p2, p3, p4, p5, p6⟩ := r.own i hi b hb
  have keep : ∀ x ob, x ≠ b → s.heap.get? x = some ob → h'.get? x = some ob := fun x ob hx e => (hs.2 x hx).trans e
  have kb : c.B.StaysIn h' := fun x ob e => keep x ob (fun q => by rw [q, p1] at e; cases e) (r.base x ob e)
  refine ⟨⟨kb, ?_, fun j hj => ?_, fun j hj x hx => ?_, fun j hj => ?_, fun x hx => ?_, ?_, r.bL, r.gens, r.os⟩, Nat.le_refl _, fun _ _ => ⟨rfl, rfl⟩, fun x hx ob e => keep x ob (fun q => p2 (q ▸ hx)) e, fun x hx ob e => ⟨ob.slots, keep x ob (fun q => p3 (q ▸ hx)) e⟩, rfl⟩
  · obtain ⟨m, hn, l⟩ := r.loc
    exact ⟨m, hn.sameBut hs (Ne.symm p4), l⟩
  · show Lay _ _ _ _ _ _ _ _ (updO st.obj i o j)
    unfold updO
    by_cases q : j = i
    · subst q; rw [if_pos rfl]; exact hl
    · rw [if_neg q]
      exact (r.objs j hj).keeps (fun ob e => keep _ ob (fun e' => q ((p6 j hj (.inl e'.symm)))) e) (fun ob e => keep _ ob (fun e' => q ((p6 j hj (.inr e'.symm)))) e)
  · obtain ⟨q1, q2, q3, q4, q5, q6⟩ := r.own j hj x hx
    refine ⟨q1, q2, q3, q4, ?_, q6⟩
    by_cases w : x = b
    · rw [w]; exact hsome
    · obtain ⟨ob, eb⟩ := Option.isSome_iff_exists.mp q5
      rw [show h'.get? x = some ob from keep x ob w eb]; rfl
  · show two (updO st.obj i o j) = true → z.ρ j ≠ z.δ j
    unfold updO
    by_cases q : j = i
    · subst q; rw [if_pos rfl]; exact h2
    · rw [if_neg q]; exact r.apart j hj
  · obtain ⟨q1, q2, q3, q4⟩ := r.kps x hx
    obtain ⟨ob, e⟩ := Option.isSome_iff_exists.mp q1
    exact ⟨by rw [show h'.get? x = some ob from keep x ob (fun q => p2 (q ▸ hx)) e]; rfl, q2, q3, q4⟩
  · refine funFrames_turn (fun env he a o ha e hd => ⟨o, keep a o (fun q => ?_) e, hd⟩) r.frames
    rcases f.mem_frs he ha with w | w
    · exact p3 (q ▸ w)
    · exact p4 (q ▸ w)
theorem Rel.store {h' : Heap} {m : Str → Option Value} {x : Str} {v : V} {u : Value} {sl : Slot} {t : Nat} (r : Rel c f kp z st s) (hx : nid x ≠ 0) (hl : look (nid x) st.loc = some sl) (hg : f.env.kindOf x = some .local)
    (hm : s.heap.Ns f.L m) (hloc : LocR f z st.nxt c.B st.loc m) (hn : h'.Ns f.L (fun y => if y = x then some u else m y)) (hs : Heap.SameBut f.L s.heap h') (hv : VR z.ρ st.nxt c.B v u) :
    After c f kp z st s z { st with loc := put (nid x) (.val v) st.loc } { s with heap := h', toks := t } := by
  have bL := r.bL
  have keep : ∀ y ob, y ≠ f.L → s.heap.get? y = some ob → h'.get? y = some ob := fun y ob hy e => (hs.2 y hy).trans e
  have kb : c.B.StaysIn h' := fun y ob e => keep y ob (fun q => by rw [q, bL] at e; cases e) (r.base y ob e)
  refine ⟨⟨kb, ⟨_, hn, fun y hy => ?_⟩, fun i hi => ?_, fun i hi a ha => ?_, r.apart, fun a ha => ?_, ?_, r.bL, r.gens, r.os⟩, Nat.le_refl _, fun _ _ => ⟨rfl, rfl⟩, fun a ha ob e => keep a ob (r.kps a ha).2.1 e, fun a ha ob e => ⟨ob.slots, keep a ob (fun q => f.not_frs (q ▸ ha)) e⟩, rfl⟩
  · show match look (nid y) (put (nid x) (Slot.val v) st.loc) with | some .glob => _ | some .unset => _ | some (.val v) => _ | some (.cell i own) => _ | none => True
    rw [look_put]
    by_cases q : nid x = nid y
    · have : x = y := nid_inj q hx
      subst this
      rw [if_pos rfl]
      exact ⟨hg, u, if_pos rfl, hv⟩
    · rw [if_neg q]
      have hne : y ≠ x := fun e => q (by rw [e])
      have := hloc y hy
      cases w : look (nid y) st.loc with
      | none => trivial
      | some sl =>
        rw [w] at this
        cases sl with
        | glob => exact this
        | unset => exact ⟨this.1, by rw [if_neg hne]; exact this.2⟩
        | cell i own => exact this
        | val v' => obtain ⟨a, u', b, r'⟩ := this; exact ⟨a, u', by rw [if_neg hne]; exact b, r'⟩
  · obtain ⟨_, _, _, p4, _, _⟩ := r.own i hi _ (.inl rfl)
    obtain ⟨_, _, _, q4, _, _⟩ := r.own i hi _ (.inr rfl)
    exact (r.objs i hi).keeps (fun ob e => keep _ ob p4 e) (fun ob e => keep _ ob q4 e)
  · obtain ⟨q1, q2, q3, q4, q5, q6⟩ := r.own i hi a ha
    obtain ⟨ob, eb⟩ := Option.isSome_iff_exists.mp q5
    exact ⟨q1, q2, q3, q4, by rw [show h'.get? a = some ob from keep a ob q4 eb]; rfl, q6⟩
  · obtain ⟨q1, q2, q3, q4⟩ := r.kps a ha
    obtain ⟨ob, e⟩ := Option.isSome_iff_exists.mp q1
    exact ⟨by rw [show h'.get? a = some ob from keep a ob q2 e]; rfl, q2, q3, q4⟩
  · refine funFrames_turn (fun env he a o ha e hd => ?_) r.frames
    by_cases w : a = f.L
    · obtain ⟨o', es, ep, g1, g2, g3⟩ := hn
      exact ⟨o', w ▸ g1, fun vs q => by rw [g2] at q; cases q⟩
    · exact ⟨o, keep a o w e, hd⟩
end
end Mine
namespace Mine
open PySem PySem.W
def szOk (n : Nat) : Bool := decide (n ≤ 16777216)
def alloc (o : O) : M V := fun s => .ok (.ref s.nxt) (s.new o)
def getO (i : Nat) : M O := fun s => if i < s.nxt then .ok (s.obj i) s else .stuck "no object"
def setO (i : Nat) (o : O) : M Unit := fun s => .ok () (s.set i o)
def mkList (vs : List V) : M V := if szOk vs.length then alloc (.list vs) else stuck "long list"
def mkTup (vs : List V) : M V := if szOk vs.length then alloc (.tup vs) else stuck "long tuple"
def mkBytes (b : List UInt8) : M V := if szOk b.length then ret (.bytes b) else stuck "long bytes"
def calm {α : Type} (m : M α) : M α := fun s => if s.md.hd then .stuck "under a handler" else m s
def small (i : Int) : Bool := decide (i.natAbs < 18446744073709551616)
def binI (op : Operator) (a b : Int) : M V := match op with
  | .Add => ret (.int (a + b))
  | .Sub => ret (.int (a - b))
  | .Mult => if small a && small b then ret (.int (a * b)) else stuck "mul"
  | .FloorDiv => if b != 0 && decide (b.natAbs < 1073741824) then ret (.int (a.fdiv b)) else stuck "div"
  | .Mod => if b != 0 then ret (.int (a.fmod b)) else stuck "mod"
  | .LShift => if decide (0 ≤ b) && decide (b ≤ 1000000) && small a then ret (.int (a * 2 ^ b.toNat)) else stuck "shl"
  | .RShift => if decide (0 ≤ b) then ret (.int (a.fdiv (2 ^ b.toNat))) else stuck "shr"
  | .BitAnd => ret (.int (Builtin.bitAnd a b))
  | .BitOr => ret (.int (Builtin.bitOr a b))
  | _ => stuck "int op"
def repl {α : Type} (n : Nat) (l : List α) : List α := match n with | 0 => [] | n + 1 => l ++ repl n l
def clampI (n : Nat) (i : Int) : Nat := if i < 0 then (i + n).toNat else min i.toNat n
def lowOf (n : Nat) : V → Option Nat
  | .none => some 0
  | .int i => some (clampI n i)
  | _ => Option.none
def highOf (n : Nat) : V → Option Nat
  | .none => some n
  | .int i => some (clampI n i)
  | _ => Option.none
def sliceOf {α : Type} (l : List α) (lo hi : V) : Option (List α) := (lowOf l.length lo).bind fun a => (highOf l.length hi).map fun b => (l.drop a).take (b - a)
def idxOf (n : Nat) (i : Int) : Option Nat := if 0 ≤ i then (if i < n then some i.toNat else Option.none) else (if 0 ≤ i + n then some (i + n).toNat else Option.none)
def itemAt {α : Type} (l : List α) (i : Int) : Option α := (idxOf l.length i).bind fun k => l[k]?
def rangeL (a c : Int) : Nat → List Int
  | 0 => []
  | n + 1 => a :: rangeL (a + c) c n
def octets : List V → Option (List UInt8)
  | [] => some []
  | .int i :: r => if 0 ≤ i ∧ i < 256 then (octets r).map (UInt8.ofNat i.toNat :: ·) else Option.none
  | _ :: _ => Option.none
def leNat : List UInt8 → Nat
  | [] => 0
  | b :: r => b.toNat + 256 * leNat r
def leBytes : Nat → Nat → List UInt8
  | 0, _ => []
  | k + 1, n => UInt8.ofNat (n % 256) :: leBytes k (n / 256)
def nearI (n : Int) : Bool := decide (-1048576 ≤ n) && decide (n ≤ 1048576)
def binV (op : Operator) (a b : V) : M V := match a, b with
  | .int x, .int y => binI op x y
  | .bytes x, .bytes y => (match op with
    | .Add => mkBytes (x ++ y)
    | _ => stuck "bytes op")
  | .bytes x, .int n => (match op with
    | .Mult => if nearI n && !x.isEmpty && decide (x.length ≤ 16) then ret (.bytes (repl n.toNat x)) else stuck "bytes op"
    | _ => stuck "bytes op")
  | .ref i, .ref j => (match op with
    | .Add => bind (getO i) fun o => bind (getO j) fun o' => match o, o' with
      | .list x, .list y => mkList (x ++ y)
      | _, _ => stuck "list op"
    | _ => stuck "list op")
  | .ref i, .int n => (match op with
    | .Mult => bind (getO i) fun o => match o with
      | .list x => if nearI n then mkList (repl n.toNat x) else stuck "list op"
      | _ => stuck "list op"
    | _ => stuck "list op")
  | _, _ => stuck "binop"
def inplV (op : Operator) (a b : V) : M V := match a, b with
  | .ref i, .ref j => (match op with
    | .Add => bind (getO i) fun o => bind (getO j) fun o' => match o, o' with
      | .list x, .list y => if szOk (x ++ y).length && decide (i ≠ j) then bind (setO i (.list (x ++ y))) fun _ => ret (.ref i) else stuck "list op="
      | _, _ => stuck "list op="
    | _ => stuck "list op=")
  | .int x, .int y => binI op x y
  | .bytes x, .bytes y => binV op (.bytes x) (.bytes y)
  | _, _ => stuck "op="
def truthV (v : V) : M Bool := match v with
  | .none => ret false
  | .bool b => ret b
  | .int i => ret (i != 0)
  | .bytes b => if szOk b.length then ret (!b.isEmpty) else stuck "truth"
  | .ref i => bind (getO i) fun o => match o with
    | .list vs => if szOk vs.length then ret (!vs.isEmpty) else stuck "truth"
    | _ => stuck "truth"
  | _ => stuck "truth"
mutual
def datV (o : Nat → O) (m : Nat) : Nat → V → Option PyData
  | _, .none => some .none
  | _, .int i => some (.int i)
  | n + 1, .ref i => if i < m then (match o i with
    | .list xs => (datL o m n xs).map .list
    | _ => Option.none) else Option.none
  | _, _ => Option.none
def datL (o : Nat → O) (m : Nat) : Nat → List V → Option (List PyData)
  | _, [] => some []
  | n, x :: r => (datV o m n x).bind fun d => (datL o m n r).map (d :: ·)
end
def eqV (o : Nat → O) (m : Nat) (a b : V) : Option Bool := match a, b with
  | .bool x, .bool y => some (x == y)
  | .int x, .int y => some (x == y)
  | .bytes x, .bytes y => some (x == y)
  | .ref i, .ref j => (datV o m 6 (.ref i)).bind fun d => (datV o m 6 (.ref j)).map fun e => PyData.eqv d e
  | _, _ => Option.none
def isV (a b : V) : Option Bool := match a, b with
  | .none, .none => some true
  | .bool x, .bool y => some (x == y)
  | .int _, .none | .str _, .none | .bool _, .none | .bytes _, .none | .ref _, .none | .old _, .none => some false
  | _, _ => Option.none
def okB (w : String) (o : Option Bool) : M V := match o with
  | some r => ret (.bool r)
  | Option.none => stuck w
def cmpI (g : Int → Int → Bool) (a b : V) : M V := match a, b with
  | .int x, .int y => ret (.bool (g x y))
  | _, _ => stuck "order"
def cmpV (op : CmpOp) (a b : V) : M V := match op with
  | .Eq => fun s => okB "eq" (eqV s.obj s.nxt a b) s
  | .NotEq => fun s => okB "ne" ((eqV s.obj s.nxt a b).map (!·)) s
  | .Is => okB "is" (isV a b)
  | .IsNot => okB "is not" ((isV a b).map (!·))
  | .Lt => cmpI (fun x y => decide (x < y)) a b
  | .LtE => cmpI (fun x y => decide (x ≤ y)) a b
  | .Gt => cmpI (fun x y => decide (y < x)) a b
  | .GtE => cmpI (fun x y => decide (y ≤ x)) a b
  | _ => stuck "in"
def unV (op : UnaryOp) (a : V) : M V := match op, a with
  | .USub, .int i => ret (.int (-i))
  | .Not, v => bind (truthV v) fun b => ret (.bool !b)
  | _, _ => stuck "unary"
def fnOf? (K : Frag) (a : Addr) : Option FuncData := match K.lookup a with
  | some ⟨_, _, .func fd, _⟩ => some fd
  | _ => Option.none
def vOf (K : Frag) (v : Value) : Option V := match v with
  | .none => some .none
  | .bool b => some (.bool b)
  | .int i _ => some (.int i)
  | .str s _ => some (.str s)
  | .bytes b _ => some (.bytes b.toList)
  | .type n => some (.type n)
  | .builtin i => some (.bi i)
  | .ref a => if (K.lookup a).isSome then some (.old a) else Option.none
  | _ => Option.none
def globV (K : Frag) (name : Str) : Option V := match nsIn K mainGlobals name with
  | some (some v) => vOf K v
  | some Option.none => if name = "__name__" then Option.none else (bootBuiltins name).bind (vOf K)
  | Option.none => Option.none
def oldList (K : Frag) (a : Addr) : Option (List V) := match K.lookup a with
  | some ⟨_, _, .seq vs _, _⟩ => vs.toList.mapM (vOf K)
  | _ => Option.none
def orStuck (w : String) : Option V → M V
  | some v => ret v
  | Option.none => stuck w
def itemOfBytes (b : List UInt8) (i : V) : M V := match i with
  | .int n => if szOk b.length then orStuck "bytes index" ((itemAt b n).map fun x => .int x.toNat) else stuck "long bytes"
  | .ref k => bind (getO k) fun ob => (match ob with
    | .slice lo hi => (match sliceOf b lo hi with
      | some x => if szOk b.length then ret (.bytes x) else stuck "long bytes"
      | Option.none => stuck "slice")
    | _ => stuck "bytes index")
  | _ => stuck "bytes index"
def itemOfList (vs : List V) (i : V) : M V := match i with
  | .int n => if szOk vs.length then orStuck "list index" (itemAt vs n) else stuck "long list"
  | .ref k => bind (getO k) fun ob => (match ob with
    | .slice lo hi => (match sliceOf vs lo hi with
      | some x => if szOk vs.length then mkList x else stuck "long list"
      | Option.none => stuck "slice")
    | _ => stuck "list index")
  | _ => stuck "list index"
def itemOfDict (es : List (Nat × V)) (i : V) : M V := match i with
  | .str k => if nid k = 0 then stuck "key" else orStuck "key" (look (nid k) es)
  | _ => stuck "key"
def itemOfBarr (b : List UInt8) (i : V) : M V := match i with
  | .int n => if szOk b.length then orStuck "bytearray index" ((itemAt b n).map fun x => .int x.toNat) else stuck "long bytearray"
  | _ => stuck "bytearray index"
def itemOf (ob : O) (i : V) : M V := match ob with
  | .list vs => itemOfList vs i
  | .dict es => itemOfDict es i
  | .barr b => itemOfBarr b i
  | _ => stuck "item"
def getItemV (o i : V) : M V := match o with
  | .bytes b => itemOfBytes b i
  | .ref r => bind (getO r) fun ob => itemOf ob i
  | _ => stuck "item"
def setItemV (o i v : V) : M Unit := match o with
  | .ref r => bind (getO r) fun ob => (match ob with
    | .list vs => (match i with
      | .int n => if szOk vs.length && decide (0 ≤ n) && decide (n < vs.length) then setO r (.list (vs.set n.toNat v)) else stuck "list index"
      | _ => stuck "list index")
    | .dict es => (match i with
      | .str k => if nid k = 0 then stuck "key" else if decide (es.length ≤ 1048576) then setO r (.dict (put (nid k) v es)) else stuck "long dict"
      | _ => stuck "key")
    | _ => stuck "set item")
  | _ => stuck "set item"
inductive Fl where
  | next | brk | cont | ret (v : V)
structure Ev where
  expr : Expr → M V
  test : Expr → M Bool
  stmt : Stmt → M Fl
  call : V → List V → List (Str × V) → M V
def stuckEv : Ev := ⟨fun _ => stuck "fuel", fun _ => stuck "fuel", fun _ => stuck "fuel", fun _ _ _ => stuck "fuel"⟩
def plainE : Expr → Bool
  | .Starred .. => false
  | _ => true
section
variable (K : Frag) (p : Ev)
def evalL : List Expr → M (List V)
  | [] => ret []
  | e :: r => if plainE e then bind (p.expr e) fun v => bind (evalL r) fun vs => ret (v :: vs) else stuck "*"
def evalKw : List Keyword → M (List (Str × V))
  | [] => ret []
  | ⟨some n, e, _⟩ :: r => bind (p.expr e) fun v => bind (evalKw r) fun vs => ret ((n, v) :: vs)
  | ⟨Option.none, _, _⟩ :: _ => stuck "**"
def execL : List Stmt → M Fl
  | [] => ret .next
  | s :: r => bind (p.stmt s) fun f => match f with
    | .next => execL r
    | f => ret f
def orNone : Option Expr → M V
  | some e => p.expr e
  | Option.none => ret .none
def cmpChain (l : V) : List CmpOp → List Expr → M V
  | [op], [e] => if behindInMarks op e then stuck "in" else bind (p.expr e) fun r => cmpV op l r
  | op :: ops, e :: es => bind (p.expr e) fun r => bind (cmpV op l r) fun c => bind (truthV c) fun t => if t then cmpChain r ops es else ret c
  | _, _ => stuck "compare"
def testChain (l : V) : List CmpOp → List Expr → M Bool
  | [op], [e] => if behindInMarks op e then stuck "in" else bind (p.expr e) fun r => bind (cmpV op l r) fun c => truthV c
  | op :: ops, e :: es => bind (p.expr e) fun r => bind (cmpV op l r) fun c => bind (truthV c) fun t => if t then testChain r ops es else ret false
  | _, _ => stuck "compare"
def boolOpV (op : BoolOp) : List Expr → M V
  | [] => stuck "boolop"
  | [e] => p.expr e
  | e :: r => bind (p.expr e) fun v => bind (truthV v) fun t => match op, t with
    | .And, false | .Or, true => ret v
    | _, _ => boolOpV op r
def testAll (op : BoolOp) : List Expr → M Bool
  | [] => ret (op == .And)
  | e :: r => bind (p.test e) fun t => match op, t with
    | .And, false => ret false
    | .Or, true => ret true
    | _, _ => testAll op r
def setLoc (x : Str) (v : V) : M Unit := fun s => if nid x = 0 then .stuck "name" else match look (nid x) s.loc with
  | some .glob => .stuck "store of a global name"
  | some (.cell i own) => (match own, s.obj i with
    | true, .cell _ => .ok () (s.set i (.cell (some v)))
    | _, _ => .stuck "store of a free name")
  | some _ => .ok () { s with loc := put (nid x) (.val v) s.loc }
  | Option.none => .stuck "store of a name that is not local"
def unpackV (v : V) (n : Nat) : M (List V) := match v with
  | .ref r => bind (getO r) fun o => match o with
    | .list vs => if vs.length = n then calm (ret vs) else stuck "unpack"
    | .tup vs => if vs.length = n then calm (ret vs) else stuck "unpack"
    | _ => stuck "unpack"
  | _ => stuck "unpack"
def namesOf : List Expr → Option (List Str)
  | [] => some []
  | .Name x _ :: r => (namesOf r).map (x :: ·)
  | _ :: _ => Option.none
def setLocs : List Str → List V → M Unit
  | x :: xs, v :: vs => bind (setLoc x v) fun _ => setLocs xs vs
  | [], [] => ret ()
  | _, _ => stuck "unpack"
def lineOf : List Expr → Nat
  | .Name _ p :: _ => p.line
  | _ => 0
def oneLine (n : Nat) : List Expr → Bool
  | [] => true
  | .Name _ p :: r => p.line == n && oneLine n r
  | _ => false
def distinct : List Str → Bool
  | [] => true
  | x :: r => r.all (fun y => nid x != nid y) && distinct r
def swapOk (ts vs : List Expr) : Bool := (ts.length == 2 || ts.length == 3) && vs.length == ts.length && vs.all plainE && oneLine (lineOf ts) ts && (match namesOf ts with | some xs => distinct xs | Option.none => false) &&
  !(vs.all (foldedForSure 8)) && !(vs.all (constantsAlone 8))
end
end Mine
namespace Mine
open PySem PySem.W PySem.Calls PyProof.Rows
def VP (B : Heap) : Sit → Nat → V → Value → Prop := fun z n x v => VR z.ρ n B x v
def VsP (B : Heap) : Sit → Nat → List V → List Value → Prop := fun z n x v => VRs z.ρ n B x v
def EqP {α : Type} : Sit → Nat → α → α → Prop := fun _ _ x v => v = x
def UP : Sit → Nat → Unit → Unit → Prop := fun _ _ _ _ => True
section
variable {c : Cx} {f : Fm} {kp : List Addr} {A : Around} {z : Sit} {st : St} {s : Shared}
theorem After.vr {z' : Sit} {st' : St} {s' : Shared} (a : After c f kp z st s z' st' s') {x : V} {v : Value} (h : VR z.ρ st.nxt c.B x v) : VR z'.ρ st'.nxt c.B x v := h.mono a.nxt fun i hi => (a.same i hi).1
theorem After.vrs {z' : Sit} {st' : St} {s' : Shared} (a : After c f kp z st s z' st' s') {x : List V} {v : List Value} (h : VRs z.ρ st.nxt c.B x v) : VRs z'.ρ st'.nxt c.B x v := h.mono a.nxt fun i hi => (a.same i hi).1
theorem Snd.of {α β : Type} {t : Sem α} {x : β} {st' : St} {P : Sit → Nat → β → α → Prop}
    (H : ∀ (Q : α → Shared → Prop) (E : Value → Shared → Prop), (∀ v z' s', After c f kp z st s z' st' s' → P z' st'.nxt x v → Q v s') → wpAny (model c.prog c.w) A t Q E s) : Snd c f kp A t (.ok x st') P z st s :=
  H _ _ fun v z' s' a p => ⟨z', a, p⟩
theorem Snd.same {α β : Type} {t : Sem α} {x : β} {P : Sit → Nat → β → α → Prop}
    (H : ∀ (Q : α → Shared → Prop) (E : Value → Shared → Prop), (∀ v s', After c f kp z st s z st s' → P z st.nxt x v → Q v s') → wpAny (model c.prog c.w) A t Q E s) : Snd c f kp A t (ret x st) P z st s :=
  Snd.of fun Q E k => H Q E fun v s' a p => k v z s' a p
theorem Snd.stuck {α β : Type} {t : Sem α} {w : String} {P : Sit → Nat → β → α → Prop} : Snd c f kp A t (Mine.stuck (α := β) w st) P z st s := trivial
theorem Snd.wrap {α β : Type} {t t' : Sem α} {r : R β} {P : Sit → Nat → β → α → Prop} (W : ∀ (Q : α → Shared → Prop) (E : Value → Shared → Prop), wpAny (model c.prog c.w) A t Q E s → wpAny (model c.prog c.w) A t' Q E s) (h : Snd c f kp A t r P z st s) : Snd c f kp A t' r P z st s := by
  cases r with
  | stuck w => trivial
  | err cls fs st' => exact W _ _ h
  | ok x st' => exact W _ _ h
theorem Snd.operate {vs : List Value} {t : Sem Value} {r : R V} {P : Sit → Nat → V → Value → Prop} (h : Snd c f kp A t r P z st s) : Snd c f kp A (PySem.operate vs t) r P z st s :=
  Snd.wrap (fun _ _ x => wpAny_operate' x) h
theorem Snd.getO {α β : Type} {t : Sem α} {i : Nat} {k : O → M β} {P : Sit → Nat → β → α → Prop} (h : i < st.nxt → Snd c f kp A t (k (st.obj i) st) P z st s) : Snd c f kp A t (Mine.bind (Mine.getO i) k st) P z st s := by
  unfold Mine.bind Mine.getO
  by_cases q : i < st.nxt
  · rw [if_pos q]; exact h q
  · rw [if_neg q]; trivial
theorem Snd.ite {α β : Type} {t : Sem α} {b : Bool} {m m' : M β} {P : Sit → Nat → β → α → Prop} (h : b = true → Snd c f kp A t (m st) P z st s) (h' : b = false → Snd c f kp A t (m' st) P z st s) : Snd c f kp A t ((if b then m else m') st) P z st s := by
  cases b with
  | true => exact h rfl
  | false => exact h' rfl
theorem Snd.iteP {α β : Type} {t : Sem α} {b : Prop} [Decidable b] {m m' : M β} {P : Sit → Nat → β → α → Prop} (h : b → Snd c f kp A t (m st) P z st s) (h' : ¬ b → Snd c f kp A t (m' st) P z st s) : Snd c f kp A t ((if b then m else m') st) P z st s := by
  by_cases q : b
  · rw [if_pos q]; exact h q
  · rw [if_neg q]; exact h' q
theorem VR.inj_none {ρ n B v} (h : VR ρ n B .none v) : v = .none := by cases h; rfl
theorem VR.inj_int {ρ n B i v} (h : VR ρ n B (.int i) v) : ∃ t, v = .int i t := by cases h; exact ⟨_, rfl⟩
theorem VR.inj_str {ρ n B i v} (h : VR ρ n B (.str i) v) : ∃ t, v = .str i t := by cases h; exact ⟨_, rfl⟩
theorem VR.inj_bytes {ρ n B i v} (h : VR ρ n B (.bytes i) v) : ∃ t, v = .bytes i.toArray t := by cases h; exact ⟨_, rfl⟩
theorem VR.inj_bool {ρ n B i v} (h : VR ρ n B (.bool i) v) : v = .bool i := by cases h; rfl
theorem VR.inj_ref {ρ n B i v} (h : VR ρ n B (.ref i) v) : v = .ref (ρ i) ∧ i < n := by cases h; exact ⟨rfl, by assumption⟩
theorem VR.inj_old {ρ n B a v} (h : VR ρ n B (.old a) v) : v = .ref a := by cases h; rfl
theorem VR.inj_type {ρ n B a v} (h : VR ρ n B (.type a) v) : v = .type a := by cases h; rfl
theorem VR.inj_bi {ρ n B a v} (h : VR ρ n B (.bi a) v) : v = .builtin a := by cases h; rfl
theorem intMulOk {a b : Int} (ha : small a = true) (hb : small b = true) : IntMulOk a b := by
  have h1 : a.natAbs < 2 ^ 64 := by simpa [small] using ha
  have h2 : b.natAbs < 2 ^ 64 := by simpa [small] using hb
  mul_fits
theorem get?_size (h : Heap) : h.get? h.objs.size = none := by
  cases e : h.get? h.objs.size with
  | none => rfl
  | some o => exact absurd (Heap.lt_size e) (Nat.lt_irrefl _)
theorem Rel.push {ob : Obj} {o : O} (h : Rel c f kp z st s) (hf : ob.isFreed = false) (h2 : two o = false)
    (hl : (s.heap.push ob).get? s.heap.objs.size = some ob → Lay c.prog c.w (setN z.ρ st.nxt s.heap.objs.size) (st.nxt + 1) c.B (s.heap.push ob) s.heap.objs.size s.heap.objs.size o) :
    After c f kp z st s (z.put st.nxt s.heap.objs.size s.heap.objs.size) (st.new o) { s with heap := s.heap.push ob } :=
  Rel.alloc h (fun b ob' e => Heap.get?_push_of_some ob e) ⟨get?_size _, by rw [Heap.get?_push_size _ hf]; rfl⟩ ⟨get?_size _, by rw [Heap.get?_push_size _ hf]; rfl⟩ (fun e => by rw [h2] at e; cases e) (hl (Heap.get?_push_size _ hf))
theorem VRs.up {xs : List V} {vs : List Value} {a : Addr} {B : Heap} {n : Nat} {ρ : Nat → Addr} (hv : VRs ρ n B xs vs) : VRs (setN ρ n a) (n + 1) B xs vs := hv.mono (Nat.le_succ _) fun _ hi => setN_lt hi
theorem VR.new {a d : Addr} : VR (z.put st.nxt a d).ρ (st.nxt + 1) c.B (.ref st.nxt) (.ref a) := by
  have : VR (z.put st.nxt a d).ρ (st.nxt + 1) c.B (.ref st.nxt) (.ref ((z.put st.nxt a d).ρ st.nxt)) := .ref _ (Nat.lt_succ_self _)
  rwa [show (z.put st.nxt a d).ρ st.nxt = a from setN_self] at this
theorem Snd.newList {xs : List V} {vs : List Value} (h : Rel c f kp z st s) (hv : VRs z.ρ st.nxt c.B xs vs) : Snd c f kp A (PySem.newList vs) (mkList xs st) (VP c.B) z st s := by
  unfold mkList szOk
  refine Snd.ite (fun q => ?_) fun _ => Snd.stuck
  have q := of_decide_eq_true q
  refine Snd.of fun Q E k => wpAny_newList ?_ (by rw [← hv.length]; exact q)
  exact k _ _ _ (Rel.push (o := .list xs) h rfl rfl fun e => ⟨_, _, e, by simpa using hv.up⟩) VR.new
theorem Snd.newTuple {xs : List V} {vs : List Value} (h : Rel c f kp z st s) (hv : VRs z.ρ st.nxt c.B xs vs) : Snd c f kp A (PySem.newTuple vs) (mkTup xs st) (VP c.B) z st s := by
  unfold mkTup szOk
  refine Snd.ite (fun q => ?_) fun _ => Snd.stuck
  have q := of_decide_eq_true q
  refine Snd.of fun Q E k => wpAny_newTuple ?_ (by rw [← hv.length]; exact q)
  exact k _ _ _ (Rel.push (o := .tup xs) h rfl rfl fun e => ⟨_, e, by simpa using hv.up⟩) VR.new
theorem Snd.int {t : Sem Value} {i : Int} (h : Rel c f kp z st s) (H : ∀ (Q : Value → Shared → Prop) (E : Value → Shared → Prop), Q (.int i s.toks) { s with toks := s.toks + 1 } → wpAny (model c.prog c.w) A t Q E s) : Snd c f kp A t (ret (.int i) st) (VP c.B) z st s :=
  Snd.same fun Q E k => H Q E (k _ _ (After.tok h _) (.int _ _))
theorem binI_sound (h : Rel c f kp z st s) (op : Operator) (a b : Int) (t u : Tok) : Snd c f kp A (binaryOp op (.int a t) (.int b u)) (binI op a b st) (VP c.B) z st s := by
  cases op <;> unfold binI <;> dsimp only <;> try exact Snd.stuck
  · exact Snd.int h fun Q E k => add_int k
  · exact Snd.int h fun Q E k => sub_int k
  · refine Snd.ite (fun q => ?_) fun _ => Snd.stuck
    rw [Bool.and_eq_true] at q
    exact Snd.int h fun Q E k => mul_int k (intMulOk q.1 q.2)
  · refine Snd.ite (fun q => ?_) fun _ => Snd.stuck
    exact Snd.int h fun Q E k => mod_int (by simpa using q) k
  · refine Snd.ite (fun q => ?_) fun _ => Snd.stuck
    rw [Bool.and_eq_true, Bool.and_eq_true] at q
    exact Snd.int h fun Q E k => lshift_int_small (of_decide_eq_true q.1.1) (of_decide_eq_true q.1.2) (by simpa [small] using q.2) k
  · refine Snd.ite (fun q => ?_) fun _ => Snd.stuck
    exact Snd.int h fun Q E k => rshift_int (of_decide_eq_true q) k
  · exact Snd.int h fun Q E k => or_int k
  · exact Snd.int h fun Q E k => and_int k
  · refine Snd.ite (fun q => ?_) fun _ => Snd.stuck
    rw [Bool.and_eq_true] at q
    exact Snd.int h fun Q E k => floordiv_int (by simpa using q.1) k (Or.inl (PyProof.noPylong_small (of_decide_eq_true q.2)))
theorem inplI_sound (h : Rel c f kp z st s) (op : Operator) (a b : Int) (t u : Tok) : Snd c f kp A (inplaceOp op (.int a t) (.int b u)) (binI op a b st) (VP c.B) z st s := by
  cases op <;> unfold binI <;> dsimp only <;> try exact Snd.stuck
  · exact Snd.int h fun Q E k => iadd_int k
  · exact Snd.int h fun Q E k => isub_int k
  · refine Snd.ite (fun q => ?_) fun _ => Snd.stuck
    rw [Bool.and_eq_true] at q
    exact Snd.int h fun Q E k => imul_int k (intMulOk q.1 q.2)
  · refine Snd.ite (fun q => ?_) fun _ => Snd.stuck
    exact Snd.int h fun Q E k => imod_int (by simpa using q) k
  · refine Snd.ite (fun q => ?_) fun _ => Snd.stuck
    rw [Bool.and_eq_true, Bool.and_eq_true] at q
    exact Snd.int h fun Q E k => ilshift_int_small (of_decide_eq_true q.1.1) (of_decide_eq_true q.1.2) (by simpa [small] using q.2) k
  · refine Snd.ite (fun q => ?_) fun _ => Snd.stuck
    exact Snd.int h fun Q E k => irshift_int (of_decide_eq_true q) k
  · exact Snd.int h fun Q E k => ior_int k
  · exact Snd.int h fun Q E k => iand_int k
  · refine Snd.ite (fun q => ?_) fun _ => Snd.stuck
    rw [Bool.and_eq_true] at q
    exact Snd.int h fun Q E k => ifloordiv_int (by simpa using q.1) k (Or.inl (PyProof.noPylong_small (of_decide_eq_true q.2)))
end
end Mine
namespace Mine
open PySem PySem.W PySem.Calls PyProof.Rows
section
variable {c : Cx} {f : Fm} {kp : List Addr} {A : Around} {z : Sit} {st : St} {s : Shared}
theorem Rel.lst (h : Rel c f kp z st s) {i : Nat} {xs : List V} (hi : i < st.nxt) (e : st.obj i = .list xs) : ∃ vs ep, s.heap.get? (z.ρ i) = some (listO vs ep) ∧ VRs z.ρ st.nxt c.B xs vs.toList := by
  have := h.objs i hi
  rw [e] at this
  exact this
theorem Rel.tpl (h : Rel c f kp z st s) {i : Nat} {xs : List V} (hi : i < st.nxt) (e : st.obj i = .tup xs) : ∃ vs, s.heap.get? (z.ρ i) = some (tupO vs) ∧ VRs z.ρ st.nxt c.B xs vs.toList := by
  have := h.objs i hi
  rw [e] at this
  exact this
theorem VRs.size {ρ n B xs} {vs : Array Value} (h : VRs ρ n B xs vs.toList) : vs.size = xs.length := by rw [h.length]; simp
theorem repl_flat {α : Type} (l : List α) : ∀ n, (List.replicate n l).flatten = repl n l
  | 0 => rfl
  | n + 1 => by rw [List.replicate_succ, List.flatten_cons, repl_flat l n]; rfl
theorem VRs.repl {ρ n B xs vs} (h : VRs ρ n B xs vs) : ∀ k, VRs ρ n B (repl k xs) (repl k vs)
  | 0 => .nil
  | k + 1 => h.append (h.repl k)
theorem repl_length {α : Type} (l : List α) : ∀ n, (repl n l).length = n * l.length
  | 0 => by simp [repl]
  | n + 1 => by simp [repl, repl_length l n, Nat.succ_mul, Nat.add_comm]
theorem joined_list (xs : List Value) : ∀ (k : Nat) (acc : List Value), List.foldl (fun x1 x2 => x1 ++ x2) acc.toArray (List.replicate k xs.toArray) = (acc ++ repl k xs).toArray
  | 0, acc => by simp [repl]
  | k + 1, acc => by
    rw [List.replicate_succ, List.foldl_cons, List.append_toArray, joined_list xs k]
    simp [repl]
theorem addL_sound (h : Rel c f kp z st s) {i j : Nat} {xs ys : List V} (hi : i < st.nxt) (hj : j < st.nxt) (ei : st.obj i = .list xs) (ej : st.obj j = .list ys) :
    Snd c f kp A (binaryOp .Add (.ref (z.ρ i)) (.ref (z.ρ j))) (mkList (xs ++ ys) st) (VP c.B) z st s := by
  obtain ⟨vs, ep, e1, r1⟩ := h.lst hi ei
  obtain ⟨ws, ep', e2, r2⟩ := h.lst hj ej
  unfold mkList szOk
  refine Snd.ite (fun q => ?_) fun _ => Snd.stuck
  have q := of_decide_eq_true q
  have r := r1.append r2
  refine Snd.of fun Q E k => PySem.P.add_list e1 e2 ?_ (by rw [r1.size, r2.size, ← List.length_append]; exact q)
  exact k _ _ _ (Rel.push (o := .list (xs ++ ys)) (ob := listO (vs ++ ws) 0) h rfl rfl fun e => ⟨_, _, e, by rw [Array.toList_append]; exact VRs.up r⟩) VR.new
theorem mulL_sound (h : Rel c f kp z st s) {i : Nat} {xs : List V} {n : Int} {t : Tok} (hi : i < st.nxt) (ei : st.obj i = .list xs) :
    Snd c f kp A (binaryOp .Mult (.ref (z.ρ i)) (.int n t)) ((if nearI n then mkList (repl n.toNat xs) else Mine.stuck "list op") st) (VP c.B) z st s := by
  obtain ⟨vs, ep, e1, r1⟩ := h.lst hi ei
  refine Snd.ite (fun qn => ?_) fun _ => Snd.stuck
  unfold nearI at qn
  rw [Bool.and_eq_true] at qn
  have qn1 := of_decide_eq_true qn.1
  have qn2 := of_decide_eq_true qn.2
  unfold mkList szOk
  refine Snd.ite (fun q => ?_) fun _ => Snd.stuck
  have q := of_decide_eq_true q
  rw [repl_length] at q
  refine Snd.of fun Q E k => ?_
  have hsz : vs.size * n.toNat ≤ 2 ^ 24 := by rw [r1.size, Nat.mul_comm]; exact q
  refine wpAny_binaryOp_repeat_ref (T := "list") (U := "int") (by decide) ⟨_, e1, rfl⟩ (fun s' => typeIs_int s' n t) noFill_list_mul F.fills_int_mul F.slot_int_rmul repeat_list F.slot_int_index.lookup
    (call_meets F.slot_int_rmul (typeIs_int s n t) F.entry_int_rmul (F.args_int_rmul_2 _ _) (int___rmul___int_list n t _ vs ep)
      ⟨e1, rfl, ⟨_, e1, rfl⟩, call_meets F.slot_list_mul ⟨_, e1, rfl⟩ F.entry_list_mul (F.args_list_mul_2 _ _)
        (AutoListH.list___mul___list_int_3 _ vs ep n t (by simp [Builtin.List.listFitsIndex]; omega) (by omega) (by simp [Builtin.List.listTooLong, sizeLine]; omega))
        ⟨e1, ?_⟩⟩)
  refine k _ _ _ (Rel.push (o := .list (repl n.toNat xs)) (ob := listO (List.foldl (fun x1 x2 => x1 ++ x2) #[] (List.replicate (if vs.isEmpty = true then 0 else n.toNat) vs)) 0) h rfl rfl fun e => ⟨_, _, e, ?_⟩) VR.new
  have key : (List.foldl (fun x1 x2 => x1 ++ x2) #[] (List.replicate (if vs.isEmpty = true then 0 else n.toNat) vs)).toList = repl n.toNat vs.toList := by
    by_cases hv : vs.isEmpty = true
    · rw [if_pos hv]
      have : vs.toList = [] := by simpa using hv
      rw [this, ← repl_flat]
      simp
    · rw [if_neg hv]
      have := joined_list vs.toList n.toNat []
      simp only [List.nil_append] at this
      show (List.foldl _ ([] : List Value).toArray (List.replicate n.toNat vs)).toList = _
      rw [show vs = vs.toList.toArray by simp, this]
  rw [key]
  exact (r1.repl _).up
theorem seq_list_iadd : seqSlot? (.type "list") (dunderI "add") = pure (some (.builtin "list.__iadd__")) := PySem.seqSlot_of F.slot_list_iadd.lookup (by decide +kernel)
theorem iaddL_sound (h : Rel c f kp z st s) {i j : Nat} {xs ys : List V} (hi : i < st.nxt) (hj : j < st.nxt) (ei : st.obj i = .list xs) (ej : st.obj j = .list ys) :
    Snd c f kp A (inplaceOp .Add (.ref (z.ρ i)) (.ref (z.ρ j))) ((if szOk (xs ++ ys).length && decide (i ≠ j) then Mine.bind (setO i (.list (xs ++ ys))) fun _ => ret (.ref i) else Mine.stuck "list op=") st) (VP c.B) z st s := by
  obtain ⟨vs, ep, e1, r1⟩ := h.lst hi ei
  obtain ⟨ws, ep', e2, r2⟩ := h.lst hj ej
  unfold szOk
  refine Snd.ite (fun q => ?_) fun _ => Snd.stuck
  rw [Bool.and_eq_true] at q
  have q1 := of_decide_eq_true q.1
  have r := r1.append r2
  have hsz : vs.size + ws.size ≤ 16777216 := by rw [r1.size, r2.size, ← List.length_append]; exact q1
  refine Snd.of fun Q E k => ?_
  unfold inplaceOp
  refine wpAny_holding ?_
  have hfi : fillsInplaceSlot (.type "list") "add" (Operator.Add == .Add) = pure false := by
    unfold fillsInplaceSlot
    show (typeLookup (.type "list") (dunderI "add") >>= fun fi => pure (fi.isSome && !isSeqSlot fi)) = pure false
    rw [F.slot_list_iadd.lookup]; rfl
  refine wpAny_bind (wpAny_typeOf ⟨_, e1, rfl⟩ (wpAny_bind (wpAny_of_eq hfi ?_)))
  show wpAny _ A (if false = true then _ else _) Q E s
  rw [if_neg Bool.false_ne_true]
  refine wpAny_bind (wpAny_binaryOp1_none (nm := "add") (T := "list") ⟨_, e1, rfl⟩ ⟨_, e2, rfl⟩ noFill_list_add ?_)
  refine wpAny_bind (wpAny_of_eq seq_list_iadd ?_)
  refine wpAny_bind (wpAny_rule ?_)
  refine call_meets F.slot_list_iadd ⟨_, e1, rfl⟩ F.entry_list_iadd (F.args_list_iadd_2 _ _) (AutoSeq1.list___iadd___list_list_0 _ vs ep _ ws ep' (by simp [Builtin.List.listTooLong, sizeLine]; omega) (by simp [sizeLine]; omega) (by simp [sizeLine]; omega)) ⟨e1, e2, ?_⟩
  refine k _ _ _ (Rel.turn h hi (.inl rfl) (Heap.SameBut.update ..) (by rw [Heap.get?_update_self _ e1 rfl]; rfl) (fun e => by cases e) ⟨_, _, Heap.get?_update_self _ e1 rfl, ?_⟩) (.ref i hi)
  rw [Array.toList_append]; exact r
theorem addB_sound (h : Rel c f kp z st s) {x y : List UInt8} {t u : Tok} : Snd c f kp A (binaryOp .Add (.bytes x.toArray t) (.bytes y.toArray u)) (mkBytes (x ++ y) st) (VP c.B) z st s := by
  unfold mkBytes szOk
  refine Snd.ite (fun q => ?_) fun _ => Snd.stuck
  have q := of_decide_eq_true q
  rw [List.length_append] at q
  refine Snd.same fun Q E k => KBy.add_bytes (by simpa using q) fun t' k' => ?_
  rw [List.append_toArray]
  exact k _ _ (After.tok h _) (.bytes _ _)
theorem mulB_sound (h : Rel c f kp z st s) {x : List UInt8} {n : Int} {t u : Tok} : Snd c f kp A (binaryOp .Mult (.bytes x.toArray t) (.int n u)) ((if nearI n && !x.isEmpty && decide (x.length ≤ 16) then ret (.bytes (repl n.toNat x)) else Mine.stuck "bytes op") st) (VP c.B) z st s := by
  refine Snd.ite (fun q => ?_) fun _ => Snd.stuck
  unfold nearI at q
  simp only [Bool.and_eq_true, decide_eq_true_eq, Bool.not_eq_true'] at q
  refine Snd.same fun Q E k => bytes_mul_any (by intro e; simp [e] at q) q.1.1.1 q.1.1.2 q.2 fun t' k' => ?_
  rw [repl_flat]
  exact k _ _ (After.tok h _) (.bytes _ _)
theorem binV_sound (h : Rel c f kp z st s) (op : Operator) {a b : V} {x y : Value} (ha : VR z.ρ st.nxt c.B a x) (hb : VR z.ρ st.nxt c.B b y) : Snd c f kp A (binaryOp op x y) (binV op a b st) (VP c.B) z st s := by
  unfold binV
  split
  · obtain ⟨t, rfl⟩ := ha.inj_int
    obtain ⟨u, rfl⟩ := hb.inj_int
    exact binI_sound h op _ _ _ _
  · obtain ⟨t, rfl⟩ := ha.inj_bytes
    obtain ⟨u, rfl⟩ := hb.inj_bytes
    cases op <;> first | exact Snd.stuck | exact addB_sound h
  · obtain ⟨t, rfl⟩ := ha.inj_bytes
    obtain ⟨u, rfl⟩ := hb.inj_int
    cases op <;> first | exact Snd.stuck | exact mulB_sound h
  · obtain ⟨rfl, hi⟩ := ha.inj_ref
    obtain ⟨rfl, hj⟩ := hb.inj_ref
    cases op <;> try exact Snd.stuck
    refine Snd.getO fun hi => Snd.getO fun hj => ?_
    cases ei : st.obj _ <;> try exact Snd.stuck
    cases ej : st.obj _ <;> try exact Snd.stuck
    exact addL_sound h hi hj ei ej
  · obtain ⟨rfl, hi⟩ := ha.inj_ref
    obtain ⟨u, rfl⟩ := hb.inj_int
    cases op <;> try exact Snd.stuck
    refine Snd.getO fun hi => ?_
    cases ei : st.obj _ <;> try exact Snd.stuck
    exact mulL_sound h hi ei
  · exact Snd.stuck
theorem noI_bytes_add : typeLookup (.type "bytes") (dunderI "add") = pure none := by rw [typeLookup_type, builtinLookup_eq_fast]; kernel_rfl
theorem iaddB_sound (h : Rel c f kp z st s) {x y : List UInt8} {t u : Tok} : Snd c f kp A (inplaceOp .Add (.bytes x.toArray t) (.bytes y.toArray u)) (mkBytes (x ++ y) st) (VP c.B) z st s := by
  unfold mkBytes szOk
  refine Snd.ite (fun q => ?_) fun _ => Snd.stuck
  have q := of_decide_eq_true q
  rw [List.length_append] at q
  have hsz : x.toArray.size + y.toArray.size ≤ 16777216 := by simpa using q
  refine Snd.same fun Q E k => iconcat_gives (typeIs_bytes s _ t) (typeIs_bytes s _ u) noI_bytes_add KBy.noFill_bytes_add KBy.seq_bytes_add FB.slot_bytes_add FB.entry_bytes_add (FB.args_bytes_add_2 _ _) (KBy.gives_bytes_add (KBy.tooLong_not hsz)) ?_
  have fin : ∀ t' k', Q (.bytes (x ++ y).toArray t') { s with toks := k' } := fun t' k' => k _ _ (After.tok h _) (.bytes _ _)
  cases x with
  | nil => exact fin u s.toks
  | cons a x =>
    cases y with
    | nil => have := fin t s.toks
             rw [List.append_nil] at this
             exact this
    | cons b y => exact ⟨by rw [sizeLine_eq, Array.size_append]; exact hsz, by rw [List.append_toArray]; exact fin _ _⟩
theorem inplV_sound (h : Rel c f kp z st s) (op : Operator) {a b : V} {x y : Value} (ha : VR z.ρ st.nxt c.B a x) (hb : VR z.ρ st.nxt c.B b y) : Snd c f kp A (inplaceOp op x y) (inplV op a b st) (VP c.B) z st s := by
  unfold inplV
  split
  · obtain ⟨rfl, hi⟩ := ha.inj_ref
    obtain ⟨rfl, hj⟩ := hb.inj_ref
    cases op <;> try exact Snd.stuck
    refine Snd.getO fun hi => Snd.getO fun hj => ?_
    cases ei : st.obj _ <;> try exact Snd.stuck
    cases ej : st.obj _ <;> try exact Snd.stuck
    exact iaddL_sound h hi hj ei ej
  · obtain ⟨t, rfl⟩ := ha.inj_int
    obtain ⟨u, rfl⟩ := hb.inj_int
    exact inplI_sound h op _ _ _ _
  · obtain ⟨t, rfl⟩ := ha.inj_bytes
    obtain ⟨u, rfl⟩ := hb.inj_bytes
    cases op <;> first | exact Snd.stuck | exact iaddB_sound h
  · exact Snd.stuck
theorem truthV_sound (h : Rel c f kp z st s) {a : V} {x : Value} (ha : VR z.ρ st.nxt c.B a x) : Snd c f kp A (truthy x) (truthV a st) EqP z st s := by
  cases a with
  | none => rw [ha.inj_none]; exact Snd.same fun Q E k => truthy_none (k _ _ (After.refl h) rfl)
  | bool b => rw [ha.inj_bool]; exact Snd.same fun Q E k => wpAny_truthy_bool (k _ _ (After.refl h) rfl)
  | int i => obtain ⟨t, rfl⟩ := ha.inj_int; exact Snd.same fun Q E k => truthy_int (k _ _ (After.refl h) rfl)
  | bytes b =>
    obtain ⟨t, rfl⟩ := ha.inj_bytes
    refine Snd.ite (fun q => ?_) fun _ => Snd.stuck
    unfold szOk at q
    refine Snd.same fun Q E k => truthy_bytes (by have := of_decide_eq_true q; simp; omega) (k _ _ (After.tok h _) ?_)
    show ((b.toArray.size : Int) != 0) = !b.isEmpty
    cases b with
    | nil => rfl
    | cons x y =>
      show (((x :: y).toArray.size : Int) != 0) = true
      simp
      omega
  | ref i =>
    obtain ⟨rfl, hi⟩ := ha.inj_ref
    refine Snd.getO fun hi => ?_
    cases ei : st.obj i <;> try exact Snd.stuck
    rename_i xs
    obtain ⟨vs, ep, e1, r1⟩ := h.lst hi ei
    refine Snd.ite (fun q => ?_) fun _ => Snd.stuck
    unfold szOk at q
    have q := of_decide_eq_true q
    refine Snd.same fun Q E k => wpAny_truthy_list ⟨_, e1, rfl, ep, rfl⟩ (by rw [r1.size]; omega) (k _ _ (After.tok h _) ?_)
    show (!vs.isEmpty) = !xs.isEmpty
    have := r1.size
    cases xs with
    | nil =>
      have : vs = #[] := Array.eq_empty_of_size_eq_zero this
      subst this; rfl
    | cons a b =>
      cases hv : vs.isEmpty with
      | true => rw [Array.isEmpty_iff_size_eq_zero] at hv; rw [hv] at this; cases this
      | false => rfl
  | _ => exact Snd.stuck
end
end Mine
namespace Mine
open PySem PySem.W PySem.Calls PyProof.Rows PySem.Spec
section
variable {c : Cx} {f : Fm} {kp : List Addr} {A : Around} {z : Sit} {st : St} {s : Shared}
theorem Reads.lay {n : Nat} {d : PyData} (h : d.canLay0 = true ∧ d.depth ≤ n) (hn : n ≤ 64) : SeqAt.shaped d = true := by
  unfold SeqAt.shaped; rw [h.1, Bool.true_and]; exact decide_eq_true (Nat.le_trans h.2 hn)
mutual
theorem datV_sound (h : Rel c f kp z st s) : ∀ (n : Nat) {a : V} {x : Value} {d : PyData}, VR z.ρ st.nxt c.B a x → datV st.obj st.nxt n a = some d → (∃ as, Reads s.heap x d as) ∧ d.canLay0 = true ∧ d.depth ≤ n
  | n, .none, x, d, ha, e => by
    have := ha.inj_none
    subst this
    have : d = .none := by cases n <;> (simp [datV] at e; exact e.symm)
    subst this
    exact ⟨⟨_, .none⟩, rfl, Nat.zero_le _⟩
  | n, .int i, x, d, ha, e => by
    obtain ⟨t, rfl⟩ := ha.inj_int
    have : d = .int i := by cases n <;> (simp [datV] at e; exact e.symm)
    subst this
    exact ⟨⟨_, .int _ _⟩, rfl, Nat.zero_le _⟩
  | n + 1, .ref i, x, d, ha, e => by
    obtain ⟨rfl, hi⟩ := ha.inj_ref
    simp only [datV, if_pos hi] at e
    cases ei : st.obj i with
    | list xs =>
      rw [ei] at e
      cases ed : datL st.obj st.nxt n xs with
      | none => simp [ed] at e
      | some ds =>
        simp [ed] at e
        subst e
        obtain ⟨vs, ep, e1, r1⟩ := h.lst hi ei
        obtain ⟨⟨as, ra⟩, hl⟩ := datL_sound h n r1 ed
        refine ⟨⟨_, .list e1 rfl rfl ra⟩, ?_⟩
        simp only [PyData.canLay0, PyData.depth]
        exact ⟨hl.1, by have := hl.2; omega⟩
    | _ => rw [ei] at e; simp at e
  | 0, .ref i, x, d, ha, e => by simp [datV] at e
  | n, .bool b, x, d, ha, e => by cases n <;> simp [datV] at e
  | n, .str b, x, d, ha, e => by cases n <;> simp [datV] at e
  | n, .bytes b, x, d, ha, e => by cases n <;> simp [datV] at e
  | n, .type b, x, d, ha, e => by cases n <;> simp [datV] at e
  | n, .bi b, x, d, ha, e => by cases n <;> simp [datV] at e
  | n, .old b, x, d, ha, e => by cases n <;> simp [datV] at e
theorem datL_sound (h : Rel c f kp z st s) : ∀ (n : Nat) {xs : List V} {vs : List Value} {ds : List PyData}, VRs z.ρ st.nxt c.B xs vs → datL st.obj st.nxt n xs = some ds → (∃ as, ReadsAll s.heap vs ds as) ∧ PyData.canLayAll0 ds = true ∧ PyData.depthAll ds ≤ n
  | n, [], vs, ds, hv, e => by
    cases hv
    have : ds = [] := by cases n <;> (simp [datL] at e; exact e)
    subst this
    exact ⟨⟨_, .nil⟩, rfl, Nat.zero_le _⟩
  | n, x :: r, _, ds, .cons hx hr, e => by
    rw [datL] at e
    cases e1 : datV st.obj st.nxt n x with
    | none => simp [e1] at e
    | some d =>
      cases e2 : datL st.obj st.nxt n r with
      | none => simp [e1, e2] at e
      | some dr =>
        simp [e1, e2] at e
        subst e
        obtain ⟨⟨as, ra⟩, la⟩ := datV_sound h n hx e1
        obtain ⟨⟨bs, rb⟩, lb⟩ := datL_sound h n hr e2
        refine ⟨⟨_, .cons ra rb⟩, ?_⟩
        simp only [PyData.canLayAll0, PyData.depthAll, Bool.and_eq_true]
        exact ⟨⟨la.1, lb.1⟩, by have := la.2; have := lb.2; omega⟩
end
theorem Snd.bool {t : Sem Value} {b : Bool} (h : Rel c f kp z st s) (H : ∀ (Q : Value → Shared → Prop) (E : Value → Shared → Prop), Q (.bool b) s → wpAny (model c.prog c.w) A t Q E s) : Snd c f kp A t (ret (.bool b) st) (VP c.B) z st s :=
  Snd.same fun Q E k => H Q E (k _ _ (After.refl h) (.bool _))
theorem eqV_sound (h : Rel c f kp z st s) (hu : A.units ≤ 9000) {a b : V} {x y : Value} {r : Bool} (ha : VR z.ρ st.nxt c.B a x) (hb : VR z.ρ st.nxt c.B b y) (e : eqV st.obj st.nxt a b = some r) (Q : Value → Shared → Prop) (E : Value → Shared → Prop) :
    (Q (.bool r) s → wpAny (model c.prog c.w) A (compareOp .Eq x y) Q E s) ∧ (Q (.bool (!r)) s → wpAny (model c.prog c.w) A (compareOp .NotEq x y) Q E s) := by
  have hu' : A.units + 64 < cLine := Nat.lt_of_le_of_lt (Nat.add_le_add_right hu 64) (by decide)
  unfold eqV at e
  split at e
  · rw [ha.inj_bool, hb.inj_bool]; cases e
    exact ⟨fun k => eq_bool k, fun k => ne_bool k⟩
  · obtain ⟨t, rfl⟩ := ha.inj_int
    obtain ⟨u, rfl⟩ := hb.inj_int
    cases e
    exact ⟨fun k => eq_int k, fun k => ne_int k⟩
  · obtain ⟨t, rfl⟩ := ha.inj_bytes
    obtain ⟨u, rfl⟩ := hb.inj_bytes
    cases e
    exact ⟨fun k => eq_bytes (by simpa using k), fun k => ne_bytes (by simpa [bne] using k)⟩
  · rename_i i j
    cases e1 : datV st.obj st.nxt 6 (.ref i) with
    | none => simp [e1] at e
    | some d =>
      cases e2 : datV st.obj st.nxt 6 (.ref j) with
      | none => simp [e1, e2] at e
      | some d' =>
        simp [e1, e2] at e
        subst e
        obtain ⟨⟨as, ra⟩, la⟩ := datV_sound h 6 ha e1
        obtain ⟨⟨bs, rb⟩, lb⟩ := datV_sound h 6 hb e2
        exact ⟨fun k => eq_dataH ra rb (Reads.lay la (by decide)) (Reads.lay lb (by decide)) hu' k, fun k => ne_dataH ra rb (Reads.lay la (by decide)) (Reads.lay lb (by decide)) hu' k⟩
  · cases e
theorem isV_sound {a b : V} {x y : Value} {r : Bool} (ha : VR z.ρ st.nxt c.B a x) (hb : VR z.ρ st.nxt c.B b y) (e : isV a b = some r) : plainIs x y = true ∧ (x == y) = r := by
  unfold isV at e
  split at e <;> cases e
  · rw [ha.inj_none, hb.inj_none]; exact ⟨rfl, by simp⟩
  · rename_i p q
    rw [ha.inj_bool, hb.inj_bool]; refine ⟨rfl, ?_⟩; cases p <;> cases q <;> decide
  all_goals
    rw [hb.inj_none]
    cases ha <;> exact ⟨rfl, beq_false_of_ne (fun h => by cases h)⟩
theorem cmpI_sound (h : Rel c f kp z st s) {op : CmpOp} {g : Int → Int → Bool} (H : ∀ i j t u (Q : Value → Shared → Prop) (E : Value → Shared → Prop), Q (.bool (g i j)) s → wpAny (model c.prog c.w) A (compareOp op (.int i t) (.int j u)) Q E s)
    {a b : V} {x y : Value} (ha : VR z.ρ st.nxt c.B a x) (hb : VR z.ρ st.nxt c.B b y) : Snd c f kp A (compareOp op x y) (cmpI g a b st) (VP c.B) z st s := by
  unfold cmpI
  split
  · obtain ⟨t, rfl⟩ := ha.inj_int
    obtain ⟨u, rfl⟩ := hb.inj_int
    exact Snd.bool h fun Q E k => H _ _ _ _ Q E k
  · exact Snd.stuck
theorem cmpV_sound (h : Rel c f kp z st s) (hu : A.units ≤ 9000) (op : CmpOp) {a b : V} {x y : Value} (ha : VR z.ρ st.nxt c.B a x) (hb : VR z.ρ st.nxt c.B b y) : Snd c f kp A (compareOp op x y) (cmpV op a b st) (VP c.B) z st s := by
  unfold cmpV
  cases op <;> dsimp only <;> try exact Snd.stuck
  · cases e : eqV st.obj st.nxt a b with
    | none => exact Snd.stuck
    | some r => exact Snd.bool h fun Q E k => (eqV_sound h hu ha hb e Q E).1 k
  · cases e : eqV st.obj st.nxt a b with
    | none => exact Snd.stuck
    | some r => exact Snd.bool h fun Q E k => (eqV_sound h hu ha hb e Q E).2 k
  · exact cmpI_sound h (fun _ _ _ _ _ _ k => lt_int k) ha hb
  · exact cmpI_sound h (fun _ _ _ _ _ _ k => le_int k) ha hb
  · exact cmpI_sound h (fun _ _ _ _ _ _ k => gt_int k) ha hb
  · exact cmpI_sound h (fun _ _ _ _ _ _ k => ge_int k) ha hb
  · cases e : isV a b with
    | none => exact Snd.stuck
    | some r => exact Snd.bool h fun Q E k => wpAny_is_plain (isV_sound ha hb e).1 (by rw [(isV_sound ha hb e).2]; exact k)
  · cases e : isV a b with
    | none => exact Snd.stuck
    | some r => exact Snd.bool h fun Q E k => wpAny_isNot_plain (isV_sound ha hb e).1 (by rw [(isV_sound ha hb e).2]; exact k)
theorem unV_sound (h : Rel c f kp z st s) (op : UnaryOp) {a : V} {x : Value} (ha : VR z.ρ st.nxt c.B a x) : Snd c f kp A (unaryOp op x) (unV op a st) (VP c.B) z st s := by
  unfold unV
  split
  · obtain ⟨t, rfl⟩ := ha.inj_int
    exact Snd.int h fun Q E k => neg_int k
  · have := truthV_sound (A := A) h ha
    unfold Mine.bind
    cases e : truthV a st with
    | stuck w => trivial
    | err cls fs st' =>
      rw [e] at this
      exact not_of (wpAny_mono this (fun _ _ h => h.elim) fun _ _ h => h)
    | ok b st' =>
      rw [e] at this
      refine not_of (wpAny_mono this (fun v s' ⟨z', a, p⟩ => ⟨z', a, ?_⟩) fun _ _ h => h)
      cases p
      exact .bool _
  · exact Snd.stuck
end
end Mine
namespace Mine
open PySem PySem.W PySem.Calls PyProof.Rows
def constV : Const → M V
  | .none => ret .none
  | .bool b => ret (.bool b)
  | .int i => ret (.int i)
  | .str s => if s.length ≤ 65536 then ret (.str s) else stuck "long text"
  | .bytes b => if b.length ≤ 65536 then ret (.bytes b) else stuck "long bytes"
  | _ => stuck "constant"
def nameV (K : Frag) (x : Str) : M V := fun s => if nid x = 0 then .stuck "name" else match look (nid x) s.loc with
  | some (.val v) => .ok v s
  | some .glob => (match globV K x with
    | some v => .ok v s
    | Option.none => .stuck "global")
  | some (.cell i _) => (match s.obj i with
    | .cell (some v) => .ok v s
    | _ => .stuck "empty cell")
  | _ => .stuck "unbound or unknown name"
section
variable (K : Frag) (p : Ev)
def nameE (x : Str) : M V := if x == ("__debug__" : Str) then stuck "__debug__" else nameV K x
def binE (l : Expr) (op : Operator) (r : Expr) : M V := bind (p.expr l) fun a => bind (p.expr r) fun b => binV op a b
def unE (op : UnaryOp) (x : Expr) : M V := bind (p.expr x) fun a => unV op a
def ifE (c a b : Expr) : M V := bind (p.test c) fun t => if t then p.expr a else p.expr b
def cmpE (l : Expr) (ops : List CmpOp) (es : List Expr) : M V := bind (p.expr l) fun a => cmpChain p a ops es
def listE (es : List Expr) : M V := bind (evalL p es) fun vs => mkList vs
def tupE (es : List Expr) : M V := bind (evalL p es) fun vs => mkTup vs
def testE : Expr → M Bool
  | .UnaryOp .Not x _ => bind (p.test x) fun b => ret (!b)
  | .BoolOp op values _ => testAll p op values
  | .IfExp c a b _ => bind (p.test c) fun t => if t then p.test a else p.test b
  | .Compare l ops es _ => bind (p.expr l) fun a => testChain p a ops es
  | e => bind (p.expr e) fun v => truthV v
end
def KwR (B : Heap) (ρ : Nat → Addr) (n : Nat) : List (Str × V) → List (Str × Value) → Prop := All2 fun a b => b.1 = a.1 ∧ VR ρ n B a.2 b.2
def FlR (B : Heap) (z : Sit) (n : Nat) : Fl → Flow → Prop
  | .next, .next => True
  | .brk, .brk => True
  | .cont, .cont => True
  | .ret v, .ret x => VR z.ρ n B v x
  | _, _ => False
structure EOk (c : Cx) (p : Ev) (n : Nat) : Prop where
  expr : ∀ {f kp A z st s}, Rel c f kp z st s → AOk A f n st.md → ∀ e, Snd c f kp A (eval e f.env) (p.expr e st) (VP c.B) z st s
  test : ∀ {f kp A z st s}, Rel c f kp z st s → AOk A f n st.md → ∀ e, Snd c f kp A (isTrue e f.env (eval e f.env)) (p.test e st) EqP z st s
  stmt : ∀ {f kp A z st s}, Rel c f kp z st s → AOk A f n st.md → ∀ b, Snd c f kp A (exec b f.env) (p.stmt b st) (FlR c.B) z st s
  call : ∀ {f kp A z st s}, Rel c f kp z st s → AOk A f n st.md → ∀ {g gv args vs kw kws}, VR z.ρ st.nxt c.B g gv → VRs z.ρ st.nxt c.B args vs → KwR c.B z.ρ st.nxt kw kws → Snd c f kp A (PySem.call gv vs kws) (p.call g args kw st) (VP c.B) z st s
section
variable {c : Cx} {p : Ev} {n : Nat} {f : Fm} {kp : List Addr} {A : Around} {z : Sit} {st : St} {s : Shared}
theorem AOk.after {z' st' s'} (hA : AOk A f n st.md) (a : After c f kp z st s z' st' s') : AOk A f n st'.md := by rw [a.hd]; exact hA
theorem AOk.u (hA : AOk A f n st.md) : A.units ≤ 9000 := by have := hA.units; omega
theorem constV_sound (h : Rel c f kp z st s) (k : Const) : Snd c f kp A (constValue f.env k) (constV k st) (VP c.B) z st s := by
  unfold constV
  cases k <;> try exact Snd.stuck
  · exact Snd.same fun Q E k => wpAny_pure (k _ _ (After.refl h) .none)
  · exact Snd.same fun Q E k => wpAny_pure (k _ _ (After.refl h) (.bool _))
  · exact Snd.int h fun Q E k => wpAny_mkInt k
  · refine Snd.iteP (fun q => ?_) fun _ => Snd.stuck
    exact Snd.same fun Q E k => wpAny_mkText (k _ _ (After.tok h _) (.str _ _))
  · refine Snd.iteP (fun q => ?_) fun _ => Snd.stuck
    exact Snd.same fun Q E k => wpAny_mkTextBytes (k _ _ (After.tok h _) (.bytes _ _))
theorem vOf_sound (hc : c.Ok) {v : Value} {x : V} (e : vOf c.K v = some x) (ρ : Nat → Addr) (n : Nat) : VR ρ n c.B x v := by
  unfold vOf at e
  split at e <;> (try cases e)
  · exact .none
  · exact .bool _
  · exact .int _ _
  · exact .str _ _
  · rename_i b t
    have := VR.bytes (ρ := ρ) (n := n) (B := c.B) b.toList t
    simpa using this
  · exact .type _
  · exact .bi _
  · split at e <;> cases e
    rename_i q
    obtain ⟨o, ho⟩ := Option.isSome_iff_exists.mp q
    exact .old _ (by rw [hc.inK _ _ ho]; rfl)
theorem loadName_sound (hc : c.Ok) (h : Rel c f kp z st s) (hg : f.Good) (x : Str) : Snd c f kp A (loadName f.env x) (nameV c.K x st) (VP c.B) z st s := by
  unfold nameV
  by_cases hx : nid x = 0
  · rw [if_pos hx]; trivial
  rw [if_neg hx]
  obtain ⟨m, hn, hl⟩ := h.loc
  have hlx := hl x hx
  cases e : look (nid x) st.loc with
  | none => trivial
  | some sl =>
    rw [e] at hlx
    cases sl with
    | unset => trivial
    | cell i own =>
      obtain ⟨k, hi, hc', hn'⟩ := hlx
      show Snd c f kp A _ (match st.obj i with | .cell (some v) => R.ok v st | _ => R.stuck "empty cell") _ z st s
      have ho := h.objs i hi
      cases eo : st.obj i <;> try trivial
      rename_i cv
      rw [eo] at ho
      obtain ⟨u, hcell, hr⟩ := ho
      cases hr with
      | none => trivial
      | some hr =>
        refine Snd.of fun Q E k' => ?_
        cases own
        · exact wpAny_loadName_free hg.kind k hc' hcell (k' _ _ _ (After.refl h) hr) hn'
        · exact wpAny_loadName_cell hg.kind k hc' hcell (k' _ _ _ (After.refl h) hr)
    | val v =>
      obtain ⟨k, u, hm, r⟩ := hlx
      exact Snd.of fun Q E k' => wpAny_loadName_local hg.kind k hn hm (k' _ _ _ (After.refl h) r)
    | glob =>
      have hk : f.env.kindOf x = some .globalImplicit := hlx
      have road : ∀ (Q : Value → Shared → Prop) (E : Value → Shared → Prop), wpAny (model c.prog c.w) A (loadGlobal f.env x) Q E s → wpAny (model c.prog c.w) A (loadName f.env x) Q E s := by
        intro Q E k
        unfold loadName
        simp only [Env.blockKind, hg.kind, hk, ScopeKind.isAnnotationScope, Bool.false_and, Bool.false_eq_true, if_false]
        exact k
      have G : s.heap.Ns mainGlobals c.mg := hc.top.g.keeps h.base
      have Bn : s.heap.Ns builtinsNs c.mb := hc.top.b.keeps h.base
      show Snd c f kp A _ (match globV c.K x with | some v => R.ok v st | Option.none => R.stuck "global") _ z st s
      cases eg : globV c.K x with
      | none => trivial
      | some v =>
        refine Snd.of fun Q E k' => road Q E ?_
        unfold globV at eg
        split at eg
        · rename_i u e1
          exact loadGlobal_global (hg.glob ▸ G) (mg_of hc.inK hc.top.g e1) (k' _ _ _ (After.refl h) (vOf_sound hc eg _ _))
        · rename_i e1
          split at eg
          · cases eg
          · rename_i hne
            cases eb : bootBuiltins x with
            | none => rw [eb] at eg; cases eg
            | some u =>
              rw [eb] at eg
              exact loadGlobal_builtin (hg.glob ▸ G) (mg_none_of hc.inK hc.top.g e1) (hg.bi ▸ Bn) (by rw [hc.top.builtins x hne, eb]) (k' _ _ _ (After.refl h) (vOf_sound hc eg _ _))
        · cases eg
theorem nameE_sound (hc : c.Ok) (h : Rel c f kp z st s) (hA : AOk A f n st.md) (x : Str) (pos : Pos) : Snd c f kp A (eval (.Name x pos) f.env) (nameE c.K x st) (VP c.B) z st s := by
  unfold nameE
  refine Snd.ite (fun _ => Snd.stuck) fun hd => ?_
  exact Snd.wrap (fun Q E k => wpAny_Name k hd) (loadName_sound hc h hA.good x)
theorem binE_sound (hc : c.Ok) (ok : EOk c p n) (h : Rel c f kp z st s) (hA : AOk A f n st.md) (l : Expr) (op : Operator) (r : Expr) (pos : Pos) : Snd c f kp A (eval (.BinOp l op r pos) f.env) (binE p l op r st) (VP c.B) z st s := by
  rw [eval_BinOp]
  refine Snd.bind (ok.expr h hA l) fun a st1 va z1 s1 _ af1 pa => ?_
  refine Snd.bind (Snd.holding (ok.expr af1.rel (hA.after af1) r)) fun b st2 vb z2 s2 _ af2 pb => ?_
  exact Snd.standAt af2.rel (Snd.operate (binV_sound af2.rel op (af2.vr pa) pb))
theorem unE_sound (ok : EOk c p n) (h : Rel c f kp z st s) (hA : AOk A f n st.md) (op : UnaryOp) (x : Expr) (pos : Pos) : Snd c f kp A (eval (.UnaryOp op x pos) f.env) (unE p op x st) (VP c.B) z st s := by
  show Snd c f kp A (eval x f.env >>= fun v => PySem.standAt pos >>= fun _ => PySem.holding [v] (unaryOp op v)) _ _ z st s
  refine Snd.bind (ok.expr h hA x) fun a st1 va z1 s1 _ af1 pa => ?_
  exact Snd.standAt af1.rel (Snd.holding (unV_sound af1.rel op pa))
theorem ifE_sound (ok : EOk c p n) (h : Rel c f kp z st s) (hA : AOk A f n st.md) (t a b : Expr) (pos : Pos) : Snd c f kp A (eval (.IfExp t a b pos) f.env) (ifE p t a b st) (VP c.B) z st s := by
  show Snd c f kp A (isTrue t f.env (eval t f.env) >>= fun x => if x = true then eval a f.env else eval b f.env) _ _ z st s
  refine Snd.bind (ok.test h hA t) fun x st1 v z1 s1 _ af1 pa => ?_
  cases pa
  cases x
  · exact ok.expr af1.rel (hA.after af1) b
  · exact ok.expr af1.rel (hA.after af1) a
theorem markedEach_one {op : CmpOp} {e : Expr} {env : Env} (hm : behindInMarks op e = false) : markedEach [op] [e] (evalEach [e] env) = [eval e env] := by
  show [markedBehindIn op e (eval e env)] = _
  rw [markedBehindIn_of_false hm]
theorem Snd.release {α β : Type} {t : Sem α} {vs ks : List Value} {r : R β} {P : Sit → Nat → β → α → Prop} (hr : Rel c f kp z st s) (h : Snd c f kp A t r P z st s) : Snd c f kp A (PySem.release vs ks >>= fun _ => t) r P z st s :=
  Snd.pre (fun _ s' => s' = s) (wpAny_release rfl) fun _ s' e => by subst e; exact ⟨After.refl hr, h⟩
theorem cmpChain_sound (ok : EOk c p n) (pos : Pos) : ∀ (ops : List CmpOp) (es : List Expr) {z st s} {a : V} {va : Value}, Rel c f kp z st s → AOk A f n st.md → VR z.ρ st.nxt c.B a va → Snd c f kp A (compareChain pos va ops (markedEach ops es (evalEach es f.env))) (cmpChain p a ops es st) (VP c.B) z st s := by
  intro ops
  induction ops with
  | nil => intro es z st s a va h hA ha; cases es <;> exact Snd.stuck
  | cons op ops ih =>
    intro es z st s a va h hA ha
    cases es with
    | nil => cases ops <;> exact Snd.stuck
    | cons e es =>
      cases ops with
      | nil =>
        cases es with
        | nil =>
          unfold cmpChain
          refine Snd.ite (fun _ => Snd.stuck) fun hm => ?_
          rw [markedEach_one hm]
          unfold compareChain
          refine Snd.bind (Snd.holding (ok.expr h hA e)) fun b st2 vb z2 s2 _ af2 pb => ?_
          exact Snd.standAt af2.rel (Snd.operate (cmpV_sound af2.rel (hA.after af2).u op (af2.vr ha) pb))
        | cons e' es =>
          show Snd c f kp A (PySem.holding [va] (eval e f.env) >>= fun rv => PySem.standAt pos >>= fun _ => PySem.holding [va, rv] (compareOp op va rv) >>= fun cv => PySem.release [va, rv] [cv] >>= fun _ => PySem.holding [cv, rv] (truthy cv) >>= fun t => if t = true then compareChain pos rv [] (markedEach [] (e' :: es) (evalEach (e' :: es) f.env)) else pure cv) (Mine.bind (p.expr e) (fun r => Mine.bind (cmpV op a r) fun c => Mine.bind (truthV c) fun t => if t then cmpChain p r [] (e' :: es) else ret c) st) _ z st s
          refine Snd.bind (Snd.holding (ok.expr h hA e)) fun b st2 vb z2 s2 _ af2 pb => ?_
          refine Snd.standAt af2.rel ?_
          refine Snd.bind (Snd.holding (cmpV_sound af2.rel (hA.after af2).u op (af2.vr ha) pb)) fun cv st3 vc z3 s3 _ af3 pc => ?_
          refine Snd.release af3.rel ?_
          refine Snd.bind (Snd.holding (truthV_sound af3.rel pc)) fun t st4 vt z4 s4 _ af4 pt => ?_
          cases pt
          cases t
          · exact Snd.pure af4.rel (af4.vr pc)
          · exact ih (e' :: es) af4.rel (((hA.after af2).after af3).after af4) (af4.vr (af3.vr pb))
      | cons op' ops =>
        show Snd c f kp A (PySem.holding [va] (eval e f.env) >>= fun rv => PySem.standAt pos >>= fun _ => PySem.holding [va, rv] (compareOp op va rv) >>= fun cv => PySem.release [va, rv] [cv] >>= fun _ => PySem.holding [cv, rv] (truthy cv) >>= fun t => if t = true then compareChain pos rv (op' :: ops) (markedEach (op' :: ops) es (evalEach es f.env)) else pure cv) (Mine.bind (p.expr e) (fun r => Mine.bind (cmpV op a r) fun c => Mine.bind (truthV c) fun t => if t then cmpChain p r (op' :: ops) es else ret c) st) _ z st s
        refine Snd.bind (Snd.holding (ok.expr h hA e)) fun b st2 vb z2 s2 _ af2 pb => ?_
        refine Snd.standAt af2.rel ?_
        refine Snd.bind (Snd.holding (cmpV_sound af2.rel (hA.after af2).u op (af2.vr ha) pb)) fun cv st3 vc z3 s3 _ af3 pc => ?_
        refine Snd.release af3.rel ?_
        refine Snd.bind (Snd.holding (truthV_sound af3.rel pc)) fun t st4 vt z4 s4 _ af4 pt => ?_
        cases pt
        cases t
        · exact Snd.pure af4.rel (af4.vr pc)
        · exact ih es af4.rel (((hA.after af2).after af3).after af4) (af4.vr (af3.vr pb))
end
end Mine
namespace Mine
open PySem PySem.W PySem.Calls PyProof.Rows
section
variable {c : Cx} {p : Ev} {n : Nat} {f : Fm} {kp : List Addr} {A : Around} {z : Sit} {st : St} {s : Shared}
theorem cmpE_sound (ok : EOk c p n) (h : Rel c f kp z st s) (hA : AOk A f n st.md) (l : Expr) (ops : List CmpOp) (es : List Expr) (pos : Pos) : Snd c f kp A (eval (.Compare l ops es pos) f.env) (cmpE p l ops es st) (VP c.B) z st s := by
  show Snd c f kp A (eval l f.env >>= fun a => compareChain pos a ops (markedEach ops es (evalEach es f.env))) _ _ z st s
  refine Snd.bind (ok.expr h hA l) fun a st1 va z1 s1 _ af1 pa => ?_
  exact cmpChain_sound ok pos ops es af1.rel (hA.after af1) pa
theorem testChain_sound (ok : EOk c p n) (pos : Pos) : ∀ (ops : List CmpOp) (es : List Expr) {z st s} {a : V} {va : Value}, Rel c f kp z st s → AOk A f n st.md → VR z.ρ st.nxt c.B a va → Snd c f kp A (PySem.testChain pos va ops (markedEach ops es (evalEach es f.env))) (Mine.testChain p a ops es st) EqP z st s := by
  intro ops
  induction ops with
  | nil => intro es z st s a va h hA ha; cases es <;> exact Snd.stuck
  | cons op ops ih =>
    intro es z st s a va h hA ha
    have more : ∀ (e : Expr) (es : List Expr) (_hm : ∀ t, markedEach (op :: ops) (e :: es) (t :: evalEach es f.env) = t :: markedEach ops es (evalEach es f.env)), Snd c f kp A (PySem.holding [va] (eval e f.env) >>= fun rv => PySem.standAt pos >>= fun _ => PySem.holding [va, rv] (compareOp op va rv) >>= fun cv => PySem.release [va, rv] [cv] >>= fun _ => PySem.holding [cv, rv] (truthy cv) >>= fun t => if t = true then PySem.testChain pos rv ops (markedEach ops es (evalEach es f.env)) else pure false) (Mine.bind (p.expr e) (fun r => Mine.bind (cmpV op a r) fun c => Mine.bind (truthV c) fun t => if t then Mine.testChain p r ops es else ret false) st) EqP z st s := by
      intro e es _
      refine Snd.bind (Snd.holding (ok.expr h hA e)) fun b st2 vb z2 s2 _ af2 pb => ?_
      refine Snd.standAt af2.rel ?_
      refine Snd.bind (Snd.holding (cmpV_sound af2.rel (hA.after af2).u op (af2.vr ha) pb)) fun cv st3 vc z3 s3 _ af3 pc => ?_
      refine Snd.release af3.rel ?_
      refine Snd.bind (Snd.holding (truthV_sound af3.rel pc)) fun t st4 vt z4 s4 _ af4 pt => ?_
      cases pt
      cases t
      · exact Snd.pure af4.rel rfl
      · exact ih es af4.rel (((hA.after af2).after af3).after af4) (af4.vr (af3.vr pb))
    cases es with
    | nil => cases ops <;> exact Snd.stuck
    | cons e es =>
      cases ops with
      | nil =>
        cases es with
        | nil =>
          unfold Mine.testChain
          refine Snd.ite (fun _ => Snd.stuck) fun hm => ?_
          rw [markedEach_one hm]
          unfold PySem.testChain
          refine Snd.bind (Snd.holding (ok.expr h hA e)) fun b st2 vb z2 s2 _ af2 pb => ?_
          refine Snd.standAt af2.rel ?_
          refine Snd.bind (Snd.operate (cmpV_sound af2.rel (hA.after af2).u op (af2.vr ha) pb)) fun cv st3 vc z3 s3 _ af3 pc => ?_
          exact Snd.holding (truthV_sound af3.rel pc)
        | cons e' es => exact more e (e' :: es) fun _ => rfl
      | cons op' ops => exact more e es fun _ => rfl
theorem boolOp_sound (ok : EOk c p n) (pos : Pos) (op : BoolOp) : ∀ (es : List Expr) {z st s}, Rel c f kp z st s → AOk A f n st.md → Snd c f kp A (boolOp pos op (evalEach es f.env)) (boolOpV p op es st) (VP c.B) z st s
  | [], z, st, s, h, hA => Snd.stuck
  | [e], z, st, s, h, hA => ok.expr h hA e
  | e :: e' :: es, z, st, s, h, hA => by
    show Snd c f kp A (eval e f.env >>= fun v => PySem.standAt pos >>= fun _ => PySem.holding [v] (truthy v) >>= fun t => match op, t with | .And, false | .Or, true => pure v | _, _ => boolOp pos op (evalEach (e' :: es) f.env)) (Mine.bind (p.expr e) (fun v => Mine.bind (truthV v) fun t => match op, t with | .And, false | .Or, true => ret v | _, _ => boolOpV p op (e' :: es)) st) _ z st s
    refine Snd.bind (ok.expr h hA e) fun a st1 va z1 s1 _ af1 pa => ?_
    refine Snd.standAt af1.rel ?_
    refine Snd.bind (Snd.holding (truthV_sound af1.rel pa)) fun t st4 vt z4 s4 _ af4 pt => ?_
    cases pt
    cases op <;> cases t
    · exact Snd.pure af4.rel (af4.vr pa)
    · exact boolOp_sound ok pos _ (e' :: es) af4.rel ((hA.after af1).after af4)
    · exact boolOp_sound ok pos _ (e' :: es) af4.rel ((hA.after af1).after af4)
    · exact Snd.pure af4.rel (af4.vr pa)
theorem testAll_sound (ok : EOk c p n) (op : BoolOp) : ∀ (es : List Expr) {z st s}, Rel c f kp z st s → AOk A f n st.md → Snd c f kp A (allTrue op es f.env) (testAll p op es st) EqP z st s
  | [], z, st, s, h, hA => Snd.pure h rfl
  | e :: es, z, st, s, h, hA => by
    show Snd c f kp A (isTrue e f.env (eval e f.env) >>= fun t => match op, t with | .And, false => pure false | .Or, true => pure true | _, _ => allTrue op es f.env) (Mine.bind (p.test e) (fun t => match op, t with | .And, false => ret false | .Or, true => ret true | _, _ => testAll p op es) st) _ z st s
    refine Snd.bind (ok.test h hA e) fun t st4 vt z4 s4 _ af4 pt => ?_
    cases pt
    cases op <;> cases t
    · exact Snd.pure af4.rel rfl
    · exact testAll_sound ok _ es af4.rel (hA.after af4)
    · exact testAll_sound ok _ es af4.rel (hA.after af4)
    · exact Snd.pure af4.rel rfl
theorem testV_sound (ok : EOk c p n) (h : Rel c f kp z st s) (hA : AOk A f n st.md) (e : Expr) (pos : Pos) : Snd c f kp A (eval e f.env >>= fun v => PySem.standAt pos >>= fun _ => PySem.holding [v] (truthy v)) (Mine.bind (p.expr e) (fun v => truthV v) st) EqP z st s := by
  refine Snd.bind (ok.expr h hA e) fun a st1 va z1 s1 _ af1 pa => ?_
  exact Snd.standAt af1.rel (Snd.holding (truthV_sound af1.rel pa))
theorem testE_sound (ok : EOk c p n) (h : Rel c f kp z st s) (hA : AOk A f n st.md) (e : Expr) : Snd c f kp A (isTrue e f.env (eval e f.env)) (testE p e st) EqP z st s := by
  cases e with
  | UnaryOp op x pos =>
    cases op with
    | Not =>
      show Snd c f kp A (isTrue x f.env (eval x f.env) >>= fun b => pure (!b)) (Mine.bind (p.test x) (fun b => ret (!b)) st) _ z st s
      refine Snd.bind (ok.test h hA x) fun t st4 vt z4 s4 _ af4 pt => ?_
      cases pt
      exact Snd.pure af4.rel rfl
    | _ => exact testV_sound ok h hA _ _
  | BoolOp op values pos => exact testAll_sound ok op values h hA
  | IfExp t a b pos =>
    show Snd c f kp A (isTrue t f.env (eval t f.env) >>= fun x => if x = true then isTrue a f.env (eval a f.env) else isTrue b f.env (eval b f.env)) (Mine.bind (p.test t) (fun x => if x then p.test a else p.test b) st) _ z st s
    refine Snd.bind (ok.test h hA t) fun x st1 v z1 s1 _ af1 pa => ?_
    cases pa
    cases x
    · exact ok.test af1.rel (hA.after af1) b
    · exact ok.test af1.rel (hA.after af1) a
  | Compare l ops es pos =>
    show Snd c f kp A (eval l f.env >>= fun a => PySem.testChain pos a ops (markedEach ops es (evalEach es f.env))) (Mine.bind (p.expr l) (fun a => Mine.testChain p a ops es) st) _ z st s
    refine Snd.bind (ok.expr h hA l) fun a st1 va z1 s1 _ af1 pa => ?_
    exact testChain_sound ok pos ops es af1.rel (hA.after af1) pa
  | _ => exact testV_sound ok h hA _ _
theorem starEach_cons {e : Expr} (he : plainE e = true) (r : List Expr) (env : Env) : starEach (e :: r) env = (false, eval e env) :: starEach r env := by
  cases e <;> first | rfl | cases he
theorem evalL_sound (ok : EOk c p n) (pos : Pos) : ∀ (es : List Expr) {z st s}, Rel c f kp z st s → AOk A f n st.md → Snd c f kp A (spliced (backTo pos (starEach es f.env))) (evalL p es st) (VsP c.B) z st s
  | [], z, st, s, h, hA => Snd.pure h .nil
  | e :: es, z, st, s, h, hA => by
    unfold evalL
    refine Snd.ite (fun he => ?_) fun _ => Snd.stuck
    rw [starEach_cons he]
    show Snd c f kp A (eval e f.env >>= fun v => pure [v] >>= fun here => PySem.holding here (spliced (backTo pos (starEach es f.env))) >>= fun vs => pure (here ++ vs)) _ _ z st s
    refine Snd.bind (ok.expr h hA e) fun a st1 va z1 s1 _ af1 pa => ?_
    show Snd c f kp A (PySem.holding [va] (spliced (backTo pos (starEach es f.env))) >>= fun vs => pure ([va] ++ vs)) _ _ z1 st1 s1
    refine Snd.bind (Snd.holding (evalL_sound ok pos es af1.rel (hA.after af1))) fun vs st2 vvs z2 s2 _ af2 pv => ?_
    exact Snd.pure af2.rel (.cons (af2.vr pa) pv)
theorem listE_sound (ok : EOk c p n) (h : Rel c f kp z st s) (hA : AOk A f n st.md) (es : List Expr) (pos : Pos) : Snd c f kp A (eval (.List es pos) f.env) (listE p es st) (VP c.B) z st s := by
  show Snd c f kp A (PySem.standAt pos >>= fun _ => spliced (backTo pos (starEach es f.env)) >>= fun vs => PySem.newList vs) _ _ z st s
  refine Snd.standAt h ?_
  refine Snd.bind (evalL_sound ok pos es h hA) fun vs st2 vvs z2 s2 _ af2 pv => ?_
  exact Snd.newList af2.rel pv
theorem tupE_sound (ok : EOk c p n) (h : Rel c f kp z st s) (hA : AOk A f n st.md) (es : List Expr) (k : Nat) (pos : Pos) : Snd c f kp A (eval (.Tuple es k pos) f.env) (tupE p es st) (VP c.B) z st s := by
  show Snd c f kp A (PySem.standAt pos >>= fun _ => spliced (backTo pos (starEach es f.env)) >>= fun vs => PySem.newTuple vs) _ _ z st s
  refine Snd.standAt h ?_
  refine Snd.bind (evalL_sound ok pos es h hA) fun vs st2 vvs z2 s2 _ af2 pv => ?_
  exact Snd.newTuple af2.rel pv
end
end Mine
namespace Mine
open PySem PySem.W PySem.Calls PyProof.Rows
def attrOk (K : Frag) (C : Addr) (name : Str) : Bool := plainGet K C name && hasDictIn K C && (match findIn K (.ref C) name with | some attr => noGet K attr | Option.none => false)
def setOk (K : Frag) (C : Addr) (name : Str) : Bool := findIn K (.ref C) "__setattr__" == some (some (.builtin "object.__setattr__")) && plainOver K C && (takerIn K C name == some Option.none) && hasDictIn K C
def notBi : V → Bool
  | .bi _ => false
  | _ => true
def clsVal (K : Frag) (C : Addr) (name : Str) : Option V := if copiedNames.contains name then Option.none else match findIn K (.ref C) name with
  | some (some v) => if handedIn v then vOf K v else Option.none
  | _ => Option.none
def clsGet (K : Frag) (C : Addr) (name : Str) : Option V := match typeIn K (.ref C) with
  | some mc => if readsIn K C mc then (match findCls K (.ref C) mc name with
    | some (.val v) => if handedIn v then vOf K v else Option.none
    | _ => Option.none) else Option.none
  | Option.none => Option.none
def readAttr (K : Frag) (o : V) (name : Str) : M V := if nid name = 0 then stuck "name" else match o with
  | .ref r => bind (getO r) fun ob => match ob with
    | .inst C fs => if attrOk K C name then (match look (nid name) fs with
      | some v => if notBi v then ret v else stuck "a built-in in a field"
      | Option.none => (match clsVal K C name with
        | some v => ret v
        | Option.none => stuck "attr")) else stuck "attr"
    | _ => stuck "attr"
  | .old C => (match clsGet K C name with
    | some v => ret v
    | Option.none => stuck "class attr")
  | _ => stuck "attr"
def writeAttr (K : Frag) (o : V) (name : Str) (v : V) : M Unit := if nid name = 0 then stuck "name" else match o with
  | .ref r => bind (getO r) fun ob => match ob with
    | .inst C fs => if setOk K C name && decide (fs.length ≤ 900) then setO r (.inst C (put (nid name) v fs)) else stuck "set attr"
    | _ => stuck "set attr"
  | _ => stuck "set attr"
section
variable {c : Cx} {p : Ev} {n : Nat} {f : Fm} {kp : List Addr} {A : Around} {z : Sit} {st : St} {s : Shared}
theorem isStr_nid {x name : Str} {t : Tok} (h0 : nid name ≠ 0) : (Value.str x t).isStr name = decide (nid x = nid name) := by
  show (x == name) = _
  by_cases q : x = name
  · subst q; simp
  · have : nid x ≠ nid name := fun e => q (nid_inj e (by rw [e]; exact h0))
    rw [decide_eq_false this]
    exact beq_false_of_ne q
theorem fields_any {P ρ n B name} (h0 : nid name ≠ 0) {fs : List (Nat × V)} {es : List DictEntry} (h : All2 (FR P ρ n B) fs es) : es.any (·.refKey) = false := by
  induction h with
  | nil => rfl
  | cons a _ ih =>
    obtain ⟨x, t, e, _⟩ := a.key
    rw [List.any_cons, ih, Bool.or_false]
    unfold DictEntry.refKey
    rw [e]
theorem fields_find {P ρ n B name} (h0 : nid name ≠ 0) {fs : List (Nat × V)} {es : List DictEntry} (h : All2 (FR P ρ n B) fs es) :
    match look (nid name) fs with | some v => ∃ e, es.find? (·.key.isStr name) = some e ∧ VR ρ n B v e.val | none => es.find? (·.key.isStr name) = none := by
  induction h with
  | nil => rfl
  | @cons a b _ _ q _ ih =>
    obtain ⟨x, t, e, e2, _⟩ := q.key
    unfold look
    rw [List.find?_cons, e, isStr_nid h0, e2]
    by_cases w : a.1 = nid name
    · rw [if_pos w, decide_eq_true w]
      exact ⟨b, rfl, q.val⟩
    · rw [if_neg w, decide_eq_false w]
      exact ih
theorem fields_get {P ρ n B name} (h0 : nid name ≠ 0) {fs : List (Nat × V)} {es : List DictEntry} (h : All2 (FR P ρ n B) fs es) :
    match look (nid name) fs with | some v => ∃ u, getL name es = some (some u) ∧ VR ρ n B v u | none => getL name es = some none := by
  have := fields_find h0 h
  unfold getL
  cases q : look (nid name) fs with
  | none =>
    rw [q] at this
    rw [this, fields_any h0 h]
    rfl
  | some v =>
    rw [q] at this
    obtain ⟨e, e1, e2⟩ := this
    rw [e1]
    exact ⟨_, rfl, e2⟩
theorem fields_put {P ρ n B name v u t} (h0 : nid name ≠ 0) (hv : VR ρ n B v u) {fs : List (Nat × V)} {es : List DictEntry} (h : All2 (FR P ρ n B) fs es) :
    All2 (FR P ρ n B) (put (nid name) v fs) (putL name (PyData.keyHash P name) (.str name t) u es) := by
  induction h with
  | nil => exact .cons ⟨⟨name, t, rfl, rfl, rfl⟩, h0, hv⟩ .nil
  | @cons a b _ _ q r ih =>
    obtain ⟨x, t', e, e2, e3⟩ := q.key
    unfold put putL
    rw [e, isStr_nid h0, e2]
    by_cases w : a.1 = nid name
    · rw [if_pos w, decide_eq_true w]
      exact .cons ⟨⟨x, t', rfl, by rw [e2]; exact w, e3⟩, h0, hv⟩ r
    · rw [if_neg w, decide_eq_false w]
      exact .cons q ih
theorem put_length {α : Type} (k : Nat) (v : α) : ∀ l : List (Nat × α), (put k v l).length ≤ l.length + 1
  | [] => by simp [put]
  | p :: r => by
    unfold put
    split
    · simp
    · simp [put_length k v r]
theorem Rel.ins (h : Rel c f kp z st s) {i : Nat} {C : Addr} {fs : List (Nat × V)} (hi : i < st.nxt) (e : st.obj i = .inst C fs) :
    s.heap.get? (z.ρ i) = some (instObj C (z.δ i)) ∧ ∃ en ep, s.heap.get? (z.δ i) = some (dictOf en ep) ∧ All2 (FR c.w.params z.ρ st.nxt c.B) fs en := by
  have := h.objs i hi
  rw [e] at this
  exact this
theorem handedIn_of {ρ n B v u} (h : VR ρ n B v u) (e : notBi v = true) : handedIn u = true := by
  cases h <;> first | rfl | cases e
theorem Rel.inK (hc : c.Ok) (h : Rel c f kp z st s) : c.K.In s.heap := hc.inK.keeps h.base
theorem readAttr_sound (hc : c.Ok) (h : Rel c f kp z st s) (name : Str) (ex : Bool) {o : V} {x : Value} (ho : VR z.ρ st.nxt c.B o x) : Snd c f kp A (getAttr x name ex) (readAttr c.K o name st) (VP c.B) z st s := by
  unfold readAttr
  refine Snd.iteP (fun _ => Snd.stuck) fun h0 => ?_
  cases o with
  | ref r =>
    obtain ⟨rfl, hi⟩ := ho.inj_ref
    refine Snd.getO fun hi => ?_
    cases ei : st.obj r <;> try exact Snd.stuck
    rename_i C fs
    refine Snd.ite (fun ok => ?_) fun _ => Snd.stuck
    obtain ⟨e1, en, ep, e2, r2⟩ := h.ins hi ei
    have X := h.inK hc
    unfold attrOk at ok
    rw [Bool.and_eq_true, Bool.and_eq_true] at ok
    obtain ⟨⟨pg, hd⟩, ng⟩ := ok
    have I : InstAt s.heap (z.ρ r) (instObj C (z.δ r)) C (some (dictOf en ep)) := ⟨e1, rfl, rfl, e2⟩
    unfold plainGet at pg
    rw [Bool.and_eq_true] at pg
    have hga := beq_iff_eq.mp pg.1
    have fg := fields_get h0 r2
    cases el : look (nid name) fs with
    | some v =>
      rw [el] at fg
      obtain ⟨u, g1, g2⟩ := fg
      refine Snd.ite (fun nb => ?_) fun _ => Snd.stuck
      cases ef : findIn c.K (.ref C) name with
      | none => rw [ef] at ng; cases ng
      | some attr =>
        rw [ef] at ng
        exact Snd.same fun Q E k => get_value X I hga (findObj_own hd ef ng g1) (handedIn_of g2 nb) (k _ _ (After.tok h _) g2)
    | none =>
      rw [el] at fg
      dsimp only
      cases ec : clsVal c.K C name with
      | none => exact Snd.stuck
      | some v =>
        unfold clsVal at ec
        split at ec
        · cases ec
        · rename_i hcp
          split at ec
          · rename_i u ef
            split at ec
            · rename_i hh
              rw [ef] at ng
              exact Snd.same fun Q E k => get_value X I hga (findObj_cls hd ef (beq_iff_eq.mp ng) hh (by simpa using hcp) fg) hh (k _ _ (After.tok h _) (vOf_sound hc ec _ _))
            · cases ec
          · cases ec
  | old C =>
    rw [ho.inj_old]
    show Snd c f kp A _ ((match clsGet c.K C name with | some v => ret v | none => Mine.stuck "class attr" : M V) st) _ z st s
    cases ec : clsGet c.K C name with
    | none => exact Snd.stuck
    | some v =>
      unfold clsGet at ec
      split at ec
      · rename_i mc _
        split at ec
        · rename_i hr
          split at ec
          · rename_i u ef
            split at ec
            · rename_i hh
              exact Snd.same fun Q E k => cls_value (h.inK hc) hr ef hh (k _ _ (After.tok h _) (vOf_sound hc ec _ _))
            · cases ec
          · cases ec
        · cases ec
      · cases ec
  | _ => exact Snd.stuck
theorem writeAttr_sound (hc : c.Ok) (h : Rel c f kp z st s) (name : Str) {o v : V} {x u : Value} (ho : VR z.ρ st.nxt c.B o x) (hv : VR z.ρ st.nxt c.B v u) : Snd c f kp A (setAttr x name u) (writeAttr c.K o name v st) UP z st s := by
  unfold writeAttr
  refine Snd.iteP (fun _ => Snd.stuck) fun h0 => ?_
  cases o with
  | ref r =>
    obtain ⟨rfl, hi⟩ := ho.inj_ref
    refine Snd.getO fun hi => ?_
    cases ei : st.obj r <;> try exact Snd.stuck
    rename_i C fs
    refine Snd.ite (fun ok => ?_) fun _ => Snd.stuck
    rw [Bool.and_eq_true] at ok
    obtain ⟨ok, hlen⟩ := ok
    have hlen := of_decide_eq_true hlen
    obtain ⟨e1, en, ep, e2, r2⟩ := h.ins hi ei
    have X := h.inK hc
    unfold setOk at ok
    rw [Bool.and_eq_true, Bool.and_eq_true, Bool.and_eq_true] at ok
    obtain ⟨⟨⟨hs, hp⟩, ht⟩, hd⟩ := ok
    have I : InstAt s.heap (z.ρ r) (instObj C (z.δ r)) C (some (dictOf en ep)) := ⟨e1, rfl, rfl, e2⟩
    have fg := fields_get h0 r2
    have r3 := fields_put (t := s.toks + 1) h0 hv r2
    have hap := h.apart r hi (by rw [ei]; rfl)
    have hsz : (putL name (PyData.keyHash c.w.params name) (.str name (s.toks + 1)) u en).length ≤ 16777217 := by
      rw [← r3.length]
      have := put_length (nid name) v fs
      omega
    refine Snd.of fun Q E k => set_plain X I (beq_iff_eq.mp hs) (osa_open (s := { s with toks := s.toks + 1 }) X I hp (beq_iff_eq.mp ht) fun b => ?_)
    have D' : (s.heap.update (z.δ r) (Obj.putName name (PyData.keyHash c.w.params name) (.str name (s.toks + 1)) u)).get? (z.δ r) = some (dictOf (putL name (PyData.keyHash c.w.params name) (.str name (s.toks + 1)) u en) (putN name en ep)) := by
      rw [← putName_dict]
      exact Heap.get?_update_self _ e2 (by rw [putName_dict]; rfl)
    obtain ⟨cd, hcd, hdd⟩ := any_some hd
    have X1 : c.K.In ({ s with toks := s.toks + 1 } : Shared).heap := X
    refine wpAny_bind (wpAny_pure (wpAny_bind (wpAny_bind (wpAny_loadPart e1 (wpAny_bind ((looks_clsIn X1 hcd).here ?_))))))
    rw [hdd]
    refine wpAny_pure (a := some (z.δ r)) (wpAny_bind (wpAny_pure (wpAny_bind ?_)))
    unfold nsSet
    refine wpAny_bind (wpAny_bind (wpAny_askSetting (wpAny_pure (wpAny_bind (wpAny_mkText (wpAny_bind (wpAny_loadPart e2 ?_)))))))
    have hno : (!en.toArray.any (·.key.isStr name) && en.toArray.any (·.refKey)) = false := by
      rw [← Array.any_toList, ← Array.any_toList]
      show (_ && en.any (·.refKey)) = false
      rw [fields_any h0 r2, Bool.and_false]
    dsimp only
    rw [aRefKeyMayBeTheName_at, hno]
    refine wpAny_updatePart e2 (wpAny_bind (wpAny_lookBehind D' (pastItsLine_dict (by rw [List.size_toArray, sizeLine_eq]; exact hsz)) ?_))
    refine wpAny_pure (k _ z _ ((Rel.turn h hi (.inr rfl) (Heap.SameBut.update ..) (by rw [D']; rfl) (fun _ => hap) (o := .inst C (put (nid name) v fs)) ⟨?_, _, _, D', r3⟩).trans (After.tok (Rel.turn h hi (.inr rfl) (Heap.SameBut.update ..) (by rw [D']; rfl) (fun _ => hap) (o := .inst C (put (nid name) v fs)) ⟨?_, _, _, D', r3⟩).rel _)) trivial)
    all_goals exact ((Heap.SameBut.update ..).2 _ hap).trans e1
  | _ => exact Snd.stuck
end
end Mine
namespace Mine
open PySem PySem.W PySem.Calls PyProof.Rows
section
variable (p : Ev)
def sliceE (lo hi : Option Expr) : M V := bind (orNone p lo) fun l => bind (orNone p hi) fun h => alloc (.slice l h)
def subE (o i : Expr) : M V := bind (p.expr o) fun ov => bind (p.expr i) fun iv => getItemV ov iv
end
section
variable {c : Cx} {p : Ev} {n : Nat} {f : Fm} {kp : List Addr} {A : Around} {z : Sit} {st : St} {s : Shared}
theorem orNone_sound (ok : EOk c p n) (h : Rel c f kp z st s) (hA : AOk A f n st.md) (e : Option Expr) : Snd c f kp A (valueOrNone (evalOpt e f.env)) (orNone p e st) (VP c.B) z st s := by
  cases e with
  | none => exact Snd.pure h .none
  | some e => exact ok.expr h hA e
theorem sliceE_sound (ok : EOk c p n) (h : Rel c f kp z st s) (hA : AOk A f n st.md) (lo hi : Option Expr) (pos : Pos) : Snd c f kp A (eval (.Slice lo hi none pos) f.env) (sliceE p lo hi st) (VP c.B) z st s := by
  show Snd c f kp A (valueOrNone (evalOpt lo f.env) >>= fun l => PySem.holding [l] (valueOrNone (evalOpt hi f.env)) >>= fun u => PySem.holding [l, u] (pure .none) >>= fun t => newFields "slice" [l, u, t]) _ _ z st s
  refine Snd.bind (orNone_sound ok h hA lo) fun a st1 va z1 s1 _ af1 pa => ?_
  refine Snd.bind (Snd.holding (orNone_sound ok af1.rel (hA.after af1) hi)) fun b st2 vb z2 s2 _ af2 pb => ?_
  refine Snd.of fun Q E k => wpAny_bind (wpAny_holding (wpAny_pure (wpAny_newObj_type ?_ ?_)))
  · refine k _ _ _ (Rel.push (o := .slice a b) (ob := { cls := .type "slice", data := .fields #[va, vb, .none] }) af2.rel rfl rfl fun e => ⟨_, _, e, ?_, ?_⟩) VR.new
    · exact (af2.vr pa).mono (Nat.le_succ _) fun _ hi => setN_lt hi
    · exact VR.mono pb (Nat.le_succ _) fun _ hi => setN_lt hi
  · show (3 : Nat) ≤ _
    decide
theorem subscripted_false (slice : Expr) (o i : Value) : ∃ ops, subscripted slice false o i = operate ops (getItem o i) := by
  cases slice with
  | Slice l u t pos => cases t <;> exact ⟨_, rfl⟩
  | _ => exact ⟨_, rfl⟩
theorem subTail {T id : String} {o i : Value} {value slice : Expr} {r : R V} (hT : s.TypeIs o T) (hl : typeLookup (.type T) "__getitem__" = pure (some (.builtin id))) (hr : Snd c f kp A (getItem o i) r (VP c.B) z st s) :
    Snd c f kp A (getitemInPython o >>= fun b => subscripted slice b o i >>= fun r => letTemporaryGo value o r >>= fun _ => pure r) r (VP c.B) z st s := by
  refine Snd.wrap (fun Q E k => ?_) hr
  unfold getitemInPython
  refine wpAny_bind (wpAny_bind (wpAny_specialOf hT hl (wpAny_pure ?_)))
  obtain ⟨ops, e⟩ := subscripted_false slice o i
  rw [e]
  exact wpAny_bind (wpAny_operate' (wpAny_mono k (fun v s' q => wpAny_bind (wpAny_letTemporaryGo (wpAny_pure q))) fun _ _ q => q))
structure ItemS (c : Cx) (f : Fm) (kp : List Addr) (A : Around) (z : Sit) (st : St) (s : Shared) (o i : Value) (r : R V) : Prop where
  ex : ∃ T id, s.TypeIs o T ∧ typeLookup (.type T) "__getitem__" = pure (some (.builtin id)) ∧ Snd c f kp A (getItem o i) r (VP c.B) z st s
theorem Snd.item (h : (∃ w, r = .stuck w) ∨ ItemS c f kp A z st s o i r) {value slice : Expr} : Snd c f kp A (getitemInPython o >>= fun b => subscripted slice b o i >>= fun r => letTemporaryGo value o r >>= fun _ => Pure.pure r) r (VP c.B) z st s := by
  rcases h with ⟨w, rfl⟩ | ⟨T, id, a, b, d⟩
  · trivial
  · exact subTail a b d
theorem clip_eq (n : Nat) (i : Int) : clipAt n i = clampI n i := by
  unfold clipAt clampI
  by_cases q : i < 0
  · rw [if_pos q, if_pos q]; omega
  · rw [if_neg q, if_neg q]; omega
theorem lo_eq (n : Nat) (x : Option Int) : kms_lo x n = x.elim 0 (clampI n) := by
  unfold kms_lo clampI
  cases x with
  | none => rfl
  | some i =>
    show (if i < 0 then n - (-i).toNat else min i.toNat n) = if i < 0 then (i + n).toNat else min i.toNat n
    by_cases q : i < 0
    · rw [if_pos q, if_pos q]; omega
    · rw [if_neg q, if_neg q]
theorem hi_eq (n : Nat) (x : Option Int) : kms_hi x n = x.elim n (clampI n) := by
  unfold kms_hi clampI
  cases x with
  | none => rfl
  | some i =>
    show (if i < 0 then n - (-i).toNat else min i.toNat n) = if i < 0 then (i + n).toNat else min i.toNat n
    by_cases q : i < 0
    · rw [if_pos q, if_pos q]; omega
    · rw [if_neg q, if_neg q]
theorem lowOf_some {B : Heap} {ρ m} {lo : V} {l : Value} {n a : Nat} (r : VR ρ m B lo l) (e : lowOf n lo = some a) : ∃ x, IsPart l x ∧ a = x.elim 0 (clampI n) := by
  cases r <;> first
    | (cases e; exact ⟨none, .none, rfl⟩)
    | (cases e; exact ⟨some _, .int _ _, rfl⟩)
    | cases e
theorem highOf_some {B : Heap} {ρ m} {lo : V} {l : Value} {n a : Nat} (r : VR ρ m B lo l) (e : highOf n lo = some a) : ∃ x, IsPart l x ∧ a = x.elim n (clampI n) := by
  cases r <;> first
    | (cases e; exact ⟨none, .none, rfl⟩)
    | (cases e; exact ⟨some _, .int _ _, rfl⟩)
    | cases e
theorem sliceOf_some {α : Type} {B : Heap} {ρ m} {lo hi : V} {l u : Value} {xs ys : List α} (r : VR ρ m B lo l) (r' : VR ρ m B hi u) (e : sliceOf xs lo hi = some ys) :
    ∃ a b, IsPart l a ∧ IsPart u b ∧ ys = (xs.drop (a.elim 0 (clampI xs.length))).take (b.elim xs.length (clampI xs.length) - a.elim 0 (clampI xs.length)) := by
  unfold sliceOf at e
  cases e1 : lowOf xs.length lo with
  | none => simp [e1] at e
  | some a =>
    cases e2 : highOf xs.length hi with
    | none => simp [e1, e2] at e
    | some b =>
      simp [e1, e2] at e
      obtain ⟨x, p, rfl⟩ := lowOf_some r e1
      obtain ⟨y, q, rfl⟩ := highOf_some r' e2
      exact ⟨x, y, p, q, e.symm⟩
theorem idxOf_seq (n : Nat) (i : Int) : seqIndex? i n = idxOf n i := by
  unfold seqIndex? idxOf
  by_cases q : i < 0
  · have q' : ¬ 0 ≤ i := by omega
    simp only [q, if_true, q', if_false]
    by_cases w : 0 ≤ i + n
    · have : i + (n : Int) < n := by omega
      simp [w, this]
    · simp [w]
  · have q' : 0 ≤ i := by omega
    simp only [q, if_false, q', if_true]
    by_cases w : i < n <;> simp [w]
theorem sliceGetB (h : Rel c f kp z st s) {b x : List UInt8} {t : Tok} {k : Nat} {lo hi : V} (hk : k < st.nxt) (ek : st.obj k = .slice lo hi) (e : sliceOf b lo hi = some x) (hz : szOk b.length = true) :
    Snd c f kp A (getItem (.bytes b.toArray t) (.ref (z.ρ k))) (ret (.bytes x) st) (VP c.B) z st s := by
  have := h.objs k hk
  rw [ek] at this
  obtain ⟨l, u, e1, r1, r2⟩ := this
  obtain ⟨a', b', p1, p2, ex⟩ := sliceOf_some r1 r2 e
  have hz := of_decide_eq_true hz
  refine Snd.same fun Q E k' => getItem_meets (typeIs_bytes _ _ _) (by decide) FB.slot_bytes_getitem FB.entry_bytes_getitem (FB.args_bytes_getitem_2 _ _) (KBc.meets_slice2 b.toArray t _ p1 p2)
    ⟨⟨_, e1, rfl, rfl⟩, Nat.le_trans (KBc.size_picked_le _ _ _) (by rw [sizeLine_eq, List.size_toArray]; exact hz), fun t' kk => ?_⟩
  have hp : KBy.picked b.toArray a' b' = x.toArray := by
    rw [KBc.picked_eq, ex]
    have hf : clipAt b.length = clampI b.length := funext (clip_eq _)
    rw [List.size_toArray, hf]
  show Q (.bytes (KBy.picked b.toArray a' b') t') _
  rw [hp]
  exact k' _ _ (After.tok h _) (.bytes _ _)
theorem VRs.slice {ρ n B xs vs} (h : VRs ρ n B xs vs) (a b : Nat) : VRs ρ n B ((xs.drop a).take b) ((vs.drop a).take b) := (All2.drop h a).take b
theorem sliceGetL (h : Rel c f kp z st s) {i k : Nat} {xs ys : List V} {lo hi : V} (hi' : i < st.nxt) (hk : k < st.nxt) (ei : st.obj i = .list xs) (ek : st.obj k = .slice lo hi) (e : sliceOf xs lo hi = some ys) (hz : szOk xs.length = true) :
    Snd c f kp A (getItem (.ref (z.ρ i)) (.ref (z.ρ k))) (mkList ys st) (VP c.B) z st s := by
  obtain ⟨vs, ep, e1, r1⟩ := h.lst hi' ei
  have := h.objs k hk
  rw [ek] at this
  obtain ⟨l, u, e2, r2, r3⟩ := this
  obtain ⟨a', b', p1, p2, ex⟩ := sliceOf_some r2 r3 e
  have hz := of_decide_eq_true hz
  unfold mkList szOk
  refine Snd.ite (fun q => ?_) fun _ => Snd.stuck
  refine Snd.of fun Q E k' => wpAny_getItem_list_slice ⟨_, e1, rfl, ep, rfl⟩ ⟨_, e2, rfl, rfl⟩ p1 p2 .none (by simp) ?_ (by rw [r1.size, sizeLine_eq]; exact hz)
  refine k' _ _ _ (Rel.push (o := .list ys) (ob := listO (slicePick vs a' b' none) 0) h rfl rfl fun e => ⟨_, _, e, ?_⟩) VR.new
  rw [kms_pick_eq]
  unfold kms_pick
  rw [lo_eq, hi_eq, ex, ← r1.length]
  exact (r1.slice _ _).up
theorem itemB (h : Rel c f kp z st s) {b : List UInt8} {i : Int} {t u : Tok} (hz : szOk b.length = true) : Snd c f kp A (getItem (.bytes b.toArray t) (.int i u)) (orStuck "bytes index" ((itemAt b i).map fun x => V.int x.toNat) st) (VP c.B) z st s := by
  have hz := of_decide_eq_true hz
  cases e : itemAt b i with
  | none => exact Snd.stuck
  | some x =>
    refine Snd.same fun Q E k => getItem_gives (typeIs_bytes s _ t) (by decide) FB.slot_bytes_getitem FB.entry_bytes_getitem (FB.args_bytes_getitem_2 _ _) (gives_bytes_getitem _ i t u x ?_ ?_) (k _ _ (After.tok h _) (.int _ _))
    · unfold itemAt idxOf at e
      simp only [Builtin.Bytes.fitsIndex, Bool.and_eq_true, decide_eq_true_eq]
      split at e <;> split at e <;> first | (constructor <;> omega) | simp at e
    · rw [List.size_toArray, idxOf_seq]
      unfold itemAt at e
      simpa using e
theorem itemL (h : Rel c f kp z st s) {r : Nat} {xs : List V} {i : Int} {u : Tok} (hr : r < st.nxt) (er : st.obj r = .list xs) (hz : szOk xs.length = true) : Snd c f kp A (getItem (.ref (z.ρ r)) (.int i u)) (orStuck "list index" (itemAt xs i) st) (VP c.B) z st s := by
  have hz := of_decide_eq_true hz
  obtain ⟨vs, ep, e1, r1⟩ := h.lst hr er
  cases e : itemAt xs i with
  | none => exact Snd.stuck
  | some x =>
    unfold itemAt idxOf at e
    by_cases q : 0 ≤ i
    · rw [if_pos q] at e
      by_cases w : i < xs.length
      · rw [if_pos w] at e
        obtain ⟨v, ev, rv⟩ := r1.get e
        refine Snd.same fun Q E k => wpAny_getItem_list ⟨_, e1, rfl, ep, rfl⟩ q (by omega) (by simpa using ev) (k _ _ (After.refl h) rv)
      · rw [if_neg w] at e; cases e
    · rw [if_neg q] at e
      by_cases w : 0 ≤ i + xs.length
      · rw [if_pos w] at e
        obtain ⟨v, ev, rv⟩ := r1.get e
        refine Snd.same fun Q E k => wpAny_getItem_list_neg ⟨_, e1, rfl, ep, rfl⟩ (by omega) (by rw [r1.size]; omega) (by omega) (by rw [r1.size]; simpa using ev) (k _ _ (After.refl h) rv)
      · rw [if_neg w] at e; cases e
end
end Mine
namespace Mine.BA
open PySem PySem.W PySem.Calls PyProof.Rows PySem.Spec
theorem owner : Manifest.owners.lookup (String.ofList ['y', 'a', 'r', 'r', 'a', 'e', 't', 'y', 'b'].reverse) = some Manifest.sig_bytearray := by kernel_rfl
theorem slot_getitem : PySem.Slot "bytearray" "__getitem__" "bytearray.__getitem__" :=
  .of (owner := "bytearray") (n := "__getitem__") (by rw [typeLookup_type, builtinLookup_eq_fast]; kernel_rfl) (by decide +kernel) (by decide +kernel) (by decide +kernel)
    (by first | exact .inl (by decide +kernel) | exact .inr (by decide +kernel)) (by rw [isSubtype_type]; kernel_rfl)
theorem entry_getitem : entryFor table "bytearray.__getitem__" = some Builtin.«bytearray.__getitem__» := by first | exact entryFor_of_tree (by kernel_rfl) | exact entryFor_of_fast (by kernel_rfl)
theorem args_getitem (a b : Value) : argsOk "bytearray.__getitem__" ⟨[a, b], []⟩ := by
  unfold argsOk; rw [signature?_of (id := "bytearray.__getitem__") (n := ['_', '_', 'm', 'e', 't', 'i', 't', 'e', 'g', '_', '_']) (o := ['y', 'a', 'r', 'r', 'a', 'e', 't', 'y', 'b']) (by kernel_rfl) owner]; kernel_rfl
theorem slot_len : PySem.Slot "bytearray" "__len__" "bytearray.__len__" :=
  .of (owner := "bytearray") (n := "__len__") (by rw [typeLookup_type, builtinLookup_eq_fast]; kernel_rfl) (by decide +kernel) (by decide +kernel) (by decide +kernel)
    (by first | exact .inl (by decide +kernel) | exact .inr (by decide +kernel)) (by rw [isSubtype_type]; kernel_rfl)
theorem entry_len : entryFor table "bytearray.__len__" = some Builtin.«bytearray.__len__» := by first | exact entryFor_of_tree (by kernel_rfl) | exact entryFor_of_fast (by kernel_rfl)
theorem args_len (a : Value) : argsOk "bytearray.__len__" ⟨[a], []⟩ := by
  unfold argsOk; rw [signature?_of (id := "bytearray.__len__") (n := ['_', '_', 'n', 'e', 'l', '_', '_']) (o := ['y', 'a', 'r', 'r', 'a', 'e', 't', 'y', 'b']) (by kernel_rfl) owner]; kernel_rfl
theorem loadPart' {M : Model} {A : Around} {E : Value → Shared → Prop} {h : Heap} {g : Array GenState} {d : Drawn} {t : Nat} {os : OsState} {a : Addr} {part : Option Value} {o : Obj} {Q : Obj → Shared → Prop}
    (ho : h.get? a = some o) (hq : Q o ⟨h, g, d, t, os⟩) : wpAny M A (loadPart a part) Q E ⟨h, g, d, t, os⟩ := wpAny_loadPart ho hq
theorem meets_getitem (a : Addr) (b : Array UInt8) (i : Int) (u : Tok) (x : UInt8) (hf : Builtin.Bytes.fitsIndex i = true) (hx : (seqIndex? i b.size).bind (b[·]?) = some x) :
    Meets (Builtin.«bytearray.__getitem__» ⟨[.ref a, .int i u], []⟩) (fun _ R s => s.heap.get? a = some { cls := .type "bytearray", data := .bytearray b } ∧ R (.ok (.ret (.int x.toNat s.toks))) { s with toks := s.toks + 1 }) := by
  refine .of_wp fun prog w A R s h => ?_
  obtain ⟨hp, g, d, tk, os⟩ := s
  obtain ⟨hl, h⟩ := h
  have f1 := AutoSeq1.idx_int
  wp_walk using loadPart' hl
  rw [hx]
  exact wpAny_bind (wpAny_mkInt (wpAny_pure ⟨_, rfl, h⟩))
theorem meets_len (a : Addr) (b : Array UInt8) :
    Meets (Builtin.«bytearray.__len__» ⟨[.ref a], []⟩) (fun _ R s => s.heap.get? a = some { cls := .type "bytearray", data := .bytearray b } ∧ R (.ok (.ret (.int b.size s.toks))) { s with toks := s.toks + 1 }) := by
  refine .of_wp fun prog w A R s h => ?_
  obtain ⟨hp, g, d, tk, os⟩ := s
  obtain ⟨hl, h⟩ := h
  wp_walk using loadPart' hl
  exact ⟨_, rfl, h⟩
end Mine.BA
namespace Mine
open PySem PySem.W PySem.Calls PyProof.Rows
section
variable {c : Cx} {p : Ev} {n : Nat} {f : Fm} {kp : List Addr} {A : Around} {z : Sit} {st : St} {s : Shared}
theorem isStrOf_self (k : Str) (t : Tok) : Value.isStrOf k (.str k t) = true := by
  show (k == k) = true
  simp
theorem Rel.dct (h : Rel c f kp z st s) {i : Nat} {es : List (Nat × V)} (hi : i < st.nxt) (e : st.obj i = .dict es) : ∃ kvs, s.heap.DictOf (strKind c.prog c.w) (z.ρ i) kvs ∧ All2 (DR z.ρ st.nxt c.B) es kvs := by
  have := h.objs i hi
  rw [e] at this
  exact this
theorem dict_find {ρ n B} {k : Str} (h0 : nid k ≠ 0) {es : List (Nat × V)} {kvs : List (Str × Value)} (h : All2 (DR ρ n B) es kvs) :
    match look (nid k) es with | some v => ∃ u, valueAt kvs k = some u ∧ VR ρ n B v u | none => valueAt kvs k = none := by
  unfold valueAt
  induction h with
  | nil => rfl
  | @cons a b _ _ q _ ih =>
    unfold look
    rw [List.find?_cons]
    by_cases w : a.1 = nid k
    · have : b.1 = k := nid_inj (q.key.trans w) (by rw [q.key]; exact q.pos)
      rw [if_pos w, decide_eq_true this]
      exact ⟨_, rfl, q.val⟩
    · have : ¬ b.1 = k := fun e => w (by rw [← q.key, e])
      rw [if_neg w, decide_eq_false this]
      exact ih
theorem dict_any {ρ n B} {k : Str} (h0 : nid k ≠ 0) {es : List (Nat × V)} {kvs : List (Str × Value)} (h : All2 (DR ρ n B) es kvs) : kvs.any (fun kv => decide (kv.1 = k)) = es.any (fun p => decide (p.1 = nid k)) := by
  induction h with
  | nil => rfl
  | @cons a b _ _ q _ ih =>
    rw [List.any_cons, List.any_cons, ih]
    congr 1
    by_cases w : a.1 = nid k
    · have : b.1 = k := nid_inj (q.key.trans w) (by rw [q.key]; exact q.pos)
      rw [decide_eq_true w, decide_eq_true this]
    · have : ¬ b.1 = k := fun e => w (by rw [← q.key, e])
      rw [decide_eq_false w, decide_eq_false this]
theorem put_none (k : Nat) (v : V) : ∀ es : List (Nat × V), es.any (fun p => decide (p.1 = k)) = false → put k v es = es ++ [(k, v)]
  | [], _ => rfl
  | p :: r, h => by
    rw [List.any_cons, Bool.or_eq_false_iff] at h
    unfold put
    rw [if_neg (of_decide_eq_false h.1), put_none k v r h.2]
    rfl
theorem put_some (k : Nat) (v : V) : ∀ es : List (Nat × V), (es.map (·.1)).Nodup → es.any (fun p => decide (p.1 = k)) = true → put k v es = es.map (fun p => if p.1 = k then (p.1, v) else p)
  | [], _, h => by cases h
  | p :: r, hn, h => by
    rw [List.map_cons, List.nodup_cons] at hn
    unfold put
    by_cases w : p.1 = k
    · rw [if_pos w, List.map_cons, if_pos w, w]
      congr 1
      have : ∀ q ∈ r, q.1 ≠ k := fun q hq e => hn.1 (by rw [w, ← e]; exact List.mem_map.mpr ⟨q, hq, rfl⟩)
      clear h hn
      induction r with
      | nil => rfl
      | cons q r ih => rw [List.map_cons, if_neg (this q (.head _)), ← ih fun x hx => this x (.tail _ hx)]
    · rw [if_neg w, List.map_cons, if_neg w]
      congr 1
      refine put_some k v r hn.2 ?_
      rw [List.any_cons, decide_eq_false w, Bool.false_or] at h
      exact h
theorem keys_eq {ρ n B} {es : List (Nat × V)} {kvs : List (Str × Value)} (h : All2 (DR ρ n B) es kvs) : es.map (·.1) = kvs.map (fun q => nid q.1) := by
  induction h with
  | nil => rfl
  | cons q _ ih => rw [List.map_cons, List.map_cons, ih, q.key]
theorem keys_nodup {ρ n B} {es : List (Nat × V)} {kvs : List (Str × Value)} (h : All2 (DR ρ n B) es kvs) (hn : (kvs.map (·.1)).Nodup) : (es.map (·.1)).Nodup := by
  induction h with
  | nil => exact List.nodup_nil
  | @cons a b x y q t ih =>
    rw [List.map_cons, List.nodup_cons] at hn ⊢
    refine ⟨fun hm => hn.1 ?_, ih hn.2⟩
    rw [keys_eq t] at hm
    obtain ⟨e, he, e2⟩ := List.mem_map.mp hm
    have : e.1 = b.1 := nid_inj (e2.trans q.key.symm) (by rw [e2]; exact q.pos)
    rw [← this]
    exact List.mem_map.mpr ⟨e, he, rfl⟩
theorem dict_put {ρ n B} {k : Str} {v : V} {u : Value} (h0 : nid k ≠ 0) (hv : VR ρ n B v u) {es : List (Nat × V)} {kvs : List (Str × Value)} (h : All2 (DR ρ n B) es kvs) (hn : (kvs.map (·.1)).Nodup) : All2 (DR ρ n B) (put (nid k) v es) (stored kvs k u) := by
  have hany := dict_any h0 h
  unfold stored
  cases q : es.any (fun p => decide (p.1 = nid k)) with
  | false =>
    rw [q] at hany
    rw [put_none _ _ _ q, if_neg (by rw [hany]; exact Bool.false_ne_true)]
    exact h.append (.cons ⟨rfl, h0, hv⟩ .nil)
  | true =>
    rw [q] at hany
    rw [put_some _ _ _ (keys_nodup h hn) q, if_pos hany]
    clear hany q hn
    induction h with
    | nil => exact .nil
    | @cons a b _ _ q t ih =>
      rw [List.map_cons, List.map_cons]
      refine .cons ?_ ih
      by_cases w : a.1 = nid k
      · have : b.1 = k := nid_inj (q.key.trans w) (by rw [q.key]; exact q.pos)
        rw [if_pos w, if_pos this]
        exact ⟨q.key, q.pos, hv⟩
      · have : ¬ b.1 = k := fun e => w (by rw [← q.key, e])
        rw [if_neg w, if_neg this]
        exact q
theorem setItemV_sound (h : Rel c f kp z st s) {o i v : V} {x y u : Value} (ho : VR z.ρ st.nxt c.B o x) (hi : VR z.ρ st.nxt c.B i y) (hv : VR z.ρ st.nxt c.B v u) : Snd c f kp A (setItem x y u) (setItemV o i v st) UP z st s := by
  unfold setItemV
  cases o with
  | ref r =>
    obtain ⟨rfl, hr⟩ := ho.inj_ref
    refine Snd.getO fun hr => ?_
    cases er : st.obj r <;> try exact Snd.stuck
    · rename_i xs
      cases i <;> try exact Snd.stuck
      rename_i k
      obtain ⟨t, rfl⟩ := hi.inj_int
      obtain ⟨vs, ep, e1, r1⟩ := h.lst hr er
      refine Snd.ite (fun hz => ?_) fun _ => Snd.stuck
      rw [Bool.and_eq_true, Bool.and_eq_true] at hz
      have hz1 := of_decide_eq_true hz.1.1
      have h0 := of_decide_eq_true hz.1.2
      have h1 := of_decide_eq_true hz.2
      refine Snd.of fun Q E k' => ki_setAt e1 h0 (by omega) (by rw [r1.size]; exact h1) ?_
      have e2 : (vs.setIfInBounds k.toNat u).toList = vs.toList.set k.toNat u := by simp
      have e3 := Heap.get?_update_self (h := s.heap) (Obj.mapSeq (·.setIfInBounds k.toNat u)) e1 rfl
      exact k' _ z _ (Rel.turn h hr (.inl rfl) (Heap.SameBut.update ..) (by rw [e3]; rfl) (o := .list (xs.set k.toNat v)) (fun e => by cases e) ⟨_, _, e3, by rw [e2]; exact All2.set r1 hv _⟩) trivial
    · rename_i es
      cases i <;> try exact Snd.stuck
      rename_i k
      obtain ⟨t, rfl⟩ := hi.inj_str
      obtain ⟨kvs, hd, r1⟩ := h.dct hr er
      refine Snd.iteP (fun _ => Snd.stuck) fun h0 => ?_
      refine Snd.ite (fun hz => ?_) fun _ => Snd.stuck
      have hz := of_decide_eq_true hz
      have hnd : (kvs.map (·.1)).Nodup := by obtain ⟨_, _, _, _, _, _, _, _, q⟩ := hd; exact q
      refine Snd.of fun Q E k' => wpAny_setItem_pairs (knd := strKind c.prog c.w) (isStrOf_self k t) hd (fun h' hd' hs' => ?_) (by rw [← r1.length, sizeLine_eq]; omega)
      have hsome : (h'.get? (z.ρ r)).isSome = true := by obtain ⟨o, _, _, e, _⟩ := hd'; rw [e]; rfl
      have T := Rel.turn h hr (.inl rfl) hs' hsome (o := .dict (put (nid k) v es)) (fun e => by cases e) ⟨_, hd', dict_put h0 hv r1 hnd⟩
      exact k' _ z _ (T.trans (After.tok T.rel _)) trivial
  | _ => exact Snd.stuck
theorem getItemV_sound (h : Rel c f kp z st s) {o i : V} {x y : Value} (ho : VR z.ρ st.nxt c.B o x) (hi : VR z.ρ st.nxt c.B i y) : (∃ w, getItemV o i st = .stuck w) ∨ ItemS c f kp A z st s x y (getItemV o i st) := by
  have go : ∀ {T id : String}, s.TypeIs x T → typeLookup (.type T) "__getitem__" = pure (some (.builtin id)) → Snd c f kp A (getItem x y) (getItemV o i st) (VP c.B) z st s → (∃ w, getItemV o i st = .stuck w) ∨ ItemS c f kp A z st s x y (getItemV o i st) := fun a b d => .inr ⟨_, _, a, b, d⟩
  cases o with
  | bytes b =>
    obtain ⟨t, rfl⟩ := ho.inj_bytes
    refine go (typeIs_bytes _ _ _) FB.slot_bytes_getitem.lookup ?_
    show Snd c f kp A _ (itemOfBytes b i st) _ z st s
    cases i <;> try exact Snd.stuck
    · obtain ⟨u, rfl⟩ := hi.inj_int
      exact Snd.ite (fun hz => itemB h hz) fun _ => Snd.stuck
    · rename_i k
      obtain ⟨rfl, hk⟩ := hi.inj_ref
      refine Snd.getO fun hk => ?_
      cases ek : st.obj k <;> try exact Snd.stuck
      rename_i lo hi'
      dsimp only
      cases e : sliceOf b lo hi' with
      | none => exact Snd.stuck
      | some ys => exact Snd.ite (fun hz => sliceGetB h hk ek e hz) fun _ => Snd.stuck
  | ref r =>
    obtain ⟨rfl, hr⟩ := ho.inj_ref
    have hval : getItemV (.ref r) i st = itemOf (st.obj r) i st := by
      show Mine.bind (getO r) (fun ob => itemOf ob i) st = _
      unfold Mine.bind getO
      rw [if_pos hr]
    cases er : st.obj r with
    | list xs =>
      obtain ⟨vs, ep, e1, r1⟩ := h.lst hr er
      refine go ⟨_, e1, rfl⟩ F.slot_list_getitem.lookup ?_
      rw [hval, er]
      show Snd c f kp A _ (itemOfList xs i st) _ z st s
      cases i <;> try exact Snd.stuck
      · obtain ⟨u, rfl⟩ := hi.inj_int
        exact Snd.ite (fun hz => itemL h hr er hz) fun _ => Snd.stuck
      · rename_i k
        obtain ⟨rfl, hk⟩ := hi.inj_ref
        refine Snd.getO fun hk => ?_
        cases ek : st.obj k <;> try exact Snd.stuck
        rename_i lo hi'
        dsimp only
        cases e : sliceOf xs lo hi' with
        | none => exact Snd.stuck
        | some ys => exact Snd.ite (fun hz => sliceGetL h hr hk er ek e hz) fun _ => Snd.stuck
    | dict es =>
      obtain ⟨kvs, hd, r1⟩ := h.dct hr er
      refine go hd.typeIs F.slot_dict_getitem.lookup ?_
      rw [hval, er]
      show Snd c f kp A _ (itemOfDict es i st) _ z st s
      cases i <;> try exact Snd.stuck
      rename_i k
      obtain ⟨t, rfl⟩ := hi.inj_str
      refine Snd.iteP (fun _ => Snd.stuck) fun h0 => ?_
      have := dict_find h0 r1
      cases el : look (nid k) es with
      | none => exact Snd.stuck
      | some v =>
        rw [el] at this
        obtain ⟨u, e1, r2⟩ := this
        exact Snd.same fun Q E k' => wpAny_getItem_of (knd := strKind c.prog c.w) (isStrOf_self k t) hd.mapOf e1 (k' _ _ (After.tok h _) r2)
    | barr b =>
      have hb := h.objs r hr
      rw [er] at hb
      have hb : s.heap.get? (z.ρ r) = some (barrO b.toArray) := hb
      refine go ⟨_, hb, rfl⟩ BA.slot_getitem.lookup ?_
      rw [hval, er]
      show Snd c f kp A _ (itemOfBarr b i st) _ z st s
      cases i <;> try exact Snd.stuck
      rename_i k
      obtain ⟨u, rfl⟩ := hi.inj_int
      refine Snd.ite (fun hz => ?_) fun _ => Snd.stuck
      have hz := of_decide_eq_true hz
      cases e : itemAt b k with
      | none => exact Snd.stuck
      | some x =>
        refine Snd.same fun Q E k' => getItem_meets ⟨_, hb, rfl⟩ (by decide) BA.slot_getitem BA.entry_getitem (BA.args_getitem _ _) (BA.meets_getitem (z.ρ r) b.toArray k u x ?_ ?_) ⟨hb, k' _ _ (After.tok h _) (.int _ _)⟩
        · unfold itemAt idxOf at e
          simp only [Builtin.Bytes.fitsIndex, Bool.and_eq_true, decide_eq_true_eq]
          split at e <;> split at e <;> first | (constructor <;> omega) | simp at e
        · rw [List.size_toArray, idxOf_seq]
          unfold itemAt at e
          simpa using e
    | _ => left; rw [hval, er]; exact ⟨_, rfl⟩
  | _ => exact .inl ⟨_, rfl⟩
theorem subE_sound (ok : EOk c p n) (h : Rel c f kp z st s) (hA : AOk A f n st.md) (o i : Expr) (pos : Pos) : Snd c f kp A (eval (.Subscript o i pos) f.env) (subE p o i st) (VP c.B) z st s := by
  show Snd c f kp A (eval o f.env >>= fun ov => PySem.holding [ov] (eval i f.env) >>= fun iv => PySem.standAt pos >>= fun _ => getitemInPython ov >>= fun b => subscripted i b ov iv >>= fun r => letTemporaryGo o ov r >>= fun _ => pure r) _ _ z st s
  refine Snd.bind (ok.expr h hA o) fun ov st1 va z1 s1 _ af1 pa => ?_
  refine Snd.bind (Snd.holding (ok.expr af1.rel (hA.after af1) i)) fun iv st2 vb z2 s2 _ af2 pb => ?_
  refine Snd.standAt af2.rel ?_
  exact Snd.item (getItemV_sound af2.rel (af2.vr pa) pb)
end
end Mine
namespace Mine
open PySem PySem.W PySem.Calls PyProof.Rows
section
variable (K : Frag) (p : Ev)
def storeAttr (o : Expr) (a : Str) (v : V) : M Unit := bind (p.expr o) fun ov => writeAttr K ov a v
def storeItem (o i : Expr) (v : V) : M Unit := bind (p.expr o) fun ov => bind (p.expr i) fun iv => setItemV ov iv v
def storeTup (ts : List Expr) (v : V) : M Unit := match namesOf ts with
  | some xs => bind (unpackV v xs.length) fun vs => setLocs xs vs
  | Option.none => stuck "unpack target"
def assignTo (t : Expr) (v : V) : M Unit := match t with
  | .Name x _ => setLoc x v
  | .Attribute o a _ => storeAttr K p o a v
  | .Subscript o i _ => storeItem p o i v
  | .Tuple ts _ _ => storeTup ts v
  | _ => stuck "target"
end
section
variable {c : Cx} {p : Ev} {n : Nat} {f : Fm} {kp : List Addr} {A : Around} {z : Sit} {st : St} {s : Shared}
theorem setLoc_sound (hA : AOk A f n st.md) (h : Rel c f kp z st s) (x : Str) {v : V} {u : Value} (hv : VR z.ρ st.nxt c.B v u) : Snd c f kp A (storeName f.env x u) (setLoc x v st) UP z st s := by
  unfold setLoc
  by_cases hx : nid x = 0
  · rw [if_pos hx]; trivial
  rw [if_neg hx]
  obtain ⟨m, hn, hl⟩ := h.loc
  have hlx := hl x hx
  cases e : look (nid x) st.loc with
  | none => trivial
  | some sl =>
    rw [e] at hlx
    have hp : (f.env.scope.kind == .class || (f.env.scope.kind == .module && f.env.locals != f.env.globals)) = false := by rw [hA.good.kind]; rfl
    have go : f.env.kindOf x = some .local → Snd c f kp A (storeName f.env x u) (.ok () { st with loc := put (nid x) (.val v) st.loc }) UP z st s := fun hk =>
      Snd.of fun Q E k => wpAny_storeName_local hk hn (fun h' hn' hs' => k _ z _ (Rel.store h hx e hk hn hl hn' hs' hv) trivial) hp
    cases sl with
    | glob => trivial
    | unset => exact go hlx.1
    | val w => exact go hlx.1
    | cell i own =>
      obtain ⟨k, hi, hc', _⟩ := hlx
      cases own with
      | false => trivial
      | true =>
        show Snd c f kp A _ (match true, st.obj i with | true, .cell _ => R.ok () (st.set i (.cell (some v))) | _, _ => R.stuck "store of a free name") UP z st s
        have ho := h.objs i hi
        cases eo : st.obj i <;> try trivial
        rw [eo] at ho
        obtain ⟨u0, hcell, _⟩ := ho
        refine Snd.of fun Q E k' => wpAny_storeName_cell hA.good.kind k hc' hcell fun h' hn' hs' => k' _ z _ (Rel.turn h hi (.inl rfl) hs' ?_ (fun q => by cases q) ⟨_, hn', .some hv⟩) trivial
        obtain ⟨o, e, _⟩ := hn'
        rw [e]; rfl
theorem bindName_sound (hA : AOk A f n st.md) (h : Rel c f kp z st s) (x : Str) {v : V} {u : Value} (hv : VR z.ρ st.nxt c.B v u) : Snd c f kp A (bindName f.env x u) (setLoc x v st) UP z st s :=
  Snd.wrap (fun _ _ k => wpAny_bindName k) (setLoc_sound hA h x hv)
theorem assignName_sound (hA : AOk A f n st.md) (h : Rel c f kp z st s) (x : Str) (pos : Pos) {v : V} {u : Value} (hv : VR z.ρ st.nxt c.B v u) : Snd c f kp A (assign (.Name x pos) f.env u) (setLoc x v st) UP z st s := by
  show Snd c f kp A (PySem.standAt pos >>= fun _ => bindName f.env x u) _ _ z st s
  exact Snd.standAt h (bindName_sound hA h x hv)
theorem Snd.calm {α β : Type} {t : Sem α} {m : M β} {P : Sit → Nat → β → α → Prop} (h : st.md.hd = false → Snd c f kp A t (m st) P z st s) : Snd c f kp A t (Mine.calm m st) P z st s := by
  unfold Mine.calm
  cases q : st.md.hd with
  | true => trivial
  | false => exact h q
theorem Snd.after {α : Type} {t : Sem α} {t' : α → Sem Unit} {r : R Unit} {P : Sit → Nat → Unit → α → Prop} (h : Snd c f kp A t r P z st s) (W : ∀ (a : α) (Q : Unit → Shared → Prop) (E : Value → Shared → Prop) (s' : Shared), Q () s' → wpAny (model c.prog c.w) A (t' a) Q E s') : Snd c f kp A (t >>= t') r UP z st s := by
  cases r with
  | stuck w => trivial
  | err cls fs st' => exact wpAny_bind (wpAny_mono h (fun _ _ h => h.elim) fun _ _ h => h)
  | ok x st' => exact wpAny_bind (wpAny_mono h (fun v s' ⟨z', a, _⟩ => W v _ _ _ ⟨z', a, trivial⟩) fun _ _ h => h)
theorem assignAttr_sound (hc : c.Ok) (ok : EOk c p n) (hA : AOk A f n st.md) (h : Rel c f kp z st s) (o : Expr) (a : Str) (pos : Pos) {v : V} {u : Value} (hv : VR z.ρ st.nxt c.B v u) : Snd c f kp A (assign (.Attribute o a pos) f.env u) (storeAttr c.K p o a v st) UP z st s := by
  show Snd c f kp A (PySem.holding [u] (eval o f.env) >>= fun ov => PySem.standAt pos.atName >>= fun _ => PySem.holding [u, ov] (setAttr ov a u) >>= fun _ => PySem.release [u, ov] []) _ _ z st s
  refine Snd.bind (Snd.holding (ok.expr h hA o)) fun ov st1 va z1 s1 _ af1 pa => ?_
  refine Snd.standAt af1.rel ?_
  exact Snd.after (Snd.holding (writeAttr_sound hc af1.rel a pa (af1.vr hv))) fun _ _ _ _ k => wpAny_release k
theorem assignItem_sound (ok : EOk c p n) (hA : AOk A f n st.md) (h : Rel c f kp z st s) (o i : Expr) (pos : Pos) {v : V} {u : Value} (hv : VR z.ρ st.nxt c.B v u) : Snd c f kp A (assign (.Subscript o i pos) f.env u) (storeItem p o i v st) UP z st s := by
  show Snd c f kp A (PySem.holding [u] (eval o f.env) >>= fun ov => PySem.holding [u, ov] (eval i f.env) >>= fun iv => PySem.standAt pos >>= fun _ => PySem.holding [u, ov, iv] (setItem ov iv u) >>= fun _ => PySem.release (match i with | .Slice _ _ none _ => [iv, u, ov] | _ => [u, ov, iv]) []) _ _ z st s
  refine Snd.bind (Snd.holding (ok.expr h hA o)) fun ov st1 va z1 s1 _ af1 pa => ?_
  refine Snd.bind (Snd.holding (ok.expr af1.rel (hA.after af1) i)) fun iv st2 vb z2 s2 _ af2 pb => ?_
  refine Snd.standAt af2.rel ?_
  exact Snd.after (Snd.holding (setItemV_sound af2.rel (af2.vr pa) pb (af2.vr (af1.vr hv)))) fun _ _ _ _ k => wpAny_release k
theorem Rel.ext {a : Addr} {h' : Heap} (h : Rel c f kp z st s) (ha : s.heap.get? a = none) (x : Heap.ExtBut a s.heap h') : After c f kp z st s z st { s with heap := h' } :=
  h.grown fun b o e => x b o (fun q => by rw [q, ha] at e; cases e) e
theorem unpackV_sound (hA : AOk A f n st.md) (h : Rel c f kp z st s) {v : V} {u : Value} (hv : VR z.ρ st.nxt c.B v u) (k : Nat) : Snd c f kp A (unpackItems u k none) (unpackV v k st) (VsP c.B) z st s := by
  unfold unpackV
  cases v with
  | ref r =>
    obtain ⟨rfl, hr⟩ := hv.inj_ref
    refine Snd.getO fun hr => ?_
    cases er : st.obj r <;> try exact Snd.stuck
    · obtain ⟨vs, ep, e1, r1⟩ := h.lst hr er
      refine Snd.iteP (fun q => ?_) fun _ => Snd.stuck
      refine Snd.calm fun hd => ?_
      subst q
      refine Snd.same fun Q E k' => ?_
      rw [← r1.size]
      exact kun_itemsOf (hA.handled hd) ⟨_, e1, rfl, ep, rfl⟩ fun h' x => k' _ _ (h.ext (get?_size _) x) r1
    · obtain ⟨vs, e1, r1⟩ := h.tpl hr er
      refine Snd.iteP (fun q => ?_) fun _ => Snd.stuck
      refine Snd.calm fun hd => ?_
      subst q
      refine Snd.same fun Q E k' => ?_
      rw [← r1.size]
      exact wpAny_unpackItems_tuple (hA.handled hd) ⟨_, e1, rfl, _, rfl⟩ fun h' x => k' _ _ (h.ext (get?_size _) x) r1
  | _ => exact Snd.stuck
theorem namesOf_each : ∀ (ts : List Expr) {xs : List Str}, namesOf ts = some xs → ∀ env, assignEach ts env = (List.zip ts xs).map (fun q => (false, assign q.1 env)) ∧ ts.length = xs.length ∧ ∀ q ∈ List.zip ts xs, ∃ pos, q.1 = .Name q.2 pos
  | [], xs, e, env => by cases e; exact ⟨rfl, rfl, fun q hq => by cases hq⟩
  | t :: ts, xs, e, env => by
    cases t <;> try cases e
    rename_i x pos
    unfold namesOf at e
    cases e1 : namesOf ts with
    | none => rw [e1] at e; cases e
    | some ys =>
      rw [e1] at e
      cases e
      obtain ⟨a, b, d⟩ := namesOf_each ts e1 env
      refine ⟨?_, by simp [b], fun q hq => ?_⟩
      · show (false, assign (.Name x pos) env) :: assignEach ts env = _
        rw [a]; rfl
      · rcases List.mem_cons.mp hq with rfl | hq
        · exact ⟨pos, rfl⟩
        · exact d q hq
theorem setLocs_sound (ts : List Expr) : ∀ (xs : List Str) {z st s} (vs : List V) (us : List Value), ts.length = xs.length → (∀ q ∈ List.zip ts xs, ∃ pos, q.1 = Expr.Name q.2 pos) → AOk A f n st.md → Rel c f kp z st s → VRs z.ρ st.nxt c.B vs us →
    Snd c f kp A (assignInOrder (((List.zip ts xs).map (fun q => (false, assign q.1 f.env))).map (·.2)) us) (setLocs xs vs st) UP z st s := by
  induction ts with
  | nil =>
    intro xs z st s vs us hl _ hA h hv
    cases xs with
    | cons x xs => cases hl
    | nil =>
      cases hv with
      | nil => exact Snd.pure h trivial
      | cons _ _ => exact Snd.stuck
  | cons t ts ih =>
    intro xs z st s vs us hl hq hA h hv
    cases xs with
    | nil => cases hl
    | cons x xs =>
      cases hv with
      | nil => exact Snd.stuck
      | @cons v u vs us hv hr =>
        obtain ⟨pos, e⟩ := hq (t, x) (.head _)
        have e : t = .Name x pos := e
        subst e
        show Snd c f kp A (PySem.holding us (assign (.Name x pos) f.env u) >>= fun _ => assignInOrder (((List.zip ts xs).map (fun q => (false, assign q.1 f.env))).map (·.2)) us) (Mine.bind (setLoc x v) (fun _ => setLocs xs vs) st) _ z st s
        refine Snd.bind (Snd.holding (assignName_sound hA h x pos hv)) fun _ st1 _ z1 s1 _ af1 _ => ?_
        exact ih xs vs us (by simpa using hl) (fun q hm => hq q (.tail _ hm)) (hA.after af1) af1.rel (af1.vrs hr)
theorem assignTup_sound (hA : AOk A f n st.md) (h : Rel c f kp z st s) (ts : List Expr) (k : Nat) (pos : Pos) {v : V} {u : Value} (hv : VR z.ρ st.nxt c.B v u) : Snd c f kp A (assign (.Tuple ts k pos) f.env u) (storeTup ts v st) UP z st s := by
  unfold storeTup
  cases e : namesOf ts with
  | none => exact Snd.stuck
  | some xs =>
    obtain ⟨a, b, d⟩ := namesOf_each ts e f.env
    show Snd c f kp A (PySem.standAt pos >>= fun _ => unpack u (assignEach ts f.env)) _ _ z st s
    refine Snd.standAt h ?_
    rw [a]
    unfold unpack
    have hlen : ((List.zip ts xs).map (fun q => (false, assign q.1 f.env))).length = xs.length := by simp [b]
    have hstar : ((List.zip ts xs).map (fun q => (false, assign q.1 f.env))).findIdx? (·.1) = none := by
      rw [List.findIdx?_eq_none_iff]
      intro q hq
      obtain ⟨q', _, rfl⟩ := List.mem_map.mp hq
      rfl
    rw [hlen, hstar]
    refine Snd.bind (Snd.holding (unpackV_sound hA h hv xs.length)) fun vs st1 us z1 s1 _ af1 pa => ?_
    exact setLocs_sound ts xs vs us b d (hA.after af1) af1.rel pa
theorem assignTo_sound (hc : c.Ok) (ok : EOk c p n) (hA : AOk A f n st.md) (h : Rel c f kp z st s) (t : Expr) {v : V} {u : Value} (hv : VR z.ρ st.nxt c.B v u) : Snd c f kp A (assign t f.env u) (assignTo c.K p t v st) UP z st s := by
  cases t with
  | Name x pos => exact assignName_sound hA h x pos hv
  | Attribute o a pos => exact assignAttr_sound hc ok hA h o a pos hv
  | Subscript o i pos => exact assignItem_sound ok hA h o i pos hv
  | Tuple ts k pos => exact assignTup_sound hA h ts k pos hv
  | _ => exact Snd.stuck
end
end Mine
namespace Mine
open PySem PySem.W PySem.Calls PyProof.Rows
def notComp : Expr → Bool
  | .ListComp .. => false
  | .SetComp .. => false
  | .DictComp .. => false
  | _ => true
def isTup : Expr → Bool
  | .Tuple .. => true
  | .List .. => true
  | _ => false
def localIn (l : List (Nat × Slot)) (x : Str) : Bool := nid x != 0 && (match look (nid x) l with
  | some .glob => false
  | some (.cell _ _) => false
  | some _ => true
  | Option.none => false)
section
variable (K : Frag) (p : Ev)
def exprS (e : Expr) : M Fl := if notComp e then bind (p.expr e) fun _ => ret .next else stuck "a comprehension that is dropped"
def assignS (t e : Expr) : M Fl := bind (p.expr e) fun v => bind (assignTo K p t v) fun _ => ret .next
def swapS (xs : List Str) (e : Expr) : M Fl := bind (p.expr e) fun v => fun s => if xs.all (localIn s.loc) then (bind (unpackV v xs.length) fun vs => bind (setLocs xs.reverse vs.reverse) fun _ => ret .next) s else .stuck "a name that is not local"
def augN (x : Str) (op : Operator) (e : Expr) : M Fl := bind (nameV K x) fun old => bind (p.expr e) fun v => bind (inplV op old v) fun nw => bind (setLoc x nw) fun _ => ret .next
def augA (o : Expr) (a : Str) (op : Operator) (e : Expr) : M Fl := bind (p.expr o) fun ov => bind (readAttr K ov a) fun old => bind (p.expr e) fun v => bind (inplV op old v) fun nw => bind (writeAttr K ov a nw) fun _ => ret .next
def ifS (c : Expr) (a b : List Stmt) : M Fl := bind (p.test c) fun t => if t then execL p a else execL p b
def retS : Option Expr → M Fl
  | some e => bind (p.expr e) fun v => ret (.ret v)
  | Option.none => ret (.ret .none)
end
section
variable {c : Cx} {p : Ev} {n : Nat} {f : Fm} {kp : List Addr} {A : Around} {z : Sit} {st : St} {s : Shared}
theorem execL_sound (ok : EOk c p n) : ∀ (bs : List Stmt) {z st s}, Rel c f kp z st s → AOk A f n st.md → Snd c f kp A (execs bs f.env) (execL p bs st) (FlR c.B) z st s
  | [], z, st, s, h, hA => Snd.pure h trivial
  | b :: bs, z, st, s, h, hA => by
    show Snd c f kp A (exec b f.env >>= fun fl => match fl with | .next => execs bs f.env | fl => pure fl) (Mine.bind (p.stmt b) (fun fl => match fl with | .next => execL p bs | fl => ret fl) st) _ z st s
    refine Snd.bind (ok.stmt h hA b) fun x st1 v z1 s1 _ af1 pa => ?_
    cases x <;> cases v <;> first | exact pa.elim | skip
    · exact execL_sound ok bs af1.rel (hA.after af1)
    · exact Snd.pure af1.rel trivial
    · exact Snd.pure af1.rel trivial
    · exact Snd.pure af1.rel pa
theorem swaps_none {e : Expr} (h : notComp e = true) (t : Option Expr) (l : Nat) (env : Env) : swapsWith e t l env = pure false := by
  cases e <;> first | rfl | cases h
theorem exprS_sound (ok : EOk c p n) (h : Rel c f kp z st s) (hA : AOk A f n st.md) (e : Expr) (pos : Pos) : Snd c f kp A (exec (.Expr e pos) f.env) (exprS p e st) (FlR c.B) z st s := by
  unfold exprS
  refine Snd.ite (fun hn => ?_) fun _ => Snd.stuck
  have hi : interactive f.env = false := by
    unfold interactive
    rw [hA.good.kind]
    rfl
  have e0 : exec (.Expr e pos) f.env = (PySem.standAt pos >>= fun _ => eval e f.env >>= fun v => dropValue e pos v) := by
    show (PySem.standAt pos >>= fun _ => if interactive f.env = true then printExpr (eval e f.env) else swapsWith e none pos.line f.env >>= fun b => if b = true then (evalThenUse e f.env fun _ => point) >>= fun _ => pure .next else eval e f.env >>= fun v => dropValue e pos v) = _
    rw [hi, swaps_none hn]
    rfl
  rw [e0]
  refine Snd.standAt h ?_
  refine Snd.bind (ok.expr h hA e) fun x st1 v z1 s1 _ af1 pa => ?_
  exact Snd.of fun Q E k => wpAny_dropValue (k _ _ _ (After.refl af1.rel) trivial)
theorem retS_sound (ok : EOk c p n) (h : Rel c f kp z st s) (hA : AOk A f n st.md) (e : Option Expr) (pos : Pos) : Snd c f kp A (exec (.Return e pos) f.env) (retS p e st) (FlR c.B) z st s := by
  cases e with
  | none =>
    show Snd c f kp A (PySem.standAt pos >>= fun _ => pure (Flow.ret .none)) _ _ z st s
    exact Snd.standAt h (Snd.pure h .none)
  | some e =>
    show Snd c f kp A (PySem.standAt pos >>= fun _ => eval e f.env >>= fun v => pure (Flow.ret v)) _ _ z st s
    refine Snd.standAt h ?_
    refine Snd.bind (ok.expr h hA e) fun x st1 v z1 s1 _ af1 pa => ?_
    exact Snd.pure af1.rel pa
theorem ifS_sound (ok : EOk c p n) (h : Rel c f kp z st s) (hA : AOk A f n st.md) (t : Expr) (a b : List Stmt) (pos : Pos) : Snd c f kp A (exec (.If t a b pos) f.env) (ifS p t a b st) (FlR c.B) z st s := by
  rw [exec_If]
  refine Snd.standAt h ?_
  refine Snd.bind (ok.test h hA t) fun x st1 v z1 s1 _ af1 pa => ?_
  cases pa
  cases x
  · exact execL_sound ok b af1.rel (hA.after af1)
  · exact execL_sound ok a af1.rel (hA.after af1)
theorem augN_sound (hc : c.Ok) (ok : EOk c p n) (h : Rel c f kp z st s) (hA : AOk A f n st.md) (x : Str) (np : Pos) (op : Operator) (e : Expr) (pos : Pos) : Snd c f kp A (exec (.AugAssign (.Name x np) op e pos) f.env) (augN c.K p x op e st) (FlR c.B) z st s := by
  rw [exec_AugAssign_Name]
  refine Snd.standAt h ?_
  refine Snd.bind (loadName_sound hc h hA.good x) fun old st1 vo z1 s1 _ af1 po => ?_
  refine Snd.bind (Snd.holding (ok.expr af1.rel (hA.after af1) e)) fun v st2 vv z2 s2 _ af2 pv => ?_
  refine Snd.standAt af2.rel ?_
  refine Snd.bind (Snd.operate (inplV_sound af2.rel op (af2.vr po) pv)) fun w st3 vw z3 s3 _ af3 pw => ?_
  refine Snd.standAt af3.rel ?_
  refine Snd.bind (bindName_sound (((hA.after af1).after af2).after af3) af3.rel x pw) fun _ st4 _ z4 s4 _ af4 _ => ?_
  exact Snd.pure af4.rel trivial
theorem augA_sound (hc : c.Ok) (ok : EOk c p n) (h : Rel c f kp z st s) (hA : AOk A f n st.md) (o : Expr) (a : Str) (tp : Pos) (op : Operator) (e : Expr) (pos : Pos) : Snd c f kp A (exec (.AugAssign (.Attribute o a tp) op e pos) f.env) (augA c.K p o a op e st) (FlR c.B) z st s := by
  show Snd c f kp A (PySem.standAt pos >>= fun _ => eval o f.env >>= fun ov => PySem.holding [ov] (PySem.standAt tp.atName >>= fun _ => getAttr ov a true >>= fun old => PySem.holding [old] (eval e f.env) >>= fun v => PySem.standAt pos >>= fun _ => PySem.operate [old, v] (inplaceOp op old v)) >>= fun nw => PySem.standAt tp.atName >>= fun _ => PySem.holding [nw, ov] (setAttr ov a nw) >>= fun _ => PySem.release [nw, ov] [] >>= fun _ => pure Flow.next)
    (Mine.bind (p.expr o) (fun ov => Mine.bind (readAttr c.K ov a) fun old => Mine.bind (p.expr e) fun v => Mine.bind (inplV op old v) fun nw => Mine.bind (writeAttr c.K ov a nw) fun _ => ret Fl.next) st) _ z st s
  have assoc : ∀ (ov : V) (st : St), (Mine.bind (readAttr c.K ov a) fun old => Mine.bind (p.expr e) fun v => Mine.bind (inplV op old v) fun nw => Mine.bind (writeAttr c.K ov a nw) fun _ => ret Fl.next) st = (Mine.bind (Mine.bind (readAttr c.K ov a) fun old => Mine.bind (p.expr e) fun v => inplV op old v) fun nw => Mine.bind (writeAttr c.K ov a nw) fun _ => ret Fl.next) st := by
    intro ov st
    unfold Mine.bind
    cases readAttr c.K ov a st with
    | stuck w => rfl
    | err _ _ _ => rfl
    | ok old st1 =>
      dsimp only
      cases p.expr e st1 <;> rfl
  refine Snd.standAt h ?_
  refine Snd.bind (ok.expr h hA o) fun ov st1 vo z1 s1 _ af1 po => ?_
  rw [assoc]
  refine Snd.bind (P := VP c.B) (Snd.holding ?_) fun w st3 vw z3 s3 _ af3 pw => ?_
  · refine Snd.standAt af1.rel ?_
    refine Snd.bind (readAttr_sound hc af1.rel a true po) fun old st2 vold z2 s2 _ af2 pold => ?_
    refine Snd.bind (Snd.holding (ok.expr af2.rel ((hA.after af1).after af2) e)) fun v st3 vv z3 s3 _ af3 pv => ?_
    exact Snd.standAt af3.rel (Snd.operate (inplV_sound af3.rel op (af3.vr pold) pv))
  · refine Snd.standAt af3.rel ?_
    refine Snd.bind (Snd.holding (writeAttr_sound hc af3.rel a (af3.vr po) pw)) fun _ st4 _ z4 s4 _ af4 _ => ?_
    exact Snd.release af4.rel (Snd.pure af4.rel trivial)
theorem assignS_sound (hc : c.Ok) (ok : EOk c p n) (h : Rel c f kp z st s) (hA : AOk A f n st.md) (t e : Expr) (pos : Pos) (hn : notComp e = true) (ht : plainE t = true) (hs : (isTup t && isTup e) = false) : Snd c f kp A (exec (.Assign [t] e pos) f.env) (assignS c.K p t e st) (FlR c.B) z st s := by
  have e1 : assignEach [t] f.env = [(false, assign t f.env)] := by cases t <;> first | rfl | cases ht
  have e2 : swappedStores [t] e f.env = pure none := by
    cases t <;> first
      | rfl
      | (cases e <;> first | rfl | cases hs)
  have e0 : exec (.Assign [t] e pos) f.env = (PySem.standAt pos >>= fun _ => eval e f.env >>= fun v => assign t f.env v >>= fun _ => pure .next) := by
    show (PySem.standAt pos >>= fun _ => swapsWith e (some t) pos.line f.env >>= fun b => if b = true then (evalThenUse e f.env fun v => assignAll v ((assignEach [t] f.env).map (·.2))) >>= fun _ => pure .next else eval e f.env >>= fun v => swappedStores [t] e f.env >>= fun sw => assignStores f.env v sw ((assignEach [t] f.env).map (·.2))) = _
    rw [swaps_none hn, e2, e1]
    rfl
  rw [e0]
  refine Snd.standAt h ?_
  refine Snd.bind (ok.expr h hA e) fun v st1 vv z1 s1 _ af1 pv => ?_
  refine Snd.bind (assignTo_sound hc ok (hA.after af1) af1.rel t pv) fun _ st4 _ z4 s4 _ af4 _ => ?_
  exact Snd.pure af4.rel trivial
end
end Mine
namespace Mine
open PySem PySem.W PySem.Calls PyProof.Rows
def noErr {α : Type} (m : M α) : M α := fun s => match m s with
  | .ok a s' => .ok a s'
  | .err _ _ _ => .stuck "an exception in a loop"
  | .stuck w => .stuck w
section
variable (K : Frag) (p : Ev)
def forL (gd : St → Bool) (mk : Nat → V → St → V × St) (t : Expr) (body orelse : List Stmt) : Nat → List V → M Fl
  | _, [] => execL p orelse
  | k, x :: r => fun s => bind (assignTo K p t (mk k x s).1) (fun _ => bind (execL p body) fun fl => match fl with
    | .brk => ret .next
    | .ret w => ret (.ret w)
    | _ => fun s' => if gd s' then forL gd mk t body orelse (k + 1) r s' else .stuck "loop") (mk k x s).2
end
section
variable {c : Cx} {p : Ev} {n : Nat} {f : Fm} {kp : List Addr} {A : Around} {z : Sit} {st : St} {s : Shared}
structure Apart (c : Cx) (f : Fm) (kp : List Addr) (z : Sit) (m : Nat) (a : Addr) : Prop where
  L : a ≠ f.L
  frs : a ∉ f.frs
  base : c.B.get? a = none
  kp : a ∉ kp
  ours : ∀ i, i < m → a ≠ z.ρ i ∧ a ≠ z.δ i
theorem Rel.fresh (h : Rel c f kp z st s) {a : Addr} (ha : s.heap.get? a = none) : Apart c f kp z st.nxt a := by
  have no : (s.heap.get? a).isSome = true → False := fun e => by rw [ha] at e; cases e
  refine ⟨fun e => ?_, fun hm => ?_, ?_, fun hm => no (h.kps a hm).1, fun i hi => ⟨fun e => no (h.own i hi a (.inl e)).2.2.2.2.1, fun e => no (h.own i hi a (.inr e)).2.2.2.2.1⟩⟩
  · obtain ⟨m, ⟨o, _, _, e', _⟩, _⟩ := h.loc
    rw [e] at ha
    have e' : s.heap.get? f.L = some o := e'
    rw [ha] at e'
    cases e'
  · obtain ⟨env, he, hf⟩ := List.mem_filterMap.mp (List.mem_filter.mp hm).1
    obtain ⟨_, ⟨L, o, e1, e2, e3, e4⟩⟩ := funFrames_mem h.frames he
    rw [hf] at e1
    cases e1
    exact no (by rw [e3]; rfl)
  · cases q : c.B.get? a with
    | none => rfl
    | some ob => rw [h.base a ob q] at ha; cases ha
theorem Rel.hold (h : Rel c f kp z st s) {a : Addr} (ha : (s.heap.get? a).isSome = true) (x : Apart c f kp z st.nxt a) : Rel c f (a :: kp) z st s :=
  ⟨h.base, h.loc, h.objs, fun i hi b hb => by
    obtain ⟨p1, p2, p3, p4, p5, p6⟩ := h.own i hi b hb
    refine ⟨p1, fun hm => ?_, p3, p4, p5, p6⟩
    rcases List.mem_cons.mp hm with rfl | hm
    · rcases hb with e | e
      · exact (x.ours i hi).1 e
      · exact (x.ours i hi).2 e
    · exact p2 hm, h.apart, fun b hb => by
    rcases List.mem_cons.mp hb with rfl | hb
    · exact ⟨ha, x.L, x.frs, x.base⟩
    · exact h.kps b hb, h.frames, h.bL, h.gens, h.os⟩
theorem Rel.drop {a : Addr} (h : Rel c f (a :: kp) z st s) : Rel c f kp z st s :=
  ⟨h.base, h.loc, h.objs, fun i hi b hb => by
    obtain ⟨p1, p2, p3, p4, p5, p6⟩ := h.own i hi b hb
    exact ⟨p1, fun hm => p2 (.tail _ hm), p3, p4, p5, p6⟩, h.apart, fun b hb => h.kps b (.tail _ hb), h.frames, h.bL, h.gens, h.os⟩
theorem After.drop {a : Addr} {z' : Sit} {st' : St} {s' : Shared} (h : After c f (a :: kp) z st s z' st' s') : After c f kp z st s z' st' s' :=
  ⟨h.rel.drop, h.nxt, h.same, fun b hb => h.keep b (.tail _ hb), h.frm, h.hd⟩
theorem Rel.out {a : Addr} (h : Rel c f (a :: kp) z st s) (hk : a ∉ kp) : Apart c f kp z st.nxt a := by
  obtain ⟨p1, p2, p3, p4⟩ := h.kps a (.head _)
  exact ⟨p2, p3, p4, hk, fun i hi => ⟨fun e => (h.own i hi a (.inl e)).2.1 (.head _), fun e => (h.own i hi a (.inr e)).2.1 (.head _)⟩⟩
theorem Rel.off {a : Addr} {h' : Heap} (h : Rel c f kp z st s) (x : Apart c f kp z st.nxt a) (hs : Heap.ExtBut a s.heap h') : After c f kp z st s z st { s with heap := h' } :=
  h.heap fun b o hb e => hs b o (fun q => by
    subst q
    rcases hb with q | (q | ⟨i, hi, q | q⟩) | q | q
    · rw [x.base] at q; cases q
    · exact x.kp q
    · exact (x.ours i hi).1 q
    · exact (x.ours i hi).2 q
    · exact x.frs q
    · exact x.L q) e
structure Src (c : Cx) (f : Fm) (kp : List Addr) (A : Around) (ρ₀ : Nat → Addr) (m₀ : Nat) (it : Addr) (t : Expr) (gd : St → Bool) (mk : Nat → V → St → V × St) (items : List V) (I : Nat → Heap → Prop) : Prop where
  stay : ∀ k h h', I k h → (∀ b ∈ it :: kp, ∀ o, h.get? b = some o → h'.get? b = some o) → I k h'
  next : ∀ {k x z st s}, m₀ ≤ st.nxt → (∀ i, i < m₀ → z.ρ i = ρ₀ i) → items[k]? = some x → Rel c f (it :: kp) z st s → gd st = true → I k s.heap → wpAny (model c.prog c.w) A (pyNext (.ref it)) (fun r s₁ => ∃ v, r = some v ∧ wpAny (model c.prog c.w) A (letOwnedTupleGo t (.ref it) v)
    (fun _ s₂ => ∃ z', After c f kp z st s z' (mk k x st).2 s₂ ∧ Rel c f (it :: kp) z' (mk k x st).2 s₂ ∧ VR z'.ρ (mk k x st).2.nxt c.B (mk k x st).1 v ∧ I (k + 1) s₂.heap) (fun _ _ => False) s₁) (fun _ _ => False) s
  stop : ∀ {k z st s}, m₀ ≤ st.nxt → (∀ i, i < m₀ → z.ρ i = ρ₀ i) → items[k]? = none → Rel c f (it :: kp) z st s → gd st = true → I k s.heap → A.handled = none → wpAny (model c.prog c.w) A (pyNext (.ref it)) (fun r s₁ => r = none ∧ After c f kp z st s z st s₁) (fun _ _ => False) s
theorem Snd.noErr {α β : Type} {t : Sem α} {m : M β} {P : Sit → Nat → β → α → Prop} (h : ∀ x st', m st = .ok x st' → Snd c f kp A t (.ok x st') P z st s) : Snd c f kp A t (Mine.noErr m st) P z st s := by
  unfold Mine.noErr
  cases e : m st with
  | stuck w => trivial
  | err _ _ _ => trivial
  | ok x st' => exact h x st' e
theorem bind_ok {α β : Type} {m : M α} {k : α → M β} {x : β} {st' : St} (e : Mine.bind m k st = .ok x st') : ∃ a s1, m st = .ok a s1 ∧ k a s1 = .ok x st' := by
  unfold Mine.bind at e
  cases q : m st with
  | stuck w => rw [q] at e; cases e
  | err _ _ _ => rw [q] at e; cases e
  | ok a s1 => rw [q] at e; exact ⟨a, s1, rfl, e⟩
theorem forL_sound (hc : c.Ok) (ok : EOk c p n) {it : Addr} {t : Expr} {gd : St → Bool} {mk : Nat → V → St → V × St} {items : List V} {I : Nat → Heap → Prop} (hk : it ∉ kp) (src : Src c f kp A z.ρ st.nxt it t gd mk items I) (body orelse : List Stmt)
    (h : Rel c f (it :: kp) z st s) (hA : AOk A f n st.md) (hd : st.md.hd = false) (hg : gd st = true) (h0 : I 0 s.heap) :
    Snd c f kp A (runOwn (.forLoop t (.ref it) body orelse f.env) f.env) (Mine.noErr (forL c.K p gd mk t body orelse 0 items) st) (FlR c.B) z st s := by
  refine Snd.noErr fun fin stf hfin => ?_
  refine wpAny_runOwn ?_
  refine codeAny_forLoop_any (R := fun r s' => match r with | .ok fl => ∃ z', After c f kp z st s z' stf s' ∧ FlR c.B z' stf.nxt fin fl | .error e => cameBackBy (model c.prog c.w) A f.env (fun _ _ => False) e s')
    (fun m s' => ∃ k rest z' st', m = rest.length + 1 ∧ rest = items.drop k ∧ After c f kp z st s z' st' s' ∧ Rel c f (it :: kp) z' st' s' ∧ gd st' = true ∧ I k s'.heap ∧ forL c.K p gd mk t body orelse k rest st' = .ok fin stf)
    ?_ (items.length + 1) ⟨0, items, z, st, rfl, rfl, After.refl h.drop, h, hg, h0, hfin⟩
  rintro m s' ⟨k, rest, z', st', rfl, hrest, af, hr, hg', hI, hfl⟩
  have hA' := hA.after af
  have hd' : st'.md.hd = false := by rw [af.hd]; exact hd
  cases rest with
  | nil =>
    have hnone : items[k]? = none := List.getElem?_eq_none (by have := congrArg List.length hrest; simp at this; omega)
    refine wpAny_mono (src.stop af.nxt (fun i hi => (af.same i hi).1) hnone hr hg' hI (hA.handled hd)) (fun r s₁ hq => ?_) fun _ _ q => q.elim
    obtain ⟨rfl, af1⟩ := hq
    have := execL_sound ok orelse af1.rel hA'
    rw [show execL p orelse st' = .ok fin stf from hfl] at this
    exact wpAny_mono this (fun fl s₃ ⟨z₃, af3, hf⟩ => ⟨z₃, (af.trans af1).trans af3, hf⟩) fun _ _ q => q.elim
  | cons x rest =>
    have hx : items[k]? = some x := by
      have := congrArg (·[0]?) hrest
      simp at this
      exact this.symm
    have hrest' : rest = items.drop (k + 1) := by
      have := congrArg List.tail hrest
      simpa using this
    refine wpAny_mono (src.next af.nxt (fun i hi => (af.same i hi).1) hx hr hg' hI) (fun r s₁ hq => ?_) fun _ _ q => q.elim
    obtain ⟨v, rfl, hq⟩ := hq
    refine wpAny_mono hq (fun _ s₂ hq => ?_) fun _ _ q => q.elim
    obtain ⟨z₂, af2, hr2, hv, hI2⟩ := hq
    obtain ⟨_, st3, ea, hfl⟩ := bind_ok hfl
    obtain ⟨flb, st4, eb, hfl⟩ := bind_ok hfl
    have as := assignTo_sound (kp := it :: kp) hc ok (hA'.after af2) hr2 t hv
    rw [ea] at as
    refine wpAny_mono as (fun _ s₃ hq => ?_) fun _ _ q => q.elim
    obtain ⟨z₃, af3, _⟩ := hq
    have bs := execL_sound ok body af3.rel ((hA'.after af2).after af3)
    rw [eb] at bs
    refine wpAny_mono bs (fun fl s₄ hq => ?_) fun _ _ q => q.elim
    obtain ⟨z₄, af4, hf⟩ := hq
    have afAll := ((af.trans af2).trans af3.drop).trans af4.drop
    have hI4 := src.stay _ _ _ hI2 (fun b hb o e => af4.keep b hb o (af3.keep b hb o e))
    cases flb <;> cases fl <;> first | exact hf.elim | skip
    · dsimp only at hfl ⊢
      split at hfl
      · rename_i hg4
        exact ⟨_, Nat.lt_succ_self _, k + 1, rest, z₄, st4, rfl, hrest', afAll, af4.rel, hg4, hI4, hfl⟩
      · cases hfl
    · cases hfl
      exact ⟨z₄, afAll, trivial⟩
    · dsimp only at hfl ⊢
      split at hfl
      · rename_i hg4
        exact ⟨_, Nat.lt_succ_self _, k + 1, rest, z₄, st4, rfl, hrest', afAll, af4.rel, hg4, hI4, hfl⟩
      · cases hfl
    · cases hfl
      exact ⟨z₄, afAll, hf⟩
end
end Mine
namespace Mine
open PySem PySem.W PySem.Calls PyProof.Rows
def notSet : Expr → Bool
  | .Set .. => false
  | _ => true
def still (r : Nat) (o : O) : St → Bool := fun s => decide (s.obj r = o)
def plainMk : Nat → V → St → V × St := fun _ x s => (x, s)
def rngL (a b c : Int) : List V := (rangeL a c (Builtin.Range.rangeSize a b c).toNat).map .int
def enumMk : Nat → V → St → V × St := fun k x s => (.ref s.nxt, s.new (.tup [.int k, x]))
def isTupT : Expr → Bool
  | .Tuple .. => true
  | _ => false
section
variable (K : Frag) (p : Ev)
def loopOver (t : Expr) (body orelse : List Stmt) (v : V) : M Fl := match v with
  | .ref r => calm (bind (getO r) fun o => match o with
    | .list vs => noErr (forL K p (still r (.list vs)) plainMk t body orelse 0 vs)
    | .tup vs => noErr (forL K p (still r (.tup vs)) plainMk t body orelse 0 vs)
    | .rng a b c => if Builtin.Range.small a b c then noErr (forL K p (fun _ => true) plainMk t body orelse 0 (rngL a b c)) else stuck "long range"
    | _ => stuck "loop")
  | _ => stuck "loop"
def forS (t it : Expr) (body orelse : List Stmt) : M Fl := if notSet it then bind (p.expr it) fun v => loopOver K p t body orelse v else stuck "loop over a set"
end
section
variable {c : Cx} {p : Ev} {n : Nat} {f : Fm} {kp : List Addr} {A : Around} {z : Sit} {st : St} {s : Shared}
theorem letGo_other {t : Expr} {r : Addr} {v : Value} {o : Obj} {T : String} {Q : Unit → Shared → Prop} {E : Value → Shared → Prop} (ho : s.heap.get? r = some o) (hc : o.cls = .type T)
    (hn : (["enumerate", "zip", "dict_itemiterator", "dict_reverseitemiterator", "odict_iterator", "itertools.zip_longest", "itertools.pairwise"].contains T) = false) (h : Q () s) : wpAny (model c.prog c.w) A (letOwnedTupleGo t (.ref r) v) Q E s := by
  have go : wpAny (model c.prog c.w) A (do
      let (.ref r, .ref a) := (Value.ref r, v) | return
      let o ← load r
      match o.cls, o.data with
      | .type n, .fields vs =>
        if ["enumerate", "zip", "dict_itemiterator", "dict_reverseitemiterator", "odict_iterator", "itertools.zip_longest", "itertools.pairwise"].contains n && vs[0]? == some (rawInt a) then
          rule "for.unpacks-the-owned-tuple"
          updateField r 0 .none
      | _, _ => pure () : Sem Unit) Q E s := by
    cases v <;> try exact wpAny_pure h
    refine wpAny_bind (wpAny_load ho ?_)
    rw [hc]
    cases o.data <;> try exact wpAny_pure h
    dsimp only
    rw [hn, Bool.false_and]
    exact wpAny_pure h
  cases t <;> first | exact wpAny_pure h | exact go
theorem stayIter {T : String} {it : Addr} {a b : Value} {h h' : Heap} (hk : ∀ x ∈ it :: kp, ∀ o, h.get? x = some o → h'.get? x = some o) (x : ∃ o, h.get? it = some o ∧ o.cls = .type T ∧ o.data = .fields #[a, b]) : ∃ o, h'.get? it = some o ∧ o.cls = .type T ∧ o.data = .fields #[a, b] := by
  obtain ⟨o, e, q⟩ := x
  exact ⟨o, hk it (.head _) o e, q⟩
theorem still_eq {r : Nat} {o : O} {st : St} (h : still r o st = true) : st.obj r = o := of_decide_eq_true h
theorem src_plain {it : Addr} {h' : Heap} {I : Nat → Heap → Prop} {k : Nat} {x : V} {v : Value} {o : Obj} {T : String} {t : Expr} (hr : Rel c f (it :: kp) z st s) (hk : it ∉ kp) (hs : Heap.SameBut it s.heap h') (tk : Nat)
    (ho : h'.get? it = some o) (hcl : o.cls = .type T) (hn : (["enumerate", "zip", "dict_itemiterator", "dict_reverseitemiterator", "odict_iterator", "itertools.zip_longest", "itertools.pairwise"].contains T) = false)
    (hv : VR z.ρ st.nxt c.B x v) (hI : I (k + 1) h') : ∃ v', some v = some v' ∧ wpAny (model c.prog c.w) A (letOwnedTupleGo t (.ref it) v') (fun _ s₂ => ∃ z', After c f kp z st s z' (plainMk k x st).2 s₂ ∧ Rel c f (it :: kp) z' (plainMk k x st).2 s₂ ∧ VR z'.ρ (plainMk k x st).2.nxt c.B (plainMk k x st).1 v' ∧ I (k + 1) s₂.heap) (fun _ _ => False) { s with heap := h', toks := tk } := by
  have ap := hr.out hk
  have af := hr.drop.off ap hs.extBut
  have af2 := af.trans (After.tok af.rel tk)
  exact ⟨v, rfl, letGo_other ho hcl hn ⟨z, af2, af2.rel.hold (by show (h'.get? it).isSome = true; rw [ho]; rfl) ap, hv, hI⟩⟩
theorem src_list {ρ₀ : Nat → Addr} {m₀ r : Nat} {it : Addr} {vs : List V} (t : Expr) (hk : it ∉ kp) (hr : r < m₀) : Src c f kp A ρ₀ m₀ it t (still r (.list vs)) plainMk vs (fun k h => h.IsListIter it (ρ₀ r) k) where
  stay := fun k h h' x hk' => stayIter hk' x
  next := by
    intro k x z st s hm hz hx h hg hI
    obtain ⟨us, ep, e1, r1⟩ := h.lst (Nat.lt_of_lt_of_le hr hm) (still_eq hg)
    rw [hz r hr] at e1
    obtain ⟨v, ev, rv⟩ := r1.get hx
    refine wpAny_pyNext_list_item hI ⟨_, e1, rfl, ep, rfl⟩ (by simpa using ev) fun h' hit hs => ?_
    obtain ⟨o, eo, ec, ed⟩ := id hit
    exact src_plain (I := fun k h => h.IsListIter it (ρ₀ r) k) h hk hs s.toks eo ec (by decide) rv hit
  stop := by
    intro k z st s hm hz hx h hg hI hh
    obtain ⟨us, ep, e1, r1⟩ := h.lst (Nat.lt_of_lt_of_le hr hm) (still_eq hg)
    rw [hz r hr] at e1
    have hn : us[k]? = none := by
      rw [List.getElem?_eq_none_iff] at hx
      rw [Array.getElem?_eq_none_iff, r1.size]
      exact hx
    exact wpAny_pyNext_list_end hh hI ⟨_, e1, rfl, ep, rfl⟩ hn fun h' he => ⟨rfl, h.drop.off (h.out hk) he⟩
theorem src_tup {ρ₀ : Nat → Addr} {m₀ r : Nat} {it : Addr} {vs : List V} (t : Expr) (hk : it ∉ kp) (hr : r < m₀) : Src c f kp A ρ₀ m₀ it t (still r (.tup vs)) plainMk vs (fun k h => h.IsTupleIter it (ρ₀ r) k) where
  stay := fun k h h' x hk' => stayIter hk' x
  next := by
    intro k x z st s hm hz hx h hg hI
    obtain ⟨us, e1, r1⟩ := h.tpl (Nat.lt_of_lt_of_le hr hm) (still_eq hg)
    rw [hz r hr] at e1
    obtain ⟨v, ev, rv⟩ := r1.get hx
    refine wpAny_pyNext_tuple_item hI ⟨_, e1, rfl, _, rfl⟩ (by simpa using ev) fun h' hit hs => ?_
    obtain ⟨o, eo, ec, ed⟩ := id hit
    exact src_plain (I := fun k h => h.IsTupleIter it (ρ₀ r) k) h hk hs s.toks eo ec (by decide) rv hit
  stop := by
    intro k z st s hm hz hx h hg hI hh
    obtain ⟨us, e1, r1⟩ := h.tpl (Nat.lt_of_lt_of_le hr hm) (still_eq hg)
    rw [hz r hr] at e1
    have hn : us[k]? = none := by
      rw [List.getElem?_eq_none_iff] at hx
      rw [Array.getElem?_eq_none_iff, r1.size]
      exact hx
    exact wpAny_pyNext_tuple_end hh hI ⟨_, e1, rfl, _, rfl⟩ hn fun h' he => ⟨rfl, h.drop.off (h.out hk) he⟩
theorem rangeL_get (a c : Int) : ∀ (n k : Nat), (rangeL a c n)[k]? = if k < n then some (a + k * c) else none
  | 0, k => by simp [rangeL]
  | n + 1, 0 => by simp [rangeL]
  | n + 1, k + 1 => by
    rw [rangeL, List.getElem?_cons_succ, rangeL_get (a + c) c n k]
    by_cases q : k < n
    · rw [if_pos q, if_pos (Nat.succ_lt_succ q)]
      congr 1
      have : ((k + 1 : Nat) : Int) = (k : Int) + 1 := by omega
      rw [this, Int.add_mul, Int.one_mul]
      omega
    · rw [if_neg q, if_neg (fun w => q (Nat.lt_of_succ_lt_succ w))]
theorem rngL_get (a b c : Int) (k : Nat) : (rngL a b c)[k]? = if k < (Builtin.Range.rangeSize a b c).toNat then some (V.int (a + k * c)) else none := by
  unfold rngL
  rw [List.getElem?_map, rangeL_get]
  split <;> rfl
theorem src_rng {ρ₀ : Nat → Addr} {m₀ : Nat} {it : Addr} (t : Expr) (hk : it ∉ kp) (a b d : Int) : Src c f kp A ρ₀ m₀ it t (fun _ => true) plainMk (rngL a b d) (fun k h => IsRangeIter h it (a + k * d) (Builtin.Range.rangeSize a b d - k) d) where
  stay := fun k h h' x hk' => hk' it (.head _) _ x
  next := by
    intro k x z st s hm hz hx h hg hI
    rw [rngL_get] at hx
    split at hx
    · rename_i q
      cases hx
      refine wpAny_pyNext_range_item hI (by omega) fun h' hit hs => ?_
      have hit' : IsRangeIter h' it (a + (k + 1 : Nat) * d) (Builtin.Range.rangeSize a b d - (k + 1 : Nat)) d := by
        have e1 : a + ((k + 1 : Nat) : Int) * d = a + k * d + d := by
          have : ((k + 1 : Nat) : Int) = (k : Int) + 1 := by omega
          rw [this, Int.add_mul, Int.one_mul]; omega
        have e2 : Builtin.Range.rangeSize a b d - ((k + 1 : Nat) : Int) = Builtin.Range.rangeSize a b d - k - 1 := by omega
        rw [e1, e2]; exact hit
      exact src_plain (I := fun k h => IsRangeIter h it (a + k * d) (Builtin.Range.rangeSize a b d - k) d) h hk hs (s.toks + 1) hit rfl (by decide) (.int _ _) hit'
    · cases hx
  stop := by
    intro k z st s hm hz hx h hg hI hh
    rw [rngL_get] at hx
    split at hx
    · cases hx
    · rename_i q
      exact wpAny_pyNext_range_end hh hI (by omega) fun h' he => ⟨rfl, h.drop.off (h.out hk) he⟩
theorem Snd.begin {x : Value} {ob : Obj} {r : R Fl} {t : Expr} {body orelse : List Stmt} (h : Rel c f kp z st s) (hf : ob.isFreed = false)
    (hp : ∀ (Q : Value → Shared → Prop) (E : Value → Shared → Prop), Q (.ref s.heap.objs.size) { s with heap := s.heap.push ob } → wpAny (model c.prog c.w) A (pyIter x) Q E s)
    (hl : s.heap.objs.size ∉ kp → Rel c f (s.heap.objs.size :: kp) z st { s with heap := s.heap.push ob } → (s.heap.push ob).get? s.heap.objs.size = some ob → Snd c f kp A (runOwn (.forLoop t (.ref s.heap.objs.size) body orelse f.env) f.env) r (FlR c.B) z st { s with heap := s.heap.push ob }) :
    Snd c f kp A (PySem.holding [x] (pyIter x) >>= fun it => runOwn (.forLoop t it body orelse f.env) f.env) r (FlR c.B) z st s := by
  have hno := get?_size s.heap
  have ap := h.fresh hno
  have af : After c f kp z st s z st { s with heap := s.heap.push ob } := h.grown fun b o e => Heap.get?_push_of_some ob e
  have hob := Heap.get?_push_size s.heap hf
  exact Snd.pre (fun v s' => v = .ref s.heap.objs.size ∧ s' = { s with heap := s.heap.push ob }) (wpAny_holding (hp _ _ ⟨rfl, rfl⟩)) fun v s' q => by
    obtain ⟨rfl, rfl⟩ := q
    exact ⟨af, hl ap.kp (af.rel.hold (by show ((s.heap.push ob).get? _).isSome = true; rw [hob]; rfl) ap) hob⟩
theorem loopOver_sound (hc : c.Ok) (ok : EOk c p n) (h : Rel c f kp z st s) (hA : AOk A f n st.md) (t : Expr) (body orelse : List Stmt) {v : V} {x : Value} (hv : VR z.ρ st.nxt c.B v x) :
    Snd c f kp A (PySem.holding [x] (pyIter x) >>= fun it => runOwn (.forLoop t it body orelse f.env) f.env) (loopOver c.K p t body orelse v st) (FlR c.B) z st s := by
  unfold loopOver
  cases v <;> try exact Snd.stuck
  rename_i r
  obtain ⟨rfl, hr⟩ := hv.inj_ref
  refine Snd.calm fun hd => Snd.getO fun hr => ?_
  cases er : st.obj r <;> try exact Snd.stuck
  · rename_i vs
    obtain ⟨us, ep, e1, r1⟩ := h.lst hr er
    refine Snd.begin (ob := { cls := .type "list_iterator", data := .fields #[.ref (z.ρ r), .int 0 0] }) h rfl (fun Q E k => wpAny_pyIter_list ⟨_, e1, rfl, ep, rfl⟩ k) fun hk hr' hob => ?_
    exact forL_sound hc ok hk (src_list t hk hr) body orelse hr' hA hd (decide_eq_true er) ⟨_, hob, rfl, rfl⟩
  · rename_i vs
    obtain ⟨us, e1, r1⟩ := h.tpl hr er
    refine Snd.begin (ob := { cls := .type "tuple_iterator", data := .fields #[.ref (z.ρ r), .int 0 0] }) h rfl (fun Q E k => wpAny_pyIter_tuple ⟨_, e1, rfl, _, rfl⟩ k) fun hk hr' hob => ?_
    exact forL_sound hc ok hk (src_tup t hk hr) body orelse hr' hA hd (decide_eq_true er) ⟨_, hob, rfl, rfl⟩
  · rename_i a b d
    have e1 := h.objs r hr
    rw [er] at e1
    obtain ⟨t1, t2, t3, e1⟩ := e1
    refine Snd.ite (fun hs => ?_) fun _ => Snd.stuck
    refine Snd.begin (ob := { cls := .type "range_iterator", data := .fields #[rawInt a, rawInt (Builtin.Range.rangeSize a b d), rawInt d] }) h rfl (fun Q E k => wpAny_pyIter_range e1 hs k) fun hk hr' hob => ?_
    refine forL_sound hc ok hk (src_rng t hk a b d) body orelse hr' hA hd rfl ?_
    show IsRangeIter _ _ (a + ((0 : Nat) : Int) * d) (Builtin.Range.rangeSize a b d - ((0 : Nat) : Int)) d
    have z1 : a + ((0 : Nat) : Int) * d = a := by simp
    have z2 : Builtin.Range.rangeSize a b d - ((0 : Nat) : Int) = Builtin.Range.rangeSize a b d := by simp
    rw [z1, z2]
    exact hob
theorem folded_pure {e : Expr} (h : notSet e = true) (env : Env) (x : Value) : foldedSetIterable e env x = pure x := by
  cases e <;> first | rfl | cases h
theorem forS_sound (hc : c.Ok) (ok : EOk c p n) (h : Rel c f kp z st s) (hA : AOk A f n st.md) (t it : Expr) (body orelse : List Stmt) (pos : Pos) : Snd c f kp A (exec (.For t it body orelse pos) f.env) (forS c.K p t it body orelse st) (FlR c.B) z st s := by
  unfold forS
  refine Snd.ite (fun hn => ?_) fun _ => Snd.stuck
  show Snd c f kp A (PySem.standAt pos >>= fun _ => eval it f.env >>= fun x0 => foldedSetIterable it f.env x0 >>= fun x => PySem.standAt it.pos >>= fun _ => PySem.holding [x] (pyIter x) >>= fun i => runOwn (.forLoop t i body orelse f.env) f.env) _ _ z st s
  refine Snd.standAt h ?_
  refine Snd.bind (ok.expr h hA it) fun v st1 x z1 s1 _ af1 pv => ?_
  rw [folded_pure hn]
  exact Snd.standAt af1.rel (loopOver_sound hc ok af1.rel (hA.after af1) t body orelse pv)
end
end Mine
namespace Mine
open PySem PySem.W PySem.Calls PyProof.Rows
def calleeOk (K : Frag) : V → Bool
  | .old a => keepIn K (.ref a)
  | .type _ => true
  | .bi _ => true
  | _ => false
section
variable (K : Frag) (p : Ev)
def argsThen (args : List Expr) (kws : List Keyword) (k : List V → List (Str × V) → M V) : M V := bind (evalL p args) fun vs => bind (evalKw p kws) fun kw => k vs kw
def callE (fn : Expr) (args : List Expr) (kws : List Keyword) : M V := bind (p.expr fn) fun g => if calleeOk K g && args.all plainE && kws.all (·.arg.isSome) then argsThen p args kws (fun vs kw => p.call g vs kw) else stuck "callee"
end
section
variable {c : Cx} {p : Ev} {n : Nat} {f : Fm} {kp : List Addr} {A : Around} {z : Sit} {st : St} {s : Shared}
theorem Snd.under {α β γ δ : Type} {t : Sem α} {g : α → Sem γ} {T : Sem γ} {H : Shared → Prop} {m : M β} {k : β → M δ} {P : Sit → Nat → β → α → Prop} {P' : Sit → Nat → δ → γ → Prop}
    (W : ∀ (Q : γ → Shared → Prop) (E : Value → Shared → Prop), wpAny (model c.prog c.w) A t (fun a s₁ => H s₁ ∧ wpAny (model c.prog c.w) A (g a) Q E s₁) E s → wpAny (model c.prog c.w) A T Q E s)
    (h1 : Snd c f kp A t (m st) P z st s) (h2 : ∀ x st' v z' s', After c f kp z st s z' st' s' → P z' st'.nxt x v → H s' ∧ Snd c f kp A (g v) (k x st') P' z' st' s') :
    Snd c f kp A T (Mine.bind m k st) P' z st s := by
  unfold Mine.bind
  cases hm : m st with
  | stuck w => trivial
  | err cls fs st' =>
    rw [hm] at h1
    exact W _ _ (wpAny_mono h1 (fun _ _ h => h.elim) fun _ _ h => h)
  | ok x st' =>
    rw [hm] at h1
    have key : ∀ v z' s', After c f kp z st s z' st' s' → P z' st'.nxt x v → H s' ∧ Snd c f kp A (g v) (k x st') P' z' st' s' := fun v z' s' a p => h2 x st' v z' s' a p
    show Snd c f kp A T (k x st') P' z st s
    cases hk : k x st' with
    | stuck w => trivial
    | err cls fs st₂ =>
      refine W _ _ (wpAny_mono h1 (fun v s₁ ⟨z', a, p⟩ => ?_) fun _ _ h => h.elim)
      have := key v z' s₁ a p
      rw [hk] at this
      exact ⟨this.1, wpAny_mono this.2 (fun _ _ h => h) fun e s₂ r => Raised.from a r⟩
    | ok y st₂ =>
      refine W _ _ (wpAny_mono h1 (fun v s₁ ⟨z', a, p⟩ => ?_) fun _ _ h => h.elim)
      have := key v z' s₁ a p
      rw [hk] at this
      exact ⟨this.1, wpAny_mono this.2 (fun u s₂ ⟨z₂, a₂, p₂⟩ => ⟨z₂, a.trans a₂, p₂⟩) fun _ _ h => h⟩
def kwNames (pos : Pos) (kws : List Keyword) (env : Env) : List Str := (backToKw pos (keywordEach kws env)).filterMap (·.1)
theorem evalKw_sound (ok : EOk c p n) (pos : Pos) : ∀ (kws : List Keyword) {z st s}, Rel c f kp z st s → AOk A f n st.md →
    Snd c f kp A (evalAll ((backToKw pos (keywordEach kws f.env)).map (·.2))) (evalKw p kws st) (fun z m kw ks => KwR c.B z.ρ m kw ((kwNames pos kws f.env).zip ks)) z st s
  | [], z, st, s, h, hA => Snd.pure h .nil
  | ⟨none, e, q⟩ :: r, z, st, s, h, hA => Snd.stuck
  | ⟨some x, e, q⟩ :: r, z, st, s, h, hA => by
    show Snd c f kp A ((eval e f.env >>= fun v => PySem.standAt pos >>= fun _ => Pure.pure v) >>= fun v => PySem.holding [v] (evalAll ((backToKw pos (keywordEach r f.env)).map (·.2))) >>= fun vs => Pure.pure (v :: vs))
      (Mine.bind (p.expr e) (fun v => Mine.bind (evalKw p r) fun vs => ret ((x, v) :: vs)) st) _ z st s
    refine Snd.bind (P := VP c.B) (Snd.wrap (t := eval e f.env) (fun Q E k => wpAny_bind (wpAny_mono k (fun v s' q => wpAny_bind (wpAny_standAt (wpAny_pure q))) fun _ _ q => q)) (ok.expr h hA e)) fun v st1 va z1 s1 _ af1 pa => ?_
    refine Snd.bind (Snd.holding (evalKw_sound ok pos r af1.rel (hA.after af1))) fun vs st2 ks z2 s2 _ af2 pv => ?_
    refine Snd.pure af2.rel ?_
    show KwR c.B z2.ρ st2.nxt ((x, v) :: vs) ((x :: kwNames pos r f.env).zip (va :: ks))
    exact .cons ⟨rfl, af2.vr pa⟩ pv
theorem kwAll (pos : Pos) (env : Env) (kws : List Keyword) (h : kws.all (·.arg.isSome) = true) : (backToKw pos (keywordEach kws env)).all (·.1.isSome) = true := by
  induction kws with
  | nil => rfl
  | cons k kws ih =>
    obtain ⟨a, b, d⟩ := k
    rw [List.all_cons, Bool.and_eq_true] at h
    show (a.isSome && (backToKw pos (keywordEach kws env)).all (·.1.isSome)) = true
    rw [h.1, ih h.2]
    rfl
theorem kwNone (pos : Pos) (env : Env) (kws : List Keyword) (h : kws.all (·.arg.isSome) = true) : (backToKw pos (keywordEach kws env)).any (·.1.isNone) = false := by
  induction kws with
  | nil => rfl
  | cons k kws ih =>
    obtain ⟨a, b, d⟩ := k
    rw [List.all_cons, Bool.and_eq_true] at h
    show (a.isNone || (backToKw pos (keywordEach kws env)).any (·.1.isNone)) = false
    rw [ih h.2, Bool.or_false]
    cases a with
    | none => cases h.1
    | some a => rfl
theorem noStar (pos : Pos) (env : Env) (es : List Expr) (h : es.all plainE = true) : (backTo pos (starEach es env)).any (·.1) = false := by
  induction es with
  | nil => rfl
  | cons e es ih =>
    rw [List.all_cons, Bool.and_eq_true] at h
    rw [starEach_cons h.1]
    show (false || (backTo pos (starEach es env)).any (·.1)) = false
    rw [ih h.2]; rfl
theorem Snd.under2 {α α' β β' γ δ : Type} {t : Sem α} {t' : α → Sem α'} {g : α → α' → Sem γ} {T : Sem γ} {H : Shared → Prop} {m : M β} {m' : β → M β'} {k : β → β' → M δ} {P : Sit → Nat → β → α → Prop} {P1 : Sit → Nat → β' → α' → Prop} {P' : Sit → Nat → δ → γ → Prop}
    (W : ∀ (Q : γ → Shared → Prop) (E : Value → Shared → Prop), wpAny (model c.prog c.w) A t (fun a s₁ => wpAny (model c.prog c.w) A (t' a) (fun b s₂ => H s₂ ∧ wpAny (model c.prog c.w) A (g a b) Q E s₂) E s₁) E s → wpAny (model c.prog c.w) A T Q E s)
    (h1 : Snd c f kp A t (m st) P z st s) (h2 : ∀ x st' v z' s', After c f kp z st s z' st' s' → P z' st'.nxt x v → Snd c f kp A (t' v) (m' x st') P1 z' st' s')
    (h3 : ∀ x v z1 n1 y u z' st' s', P z1 n1 x v → (∀ i, i < n1 → z'.ρ i = z1.ρ i) → n1 ≤ st'.nxt → After c f kp z st s z' st' s' → P1 z' st'.nxt y u → H s' ∧ Snd c f kp A (g v u) (k x y st') P' z' st' s') :
    Snd c f kp A T (Mine.bind m (fun x => Mine.bind (m' x) fun y => k x y) st) P' z st s := by
  unfold Mine.bind
  cases hm : m st with
  | stuck w => trivial
  | err cls fs st' =>
    rw [hm] at h1
    exact W _ _ (wpAny_mono h1 (fun _ _ h => h.elim) fun _ _ h => h)
  | ok x st' =>
    rw [hm] at h1
    dsimp only
    cases hm' : m' x st' with
    | stuck w => trivial
    | err cls fs st₂ =>
      refine W _ _ (wpAny_mono h1 (fun v s₁ ⟨z', a, p⟩ => ?_) fun _ _ h => h.elim)
      have := h2 x st' v z' s₁ a p
      rw [hm'] at this
      exact wpAny_mono this (fun _ _ h => h.elim) fun e s₂ r => Raised.from a r
    | ok y st₂ =>
      dsimp only
      have key : ∀ v z' s₁, After c f kp z st s z' st' s₁ → P z' st'.nxt x v → wpAny (model c.prog c.w) A (t' v) (fun b s₂ => ∃ z₂, After c f kp z' st' s₁ z₂ st₂ s₂ ∧ P1 z₂ st₂.nxt y b) (fun _ _ => False) s₁ := fun v z' s₁ a p => by
        have := h2 x st' v z' s₁ a p
        rw [hm'] at this
        exact this
      show Snd c f kp A T (k x y st₂) P' z st s
      cases hk : k x y st₂ with
      | stuck w => trivial
      | err cls fs st₃ =>
        refine W _ _ (wpAny_mono h1 (fun v s₁ ⟨z', a, p⟩ => wpAny_mono (key v z' s₁ a p) (fun u s₂ ⟨z₂, a₂, p₂⟩ => ?_) fun _ _ h => h.elim) fun _ _ h => h.elim)
        have := h3 x v z' st'.nxt y u z₂ st₂ s₂ p (fun i hi => (a₂.same i hi).1) a₂.nxt (a.trans a₂) p₂
        rw [hk] at this
        exact ⟨this.1, wpAny_mono this.2 (fun _ _ h => h) fun e s₃ r => Raised.from (a.trans a₂) r⟩
      | ok w st₃ =>
        refine W _ _ (wpAny_mono h1 (fun v s₁ ⟨z', a, p⟩ => wpAny_mono (key v z' s₁ a p) (fun u s₂ ⟨z₂, a₂, p₂⟩ => ?_) fun _ _ h => h.elim) fun _ _ h => h.elim)
        have := h3 x v z' st'.nxt y u z₂ st₂ s₂ p (fun i hi => (a₂.same i hi).1) a₂.nxt (a.trans a₂) p₂
        rw [hk] at this
        exact ⟨this.1, wpAny_mono this.2 (fun u s₃ ⟨z₃, a₃, p₃⟩ => ⟨z₃, (a.trans a₂).trans a₃, p₃⟩) fun _ _ h => h⟩
theorem callWith_sound (ok : EOk c p n) (h : Rel c f kp z st s) (hA : AOk A f n st.md) (pos : Pos) {gv : Value} {first : List Value} {args : List Expr} {kws : List Keyword} {k : List V → List (Str × V) → M V} {P : Heap → Prop}
    (hs : args.all plainE = true) (hw : kws.all (·.arg.isSome) = true) (hkeep : ∀ h, P h → ∃ k, (k = Keeper.frame ∨ k = Keeper.machine ∨ k = Keeper.boundFrame) ∧ Looks (model c.prog c.w) h (keeperOf gv) k)
    (hP : ∀ z' st' s', After c f kp z st s z' st' s' → P s'.heap)
    (hcall : ∀ vs kw us ks z' st' s', After c f kp z st s z' st' s' → VRs z'.ρ st'.nxt c.B vs us → KwR c.B z'.ρ st'.nxt kw ks → Snd c f kp A (PySem.call gv (first ++ us) ks) (k vs kw st') (VP c.B) z' st' s') :
    Snd c f kp A (callWith pos gv first (backTo pos (starEach args f.env)) (backToKw pos (keywordEach kws f.env))) (argsThen p args kws k st) (VP c.B) z st s := by
  have hall := kwAll pos f.env kws hw
  have hplain : ((backTo pos (starEach args f.env)).any (·.1) || (backToKw pos (keywordEach kws f.env)).any (·.1.isNone)) = false := by rw [noStar pos f.env args hs, kwNone pos f.env kws hw]; rfl
  cases args with
  | nil =>
    show Snd c f kp A _ (Mine.bind (evalKw p kws) (fun kw => k [] kw) st) _ z st s
    refine Snd.under (H := fun s => P s.heap) (t := evalAll ((backToKw pos (keywordEach kws f.env)).map (·.2))) (g := fun ks => PySem.call gv (first ++ []) ((kwNames pos kws f.env).zip ks)) (P := fun z m kw ks => KwR c.B z.ρ m kw ((kwNames pos kws f.env).zip ks))
      (fun Q E hw => callWith_of hplain hkeep (evalArgs_kw2_nil hall hw)) (evalKw_sound ok pos kws h hA) fun x st' v z' s' a hp => ⟨hP z' st' s' a, hcall [] x [] _ z' st' s' a .nil hp⟩
  | cons e rest =>
    have hs' := hs
    rw [List.all_cons, Bool.and_eq_true] at hs'
    refine Snd.under2 (H := fun s => P s.heap) (t := spliced (backTo pos (starEach (e :: rest) f.env))) (t' := fun _ => evalAll ((backToKw pos (keywordEach kws f.env)).map (·.2))) (g := fun us ks => PySem.call gv (first ++ us) ((kwNames pos kws f.env).zip ks))
      (m := evalL p (e :: rest)) (m' := fun _ => evalKw p kws) (k := k) (P := VsP c.B) (P1 := fun z m kw ks => KwR c.B z.ρ m kw ((kwNames pos kws f.env).zip ks)) ?_ (evalL_sound ok pos (e :: rest) h hA) (fun x st' v z' s' a _ => evalKw_sound ok pos kws a.rel (hA.after a)) ?_
    · intro Q E hw
      exact callWith_of hplain hkeep (evalArgs_kw2 hall hw (starEach_cons hs'.1 rest f.env))
    · intro x v z1 n1 y u z' st' s' hv hsame hn a hp
      exact ⟨hP z' st' s' a, hcall x y v _ z' st' s' a (VRs.mono hn hsame hv) hp⟩
theorem keeps_calleeT {M : Model} {gv : Value} (h : ∀ a, gv ≠ .ref a) (hp : Heap) : ∃ k, (k = Keeper.frame ∨ k = Keeper.machine ∨ k = Keeper.boundFrame) ∧ Looks M hp (keeperOf gv) k := by
  refine ⟨.machine, .inr (.inl rfl), ?_⟩
  cases gv <;> first | exact Looks.now | exact absurd rfl (h _)
theorem callE_sound (hc : c.Ok) (ok : EOk c p n) (h : Rel c f kp z st s) (hA : AOk A f n st.md) (fn : Expr) (args : List Expr) (kws : List Keyword) (pos : Pos) (hfn : ∀ o a q, fn ≠ .Attribute o a q) : Snd c f kp A (eval (.Call fn args kws pos) f.env) (callE c.K p fn args kws st) (VP c.B) z st s := by
  have e0 : eval (.Call fn args kws pos) f.env = (eval fn f.env >>= fun g => callWith pos g [] (backTo pos (starEach args f.env)) (backToKw pos (keywordEach kws f.env))) := by
    cases fn <;> first | rfl | exact absurd rfl (hfn _ _ _)
  rw [e0]
  unfold callE
  refine Snd.bind (ok.expr h hA fn) fun g st1 gv z1 s1 _ af1 pg => ?_
  refine Snd.ite (fun hok => ?_) fun _ => Snd.stuck
  rw [Bool.and_eq_true, Bool.and_eq_true] at hok
  obtain ⟨⟨hg, hs⟩, hw⟩ := hok
  have hA1 := hA.after af1
  refine callWith_sound (P := fun h => c.K.In h) ok af1.rel hA1 pos hs hw ?_ (fun z' st' s' a => a.rel.inK hc) fun vs kw us ks z' st' s' a hv hk => ok.call a.rel (hA1.after a) (a.vr pg) hv hk
  intro hp X
  cases g with
  | old a => rw [pg.inj_old]; exact keeps_K (K := c.K) (f := .ref a) hg hp X
  | type T => rw [pg.inj_type]; exact keeps_calleeT (fun a e => by cases e) hp
  | bi i => rw [pg.inj_bi]; exact keeps_calleeT (fun a e => by cases e) hp
  | _ => cases hg
end
end Mine
namespace Mine
open PySem PySem.W PySem.Calls PyProof.Rows
def addKw {α : Type} (names : List Str) : List (Str × α) → List (Str × α) → Option (List (Str × α))
  | sl, [] => some sl
  | sl, q :: r => if names.contains q.1 && (sl.lookup q.1).isNone then addKw names (sl ++ [q]) r else none
def addDef {α : Type} : List (Str × α) → List (Str × α) → List (Str × α)
  | sl, [] => sl
  | sl, q :: r => addDef (if (sl.lookup q.1).isNone then sl ++ [q] else sl) r
def bindG {α : Type} (names : List Str) (ds : List α) (pos : List α) (kw : List (Str × α)) : Option (List (Str × α)) :=
  if pos.length ≤ names.length ∧ ds.length ≤ names.length then
    (addKw names (names.zip pos) kw).bind fun sl =>
      if ((names.take (names.length - ds.length)).filter fun x => (sl.lookup x).isNone).isEmpty then
        some (names.filterMap fun x => ((addDef sl ((names.drop (names.length - ds.length)).zip ds)).lookup x).map fun v => (x, v))
      else none
  else none
theorem forIn_steps {α β : Type} (f : α → β → Sem (ForInStep β)) (g : β → α → Option β) : ∀ (l : List α) (c r : β), (∀ x b b', g b x = some b' → f x b = pure (.yield b')) → l.foldlM (m := Option) g c = some r → forIn l c f = pure r
  | [], c, r, _, h => by
    simp at h
    subst h
    rfl
  | x :: l, c, r, hs, h => by
    rw [List.foldlM_cons] at h
    cases e : g c x with
    | none => rw [e] at h; cases h
    | some b =>
      rw [e] at h
      rw [List.forIn_cons, hs x c b e]
      exact forIn_steps f g l b r hs h
theorem addKw_fold {α : Type} (names : List Str) (ex : List (Str × α)) : ∀ (kw sl r : List (Str × α)), addKw names sl kw = some r → kw.foldlM (m := Option) (fun (st : List (Str × α) × List (Str × α)) x => if names.contains x.1 && (st.1.lookup x.1).isNone then some (st.1 ++ [x], st.2) else none) (sl, ex) = some (r, ex)
  | [], sl, r, h => by cases h; rfl
  | q :: kw, sl, r, h => by
    unfold addKw at h
    rw [List.foldlM_cons]
    by_cases w : (names.contains q.1 && (sl.lookup q.1).isNone) = true
    · rw [if_pos w] at h
      show (if names.contains q.1 && (sl.lookup q.1).isNone then some (sl ++ [q], ex) else none : Option _) >>= _ = _
      rw [if_pos w]
      exact addKw_fold names ex kw (sl ++ [q]) r h
    · rw [if_neg w] at h; cases h
theorem addDef_fold {α : Type} : ∀ (ds sl : List (Str × α)), ds.foldlM (m := Option) (fun (st : List (Str × α)) x => some (if (st.lookup x.1).isNone then st ++ [x] else st)) sl = some (addDef sl ds)
  | [], sl => rfl
  | q :: ds, sl => by
    rw [List.foldlM_cons]
    exact addDef_fold ds _
theorem bindArgs_plain {fd : FuncData} {args : Args} {ds : List Value} {binds : List (Str × Value)} (h1 : fd.params.posonlyargs = []) (h2 : fd.params.kwonlyargs = []) (h3 : fd.params.vararg = none) (h4 : fd.params.kwarg = none)
    (hb : bindG (fd.params.args.map (·.arg)) ds args.pos args.kw = some binds) :
    ∃ k, bindArgs fd args = seqItems? fd.defaults >>= k ∧ ∀ o, (o.getD #[]).toList = ds → k o = pure binds := by
  unfold bindG at hb
  split at hb
  · rename_i hlen
    cases hsl : addKw (fd.params.args.map (·.arg)) ((fd.params.args.map (·.arg)).zip args.pos) args.kw with
    | none => rw [hsl] at hb; cases hb
    | some sl =>
      rw [hsl, Option.bind_some] at hb
      split at hb
      · rename_i hmiss
        cases hb
        unfold bindArgs
        simp only [h1, h2, h3, h4, List.map_nil, List.nil_append, List.append_nil]
        rw [forIn_steps _ _ args.kw _ (sl, []) ?step (addKw_fold _ [] args.kw _ sl hsl)]
        case step =>
          intro x b b' e
          split at e
          · rename_i w
            rw [Bool.and_eq_true] at w
            cases e
            have w1 : ((List.map (fun x => x.arg) fd.params.args).contains x.fst || ([] : List Str).contains x.fst) = true := by rw [w.1]; rfl
            have w2 : ¬ (List.lookup x.fst b.fst).isSome = true := by
              have := w.2
              cases q : List.lookup x.fst b.fst with
              | none => simp
              | some v => rw [q] at this; cases this
            rw [if_pos w1, if_neg w2]
          · cases e
        rw [pure_bind]
        refine ⟨_, rfl, fun o ho => ?_⟩
        dsimp only
        rw [ho]
        have d0 : ds.length - (fd.params.args.map (·.arg)).length = 0 := Nat.sub_eq_zero_of_le hlen.2
        have c1 : (decide (args.pos.length > (fd.params.args.map (·.arg)).length) && (none : Option Arg).isNone) = false := by
          have : ¬ args.pos.length > (fd.params.args.map (·.arg)).length := Nat.not_lt.mpr hlen.1
          rw [decide_eq_false this]; rfl
        rw [c1, d0, List.drop_zero]
        rw [if_neg Bool.false_ne_true]
        rw [hmiss]
        rw [if_neg (by simp)]
        rw [forIn_steps _ _ _ sl _ ?step2 (addDef_fold _ sl)]
        case step2 =>
          intro x b b' e
          cases e
          by_cases w : (List.lookup x.fst b).isNone = true
          · rw [if_pos w, if_pos w]
          · rw [if_neg w, if_neg w]
        rw [pure_bind]
        rfl
      · cases hb
  · cases hb
theorem binds_plain {K : Frag} {s : Shared} {fd : FuncData} {args : Args} {ds : List Value} {binds : List (Str × Value)} (X : K.In s.heap) (h1 : fd.params.posonlyargs = []) (h2 : fd.params.kwonlyargs = []) (h3 : fd.params.vararg = none) (h4 : fd.params.kwarg = none)
    (hd : (fd.defaults = .none ∧ ds = []) ∨ ∃ T o vs n, fd.defaults = .ref T ∧ K.lookup T = some o ∧ o.data = .seq vs n ∧ vs.toList = ds)
    (hb : bindG (fd.params.args.map (·.arg)) ds args.pos args.kw = some binds) : BindsTo s fd args binds := by
  obtain ⟨k, e1, e2⟩ := bindArgs_plain h1 h2 h3 h4 hb
  rcases hd with ⟨hd, rfl⟩ | ⟨T, o, vs, n, hd, ho, hs, rfl⟩
  · refine BindsTo.of_eq ?_
    rw [e1, hd]
    show k none = _
    exact e2 none rfl
  · exact binds_K X hd ho hs e1 (e2 (some vs) rfl)
theorem lookup_rel {α β : Type} {r : α → β → Prop} {a : List (Str × α)} {b : List (Str × β)} (h : All2 (fun x y => y.1 = x.1 ∧ r x.2 y.2) a b) (k : Str) : match a.lookup k with | some v => ∃ u, b.lookup k = some u ∧ r v u | none => b.lookup k = none := by
  induction h with
  | nil => rfl
  | @cons x y _ _ q _ ih =>
    obtain ⟨x1, x2⟩ := x
    obtain ⟨y1, y2⟩ := y
    obtain ⟨e, q⟩ := q
    dsimp only at e q
    subst e
    rw [List.lookup_cons, List.lookup_cons]
    cases k == y1 with
    | true => exact ⟨_, rfl, q⟩
    | false => exact ih
theorem lookup_none {α β : Type} {r : α → β → Prop} {a : List (Str × α)} {b : List (Str × β)} (h : All2 (fun x y => y.1 = x.1 ∧ r x.2 y.2) a b) (k : Str) : (b.lookup k).isNone = (a.lookup k).isNone := by
  have := lookup_rel h k
  cases q : a.lookup k with
  | none => rw [q] at this; rw [this]; rfl
  | some v => rw [q] at this; obtain ⟨u, e, _⟩ := this; rw [e]; rfl
theorem addKw_rel {α β : Type} {r : α → β → Prop} (names : List Str) : ∀ {a a' : List (Str × α)} {b b' : List (Str × β)} {x : List (Str × α)}, All2 (fun x y => y.1 = x.1 ∧ r x.2 y.2) a b → All2 (fun x y => y.1 = x.1 ∧ r x.2 y.2) a' b' → addKw names a a' = some x → ∃ y, addKw names b b' = some y ∧ All2 (fun x y => y.1 = x.1 ∧ r x.2 y.2) x y := by
  intro a a' b b' x h h' e
  induction h' generalizing a b with
  | nil => cases e; exact ⟨b, rfl, h⟩
  | @cons p q _ _ w _ ih =>
    unfold addKw at e ⊢
    rw [w.1, lookup_none h]
    split at e
    · rename_i c
      rw [if_pos c]
      exact ih (h.append (.cons w .nil)) e
    · cases e
theorem addDef_rel {α β : Type} {r : α → β → Prop} : ∀ {a a' : List (Str × α)} {b b' : List (Str × β)}, All2 (fun x y => y.1 = x.1 ∧ r x.2 y.2) a b → All2 (fun x y => y.1 = x.1 ∧ r x.2 y.2) a' b' → All2 (fun x y => y.1 = x.1 ∧ r x.2 y.2) (addDef a a') (addDef b b') := by
  intro a a' b b' h h'
  induction h' generalizing a b with
  | nil => exact h
  | @cons p q _ _ w _ ih =>
    unfold addDef
    rw [w.1, lookup_none h]
    refine ih ?_
    split
    · exact h.append (.cons w .nil)
    · exact h
theorem zip_rel {α β : Type} {r : α → β → Prop} : ∀ (ns : List Str) {a : List α} {b : List β}, All2 r a b → All2 (fun x y => y.1 = x.1 ∧ r x.2 y.2) (ns.zip a) (ns.zip b)
  | [], _, _, _ => by simp; exact .nil
  | _ :: _, _, _, .nil => .nil
  | n :: ns, _, _, .cons q t => .cons ⟨rfl, q⟩ (zip_rel ns t)
theorem pick_rel {α β : Type} {r : α → β → Prop} {a : List (Str × α)} {b : List (Str × β)} (h : All2 (fun x y => y.1 = x.1 ∧ r x.2 y.2) a b) : ∀ ns : List Str, All2 (fun x y => y.1 = x.1 ∧ r x.2 y.2) (ns.filterMap fun x => (a.lookup x).map fun v => (x, v)) (ns.filterMap fun x => (b.lookup x).map fun v => (x, v))
  | [] => .nil
  | n :: ns => by
    rw [List.filterMap_cons, List.filterMap_cons]
    have := lookup_rel h n
    cases q : a.lookup n with
    | none => rw [q] at this; rw [this]; exact pick_rel h ns
    | some v =>
      rw [q] at this
      obtain ⟨u, e, w⟩ := this
      rw [e]
      exact .cons ⟨rfl, w⟩ (pick_rel h ns)
theorem bindG_rel {α β : Type} {r : α → β → Prop} (names : List Str) {ds pos : List α} {ds' pos' : List β} {kw : List (Str × α)} {kw' : List (Str × β)} {x : List (Str × α)} (hd : All2 r ds ds') (hp : All2 r pos pos') (hk : All2 (fun x y => y.1 = x.1 ∧ r x.2 y.2) kw kw')
    (e : bindG names ds pos kw = some x) : ∃ y, bindG names ds' pos' kw' = some y ∧ All2 (fun x y => y.1 = x.1 ∧ r x.2 y.2) x y := by
  unfold bindG at e ⊢
  rw [← hd.length, ← hp.length]
  split at e
  · rename_i hl
    rw [if_pos hl]
    cases e1 : addKw names (names.zip pos) kw with
    | none => rw [e1] at e; cases e
    | some sl =>
      rw [e1, Option.bind_some] at e
      obtain ⟨sl', e2, hsl⟩ := addKw_rel names (zip_rel names hp) hk e1
      rw [e2, Option.bind_some]
      have hf : (fun x => (sl'.lookup x).isNone) = fun x => (sl.lookup x).isNone := funext fun k => lookup_none hsl k
      rw [hf]
      split at e
      · rename_i hm
        rw [if_pos hm]
        cases e
        exact ⟨_, rfl, pick_rel (addDef_rel hsl (zip_rel _ hd)) names⟩
      · cases e
  · cases e
end Mine
namespace Mine
open PySem PySem.W PySem.Calls PyProof.Rows
def defaultsV (K : Frag) (fd : FuncData) : Option (List V) := match fd.defaults with
  | .none => some []
  | .ref T => (match K.lookup T with
    | some ⟨_, _, .seq vs _, _⟩ => vs.toList.mapM (vOf K)
    | _ => Option.none)
  | _ => Option.none
def kindOk (q : Str × NameKind) : Bool := (q.2 == .local || q.2 == .globalImplicit) && nid q.1 != 0
def plainFn (K : Frag) (fd : FuncData) : Bool := fd.params.posonlyargs.isEmpty && fd.params.kwonlyargs.isEmpty && fd.params.vararg.isNone && fd.params.kwarg.isNone && fd.closure.isEmpty && fd.globals == mainGlobals && fd.builtins == builtinsNs &&
  fd.scope.kind == .function && !fd.scope.isGenerator && !fd.scope.isCoroutine && fd.scope.names.all kindOk && codeIn K fd.code fd.qualname && fd.params.args.all (fun a => fd.scope.names.lookup a.arg == some .local)
def bodyOf (fd : FuncData) : List Stmt := match fd.body with
  | .stmts b => b
  | _ => []
def isStmts (fd : FuncData) : Bool := match fd.body with
  | .stmts _ => true
  | _ => false
def locOf (binds : List (Str × V)) : List (Str × NameKind) → List (Nat × Slot)
  | [] => []
  | q :: r => (nid q.1, if q.2 == .local then (match binds.reverse.lookup q.1 with | some v => Slot.val v | Option.none => .unset) else .glob) :: locOf binds r
def enterFn (K : Frag) (fd : FuncData) (args : List V) (kw : List (Str × V)) : Option (List (Nat × Slot)) :=
  if plainFn K fd && isStmts fd then (defaultsV K fd).bind fun ds => (bindG (fd.params.args.map (·.arg)) ds args kw).map fun bs => locOf bs fd.scope.names else Option.none
def flV : Fl → V
  | .ret v => v
  | _ => .none
def withLoc (l : List (Nat × Slot)) (m : M V) : M V := fun s => match m { s with loc := l, md := { s.md with top := true } } with
  | .ok v s' => .ok v { s' with loc := s.loc, md := s.md }
  | .err a b s' => .err a b { s' with loc := s.loc, md := s.md }
  | .stuck w => .stuck w
def callFn (K : Frag) (p : Ev) (fd : FuncData) (args : List V) (kw : List (Str × V)) : M V := match enterFn K fd args kw with
  | some l => withLoc l (bind (execL p (bodyOf fd)) fun fl => ret (flV fl))
  | Option.none => stuck "arguments"
end Mine
namespace Mine
open PySem PySem.W PySem.Calls PyProof.Rows
section
variable {c : Cx} {p : Ev} {n : Nat} {f : Fm} {kp : List Addr} {A : Around} {z : Sit} {st : St} {s : Shared}
def calleeFm (f : Fm) (fd : FuncData) (L a : Addr) : Fm := ⟨callEnv fd L a, callEnv fd L a :: f.stack⟩
def Fm.inStack (f : Fm) : Bool := (f.stack.filterMap (·.frame)).contains f.L
def Fm.own (f : Fm) (kp : List Addr) : List Addr := if f.inStack then kp else kp ++ [f.L]
theorem calleeFm_frs {f : Fm} {fd : FuncData} {L a b : Addr} : b ∈ (calleeFm f fd L a).frs ↔ b ∈ f.stack.filterMap (·.frame) ∧ b ≠ L := by
  unfold Fm.frs
  rw [List.mem_filter]
  show b ∈ (L :: f.stack.filterMap (·.frame)) ∧ decide (b ≠ L) = true ↔ _
  constructor
  · rintro ⟨h, e⟩
    have e := of_decide_eq_true e
    rcases List.mem_cons.mp h with q | q
    · exact absurd q e
    · exact ⟨q, e⟩
  · rintro ⟨h, e⟩
    exact ⟨.tail _ h, decide_eq_true e⟩
theorem Fm.mem_frs_iff {f : Fm} {b : Addr} : b ∈ f.frs ↔ b ∈ f.stack.filterMap (·.frame) ∧ b ≠ f.L := by
  unfold Fm.frs
  rw [List.mem_filter]
  constructor
  · rintro ⟨h, e⟩; exact ⟨h, of_decide_eq_true e⟩
  · rintro ⟨h, e⟩; exact ⟨h, decide_eq_true e⟩
structure PlainFd (K : Frag) (fd : FuncData) : Prop where
  po : fd.params.posonlyargs = []
  ko : fd.params.kwonlyargs = []
  va : fd.params.vararg = none
  kw : fd.params.kwarg = none
  cl : fd.closure = []
  gl : fd.globals = mainGlobals
  bi : fd.builtins = builtinsNs
  kind : fd.scope.kind = .function
  gen : fd.scope.isGenerator = false
  co : fd.scope.isCoroutine = false
  names : ∀ q ∈ fd.scope.names, (q.2 = .local ∨ q.2 = .globalImplicit) ∧ nid q.1 ≠ 0
  code : codeIn K fd.code fd.qualname = true
  pars : ∀ a ∈ fd.params.args, fd.scope.names.lookup a.arg = some .local
theorem plainFn_iff {K : Frag} {fd : FuncData} (h : plainFn K fd = true) : PlainFd K fd := by
  unfold plainFn at h
  simp only [Bool.and_eq_true, Bool.not_eq_true', List.isEmpty_iff, Option.isNone_iff_eq_none, beq_iff_eq, List.all_eq_true] at h
  obtain ⟨⟨⟨⟨⟨⟨⟨⟨⟨⟨⟨⟨h1, h2⟩, h3⟩, h4⟩, h5⟩, h6⟩, h7⟩, h8⟩, h9⟩, h10⟩, h11⟩, h12⟩, h13⟩ := h
  refine ⟨h1, h2, h3, h4, h5, h6, h7, h8, h9, h10, fun q hq => ?_, h12, h13⟩
  have := h11 q hq
  unfold kindOk at this
  simp only [Bool.and_eq_true, Bool.or_eq_true, beq_iff_eq, bne_iff_ne, ne_eq] at this
  exact this
theorem look_locOf {binds : List (Str × V)} {x : Str} (hx : nid x ≠ 0) : ∀ {names : List (Str × NameKind)}, (∀ q ∈ names, (q.2 = .local ∨ q.2 = .globalImplicit) ∧ nid q.1 ≠ 0) →
    match look (nid x) (locOf binds names) with
    | some .glob => names.lookup x = some .globalImplicit
    | some .unset => names.lookup x = some .local ∧ binds.reverse.lookup x = none
    | some (.cell _ _) => False
    | some (.val v) => names.lookup x = some .local ∧ binds.reverse.lookup x = some v
    | none => True
  | [], _ => trivial
  | q :: r, h => by
    obtain ⟨a, k⟩ := q
    unfold locOf look
    dsimp only
    by_cases w : nid a = nid x
    · have : a = x := nid_inj w (h (a, k) (.head _)).2
      subst this
      rw [if_pos rfl, List.lookup_cons, beq_self_eq_true]
      rcases (h (a, k) (.head _)).1 with e | e
      · have e : k = .local := e
        subst e
        dsimp only
        rw [if_pos (by decide)]
        cases q : binds.reverse.lookup a with
        | none => exact ⟨rfl, rfl⟩
        | some v => exact ⟨rfl, rfl⟩
      · have e : k = .globalImplicit := e
        subst e
        rfl
    · have hne : (x == a) = false := by
        rw [beq_eq_false_iff_ne]
        intro e
        exact w (by rw [e])
      rw [if_neg w, List.lookup_cons, hne]
      exact look_locOf hx fun q hq => h q (.tail _ hq)
theorem All2.reverse {α β : Type} {r : α → β → Prop} {x : List α} {y : List β} (h : All2 r x y) : All2 r x.reverse y.reverse := by
  induction h with
  | nil => exact .nil
  | cons a _ ih =>
    rw [List.reverse_cons, List.reverse_cons]
    exact ih.append (.cons a .nil)
theorem mapM_vOf (hc : c.Ok) : ∀ {vs : List Value} {xs : List V}, vs.mapM (vOf c.K) = some xs → ∀ (ρ : Nat → Addr) (m : Nat), VRs ρ m c.B xs vs
  | [], xs, h, ρ, m => by
    simp at h
    subst h
    exact .nil
  | v :: vs, xs, h, ρ, m => by
    rw [List.mapM_cons] at h
    cases e1 : vOf c.K v with
    | none => rw [e1] at h; cases h
    | some x =>
      cases e2 : vs.mapM (vOf c.K) with
      | none => rw [e1, e2] at h; cases h
      | some ys =>
        rw [e1, e2] at h
        cases h
        exact .cons (vOf_sound hc e1 ρ m) (mapM_vOf hc e2 ρ m)
theorem enterFn_sound (hc : c.Ok) (h : Rel c f kp z st s) {fd : FuncData} {args : List V} {us : List Value} {kw : List (Str × V)} {ks : List (Str × Value)} {l : List (Nat × Slot)} (hv : VRs z.ρ st.nxt c.B args us) (hk : KwR c.B z.ρ st.nxt kw ks)
    (e : enterFn c.K fd args kw = some l) : PlainFd c.K fd ∧ fd.body = .stmts (bodyOf fd) ∧ ∃ xs bs, l = locOf xs fd.scope.names ∧ BindsTo s fd ⟨us, ks⟩ bs ∧ KwR c.B z.ρ st.nxt xs bs ∧ ∀ x ∈ bs, fd.scope.names.lookup x.1 = some .local := by
  unfold enterFn at e
  split at e
  · rename_i hp
    rw [Bool.and_eq_true] at hp
    have P := plainFn_iff hp.1
    cases ed : defaultsV c.K fd with
    | none => rw [ed] at e; cases e
    | some ds =>
      rw [ed, Option.bind_some] at e
      cases eb : bindG (fd.params.args.map (·.arg)) ds args kw with
      | none => rw [eb] at e; cases e
      | some xs =>
        rw [eb] at e
        cases e
        have hd : ∃ ds', VRs z.ρ st.nxt c.B ds ds' ∧ ((fd.defaults = .none ∧ ds' = []) ∨ ∃ T o vs n, fd.defaults = .ref T ∧ c.K.lookup T = some o ∧ o.data = .seq vs n ∧ vs.toList = ds') := by
          unfold defaultsV at ed
          split at ed
          · rename_i e1
            cases ed
            exact ⟨[], .nil, .inl ⟨e1, rfl⟩⟩
          · rename_i T e1
            split at ed
            · rename_i c1 d1 vs n1 sl e2
              exact ⟨vs.toList, mapM_vOf hc ed _ _, .inr ⟨T, _, vs, n1, e1, e2, rfl, rfl⟩⟩
            · cases ed
          · cases ed
        obtain ⟨ds', hds, hd'⟩ := hd
        obtain ⟨bs, e3, r3⟩ := bindG_rel (fd.params.args.map (·.arg)) hds hv hk eb
        have hb : fd.body = .stmts (bodyOf fd) := by
          have := hp.2
          unfold isStmts at this
          unfold bodyOf
          cases q : fd.body with
          | stmts b => rfl
          | _ => rw [q] at this; cases this
        refine ⟨P, hb, xs, bs, rfl, binds_plain (h.inK hc) P.po P.ko P.va P.kw hd' e3, r3, fun x hx => ?_⟩
        unfold bindG at e3
        split at e3
        · cases e4 : addKw (fd.params.args.map (·.arg)) ((fd.params.args.map (·.arg)).zip us) ks with
          | none => rw [e4] at e3; cases e3
          | some sl =>
            rw [e4, Option.bind_some] at e3
            split at e3
            · cases e3
              obtain ⟨y, hy, e5⟩ := List.mem_filterMap.mp hx
              obtain ⟨a, ha, rfl⟩ := List.mem_map.mp hy
              cases q : List.lookup a.arg (addDef sl ((List.drop ((fd.params.args.map (·.arg)).length - ds'.length) (fd.params.args.map (·.arg))).zip ds')) with
              | none => rw [q] at e5; cases e5
              | some v =>
                rw [q] at e5
                cases e5
                exact P.pars a ha
            · cases e3
        · cases e3
  · cases e
end
end Mine
namespace Mine
open PySem PySem.W PySem.Calls PyProof.Rows
section
variable {c : Cx} {p : Ev} {n : Nat} {f : Fm} {kp : List Addr} {A : Around} {z : Sit} {st : St} {s : Shared}
theorem Ns_slots {h h' : Heap} {a : Addr} {m : Str → Option Value} (x : h.Ns a m) (e : ∀ o, h.get? a = some o → ∃ sl, h'.get? a = some { o with slots := sl }) : h'.Ns a m := by
  obtain ⟨o, es, ep, e1, e2, e3, e4⟩ := x
  obtain ⟨sl, e5⟩ := e o e1
  exact ⟨_, es, ep, e5, e2, e3, e4⟩
structure Sub (f g : Fm) (a : Addr) : Prop where
  L : g.L = a
  frs : ∀ b, b ∈ g.frs ↔ b ∈ f.stack.filterMap (·.frame) ∧ b ≠ a
  out : ∀ {h B : Heap}, h.FunFrames B g.stack → h.FunFrames B f.stack
theorem Sub.callee {fd : FuncData} {a x : Addr} : Sub f (calleeFm f fd a x) a := ⟨rfl, fun _ => calleeFm_frs, fun h => h.2.2⟩
theorem Rel.enter {md : Mode} {g : Fm} {h₀ : Heap} {l : List (Nat × Slot)} {m : Str → Option Value} {tk : Nat} (S : Sub f g s.heap.objs.size) (h : Rel c f kp z st s) (hn : h₀.Ns s.heap.objs.size m) (hkeep : ∀ b o, s.heap.get? b = some o → h₀.get? b = some o)
    (hFF : h₀.FunFrames c.B f.stack → h₀.FunFrames c.B g.stack) (hl : LocR g z st.nxt c.B l m) : Rel c g (f.own kp) z { st with loc := l, md := md } { s with heap := h₀, toks := tk } := by
  have hno := get?_size s.heap
  have ap := h.fresh hno
  have lf : ∀ b, (s.heap.get? b).isSome = true → b ≠ s.heap.objs.size := fun b hb e => by rw [e, hno] at hb; cases hb
  have up : ∀ b, (s.heap.get? b).isSome = true → (h₀.get? b).isSome = true := fun b hb => by
    obtain ⟨o, e⟩ := Option.isSome_iff_exists.mp hb
    rw [hkeep b o e]; rfl
  have Lsome : (s.heap.get? f.L).isSome = true := by obtain ⟨m, ⟨o, _, _, e, _⟩, _⟩ := h.loc; rw [show s.heap.get? f.L = some o from e]; rfl
  have cl := h.grown hkeep
  refine ⟨cl.rel.base, ⟨m, S.L.symm ▸ hn, hl⟩, cl.rel.objs, fun i hi b hb => ?_, h.apart, fun b hb => ?_, hFF cl.rel.frames, S.L.symm ▸ ap.base, h.gens, h.os⟩
  · obtain ⟨p1, p2, p3, p4, p5, p6⟩ := h.own i hi b hb
    refine ⟨p1, fun hm => ?_, fun hm => ?_, S.L.symm ▸ lf b p5, up b p5, p6⟩
    · unfold Fm.own at hm
      split at hm
      · exact p2 hm
      · rcases List.mem_append.mp hm with e | e
        · exact p2 e
        · exact p4 (List.mem_singleton.mp e)
    · have := ((S.frs b).mp hm).1
      exact p3 (Fm.mem_frs_iff.mpr ⟨this, p4⟩)
  · have old : b ∈ kp → (h₀.get? b).isSome = true ∧ b ≠ g.L ∧ b ∉ g.frs ∧ c.B.get? b = none := fun hb => by
      obtain ⟨p1, p2, p3, p4⟩ := h.kps b hb
      exact ⟨up b p1, S.L.symm ▸ lf b p1, fun hm => p3 (Fm.mem_frs_iff.mpr ⟨((S.frs b).mp hm).1, p2⟩), p4⟩
    unfold Fm.own at hb
    split at hb
    · exact old hb
    · rename_i hs
      rcases List.mem_append.mp hb with e | e
      · exact old e
      · have e := List.mem_singleton.mp e
        subst e
        refine ⟨up _ Lsome, S.L.symm ▸ lf _ Lsome, fun hm => hs ?_, h.bL⟩
        exact List.contains_iff_mem.mpr ((S.frs _).mp hm).1
theorem After.leave {md : Mode} {g : Fm} {h₀ : Heap} {l : List (Nat × Slot)} {tk : Nat} {z' : Sit} {st' : St} {s' : Shared} (S : Sub f g s.heap.objs.size) (h : Rel c f kp z st s) (hkeep : ∀ b o, s.heap.get? b = some o → h₀.get? b = some o)
    (x : After c g (f.own kp) z { st with loc := l, md := md } { s with heap := h₀, toks := tk } z' st' s') : After c f kp z st s z' { st' with loc := st.loc, md := st.md } s' := by
  have hno := get?_size s.heap
  have lf : ∀ b, (s.heap.get? b).isSome = true → b ≠ s.heap.objs.size := fun b hb e => by rw [e, hno] at hb; cases hb
  have hr := x.rel
  have kpk : ∀ b ∈ kp, b ∈ f.own kp := fun b hb => by
    unfold Fm.own
    split
    · exact hb
    · exact List.mem_append_left _ hb
  have frame : ∀ b ∈ f.stack.filterMap (·.frame), ∀ o, s.heap.get? b = some o → ∃ sl, s'.heap.get? b = some { o with slots := sl } := fun b hb o e =>
    x.frm b ((S.frs b).mpr ⟨hb, lf b (by rw [e]; rfl)⟩) o (hkeep b o e)
  have Lkeep : ∀ o, s.heap.get? f.L = some o → ∃ sl, s'.heap.get? f.L = some { o with slots := sl } := fun o e => by
    by_cases q : f.inStack = true
    · exact frame f.L (List.contains_iff_mem.mp q) o e
    · exact ⟨o.slots, x.keep f.L (by unfold Fm.own; rw [if_neg q]; exact List.mem_append_right _ (.head _)) o (hkeep _ o e)⟩
  refine ⟨⟨hr.base, ?_, hr.objs, fun i hi b hb => ?_, hr.apart, fun b hb => ?_, S.out hr.frames, h.bL, hr.gens, hr.os⟩, x.nxt, x.same, fun b hb o e => x.keep b (kpk b hb) o (hkeep b o e), fun b hb o e => frame b (Fm.mem_frs_iff.mp hb).1 o e, rfl⟩
  · obtain ⟨m, hn, hl⟩ := h.loc
    exact ⟨m, Ns_slots hn Lkeep, hl.mono x.nxt fun i hi => (x.same i hi).1⟩
  · obtain ⟨p1, p2, p3, p4, p5, p6⟩ := hr.own i hi b hb
    have p4' : b ≠ s.heap.objs.size := S.L ▸ p4
    refine ⟨p1, fun hm => p2 (kpk b hm), fun hm => p3 ((S.frs b).mpr ⟨(Fm.mem_frs_iff.mp hm).1, p4'⟩), fun e => ?_, p5, p6⟩
    subst e
    by_cases q : f.inStack = true
    · exact p3 ((S.frs _).mpr ⟨List.contains_iff_mem.mp q, p4'⟩)
    · exact p2 (by unfold Fm.own; rw [if_neg q]; exact List.mem_append_right _ (.head _))
  · obtain ⟨p1, p2, p3, p4⟩ := h.kps b hb
    obtain ⟨o, e⟩ := Option.isSome_iff_exists.mp p1
    exact ⟨by rw [x.keep b (kpk b hb) o (hkeep b o e)]; rfl, p2, p3, p4⟩
def CodeS (c : Cx) (f : Fm) (kp : List Addr) (A : Around) (cd : Code) (r : R V) (z : Sit) (st : St) (s : Shared) : Prop := match r with
  | .ok x st' => codeAny (model c.prog c.w) A cd (fun r s' => match r with | .ok (.ret v) => ∃ z', After c f kp z st s z' st' s' ∧ VR z'.ρ st'.nxt c.B x v | _ => False) s
  | .err cls _ st' => codeAny (model c.prog c.w) A cd (fun r s' => match r with | .error e => Raised c f kp z st s cls st' e s' | _ => False) s
  | .stuck _ => True
theorem CodeS.call {g : Value} {us : List Value} {ks : List (Str × Value)} {r : R V} (h : CodeS c f kp A (.call g ⟨us, ks⟩) r z st s) : Snd c f kp A (PySem.call g us ks) r (VP c.B) z st s := by
  cases r with
  | stuck w => trivial
  | ok x st' =>
    refine wpAny_call (codeAny_mono h fun r s' hr => ?_)
    cases r with
    | error e => exact hr.elim
    | ok fl => cases fl <;> first | exact hr | exact hr.elim
  | err cls fs st' =>
    refine wpAny_call (codeAny_mono h fun r s' hr => ?_)
    cases r with
    | error e => exact hr
    | ok fl => exact hr.elim
theorem Rel.flown {Bq h' : Heap} (r : Rel c f kp z st s) (hb : c.B.StaysIn Bq) (ho : ∀ a o, Ours kp z st.nxt a → s.heap.get? a = some o → Bq.get? a = some o) (hq : Bq.StaysIn h') (hu : s.heap.UpToSlots h') : After c f kp z st s z st { s with heap := h' } := by
  have keep : ∀ a, Ours kp z st.nxt a → ∀ o, s.heap.get? a = some o → h'.get? a = some o := fun a ha o e => hq a o (ho a o ha e)
  have some' : ∀ a, Ours kp z st.nxt a → (s.heap.get? a).isSome = true → (h'.get? a).isSome = true := fun a ha e => by
    obtain ⟨o, e⟩ := Option.isSome_iff_exists.mp e
    rw [keep a ha o e]; rfl
  refine ⟨⟨fun b o e => hq b o (hb b o e), ?_, fun i hi => (r.objs i hi).keeps (fun o e => keep _ (.inr ⟨i, hi, .inl rfl⟩) o e) (fun o e => keep _ (.inr ⟨i, hi, .inr rfl⟩) o e), fun i hi b hb => ?_, r.apart, fun b hb => ?_, ?_, r.bL, r.gens, r.os⟩, Nat.le_refl _, fun _ _ => ⟨rfl, rfl⟩, fun b hb o e => keep b (.inl hb) o e, fun b hb o e => ?_, rfl⟩
  · obtain ⟨m, ⟨o, es, ep, e1, e2, e3, e4⟩, hl⟩ := r.loc
    obtain ⟨sl, e5⟩ := hu _ o e1 (fun vs q => by rw [e2] at q; cases q)
    exact ⟨m, ⟨_, es, ep, e5, e2, e3, e4⟩, hl⟩
  · obtain ⟨p1, p2, p3, p4, p5, p6⟩ := r.own i hi b hb
    exact ⟨p1, p2, p3, p4, some' b (.inr ⟨i, hi, hb⟩) p5, p6⟩
  · obtain ⟨p1, p2, p3, p4⟩ := r.kps b hb
    exact ⟨some' b (.inl hb) p1, p2, p3, p4⟩
  · refine funFrames_turn (fun env he a o ha e hd => ?_) r.frames
    obtain ⟨sl, e5⟩ := hu _ o e hd
    exact ⟨_, e5, hd⟩
  · obtain ⟨env, he, hf⟩ := List.mem_filterMap.mp (List.mem_filter.mp hb).1
    obtain ⟨_, ⟨L, o', e1, e2, e3, e4⟩⟩ := funFrames_mem r.frames he
    rw [hf] at e1
    cases e1
    rw [e3] at e
    cases e
    exact hu _ _ e3 e4
theorem ours_some {a : Addr} (r : Rel c f kp z st s) (h : Ours kp z st.nxt a) : (s.heap.get? a).isSome = true := by
  rcases h with h | ⟨i, hi, h⟩
  · exact (r.kps a h).1
  · exact (r.own i hi a h).2.2.2.2.1
theorem leave_raised {md : Mode} {fd : FuncData} {a : Addr} {h₀ : Heap} {l : List (Nat × Slot)} {tk : Nat} {cls : V} {e : Value} {st' : St} {s' : Shared} (h : Rel c f kp z st s) (hfr : A.frames = some f.stack) (hkeep : ∀ b o, s.heap.get? b = some o → h₀.get? b = some o)
    (x : Raised c (calleeFm f fd s.heap.objs.size a) (f.own kp) z { st with loc := l, md := md } { s with heap := h₀, toks := tk } cls st' e s') :
    wpAny (model c.prog c.w) (A.deeper (callEnv fd s.heap.objs.size a)) (leaving (callEnv fd s.heap.objs.size a) e) (fun _ s'' => Raised c f kp z st s cls { st' with loc := st.loc, md := st.md } e s'') (fun _ _ => False) s' := by
  obtain ⟨z', af, ea, cv, a0, Bq, rfl, hcv, ⟨q1, q2, q3, q4⟩, hb, ho⟩ := x.ex
  have hfr' : (A.deeper (callEnv fd s.heap.objs.size a)).frames = some (callEnv fd s.heap.objs.size a :: f.stack) := by
    show A.frames.map (callEnv fd s.heap.objs.size a :: ·) = _
    rw [hfr]; rfl
  have fin : ∀ h', Bq.StaysIn h' → h'.FunFrames Bq f.stack → h'.TracedW Bq ea cv a0 → s'.heap.UpToSlots h' → Raised c f kp z st s cls { st' with loc := st.loc, md := st.md } (.ref ea) { s' with heap := h' } := by
    intro h' k1 k2 k3 k4
    have af2 := af.rel.flown hb ho k1 k4
    have aft := af.trans af2
    have kpk : ∀ b ∈ kp, b ∈ f.own kp := fun b hb => by
      unfold Fm.own
      split
      · exact hb
      · exact List.mem_append_left _ hb
    refine ⟨z', After.leave Sub.callee h hkeep aft, ea, cv, a0, Bq, rfl, hcv, ⟨k1, q2, k2, .inr (.inl k3)⟩, hb, fun b o hob e => ?_⟩
    have hob' : Ours (f.own kp) z' st'.nxt b := by
      rcases hob with w | w
      · exact .inl (kpk b w)
      · exact .inr w
    obtain ⟨o', e'⟩ := Option.isSome_iff_exists.mp (ours_some af.rel hob')
    have e1 := ho b o' hob' e'
    have e2 := k1 b o' e1
    have e : h'.get? b = some o := e
    rw [e2] at e
    cases e
    exact e1
  rcases q4 with ⟨oe, vs, e1, rfl, e3, e4, e5⟩ | tr | ⟨env, outer, L, hl, hL, tr⟩
  · refine wpAny_leaving_firstW hfr' q3 rfl e1 q1 q2 e3 e5 e4 fun h' hL => ?_
    obtain ⟨k1, ⟨_, _, k2⟩, k3, k4⟩ := hL
    exact fin h' k1 k2 k3 k4
  · refine wpAny_leaves_onW hfr' rfl ⟨q1, q2, q3, tr⟩ fun h' hF k4 => ?_
    obtain ⟨k1, _, k2, k3⟩ := hF
    exact fin h' k1 k2 k3 k4
  · obtain ⟨rfl, rfl⟩ := List.cons.inj hl
    unfold leaving
    refine wpAny_bind (wpAny_noteFrame_againW hL tr ?_)
    refine wpAny_landsW ⟨q1, q2, q3, tr⟩ fun h' hF k4 => ?_
    obtain ⟨k1, _, k2, k3⟩ := hF
    exact fin h' k1 k2.2.2 k3 k4
theorem fn_code (hc : c.Ok) (ok : EOk c p n) (h : Rel c f kp z st s) (hA : AOk A f (n + 1) st.md) {a : Addr} {fd : FuncData} (hf : fnOf? c.K a = some fd) {args : List V} {us : List Value} {kw : List (Str × V)} {ks : List (Str × Value)} (hv : VRs z.ρ st.nxt c.B args us) (hk : KwR c.B z.ρ st.nxt kw ks) :
    CodeS c f kp A (.call (.ref a) ⟨us, ks⟩) (callFn c.K p fd args kw st) z st s := by
  unfold callFn
  cases el : enterFn c.K fd args kw with
  | none => trivial
  | some l =>
    obtain ⟨P, hbody, xs, bs, rfl, hbind, hxs, hloc⟩ := enterFn_sound hc h hv hk el
    have ho : ∃ o, s.heap.get? a = some o ∧ o.data = .func fd := by
      unfold fnOf? at hf
      split at hf
      · rename_i c1 d1 fd' sl e1
        cases hf
        exact ⟨_, h.inK hc _ _ e1, rfl⟩
      · cases hf
    obtain ⟨o, ho, hdata⟩ := ho
    have hlim : s.heap.NoLimit := hc.top.nolimit.keeps h.base
    have hcell : ∀ x ∈ fd.scope.names, x.2 ≠ .cell := fun x hx e => by
      rcases (P.names x hx).1 with q | q <;> (rw [e] at q; cases q)
    have hroom : A.depth < recursionLimit := by have := hA.depth; exact Nat.lt_of_lt_of_le (by omega : A.depth < 951) (by decide)
    have core : ∀ (R : Result → Shared → Prop), (∀ h₀ tk, (∀ b o, s.heap.get? b = some o → h₀.get? b = some o) → Rel c (calleeFm f fd s.heap.objs.size a) (f.own kp) z { st with loc := locOf xs fd.scope.names, md := { st.md with top := true } } { s with heap := h₀, toks := tk } →
        wpAny (model c.prog c.w) (A.deeper (callEnv fd s.heap.objs.size a)) (execs (bodyOf fd) (callEnv fd s.heap.objs.size a)) (fun f s' => R (.ok (.ret (match f with | .ret v => v | _ => .none))) s')
        (fun e s' => wpAny (model c.prog c.w) (A.deeper (callEnv fd s.heap.objs.size a)) (leaving (callEnv fd s.heap.objs.size a) e) (fun _ s'' => R (.error e) s'') (fun e' s'' => R (.error e') s'') s') { s with heap := h₀, toks := tk }) → codeAny (model c.prog c.w) A (.call (.ref a) ⟨us, ks⟩) R s := by
      intro R hR
      refine codeAny_call_def hroom ho hdata hlim (codeRec_of (h.inK hc) P.code) hbody hbind hcell hloc (fun h₀ hn hkeep => hR h₀ _ hkeep ?_) P.co P.gen P.kind
      refine h.enter Sub.callee hn hkeep (fun hF => ?_) fun x hx => ?_
      · obtain ⟨o, es, ep, e1, e2, e3, e4⟩ := hn
        refine ⟨?_, ⟨s.heap.objs.size, o, rfl, (h.fresh (get?_size _)).base, e1, fun vs q => by rw [e2] at q; cases q⟩, hF⟩
        show fd.scope.kind ≠ .module
        rw [P.kind]
        exact fun e => by cases e
      have := look_locOf (binds := xs) hx P.names
      have hr := lookup_rel (All2.reverse hxs) x
      cases q : look (nid x) (locOf xs fd.scope.names) with
      | none => trivial
      | some sl =>
        rw [q] at this
        cases sl with
        | glob => exact this
        | cell _ _ => exact this.elim
        | unset => rw [this.2] at hr; exact ⟨this.1, hr⟩
        | val v =>
          rw [this.2] at hr
          obtain ⟨u, e1, e2⟩ := hr
          exact ⟨this.1, u, e1, e2⟩
    have hA' : AOk (A.deeper (callEnv fd s.heap.objs.size a)) (calleeFm f fd s.heap.objs.size a) n { st.md with top := true } := by
      refine ⟨?_, ?_, ?_, hA.handled, fun _ => ⟨f.stack, rfl, rfl⟩, ⟨P.kind, P.gl, P.bi⟩⟩
      · show (A.frames.map (callEnv fd s.heap.objs.size a :: ·)) = _
        rw [hA.frames]; rfl
      · have := hA.depth
        show A.depth + 1 + n ≤ 950
        omega
      · have := hA.units
        show A.units + 3 + 10 * n ≤ 9000
        omega
    show CodeS c f kp A (.call (.ref a) ⟨us, ks⟩) (withLoc (locOf xs fd.scope.names) (Mine.bind (execL p (bodyOf fd)) fun fl => ret (flV fl)) st) z st s
    unfold withLoc Mine.bind
    cases er : execL p (bodyOf fd) { st with loc := locOf xs fd.scope.names, md := { st.md with top := true } } with
    | stuck w => trivial
    | ok fl st' =>
      refine core _ fun h₀ tk hkeep hr => ?_
      have := execL_sound ok (bodyOf fd) hr hA'
      rw [er] at this
      refine wpAny_mono this (fun flo s' ⟨z', af, hf⟩ => ⟨z', After.leave Sub.callee h hkeep af, ?_⟩) fun _ _ q => q.elim
      cases fl <;> cases flo <;> first | exact hf.elim | exact .none | exact hf
    | err cls fs st' =>
      refine core _ fun h₀ tk hkeep hr => ?_
      have := execL_sound ok (bodyOf fd) hr hA'
      rw [er] at this
      refine wpAny_mono this (fun _ _ q => q.elim) fun e s' hx => ?_
      exact wpAny_mono (leave_raised h hA.frames hkeep hx) (fun _ _ q => q) fun _ _ q => q.elim
end
end Mine
namespace Mine
open PySem PySem.W PySem.Calls PyProof.Rows
section
variable (K : Frag) (p : Ev)
def newInst (C : Addr) (args : List V) (kw : List (Str × V)) : M V := match findIn K (.ref C) "__init__" with
  | some (some (.ref g)) => if isFn K (.ref g) then (match fnOf? K g with
    | some fd => bind (alloc (.inst C [])) fun x => bind (callFn K p fd (x :: args) kw) fun r => (match r with | .none => ret x | _ => stuck "__init__")
    | Option.none => stuck "__init__") else stuck "__init__"
  | _ => stuck "__init__"
def callOld (a : Addr) (args : List V) (kw : List (Str × V)) : M V := match fnOf? K a with
  | some fd => callFn K p fd args kw
  | Option.none => if makesIn K a then newInst K p a args kw else stuck "callee"
end
section
variable {c : Cx} {p : Ev} {n : Nat} {f : Fm} {kp : List Addr} {A : Around} {z : Sit} {st : St} {s : Shared}
theorem Rel.inst (h : Rel c f kp z st s) (C : Addr) : After c f kp z st s (z.put st.nxt (s.heap.objs.size + 1) s.heap.objs.size) (st.new (.inst C [])) { s with heap := (s.heap.push emptyDict).push (instObj C s.heap.objs.size) } := by
  have e1 : ((s.heap.push emptyDict).push (instObj C s.heap.objs.size)).get? (s.heap.objs.size + 1) = some (instObj C s.heap.objs.size) := by
    have := Heap.get?_push_size (s.heap.push emptyDict) (o := instObj C s.heap.objs.size) rfl
    rwa [Heap.size_push] at this
  have e2 : ((s.heap.push emptyDict).push (instObj C s.heap.objs.size)).get? s.heap.objs.size = some emptyDict := Heap.get?_push_of_some _ (Heap.get?_push_size s.heap rfl)
  have n1 : s.heap.get? (s.heap.objs.size + 1) = none := by
    cases q : s.heap.get? (s.heap.objs.size + 1) with
    | none => rfl
    | some o => exact absurd (Heap.lt_size q) (Nat.not_lt.mpr (Nat.le_succ _))
  exact Rel.alloc h (fun b ob e => Heap.get?_push_of_some _ (Heap.get?_push_of_some _ e)) ⟨n1, by rw [e1]; rfl⟩ ⟨get?_size _, by rw [e2]; rfl⟩ (fun _ => Nat.succ_ne_self _) ⟨e1, [], 0, e2, .nil⟩
theorem AOk.less {n' : Nat} (hA : AOk A f n st.md) (h : n' ≤ n) : AOk A f n' st.md := ⟨hA.frames, by have := hA.depth; omega, by have := hA.units; omega, hA.handled, hA.top, hA.good⟩
theorem AOk.make {C : Addr} {rest : List Value} {kw : List (Str × Value)} (hA : AOk A f (n + 1) st.md) : AOk (A.under (.builtin "type.__call__" ⟨.ref C :: rest, kw⟩)) f n st.md := by
  refine ⟨?_, ?_, ?_, hA.handled, hA.top, hA.good⟩
  · have e : (A.under (.builtin "type.__call__" ⟨.ref C :: rest, kw⟩)).frames = pushEnvs [] A.frames := by
      unfold Around.under
      rfl
    rw [e, pushEnvs_eq, hA.frames]
    rfl
  · have := hA.depth
    have w : Code.weight (.builtin "type.__call__" ⟨.ref C :: rest, kw⟩) = 1 := by
      unfold Code.weight
      have e1 : (Code.builtin "type.__call__" ⟨.ref C :: rest, kw⟩).frames = 0 := by rfl
      have e2 : (Code.builtin "type.__call__" ⟨.ref C :: rest, kw⟩).isCreation = true := rfl
      have e3 : (Code.builtin "type.__call__" ⟨.ref C :: rest, kw⟩).isGuard = false := by show guardIds.contains "type.__call__" = false; decide
      have e4 : (Code.builtin "type.__call__" ⟨.ref C :: rest, kw⟩).isCaller = false := rfl
      rw [e1, e2, e3, e4]; rfl
    show A.depth + Code.weight _ + n ≤ 950
    rw [w]; omega
  · have := hA.units
    have w : Code.cUnits (.builtin "type.__call__" ⟨.ref C :: rest, kw⟩) ≤ 10 := by
      have e1 : (Code.builtin "type.__call__" ⟨.ref C :: rest, kw⟩).frames = 0 := by rfl
      show 1 + 3 * (Code.builtin "type.__call__" ⟨.ref C :: rest, kw⟩).frames ≤ 10
      rw [e1]; decide
    show A.units + Code.cUnits _ + 10 * n ≤ 9000
    omega
theorem inst_code (hc : c.Ok) (ok : EOk c p n) (h : Rel c f kp z st s) (hA : AOk A f (n + 2) st.md) {C : Addr} (hm : makesIn c.K C = true) {args : List V} {us : List Value} {kw : List (Str × V)} {ks : List (Str × Value)} (hv : VRs z.ρ st.nxt c.B args us) (hk : KwR c.B z.ρ st.nxt kw ks) :
    CodeS c f kp A (.call (.ref C) ⟨us, ks⟩) (newInst c.K p C args kw st) z st s := by
  unfold newInst
  have X := h.inK hc
  have af := h.inst C
  cases ei : findIn c.K (.ref C) "__init__" with
  | none => trivial
  | some i =>
    cases i with
    | none => trivial
    | some i =>
      cases i <;> try trivial
      · rename_i g
        show CodeS c f kp A _ ((if isFn c.K (.ref g) then (match fnOf? c.K g with
          | some fd => Mine.bind (alloc (.inst C [])) fun x => Mine.bind (callFn c.K p fd (x :: args) kw) fun r => (match r with | .none => ret x | _ => Mine.stuck "__init__")
          | Option.none => Mine.stuck "__init__") else Mine.stuck "__init__" : M V) st) z st s
        split
        · rename_i hfn
          cases ef : fnOf? c.K g with
          | none => trivial
          | some fd =>
            dsimp only
            obtain ⟨hh, gg, dd, tt, oo⟩ := s
            have hv' : VRs (z.put st.nxt (hh.objs.size + 1) hh.objs.size).ρ (st.new (.inst C [])).nxt c.B (.ref st.nxt :: args) (.ref (hh.objs.size + 1) :: us) := .cons VR.new (hv.up)
            have hk' : KwR c.B (z.put st.nxt (hh.objs.size + 1) hh.objs.size).ρ (st.new (.inst C [])).nxt kw ks := All2.mono (fun _ _ q => ⟨q.1, q.2.mono (Nat.le_succ _) fun i hi => setN_lt hi⟩) hk
            have core := fn_code hc ok af.rel ((hA.make (C := C) (rest := us) (kw := ks)).after af) ef hv' hk'
            have mk : ∀ R, codeAny (model c.prog c.w) (A.under (.builtin "type.__call__" ⟨.ref C :: us, ks⟩)) (.call (.ref g) ⟨.ref (hh.objs.size + 1) :: us, ks⟩) (InitBack (hh.objs.size + 1) R) ⟨(hh.push emptyDict).push (instObj C hh.objs.size), gg, dd, tt, oo⟩ → codeAny (model c.prog c.w) A (.call (.ref C) ⟨us, ks⟩) R ⟨hh, gg, dd, tt, oo⟩ := fun R q =>
              make_core (makes_of X hm) (looks_findIn X ei) (fun self => bind_fn X self (beq_iff_eq.mp hfn)) (.inl (by rfl)) q
            show CodeS c f kp A _ (Mine.bind (callFn c.K p fd (.ref st.nxt :: args) kw) (fun r => (match r with | .none => ret (.ref st.nxt) | _ => Mine.stuck "__init__")) (st.new (.inst C []))) z st _
            unfold Mine.bind
            cases er : callFn c.K p fd (.ref st.nxt :: args) kw (st.new (.inst C [])) with
            | stuck w => trivial
            | err cls fs st' =>
              rw [er] at core
              refine mk _ (codeAny_mono core fun r s' hr => ?_)
              cases r with
              | ok fl => exact hr.elim
              | error e => exact Raised.from af hr
            | ok r st' =>
              rw [er] at core
              dsimp only
              cases r <;> try trivial
              refine mk _ (codeAny_mono core fun r s' hr => ?_)
              cases r with
              | error e => exact hr.elim
              | ok fl =>
                cases fl <;> try exact hr.elim
                obtain ⟨z', af2, hnone⟩ := hr
                refine ⟨hnone.inj_none, z', af.trans af2, ?_⟩
                exact af2.vr VR.new
        · trivial
theorem callOld_sound (hc : c.Ok) (ok : EOk c p n) (h : Rel c f kp z st s) (hA : AOk A f (n + 2) st.md) (a : Addr) {args : List V} {us : List Value} {kw : List (Str × V)} {ks : List (Str × Value)} (hv : VRs z.ρ st.nxt c.B args us) (hk : KwR c.B z.ρ st.nxt kw ks) :
    Snd c f kp A (PySem.call (.ref a) us ks) (callOld c.K p a args kw st) (VP c.B) z st s := by
  refine CodeS.call ?_
  unfold callOld
  cases ef : fnOf? c.K a with
  | some fd => exact fn_code hc ok h (hA.less (Nat.le_succ _)) ef hv hk
  | none =>
    dsimp only
    split
    · rename_i hm
      exact inst_code hc ok h hA hm hv hk
    · trivial
end
end Mine
namespace Mine.BA
open PySem PySem.W PySem.Calls PyProof.Rows PySem.Spec
theorem noBytes : typeLookup (.type "bytearray") "__bytes__" = pure none := by rw [typeLookup_type, builtinLookup_eq_fast]; kernel_rfl
theorem noIndex : typeLookup (.type "bytearray") "__index__" = pure none := by rw [typeLookup_type, builtinLookup_eq_fast]; kernel_rfl
theorem barr_buffer : typeLookup (.type "bytearray") "__buffer__" = pure (some (.builtin "bytearray.__buffer__")) := by rw [typeLookup_type, builtinLookup_eq_fast]; kernel_rfl
set_option maxHeartbeats 4000000 in
theorem meets_new (a : Addr) (b : Array UInt8) (hz : b.size ≤ sizeLine) :
    Meets (Builtin.«bytes.__new__» ⟨[.type "bytes", .ref a], []⟩) (fun _ R s => s.heap.get? a = some { cls := .type "bytearray", data := .bytearray b } ∧ R (.ok (.ret (.bytes b s.toks))) { s with toks := s.toks + 1 }) := by
  refine .of_wp fun prog w A R s h => ?_
  obtain ⟨hp, g, d, tk, os⟩ := s
  obtain ⟨hl, h⟩ := h
  have f1 := noBytes
  have f2 := noIndex
  have f3 := barr_buffer
  have f4 := F.bm_sub
  wp_walk using loadPart' hl
  have f5 : (!"bytearray.__buffer__".endsWith ("." ++ "__buffer__")) = false := by decide +kernel
  have f6 : "bytearray.__buffer__".dropRight ("__buffer__".length + 1) = "bytearray" := by decide +kernel
  have f7 : isSubtype (.type "bytearray") (.type "bytearray") = pure true := by rw [isSubtype_type]; kernel_rfl
  have f8 : typeLookup (.type "bytearray") "__release_buffer__" = pure (some (.builtin "bytearray.__release_buffer__")) := by rw [typeLookup_type, builtinLookup_eq_fast]; kernel_rfl
  have f9 : (!"bytearray.__release_buffer__".endsWith ("." ++ "__release_buffer__")) = false := by decide +kernel
  have f10 : "bytearray.__release_buffer__".dropRight ("__release_buffer__".length + 1) = "bytearray" := by decide +kernel
  rw [f5, f6, if_neg Bool.false_ne_true]
  wp_walk using loadPart' hl
  rw [f9, f10, if_neg Bool.false_ne_true]
  wp_walk using loadPart' hl
  exact ⟨_, rfl, h⟩
end Mine.BA
namespace Mine
open PySem PySem.W PySem.Calls PyProof.Rows
def biLen : List V → M V
  | [.bytes b] => if szOk b.length then ret (.int b.length) else stuck "len"
  | [.ref r] => bind (getO r) fun o => (match o with
    | .list vs => if szOk vs.length then ret (.int vs.length) else stuck "len"
    | .barr b => if szOk b.length then ret (.int b.length) else stuck "len"
    | _ => stuck "len")
  | _ => stuck "len"
def biMax : List V → M V
  | [.int a, .int b] => calm (ret (.int (if a < b then b else a)))
  | _ => stuck "max"
def biIsi (K : Frag) : List V → M V
  | [.int _, .type T] => if T == "int" then ret (.bool true) else stuck "isinstance"
  | [.bytes _, .type T] => if T == "bytes" then ret (.bool true) else stuck "isinstance"
  | [.none, .old C] => if isNotIn K "NoneType" C then ret (.bool false) else stuck "isinstance"
  | _ => stuck "isinstance"
def biAppend : List V → M V
  | [.ref r, v] => bind (getO r) fun o => (match o with
    | .list vs => if szOk (vs.length + 1) then bind (setO r (.list (vs ++ [v]))) fun _ => ret .none else stuck "append"
    | _ => stuck "append")
  | _ => stuck "append"
def biToBytes : List V → M V
  | [.int x, .int k, .str e] => if e == ("little" : Str) && decide (0 ≤ k) && decide (k ≤ 8) && decide (0 ≤ x) && decide (x < 256 ^ k.toNat) then ret (.bytes (leBytes k.toNat x.toNat)) else stuck "to_bytes"
  | _ => stuck "to_bytes"
def tyRange : List V → M V
  | [.int b] => alloc (.rng 0 b 1)
  | [.int a, .int b] => alloc (.rng a b 1)
  | [.int a, .int b, .int k] => if k != 0 && decide (k.natAbs < 1073741824) then alloc (.rng a b k) else stuck "range"
  | _ => stuck "range"
def tyInt : List V → M V
  | [.int i] => ret (.int i)
  | _ => stuck "int"
def intsOf : List V → Option (List Int)
  | [] => some []
  | .int i :: r => (intsOf r).map (i :: ·)
  | _ :: _ => Option.none
def tyBytes : List V → M V
  | [.ref r] => bind (getO r) fun o => (match o with
    | .list vs => (match intsOf vs with
      | some ns => if szOk vs.length && ns.all (fun n => decide (0 ≤ n) && decide (n < 256)) then calm (ret (.bytes (ns.map fun n => n.toNat.toUInt8))) else stuck "bytes"
      | Option.none => stuck "bytes")
    | .barr b => if szOk b.length then ret (.bytes b) else stuck "bytes"
    | _ => stuck "bytes")
  | _ => stuck "bytes"
section
variable {c : Cx} {p : Ev} {n : Nat} {f : Fm} {kp : List Addr} {A : Around} {z : Sit} {st : St} {s : Shared}
theorem biLen_sound (h : Rel c f kp z st s) {xs : List V} {us : List Value} (hv : VRs z.ρ st.nxt c.B xs us) : Snd c f kp A (PySem.call (.builtin "len") us []) (biLen xs st) (VP c.B) z st s := by
  unfold biLen
  split
  · rename_i b
    cases hv with | cons ha ht => ?_
    cases ht
    obtain ⟨t, rfl⟩ := ha.inj_bytes
    refine Snd.ite (fun q => ?_) fun _ => Snd.stuck
    have q := of_decide_eq_true q
    refine Snd.same fun Q E k => len_bytes (by simp; omega) (k _ _ (After.tok h _) ?_)
    rw [List.size_toArray]
    exact .int _ _
  · rename_i r
    cases hv with | cons ha ht => ?_
    cases ht
    obtain ⟨rfl, hr⟩ := ha.inj_ref
    refine Snd.getO fun hr => ?_
    cases er : st.obj r <;> try exact Snd.stuck
    · rename_i vs
      obtain ⟨ws, ep, e1, r1⟩ := h.lst hr er
      refine Snd.ite (fun q => ?_) fun _ => Snd.stuck
      have q := of_decide_eq_true q
      refine Snd.same fun Q E k => len_list ⟨_, e1, rfl, ep, rfl⟩ (by rw [r1.size]; omega) (k _ _ (After.tok h _) ?_)
      rw [r1.size]
      exact .int _ _
    · rename_i b
      have hb := h.objs r hr
      rw [er] at hb
      have hb : s.heap.get? (z.ρ r) = some (barrO b.toArray) := hb
      refine Snd.ite (fun q => ?_) fun _ => Snd.stuck
      have q := of_decide_eq_true q
      have hT : s.TypeIs (.ref (z.ρ r)) "bytearray" := ⟨_, hb, rfl⟩
      refine Snd.same fun Q E k => call_len_meets (n := (b.length : Int)) hT BA.slot_len BA.entry_len (BA.args_len _) (BA.meets_len (z.ρ r) b.toArray) (by omega) (by omega) (fun Q' hq => ⟨hb, by rw [List.size_toArray]; exact hq⟩) (k _ _ (After.tok h _) (.int _ _))
  · exact Snd.stuck
theorem biMax_sound (hA : AOk A f n st.md) (h : Rel c f kp z st s) {xs : List V} {us : List Value} (hv : VRs z.ρ st.nxt c.B xs us) : Snd c f kp A (PySem.call (.builtin "max") us []) (biMax xs st) (VP c.B) z st s := by
  unfold biMax
  split
  · rename_i a b
    cases hv with | cons ha ht => ?_
    cases ht with | cons hb ht => ?_
    cases ht
    obtain ⟨t, rfl⟩ := ha.inj_int
    obtain ⟨u, rfl⟩ := hb.inj_int
    refine Snd.calm fun hd => ?_
    refine Snd.same fun Q E k => PySem.Flt.max_two_num (hA.handled hd) (.int _ _) (.int _ _) fun h' tk hk => ?_
    have af := h.grown hk
    refine k _ _ (af.trans (After.tok af.rel tk)) ?_
    show VR _ _ _ _ (if (decide (a < b)) = true then _ else _)
    by_cases w : a < b
    · rw [if_pos w, if_pos (decide_eq_true w)]; exact .int _ _
    · rw [if_neg w, if_neg (by simp [w])]; exact .int _ _
  · exact Snd.stuck
theorem biIsi_sound (hc : c.Ok) (h : Rel c f kp z st s) {xs : List V} {us : List Value} (hv : VRs z.ρ st.nxt c.B xs us) : Snd c f kp A (PySem.call (.builtin "isinstance") us []) (biIsi c.K xs st) (VP c.B) z st s := by
  unfold biIsi
  split
  · rename_i a T
    cases hv with | cons ha ht => ?_
    cases ht with | cons hb ht => ?_
    cases ht
    obtain ⟨t, rfl⟩ := ha.inj_int
    rw [hb.inj_type]
    refine Snd.ite (fun q => ?_) fun _ => Snd.stuck
    have q : T = "int" := beq_iff_eq.mp q
    subst q
    exact Snd.bool h fun Q E k => IsiPair.int_int k
  · rename_i b T
    cases hv with | cons ha ht => ?_
    cases ht with | cons hb ht => ?_
    cases ht
    obtain ⟨t, rfl⟩ := ha.inj_bytes
    rw [hb.inj_type]
    refine Snd.ite (fun q => ?_) fun _ => Snd.stuck
    have q : T = "bytes" := beq_iff_eq.mp q
    subst q
    exact Snd.bool h fun Q E k => call_isinstance (isinstance_true (Tx := "bytes") F.isi_meta_bytes F.bm_sub) ⟨rfl, k⟩
  · rename_i C
    cases hv with | cons ha ht => ?_
    cases ht with | cons hb ht => ?_
    cases ht
    rw [ha.inj_none, hb.inj_old]
    refine Snd.ite (fun q => ?_) fun _ => Snd.stuck
    refine Snd.same fun Q E k => isn_call (P := fun _ => True) (h.inK hc) (fun M => Looks.of_pure rfl) q (by intro e; cases e) trivial none_cls (k _ _ (After.tok h _) (.bool _))
  · exact Snd.stuck
theorem biAppend_sound (h : Rel c f kp z st s) {xs : List V} {us : List Value} (hv : VRs z.ρ st.nxt c.B xs us) : Snd c f kp A (PySem.call (.builtin "list.append") us []) (biAppend xs st) (VP c.B) z st s := by
  unfold biAppend
  split
  · rename_i r v
    cases hv with | cons ha ht => ?_
    cases ht with | cons hb ht => ?_
    cases ht
    obtain ⟨rfl, hr⟩ := ha.inj_ref
    refine Snd.getO fun hr => ?_
    cases er : st.obj r <;> try exact Snd.stuck
    rename_i vs
    obtain ⟨ws, ep, e1, r1⟩ := h.lst hr er
    refine Snd.ite (fun q => ?_) fun _ => Snd.stuck
    have q := of_decide_eq_true q
    refine Snd.of fun Q E k => append_at e1 (fun h' hs e2 => ?_) (by rw [r1.size, sizeLine_eq]; omega)
    exact k _ z _ (Rel.turn h hr (.inl rfl) hs (by rw [e2]; rfl) (o := .list (vs ++ [v])) (fun e => by cases e) ⟨_, _, e2, by rw [Array.toList_push]; exact r1.append (.cons hb .nil)⟩) .none
  · exact Snd.stuck
theorem leBytes_little : ∀ (k n : Nat), (leBytes k n).map (fun c => ((c.toNat : Nat) : Int)) = KTBy.little k (n : Int)
  | 0, _ => rfl
  | k + 1, n => by
    unfold leBytes KTBy.little
    rw [List.map_cons, leBytes_little k (n / 256)]
    congr 1
    have : (UInt8.ofNat (n % 256)).toNat = n % 256 := by simp
    rw [this]
    omega
theorem map_toNat_inj : ∀ {a b : List UInt8}, a.map (fun c => ((c.toNat : Nat) : Int)) = b.map (fun c => ((c.toNat : Nat) : Int)) → a = b
  | [], [], _ => rfl
  | [], _ :: _, h => by cases h
  | _ :: _, [], h => by cases h
  | x :: a, y :: b, h => by
    rw [List.map_cons, List.map_cons] at h
    injection h with h1 h2
    have : x = y := UInt8.toNat_inj.mp (by omega)
    rw [this, map_toNat_inj h2]
theorem biToBytes_sound (h : Rel c f kp z st s) {xs : List V} {us : List Value} (hv : VRs z.ρ st.nxt c.B xs us) : Snd c f kp A (PySem.call (.builtin "int.to_bytes") us []) (biToBytes xs st) (VP c.B) z st s := by
  unfold biToBytes
  split
  · rename_i x k e
    cases hv with | cons ha ht => ?_
    cases ht with | cons hb ht => ?_
    cases ht with | cons hd ht => ?_
    cases ht
    obtain ⟨t, rfl⟩ := ha.inj_int
    obtain ⟨u, rfl⟩ := hb.inj_int
    obtain ⟨w, rfl⟩ := hd.inj_str
    refine Snd.ite (fun q => ?_) fun _ => Snd.stuck
    simp only [Bool.and_eq_true, decide_eq_true_eq, beq_iff_eq] at q
    obtain ⟨⟨⟨⟨q1, q2⟩, q3⟩, q4⟩, q5⟩ := q
    subst q1
    obtain ⟨j, rfl⟩ := Int.eq_ofNat_of_zero_le q2
    refine Snd.same fun Q E k' => KTBy.to_little (k := j) (B := 256 ^ j) (by omega) rfl q4 (by simpa using q5) fun b t' kk hb _ => ?_
    have : b.toList = leBytes j x.toNat := map_toNat_inj (by rw [leBytes_little]; rw [show ((x.toNat : Nat) : Int) = x by omega]; exact hb)
    have e2 : b = (leBytes j x.toNat).toArray := by rw [← this]
    rw [e2]
    exact k' _ _ (After.tok h _) (.bytes _ _)
  · exact Snd.stuck
theorem tyRange_sound (h : Rel c f kp z st s) {xs : List V} {us : List Value} (hv : VRs z.ρ st.nxt c.B xs us) : Snd c f kp A (PySem.call (.type "range") us []) (tyRange xs st) (VP c.B) z st s := by
  have fin : ∀ (a b k : Int) (t t' t'' : Tok) (tk : Nat) (Q : Value → Shared → Prop), (∀ v z' s', After c f kp z st s z' (st.new (.rng a b k)) s' → VP c.B z' (st.new (.rng a b k)).nxt (.ref st.nxt) v → Q v s') → Q (.ref s.heap.objs.size) { s with heap := s.heap.push { cls := .type "range", data := .fields #[.int a t, .int b t', .int k t''] }, toks := tk } := by
    intro a b k t t' t'' tk Q K
    have R := Rel.push (o := .rng a b k) (ob := { cls := .type "range", data := .fields #[.int a t, .int b t', .int k t''] }) h rfl rfl fun e => ⟨t, t', t'', e⟩
    exact K _ _ _ (R.trans (After.tok R.rel tk)) VR.new
  unfold tyRange
  split
  · cases hv with | cons ha ht => ?_
    cases ht
    obtain ⟨t, rfl⟩ := ha.inj_int
    exact Snd.of fun Q E k => call_range_1 (fin _ _ _ _ _ _ _ Q k)
  · cases hv with | cons ha ht => ?_
    cases ht with | cons hb ht => ?_
    cases ht
    obtain ⟨t, rfl⟩ := ha.inj_int
    obtain ⟨u, rfl⟩ := hb.inj_int
    exact Snd.of fun Q E k => call_range_2 (fin _ _ _ _ _ _ _ Q k)
  · cases hv with | cons ha ht => ?_
    cases ht with | cons hb ht => ?_
    cases ht with | cons hd ht => ?_
    cases ht
    obtain ⟨t, rfl⟩ := ha.inj_int
    obtain ⟨u, rfl⟩ := hb.inj_int
    obtain ⟨w, rfl⟩ := hd.inj_int
    refine Snd.ite (fun q => ?_) fun _ => Snd.stuck
    rw [Bool.and_eq_true] at q
    exact Snd.of fun Q E k => call_range_3 (by simpa using q.1) (fin _ _ _ _ _ _ _ Q k) (Or.inl (PyProof.noPylong_small (of_decide_eq_true q.2)))
  · exact Snd.stuck
theorem tyInt_sound (h : Rel c f kp z st s) {xs : List V} {us : List Value} (hv : VRs z.ρ st.nxt c.B xs us) : Snd c f kp A (PySem.call (.type "int") us []) (tyInt xs st) (VP c.B) z st s := by
  unfold tyInt
  split
  · cases hv with | cons ha ht => ?_
    cases ht
    obtain ⟨t, rfl⟩ := ha.inj_int
    exact Snd.same fun Q E k => call_int_int (k _ _ (After.refl h) (.int _ _))
  · exact Snd.stuck
theorem intsOf_are {ρ n B} : ∀ {vs : List V} {us : List Value} {ns : List Int}, VRs ρ n B vs us → intsOf vs = some ns → IntsAre us ns
  | [], us, ns, h, e => by cases h; cases e; exact .nil
  | v :: vs, _, ns, .cons ha ht, e => by
    cases v <;> try cases e
    rename_i i
    unfold intsOf at e
    cases e1 : intsOf vs with
    | none => rw [e1] at e; cases e
    | some ms =>
      rw [e1] at e
      cases e
      obtain ⟨t, rfl⟩ := ha.inj_int
      exact .cons _ _ (intsOf_are ht e1)
theorem tyBytes_sound (hA : AOk A f n st.md) (h : Rel c f kp z st s) {xs : List V} {us : List Value} (hv : VRs z.ρ st.nxt c.B xs us) : Snd c f kp A (PySem.call (.type "bytes") us []) (tyBytes xs st) (VP c.B) z st s := by
  unfold tyBytes
  split
  · rename_i r
    cases hv with | cons ha ht => ?_
    cases ht
    obtain ⟨rfl, hr⟩ := ha.inj_ref
    refine Snd.getO fun hr => ?_
    cases er : st.obj r <;> try exact Snd.stuck
    · rename_i vs
      obtain ⟨ws, ep, e1, r1⟩ := h.lst hr er
      dsimp only
      cases ei : intsOf vs with
      | none => exact Snd.stuck
      | some ns =>
        refine Snd.ite (fun q => ?_) fun _ => Snd.stuck
        rw [Bool.and_eq_true] at q
        have q1 := of_decide_eq_true q.1
        have hr : ∀ m ∈ ns, 0 ≤ m ∧ m < 256 := fun m hm => by
          have := List.all_eq_true.mp q.2 m hm
          simpa using this
        refine Snd.calm fun hd => ?_
        refine Snd.same fun Q E k => call_bytes_ints (vs := ws.toList) ⟨_, e1, rfl, ep, by simp⟩ (intsOf_are r1 ei) hr (by rw [Array.length_toList, r1.size, sizeLine_eq]; exact q1) (hA.handled hd) fun h' t tk hk => ?_
        have af := h.grown hk
        exact k _ _ (af.trans (After.tok af.rel tk)) (.bytes _ _)
    · rename_i b
      have e1 := h.objs r hr
      rw [er] at e1
      have e1 : s.heap.get? (z.ρ r) = some (barrO b.toArray) := e1
      refine Snd.ite (fun q => ?_) fun _ => Snd.stuck
      have q := of_decide_eq_true q
      refine Snd.same fun Q E k => callType_new F.bm_called (by decide) (F.bm_typeCall _) (F.bm_newCall _) (fun obj => F.args_object_init_2 obj _) F.bm_entry (BA.meets_new (z.ρ r) b.toArray (by rw [sizeLine_eq]; simpa using q)) ⟨e1, ?_⟩
      exact ⟨rfl, k _ _ (After.tok h _) (.bytes _ _)⟩
  · exact Snd.stuck
end
end Mine
namespace Mine
open PySem PySem.W PySem.Calls PyProof.Rows
def notSuper : Expr → Bool
  | .Call (.Name id _) [] [] _ => id != ("super" : Str)
  | _ => true
def statIn (K : Frag) (C : Addr) (name : Str) : Option Addr := match findObj K C (some (dictOf [] 0)) name with
  | some (.bind (.builtin i) (.ref q)) => if i == "staticmethod.__get__" && (typeIn K (.ref q) == some (.type "staticmethod")) && (findIn K (.ref C) name == some (some (.ref q))) then (match recIn K q "staticmethod" with
    | some (.ref g :: _) => if (K.lookup g).isSome then some g else Option.none
    | _ => Option.none) else Option.none
  | _ => Option.none
def fnIn (K : Frag) (C : Addr) (name : Str) : Option Addr := match findIn K (.ref C) name with
  | some (some (.ref g)) => if isFn K (.ref g) && (K.lookup g).isSome then some g else Option.none
  | _ => Option.none
def clsStat (K : Frag) (C : Addr) (name : Str) : Option Addr := if specialIn K (.ref C) "__getattribute__" == some (some (.builtin "type.__getattribute__")) then (match typeIn K (.ref C) with
  | some mc => if readsIn K C mc then (match findCls K (.ref C) mc name with
    | some (.get (.builtin i) (.ref q) .none (.ref D)) => if i == "staticmethod.__get__" then (match recIn K q "staticmethod" with
      | some (.ref g :: _) => if (K.lookup g).isSome then some g else Option.none
      | _ => Option.none) else Option.none
    | _ => Option.none) else Option.none
  | _ => Option.none) else Option.none
def getMeth (K : Frag) (o : V) (name : Str) : M (V × List V) := if nid name = 0 then stuck "name" else match o with
  | .ref r => bind (getO r) fun ob => (match ob with
    | .inst C fs => if plainGet K C name && (look (nid name) fs).isNone then (match fnIn K C name with
        | some g => ret (.old g, [.ref r])
        | Option.none => (match statIn K C name with
          | some g => ret (.old g, [])
          | Option.none => stuck "no such method")) else stuck "a method of a class that is not plain"
    | .list _ => if name = ("append" : Str) then ret (.bi "list.append", [.ref r]) else stuck "a method of a list"
    | _ => stuck "method")
  | .old C => (match clsStat K C name with
    | some g => ret (.old g, [])
    | Option.none => stuck "no such method of the class")
  | .int i => if name = ("to_bytes" : Str) then ret (.bi "int.to_bytes", [.int i]) else stuck "a method of an int"
  | _ => stuck "method"
def MethP (B : Heap) : Sit → Nat → V × List V → Value × List Value → Prop := fun z n x v => VR z.ρ n B x.1 v.1 ∧ VRs z.ρ n B x.2 v.2
section
variable {c : Cx} {p : Ev} {n : Nat} {f : Fm} {kp : List Addr} {A : Around} {z : Sit} {st : St} {s : Shared}
theorem base_plain {o : Expr} {name : Str} {env : Env} {t : Sem Value} (h : notSuper o = true) : attributeBase o name env t = t := by
  unfold attributeBase
  split
  · rename_i id _ _
    have : (id != ("super" : Str)) = true := h
    simp [this]
  · rfl
theorem type_append : typeOf (.builtin "list.append") = pure (.type "method_descriptor") := by show builtinType _ = _; rw [builtinType_eq_fast]; kernel_rfl
theorem canon_object : (Manifest.canonical "object.__getattribute__" != "object.__getattribute__") = false := by decide +kernel
theorem findObj_congr {K : Frag} {C : Addr} {o o' : Obj} {name : Str} (h : lookIn name o = lookIn name o') : findObj K C (some o) name = findObj K C (some o') name := by
  unfold findObj PySem.W.ownOf
  simp only [h]
theorem getMeth_sound (hc : c.Ok) (h : Rel c f kp z st s) (name : Str) (pl : Sem Bool) {o : V} {x : Value} (ho : VR z.ρ st.nxt c.B o x) : Snd c f kp A (getMethod x name pl) (getMeth c.K o name st) (MethP c.B) z st s := by
  unfold getMeth
  refine Snd.iteP (fun _ => Snd.stuck) fun h0 => ?_
  have X := h.inK hc
  have oldVR : ∀ g, (c.K.lookup g).isSome = true → VR z.ρ st.nxt c.B (.old g) (.ref g) := fun g e => by
    obtain ⟨o, e⟩ := Option.isSome_iff_exists.mp e
    exact .old _ (by rw [hc.inK _ _ e]; rfl)
  cases o with
  | ref r =>
    obtain ⟨rfl, hr⟩ := ho.inj_ref
    refine Snd.getO fun hr => ?_
    cases er : st.obj r <;> try exact Snd.stuck
    · obtain ⟨vs, ep, e1, r1⟩ := h.lst hr er
      refine Snd.iteP (fun e => ?_) fun _ => Snd.stuck
      subst e
      exact Snd.same fun Q E k => getMethod_builtin (T := "list") ⟨_, e1, rfl⟩ F.plainAttrs_list F.slot_list_append type_append (fun a e => by cases e; exact ⟨_, e1, rfl⟩) (k _ _ (After.refl h) ⟨.bi _, .cons (.ref r hr) .nil⟩)
    · rename_i C fs
      obtain ⟨e1, en, ep, e2, r2⟩ := h.ins hr er
      refine Snd.ite (fun ok => ?_) fun _ => Snd.stuck
      rw [Bool.and_eq_true] at ok
      obtain ⟨pg, hl⟩ := ok
      unfold plainGet at pg
      rw [Bool.and_eq_true] at pg
      have hga := beq_iff_eq.mp pg.1
      have hgn := beq_iff_eq.mp pg.2
      have I : InstAt s.heap (z.ρ r) (instObj C (z.δ r)) C (some (dictOf en ep)) := ⟨e1, rfl, rfl, e2⟩
      have fg := fields_get h0 r2
      rw [Option.isNone_iff_eq_none.mp hl] at fg
      have hsh : shadowIn (some (dictOf en ep)) name = some false := by
        show (lookIn name (dictOf en ep)).map (·.isSome) = _
        rw [show lookIn name (dictOf en ep) = some none from fg]
        rfl
      cases ef : fnIn c.K C name with
      | some g =>
        unfold fnIn at ef
        split at ef
        · rename_i g' e3
          split at ef
          · rename_i q
            cases ef
            rw [Bool.and_eq_true] at q
            exact Snd.same fun Q E k => method_fn X I hga hgn e3 (beq_iff_eq.mp q.1) hsh (k _ _ (After.refl h) ⟨oldVR g q.2, .cons (.ref r hr) .nil⟩)
          · cases ef
        · cases ef
      | none =>
        dsimp only
        cases es : statIn c.K C name with
        | none => exact Snd.stuck
        | some g =>
          unfold statIn at es
          split at es
          · rename_i i q e3
            split at es
            · rename_i w
              rw [Bool.and_eq_true, Bool.and_eq_true] at w
              split at es
              · rename_i g' rest e4
                split at es
                · rename_i w2
                  cases es
                  have w1 : i = "staticmethod.__get__" := beq_iff_eq.mp w.1.1
                  subst w1
                  have hty := beq_iff_eq.mp w.1.2
                  have hfi := beq_iff_eq.mp w.2
                  have hfo : findObj c.K C (some (dictOf en ep)) name = some (.bind (.builtin "staticmethod.__get__") (.ref q)) := by
                    rw [← e3]
                    exact findObj_congr (show lookIn name (dictOf en ep) = some none from fg)
                  refine Snd.same fun Q E k => ?_
                  have attr : wpAny (model c.prog c.w) A (getAttr (.ref (z.ρ r)) name) (fun v s' => Q (v, []) s') E s := by
                    refine get_bind X I hga hfo hgn (wpAny_call (sm_get X e4 ?_))
                    have hh : handedOut (.ref g) = pure (.ref g) := rfl
                    show wpAny _ A (handedOut (.ref g)) _ _ _
                    rw [hh]
                    exact wpAny_pure (k _ _ (After.tok h _) ⟨oldVR g w2, .nil⟩)
                  have us : wpAny (model c.prog c.w) A (do return (← getAttr (.ref (z.ρ r)) name, ([] : List Value)) : Sem (Value × List Value)) Q E s := wpAny_bind (wpAny_mono attr (fun v s' q => wpAny_pure q) fun _ _ q => q)
                  unfold getMethod specialOf
                  refine wpAny_bind (wpAny_bind (I.type.here ((looks_findIn X hga).here ?_)))
                  dsimp only
                  rw [if_neg (by rw [canon_object]; exact Bool.false_ne_true)]
                  refine wpAny_bind (wpAny_bind (I.type.here ((looks_findIn X hgn).here ?_)))
                  rw [if_neg (by simp)]
                  refine wpAny_bind (wpAny_bind (I.type.here ((looks_findIn X hfi).here ?_)))
                  refine wpAny_bind ((looks_typeIn X hty).here ?_)
                  rw [if_pos (by decide)]
                  exact us
                · cases es
              · cases es
            · cases es
          · cases es
  | old C =>
    rw [ho.inj_old]
    show Snd c f kp A _ ((match clsStat c.K C name with | some g => ret (.old g, []) | none => Mine.stuck "no such method of the class" : M (V × List V)) st) _ z st s
    cases es : clsStat c.K C name with
    | none => exact Snd.stuck
    | some g =>
      unfold clsStat at es
      split at es
      · rename_i hg
        split at es
        · rename_i mc hm
          split at es
          · rename_i hr
            split at es
            · rename_i i q D e3
              split at es
              · rename_i w
                split at es
                · rename_i g' rest e4
                  split at es
                  · rename_i w2
                    cases es
                    have w1 : i = "staticmethod.__get__" := beq_iff_eq.mp w
                    subst w1
                    refine Snd.same fun Q E k => method_cls X (beq_iff_eq.mp hg) (cls_bind X hr e3 (wpAny_call (sm_get X e4 ?_)))
                    have hh : handedOut (.ref g) = pure (.ref g) := rfl
                    show wpAny _ A (handedOut (.ref g)) _ _ _
                    rw [hh]
                    exact wpAny_pure (k _ _ (After.tok h _) ⟨oldVR g w2, .nil⟩)
                  · cases es
                · cases es
              · cases es
            · cases es
          · cases es
        · cases es
      · cases es
  | int i =>
    obtain ⟨t, rfl⟩ := ho.inj_int
    show Snd c f kp A _ ((if name = ("to_bytes" : Str) then ret (.bi "int.to_bytes", [.int i]) else Mine.stuck "a method of an int" : M (V × List V)) st) _ z st s
    refine Snd.iteP (fun e => ?_) fun _ => Snd.stuck
    subst e
    exact Snd.same fun Q E k => KTBy.method (k _ _ (After.refl h) ⟨.bi _, .cons (.int _ _) .nil⟩)
  | _ => exact Snd.stuck
end
section
variable (K : Frag) (p : Ev)
def methE (o : Expr) (name : Str) (apos pos : Pos) (args : List Expr) (kws : List Keyword) : M V :=
  if notSuper o && args.all plainE && kws.all (·.arg.isSome) && decide (args.length + kws.length + 1 < 30) && apos.endLine == pos.line then
    bind (p.expr o) fun ov => bind (getMeth K ov name) fun m => if calleeOk K m.1 then argsThen p args kws (fun vs kw => p.call m.1 (m.2 ++ vs) kw) else stuck "callee"
  else stuck "a method's call of another form"
end
section
variable {c : Cx} {p : Ev} {n : Nat} {f : Fm} {kp : List Addr} {A : Around} {z : Sit} {st : St} {s : Shared}
theorem noStar' (pos : Pos) (env : Env) (es : List Expr) (h : es.all plainE = true) : (backTo pos (starEach es env)).all (!·.1) = true := by
  induction es with
  | nil => rfl
  | cons e es ih =>
    rw [List.all_cons, Bool.and_eq_true] at h
    rw [starEach_cons h.1]
    show (true && (backTo pos (starEach es env)).all (!·.1)) = true
    rw [ih h.2]; rfl
theorem methE_sound (hc : c.Ok) (ok : EOk c p n) (h : Rel c f kp z st s) (hA : AOk A f n st.md) (o : Expr) (name : Str) (apos pos : Pos) (args : List Expr) (kws : List Keyword) : Snd c f kp A (eval (.Call (.Attribute o name apos) args kws pos) f.env) (methE c.K p o name apos pos args kws st) (VP c.B) z st s := by
  unfold methE
  refine Snd.ite (fun q => ?_) fun _ => Snd.stuck
  rw [Bool.and_eq_true, Bool.and_eq_true, Bool.and_eq_true, Bool.and_eq_true] at q
  obtain ⟨⟨⟨⟨q1, q2⟩, q3⟩, q4⟩, q5⟩ := q
  have few : methodCallForm (args.length + kws.length) (backTo pos (starEach args f.env)) (backToKw pos (keywordEach kws f.env)) = true := by
    unfold methodCallForm
    rw [noStar' pos f.env args q2, kwAll pos f.env kws q3, Bool.true_and, Bool.true_and]
    have q4 := of_decide_eq_true q4
    refine decide_eq_true ?_
    split <;> omega
  have e0 : eval (.Call (.Attribute o name apos) args kws pos) f.env = (eval o f.env >>= fun ov => PySem.standAt apos.atName >>= fun _ => PySem.holding [ov] (getMethod ov name (do return (← importBound o f.env).getD true)) >>= fun fx => callWith pos fx.1 fx.2 (backTo pos (starEach args f.env)) (backToKw pos (keywordEach kws f.env))) := by
    show (attributeBase o name f.env (eval o f.env) >>= fun ov => PySem.standAt apos.atName >>= fun _ => methodCall o name apos pos f.env ov (args.length + kws.length) (backTo pos (starEach args f.env)) (backToKw pos (keywordEach kws f.env))) = _
    rw [base_plain q1]
    congr 1
    funext ov
    congr 1
    funext _
    unfold methodCall calleeOf methodCallPos
    rw [few]
    simp only [if_true, Bool.not_true, Bool.false_or, q5, pure_bind]
  rw [e0]
  refine Snd.bind (ok.expr h hA o) fun ov st1 va z1 s1 _ af1 pa => ?_
  refine Snd.standAt af1.rel ?_
  refine Snd.bind (Snd.holding (getMeth_sound hc af1.rel name _ pa)) fun m st2 mv z2 s2 _ af2 pm => ?_
  refine Snd.ite (fun hok => ?_) fun _ => Snd.stuck
  have hA2 := (hA.after af1).after af2
  refine callWith_sound (P := fun h => c.K.In h) ok af2.rel hA2 pos q2 q3 ?_ (fun z' st' s' a => a.rel.inK hc) fun vs kw us ks z' st' s' a hv hk => ok.call a.rel (hA2.after a) (a.vr pm.1) ((a.vrs pm.2).append hv) hk
  intro hp X
  obtain ⟨m1, m2⟩ := m
  have pm1 := pm.1
  dsimp only at hok pm1
  cases m1 with
  | old a => rw [pm1.inj_old]; exact keeps_K (K := c.K) (f := .ref a) hok hp X
  | type T => rw [pm1.inj_type]; exact keeps_calleeT (fun a e => by cases e) hp
  | bi i => rw [pm1.inj_bi]; exact keeps_calleeT (fun a e => by cases e) hp
  | _ => cases hok
end
end Mine
namespace Mine
open PySem PySem.W PySem.Calls PyProof.Rows
section
variable (K : Frag) (p : Ev)
def raiseA (x : Str) (args : List Expr) : M (List V) := bind (nameE K x) fun g => if g = .type "ValueError" && args.all plainE && !args.isEmpty then evalL p args else stuck "raise of another class"
def raiseS (x : Str) (args : List Expr) : M Fl := calm fun s => match raiseA K p x args s with
  | .ok vs s2 => if szOk vs.length then .err (.type "ValueError") [] s2 else .stuck "raise"
  | _ => .stuck "raise"
def underH (m : M Fl) : M Fl := fun s => match m { s with md := { s.md with hd := true } } with
  | .ok v s' => .ok v { s' with md := s.md }
  | .err _ _ _ => .stuck "an exception in a handler"
  | .stuck w => .stuck w
def tryS (body hs orelse : List Stmt) (x : Str) : M Fl := fun s => if s.md.hd || !s.md.top then .stuck "try" else match execL p body s with
  | .ok .next s1 => execL p orelse s1
  | .ok f s1 => .ok f s1
  | .err cls _ s1 => if cls = .type "ValueError" then underH (bind (nameE K x) fun g => if g = .type "ValueError" then execL p hs else stuck "except of another class") s1 else .stuck "an exception of another class"
  | .stuck w => .stuck w
end
section
variable {c : Cx} {p : Ev} {n : Nat} {f : Fm} {kp : List Addr} {A : Around} {z : Sit} {st : St} {s : Shared}
theorem stackFrames_base {B h : Heap} : ∀ {l : List Env}, h.FunFrames B l → ∀ a ∈ l.filterMap (·.frame), B.get? a = none
  | env :: rest, ⟨k1, ⟨L, o, e1, e2, e3, e4⟩, k3⟩, a, ha => by
    rw [List.filterMap_cons, e1] at ha
    rcases List.mem_cons.mp ha with rfl | ha
    · exact e2
    · exact stackFrames_base k3 a ha
theorem Raised.made {h' : Heap} {e t : Addr} {T : String} (r : Rel c f kp z st s) (hk : ∀ b o, s.heap.get? b = some o → h'.get? b = some o) (hn : s.heap.get? e = none) (he : h'.get? e = some { cls := .type T, data := .fields #[.ref t, .none, .none, .none, .bool false, .none] }) :
    Raised c f kp z st s (.type T) st (.ref e) { s with heap := h' } := by
  refine ⟨z, r.grown hk, e, .type T, .ref t, hideAll s.heap (f.stack.filterMap (·.frame)), rfl, .type T, ⟨fun b o q => hk b o (of_hideAll _ q), ?_, ?_, .inl ⟨_, _, he, rfl, rfl, rfl, rfl⟩⟩, fun b o q => hideAll_get _ (r.base b o q) fun hm => ?_, fun a o ha q => ?_⟩
  · cases q : (hideAll s.heap (f.stack.filterMap (·.frame))).get? e with
    | none => rfl
    | some o => rw [of_hideAll _ q] at hn; cases hn
  · exact funFrames_keeps hk (funFrames_hide r.frames fun env he a ha => List.mem_filterMap.mpr ⟨env, he, ha⟩)
  · rw [stackFrames_base r.frames b hm] at q
    cases q
  · have q : h'.get? a = some o := q
    have hs := ours_some r ha
    obtain ⟨o', q'⟩ := Option.isSome_iff_exists.mp hs
    rw [hk a o' q'] at q
    cases q
    refine hideAll_get _ q' fun hm => ?_
    have hne : a ≠ f.L ∧ a ∉ f.frs := by
      rcases ha with w | ⟨i, hi, w⟩
      · exact ⟨(r.kps a w).2.1, (r.kps a w).2.2.1⟩
      · exact ⟨(r.own i hi a w).2.2.2.1, (r.own i hi a w).2.2.1⟩
    exact hne.2 (Fm.mem_frs_iff.mpr ⟨hm, hne.1⟩)
theorem raiseS_sound (hc : c.Ok) (ok : EOk c p n) (h : Rel c f kp z st s) (hA : AOk A f n st.md) (x : Str) (np cpos pos : Pos) (args : List Expr) : Snd c f kp A (exec (.Raise (some (.Call (.Name x np) args [] cpos)) none pos) f.env) (raiseS c.K p x args st) (FlR c.B) z st s := by
  unfold raiseS
  refine Snd.calm fun hd => ?_
  have nm := nameE_sound (A := A) hc h hA x np
  cases er : raiseA c.K p x args st with
  | stuck w => trivial
  | err _ _ _ => trivial
  | ok vs st2 =>
    obtain ⟨g, st1, en, ea⟩ := bind_ok er
    rw [en] at nm
    split at ea
    · rename_i q
      rw [Bool.and_eq_true, Bool.and_eq_true] at q
      obtain ⟨⟨q1, q3⟩, q4⟩ := q
      have q1 : g = .type "ValueError" := of_decide_eq_true q1
      subst q1
      dsimp only
      split
      · rename_i q2
        show wpAny _ A _ _ _ s
        refine wpAny_Raise_call F.excCall_ValueError F.excRaise_ValueError (hA.handled hd) (noStar cpos f.env args q3) (wpAny_mono nm (fun v s₁ hq => ?_) fun _ _ q => q.elim)
        obtain ⟨z1, af1, hv⟩ := hq
        refine ⟨hv.inj_type, ?_⟩
        have ev := evalL_sound ok cpos args af1.rel (hA.after af1)
        rw [ea] at ev
        have fin : wpAny (model c.prog c.w) A (spliced (backTo cpos (starEach args f.env))) (fun us s₂ => us.length ≤ sizeLine ∧ ∀ h' e, Heap.MadeExc s₂.heap h' e "ValueError" us → Raised c f kp z st s (.type "ValueError") st2 (.ref e) { s₂ with heap := h' }) (fun _ _ => False) s₁ := by
          refine wpAny_mono ev (fun us s₂ hq => ?_) fun _ _ q => q
          obtain ⟨z2, af2, hus⟩ := hq
          refine ⟨by rw [← hus.length, sizeLine_eq]; exact of_decide_eq_true q2, fun h' e hm => ?_⟩
          obtain ⟨t, ht, _, _⟩ := hm.there
          exact Raised.from (af1.trans af2) (Raised.made af2.rel hm.keeps hm.new ht)
        cases args with
        | nil => cases q4
        | cons e rest =>
          have q3' := q3
          rw [List.all_cons, Bool.and_eq_true] at q3'
          rw [starEach_cons q3'.1] at fin ⊢
          exact evalArgs_plain (wpAny_mono fin (fun us s₂ hq => ⟨rfl, hq.1, hq.2⟩) fun _ _ q => q.elim)
      · trivial
    · cases ea
end
end Mine
namespace Mine
open PySem PySem.W PySem.Calls PyProof.Rows
section
variable {c : Cx} {p : Ev} {n : Nat} {f : Fm} {kp : List Addr} {A : Around} {z : Sit} {st : St} {s : Shared}
theorem name_exact (hc : c.Ok) (h : Rel c f kp z st s) (hg : f.Good) {x : Str} {v : V} {st1 : St} (e : nameE c.K x st = .ok v st1) (pos : Pos) {A' : Around} (Q : Value → Shared → Prop) (E : Value → Shared → Prop) (k : ∀ u, VR z.ρ st.nxt c.B v u → Q u s) : st1 = st ∧ wpAny (model c.prog c.w) A' (eval (.Name x pos) f.env) Q E s := by
  unfold nameE at e
  split at e
  · cases e
  · rename_i hd
    have hd : (x == ("__debug__" : Str)) = false := by simpa using hd
    unfold nameV at e
    split at e
    · cases e
    · rename_i hx
      obtain ⟨m, hn, hl⟩ := h.loc
      have hlx := hl x hx
      cases el : look (nid x) st.loc with
      | none => rw [el] at e; cases e
      | some sl =>
        rw [el] at e hlx
        cases sl with
        | unset => cases e
        | cell i own =>
          obtain ⟨hk, hi, hc', hn'⟩ := hlx
          dsimp only at e
          have ho := h.objs i hi
          cases eo : st.obj i <;> rw [eo] at e ho <;> try cases e
          rename_i cv
          obtain ⟨u, hcell, hr⟩ := ho
          cases hr with
          | none => cases e
          | some hr =>
            cases e
            refine ⟨rfl, ?_⟩
            cases own
            · exact wpAny_Name (wpAny_loadName_free hg.kind hk hc' hcell (k _ hr) hn') hd
            · exact wpAny_Name (wpAny_loadName_cell hg.kind hk hc' hcell (k _ hr)) hd
        | val w =>
          cases e
          obtain ⟨hk, u, hm, r⟩ := hlx
          exact ⟨rfl, wpAny_Name (wpAny_loadName_local hg.kind hk hn hm (k u r)) hd⟩
        | glob =>
          dsimp only at e
          have hk : f.env.kindOf x = some .globalImplicit := hlx
          have G : s.heap.Ns mainGlobals c.mg := hc.top.g.keeps h.base
          have Bn : s.heap.Ns builtinsNs c.mb := hc.top.b.keeps h.base
          cases eg : globV c.K x with
          | none => rw [eg] at e; cases e
          | some w =>
            rw [eg] at e
            cases e
            refine ⟨rfl, Name_function_global hg.kind hk ?_ hd⟩
            unfold globV at eg
            split at eg
            · rename_i u e1
              exact loadGlobal_global (hg.glob ▸ G) (mg_of hc.inK hc.top.g e1) (k u (vOf_sound hc eg _ _))
            · rename_i e1
              split at eg
              · cases eg
              · rename_i hne
                cases eb : bootBuiltins x with
                | none => rw [eb] at eg; cases eg
                | some u =>
                  rw [eb] at eg
                  exact loadGlobal_builtin (hg.glob ▸ G) (mg_none_of hc.inK hc.top.g e1) (hg.bi ▸ Bn) (by rw [hc.top.builtins x hne, eb]) (k u (vOf_sound hc eg _ _))
            · cases eg
theorem UpToSlots.trans {h h' h'' : Heap} (x : h.UpToSlots h') (y : h'.UpToSlots h'') : h.UpToSlots h'' := fun b o e hd => by
  obtain ⟨sl, e1⟩ := x b o e hd
  obtain ⟨sl', e2⟩ := y b _ e1 hd
  exact ⟨sl', e2⟩
structure Landed (c : Cx) (f : Fm) (kp : List Addr) (z : Sit) (st : St) (ea : Addr) (cv a0 : Value) (Bq : Heap) (s : Shared) : Prop where
  rel : Rel c f kp z st s
  stays : Bq.StaysIn s.heap
  new : Bq.get? ea = none
  fr : s.heap.FunFrames Bq f.stack
  tr : s.heap.TracedW Bq ea cv a0
  base : c.B.StaysIn Bq
  ours : ∀ a o, Ours kp z st.nxt a → s.heap.get? a = some o → Bq.get? a = some o
theorem Landed.turn {h' : Heap} {ea : Addr} {cv a0 : Value} {Bq : Heap} (x : Rel c f kp z st s) (hb : c.B.StaysIn Bq) (ho : ∀ a o, Ours kp z st.nxt a → s.heap.get? a = some o → Bq.get? a = some o) (hn : Bq.get? ea = none)
    (k1 : Bq.StaysIn h') (k2 : h'.FunFrames Bq f.stack) (k3 : h'.TracedW Bq ea cv a0) (k4 : s.heap.UpToSlots h') : After c f kp z st s z st { s with heap := h' } ∧ Landed c f kp z st ea cv a0 Bq { s with heap := h' } := by
  have af := x.flown hb ho k1 k4
  refine ⟨af, af.rel, k1, hn, k2, k3, hb, fun b o hob e => ?_⟩
  obtain ⟨o', e'⟩ := Option.isSome_iff_exists.mp (ours_some x hob)
  have e1 := ho b o' hob e'
  have e2 := k1 b o' e1
  have e : h'.get? b = some o := e
  rw [e2] at e
  cases e
  exact e1
theorem land {cls : V} {st1 : St} {e : Value} {s₁ : Shared} {outer : List Env} {L : Addr} (hst : f.stack = f.env :: outer) (hL : f.env.frame = some L) (hfr : A.frames = some f.stack) (x : Raised c f kp z st s cls st1 e s₁) {Q : Unit → Shared → Prop} {E : Value → Shared → Prop}
    (k : ∀ z1 s₂ ea cv a0 Bq, e = .ref ea → VR z1.ρ st1.nxt c.B cls cv → After c f kp z st s z1 st1 s₂ → Landed c f kp z1 st1 ea cv a0 Bq s₂ → Q () s₂) :
    wpAny (model c.prog c.w) A (noteFrame e f.env) (fun _ s₂ => wpAny (model c.prog c.w) A (setFlight e none) Q E s₂) E s₁ := by
  obtain ⟨z1, af, ea, cv, a0, Bq, rfl, hcv, ⟨q1, q2, q3, q4⟩, hb, ho⟩ := x.ex
  have fin : ∀ h', Bq.StaysIn h' → h'.FunFrames Bq f.stack → h'.TracedW Bq ea cv a0 → s₁.heap.UpToSlots h' → Q () { s₁ with heap := h' } := fun h' k1 k2 k3 k4 => by
    obtain ⟨af2, la⟩ := Landed.turn af.rel hb ho q2 k1 k2 k3 k4
    exact k z1 _ ea cv a0 Bq rfl hcv (af.trans af2) la
  rw [hst] at q3 hfr
  rcases q4 with ⟨oe, vs, e1, rfl, e3, e4, e5⟩ | tr | ⟨env, outer', L', hl, hL', tr⟩
  · unfold noteFrame
    simp only [hL]
    refine wpAny_bind (wpAny_field e1 e3 e5 ?_)
    rw [if_neg (by decide)]
    exact wpAny_newEntryW hfr q3 hL e1 q1 q2 e3 (Array.getElem?_eq_some_iff.mp e5).1 e4 fun h' hLw => by
      obtain ⟨k1, k2, k3, k4⟩ := hLw
      rw [← hst] at k2
      exact fin h' k1 k2 k3 k4
  · refine wpAny_looks_onW hfr hL ⟨q1, q2, q3, tr⟩ fun h' hH k4 => ?_
    refine wpAny_landsW hH fun h'' hF k5 => ?_
    obtain ⟨k1, _, k2, k3⟩ := hF
    rw [← hst] at k2
    exact fin h'' k1 k2 k3 (UpToSlots.trans k4 k5)
  · obtain ⟨rfl, rfl⟩ := List.cons.inj (hst.symm.trans hl)
    refine wpAny_noteFrame_againW hL' tr ?_
    refine wpAny_landsW ⟨q1, q2, q3, tr⟩ fun h'' hF k5 => ?_
    obtain ⟨k1, _, k2, k3⟩ := hF
    rw [← hst] at k2
    exact fin h'' k1 k2 k3 k5
theorem ve_base : isSubtype (.type "ValueError") (.type "BaseException") = pure true := by rw [isSubtype_type]; kernel_rfl
theorem ve_meta : isSubtype (.type ((Manifest.find? "ValueError").elim "type" fun x => x.metatype)) (.type "tuple") = pure false := by rw [isSubtype_type]; kernel_rfl
theorem ve_self : isSubtype (.type "ValueError") (.type "ValueError") = pure true := by rw [isSubtype_type]; kernel_rfl
theorem ref_byPass (a : Addr) : (Value.ref a) ≠ byPass := fun e => by cases e
theorem Rel.md (h : Rel c f kp z st s) (m : Mode) : Rel c f kp z { st with md := m } s := ⟨h.base, h.loc, h.objs, h.own, h.apart, h.kps, h.frames, h.bL, h.gens, h.os⟩
theorem After.unmd {m : Mode} {z' : Sit} {st' : St} {s' : Shared} (h : After c f kp z { st with md := m } s z' st' s') : After c f kp z st s z' { st' with md := st.md } s' := ⟨h.rel.md _, h.nxt, h.same, h.keep, h.frm, rfl⟩
theorem tryS_sound (hc : c.Ok) (ok : EOk c p n) (h : Rel c f kp z st s) (hA : AOk A f n st.md) (body orelse : List Stmt) (b₀ : Stmt) (hb : List Stmt) (x : Str) (np hpos pos : Pos) (hs : List ExceptHandler) :
    Snd c f kp A (exec (.Try body (.ExceptHandler (some (.Name x np)) none (b₀ :: hb) hpos :: hs) orelse [] pos) f.env) (tryS c.K p body (b₀ :: hb) orelse x st) (FlR c.B) z st s := by
  unfold tryS
  split
  · trivial
  · rename_i hm
    have hmd : st.md.hd = false ∧ st.md.top = true := by
      cases q1 : st.md.hd <;> cases q2 : st.md.top <;> simp [q1, q2] at hm ⊢
    obtain ⟨outer, hst, hL⟩ := hA.top hmd.2
    have bs := execL_sound ok body h hA
    have tr : ∀ (Q : Flow → Shared → Prop) (E : Value → Shared → Prop), wpAny (model c.prog c.w) A (execs body f.env) (fun f' s₁ => match f' with | .next => wpAny (model c.prog c.w) A (execs orelse f.env) Q E s₁ | f' => Q f' s₁)
      (fun e s₁ => wpAny (model c.prog c.w) A (noteFrame e f.env) (fun _ s₂ => wpAny (model c.prog c.w) A (setFlight e none) (fun _ s₃ => wpAny (model c.prog c.w) A (handleBy e f.env (.ExceptHandler (some (.Name x np)) none (b₀ :: hb) hpos :: hs)) Q E s₃) E s₂) E s₁) s →
        wpAny (model c.prog c.w) A (exec (.Try body (.ExceptHandler (some (.Name x np)) none (b₀ :: hb) hpos :: hs) orelse [] pos) f.env) Q E s := fun Q E k => wpAny_Try_except k
    cases eb : execL p body st with
    | stuck w => trivial
    | ok fl s1 =>
      rw [eb] at bs
      cases fl with
      | next =>
        show Snd c f kp A _ (execL p orelse s1) _ z st s
        cases eo : execL p orelse s1 with
        | stuck w => trivial
        | ok fl2 s2 =>
          refine tr _ _ (wpAny_mono bs (fun fo s₁ hq => ?_) fun _ _ q => q.elim)
          obtain ⟨z1, af1, hf⟩ := hq
          cases fo <;> try exact hf.elim
          have os := execL_sound ok orelse af1.rel (hA.after af1)
          rw [eo] at os
          exact wpAny_mono os (fun fo s₂ ⟨z2, af2, hf2⟩ => ⟨z2, af1.trans af2, hf2⟩) fun _ _ q => q.elim
        | err cls fs s2 =>
          refine tr _ _ (wpAny_mono bs (fun fo s₁ hq => ?_) fun _ _ q => q.elim)
          obtain ⟨z1, af1, hf⟩ := hq
          cases fo <;> try exact hf.elim
          have os := execL_sound ok orelse af1.rel (hA.after af1)
          rw [eo] at os
          exact wpAny_mono os (fun _ _ q => q.elim) fun e s₂ r => Raised.from af1 r
      | brk =>
        refine tr _ _ (wpAny_mono bs (fun fo s₁ hq => ?_) fun _ _ q => q.elim)
        obtain ⟨z1, af1, hf⟩ := hq
        cases fo <;> first | exact hf.elim | exact ⟨z1, af1, hf⟩
      | cont =>
        refine tr _ _ (wpAny_mono bs (fun fo s₁ hq => ?_) fun _ _ q => q.elim)
        obtain ⟨z1, af1, hf⟩ := hq
        cases fo <;> first | exact hf.elim | exact ⟨z1, af1, hf⟩
      | ret v =>
        refine tr _ _ (wpAny_mono bs (fun fo s₁ hq => ?_) fun _ _ q => q.elim)
        obtain ⟨z1, af1, hf⟩ := hq
        cases fo <;> first | exact hf.elim | exact ⟨z1, af1, hf⟩
    | err cls fs s1 =>
      rw [eb] at bs
      dsimp only
      split
      · rename_i hcls
        subst hcls
        unfold underH
        cases eh : (Mine.bind (nameE c.K x) fun g => if g = .type "ValueError" then execL p (b₀ :: hb) else Mine.stuck "except of another class") { s1 with md := { s1.md with hd := true } } with
        | stuck w => trivial
        | err _ _ _ => trivial
        | ok fl s2 =>
          obtain ⟨g, s1', en, el⟩ := bind_ok eh
          split at el
          · rename_i hg
            subst hg
            refine tr _ _ (wpAny_mono bs (fun _ _ q => q.elim) fun e s₁ hr => ?_)
            refine land hst hL hA.frames hr fun z1 s₂ ea cv a0 Bq he hcv af la => ?_
            subst he
            have hcv := hcv.inj_type
            subst hcv
            have nm := fun (A' : Around) (Q : Value → Shared → Prop) (E : Value → Shared → Prop) k => name_exact (A' := A') hc (la.rel.md { s1.md with hd := true }) hA.good en np Q E k
            obtain ⟨rfl, -⟩ := nm A (fun _ _ => True) (fun _ _ => True) fun _ _ => trivial
            refine wpAny_handleBy_cons (codeAny_handlers_test (nm _ _ _ fun u hu => ?_).2) (ref_byPass ea)
            rw [hu.inj_type]
            have hT : s₂.TypeIs (.ref ea) "ValueError" := by
              obtain ⟨oe, vs, T, oT, ts, e1, ⟨e2, e3⟩, _⟩ := la.tr
              exact ⟨oe, e1, e2⟩
            refine wpAny_excMatches_type (b := true) hT ve_base ve_meta ve_self ?_
            dsimp only
            rw [if_pos rfl]
            refine codeAny_handlers_suite (wpAny_setFlight_noneW la.stays la.fr (Heap.TracedW.at la.tr) fun h' k1 k2 k3 k4 => ?_)
            obtain ⟨af2, la2⟩ := Landed.turn la.rel la.base la.ours la.new k1 k2 k3 (fun b o e hd => ⟨o.slots, k4 b o e hd⟩)
            have hA2 : AOk (A.mark (some (.ref ea))) f n { s1.md with hd := true } := by
              refine ⟨hA.frames, hA.depth, hA.units, (fun e => by cases e), ?_, hA.good⟩
              intro ht
              exact ⟨outer, hst, hL⟩
            have ss := execL_sound ok (b₀ :: hb) (la2.rel.md { s1.md with hd := true }) hA2
            rw [el] at ss
            refine wpAny_mono ss (fun fo s₃ hq => ?_) fun _ _ q => q.elim
            obtain ⟨z3, af3, hf⟩ := hq
            exact ⟨z3, (af.trans af2).trans af3.unmd, by cases fl <;> cases fo <;> first | exact hf.elim | exact hf⟩
          · cases el
      · trivial
end
end Mine
namespace Mine
open PySem PySem.W PySem.Calls PyProof.Rows
def scopeOk (sc : Scope) : Bool := sc.kind == .function && sc.names.all kindOk && sc.names.all (fun q => q.2 != .local || sc.names.lookup q.1 == some .local)
section
variable (K : Frag) (p : Ev)
def testIfs : List Expr → M Bool
  | [] => ret true
  | e :: r => bind (p.test e) fun t => if t then testIfs r else ret false
def putC (elt : Expr) (acc : V) (t : Bool) : M Unit := if t then bind (p.expr elt) fun y => bind (biAppend [acc, y]) fun _ => ret () else ret ()
def forC (gd : St → Bool) (x : Str) (elt : Expr) (ifs : List Expr) (acc : V) : List V → M Unit
  | [] => ret ()
  | v :: r => bind (setLoc x v) fun _ => bind (testIfs p ifs) fun t => bind (putC p elt acc t) fun _ => fun s => if gd s then forC gd x elt ifs acc r s else .stuck "an object that changes under its comprehension"
def withC (l : List (Nat × Slot)) (m : M Unit) (acc : V) : M V := fun s => match m { s with loc := l, md := { s.md with top := false } } with
  | .ok _ s' => .ok acc { s' with loc := s.loc, md := s.md }
  | _ => .stuck "an exception in a comprehension"
def compRun (sc : Scope) (x : Str) (elt : Expr) (ifs : List Expr) (gd : St → Bool) (items : List V) : M V := bind (mkList []) fun acc => withC (locOf [] sc.names) (forC p gd x elt ifs acc items) acc
def compOver (sc : Scope) (x : Str) (elt : Expr) (ifs : List Expr) (v : V) : M V := match v with
  | .ref r => calm (bind (getO r) fun o => match o with
    | .list vs => compRun p sc x elt ifs (still r (.list vs)) vs
    | .tup vs => compRun p sc x elt ifs (still r (.tup vs)) vs
    | .rng a b d => if Builtin.Range.small a b d then compRun p sc x elt ifs (fun _ => true) (rngL a b d) else stuck "long range"
    | _ => stuck "comprehension")
  | _ => stuck "comprehension"
def compE (elt : Expr) (sc : Scope) (x : Str) (it : Expr) (ifs : List Expr) : M V := if scopeOk sc && notSet it then bind (p.expr it) fun v => noErr (compOver p sc x elt ifs v) else stuck "comprehension's names"
end
section
variable {c : Cx} {p : Ev} {n : Nat} {f : Fm} {kp : List Addr} {A : Around} {z : Sit} {st : St} {s : Shared}
def ifStep (env : Env) : Expr → Bool → Sem (ForInStep Bool) := fun c r => if r = true then (do let ok ← isTrue c env (eval c env); Pure.pure (ForInStep.yield ok)) else Pure.pure (ForInStep.yield r)
theorem ifs_false (env : Env) : ∀ l : List Expr, (forIn l false (ifStep env) : Sem Bool) = Pure.pure false
  | [] => rfl
  | e :: l => by
    rw [List.forIn_cons]
    show (Pure.pure (ForInStep.yield false) >>= fun r => match r with | .done b => Pure.pure b | .yield b => forIn l b (ifStep env)) = _
    rw [pure_bind]
    exact ifs_false env l
theorem testIfs_sound (ok : EOk c p n) : ∀ (l : List Expr) {z st s}, Rel c f kp z st s → AOk A f n st.md → Snd c f kp A (forIn l true (ifStep f.env) : Sem Bool) (testIfs p l st) EqP z st s
  | [], z, st, s, h, hA => Snd.pure h rfl
  | e :: l, z, st, s, h, hA => by
    rw [List.forIn_cons]
    unfold testIfs
    have e0 : ifStep f.env e true = (PySem.isTrue e f.env (eval e f.env) >>= fun ok => Pure.pure (ForInStep.yield ok)) := by
      unfold ifStep
      rw [if_pos rfl]
    rw [e0, bind_assoc]
    refine Snd.bind (ok.test h hA e) fun t st1 v z1 s1 _ af1 pa => ?_
    cases pa
    rw [pure_bind]
    dsimp only
    cases t
    · rw [ifs_false]
      exact Snd.pure af1.rel rfl
    · exact testIfs_sound ok l af1.rel (hA.after af1)
structure SrcC (c : Cx) (f : Fm) (kp : List Addr) (A : Around) (ρ₀ : Nat → Addr) (m₀ : Nat) (it : Addr) (gd : St → Bool) (items : List V) (I : Nat → Heap → Prop) : Prop where
  stay : ∀ k h h', I k h → (∀ b ∈ it :: kp, ∀ o, h.get? b = some o → h'.get? b = some o) → I k h'
  next : ∀ {k x z st s}, m₀ ≤ st.nxt → (∀ i, i < m₀ → z.ρ i = ρ₀ i) → items[k]? = some x → Rel c f (it :: kp) z st s → gd st = true → I k s.heap → wpAny (model c.prog c.w) A (pyNext (.ref it)) (fun r s₁ => ∃ v, r = some v ∧ After c f kp z st s z st s₁ ∧ Rel c f (it :: kp) z st s₁ ∧ VR z.ρ st.nxt c.B x v ∧ I (k + 1) s₁.heap) (fun _ _ => False) s
  stop : ∀ {k z st s}, m₀ ≤ st.nxt → (∀ i, i < m₀ → z.ρ i = ρ₀ i) → items[k]? = none → Rel c f (it :: kp) z st s → gd st = true → I k s.heap → A.handled = none → wpAny (model c.prog c.w) A (pyNext (.ref it)) (fun r s₁ => r = none ∧ After c f kp z st s z st s₁) (fun _ _ => False) s
theorem srcC_plain {it : Addr} {h' : Heap} {I : Nat → Heap → Prop} {k : Nat} {x : V} {v : Value} (hr : Rel c f (it :: kp) z st s) (hk : it ∉ kp) (hs : Heap.SameBut it s.heap h') (tk : Nat) (ho : (h'.get? it).isSome = true) (hv : VR z.ρ st.nxt c.B x v) (hI : I (k + 1) h') :
    ∃ v', some v = some v' ∧ After c f kp z st s z st { s with heap := h', toks := tk } ∧ Rel c f (it :: kp) z st { s with heap := h', toks := tk } ∧ VR z.ρ st.nxt c.B x v' ∧ I (k + 1) h' := by
  have ap := hr.out hk
  have af := hr.drop.off ap hs.extBut
  have af2 := af.trans (After.tok af.rel tk)
  exact ⟨v, rfl, af2, af2.rel.hold ho ap, hv, hI⟩
theorem srcC_list {ρ₀ : Nat → Addr} {m₀ r : Nat} {it : Addr} {vs : List V} (hk : it ∉ kp) (hr : r < m₀) : SrcC c f kp A ρ₀ m₀ it (still r (.list vs)) vs (fun k h => h.IsListIter it (ρ₀ r) k) where
  stay := fun k h h' x hk' => stayIter hk' x
  next := by
    intro k x z st s hm hz hx h hg hI
    obtain ⟨us, ep, e1, r1⟩ := h.lst (Nat.lt_of_lt_of_le hr hm) (still_eq hg)
    rw [hz r hr] at e1
    obtain ⟨v, ev, rv⟩ := r1.get hx
    refine wpAny_pyNext_list_item hI ⟨_, e1, rfl, ep, rfl⟩ (by simpa using ev) fun h' hit hs => ?_
    obtain ⟨o, eo, ec, ed⟩ := id hit
    exact srcC_plain (I := fun k h => h.IsListIter it (ρ₀ r) k) h hk hs s.toks (by rw [eo]; rfl) rv hit
  stop := by
    intro k z st s hm hz hx h hg hI hh
    obtain ⟨us, ep, e1, r1⟩ := h.lst (Nat.lt_of_lt_of_le hr hm) (still_eq hg)
    rw [hz r hr] at e1
    have hn : us[k]? = none := by
      rw [List.getElem?_eq_none_iff] at hx
      rw [Array.getElem?_eq_none_iff, r1.size]
      exact hx
    exact wpAny_pyNext_list_end hh hI ⟨_, e1, rfl, ep, rfl⟩ hn fun h' he => ⟨rfl, h.drop.off (h.out hk) he⟩
theorem srcC_tup {ρ₀ : Nat → Addr} {m₀ r : Nat} {it : Addr} {vs : List V} (hk : it ∉ kp) (hr : r < m₀) : SrcC c f kp A ρ₀ m₀ it (still r (.tup vs)) vs (fun k h => h.IsTupleIter it (ρ₀ r) k) where
  stay := fun k h h' x hk' => stayIter hk' x
  next := by
    intro k x z st s hm hz hx h hg hI
    obtain ⟨us, e1, r1⟩ := h.tpl (Nat.lt_of_lt_of_le hr hm) (still_eq hg)
    rw [hz r hr] at e1
    obtain ⟨v, ev, rv⟩ := r1.get hx
    refine wpAny_pyNext_tuple_item hI ⟨_, e1, rfl, _, rfl⟩ (by simpa using ev) fun h' hit hs => ?_
    obtain ⟨o, eo, ec, ed⟩ := id hit
    exact srcC_plain (I := fun k h => h.IsTupleIter it (ρ₀ r) k) h hk hs s.toks (by rw [eo]; rfl) rv hit
  stop := by
    intro k z st s hm hz hx h hg hI hh
    obtain ⟨us, e1, r1⟩ := h.tpl (Nat.lt_of_lt_of_le hr hm) (still_eq hg)
    rw [hz r hr] at e1
    have hn : us[k]? = none := by
      rw [List.getElem?_eq_none_iff] at hx
      rw [Array.getElem?_eq_none_iff, r1.size]
      exact hx
    exact wpAny_pyNext_tuple_end hh hI ⟨_, e1, rfl, _, rfl⟩ hn fun h' he => ⟨rfl, h.drop.off (h.out hk) he⟩
theorem srcC_rng {ρ₀ : Nat → Addr} {m₀ : Nat} {it : Addr} (hk : it ∉ kp) (a b d : Int) : SrcC c f kp A ρ₀ m₀ it (fun _ => true) (rngL a b d) (fun k h => IsRangeIter h it (a + k * d) (Builtin.Range.rangeSize a b d - k) d) where
  stay := fun k h h' x hk' => hk' it (.head _) _ x
  next := by
    intro k x z st s hm hz hx h hg hI
    rw [rngL_get] at hx
    split at hx
    · rename_i q
      cases hx
      refine wpAny_pyNext_range_item hI (by omega) fun h' hit hs => ?_
      have hit' : IsRangeIter h' it (a + (k + 1 : Nat) * d) (Builtin.Range.rangeSize a b d - (k + 1 : Nat)) d := by
        have e1 : a + ((k + 1 : Nat) : Int) * d = a + k * d + d := by
          have : ((k + 1 : Nat) : Int) = (k : Int) + 1 := by omega
          rw [this, Int.add_mul, Int.one_mul]; omega
        have e2 : Builtin.Range.rangeSize a b d - ((k + 1 : Nat) : Int) = Builtin.Range.rangeSize a b d - k - 1 := by omega
        rw [e1, e2]; exact hit
      exact srcC_plain (I := fun k h => IsRangeIter h it (a + k * d) (Builtin.Range.rangeSize a b d - k) d) h hk hs (s.toks + 1) (by rw [hit]; rfl) (.int _ _) hit'
    · cases hx
  stop := by
    intro k z st s hm hz hx h hg hI hh
    rw [rngL_get] at hx
    split at hx
    · cases hx
    · rename_i q
      exact wpAny_pyNext_range_end hh hI (by omega) fun h' he => ⟨rfl, h.drop.off (h.out hk) he⟩
theorem forC_sound (hc : c.Ok) (ok : EOk c p n) {it : Addr} {x : Str} {px pos : Pos} {iter elt : Expr} {ifs : List Expr} {sc : Scope} {gd : St → Bool} {items : List V} {I : Nat → Heap → Prop} {acc : Nat} {stf : St} (hk : it ∉ kp) (src : SrcC c f kp A z.ρ st.nxt it gd items I)
    (h : Rel c f (it :: kp) z st s) (hA : AOk A f n st.md) (hd : st.md.hd = false) (hg : gd st = true) (h0 : I 0 s.heap) (ha : acc < st.nxt) (hfin : forC p gd x elt ifs (.ref acc) items st = .ok () stf) :
    codeAny (model c.prog c.w) A (.compLoop (.ListComp elt [⟨.Name x px, iter, ifs, 0⟩] sc pos) 0 (.ref it) (.ref (z.ρ acc)) f.env) (fun r s' => match r with | .ok _ => ∃ z', After c f kp z st s z' stf s' | .error _ => False) s := by
  refine codeAny_compLoop_tests (R := fun r s' => match r with | .ok _ => ∃ z', After c f kp z st s z' stf s' | .error _ => False)
    (fun m s' => ∃ k rest z' st', m = rest.length ∧ rest = items.drop k ∧ After c f kp z st s z' st' s' ∧ Rel c f (it :: kp) z' st' s' ∧ gd st' = true ∧ I k s'.heap ∧ forC p gd x elt ifs (.ref acc) rest st' = .ok () stf)
    ?_ items.length ⟨0, items, z, st, rfl, rfl, After.refl h.drop, h, hg, h0, hfin⟩
  rintro m s' ⟨k, rest, z', st', rfl, hrest, af, hr, hg', hI, hfl⟩
  have hA' := hA.after af
  have hd' : st'.md.hd = false := by rw [af.hd]; exact hd
  cases rest with
  | nil =>
    have hnone : items[k]? = none := List.getElem?_eq_none (by have := congrArg List.length hrest; simp at this; omega)
    refine wpAny_mono (src.stop af.nxt (fun i hi => (af.same i hi).1) hnone hr hg' hI (hA.handled hd)) (fun r s₁ hq => ?_) fun _ _ q => q.elim
    obtain ⟨rfl, af1⟩ := hq
    cases hfl
    exact ⟨z', af.trans af1⟩
  | cons v rest =>
    have hx : items[k]? = some v := by
      have := congrArg (·[0]?) hrest
      simp at this
      exact this.symm
    have hrest' : rest = items.drop (k + 1) := by
      have := congrArg List.tail hrest
      simpa using this
    refine wpAny_mono (src.next af.nxt (fun i hi => (af.same i hi).1) hx hr hg' hI) (fun r s₁ hq => ?_) fun _ _ q => q.elim
    obtain ⟨u, rfl, af2, hr2, hv, hI2⟩ := hq
    obtain ⟨_, st3, ea, hfl1⟩ := bind_ok hfl
    obtain ⟨t, st4, et, hfl2⟩ := bind_ok hfl1
    obtain ⟨_, st5, ep, hfl3⟩ := bind_ok hfl2
    have as := assignName_sound (kp := it :: kp) (hA'.after af2) hr2 x px hv
    rw [ea] at as
    refine wpAny_mono as (fun _ s₃ hq => ?_) fun _ _ q => q.elim
    obtain ⟨z₃, af3, _⟩ := hq
    have ts := testIfs_sound ok ifs af3.rel ((hA'.after af2).after af3)
    rw [et] at ts
    refine wpAny_mono ts (fun tb s₄ hq => ?_) fun _ _ q => q.elim
    obtain ⟨z₄, af4, rfl⟩ := hq
    have hA4 := ((hA'.after af2).after af3).after af4
    have fin : ∀ z₅ s₅, After c f (it :: kp) z₄ st4 s₄ z₅ st5 s₅ → ∃ m, m < (v :: rest).length ∧ ∃ k rest z' st', m = rest.length ∧ rest = items.drop k ∧ After c f kp z st s z' st' s₅ ∧ Rel c f (it :: kp) z' st' s₅ ∧ gd st' = true ∧ I k s₅.heap ∧ forC p gd x elt ifs (.ref acc) rest st' = .ok () stf := by
      intro z₅ s₅ af5
      split at hfl3
      · rename_i hg5
        exact ⟨_, Nat.lt_succ_self _, k + 1, rest, z₅, st5, rfl, hrest', (((af.trans af2).trans af3.drop).trans af4.drop).trans af5.drop, af5.rel, hg5, src.stay _ _ _ hI2 (fun b hb o e => af5.keep b hb o (af4.keep b hb o (af3.keep b hb o e))), hfl3⟩
      · cases hfl3
    cases tb
    · cases ep
      exact fin z₄ s₄ (After.refl af4.rel)
    · rw [if_pos rfl]
      obtain ⟨y, st6, ey, ep⟩ := bind_ok ep
      obtain ⟨_, st7, eap, ep⟩ := bind_ok ep
      cases ep
      have es := ok.expr af4.rel hA4 elt
      rw [ey] at es
      refine wpAny_mono es (fun yv s₆ hq => ?_) fun _ _ q => q.elim
      obtain ⟨z₆, af6, hy⟩ := hq
      have big := ((((af.trans af2).trans af3.drop).trans af4.drop).trans af6.drop)
      have hacc : VR z₆.ρ st6.nxt c.B (.ref acc) (.ref (z.ρ acc)) := by
        have := VR.ref (ρ := z₆.ρ) (n := st6.nxt) (B := c.B) acc (Nat.lt_of_lt_of_le ha big.nxt)
        rwa [(big.same acc ha).1] at this
      have bs := biAppend_sound (A := A) af6.rel (.cons hacc (.cons hy .nil))
      rw [eap] at bs
      refine wpAny_mono bs (fun _ s₇ hq => ?_) fun _ _ q => q.elim
      obtain ⟨z₇, af7, _⟩ := hq
      exact fin z₇ s₇ (af6.trans af7)
end
end Mine
namespace Mine
open PySem PySem.W PySem.Calls PyProof.Rows
section
variable {c : Cx} {p : Ev} {n : Nat} {f : Fm} {kp : List Addr} {A : Around} {z : Sit} {st : St} {s : Shared}
theorem own_cons (f : Fm) (a : Addr) (kp : List Addr) : f.own (a :: kp) = a :: f.own kp := by
  unfold Fm.own
  split <;> rfl
structure ScopeOk (sc : Scope) : Prop where
  kind : sc.kind = .function
  names : ∀ q ∈ sc.names, (q.2 = .local ∨ q.2 = .globalImplicit) ∧ nid q.1 ≠ 0
  look : ∀ q ∈ sc.names, q.2 = .local → sc.names.lookup q.1 = some .local
theorem scopeOk_iff {sc : Scope} (h : scopeOk sc = true) : ScopeOk sc := by
  unfold scopeOk at h
  simp only [Bool.and_eq_true, beq_iff_eq, List.all_eq_true, Bool.or_eq_true, bne_iff_ne, ne_eq] at h
  obtain ⟨⟨h1, h2⟩, h3⟩ := h
  refine ⟨h1, fun q hq => ?_, fun q hq e => (h3 q hq).resolve_left fun w => w e⟩
  have := h2 q hq
  unfold kindOk at this
  simp only [Bool.and_eq_true, Bool.or_eq_true, beq_iff_eq, bne_iff_ne, ne_eq] at this
  exact this
def compEnv' (sc : Scope) (C : Addr) (env : Env) : Env := { newEnv sc C env.globals [] env.qual none .none (some env) builtinsNs with scope := sc }
def compFm (f : Fm) (sc : Scope) (C : Addr) : Fm := ⟨compEnv' sc C f.env, f.stack⟩
theorem Sub.comp {sc : Scope} {C : Addr} : Sub f (compFm f sc C) C := ⟨rfl, fun b => Fm.mem_frs_iff, fun h => h⟩
def CompOn (c : Cx) (A : Around) (env : Env) (sc : Scope) (pos : Pos) (x : Str) (px : Pos) (iter elt : Expr) (ifs : List Expr) (Q : Value → Addr → Shared → Prop) (E : Value → Shared → Prop) (xv : Value) (s : Shared) : Prop :=
  wpAny (model c.prog c.w) A (pyIter xv) (fun it s₂ => wpAny (model c.prog c.w) A (newList []) (fun acc s₃ =>
    wpAny (model c.prog c.w) A (newFunctionEnv sc env.globals [] [] env.qual none .none (some env)) (fun cenv s₄ =>
      codeAny (model c.prog c.w) A (.compStart (.ListComp elt [⟨.Name x px, iter, ifs, 0⟩] sc pos) 0 it acc { cenv with scope := sc })
        (fun r s' => match r with | .ok _ => Q acc cenv.locals s' | .error _ => False) s₄) E s₃) E s₂) E s
theorem compRun_sound (hc : c.Ok) (ok : EOk c p n) (h : Rel c f kp z st s) (hA : AOk A f n st.md) (hd : st.md.hd = false) {sc : Scope} {pos px : Pos} {x : Str} {iter elt : Expr} {ifs : List Expr} {gd : St → Bool} {items : List V} {xv : Value} {ob : Obj} {w : V} {stf : St} {E : Value → Shared → Prop} (hsc : scopeOk sc = true) (hf : ob.isFreed = false)
    (hp : ∀ (Q : Value → Shared → Prop) (E : Value → Shared → Prop), Q (.ref s.heap.objs.size) { s with heap := s.heap.push ob } → wpAny (model c.prog c.w) A (pyIter xv) Q E s)
    (again : ∀ (s' : Shared) (Q : Value → Shared → Prop) (E : Value → Shared → Prop), s'.heap.get? s.heap.objs.size = some ob → Q (.ref s.heap.objs.size) s' → wpAny (model c.prog c.w) A (pyIter (.ref s.heap.objs.size)) Q E s')
    (src : ∀ {g : Fm} {kp' : List Addr} {ρ₀ : Nat → Addr} {m₀ : Nat}, s.heap.objs.size ∉ kp' → st.nxt ≤ m₀ → (∀ i, i < st.nxt → ρ₀ i = z.ρ i) → ∃ I, SrcC c g kp' A ρ₀ m₀ s.heap.objs.size gd items I ∧ ∀ h : Heap, h.get? s.heap.objs.size = some ob → I 0 h)
    (hg : ∀ st' : St, (∀ i, i < st.nxt → st'.obj i = st.obj i) → gd st' = true)
    (hfin : compRun p sc x elt ifs gd items st = .ok w stf) :
    CompOn c A f.env sc pos x px iter elt ifs (fun acc C s' => ∃ m z', s'.heap.Ns C m ∧ After c f kp z st s z' stf s' ∧ VR z'.ρ stf.nxt c.B w acc ∧ Apart c f kp z' stf.nxt C) E xv s := by
  have SC := scopeOk_iff hsc
  have hno := get?_size s.heap
  have ap := h.fresh hno
  refine hp _ _ ?_
  have af1 : After c f kp z st s z st { s with heap := s.heap.push ob } := h.grown fun b o e => Heap.get?_push_of_some ob e
  have hob : (s.heap.push ob).get? s.heap.objs.size = some ob := Heap.get?_push_size s.heap hf
  have hh : Rel c f (s.heap.objs.size :: kp) z st { s with heap := s.heap.push ob } := af1.rel.hold (by show ((s.heap.push ob).get? _).isSome = true; rw [hob]; rfl) ap
  refine wpAny_newList ?_ (by show (0 : Nat) ≤ _; exact Nat.zero_le _)
  obtain ⟨a0, st2, ea, hfin2⟩ := bind_ok hfin
  have ea' : a0 = .ref st.nxt ∧ st2 = st.new (.list []) := by
    unfold mkList at ea
    split at ea <;> cases ea
    exact ⟨rfl, rfl⟩
  obtain ⟨rfl, rfl⟩ := ea'
  have af2 := Rel.push (o := .list []) (ob := listO [].toArray 0) hh rfl rfl fun e => ⟨_, _, e, .nil⟩
  have hob3 : ((s.heap.push ob).push (listO [].toArray 0)).get? s.heap.objs.size = some ob := Heap.get?_push_of_some _ hob
  refine wpAny_newFunctionEnv (fun q hq e => ?_) (fun q hq => by cases hq) (fun h' hn hs => ?_) SC.kind
  · rcases (SC.names q hq).1 with w | w <;> (rw [e] at w; cases w)
  have hs3size : ∀ b o, ((s.heap.push ob).push (listO [].toArray 0)).get? b = some o → h'.get? b = some o := fun b o e => hs.extBut b o (Nat.ne_of_lt (Heap.lt_size e)) (Heap.get?_push_of_some _ e)
  have entered := Rel.enter (l := locOf [] sc.names) (md := { st.md with top := false }) (tk := s.toks) (Sub.comp (sc := sc)) af2.rel hn hs3size (fun q => q) (fun y hy => by
    have := look_locOf (binds := []) hy SC.names
    cases q : Mine.look (nid y) (locOf [] sc.names) with
    | none => trivial
    | some sl =>
      rw [q] at this
      cases sl with
      | glob => exact this
      | cell _ _ => exact this.elim
      | unset => exact ⟨this.1, rfl⟩
      | val v => exact absurd this.2 (by simp))
  rw [own_cons] at entered
  unfold withC at hfin2
  cases ef : forC p gd x elt ifs (.ref st.nxt) items { st.new (.list []) with loc := locOf [] sc.names, md := { (st.new (.list [])).md with top := false } } with
  | stuck w => rw [ef] at hfin2; cases hfin2
  | err _ _ _ => rw [ef] at hfin2; cases hfin2
  | ok u stc =>
    rw [ef] at hfin2
    cases hfin2
    have hk : s.heap.objs.size ∉ f.own kp := by
      unfold Fm.own
      split
      · exact ap.kp
      · intro hm
        rcases List.mem_append.mp hm with e | e
        · exact ap.kp e
        · exact ap.L (List.mem_singleton.mp e)
    obtain ⟨I, sr, hI⟩ := src (g := compFm f sc ((s.heap.push ob).push (listO [].toArray 0)).objs.size) (kp' := f.own kp) (ρ₀ := (z.put st.nxt (s.heap.push ob).objs.size (s.heap.push ob).objs.size).ρ) (m₀ := st.nxt + 1) hk (Nat.le_succ _) (fun i hi => setN_lt hi)
    have hA' : AOk A (compFm f sc ((s.heap.push ob).push (listO [].toArray 0)).objs.size) n { st.md with top := false } :=
      ⟨hA.frames, hA.depth, hA.units, hA.handled, (fun e => by cases e), ⟨SC.kind, hA.good.glob, hA.good.bi⟩⟩
    have hobn : h'.get? s.heap.objs.size = some ob := hs3size _ _ hob3
    have loop := forC_sound (iter := iter) (sc := sc) (pos := pos) (px := px) hc ok hk sr entered hA' hd (hg _ fun i hi => by show updO st.obj st.nxt (.list []) i = _; unfold updO; rw [if_neg (Nat.ne_of_lt hi)]) (hI h' hobn) (Nat.lt_succ_self _) ef
    have hacc : (z.put st.nxt (s.heap.push ob).objs.size (s.heap.push ob).objs.size).ρ st.nxt = (s.heap.push ob).objs.size := setN_self
    rw [hacc] at loop
    have done : codeAny (model c.prog c.w) A (.compLoop (.ListComp elt [⟨.Name x px, iter, ifs, 0⟩] sc pos) 0 (.ref s.heap.objs.size) (.ref (s.heap.push ob).objs.size) (compEnv' sc ((s.heap.push ob).push (listO [].toArray 0)).objs.size f.env)) (fun r s' => match r with
        | .ok _ => ∃ m z', s'.heap.Ns ((s.heap.push ob).push (listO [].toArray 0)).objs.size m ∧ After c f kp z st s z' { stc with loc := (st.new (.list [])).loc, md := (st.new (.list [])).md } s' ∧ VR z'.ρ stc.nxt c.B (.ref st.nxt) (.ref (s.heap.push ob).objs.size) ∧ Apart c f kp z' stc.nxt ((s.heap.push ob).push (listO [].toArray 0)).objs.size
        | .error _ => False) { s with heap := h' } := by
      refine codeAny_mono loop fun r s' hr => ?_
      cases r with
      | error e => exact hr.elim
      | ok fl =>
        obtain ⟨z', af⟩ := hr
        obtain ⟨m, hm, _⟩ := af.rel.loc
        have lv := After.leave (kp := kp) (Sub.comp (sc := sc)) af2.rel.drop hs3size af
        have tot := (af1.trans af2.drop).trans lv
        have apC := af2.rel.drop.fresh (get?_size ((s.heap.push ob).push (listO [].toArray 0)))
        have apC' : Apart c f kp z' stc.nxt ((s.heap.push ob).push (listO [].toArray 0)).objs.size := ⟨apC.L, apC.frs, apC.base, apC.kp, fun i hi => ⟨fun e => (af.rel.own i hi _ (.inl rfl)).2.2.2.1 e.symm, fun e => (af.rel.own i hi _ (.inr rfl)).2.2.2.1 e.symm⟩⟩
        refine ⟨m, z', hm, tot, ?_, apC'⟩
        have := VR.ref (ρ := z'.ρ) (n := stc.nxt) (B := c.B) st.nxt (Nat.lt_of_lt_of_le (Nat.lt_succ_self _) af.nxt)
        rwa [(af.same st.nxt (Nat.lt_succ_self _)).1, hacc] at this
    exact codeAny_compStart_list done (again _ _ _ hobn done)
end
end Mine
namespace Mine
open PySem PySem.W PySem.Calls PyProof.Rows
section
variable {c : Cx} {p : Ev} {n : Nat} {f : Fm} {kp : List Addr} {A : Around} {z : Sit} {st : St} {s : Shared}
theorem calm_ok {α : Type} {m : M α} {x : α} {st' : St} (e : calm m st = .ok x st') : st.md.hd = false ∧ m st = .ok x st' := by
  unfold calm at e
  split at e
  · cases e
  · rename_i h
    exact ⟨by simpa using h, e⟩
theorem getO_ok {i : Nat} {o : O} {st' : St} (e : getO i st = .ok o st') : st' = st ∧ o = st.obj i ∧ i < st.nxt := by
  unfold getO at e
  split at e <;> cases e
  exact ⟨rfl, rfl, by assumption⟩
theorem compOver_sound (hc : c.Ok) (ok : EOk c p n) (h : Rel c f kp z st s) (hA : AOk A f n st.md) {sc : Scope} {pos px : Pos} {x : Str} {iter elt : Expr} {ifs : List Expr} {v w : V} {xv : Value} {stf : St} {E : Value → Shared → Prop} (hsc : scopeOk sc = true) (hv : VR z.ρ st.nxt c.B v xv)
    (hfin : compOver p sc x elt ifs v st = .ok w stf) :
    CompOn c A f.env sc pos x px iter elt ifs (fun acc C s' => ∃ m z', s'.heap.Ns C m ∧ After c f kp z st s z' stf s' ∧ VR z'.ρ stf.nxt c.B w acc ∧ Apart c f kp z' stf.nxt C) E xv s := by
  unfold compOver at hfin
  cases v <;> try cases hfin
  rename_i r
  obtain ⟨rfl, hr⟩ := hv.inj_ref
  obtain ⟨hd, hfin⟩ := calm_ok hfin
  obtain ⟨o, st1, eo, hfin⟩ := bind_ok hfin
  obtain ⟨eo1, eo2, hr⟩ := getO_ok eo
  subst eo2
  rw [eo1] at hfin
  clear eo eo1
  have hgs : ∀ o, st.obj r = o → ∀ st' : St, (∀ i, i < st.nxt → st'.obj i = st.obj i) → still r o st' = true := fun o e st' hq => decide_eq_true ((hq r hr).trans e)
  cases er : st.obj r <;> rw [er] at hfin <;> try cases hfin
  · rename_i vs
    obtain ⟨us, ep, e1, r1⟩ := h.lst hr er
    refine compRun_sound (ob := { cls := .type "list_iterator", data := .fields #[.ref (z.ρ r), .int 0 0] }) hc ok h hA hd hsc rfl (fun Q E k => wpAny_pyIter_list ⟨_, e1, rfl, ep, rfl⟩ k) (fun s' Q E ho k => wpAny_pyIter_listiter (l := z.ρ r) (i := 0) ⟨_, ho, rfl, rfl⟩ k) (fun {g kp' ρ₀ m₀} hk hm hz => ⟨_, srcC_list hk (Nat.lt_of_lt_of_le hr hm), fun h' ho => ⟨_, ho, rfl, by rw [hz r hr]; rfl⟩⟩) (hgs _ er) hfin
  · rename_i vs
    obtain ⟨us, e1, r1⟩ := h.tpl hr er
    refine compRun_sound (ob := { cls := .type "tuple_iterator", data := .fields #[.ref (z.ρ r), .int 0 0] }) hc ok h hA hd hsc rfl (fun Q E k => wpAny_pyIter_tuple ⟨_, e1, rfl, _, rfl⟩ k) (fun s' Q E ho k => wpAny_pyIter_tupleiter (t := z.ρ r) (i := 0) ⟨_, ho, rfl, rfl⟩ k) (fun {g kp' ρ₀ m₀} hk hm hz => ⟨_, srcC_tup hk (Nat.lt_of_lt_of_le hr hm), fun h' ho => ⟨_, ho, rfl, by rw [hz r hr]; rfl⟩⟩) (hgs _ er) hfin
  · rename_i a b d
    have e1 := h.objs r hr
    rw [er] at e1
    obtain ⟨t1, t2, t3, e1⟩ := e1
    dsimp only at hfin
    split at hfin
    · rename_i hs
      refine compRun_sound (ob := { cls := .type "range_iterator", data := .fields #[rawInt a, rawInt (Builtin.Range.rangeSize a b d), rawInt d] }) hc ok h hA hd hsc rfl (fun Q E k => wpAny_pyIter_range e1 hs k) (fun s' Q E ho k => wpAny_pyIter_rangeiter ho k) (fun {g kp' ρ₀ m₀} hk hm hz => ⟨_, srcC_rng hk a b d, fun h' ho => ?_⟩) (fun _ _ => rfl) hfin
      show IsRangeIter _ _ (a + ((0 : Nat) : Int) * d) (Builtin.Range.rangeSize a b d - ((0 : Nat) : Int)) d
      have z1 : a + ((0 : Nat) : Int) * d = a := by simp
      have z2 : Builtin.Range.rangeSize a b d - ((0 : Nat) : Int) = Builtin.Range.rangeSize a b d := by simp
      rw [z1, z2]
      exact ho
    · cases hfin
theorem noErr_ok {α : Type} {m : M α} {x : α} {st' : St} (e : noErr m st = .ok x st') : m st = .ok x st' := by
  unfold noErr at e
  split at e
  · cases e; assumption
  · cases e
  · cases e
theorem noErr_err {α : Type} {m : M α} {a b d} (e : noErr m st = .err a b d) : False := by
  unfold noErr at e
  split at e <;> cases e
theorem compE_sound (hc : c.Ok) (ok : EOk c p n) (h : Rel c f kp z st s) (hA : AOk A f n st.md) (elt it : Expr) (sc : Scope) (x : Str) (px pos : Pos) (ifs : List Expr) :
    Snd c f kp A (eval (.ListComp elt [⟨.Name x px, it, ifs, 0⟩] sc pos) f.env) (compE p elt sc x it ifs st) (VP c.B) z st s := by
  unfold compE
  refine Snd.ite (fun q => ?_) fun _ => Snd.stuck
  rw [Bool.and_eq_true] at q
  have SC := scopeOk_iff q.1
  have hfree : ∀ y ∈ sc.names, y.2 ≠ .free := fun y hy e => by rcases (SC.names y hy).1 with w | w <;> (rw [e] at w; cases w)
  have road : ∀ (Q : Value → Shared → Prop) (E : Value → Shared → Prop), wpAny (model c.prog c.w) A (eval it f.env) (fun xv s₁ => CompOn c A f.env sc pos x px it elt ifs (fun acc C s' => ∃ m, s'.heap.Ns C m ∧ ∀ h', Heap.SameBut C s'.heap h' → Q acc { s' with heap := h' }) E xv s₁) E s →
      wpAny (model c.prog c.w) A (eval (.ListComp elt [⟨.Name x px, it, ifs, 0⟩] sc pos) f.env) Q E s := fun Q E k => by
    refine wpAny_ListComp hfree SC.kind SC.look (wpAny_mono k (fun xv s₁ hq => wpAny_mono hq (fun i s₂ hq => wpAny_mono hq (fun acc s₃ hq => wpAny_mono hq (fun cenv s₄ hq => codeAny_mono hq fun r s' hr => ?_) fun _ _ q => q) fun _ _ q => q) fun _ _ q => q) fun _ _ q => q) (folded_pure q.2 _)
    cases r with
    | error e => exact hr.elim
    | ok fl =>
      exact hr
  unfold Mine.bind
  have is := ok.expr h hA it
  cases ei : p.expr it st with
  | stuck w => trivial
  | err cls fs st1 =>
    rw [ei] at is
    exact road _ _ (wpAny_mono is (fun _ _ q => q.elim) fun _ _ q => q)
  | ok v st1 =>
    rw [ei] at is
    dsimp only
    cases er : noErr (compOver p sc x elt ifs v) st1 with
    | stuck w => trivial
    | err _ _ _ => exact (noErr_err er).elim
    | ok w stf =>
      refine road _ _ (wpAny_mono is (fun xv s₁ hq => ?_) fun _ _ q => q.elim)
      obtain ⟨z1, af1, hv⟩ := hq
      have co := compOver_sound (pos := pos) (px := px) (iter := it) (E := fun _ _ => False) hc ok af1.rel (hA.after af1) q.1 hv (noErr_ok er)
      refine wpAny_mono co (fun i s₂ hq => wpAny_mono hq (fun acc s₃ hq => wpAny_mono hq (fun cenv s₄ hq => codeAny_mono hq fun r s' hr => ?_) fun _ _ q => q) fun _ _ q => q) fun _ _ q => q
      cases r with
      | error e => exact hr.elim
      | ok fl =>
        obtain ⟨m, z', hm, af, hw, ap⟩ := hr
        exact ⟨m, hm, fun h' hs => ⟨z', af1.trans (af.trans (af.rel.off ap hs.extBut)), hw⟩⟩
theorem compS_sound (hc : c.Ok) (ok : EOk c p n) (h : Rel c f kp z st s) (hA : AOk A f n st.md) (t : Str) (tp : Pos) (elt it : Expr) (sc : Scope) (x : Str) (px pos spos : Pos) (ifs : List Expr) (hline : (tp.line == pos.line) = true) (hany : (sc.names.any fun (n, k) => n == t && (k == .local || k == .cell)) = false) (hloc : localIn st.loc t = true) :
    Snd c f kp A (exec (.Assign [.Name t tp] (.ListComp elt [⟨.Name x px, it, ifs, 0⟩] sc pos) spos) f.env) (Mine.noErr (Mine.bind (compE p elt sc x it ifs) fun v => Mine.bind (setLoc t v) fun _ => ret Fl.next) st) (FlR c.B) z st s := by
  refine Snd.noErr fun fl stf hfin => ?_
  obtain ⟨w, st2, ew, hfin⟩ := bind_ok hfin
  obtain ⟨_, st3, es, hfin⟩ := bind_ok hfin
  cases hfin
  unfold compE at ew
  split at ew
  · rename_i q
    rw [Bool.and_eq_true] at q
    obtain ⟨v, st1, ei, er⟩ := bind_ok ew
    have SC := scopeOk_iff q.1
    have hfree : ∀ y ∈ sc.names, y.2 ≠ .free := fun y hy e => by rcases (SC.names y hy).1 with w | w <;> (rw [e] at w; cases w)
    have hkl : f.env.kindOf t = some .local := by
      unfold localIn at hloc
      rw [Bool.and_eq_true] at hloc
      have ht : nid t ≠ 0 := by simpa using hloc.1
      obtain ⟨m, hn, hl⟩ := h.loc
      have := hl t ht
      have h2 := hloc.2
      cases e : Mine.look (nid t) st.loc with
      | none => rw [e] at h2; cases h2
      | some sl =>
        rw [e] at h2 this
        cases sl with
        | glob => cases h2
        | cell _ _ => cases h2
        | unset => exact this.1
        | val v => exact this.1
    have hsw : swapsWith (.ListComp elt [⟨.Name x px, it, ifs, 0⟩] sc pos) (some (.Name t tp)) spos.line f.env = pure true := by
      show (pure (f.env.blockKind == .function && f.env.kindOf t == some .local && tp.line == pos.line && !(sc.names.any fun (n, k) => n == t && (k == .local || k == .cell))) : Sem Bool) = _
      rw [hany, hline, hkl]
      have : f.env.blockKind = .function := by simp [Env.blockKind, hA.good.kind, ScopeKind.isAnnotationScope]
      rw [this]
      rfl
    rw [exec_Assign_Name_used _ _ _ _ hsw]
    refine Snd.standAt h ?_
    show wpAny _ A ((do let _ ← comprehension (.ListComp elt [⟨.Name x px, it, ifs, 0⟩] sc pos) sc f.env (firstIterPos [⟨.Name x px, it, ifs, 0⟩] pos) (newList []) false (eval it f.env) (some (assign (.Name t tp) f.env))) >>= fun _ => pure Flow.next) _ _ s
    have is := ok.expr h hA it
    rw [ei] at is
    refine wpAny_bind (wpAny_bind (wpAny_mono (wpAny_comprehension_use (Q := fun _ s' => ∃ z', After c f kp z st s z' stf s') rfl (folded_pure q.2 _) hfree SC.kind SC.look (wpAny_mono is (fun xv s₁ hq => ?_) fun _ _ q => q.elim)) (fun _ s' hq => wpAny_pure (wpAny_pure ?_)) fun _ _ q => q))
    · obtain ⟨z1, af1, hv⟩ := hq
      have co := compOver_sound (pos := pos) (px := px) (iter := it) (E := fun _ _ => False) hc ok af1.rel (hA.after af1) q.1 hv (noErr_ok er)
      refine wpAny_mono co (fun i s₂ hq => wpAny_mono hq (fun acc s₃ hq => wpAny_mono hq (fun cenv s₄ hq => codeAny_mono hq fun r s' hr => ?_) fun _ _ q => q) fun _ _ q => q) fun _ _ q => q
      cases r with
      | error e => exact hr.elim
      | ok fl =>
        obtain ⟨m, z', hm, af, hw, ap⟩ := hr
        have held : Rel c f (cenv.locals :: kp) z' st2 s' := af.rel.hold (by obtain ⟨o, _, _, e, _⟩ := hm; rw [e]; rfl) ap
        have as := assignName_sound ((hA.after af1).after af) held t tp hw
        rw [es] at as
        refine wpAny_mono as (fun _ s₅ hq => ?_) fun _ _ q => q.elim
        obtain ⟨z5, af5, _⟩ := hq
        refine ⟨m, ?_, fun h' hs => ⟨z5, ((af1.trans af).trans af5.drop).trans (af5.drop.rel.off (af5.rel.out ap.kp) hs.extBut)⟩⟩
        obtain ⟨o, es', ep', e1, e2⟩ := hm
        exact ⟨o, es', ep', af5.keep _ (.head _) o e1, e2⟩
    · obtain ⟨z', af⟩ := hq
      exact ⟨z', af, trivial⟩
  · cases ew
end
end Mine
namespace Mine
open PySem PySem.W PySem.Calls PyProof.Rows
section
variable (K : Frag) (p : Ev)
def attrE (o : Expr) (a : Str) : M V := if notSuper o then bind (p.expr o) fun ov => readAttr K ov a else stuck "super"
def callBi (g : V) (args : List V) (kw : List (Str × V)) : M V := if kw.isEmpty then (match g with
  | .bi i => if i = "len" then biLen args else if i = "max" then biMax args else if i = "isinstance" then biIsi K args else if i = "list.append" then biAppend args else if i = "int.to_bytes" then biToBytes args else stuck "built-in"
  | .type T => if T = "range" then tyRange args else if T = "int" then tyInt args else stuck "type"
  | _ => stuck "callee") else stuck "keywords of a built-in"
def callV (g : V) (args : List V) (kw : List (Str × V)) : M V := match g with
  | .old a => callOld K p a args kw
  | g => callBi K g args kw
def exprV (e : Expr) : M V := match e with
  | .Constant k _ _ => constV k
  | .Name x _ => nameE K x
  | .BinOp l op r _ => binE p l op r
  | .UnaryOp op x _ => unE p op x
  | .IfExp c a b _ => ifE p c a b
  | .BoolOp op es _ => boolOpV p op es
  | .Compare l ops es _ => cmpE p l ops es
  | .List es _ => listE p es
  | .Tuple es _ _ => tupE p es
  | .Dict [] [] _ => alloc (.dict [])
  | .Attribute o a _ => attrE K p o a
  | .Subscript o i _ => subE p o i
  | .Slice lo hi Option.none _ => sliceE p lo hi
  | .ListComp elt [⟨.Name x _, it, ifs, 0⟩] sc _ => compE p elt sc x it ifs
  | .Call (.Attribute o name apos) args kws pos => methE K p o name apos pos args kws
  | .Call fn args kws _ => callE K p fn args kws
  | _ => stuck "expression"
def compA (t : Str) (tp : Pos) (elt : Expr) (sc : Scope) (x : Str) (it : Expr) (ifs : List Expr) (pos : Pos) : M Fl := fun s => if tp.line == pos.line && !(sc.names.any fun (n, k) => n == t && (k == .local || k == .cell)) && localIn s.loc t then noErr (bind (compE p elt sc x it ifs) fun v => bind (setLoc t v) fun _ => ret .next) s else .stuck "a comprehension's store"
def assignV (t e : Expr) : M Fl := match t, e with
  | .Name t tp, .ListComp elt [⟨.Name x _, it, ifs, 0⟩] sc pos => compA p t tp elt sc x it ifs pos
  | t, e => if notComp e && plainE t && !(isTup t && isTup e) then assignS K p t e else stuck "assignment"
def stmtV (b : Stmt) : M Fl := match b with
  | .Expr e _ => exprS p e
  | .Pass _ => ret .next
  | .Break _ => ret .brk
  | .Continue _ => ret .cont
  | .Return e _ => retS p e
  | .Assign [t] e _ => assignV K p t e
  | .AugAssign (.Name x _) op e _ => augN K p x op e
  | .AugAssign (.Attribute o a _) op e _ => augA K p o a op e
  | .If c a b _ => ifS p c a b
  | .For t it body orelse _ => forS K p t it body orelse
  | .Raise (some (.Call (.Name x _) args [] _)) Option.none _ => raiseS K p x args
  | .Try body (.ExceptHandler (some (.Name x _)) Option.none (b₀ :: hb) _ :: _) orelse [] _ => tryS K p body (b₀ :: hb) orelse x
  | _ => stuck "statement"
end
section
variable {c : Cx} {p : Ev} {n : Nat} {f : Fm} {kp : List Addr} {A : Around} {z : Sit} {st : St} {s : Shared}
theorem attrE_sound (hc : c.Ok) (ok : EOk c p n) (h : Rel c f kp z st s) (hA : AOk A f n st.md) (o : Expr) (a : Str) (pos : Pos) : Snd c f kp A (eval (.Attribute o a pos) f.env) (attrE c.K p o a st) (VP c.B) z st s := by
  unfold attrE
  refine Snd.ite (fun q => ?_) fun _ => Snd.stuck
  show Snd c f kp A (attributeBase o a f.env (eval o f.env) >>= fun ov => PySem.standAt pos.atName >>= fun _ => PySem.holding [ov] (getAttr ov a true) >>= fun r => letTemporaryGo o ov r >>= fun _ => Pure.pure r) _ _ z st s
  rw [base_plain q]
  refine Snd.bind (ok.expr h hA o) fun ov st1 va z1 s1 _ af1 pa => ?_
  refine Snd.standAt af1.rel ?_
  refine Snd.wrap (t := PySem.holding [va] (getAttr va a true)) (fun Q E k => wpAny_bind (wpAny_mono k (fun v s' q => wpAny_bind (wpAny_letTemporaryGo (wpAny_pure q))) fun _ _ q => q)) ?_
  exact Snd.holding (readAttr_sound hc af1.rel a true pa)
theorem callBi_sound (hc : c.Ok) (h : Rel c f kp z st s) (hA : AOk A f n st.md) {g : V} {gv : Value} {args : List V} {us : List Value} {kw : List (Str × V)} {ks : List (Str × Value)} (hg : VR z.ρ st.nxt c.B g gv) (hv : VRs z.ρ st.nxt c.B args us) (hk : KwR c.B z.ρ st.nxt kw ks) :
    Snd c f kp A (PySem.call gv us ks) (callBi c.K g args kw st) (VP c.B) z st s := by
  unfold callBi
  refine Snd.ite (fun q => ?_) fun _ => Snd.stuck
  have : kw = [] := by simpa using q
  subst this
  cases hk
  cases g <;> try exact Snd.stuck
  · rename_i T
    rw [hg.inj_type]
    refine Snd.iteP (fun e => ?_) fun _ => Snd.iteP (fun e => ?_) fun _ => Snd.stuck
    · subst e; exact tyRange_sound h hv
    · subst e; exact tyInt_sound h hv
  · rename_i i
    rw [hg.inj_bi]
    refine Snd.iteP (fun e => ?_) fun _ => Snd.iteP (fun e => ?_) fun _ => Snd.iteP (fun e => ?_) fun _ => Snd.iteP (fun e => ?_) fun _ => Snd.iteP (fun e => ?_) fun _ => Snd.stuck
    · subst e; exact biLen_sound h hv
    · subst e; exact biMax_sound hA h hv
    · subst e; exact biIsi_sound hc h hv
    · subst e; exact biAppend_sound h hv
    · subst e; exact biToBytes_sound h hv
theorem exprV_sound (hc : c.Ok) (ok : EOk c p n) (h : Rel c f kp z st s) (hA : AOk A f n st.md) (e : Expr) : Snd c f kp A (eval e f.env) (exprV c.K p e st) (VP c.B) z st s := by
  unfold exprV
  split
  · exact constV_sound h _
  · exact nameE_sound hc h hA _ _
  · exact binE_sound hc ok h hA _ _ _ _
  · exact unE_sound ok h hA _ _ _
  · exact ifE_sound ok h hA _ _ _ _
  · exact boolOp_sound ok _ _ _ h hA
  · exact cmpE_sound ok h hA _ _ _ _
  · exact listE_sound ok h hA _ _
  · exact tupE_sound ok h hA _ _ _
  · exact Snd.of fun Q E k => wpAny_Dict_empty (k _ _ _ (Rel.push (o := .dict []) (ob := { cls := .type "dict", data := .dict #[] }) h rfl rfl fun e => ⟨[], Heap.DictOf.new _, .nil⟩) VR.new)
  · exact attrE_sound hc ok h hA _ _ _
  · exact subE_sound ok h hA _ _ _
  · exact sliceE_sound ok h hA _ _ _
  · exact compE_sound hc ok h hA _ _ _ _ _ _ _
  · exact methE_sound hc ok h hA _ _ _ _ _ _
  · rename_i hne
    exact callE_sound hc ok h hA _ _ _ _ fun o a q e => hne o a q e
  · exact Snd.stuck
theorem assignV_sound (hc : c.Ok) (ok : EOk c p n) (h : Rel c f kp z st s) (hA : AOk A f n st.md) (t e : Expr) (pos : Pos) : Snd c f kp A (exec (.Assign [t] e pos) f.env) (assignV c.K p t e st) (FlR c.B) z st s := by
  unfold assignV
  split
  · unfold compA
    split
    · rename_i q
      rw [Bool.and_eq_true, Bool.and_eq_true] at q
      exact compS_sound hc ok h hA _ _ _ _ _ _ _ _ _ _ q.1.1 (by simpa using q.1.2) q.2
    · trivial
  · refine Snd.ite (fun q => ?_) fun _ => Snd.stuck
    rw [Bool.and_eq_true, Bool.and_eq_true] at q
    exact assignS_sound hc ok h hA _ _ _ q.1.1 q.1.2 (by have := q.2; cases e1 : isTup t && isTup e with | true => rw [e1] at this; cases this | false => rfl)
theorem stmtV_sound (hc : c.Ok) (ok : EOk c p n) (h : Rel c f kp z st s) (hA : AOk A f n st.md) (b : Stmt) : Snd c f kp A (exec b f.env) (stmtV c.K p b st) (FlR c.B) z st s := by
  unfold stmtV
  split
  · exact exprS_sound ok h hA _ _
  · exact Snd.standAt (t := Pure.pure Flow.next) h (Snd.pure h trivial)
  · exact Snd.standAt (t := Pure.pure Flow.brk) h (Snd.pure h trivial)
  · exact Snd.standAt (t := Pure.pure Flow.cont) h (Snd.pure h trivial)
  · exact retS_sound ok h hA _ _
  · exact assignV_sound hc ok h hA _ _ _
  · exact augN_sound hc ok h hA _ _ _ _ _
  · exact augA_sound hc ok h hA _ _ _ _ _ _
  · exact ifS_sound ok h hA _ _ _ _
  · exact forS_sound hc ok h hA _ _ _ _ _
  · exact raiseS_sound hc ok h hA _ _ _ _ _
  · exact tryS_sound hc ok h hA _ _ _ _ _ _ _ _ _
  · exact Snd.stuck
theorem callV_sound (hc : c.Ok) (ok : EOk c p n) (h : Rel c f kp z st s) (hA : AOk A f (n + 2) st.md) {g : V} {gv : Value} {args : List V} {us : List Value} {kw : List (Str × V)} {ks : List (Str × Value)} (hg : VR z.ρ st.nxt c.B g gv) (hv : VRs z.ρ st.nxt c.B args us) (hk : KwR c.B z.ρ st.nxt kw ks) :
    Snd c f kp A (PySem.call gv us ks) (callV c.K p g args kw st) (VP c.B) z st s := by
  unfold callV
  split
  · rw [hg.inj_old]; exact callOld_sound hc ok h hA _ hv hk
  · exact callBi_sound hc h (hA.less (Nat.le_add_right _ _)) hg hv hk
theorem stuckEv_sound : EOk c stuckEv 0 where
  expr := fun _ _ _ => trivial
  test := fun _ _ _ => trivial
  stmt := fun _ _ _ => trivial
  call := fun _ _ => fun _ _ _ => trivial
end
end Mine
namespace Mine
open PySem PySem.W PySem.Calls PyProof.Rows
section
variable {c : Cx} {p : Ev} {n : Nat} {f : Fm} {kp : List Addr} {A : Around} {z : Sit} {st : St} {s : Shared}
theorem namesOf_tup {env : Env} {line : Nat} : ∀ {ts : List Expr} {xs : List Str}, namesOf ts = some xs → oneLine line ts = true → (∀ x ∈ xs, env.kindOf x = some .local) →
    ts.filterMap (fun | .Name id pos => if env.kindOf id == some .local && pos.line == line then some id else none | _ => none) = xs
  | [], xs, e, _, _ => by cases e; rfl
  | t :: ts, xs, e, ho, hk => by
    cases t <;> try cases e
    rename_i x pos
    unfold namesOf at e
    cases e1 : namesOf ts with
    | none => rw [e1] at e; cases e
    | some ys =>
      rw [e1] at e
      cases e
      unfold oneLine at ho
      rw [Bool.and_eq_true] at ho
      rw [List.filterMap_cons]
      dsimp only
      have h1 : (env.kindOf x == some .local && pos.line == line) = true := by rw [hk x (.head _), ho.1]; rfl
      rw [if_pos h1]
      rw [namesOf_tup e1 ho.2 fun y hy => hk y (.tail _ hy)]
theorem namesOf_len : ∀ {ts : List Expr} {xs : List Str}, namesOf ts = some xs → ts.length = xs.length := fun {ts xs} e => (namesOf_each ts e default).2.1
theorem distinct_dups : ∀ {xs : List Str}, distinct xs = true → (xs.length = 2 ∨ xs.length = 3) → xs.eraseDups.length = xs.length
  | [a, b], h, _ => by
    simp only [distinct, List.all_cons, List.all_nil, Bool.and_true, bne_iff_ne, ne_eq] at h
    have : (a == b) = false := beq_eq_false_iff_ne.mpr fun e => h (by rw [e])
    have h2 : (b == a) = false := beq_eq_false_iff_ne.mpr fun e => h (by rw [e])
    simp [List.eraseDups, List.eraseDupsBy, List.eraseDupsBy.loop, this, h2]
  | [a, b, d], h, _ => by
    simp only [distinct, List.all_cons, List.all_nil, Bool.and_true, Bool.and_eq_true, bne_iff_ne, ne_eq] at h
    obtain ⟨⟨h1, h2⟩, h3⟩ := h
    have e1 : (a == b) = false := beq_eq_false_iff_ne.mpr fun e => h1 (by rw [e])
    have e2 : (a == d) = false := beq_eq_false_iff_ne.mpr fun e => h2 (by rw [e])
    have e3 : (b == d) = false := beq_eq_false_iff_ne.mpr fun e => h3 (by rw [e])
    have e1' : (b == a) = false := beq_eq_false_iff_ne.mpr fun e => h1 (by rw [e])
    have e2' : (d == a) = false := beq_eq_false_iff_ne.mpr fun e => h2 (by rw [e])
    have e3' : (d == b) = false := beq_eq_false_iff_ne.mpr fun e => h3 (by rw [e])
    simp [List.eraseDups, List.eraseDupsBy, List.eraseDupsBy.loop, e1, e2, e3, e1', e2', e3']
  | [], _, h => by simp at h
  | [_], _, h => by simp at h
  | _ :: _ :: _ :: _ :: _, _, h => by simp at h
theorem swapped_some {ts vs : List Expr} {xs : List Str} {k1 k2 : Nat} {p1 p2 : Pos} {env : Env} (hb : env.blockKind = .function) (hs : swapOk ts vs = true) (hx : namesOf ts = some xs) (hk : ∀ x ∈ xs, env.kindOf x = some .local) :
    swappedStores [.Tuple ts k1 p1] (.Tuple vs k2 p2) env = pure (some xs) := by
  unfold swapOk at hs
  rw [hx] at hs
  simp only [Bool.and_eq_true, Bool.not_eq_true', Bool.or_eq_true, beq_iff_eq] at hs
  obtain ⟨⟨⟨⟨⟨⟨h1, h2⟩, h3⟩, h4⟩, h5⟩, h6⟩, h7⟩ := hs
  have hl := namesOf_len hx
  have hline : ((ts.head?.map (·.pos.line)).getD 0) = lineOf ts := by
    cases ts with
    | nil => rfl
    | cons t ts => cases t <;> first | rfl | cases hx
  have hlen : ts.length = 2 ∨ ts.length = 3 := by rcases h1 with e | e <;> simp [e]
  have hnm := namesOf_tup (env := env) hx h4 hk
  have hdup := distinct_dups h5 (by rw [← hl]; exact hlen)
  have c1 : (!(ts.length == 2 || ts.length == 3) || vs.length != ts.length || env.blockKind != .function) = false := by
    rw [hb, h2]
    rcases hlen with e | e <;> simp [e]
  unfold swappedStores
  dsimp only
  rw [c1, if_neg Bool.false_ne_true]
  split
  · rename_i q
    obtain ⟨v, hv, e⟩ := List.any_eq_true.mp q
    have := List.all_eq_true.mp h3 v hv
    cases v <;> first | exact (Bool.false_ne_true this).elim | cases e
  · rw [hline]
    generalize hgn : List.filterMap _ ts = nm
    have e : nm = xs := hgn.symm.trans hnm
    subst e
    rw [hdup]
    have c2 : (nm.length != ts.length || nm.length != nm.length) = false := by simp [hl]
    rw [c2, if_neg Bool.false_ne_true, h6, if_neg Bool.false_ne_true, h7, if_neg Bool.false_ne_true]
theorem swapS_sound (ok : EOk c p n) (h : Rel c f kp z st s) (hA : AOk A f n st.md) (ts vs : List Expr) (xs : List Str) (k1 k2 : Nat) (p1 p2 pos : Pos) (hs : swapOk ts vs = true) (hx : namesOf ts = some xs) :
    Snd c f kp A (exec (.Assign [.Tuple ts k1 p1] (.Tuple vs k2 p2) pos) f.env) (swapS p xs (.Tuple vs k2 p2) st) (FlR c.B) z st s := by
  have e0 : exec (.Assign [.Tuple ts k1 p1] (.Tuple vs k2 p2) pos) f.env = (PySem.standAt pos >>= fun _ => eval (.Tuple vs k2 p2) f.env >>= fun v => swappedStores [.Tuple ts k1 p1] (.Tuple vs k2 p2) f.env >>= fun sw => assignStores f.env v sw ((assignEach [.Tuple ts k1 p1] f.env).map (·.2))) := by
    rfl
  rw [e0]
  unfold swapS
  refine Snd.standAt h ?_
  refine Snd.bind (ok.expr h hA _) fun v st1 va z1 s1 _ af1 pa => ?_
  split
  · rename_i hall
    have hb : f.env.blockKind = .function := by simp [Env.blockKind, hA.good.kind, ScopeKind.isAnnotationScope]
    have hk : ∀ x ∈ xs, f.env.kindOf x = some .local := fun x hxm => by
      have := List.all_eq_true.mp hall x hxm
      unfold localIn at this
      rw [Bool.and_eq_true] at this
      have ht : nid x ≠ 0 := by simpa using this.1
      obtain ⟨m, hn, hl⟩ := af1.rel.loc
      have hlx := hl x ht
      have h2 := this.2
      cases e : Mine.look (nid x) st1.loc with
      | none => rw [e] at h2; cases h2
      | some sl =>
        rw [e] at h2 hlx
        cases sl with
        | glob => cases h2
        | cell _ _ => cases h2
        | unset => exact hlx.1
        | val w => exact hlx.1
    rw [swapped_some hb hs hx hk, pure_bind]
    show Snd c f kp A (rule "assign.swapped-stores" >>= fun _ => unpackItems va xs.length none >>= fun items => assignInOrder (xs.reverse.map fun n => bindName f.env n) items.reverse >>= fun _ => Pure.pure Flow.next) _ _ z1 st1 s1
    refine Snd.pre (fun _ s' => s' = s1) (wpAny_rule rfl) fun _ s' e => ?_
    subst e
    refine ⟨After.refl af1.rel, ?_⟩
    refine Snd.bind (unpackV_sound (hA.after af1) af1.rel pa xs.length) fun ys st2 us z2 s2 _ af2 py => ?_
    refine Snd.bind (P := UP) ?_ fun _ st3 _ z3 s3 _ af3 _ => Snd.pure af3.rel trivial
    have go : ∀ (xs : List Str) {z st s} (vs : List V) (us : List Value), AOk A f n st.md → Rel c f kp z st s → VRs z.ρ st.nxt c.B vs us → Snd c f kp A (assignInOrder (xs.map fun n => bindName f.env n) us) (setLocs xs vs st) UP z st s := by
      intro xs
      induction xs with
      | nil =>
        intro z st s vs us _ h hv
        cases hv with
        | nil => exact Snd.pure h trivial
        | cons _ _ => exact Snd.stuck
      | cons x xs ih =>
        intro z st s vs us hA h hv
        cases hv with
        | nil => exact Snd.stuck
        | @cons v u vs us hv hr =>
          show Snd c f kp A (PySem.holding us (bindName f.env x u) >>= fun _ => assignInOrder (xs.map fun n => bindName f.env n) us) (Mine.bind (setLoc x v) (fun _ => setLocs xs vs) st) _ z st s
          refine Snd.bind (Snd.holding (bindName_sound hA h x hv)) fun _ st1 _ z1 s1 _ af1 _ => ?_
          exact ih vs us (hA.after af1) af1.rel (af1.vrs hr)
    exact go xs.reverse ys.reverse us.reverse ((hA.after af1).after af2) af2.rel py.reverse
  · trivial
end
end Mine
namespace Mine
open PySem PySem.W PySem.Calls PyProof.Rows
section
variable {c : Cx} {p : Ev} {n : Nat} {f : Fm} {kp : List Addr} {A : Around} {z : Sit} {st : St} {s : Shared}
theorem cross {A' A'' : Around} {cls : V} {st1 : St} {e : Value} {s₁ : Shared} {outer : List Env} {L : Addr} (hst : f.stack = f.env :: outer) (hL : f.env.frame = some L) (hfr : A'.frames = some f.stack) (x : Raised c f kp z st s cls st1 e s₁) :
    notedBy (model c.prog c.w) A' f.env (cameBackBy (model c.prog c.w) A'' f.env (fun e s' => Raised c f kp z st s cls st1 e s')) e s₁ := by
  obtain ⟨z1, af, ea, cv, a0, Bq, rfl, hcv, ⟨q1, q2, q3, q4⟩, hb, ho⟩ := x.ex
  have fin : ∀ h', Bq.StaysIn h' → h'.FunFrames Bq f.stack → h'.TracedAtW Bq ea cv a0 (rawInt L) → s₁.heap.UpToSlots h' → cameBackBy (model c.prog c.w) A'' f.env (fun e s' => Raised c f kp z st s cls st1 e s') (.ref ea) { s₁ with heap := h' } := by
    intro h' k1 k2 k3 k4
    have af2 := af.rel.flown hb ho k1 k4
    have R : Raised c f kp z st s cls st1 (.ref ea) { s₁ with heap := h' } := by
      refine ⟨z1, af.trans af2, ea, cv, a0, Bq, rfl, hcv, ⟨k1, q2, k2, .inr (.inr ⟨_, _, _, hst, hL, k3⟩)⟩, hb, fun b o hob e => ?_⟩
      obtain ⟨o', e'⟩ := Option.isSome_iff_exists.mp (ours_some af.rel hob)
      have e1 := ho b o' hob e'
      have e2 := k1 b o' e1
      have e : h'.get? b = some o := e
      rw [e2] at e
      cases e
      exact e1
    obtain ⟨oe, vs, T, oT, ts, he, hcls, hd, h1, hnT, hTe, hT, hdT, h3⟩ := id k3
    unfold cameBackBy
    refine wpAny_bind (wpAny_field he hd h1 ?_)
    rw [if_neg (show ¬ ((Value.ref T == Value.none) = true) from by simp)]
    have step : wpAny (model c.prog c.w) A'' (setFlight (.ref ea) f.env.frame) (fun _ s' => Raised c f kp z st s cls st1 (.ref ea) s') (fun e s' => Raised c f kp z st s cls st1 e s') { s₁ with heap := h' } := by
      unfold setFlight
      refine wpAny_bind (wpAny_field he hd h1 ?_)
      rw [if_pos (show (Value.ref T != Value.none) = true from by simp), hL]
      refine wpAny_setField hT hdT (Array.getElem?_eq_some_iff.mp h3).1 ?_
      have : h'.update T (Obj.mapFields (·.setIfInBounds 3 ((some L).elim Value.none fun f => rawInt f))) = h' := Heap.update_setField_same h' T oT ts 3 (rawInt L) hT hdT h3
      show Raised c f kp z st s cls st1 (.ref ea) { s₁ with heap := h'.update T (Obj.mapFields (·.setIfInBounds 3 ((some L).elim Value.none fun f => rawInt f))) }
      rw [this]
      exact R
    first
      | exact wpAny_bind (wpAny_pure step)
      | exact step
  unfold notedBy
  have q3' := q3
  have hfr' := hfr
  rw [hst] at q3' hfr'
  rcases q4 with ⟨oe, vs, e1, rfl, e3, e4, e5⟩ | tr | ⟨env, outer', L', hl, hL', tr⟩
  · unfold noteFrame
    simp only [hL]
    refine wpAny_bind (wpAny_field e1 e3 e5 ?_)
    rw [if_neg (by decide)]
    exact wpAny_entryW hfr' q3' hL e1 q1 q2 e3 (Array.getElem?_eq_some_iff.mp e5).1 e4 fun h' hN => by
      obtain ⟨k1, k2, k3, k4⟩ := hN
      rw [← hst] at k2
      exact fin h' k1 k2 k3 k4
  · exact wpAny_looks_onW hfr' hL ⟨q1, q2, q3', tr⟩ fun h' hH k4 => by
      obtain ⟨k1, _, k2, k3⟩ := hH
      rw [← hst] at k2
      exact fin h' k1 k2 k3 k4
  · obtain ⟨rfl, rfl⟩ := List.cons.inj (hst.symm.trans hl)
    rw [hL] at hL'
    cases hL'
    exact wpAny_noteFrame_againW hL tr (fin s₁.heap q1 q3 tr (fun _ o e _ => ⟨o.slots, e⟩))
end
end Mine
namespace Mine
open PySem PySem.W PySem.Calls PyProof.Rows
def topOnly {α : Type} (m : M α) : M α := fun s => if s.md.top then m s else .stuck "a loop within a comprehension"
section
variable (K : Frag) (p : Ev)
def whileL (test : Expr) (body orelse : List Stmt) : Nat → M Fl
  | 0 => stuck "fuel of while"
  | k + 1 => bind (p.test test) fun t => if t then bind (execL p body) fun fl => match fl with
    | .brk => ret .next
    | .ret w => ret (.ret w)
    | _ => whileL test body orelse k else execL p orelse
def whileS (test : Expr) (body orelse : List Stmt) : M Fl := topOnly (whileL p test body orelse 4096)
end
section
variable {c : Cx} {p : Ev} {n : Nat} {f : Fm} {kp : List Addr} {A : Around} {z : Sit} {st : St} {s : Shared}
def LoopR (c : Cx) (f : Fm) (kp : List Addr) (A : Around) (z : Sit) (st : St) (s : Shared) (fin : R Fl) : Result → Shared → Prop := fun r s' => match fin, r with
  | .ok x stf, .ok fl => ∃ z', After c f kp z st s z' stf s' ∧ FlR c.B z' stf.nxt x fl
  | .err cls _ stf, .error e => cameBackBy (model c.prog c.w) A f.env (fun e s' => Raised c f kp z st s cls stf e s') e s'
  | _, _ => False
theorem Raised.drop {a : Addr} {cls : V} {st1 : St} {e : Value} {s₁ : Shared} (x : Raised c f (a :: kp) z st s cls st1 e s₁) : Raised c f kp z st s cls st1 e s₁ := by
  obtain ⟨z1, af, ea, cv, a0, Bq, he, hcv, hF, hb, ho⟩ := x.ex
  exact ⟨z1, af.drop, ea, cv, a0, Bq, he, hcv, hF, hb, fun b o hob e => ho b o (by
    rcases hob with w | w
    · exact .inl (.tail _ w)
    · exact .inr w) e⟩
def rb {α β : Type} (m : R α) (k : α → St → R β) : R β := match m with
  | .ok x s1 => k x s1
  | .err c1 fs s1 => .err c1 fs s1
  | .stuck w => .stuck w
theorem bind_eq {α β : Type} (m : M α) (k : α → M β) (st : St) : Mine.bind m k st = rb (m st) k := by
  unfold Mine.bind rb
  cases m st <;> rfl
theorem LoopR.step {kp' : List Addr} {α β : Type} {t : Sem α} {m : R β} {P : Sit → Nat → β → α → Prop} {z' : Sit} {st' : St} {s' : Shared} {k : β → St → R Fl} {Q : α → Shared → Prop} {outer : List Env}
    (hR : ∀ {cls s1 e s₁}, Raised c f kp' z' st' s' cls s1 e s₁ → Raised c f kp z' st' s' cls s1 e s₁)
    (hst : f.stack = f.env :: outer) (hL : f.env.frame = some f.L) (hfr : A.frames = some f.stack) (af : After c f kp z st s z' st' s')
    (sn : Snd c f kp' A t m P z' st' s') (fin : R Fl) (hfin : rb m k = fin) (hns : ∀ w, fin ≠ .stuck w)
    (hk : ∀ x st1 v z1 s1, m = .ok x st1 → k x st1 = fin → After c f kp' z' st' s' z1 st1 s1 → P z1 st1.nxt x v → Q v s1) :
    wpAny (model c.prog c.w) A t Q (notedBy (model c.prog c.w) A f.env fun e s' => LoopR c f kp A z st s fin (.error e) s') s' := by
  cases m with
  | stuck w => exact absurd hfin.symm (hns w)
  | ok x s1 => exact wpAny_mono sn (fun v s₁ ⟨z1, af1, pv⟩ => hk x s1 v z1 s₁ rfl hfin af1 pv) fun _ _ q => q.elim
  | err cls fs s1 =>
    subst hfin
    refine wpAny_mono sn (fun _ _ q => q.elim) fun e s₁ r => ?_
    exact cross hst hL hfr (Raised.from af (hR r))
theorem LoopR.last {z' : Sit} {st' : St} {s' : Shared} {t : Sem Flow} {m : R Fl} {outer : List Env} (hst : f.stack = f.env :: outer) (hL : f.env.frame = some f.L) (hfr : A.frames = some f.stack) (af : After c f kp z st s z' st' s')
    (sn : Snd c f kp A t m (FlR c.B) z' st' s') (hns : ∀ w, m ≠ .stuck w) :
    wpAny (model c.prog c.w) A t (fun fl s₃ => LoopR c f kp A z st s m (.ok fl) s₃) (notedBy (model c.prog c.w) A f.env fun e s' => LoopR c f kp A z st s m (.error e) s') s' := by
  refine LoopR.step (k := fun x s1 => .ok x s1) (fun r => r) hst hL hfr af sn m (by cases m <;> rfl) hns fun x st1 v z1 s1 e _ af1 pv => ?_
  subst e
  exact ⟨z1, af.trans af1, pv⟩
theorem Snd.loop {cd : Code} {m : M Fl} (hA : AOk A f n st.md) (h : ∀ outer, f.stack = f.env :: outer → f.env.frame = some f.L → (∀ w, m st ≠ .stuck w) → codeAny (model c.prog c.w) A cd (LoopR c f kp A z st s (m st)) s) :
    Snd c f kp A (runOwn cd f.env) (topOnly m st) (FlR c.B) z st s := by
  unfold topOnly
  split
  · rename_i ht
    obtain ⟨outer, hst, hL⟩ := hA.top ht
    have := h outer hst hL
    cases e : m st with
    | stuck w => trivial
    | ok x stf =>
      rw [e] at this
      refine wpAny_runOwn (codeAny_mono (this (fun w q => by cases q)) fun r s' hr => ?_)
      cases r with
      | ok fl => exact hr
      | error e => exact hr.elim
    | err cls fs stf =>
      rw [e] at this
      refine wpAny_runOwn (codeAny_mono (this (fun w q => by cases q)) fun r s' hr => ?_)
      cases r with
      | ok fl => exact hr.elim
      | error e => exact hr
  · trivial
theorem whileS_sound (ok : EOk c p n) (h : Rel c f kp z st s) (hA : AOk A f n st.md) (test : Expr) (body orelse : List Stmt) (pos : Pos) : Snd c f kp A (exec (.While test body orelse pos) f.env) (whileS p test body orelse st) (FlR c.B) z st s := by
  rw [exec_While]
  refine Snd.standAt h ?_
  unfold whileS
  refine Snd.loop hA fun outer hst hL hns => ?_
  generalize hfin : whileL p test body orelse 4096 st = fin at hns ⊢
  refine codeAny_whileLoop (R := LoopR c f kp A z st s fin) (fun m s' => ∃ z' st', After c f kp z st s z' st' s' ∧ whileL p test body orelse m st' = fin) ?_ 4096 ⟨z, st, After.refl h, hfin⟩
  rintro m s' ⟨z', st', af, hw⟩
  cases m with
  | zero => exact absurd hw.symm (hns _)
  | succ m =>
    have hA' := hA.after af
    unfold whileL at hw
    rw [bind_eq] at hw
    refine LoopR.step (fun r => r) hst hL hA.frames af (ok.test af.rel hA' test) fin hw hns fun b st1 v z1 s1 _ hk af1 pb => ?_
    cases pb
    cases b
    · rw [if_neg Bool.false_ne_true] at hk
      rw [if_neg Bool.false_ne_true]
      have := LoopR.last hst hL hA.frames (af.trans af1) (execL_sound ok orelse af1.rel (hA'.after af1)) (by rw [hk]; exact hns)
      rw [hk] at this
      exact this
    · rw [if_pos rfl] at hk
      rw [if_pos rfl]
      rw [bind_eq] at hk
      refine LoopR.step (fun r => r) hst hL hA.frames (af.trans af1) (execL_sound ok body af1.rel (hA'.after af1)) fin hk hns fun fl st2 v z2 s2 _ hk af2 pf => ?_
      cases fl <;> cases v <;> first | exact pf.elim | skip
      · exact ⟨m, Nat.lt_succ_self _, z2, st2, (af.trans af1).trans af2, hk⟩
      · subst hk; exact ⟨z2, (af.trans af1).trans af2, trivial⟩
      · exact ⟨m, Nat.lt_succ_self _, z2, st2, (af.trans af1).trans af2, hk⟩
      · subst hk; exact ⟨z2, (af.trans af1).trans af2, pf⟩
end
end Mine
namespace Mine
open PySem PySem.W PySem.Calls PyProof.Rows
section
variable (K : Frag) (p : Ev)
def loopE (t : Expr) (body orelse : List Stmt) (v : V) : M Fl := match v with
  | .ref r => calm (bind (getO r) fun o => match o with
    | .list vs => topOnly (forL K p (still r (.list vs)) plainMk t body orelse 0 vs)
    | .tup vs => topOnly (forL K p (still r (.tup vs)) plainMk t body orelse 0 vs)
    | .rng a b c => if Builtin.Range.small a b c then topOnly (forL K p (fun _ => true) plainMk t body orelse 0 (rngL a b c)) else stuck "long range"
    | _ => stuck "loop")
  | _ => stuck "loop"
def forE (t it : Expr) (body orelse : List Stmt) : M Fl := if notSet it then bind (p.expr it) fun v => loopE K p t body orelse v else stuck "loop over a set"
end
section
variable {c : Cx} {p : Ev} {n : Nat} {f : Fm} {kp : List Addr} {A : Around} {z : Sit} {st : St} {s : Shared}
theorem forE_loop (hc : c.Ok) (ok : EOk c p n) {it : Addr} {t : Expr} {gd : St → Bool} {mk : Nat → V → St → V × St} {items : List V} {I : Nat → Heap → Prop} (hk : it ∉ kp) (src : Src c f kp A z.ρ st.nxt it t gd mk items I) (body orelse : List Stmt)
    (h : Rel c f (it :: kp) z st s) (hA : AOk A f n st.md) (hd : st.md.hd = false) (hg : gd st = true) (h0 : I 0 s.heap) :
    Snd c f kp A (runOwn (.forLoop t (.ref it) body orelse f.env) f.env) (topOnly (forL c.K p gd mk t body orelse 0 items) st) (FlR c.B) z st s := by
  refine Snd.loop hA fun outer hst hL hns => ?_
  generalize hfin : forL c.K p gd mk t body orelse 0 items st = fin at hns ⊢
  refine codeAny_forLoop_any (R := LoopR c f kp A z st s fin)
    (fun m s' => ∃ k rest z' st', m = rest.length + 1 ∧ rest = items.drop k ∧ After c f kp z st s z' st' s' ∧ Rel c f (it :: kp) z' st' s' ∧ gd st' = true ∧ I k s'.heap ∧ forL c.K p gd mk t body orelse k rest st' = fin)
    ?_ (items.length + 1) ⟨0, items, z, st, rfl, rfl, After.refl h.drop, h, hg, h0, hfin⟩
  rintro m s' ⟨k, rest, z', st', rfl, hrest, af, hr, hg', hI, hfl⟩
  have hA' := hA.after af
  have hd' : st'.md.hd = false := by rw [af.hd]; exact hd
  cases rest with
  | nil =>
    have hnone : items[k]? = none := List.getElem?_eq_none (by have := congrArg List.length hrest; simp at this; omega)
    refine wpAny_mono (src.stop af.nxt (fun i hi => (af.same i hi).1) hnone hr hg' hI (hA.handled hd)) (fun r s₁ hq => ?_) fun _ _ q => q.elim
    obtain ⟨rfl, af1⟩ := hq
    have hfl : execL p orelse st' = fin := hfl
    have := LoopR.last hst hL hA.frames (af.trans af1) (execL_sound ok orelse af1.rel hA') (by rw [hfl]; exact hns)
    rw [hfl] at this
    exact this
  | cons x rest =>
    have hx : items[k]? = some x := by
      have := congrArg (·[0]?) hrest
      simp at this
      exact this.symm
    have hrest' : rest = items.drop (k + 1) := by
      have := congrArg List.tail hrest
      simpa using this
    refine wpAny_mono (src.next af.nxt (fun i hi => (af.same i hi).1) hx hr hg' hI) (fun r s₁ hq => ?_) fun _ _ q => q.elim
    obtain ⟨v, rfl, hq⟩ := hq
    refine wpAny_mono hq (fun _ s₂ hq => ?_) fun _ _ q => q.elim
    obtain ⟨z₂, af2, hr2, hv, hI2⟩ := hq
    unfold forL at hfl
    rw [bind_eq] at hfl
    have afA := af.trans af2
    refine LoopR.step (fun r => r.drop) hst hL hA.frames afA (assignTo_sound (kp := it :: kp) hc ok (hA'.after af2) hr2 t hv) fin hfl hns fun _ st3 _ z₃ s₃ _ hfl af3 _ => ?_
    rw [bind_eq] at hfl
    refine LoopR.step (fun r => r.drop) hst hL hA.frames (afA.trans af3.drop) (execL_sound ok body af3.rel ((hA'.after af2).after af3)) fin hfl hns fun flb st4 fl z₄ s₄ _ hfl af4 hf => ?_
    have afAll := (afA.trans af3.drop).trans af4.drop
    have hI4 := src.stay _ _ _ hI2 (fun b hb o e => af4.keep b hb o (af3.keep b hb o e))
    cases flb <;> cases fl <;> first | exact hf.elim | skip
    · dsimp only at hfl ⊢
      split at hfl
      · rename_i hg4
        exact ⟨_, Nat.lt_succ_self _, k + 1, rest, z₄, st4, rfl, hrest', afAll, af4.rel, hg4, hI4, hfl⟩
      · exact absurd hfl.symm (hns _)
    · subst hfl
      exact ⟨z₄, afAll, trivial⟩
    · dsimp only at hfl ⊢
      split at hfl
      · rename_i hg4
        exact ⟨_, Nat.lt_succ_self _, k + 1, rest, z₄, st4, rfl, hrest', afAll, af4.rel, hg4, hI4, hfl⟩
      · exact absurd hfl.symm (hns _)
    · subst hfl
      exact ⟨z₄, afAll, hf⟩
theorem loopE_sound (hc : c.Ok) (ok : EOk c p n) (h : Rel c f kp z st s) (hA : AOk A f n st.md) (t : Expr) (body orelse : List Stmt) {v : V} {x : Value} (hv : VR z.ρ st.nxt c.B v x) :
    Snd c f kp A (PySem.holding [x] (pyIter x) >>= fun it => runOwn (.forLoop t it body orelse f.env) f.env) (loopE c.K p t body orelse v st) (FlR c.B) z st s := by
  unfold loopE
  cases v <;> try exact Snd.stuck
  rename_i r
  obtain ⟨rfl, hr⟩ := hv.inj_ref
  refine Snd.calm fun hd => Snd.getO fun hr => ?_
  cases er : st.obj r <;> try exact Snd.stuck
  · rename_i vs
    obtain ⟨us, ep, e1, r1⟩ := h.lst hr er
    refine Snd.begin (ob := { cls := .type "list_iterator", data := .fields #[.ref (z.ρ r), .int 0 0] }) h rfl (fun Q E k => wpAny_pyIter_list ⟨_, e1, rfl, ep, rfl⟩ k) fun hk hr' hob => ?_
    exact forE_loop hc ok hk (src_list t hk hr) body orelse hr' hA hd (decide_eq_true er) ⟨_, hob, rfl, rfl⟩
  · rename_i vs
    obtain ⟨us, e1, r1⟩ := h.tpl hr er
    refine Snd.begin (ob := { cls := .type "tuple_iterator", data := .fields #[.ref (z.ρ r), .int 0 0] }) h rfl (fun Q E k => wpAny_pyIter_tuple ⟨_, e1, rfl, _, rfl⟩ k) fun hk hr' hob => ?_
    exact forE_loop hc ok hk (src_tup t hk hr) body orelse hr' hA hd (decide_eq_true er) ⟨_, hob, rfl, rfl⟩
  · rename_i a b d
    have e1 := h.objs r hr
    rw [er] at e1
    obtain ⟨t1, t2, t3, e1⟩ := e1
    refine Snd.ite (fun hs => ?_) fun _ => Snd.stuck
    refine Snd.begin (ob := { cls := .type "range_iterator", data := .fields #[rawInt a, rawInt (Builtin.Range.rangeSize a b d), rawInt d] }) h rfl (fun Q E k => wpAny_pyIter_range e1 hs k) fun hk hr' hob => ?_
    refine forE_loop hc ok hk (src_rng t hk a b d) body orelse hr' hA hd rfl ?_
    show IsRangeIter _ _ (a + ((0 : Nat) : Int) * d) (Builtin.Range.rangeSize a b d - ((0 : Nat) : Int)) d
    have z1 : a + ((0 : Nat) : Int) * d = a := by simp
    have z2 : Builtin.Range.rangeSize a b d - ((0 : Nat) : Int) = Builtin.Range.rangeSize a b d := by simp
    rw [z1, z2]
    exact hob
theorem forE_sound (hc : c.Ok) (ok : EOk c p n) (h : Rel c f kp z st s) (hA : AOk A f n st.md) (t it : Expr) (body orelse : List Stmt) (pos : Pos) : Snd c f kp A (exec (.For t it body orelse pos) f.env) (forE c.K p t it body orelse st) (FlR c.B) z st s := by
  unfold forE
  refine Snd.ite (fun hn => ?_) fun _ => Snd.stuck
  show Snd c f kp A (PySem.standAt pos >>= fun _ => eval it f.env >>= fun x0 => foldedSetIterable it f.env x0 >>= fun x => PySem.standAt it.pos >>= fun _ => PySem.holding [x] (pyIter x) >>= fun i => runOwn (.forLoop t i body orelse f.env) f.env) _ _ z st s
  refine Snd.standAt h ?_
  refine Snd.bind (ok.expr h hA it) fun v st1 x z1 s1 _ af1 pv => ?_
  rw [folded_pure hn]
  exact Snd.standAt af1.rel (loopE_sound hc ok af1.rel (hA.after af1) t body orelse pv)
end
end Mine
namespace Mine
open PySem PySem.W PySem.Calls PyProof.Rows
section
variable (K : Frag) (p : Ev)
def stmtW (b : Stmt) : M Fl := match b with
  | .While t body orelse _ => whileS p t body orelse
  | .For t it body orelse _ => forE K p t it body orelse
  | .Assign [.Tuple ts k1 p1] (.Tuple vs k2 p2) _ => if swapOk ts vs then (match namesOf ts with
      | some xs => swapS p xs (.Tuple vs k2 p2)
      | Option.none => stuck "exchange of no names") else if plainE (.Tuple ts k1 p1) && !(ts.length == 2 || ts.length == 3) then assignS K p (.Tuple ts k1 p1) (.Tuple vs k2 p2) else stuck "a tuple's assignment to a tuple"
  | b => stmtV K p b
end
section
variable {c : Cx} {p : Ev} {n : Nat} {f : Fm} {kp : List Addr} {A : Around} {z : Sit} {st : St} {s : Shared}
theorem assignT_sound (hc : c.Ok) (ok : EOk c p n) (h : Rel c f kp z st s) (hA : AOk A f n st.md) (ts vs : List Expr) (k1 k2 : Nat) (p1 p2 pos : Pos) (ht : plainE (.Tuple ts k1 p1) = true) (hs : ¬ (ts.length = 2 ∨ ts.length = 3)) :
    Snd c f kp A (exec (.Assign [.Tuple ts k1 p1] (.Tuple vs k2 p2) pos) f.env) (assignS c.K p (.Tuple ts k1 p1) (.Tuple vs k2 p2) st) (FlR c.B) z st s := by
  have e2 : swappedStores [.Tuple ts k1 p1] (.Tuple vs k2 p2) f.env = pure none := by
    unfold swappedStores
    dsimp only
    have : (!(ts.length == 2 || ts.length == 3)) = true := by simpa using hs
    rw [this, Bool.true_or, Bool.true_or, if_pos rfl]
  have e0 : exec (.Assign [.Tuple ts k1 p1] (.Tuple vs k2 p2) pos) f.env = (PySem.standAt pos >>= fun _ => eval (.Tuple vs k2 p2) f.env >>= fun v => assign (.Tuple ts k1 p1) f.env v >>= fun _ => pure .next) := by
    show (PySem.standAt pos >>= fun _ => eval (.Tuple vs k2 p2) f.env >>= fun v => swappedStores [.Tuple ts k1 p1] (.Tuple vs k2 p2) f.env >>= fun sw => assignStores f.env v sw ((assignEach [.Tuple ts k1 p1] f.env).map (·.2))) = _
    rw [e2]
    rfl
  rw [e0]
  refine Snd.standAt h ?_
  refine Snd.bind (ok.expr h hA _) fun v st1 vv z1 s1 _ af1 pv => ?_
  refine Snd.bind (assignTo_sound hc ok (hA.after af1) af1.rel _ pv) fun _ st4 _ z4 s4 _ af4 _ => ?_
  exact Snd.pure af4.rel trivial
theorem stmtW_sound (hc : c.Ok) (ok : EOk c p n) (h : Rel c f kp z st s) (hA : AOk A f n st.md) (b : Stmt) : Snd c f kp A (exec b f.env) (stmtW c.K p b st) (FlR c.B) z st s := by
  unfold stmtW
  split
  · exact whileS_sound ok h hA _ _ _ _
  · exact forE_sound hc ok h hA _ _ _ _ _
  · refine Snd.ite (fun hs => ?_) fun _ => Snd.ite (fun q => ?_) fun _ => Snd.stuck
    · rename_i ts k1 p1 vs k2 p2 pos
      cases e : namesOf ts with
      | none => exact Snd.stuck
      | some xs => exact swapS_sound ok h hA _ _ _ _ _ _ _ _ hs e
    · rw [Bool.and_eq_true] at q
      exact assignT_sound hc ok h hA _ _ _ _ _ _ _ q.1 (by simpa using q.2)
  · exact stmtV_sound hc ok h hA _
end
end Mine
namespace Mine
open PySem PySem.W PySem.Calls PyProof.Rows
open PySem.Sem (wp)
def holdIds : List String := Builtin.Bytes.decodersThatHold ++ ["bytearray.__contains__", "bytearray.__mod__", "bytearray.__rmod__", "_struct.pack_into.held", "bytearray.find.held"]
def clnC : Code → Bool
  | .builtin id _ => !holdIds.contains id
  | _ => true
def Cl (Γ : Ctx) : Prop := clnC Γ.code = true ∧ ∀ x ∈ Γ.below, clnC x.1 = true
def wpN {α : Type} (M : Model) (A : Around) (t : Sem α) (Q : α → Shared → Prop) (s : Shared) : Prop :=
  ∀ Γ p, Γ.In A → Cl Γ → wp M Γ t (fun a _ s' => Q a s') (fun _ _ _ => False) p s
def codeN (M : Model) (A : Around) (c : Code) (R : Result → Shared → Prop) (s : Shared) : Prop :=
  ∀ Γ p, Γ.code = c → Γ.Below A → (∀ x ∈ Γ.below, clnC x.1 = true) → wpCode M Γ R p s
abbrev NoE : Value → Shared → Prop := fun _ _ => False
section
variable {α β : Type} {M : Model} {A : Around} {s : Shared}
theorem wpN_of {t : Sem α} {Q : α → Shared → Prop} (h : wpAny M A t Q NoE s) : wpN M A t Q s := fun Γ p hΓ _ => h Γ p hΓ
theorem wpN_pure {a : α} {Q : α → Shared → Prop} (h : Q a s) : wpN M A (pure a) Q s := fun _ _ _ _ => h
theorem wpN_mono {t : Sem α} {Q Q' : α → Shared → Prop} (h : wpN M A t Q s) (hQ : ∀ a s, Q a s → Q' a s) : wpN M A t Q' s :=
  fun Γ p hΓ hc => Sem.wp_mono M Γ t (fun a _ s => hQ a s) (fun _ _ _ x => x) p s (h Γ p hΓ hc)
theorem wpN_bind {m : Sem α} {f : α → Sem β} {Q : β → Shared → Prop} (h : wpN M A m (fun a s' => wpN M A (f a) Q s') s) : wpN M A (m >>= f) Q s := fun Γ p hΓ hc => by
  rw [Sem.wp_bind']
  exact Sem.wp_mono M Γ m (fun a p' s' h' => h' Γ p' hΓ hc) (fun _ _ _ h' => h') p s (h Γ p hΓ hc)
theorem wpN_pre {m : Sem α} {f : α → Sem β} {Q : β → Shared → Prop} (h : wpAny M A m (fun a s' => wpN M A (f a) Q s') NoE s) : wpN M A (m >>= f) Q s := wpN_bind (wpN_of h)
theorem wpN_holding {vs : List Value} {m : Sem α} {Q : α → Shared → Prop} (h : wpN M A m Q s) : wpN M A (holding vs m) Q s := fun Γ p hΓ hc => by rw [Sem.wp_holding]; exact h Γ p hΓ hc
theorem wpN_keep {vs : List Value} {m : Sem α} {Q : α → Shared → Prop} (h : wpN M A m Q s) : wpN M A (m.keep vs) Q s := fun Γ p hΓ hc => by rw [Sem.wp_keep]; exact h Γ p hΓ hc
theorem wpN_onRaise {m : Sem α} {k : Value → Sem Unit} {Q : α → Shared → Prop} (h : wpN M A m Q s) : wpN M A (m.onRaise k) Q s := fun Γ p hΓ hc => by
  rw [Sem.wp_onRaise]
  exact Sem.wp_mono M Γ m (fun _ _ _ h' => h') (fun _ _ _ h' => h'.elim) p s (h Γ p hΓ hc)
theorem wpN_attempt {m : Sem α} {Q : Except Value α → Shared → Prop} (h : wpN M A m (fun a => Q (.ok a)) s) : wpN M A m.attempt Q s := fun Γ p hΓ hc => by
  rw [Sem.wp_attempt]
  exact Sem.wp_mono M Γ m (fun _ _ _ h' => h') (fun _ _ _ h' => h'.elim) p s (h Γ p hΓ hc)
theorem Cl.enter {Γ : Ctx} (h : Cl Γ) {c : Code} {hd : Option Value} {p : Pos} : ∀ x ∈ (Γ.enter c hd p).below, clnC x.1 = true := fun x hx => by
  rcases List.mem_cons.mp hx with rfl | hx
  · exact h.1
  · exact h.2 x hx
theorem wpN_run {c : Code} {h : Option Value} {Q : Flow → Shared → Prop} (hc : codeN M (A.mark h) c (fun r s' => match r with | .ok f => Q f s' | .error _ => False) s) (hnb : h ≠ some byPass := by intro x; cases x) : wpN M A (run c h) Q s :=
  fun Γ p hΓ hcl => by
    rw [Sem.wp_run]
    exact wpCode_mono (fun r s' hr => by cases r <;> exact hr) (hc _ p rfl (hΓ.enter c h p hnb) hcl.enter)
abbrev wantsN (Q : Value → Shared → Prop) : Result → Shared → Prop := fun r s' => match r with | .ok (.ret v) => Q v s' | _ => False
theorem codeN_mono {c : Code} {R R' : Result → Shared → Prop} (h : codeN M A c R s) (hR : ∀ r s, R r s → R' r s) : codeN M A c R' s := fun Γ p hc hΓ hl => wpCode_mono hR (h Γ p hc hΓ hl)
theorem wpN_call {f : Value} {pos : List Value} {kw : List (Str × Value)} {Q : Value → Shared → Prop} (hc : codeN M A (.call f ⟨pos, kw⟩) (wantsN Q) s) : wpN M A (call f pos kw) Q s := fun Γ p hΓ hcl => by
  show wp M Γ (runValue _) _ _ p s
  rw [Sem.wp_runValue]
  refine wpCode_mono (fun r s' hr => ?_) (hc _ p rfl (hΓ.enter _ none p (by intro x; cases x)) hcl.enter)
  cases r with
  | error e => exact hr
  | ok fl => cases fl <;> exact hr
theorem codeN_of_tree {c : Code} {R : Result → Shared → Prop} (hcl : clnC c = true)
    (h : wpN M (A.under c) (M.den c) (fun fin s' => match fin with | .done f => R (.ok f) s' | .again c' => c'.quiet = true ∧ codeN M A c' R s') s) : codeN M A c R s := fun Γ p hc hΓ hl => by
  rw [wpCode_iff_wp, hc]
  refine Sem.wp_mono M Γ _ (fun fin p' s' h' => ?_) (fun _ _ _ h' => h'.elim) p s (h Γ p (hc ▸ hΓ.in) ⟨by rw [hc]; exact hcl, hl⟩)
  cases fin with
  | done f => exact h'
  | again c' => exact ⟨h'.1, h'.2 (Γ.goto c') p' rfl (hΓ.goto c') hl⟩
end
section
variable {prog : Program} {w : World} {A : Around} {s : Shared} {R : Result → Shared → Prop}
theorem codeN_func {body : List Stmt} {env : Env} (h : wpN (model prog w) (A.deeper env) (execs body env) (fun f s' => R (.ok (.ret (match f with | .ret v => v | _ => .none))) s') s) : codeN (model prog w) A (.func body env) R s := by
  refine codeN_of_tree rfl ?_
  show wpN _ (A.deeper env) (do point; match ← (execs body env).onRaise (leaving env) with | .ret v => PySem.ret v | _ => PySem.ret .none) _ s
  refine wpN_pre (wpAny_point (wpN_bind (wpN_onRaise (wpN_mono h fun f s' h' => ?_))))
  cases f <;> exact wpN_pure h'
theorem codeN_call_def {a : Addr} {o : Obj} {fd : FuncData} {body : List Stmt} {args : Args} {binds : List (Str × Value)}
    (hroom : A.depth < recursionLimit) (ho : s.heap.get? a = some o) (hdata : o.data = .func fd) (hlim : s.heap.NoLimit) (hcd : s.heap.CodeRec fd.code fd.qualname)
    (hbody : fd.body = .stmts body) (hbind : BindsTo s fd args binds)
    (hcell : ∀ x ∈ fd.scope.names, x.2 ≠ .cell) (hloc : ∀ x ∈ binds, fd.scope.names.lookup x.1 = some .local)
    (h : ∀ h₀, h₀.Ns s.heap.objs.size (fun x => binds.reverse.lookup x) → (∀ b o, s.heap.get? b = some o → h₀.get? b = some o) →
      wpN (model prog w) (A.deeper (callEnv fd s.heap.objs.size a)) (execs body (callEnv fd s.heap.objs.size a)) (fun f s' => R (.ok (.ret (match f with | .ret v => v | _ => .none))) s')
        { s with heap := h₀, toks := s.toks + binds.length })
    (hco : fd.scope.isCoroutine = false) (hgen : fd.scope.isGenerator = false) (hk : fd.scope.kind = .function) :
    codeN (model prog w) A (.call (.ref a) args) R s := by
  refine codeN_of_tree rfl ?_
  show wpN _ A.in1 (callAny (.ref a) args) _ s
  simp only [callAny]
  refine wpN_pre (wpAny_load ho ?_)
  obtain ⟨c, oc, vs, tq, hc, hoc, hdc, hq⟩ := hcd
  simp only [hdata, callFunction, hco, hgen, hbody, hc]
  refine wpN_pre (m := field (.ref c) 1) (wpAny_field hoc hdc hq (wpN_pre (wpAny_pure ?_)))
  refine wpN_pre (hbind _ _ _ _ (wpN_pre ?_))
  rw [← hc]
  refine wpAny_newFunctionEnv hcell hloc (fun h₀ hns hsb => ?_) hk
  refine wpN_pre (wpAny_enterFrame (hlim.fresh _ hsb) hroom (wpN_pure ⟨rfl, ?_⟩))
  exact codeN_func (h h₀ hns fun b o e => hsb.extBut b o (Nat.ne_of_lt (Heap.lt_size e)) (Heap.get?_push_of_some _ e))
theorem codeN_block {stmts : List Stmt} {env : Env} (h : wpN (model prog w) A (execs stmts env) (fun f s' => R (.ok f) s') s) : codeN (model prog w) A (.block stmts env) R s := by
  refine codeN_of_tree rfl ?_
  show wpN _ (A.under _) (do return Fin.done (← (execs stmts env).onRaise (fun x => do noteFrame x env; theTreesLotGoes x))) _ s
  exact wpN_bind (wpN_onRaise (wpN_mono h fun f s' h' => wpN_pure h'))
theorem codeN_forLoop {target it : _} {body orelse : List Stmt} {env : Env} (I : Nat → Shared → Prop)
    (turn : ∀ n s, I n s → wpAny (model prog w) A (pyNext it) (fun r s₁ => match r with
      | none => wpN (model prog w) A (execs orelse env) (fun f s₃ => R (.ok f) s₃) s₁
      | some v => wpAny (model prog w) A (letOwnedTupleGo target it v) (fun _ s₁' =>
          wpAny (model prog w) A (assign target env v) (fun _ s₂ => wpN (model prog w) A (execs body env) (fun f s₃ => match f with
            | .next | .cont => ∃ m, m < n ∧ I m s₃
            | .brk => R (.ok .next) s₃
            | .ret v => R (.ok (.ret v)) s₃) s₂) NoE s₁') NoE s₁) NoE s)
    (n : Nat) (h : I n s) : codeN (model prog w) A (.forLoop target it body orelse env) R s := by
  induction n using Nat.strongRecOn generalizing s with
  | ind n ih =>
    refine codeN_of_tree rfl ?_
    show wpN _ A ((forTurn target it body orelse env).onRaise (fun x => do noteFrame x env; theTreesLotGoes x)) _ s
    refine wpN_onRaise ?_
    simp only [forTurn]
    refine wpN_pre (wpAny_standAt (wpN_pre (wpAny_onRaise (wpAny_mono (turn n s h) (fun r s₁ h₁ => ?_) fun _ _ h' => h'.elim))))
    cases r with
    | none => exact wpN_pure ⟨rfl, codeN_block h₁⟩
    | some v =>
      refine wpN_pre (wpAny_mono h₁ (fun _ s₁' h₁' => ?_) fun _ _ h' => h')
      refine wpN_pre (wpAny_mono h₁' (fun _ s₂ h₂ => wpN_bind (wpN_mono h₂ fun f s₃ h₃ => ?_)) fun _ _ h' => h')
      cases f with
      | next => obtain ⟨m, hm, hI⟩ := h₃; exact wpN_pure ⟨rfl, ih m hm hI⟩
      | cont => obtain ⟨m, hm, hI⟩ := h₃; exact wpN_pure ⟨rfl, ih m hm hI⟩
      | brk => exact wpN_pure h₃
      | ret v => exact wpN_pure h₃
theorem wpN_runOwn {c : Code} {env : Env} {h : Option Value} {Q : Flow → Shared → Prop} (hc : codeN (model prog w) (A.mark h) c (fun r s' => match r with | .ok f => Q f s' | .error _ => False) s) (hnb : h ≠ some byPass := by intro x; cases x) : wpN (model prog w) A (runOwn c env h) Q s := by
  unfold runOwn
  exact wpN_onRaise (wpN_run hc hnb)
theorem wpN_tryStmt {env : Env} {body orelse : Sem Flow} {h₀ : ExceptHandler} {hs : List ExceptHandler} {Q : Flow → Shared → Prop}
    (h : wpN (model prog w) A body (fun f s₁ => match f with | .next => wpN (model prog w) A orelse Q s₁ | f => Q f s₁) s) : wpN (model prog w) A (tryStmt false body (h₀ :: hs) orelse [] env) Q s := by
  unfold tryStmt
  simp only [List.isEmpty_nil, if_true]
  refine wpN_bind (wpN_attempt (wpN_mono h fun f s₁ h₁ => ?_))
  cases f <;> first | exact h₁ | exact wpN_pure h₁
theorem callWithN_of {pos : Pos} {f : Value} {first : List Value} {Q : Value → Shared → Prop} {P : Heap → Prop} {args : List (Bool × Sem Value)} {keywords : List (Option Str × Sem Value)} (hplain : (args.any (·.1) || keywords.any (·.1.isNone)) = false)
    (hk : ∀ h, P h → ∃ k, (k = Keeper.frame ∨ k = Keeper.machine ∨ k = Keeper.boundFrame) ∧ Looks (model prog w) h (keeperOf f) k)
    (h : wpAny (model prog w) A (evalArgs f true args keywords) (fun a s₁ => P s₁.heap ∧ wpN (model prog w) A (call f (first ++ a.pos) a.kw) Q s₁) NoE s) : wpN (model prog w) A (callWith pos f first args keywords) Q s := by
  unfold callWith
  refine wpN_pre (wpAny_holding (wpAny_mono h (fun a s₁ h₁ => wpN_pre (wpAny_standAt ?_)) fun _ _ x => x))
  obtain ⟨k, hk', L⟩ := hk _ h₁.1
  simp only [hplain]
  refine wpN_pre (L.here ?_)
  have tail : ∀ {t : Sem Value}, wpN (model prog w) A t Q s₁ → wpN (model prog w) A (t >>= fun r => holding [r] point >>= fun _ => pure r) Q s₁ :=
    fun ht => wpN_bind (wpN_mono ht fun r s₂ hr => wpN_pre (wpAny_holding (wpAny_point (wpN_pure hr))))
  have marked (mk : Value) : wpN (model prog w) A (callMarked mk f (first ++ a.pos) a.kw) Q s₁ := by unfold callMarked; exact wpN_keep h₁.2
  rcases hk' with rfl | rfl | rfl <;> dsimp only <;> first | exact tail h₁.2 | (split <;> first | exact tail h₁.2 | exact tail (marked _))
end
end Mine
namespace Mine
open PySem PySem.W PySem.Calls PyProof.Rows
def SndN (c : Cx) (f : Fm) (kp : List Addr) (A : Around) {α β : Type} (t : Sem α) (r : R β) (P : Sit → Nat → β → α → Prop) (z : Sit) (st : St) (s : Shared) : Prop := match r with
  | .ok x st' => wpN (model c.prog c.w) A t (fun v s' => ∃ z', After c f kp z st s z' st' s' ∧ P z' st'.nxt x v) s
  | _ => True
def CodeN (c : Cx) (f : Fm) (kp : List Addr) (A : Around) (cd : Code) (r : R V) (z : Sit) (st : St) (s : Shared) : Prop := match r with
  | .ok x st' => codeN (model c.prog c.w) A cd (wantsN fun v s' => ∃ z', After c f kp z st s z' st' s' ∧ VR z'.ρ st'.nxt c.B x v) s
  | _ => True
structure Nv where
  stmt : Stmt → M Fl
  call : V → List V → List (Str × V) → M V
structure NOk (c : Cx) (q : Nv) (n : Nat) : Prop where
  stmt : ∀ {f kp A z st s}, Rel c f kp z st s → AOk A f n st.md → ∀ b, SndN c f kp A (exec b f.env) (q.stmt b st) (FlR c.B) z st s
  call : ∀ {f kp A z st s}, Rel c f kp z st s → AOk A f n st.md → ∀ {g gv args vs kw kws}, VR z.ρ st.nxt c.B g gv → VRs z.ρ st.nxt c.B args vs → KwR c.B z.ρ st.nxt kw kws → SndN c f kp A (PySem.call gv vs kws) (q.call g args kw st) (VP c.B) z st s
section
variable {c : Cx} {p : Ev} {q : Nv} {n : Nat} {f : Fm} {kp : List Addr} {A : Around} {z : Sit} {st : St} {s : Shared}
theorem SndN.of {α β : Type} {t : Sem α} {r : R β} {P : Sit → Nat → β → α → Prop} (h : Snd c f kp A t r P z st s) : SndN c f kp A t r P z st s := by
  cases r with
  | ok x st' => exact wpN_of h
  | _ => trivial
theorem SndN.stuck {α β : Type} {t : Sem α} {w : String} {P : Sit → Nat → β → α → Prop} : SndN c f kp A t (Mine.stuck (α := β) w st) P z st s := trivial
theorem SndN.bind {α β γ δ : Type} {t : Sem α} {g : α → Sem γ} {m : M β} {k : β → M δ} {P : Sit → Nat → β → α → Prop} {P' : Sit → Nat → δ → γ → Prop}
    (h1 : SndN c f kp A t (m st) P z st s)
    (h2 : ∀ x st' v z' s', m st = .ok x st' → After c f kp z st s z' st' s' → P z' st'.nxt x v → SndN c f kp A (g v) (k x st') P' z' st' s') :
    SndN c f kp A (t >>= g) (Mine.bind m k st) P' z st s := by
  unfold Mine.bind
  cases hm : m st with
  | stuck w => trivial
  | err cls fs st' => trivial
  | ok x st' =>
    rw [hm] at h1
    have key : ∀ v z' s', After c f kp z st s z' st' s' → P z' st'.nxt x v → SndN c f kp A (g v) (k x st') P' z' st' s' := fun v z' s' a p => h2 x st' v z' s' hm a p
    show SndN c f kp A (t >>= g) (k x st') P' z st s
    cases hk : k x st' with
    | stuck w => trivial
    | err cls fs st₂ => trivial
    | ok y st₂ =>
      refine wpN_bind (wpN_mono h1 fun v s₁ ⟨z', a, p⟩ => ?_)
      have := key v z' s₁ a p
      rw [hk] at this
      exact wpN_mono this fun u s₂ ⟨z₂, a₂, p₂⟩ => ⟨z₂, a.trans a₂, p₂⟩
theorem SndN.pre {α β γ : Type} {t : Sem γ} {g : γ → Sem α} {r : R β} {P : Sit → Nat → β → α → Prop} (R : γ → Shared → Prop)
    (h1 : wpAny (model c.prog c.w) A t R NoE s) (h2 : ∀ v s', R v s' → After c f kp z st s z st s' ∧ SndN c f kp A (g v) r P z st s') : SndN c f kp A (t >>= g) r P z st s := by
  cases r with
  | stuck w => trivial
  | err cls fs st' => trivial
  | ok x st' => exact wpN_pre (wpAny_mono h1 (fun v s' hr => wpN_mono (h2 v s' hr).2 fun u s₂ ⟨z₂, a₂, p₂⟩ => ⟨z₂, (h2 v s' hr).1.trans a₂, p₂⟩) fun _ _ h => h)
theorem SndN.standAt {α β : Type} {pos : Pos} {t : Sem α} {r : R β} {P : Sit → Nat → β → α → Prop} (hr : Rel c f kp z st s) (h : SndN c f kp A t r P z st s) : SndN c f kp A (PySem.standAt pos >>= fun _ => t) r P z st s :=
  SndN.pre (fun _ s' => s' = s) (wpAny_standAt rfl) fun _ s' e => by subst e; exact ⟨After.refl hr, h⟩
theorem SndN.ite {α β : Type} {t : Sem α} {b : Bool} {m m' : M β} {P : Sit → Nat → β → α → Prop} (h : b = true → SndN c f kp A t (m st) P z st s) (h' : b = false → SndN c f kp A t (m' st) P z st s) : SndN c f kp A t ((if b then m else m') st) P z st s := by
  cases b with
  | true => exact h rfl
  | false => exact h' rfl
theorem CodeN.call {g : Value} {us : List Value} {ks : List (Str × Value)} {r : R V} (h : CodeN c f kp A (.call g ⟨us, ks⟩) r z st s) : SndN c f kp A (PySem.call g us ks) r (VP c.B) z st s := by
  cases r with
  | ok x st' => exact wpN_call h
  | _ => trivial
end
def execN (q : Nv) : List Stmt → M Fl
  | [] => ret .next
  | b :: bs => bind (q.stmt b) fun fl => match fl with
    | .next => execN q bs
    | fl => ret fl
def callFnN (K : Frag) (q : Nv) (fd : FuncData) (args : List V) (kw : List (Str × V)) : M V := match enterFn K fd args kw with
  | some l => withLoc l (bind (execN q (bodyOf fd)) fun fl => ret (flV fl))
  | Option.none => stuck "arguments"
section
variable {c : Cx} {p : Ev} {q : Nv} {n : Nat} {f : Fm} {kp : List Addr} {A : Around} {z : Sit} {st : St} {s : Shared}
theorem execN_sound (ok : NOk c q n) : ∀ (bs : List Stmt) {z st s}, Rel c f kp z st s → AOk A f n st.md → SndN c f kp A (execs bs f.env) (execN q bs st) (FlR c.B) z st s
  | [], z, st, s, h, hA => SndN.of (Snd.pure h trivial)
  | b :: bs, z, st, s, h, hA => by
    show SndN c f kp A (exec b f.env >>= fun fl => match fl with | .next => execs bs f.env | fl => pure fl) (Mine.bind (q.stmt b) (fun fl => match fl with | .next => execN q bs | fl => ret fl) st) _ z st s
    refine SndN.bind (ok.stmt h hA b) fun x st1 v z1 s1 _ af1 pa => ?_
    cases x <;> cases v <;> first | exact pa.elim | skip
    · exact execN_sound ok bs af1.rel (hA.after af1)
    · exact SndN.of (Snd.pure af1.rel trivial)
    · exact SndN.of (Snd.pure af1.rel trivial)
    · exact SndN.of (Snd.pure af1.rel pa)
theorem fnN_code (hc : c.Ok) (ok : NOk c q n) (h : Rel c f kp z st s) (hA : AOk A f (n + 1) st.md) {a : Addr} {fd : FuncData} (hf : fnOf? c.K a = some fd) {args : List V} {us : List Value} {kw : List (Str × V)} {ks : List (Str × Value)} (hv : VRs z.ρ st.nxt c.B args us) (hk : KwR c.B z.ρ st.nxt kw ks) :
    CodeN c f kp A (.call (.ref a) ⟨us, ks⟩) (callFnN c.K q fd args kw st) z st s := by
  unfold callFnN
  cases el : enterFn c.K fd args kw with
  | none => trivial
  | some l =>
    obtain ⟨P, hbody, xs, bs, rfl, hbind, hxs, hloc⟩ := enterFn_sound hc h hv hk el
    have ho : ∃ o, s.heap.get? a = some o ∧ o.data = .func fd := by
      unfold fnOf? at hf
      split at hf
      · rename_i c1 d1 fd' sl e1
        cases hf
        exact ⟨_, h.inK hc _ _ e1, rfl⟩
      · cases hf
    obtain ⟨o, ho, hdata⟩ := ho
    have hlim : s.heap.NoLimit := hc.top.nolimit.keeps h.base
    have hcell : ∀ x ∈ fd.scope.names, x.2 ≠ .cell := fun x hx e => by
      rcases (P.names x hx).1 with q | q <;> (rw [e] at q; cases q)
    have hroom : A.depth < recursionLimit := by have := hA.depth; exact Nat.lt_of_lt_of_le (by omega : A.depth < 951) (by decide)
    have core : ∀ (R : Result → Shared → Prop), (∀ h₀ tk, (∀ b o, s.heap.get? b = some o → h₀.get? b = some o) → Rel c (calleeFm f fd s.heap.objs.size a) (f.own kp) z { st with loc := locOf xs fd.scope.names, md := { st.md with top := true } } { s with heap := h₀, toks := tk } →
        wpN (model c.prog c.w) (A.deeper (callEnv fd s.heap.objs.size a)) (execs (bodyOf fd) (callEnv fd s.heap.objs.size a)) (fun f s' => R (.ok (.ret (match f with | .ret v => v | _ => .none))) s')
        { s with heap := h₀, toks := tk }) → codeN (model c.prog c.w) A (.call (.ref a) ⟨us, ks⟩) R s := by
      intro R hR
      refine codeN_call_def hroom ho hdata hlim (codeRec_of (h.inK hc) P.code) hbody hbind hcell hloc (fun h₀ hn hkeep => hR h₀ _ hkeep ?_) P.co P.gen P.kind
      refine h.enter Sub.callee hn hkeep (fun hF => ?_) fun x hx => ?_
      · obtain ⟨o, es, ep, e1, e2, e3, e4⟩ := hn
        refine ⟨?_, ⟨s.heap.objs.size, o, rfl, (h.fresh (get?_size _)).base, e1, fun vs q => by rw [e2] at q; cases q⟩, hF⟩
        show fd.scope.kind ≠ .module
        rw [P.kind]
        exact fun e => by cases e
      have := look_locOf (binds := xs) hx P.names
      have hr := lookup_rel (All2.reverse hxs) x
      cases q : look (nid x) (locOf xs fd.scope.names) with
      | none => trivial
      | some sl =>
        rw [q] at this
        cases sl with
        | glob => exact this
        | cell _ _ => exact this.elim
        | unset => rw [this.2] at hr; exact ⟨this.1, hr⟩
        | val v =>
          rw [this.2] at hr
          obtain ⟨u, e1, e2⟩ := hr
          exact ⟨this.1, u, e1, e2⟩
    have hA' : AOk (A.deeper (callEnv fd s.heap.objs.size a)) (calleeFm f fd s.heap.objs.size a) n { st.md with top := true } := by
      refine ⟨?_, ?_, ?_, hA.handled, fun _ => ⟨f.stack, rfl, rfl⟩, ⟨P.kind, P.gl, P.bi⟩⟩
      · show (A.frames.map (callEnv fd s.heap.objs.size a :: ·)) = _
        rw [hA.frames]; rfl
      · have := hA.depth
        show A.depth + 1 + n ≤ 950
        omega
      · have := hA.units
        show A.units + 3 + 10 * n ≤ 9000
        omega
    show CodeN c f kp A (.call (.ref a) ⟨us, ks⟩) (withLoc (locOf xs fd.scope.names) (Mine.bind (execN q (bodyOf fd)) fun fl => ret (flV fl)) st) z st s
    unfold withLoc Mine.bind
    cases er : execN q (bodyOf fd) { st with loc := locOf xs fd.scope.names, md := { st.md with top := true } } with
    | stuck w => trivial
    | err cls fs st' => trivial
    | ok fl st' =>
      refine core _ fun h₀ tk hkeep hr => ?_
      have := execN_sound ok (bodyOf fd) hr hA'
      rw [er] at this
      refine wpN_mono this fun flo s' ⟨z', af, hf⟩ => ⟨z', After.leave Sub.callee h hkeep af, ?_⟩
      cases fl <;> cases flo <;> first | exact hf.elim | exact .none | exact hf
end
section
variable (K : Frag) (p : Ev) (q : Nv)
def barrNew (args : List V) : M V := match args with
  | [.bytes b] => if szOk b.length then alloc (.barr b) else stuck "long bytes"
  | _ => stuck "bytearray"
def callNV (g : V) (args : List V) (kw : List (Str × V)) : M V := match g with
  | .old a => (match fnOf? K a with
    | some fd => callFnN K q fd args kw
    | Option.none => stuck "callee")
  | .type T => if T = "bytearray" then (if kw.isEmpty then barrNew args else stuck "keywords") else stuck "callee"
  | _ => stuck "callee"
def callEN (e : Expr) : M V := match e with
  | .Call (.Attribute o name apos) args kws pos =>
    if notSuper o && args.all plainE && kws.all (·.arg.isSome) && decide (args.length + kws.length + 1 < 30) && apos.endLine == pos.line then
      bind (p.expr o) fun ov => bind (getMeth K ov name) fun m => if calleeOk K m.1 then argsThen p args kws (fun vs kw => q.call m.1 (m.2 ++ vs) kw) else stuck "callee"
    else stuck "a method's call of another form"
  | .Call (.Name x xp) args kws _ => bind (p.expr (.Name x xp)) fun g => if calleeOk K g && args.all plainE && kws.all (·.arg.isSome) then argsThen p args kws (fun vs kw => q.call g vs kw) else stuck "callee"
  | _ => stuck "not a call"
end
section
variable {c : Cx} {p : Ev} {q : Nv} {n : Nat} {f : Fm} {kp : List Addr} {A : Around} {z : Sit} {st : St} {s : Shared}
theorem SndN.under {α β γ δ : Type} {t : Sem α} {g : α → Sem γ} {T : Sem γ} {H : Shared → Prop} {m : M β} {k : β → M δ} {P : Sit → Nat → β → α → Prop} {P' : Sit → Nat → δ → γ → Prop}
    (W : ∀ (Q : γ → Shared → Prop), wpAny (model c.prog c.w) A t (fun a s₁ => H s₁ ∧ wpN (model c.prog c.w) A (g a) Q s₁) NoE s → wpN (model c.prog c.w) A T Q s)
    (h1 : Snd c f kp A t (m st) P z st s) (h2 : ∀ x st' v z' s', After c f kp z st s z' st' s' → P z' st'.nxt x v → H s' ∧ SndN c f kp A (g v) (k x st') P' z' st' s') :
    SndN c f kp A T (Mine.bind m k st) P' z st s := by
  unfold Mine.bind
  cases hm : m st with
  | stuck w => trivial
  | err cls fs st' => trivial
  | ok x st' =>
    rw [hm] at h1
    have key : ∀ v z' s', After c f kp z st s z' st' s' → P z' st'.nxt x v → H s' ∧ SndN c f kp A (g v) (k x st') P' z' st' s' := fun v z' s' a p => h2 x st' v z' s' a p
    show SndN c f kp A T (k x st') P' z st s
    cases hk : k x st' with
    | stuck w => trivial
    | err cls fs st₂ => trivial
    | ok y st₂ =>
      refine W _ (wpAny_mono h1 (fun v s₁ ⟨z', a, p⟩ => ?_) fun _ _ h => h.elim)
      have := key v z' s₁ a p
      rw [hk] at this
      exact ⟨this.1, wpN_mono this.2 fun u s₂ ⟨z₂, a₂, p₂⟩ => ⟨z₂, a.trans a₂, p₂⟩⟩
theorem SndN.under2 {α α' β β' γ δ : Type} {t : Sem α} {t' : α → Sem α'} {g : α → α' → Sem γ} {T : Sem γ} {H : Shared → Prop} {m : M β} {m' : β → M β'} {k : β → β' → M δ} {P : Sit → Nat → β → α → Prop} {P1 : Sit → Nat → β' → α' → Prop} {P' : Sit → Nat → δ → γ → Prop}
    (W : ∀ (Q : γ → Shared → Prop), wpAny (model c.prog c.w) A t (fun a s₁ => wpAny (model c.prog c.w) A (t' a) (fun b s₂ => H s₂ ∧ wpN (model c.prog c.w) A (g a b) Q s₂) NoE s₁) NoE s → wpN (model c.prog c.w) A T Q s)
    (h1 : Snd c f kp A t (m st) P z st s) (h2 : ∀ x st' v z' s', After c f kp z st s z' st' s' → P z' st'.nxt x v → Snd c f kp A (t' v) (m' x st') P1 z' st' s')
    (h3 : ∀ x v z1 n1 y u z' st' s', P z1 n1 x v → (∀ i, i < n1 → z'.ρ i = z1.ρ i) → n1 ≤ st'.nxt → After c f kp z st s z' st' s' → P1 z' st'.nxt y u → H s' ∧ SndN c f kp A (g v u) (k x y st') P' z' st' s') :
    SndN c f kp A T (Mine.bind m (fun x => Mine.bind (m' x) fun y => k x y) st) P' z st s := by
  unfold Mine.bind
  cases hm : m st with
  | stuck w => trivial
  | err cls fs st' => trivial
  | ok x st' =>
    rw [hm] at h1
    dsimp only
    cases hm' : m' x st' with
    | stuck w => trivial
    | err cls fs st₂ => trivial
    | ok y st₂ =>
      dsimp only
      have key : ∀ v z' s₁, After c f kp z st s z' st' s₁ → P z' st'.nxt x v → wpAny (model c.prog c.w) A (t' v) (fun b s₂ => ∃ z₂, After c f kp z' st' s₁ z₂ st₂ s₂ ∧ P1 z₂ st₂.nxt y b) NoE s₁ := fun v z' s₁ a p => by
        have := h2 x st' v z' s₁ a p
        rw [hm'] at this
        exact this
      show SndN c f kp A T (k x y st₂) P' z st s
      cases hk : k x y st₂ with
      | stuck w => trivial
      | err cls fs st₃ => trivial
      | ok w st₃ =>
        refine W _ (wpAny_mono h1 (fun v s₁ ⟨z', a, p⟩ => wpAny_mono (key v z' s₁ a p) (fun u s₂ ⟨z₂, a₂, p₂⟩ => ?_) fun _ _ h => h.elim) fun _ _ h => h.elim)
        have := h3 x v z' st'.nxt y u z₂ st₂ s₂ p (fun i hi => (a₂.same i hi).1) a₂.nxt (a.trans a₂) p₂
        rw [hk] at this
        exact ⟨this.1, wpN_mono this.2 fun u s₃ ⟨z₃, a₃, p₃⟩ => ⟨z₃, (a.trans a₂).trans a₃, p₃⟩⟩
theorem callWithN_sound (ok : EOk c p n) (h : Rel c f kp z st s) (hA : AOk A f n st.md) (pos : Pos) {gv : Value} {first : List Value} {args : List Expr} {kws : List Keyword} {k : List V → List (Str × V) → M V} {P : Heap → Prop}
    (hs : args.all plainE = true) (hw : kws.all (·.arg.isSome) = true) (hkeep : ∀ h, P h → ∃ k, (k = Keeper.frame ∨ k = Keeper.machine ∨ k = Keeper.boundFrame) ∧ Looks (model c.prog c.w) h (keeperOf gv) k)
    (hP : ∀ z' st' s', After c f kp z st s z' st' s' → P s'.heap)
    (hcall : ∀ vs kw us ks z' st' s', After c f kp z st s z' st' s' → VRs z'.ρ st'.nxt c.B vs us → KwR c.B z'.ρ st'.nxt kw ks → SndN c f kp A (PySem.call gv (first ++ us) ks) (k vs kw st') (VP c.B) z' st' s') :
    SndN c f kp A (callWith pos gv first (backTo pos (starEach args f.env)) (backToKw pos (keywordEach kws f.env))) (argsThen p args kws k st) (VP c.B) z st s := by
  have hall := kwAll pos f.env kws hw
  have hplain : ((backTo pos (starEach args f.env)).any (·.1) || (backToKw pos (keywordEach kws f.env)).any (·.1.isNone)) = false := by rw [noStar pos f.env args hs, kwNone pos f.env kws hw]; rfl
  cases args with
  | nil =>
    show SndN c f kp A _ (Mine.bind (evalKw p kws) (fun kw => k [] kw) st) _ z st s
    refine SndN.under (H := fun s => P s.heap) (t := evalAll ((backToKw pos (keywordEach kws f.env)).map (·.2))) (g := fun ks => PySem.call gv (first ++ []) ((kwNames pos kws f.env).zip ks)) (P := fun z m kw ks => KwR c.B z.ρ m kw ((kwNames pos kws f.env).zip ks))
      (fun Q hw => callWithN_of hplain hkeep (evalArgs_kw2_nil hall hw)) (evalKw_sound ok pos kws h hA) fun x st' v z' s' a hp => ⟨hP z' st' s' a, hcall [] x [] _ z' st' s' a .nil hp⟩
  | cons e rest =>
    have hs' := hs
    rw [List.all_cons, Bool.and_eq_true] at hs'
    refine SndN.under2 (H := fun s => P s.heap) (t := spliced (backTo pos (starEach (e :: rest) f.env))) (t' := fun _ => evalAll ((backToKw pos (keywordEach kws f.env)).map (·.2))) (g := fun us ks => PySem.call gv (first ++ us) ((kwNames pos kws f.env).zip ks))
      (m := evalL p (e :: rest)) (m' := fun _ => evalKw p kws) (k := k) (P := VsP c.B) (P1 := fun z m kw ks => KwR c.B z.ρ m kw ((kwNames pos kws f.env).zip ks)) ?_ (evalL_sound ok pos (e :: rest) h hA) (fun x st' v z' s' a _ => evalKw_sound ok pos kws a.rel (hA.after a)) ?_
    · intro Q hw
      exact callWithN_of hplain hkeep (evalArgs_kw2 hall hw (starEach_cons hs'.1 rest f.env))
    · intro x v z1 n1 y u z' st' s' hv hsame hn a hp
      exact ⟨hP z' st' s' a, hcall x y v _ z' st' s' a (VRs.mono hn hsame hv) hp⟩
theorem calleeOk_keeps {g : V} {gv : Value} {ρ : Nat → Addr} {m : Nat} (hok : calleeOk c.K g = true) (pg : VR ρ m c.B g gv) (hp : Heap) (X : c.K.In hp) : ∃ k, (k = Keeper.frame ∨ k = Keeper.machine ∨ k = Keeper.boundFrame) ∧ Looks (model c.prog c.w) hp (keeperOf gv) k := by
  cases g with
  | old a => rw [pg.inj_old]; exact keeps_K (K := c.K) (f := .ref a) hok hp X
  | type T => rw [pg.inj_type]; exact keeps_calleeT (fun a e => by cases e) hp
  | bi i => rw [pg.inj_bi]; exact keeps_calleeT (fun a e => by cases e) hp
  | _ => cases hok
theorem callEN_sound (hc : c.Ok) (ok : EOk c p n) (okq : NOk c q n) (h : Rel c f kp z st s) (hA : AOk A f n st.md) (e : Expr) : SndN c f kp A (eval e f.env) (callEN c.K p q e st) (VP c.B) z st s := by
  unfold callEN
  split
  · rename_i o name apos args kws pos
    refine SndN.ite (fun q => ?_) fun _ => SndN.stuck
    rw [Bool.and_eq_true, Bool.and_eq_true, Bool.and_eq_true, Bool.and_eq_true] at q
    obtain ⟨⟨⟨⟨q1, q2⟩, q3⟩, q4⟩, q5⟩ := q
    have few : methodCallForm (args.length + kws.length) (backTo pos (starEach args f.env)) (backToKw pos (keywordEach kws f.env)) = true := by
      unfold methodCallForm
      rw [noStar' pos f.env args q2, kwAll pos f.env kws q3, Bool.true_and, Bool.true_and]
      have q4 := of_decide_eq_true q4
      refine decide_eq_true ?_
      split <;> omega
    have e0 : eval (.Call (.Attribute o name apos) args kws pos) f.env = (eval o f.env >>= fun ov => PySem.standAt apos.atName >>= fun _ => PySem.holding [ov] (getMethod ov name (do return (← importBound o f.env).getD true)) >>= fun fx => callWith pos fx.1 fx.2 (backTo pos (starEach args f.env)) (backToKw pos (keywordEach kws f.env))) := by
      show (attributeBase o name f.env (eval o f.env) >>= fun ov => PySem.standAt apos.atName >>= fun _ => methodCall o name apos pos f.env ov (args.length + kws.length) (backTo pos (starEach args f.env)) (backToKw pos (keywordEach kws f.env))) = _
      rw [base_plain q1]
      congr 1
      funext ov
      congr 1
      funext _
      unfold methodCall calleeOf methodCallPos
      rw [few]
      simp only [if_true, Bool.not_true, Bool.false_or, q5, pure_bind]
    rw [e0]
    refine SndN.bind (SndN.of (ok.expr h hA o)) fun ov st1 va z1 s1 _ af1 pa => ?_
    refine SndN.standAt af1.rel ?_
    refine SndN.bind (SndN.of (Snd.holding (getMeth_sound hc af1.rel name _ pa))) fun m st2 mv z2 s2 _ af2 pm => ?_
    refine SndN.ite (fun hok => ?_) fun _ => SndN.stuck
    have hA2 := (hA.after af1).after af2
    exact callWithN_sound (P := fun h => c.K.In h) ok af2.rel hA2 pos q2 q3 (calleeOk_keeps hok pm.1) (fun z' st' s' a => a.rel.inK hc) fun vs kw us ks z' st' s' a hv hk => okq.call a.rel (hA2.after a) (a.vr pm.1) ((a.vrs pm.2).append hv) hk
  · rename_i x xp args kws pos
    show SndN c f kp A (eval (.Name x xp) f.env >>= fun g => callWith pos g [] (backTo pos (starEach args f.env)) (backToKw pos (keywordEach kws f.env))) _ _ z st s
    refine SndN.bind (SndN.of (ok.expr h hA _)) fun g st1 gv z1 s1 _ af1 pg => ?_
    refine SndN.ite (fun hok => ?_) fun _ => SndN.stuck
    rw [Bool.and_eq_true, Bool.and_eq_true] at hok
    obtain ⟨⟨hg, hs⟩, hw⟩ := hok
    have hA1 := hA.after af1
    exact callWithN_sound (P := fun h => c.K.In h) ok af1.rel hA1 pos hs hw (calleeOk_keeps hg pg) (fun z' st' s' a => a.rel.inK hc) fun vs kw us ks z' st' s' a hv hk => okq.call a.rel (hA1.after a) (a.vr pg) hv hk
  · exact SndN.stuck
end
end Mine
namespace Mine.BA
open PySem PySem.W PySem.Calls PyProof.Rows PySem.Spec
theorem mro : mroOf (.type "bytearray") = pure [.type "bytearray", .type "object"] := by rw [mroOf_type]; kernel_rfl
theorem lookup_new : typeLookup (.type "bytearray") "__new__" = pure (some (.builtin "bytearray.__new__")) := by rw [typeLookup_type, builtinLookup_eq_fast]; kernel_rfl
theorem sub_self : isSubtype (.type "bytearray") (.type "bytearray") = pure true := by rw [isSubtype_type]; kernel_rfl
theorem slot_init : PySem.Slot "bytearray" "__init__" "bytearray.__init__" :=
  .of (owner := "bytearray") (n := "__init__") (by rw [typeLookup_type, builtinLookup_eq_fast]; kernel_rfl) (by decide +kernel) (by decide +kernel) (by decide +kernel)
    (by first | exact .inl (by decide +kernel) | exact .inr (by decide +kernel)) (by rw [isSubtype_type]; kernel_rfl)
theorem called : TypeCalled "bytearray" "bytearray.__new__" "bytearray.__init__" :=
  ⟨by decide +kernel, by decide +kernel, ⟨_, _, mro⟩, madeBy_type mro lookup_new (by decide +kernel), by decide +kernel, sub_self, slot_init⟩
theorem typeCall (a : Value) : checkTypeCall "bytearray" ⟨[a], []⟩ = pure () := by kernel_rfl
theorem newCall (a : Value) : checkBuiltinCall "bytearray.__new__" ⟨[.type "bytearray", a], []⟩ = pure () := by kernel_rfl
theorem entry_new : entryFor table "bytearray.__new__" = some Builtin.«list.__new__» := entryFor_alias (id' := "list.__new__") (by rw [fastTable_eq_tree]; kernel_rfl) (by first | rfl | decide +kernel) (by decide +kernel) (by rw [fastTable_eq_tree]; kernel_rfl)
theorem entry_init : entryFor table "bytearray.__init__" = some Builtin.«bytearray.__init__» := by first | exact entryFor_of_tree (by kernel_rfl) | exact entryFor_of_fast (by kernel_rfl)
theorem plain_new : plainId "bytearray.__new__" = true := by decide +kernel
theorem args_init (a b : Value) : argsOk "bytearray.__init__" ⟨[a, b], []⟩ := by
  unfold argsOk; rw [signature?_of (id := "bytearray.__init__") (n := ['_', '_', 't', 'i', 'n', 'i', '_', '_']) (o := ['y', 'a', 'r', 'r', 'a', 'e', 't', 'y', 'b']) (by kernel_rfl) owner]; kernel_rfl
set_option maxRecDepth 1000000 in
set_option maxHeartbeats 4000000 in
theorem owner_new : ("bytearray.__new__".splitOn ".__new__").headD "" = "bytearray" := by simp +decide [String.splitOn, String.splitOnAux]
section
variable {prog : Program} {w : World} {A : Around} {E : Value → Shared → Prop} {s : Shared}
theorem code_new (a : Value) {Q₁ : Value → Shared → Prop} (h : Q₁ (.ref s.heap.objs.size) { s with heap := s.heap.push { cls := .type "bytearray", data := .bytearray #[] } }) :
    codeAny (model prog w) A (.call (.builtin "bytearray.__new__") ⟨[.type "bytearray", a], []⟩) (wants Q₁ E) s := by
  refine codeAny_of_tree ?_
  show wpAny _ A.in1 (do checkBuiltinCall "bytearray.__new__" ⟨[.type "bytearray", a], []⟩; again (.builtin "bytearray.__new__" ⟨[.type "bytearray", a], []⟩)) _ _ s
  refine wpAny_bind (wpAny_of_eq (newCall a) (wpAny_pure ⟨plainId_quiet plain_new _, codeAny_builtin_stack entry_new rfl fun p st => ?_⟩))
  rw [Around.under_plainId plain_new _]
  have hsub := sub_self
  have hown := owner_new
  obtain ⟨hp, g, d, tk, os⟩ := s
  simp only [hown]
  wp_walk
  exact h
theorem bindOpt (self v : Value) : Builtin.Bytes.bindOptional "bytearray.__init__" "bytearray" ["source", "encoding", "errors"] [v] [] = pure [some v, none, none] := by kernel_rfl
end
end Mine.BA
namespace Mine
open PySem PySem.W PySem.Calls PyProof.Rows
namespace BA
theorem rel_look : typeLookup (.type "bytearray") "__release_buffer__" = pure (some (.builtin "bytearray.__release_buffer__")) := by rw [typeLookup_type, builtinLookup_eq_fast]; kernel_rfl
theorem rel_ends : (!"bytearray.__release_buffer__".endsWith ("." ++ "__release_buffer__")) = false := by decide +kernel
theorem rel_drop : "bytearray.__release_buffer__".dropRight ("__release_buffer__".length + 1) = "bytearray" := by decide +kernel
theorem b_index : typeLookup (.type "bytes") "__index__" = pure none := by rw [typeLookup_type, builtinLookup_eq_fast]; kernel_rfl
theorem b_buffer : typeLookup (.type "bytes") "__buffer__" = pure (some (.builtin "bytes.__buffer__")) := by rw [typeLookup_type, builtinLookup_eq_fast]; kernel_rfl
section
variable {prog : Program} {w : World} {A : Around} {s : Shared}
theorem any_none {fn : Code × Pos → Bool} (hf : ∀ x : Code × Pos, clnC x.1 = true → fn x = false) : ∀ (l : List (Code × Pos)), (∀ x ∈ l, clnC x.1 = true) → l.any fn = false
  | [], _ => rfl
  | x :: l, h => by rw [List.any_cons, hf x (h x (.head _)), any_none hf l fun y hy => h y (.tail _ hy)]; rfl
theorem cln_id {id : String} {args : Args} (h : clnC (.builtin id args) = true) : holdIds.contains id = false := by
  have : (!holdIds.contains id) = true := h
  simpa using this
theorem cln_dec {id : String} {args : Args} (h : clnC (.builtin id args) = true) : Builtin.Bytes.decodersThatHold.contains id = false := by
  have e2 := cln_id h
  cases q : Builtin.Bytes.decodersThatHold.contains id with
  | false => rfl
  | true =>
    rw [List.contains_iff_mem] at q
    have : id ∈ holdIds := List.mem_append_left _ q
    rw [← List.contains_iff_mem, e2] at this
    cases this
theorem wpN_exported {self : Value} {Q : Bool → Shared → Prop} (h : Q false s) : wpN (model prog w) A (Builtin.Bytes.exported self) Q s := fun Γ p hΓ hc => by
  unfold Builtin.Bytes.exported
  rw [Sem.wp_bind']
  show Sem.wp _ Γ stack _ _ p s
  unfold stack
  rw [Sem.wp_stack]
  show Q _ s
  rw [any_none (l := (Γ.code, p) :: Γ.below) ?_ ?_]
  · exact h
  · intro x
    split
    · intro hx; exact absurd (cln_id hx) (by decide)
    · intro hx; exact absurd (cln_id hx) (by decide)
    · intro hx; exact absurd (cln_id hx) (by decide)
    · intro hx; exact absurd (cln_id hx) (by decide)
    · intro hx; exact absurd (cln_id hx) (by decide)
    · intro hx; rw [cln_dec hx, Bool.and_false]
    · intro hx; rfl
  · intro x hx
    rcases List.mem_cons.mp hx with rfl | hx
    · exact hc.1
    · exact hc.2 x hx
theorem wpAny_write {a : Addr} {b : Array UInt8} {fn : Array UInt8 → Array UInt8} {Q : Unit → Shared → Prop} {E : Value → Shared → Prop} (hl : s.heap.get? a = some (barrO b)) (hz : (fn b).size ≤ sizeLine)
    (h : ∀ h', h'.get? a = some (barrO (fn b)) → Heap.SameBut a s.heap h' → Q () { s with heap := h' }) : wpAny (model prog w) A (Builtin.Bytes.write (.ref a) fn) Q E s := by
  show wpAny _ _ (updateBytearray a fn) _ _ _
  unfold updateBytearray
  refine wpAny_bind (wpAny_load hl ?_)
  show wpAny _ _ (update a (Obj.mapBytearray fn) >>= fun _ => lookBehind a) _ _ _
  refine wpAny_bind (wpAny_update hl ?_)
  have e : (s.heap.update a (Obj.mapBytearray fn)).get? a = some (barrO (fn b)) := Heap.get?_update_self (Obj.mapBytearray fn) hl rfl
  refine wpAny_lookBehind e ?_ (h _ e (Heap.SameBut.update ..))
  show (if (fn b).size > sizeLine then some "bytearray:memory" else none) = none
  rw [if_neg (Nat.not_lt.mpr hz)]
set_option maxHeartbeats 4000000 in
theorem init_run {a : Addr} {b : Array UInt8} {t : Tok} {P : PySem.Fin → Shared → Prop} (hz : b.size ≤ sizeLine) (hl : s.heap.get? a = some (barrO #[]))
    (h : ∀ h', h'.get? a = some (barrO b) → Heap.SameBut a s.heap h' → P (.done (.ret .none)) { s with heap := h' }) :
    wpN (model prog w) A (Builtin.«bytearray.__init__» ⟨[.ref a, .bytes b t], []⟩) P s := by
  obtain ⟨hp, g, d, tk, os⟩ := s
  have f1 := rel_look
  have f2 := sub_self
  have f3 := b_index
  have f4 := b_buffer
  have f5 := bindOpt (.ref a) (.bytes b t)
  show wpN _ _ (Builtin.Bytes.ownRelease (.ref a) >>= _) _ _
  refine wpN_pre (Q := P) (m := Builtin.Bytes.ownRelease (.ref a)) ?_
  have hown : wpAny (model prog w) A (Builtin.Bytes.ownRelease (.ref a)) (fun r s' => r = false ∧ s' = (⟨hp, g, d, tk, os⟩ : Shared)) NoE ⟨hp, g, d, tk, os⟩ := by
    unfold Builtin.Bytes.ownRelease
    wp_walk using loadPart' hl
    rw [rel_ends, rel_drop, if_neg Bool.false_ne_true]
    wp_walk using loadPart' hl
    exact ⟨rfl, rfl⟩
  refine wpAny_mono hown (fun r s' e => ?_) fun _ _ x => x
  obtain ⟨rfl, rfl⟩ := e
  show wpN _ _ (Builtin.Bytes.bindOptional "bytearray.__init__" "bytearray" ["source", "encoding", "errors"] [Value.bytes b t] [] >>= _) _ _
  rw [f5]
  refine wpN_pre (wpAny_pure ?_)
  refine wpN_pre (m := Builtin.Bytes.checkCodecArg "bytearray.__init__" "bytearray" "encoding" none) (wpAny_pure ?_)
  refine wpN_pre (m := Builtin.Bytes.checkCodecArg "bytearray.__init__" "bytearray" "errors" none) (wpAny_pure ?_)
  refine wpN_bind (m := (Builtin.Bytes.exported (.ref a) <||> _)) ?_
  refine wpN_bind (m := Builtin.Bytes.exported (.ref a)) (wpN_exported ?_)
  refine wpN_of ?_
  show wpAny _ _ (Builtin.Bytes.exportsOf (.ref a) >>= fun n => pure (decide (n > 0))) _ _ _
  unfold Builtin.Bytes.exportsOf
  refine wpAny_bind (wpAny_bind (wpAny_load hl (wpAny_pure (wpAny_pure ?_))))
  show wpN _ _ (Builtin.Bytes.write (.ref a) (fun _ => #[]) >>= _) _ _
  refine wpN_of ?_
  refine wpAny_bind (wpAny_write hl (Nat.zero_le _) fun h' hl' hs' => ?_)
  clear hown
  have bs : Heap.SameBut a hp h' := hs'
  clear hs' hl
  replace hl' : h'.get? a = some (barrO #[]) := hl'
  have f6 : isSubtype (.type "bytes") (.type "bytes") = pure true := F.bm_sub
  have f7 : (!"bytes.__buffer__".endsWith ("." ++ "__buffer__")) = false := by decide +kernel
  have f8 : "bytes.__buffer__".dropRight ("__buffer__".length + 1) = "bytes" := by decide +kernel
  have f9 : typeLookup (.type "bytes") "__release_buffer__" = pure none := by rw [typeLookup_type, builtinLookup_eq_fast]; kernel_rfl
  wp_walk using loadPart' hl'
  rw [f7, f8, if_neg Bool.false_ne_true]
  wp_walk using loadPart' hl'
  have e1 : (Obj.mapBytearray (fun _ => b) (barrO #[])).data.pastItsLine = none := by
    show (if b.size > sizeLine then some "bytearray:memory" else none) = none
    rw [if_neg (Nat.not_lt.mpr hz)]
  rw [e1]
  have up := Heap.SameBut.update h' a (Obj.mapBytearray fun _ => b)
  exact wpAny_pure (wpAny_pure (h _ (Heap.get?_update_self (Obj.mapBytearray fun _ => b) hl' rfl) ⟨up.1.trans bs.1, fun x hx => (up.2 x hx).trans (bs.2 x hx)⟩))
end
end BA
end Mine
namespace Mine
open PySem PySem.W PySem.Calls PyProof.Rows
theorem cln_of {id : String} {args : Args} (h : holdIds.contains id = false) : clnC (.builtin id args) = true := by
  show (!holdIds.contains id) = true
  rw [h]; rfl
theorem codeN_builtin {prog : Program} {w : World} {A : Around} {s : Shared} {R : Result → Shared → Prop} {id : String} {args : Args} {b : Builtin} (hcl : holdIds.contains id = false) (hb : entryFor table id = some b)
    (h : wpN (model prog w) (A.under (.builtin id args)) (b args) (fun fin s' => match fin with | .done f => R (.ok f) s' | .again c' => c'.quiet = true ∧ codeN (model prog w) A c' R s') s) :
    codeN (model prog w) A (.builtin id args) R s := by
  refine codeN_of_tree (cln_of hcl) ?_
  show wpN _ _ (match entryFor table id with | some b => b args | none => unsupported ((withoutEnding? id "#data").getD id)) _ _
  rw [hb]; exact h
namespace BA
section
variable {prog : Program} {w : World} {A : Around} {s : Shared}
theorem init_code {a : Addr} {b : Array UInt8} {t : Tok} {Q : Value → Shared → Prop} (hz : b.size ≤ sizeLine) (hl : s.heap.get? a = some (barrO #[]))
    (h : ∀ h', h'.get? a = some (barrO b) → Heap.SameBut a s.heap h' → Q .none { s with heap := h' }) :
    codeN (model prog w) A (.call (.builtin "bytearray.__init__") ⟨[.ref a, .bytes b t], []⟩) (wantsN Q) s := by
  refine codeN_of_tree rfl ?_
  show wpN _ A.in1 (do checkBuiltinCall "bytearray.__init__" ⟨[.ref a, .bytes b t], []⟩; again (.builtin "bytearray.__init__" ⟨[.ref a, .bytes b t], []⟩)) _ s
  have hT : s.TypeIs (.ref a) "bytearray" := ⟨_, hl, rfl⟩
  refine wpN_pre (slot_init.check _ _ _ _ _ _ _ _ hT (args_init _ _) ?_)
  refine wpN_pure ⟨plainId_quiet slot_init.plain _, codeN_builtin (by decide +kernel) entry_init ?_⟩
  exact init_run hz hl fun h' e hs => h h' e hs
theorem tc_eq (v : Value) : Builtin.«type.__call__» ⟨[.type "bytearray", v], []⟩ = holding [.builtin "bytearray.__new__"] (call (.builtin "bytearray.__new__") [.type "bytearray", v] []) >>= fun obj => isInstance obj (.type "bytearray") >>= fun b => if (!b) = true then (do rule "type.call.new-gave-other-type"; PySem.ret obj) else holding [obj] (callSpecial? obj "__init__" [v] []) >>= fun r => (match r with
    | none => PySem.ret obj
    | some r => if (r != Value.none) = true then (do
        rule "type.call.init-returned-value"
        let n ← PySem.typeNameOf r
        raiseError "TypeError" s!"__init__() should return None, not '{n}'"
        PySem.ret obj) else PySem.ret obj) := by
  have h1 := called.notType
  have h2 := called.canCreate
  have h3 := mro
  have h4 := called.made
  have h5 := typeCall v
  unfold Builtin.«type.__call__»
  simp only [h1, h2, h5, h3, h4, pure_bind, Bool.false_eq_true, if_false, List.isEmpty_cons]
  rfl
theorem barr_call {b : List UInt8} {t : Tok} {Q : Value → Shared → Prop} (hz : b.length ≤ sizeLine)
    (h : ∀ h', h'.get? s.heap.objs.size = some (barrO b.toArray) → (∀ x o, s.heap.get? x = some o → h'.get? x = some o) → Q (.ref s.heap.objs.size) { s with heap := h' }) :
    codeN (model prog w) A (.call (.type "bytearray") ⟨[.bytes b.toArray t], []⟩) (wantsN Q) s := by
  refine codeN_of_tree rfl ?_
  show wpN _ _ (callAny (.type "bytearray") _) _ _
  refine wpN_pure ⟨Code.quiet_builtin _ (by decide +kernel), codeN_builtin (by decide +kernel) F.entry_type_call ?_⟩
  rw [tc_eq]
  refine wpN_pre (wpAny_holding (wpAny_call (codeAny_mono (code_new (Q₁ := fun v s' => v = .ref s.heap.objs.size ∧ s' = { s with heap := s.heap.push (barrO #[]) }) (E := NoE) _ ⟨rfl, rfl⟩) fun r s' hr => ?_)))
  cases r with
  | error e => exact hr
  | ok fl =>
    cases fl <;> try exact hr.elim
    obtain ⟨rfl, rfl⟩ := hr
    have hl : (s.heap.push (barrO #[])).get? s.heap.objs.size = some (barrO #[]) := Heap.get?_push_size _ rfl
    refine wpN_pre (wpAny_isInstance (T := "bytearray") (b := true) ⟨_, hl, rfl⟩ sub_self ?_)
    rw [if_neg (by simp)]
    refine wpN_bind (wpN_holding ?_)
    unfold callSpecial?
    refine wpN_pre (wpAny_specialOf (T := "bytearray") ⟨_, hl, rfl⟩ slot_init.lookup ?_)
    dsimp only
    refine wpN_holding ?_
    rw [slot_init.bind, pure_bind]
    refine wpN_bind (wpN_call ?_)
    refine codeN_mono (init_code (s := { s with heap := s.heap.push (barrO #[]) }) (Q := fun v s' => v = .none ∧ ∃ h', s' = { s with heap := h' } ∧ h'.get? s.heap.objs.size = some (barrO b.toArray) ∧ (∀ x o, s.heap.get? x = some o → h'.get? x = some o)) (by simpa using hz) hl fun h' e hs => ⟨rfl, h', rfl, e, fun x o ex => ?_⟩) fun r s' hr => ?_
    · exact (hs.2 x (Nat.ne_of_lt (Heap.lt_size ex))).trans (Heap.get?_push_of_some _ ex)
    · cases r with
      | error e => exact hr
      | ok fl =>
        cases fl <;> try exact hr.elim
        obtain ⟨rfl, h', rfl, e, k⟩ := hr
        refine wpN_pure ?_
        show wpN _ _ (if (Value.none != Value.none) = true then _ else _) _ _
        rw [if_neg (by simp)]
        exact wpN_pure (h h' e k)
end
end BA
end Mine
namespace Mine
open PySem PySem.W PySem.Calls PyProof.Rows
open PySem.Sem (wp)
theorem caller_clean : Cl (⟨.builtin "claim.caller" {}, none, none, [], none⟩ : Ctx) := ⟨by decide +kernel, fun x hx => by cases hx⟩
theorem thread_N {prog : Program} {w : World} {t : Sem PySem.Fin} {s : Shared} {R : Result → Shared → Prop} (hreg : s.asleep)
    (h : wpN (model prog w) callerA t (fun fin s' => ∃ f, fin = .done f ∧ (R (.ok f) s' ∧ leftWithCleanup s'.gens = false)) s) :
    ∃ n r s' s'', runN (denote table) prog w n s ⟨t, .builtin "claim.caller" {}, default, []⟩ = .halted (outcomeOf r) s' ∧
      schedN (denote table) prog w n (.single s ⟨t, .builtin "claim.caller" {}, default, []⟩) = .halted (outcomeOf r) s' ∧ s'.forget = s''.forget ∧ R r s'' := by
  have hw : wp (model prog w) ⟨.builtin "claim.caller" {}, none, none, [], none⟩ t (Sem.finPost (model prog w) ⟨.builtin "claim.caller" {}, none, none, [], none⟩ fun r s' => R r s' ∧ leftWithCleanup s'.gens = false) (fun e _ s' => R (.error e) s' ∧ leftWithCleanup s'.gens = false) default s := by
    refine Sem.wp_mono _ _ t (fun fin p' s' h' => ?_) (fun _ _ _ h' => h'.elim) default s (h _ default caller_in caller_clean)
    obtain ⟨f, rfl, hf⟩ := h'
    exact hf
  obtain ⟨n, r, s₁, s₂, hs, hn, hfo, hR⟩ := wp_halts_full (M := model prog w) (R := R) hreg hw
  exact ⟨n, r, s₂, s₁, hn, hs, hfo, hR⟩
theorem callFrom_N {c : ClaimW} {tree : List Value → Sem PySem.Fin} {w : World} {s : Shared} {free : Addr → Prop} {gens : Prop} {kept : Heap → Prop} (hz : s.asleep) (hgens : s.gens = #[])
    (hspec : ∀ args, c.pre args = true → WData.layableAll args = true → ∀ ord : List DictEntry → List DictEntry, (∀ l, (ord l).Perm l) →
      ∃ vs s₁, layAllW c.records (classAt s.heap) w.params ord args s = some (vs, s₁) ∧
        wpN (model c.prog w) callerA (tree vs) (fun fin s' => ∃ f, fin = .done f ∧ (c.Ends s args vs s₁ (.ok f) s' ∧ s'.os = s.os ∧ AllBare s'.gens ∧ kept s'.heap)) s₁) :
    c.CallFrom (fun vs => ⟨tree vs, .builtin "claim.caller" {}, default, []⟩) w free gens kept s := by
  intro args hpre hlay ord hord
  obtain ⟨vs, s₁, hlaid, hcode⟩ := hspec args hpre hlay ord hord
  have hal := layAllW_rest _ _ _ hlaid
  obtain ⟨k, r, s', s'', hrun, hsched, hfo, hcase, hos, hkp⟩ := thread_N (prog := c.prog) (w := w) (t := tree vs) (s := s₁)
    (R := fun r s' => c.Ends s args vs s₁ r s' ∧ s'.os = s.os ∧ kept s'.heap) (Shared.asleep_of_life hal.2.2.2 hz)
    (wpN_mono hcode (by
      rintro fin s' ⟨f, e, h1, h2, h3, h4⟩
      exact ⟨f, e, ⟨h1, h2, h4⟩, leftWithCleanup_false_of_bare h3⟩))
  obtain ⟨eh, _, _, eo, _⟩ := Shared.forget_eq hfo
  have hcase := hcase.congr eh
  have hkp : kept s'.heap := by rw [eh]; exact hkp
  rw [← eo] at hos
  have hlife : s'.heap.life = s.heap.life := (runN_life _ _ _ hrun).trans hal.2.2.2
  refine ⟨vs, s₁, hlaid, k, _, s', hsched, ?_, (fun _ i x hx => by rw [hgens] at hx; simp at hx), hkp, by rw [hlife], Shared.rest_eq hos⟩
  rcases hcase with ⟨v, rfl, d1, d2, d3, d4, d5⟩ | ⟨e, ob, cls, rfl, d1, d2, d3, d4, d5⟩
  · exact .inl ⟨v, rfl, d1, d2, d3, fun b o y _ => d4 b o y, d5⟩
  · exact .inr ⟨e, ob, cls, rfl, d1, d2, d3, d4, fun b o y _ => d5 b o y⟩
def WalkC (q : Program) (loose : List Str) (XP : (Str → Option Value) → Heap → Prop) (YP : World → Heap → Prop) (r : RowW) (d : DefRec) (kwd : List (Str × Expr)) : Prop :=
  ∀ (w : World) (s₀ s₁ : Shared) (mg mb : Str → Option Value), Ground q loose r.records XP w s₀ mg mb s₁.heap → YP w s₁.heap → ∀ (a : Addr) (o : Obj) (pm cd doc dV kV : Value), s₁.heap.get? a = some o →
    o.data = .func { docDef d.name d.params d.body d.scope pm cd doc with defaults := dV, kwdefaults := kV } → mg d.name = some (.ref a) → s₁.gens = #[] → sysModules < s₀.heap.objs.size →
    ∀ (args : List WData) (vals : List Value) (as : List Addr), r.claim.pre args = true → WData.layableAll args = true → Laid r.records w s₀ s₁ args vals as →
      wpN (model r.prog w) callerA (PySem.call (.ref a) vals) (fun v s' => GoodWG r.claim (classAt s₀.heap) (ExcName.means s₀.heap) args s₁ (.ok (.ret v)) s') s₁
theorem holds_N {r : OpenRow} {q : Program} {loose : List Str} {Xt : Shared → Bool} {XP : (Str → Option Value) → Heap → Prop} {α : Type} {Yf : Shared → α} {Ya : World → α} {YP : World → Heap → Prop} {d : DefRec} {kwd : List (Str × Expr)} {N : Nat}
    (left : LeftO r.prog q loose Xt Yf Ya N) (hY : ∀ w s, Yf s = Ya w → YP w s.heap) (hYk : ∀ w h h', YP w h → (∀ b o, h.get? b = some o → h'.get? b = some o) → YP w h')
    (hX : ∀ s, Xt s = true → XP (s.heap.nsMap mainGlobals) s.heap) (hXk : ∀ mg h h', XP mg h → (∀ b o, h.get? b = some o → h'.get? b = some o) → XP mg h')
    (hdef : defOf q r.name = some (d, kwd)) (hp : r.prog.theDef r.name = some (d.params, d.body, d.scope)) (hk : kwWritten? d.params.kwonlyargs d.params.kw_defaults = some kwd) (hRf : ∀ s, Xt s = true → RecFacts r.records s.heap) (hwr : (!r.writes || r.records.isEmpty) = true)
    (k1 : r.wellSaid = true) (ok : (chainsOk q && opensWell r.prog && (frees r.toRowW && r.within.isEmpty)) = true) (hb : r.prog.bare) (hw : r.toRowW.promised)
    (call : WalkC q loose XP YP r.toRowW d kwd) : r.Holds := by
  obtain ⟨ok, k5⟩ := Bool.and_eq_true_iff.mp ok
  obtain ⟨hch, o1⟩ := Bool.and_eq_true_iff.mp ok
  obtain ⟨k5, k6⟩ := Bool.and_eq_true_iff.mp k5
  obtain ⟨hsame, hu, ha, hap, hm⟩ := frees_parts k5
  refine ⟨k1, hw, ?_⟩
  show r.toRowW.claim.HoldsOpenBy (fun vs => ⟨do match ← nsGet mainNs r.name with
      | some f => do PySem.ret (← PySem.call f vs)
      | none => unsupported "claim.caller:no-such-global", .builtin "claim.caller" {}, default, []⟩) (if r.pinned then [r.name] else []) r.keeps r.writes
  refine ⟨⟨hb, o1, by show r.makers.map _ = []; rw [hm]; rfl⟩, hw.witness, fun w => ⟨(left.behind hX hch w).1, fun s' hs' => ?_⟩⟩
  obtain ⟨s₀, hf, hg0, s, hT, hz, hgens, hg, G00, y⟩ := (left.behind (XP := fun mg h => XP mg h ∧ RecFacts r.records h) (fun s hs => ⟨hX s hs, hRf s hs⟩) hch w).2 s' hs'
  have G0 : Ground q loose [] XP w s (s.heap.nsMap mainGlobals) (s.heap.nsMap builtinsNs) s.heap := ⟨G00.T, G00.B, G00.D, G00.TE, G00.TD, G00.W, G00.X.1, G00.cls, G00.has, G00.apart, G00.once, G00.K⟩
  have RF := G00.X.2
  have hT' := hT
  refine ⟨s₀, hf, hg0, s, hT, fun n hn => ?_, RF.1, RF.2.1, ?_⟩
  · obtain rfl : n = r.name := by split at hn <;> simp_all
    exact pinned_of_view hg G0 hdef hp hk
  have hgens : s.gens = #[] := Array.eq_empty_of_size_eq_zero (beq_iff_eq.mp hgens)
  have G : Ground q loose r.records XP w s _ _ s.heap := RF.ground G0
  refine callFrom_N (c := r.toRowW.claim) hz hgens fun args hpre hlay ord hord => ?_
  obtain ⟨⟨vs, s₁⟩, hlaid⟩ := Option.isSome_iff_exists.mp (layAllW_isSome (P := w.params) (ord := ord) G.has args r.args s (pre_splitW hpre).1)
  have keeps := layAllW_keeps _ _ _ hlaid
  have hal := layAllW_rest _ _ _ hlaid
  obtain ⟨as, hrd, hin, hold⟩ := reads_layAllW hord _ _ _ hlaid hlay s₁.heap (fun _ _ e => e)
  have L : Laid r.records w s s₁ args vs as := ⟨⟨ord, hord, hlaid⟩, hrd, hin, hold, keeps, hal.1.trans hgens, hal.2.2.1⟩
  have G₁ := G.keeps hXk keeps
  obtain ⟨a, o, pm, cd, doc, dV, kV, h1, h2, h3, h4, h5⟩ := G₁.fn hdef
  have hc := call w s s₁ _ _ G₁ (hYk _ _ _ (hY w s y) keeps) a o pm cd doc dV kV h2 h3 (defOf_name hdef ▸ h1) L.gens G.low args vs as hpre hlay L
  have hi := ident_freeW hu ha hap
  have hwi : r.toRowW.claim.within = [] := List.isEmpty_iff.mp k6
  refine ⟨vs, s₁, hlaid, wpN_pre (wpAny_nsGet G₁.T.g ?_)⟩
  rw [h1]
  refine wpN_bind (wpN_mono hc fun v s' g => wpN_pure ⟨_, rfl, ?_⟩)
  have z := g.laid (c := r.toRowW.claim) hsame hwi hi L
  exact ⟨z.1, z.2.1, z.2.2, fun q => ⟨namesKept_of hT' hg _ keeps g.2.1.old, noTable hwr q⟩⟩
end Mine
namespace Mine
open PySem PySem.W PySem.Calls PyProof.Rows
section
variable (K : Frag) (p : Ev) (q : Nv)
def forLN (gd : St → Bool) (mk : Nat → V → St → V × St) (t : Expr) (body orelse : List Stmt) : Nat → List V → M Fl
  | _, [] => execL p orelse
  | k, x :: r => fun s => bind (assignTo K p t (mk k x s).1) (fun _ => bind (execN q body) fun fl => match fl with
    | .brk => ret .next
    | .ret w => ret (.ret w)
    | _ => fun s' => if gd s' then forLN gd mk t body orelse (k + 1) r s' else .stuck "loop") (mk k x s).2
def loopN (t : Expr) (body orelse : List Stmt) (v : V) : M Fl := match v with
  | .ref r => calm (bind (getO r) fun o => match o with
    | .list vs => forLN K p q (still r (.list vs)) plainMk t body orelse 0 vs
    | .tup vs => forLN K p q (still r (.tup vs)) plainMk t body orelse 0 vs
    | .rng a b c => if Builtin.Range.small a b c then forLN K p q (fun _ => true) plainMk t body orelse 0 (rngL a b c) else stuck "long range"
    | _ => stuck "loop")
  | _ => stuck "loop"
def loopEnum (t : Expr) (body orelse : List Stmt) (v : V) : M Fl := match v with
  | .ref r => calm (bind (getO r) fun o => match o with
    | .list vs => forLN K p q (still r (.list vs)) enumMk t body orelse 0 vs
    | _ => stuck "loop")
  | _ => stuck "loop"
def forN (t it : Expr) (body orelse : List Stmt) : M Fl := match it with
  | .Call (.Name x xp) [e] [] _ => if x = ("enumerate" : Str) then (if isTupT t && plainE e then bind (p.expr (.Name x xp)) fun g => (match g with
      | .type T => if T = "enumerate" then bind (p.expr e) fun v => loopEnum K p q t body orelse v else stuck "enumerate"
      | _ => stuck "enumerate") else stuck "enumerate") else bind (p.expr it) fun v => loopN K p q t body orelse v
  | it => if notSet it then bind (p.expr it) fun v => loopN K p q t body orelse v else stuck "loop over a set"
end
section
variable {c : Cx} {p : Ev} {q : Nv} {n : Nat} {f : Fm} {kp : List Addr} {A : Around} {z : Sit} {st : St} {s : Shared}
theorem Rel.dropL : ∀ {hs : List Addr}, Rel c f (hs ++ kp) z st s → Rel c f kp z st s
  | [], h => h
  | _ :: _, h => Rel.dropL h.drop
theorem After.dropL {z' : Sit} {st' : St} {s' : Shared} : ∀ {hs : List Addr}, After c f (hs ++ kp) z st s z' st' s' → After c f kp z st s z' st' s'
  | [], h => h
  | _ :: _, h => After.dropL h.drop
structure SrcN (c : Cx) (f : Fm) (kp : List Addr) (A : Around) (ρ₀ : Nat → Addr) (m₀ : Nat) (it : Addr) (hs : List Addr) (t : Expr) (gd : St → Bool) (mk : Nat → V → St → V × St) (items : List V) (I : Nat → Heap → Prop) : Prop where
  stay : ∀ k h h', I k h → (∀ b ∈ hs ++ kp, ∀ o, h.get? b = some o → h'.get? b = some o) → I k h'
  next : ∀ {k x z st s}, m₀ ≤ st.nxt → (∀ i, i < m₀ → z.ρ i = ρ₀ i) → items[k]? = some x → Rel c f (hs ++ kp) z st s → gd st = true → I k s.heap → wpAny (model c.prog c.w) A (pyNext (.ref it)) (fun r s₁ => ∃ v, r = some v ∧ wpAny (model c.prog c.w) A (letOwnedTupleGo t (.ref it) v)
    (fun _ s₂ => ∃ z', After c f kp z st s z' (mk k x st).2 s₂ ∧ Rel c f (hs ++ kp) z' (mk k x st).2 s₂ ∧ VR z'.ρ (mk k x st).2.nxt c.B (mk k x st).1 v ∧ I (k + 1) s₂.heap) (fun _ _ => False) s₁) (fun _ _ => False) s
  stop : ∀ {k z st s}, m₀ ≤ st.nxt → (∀ i, i < m₀ → z.ρ i = ρ₀ i) → items[k]? = none → Rel c f (hs ++ kp) z st s → gd st = true → I k s.heap → A.handled = none → wpAny (model c.prog c.w) A (pyNext (.ref it)) (fun r s₁ => r = none ∧ After c f kp z st s z st s₁) (fun _ _ => False) s
theorem Src.toN {ρ₀ : Nat → Addr} {m₀ : Nat} {it : Addr} {t : Expr} {gd : St → Bool} {mk : Nat → V → St → V × St} {items : List V} {I : Nat → Heap → Prop} (x : Src c f kp A ρ₀ m₀ it t gd mk items I) : SrcN c f kp A ρ₀ m₀ it [it] t gd mk items I :=
  ⟨x.stay, x.next, x.stop⟩
theorem forLN_sound (hc : c.Ok) (ok : EOk c p n) (okq : NOk c q n) {it : Addr} {hs : List Addr} {t : Expr} {gd : St → Bool} {mk : Nat → V → St → V × St} {items : List V} {I : Nat → Heap → Prop} (src : SrcN c f kp A z.ρ st.nxt it hs t gd mk items I) (body orelse : List Stmt)
    (h : Rel c f (hs ++ kp) z st s) (hA : AOk A f n st.md) (hd : st.md.hd = false) (hg : gd st = true) (h0 : I 0 s.heap) :
    SndN c f kp A (runOwn (.forLoop t (.ref it) body orelse f.env) f.env) (forLN c.K p q gd mk t body orelse 0 items st) (FlR c.B) z st s := by
  cases hfin : forLN c.K p q gd mk t body orelse 0 items st with
  | stuck w => trivial
  | err _ _ _ => trivial
  | ok fin stf =>
  refine wpN_runOwn ?_
  refine codeN_forLoop (R := fun r s' => match r with | .ok fl => ∃ z', After c f kp z st s z' stf s' ∧ FlR c.B z' stf.nxt fin fl | .error _ => False)
    (fun m s' => ∃ k rest z' st', m = rest.length + 1 ∧ rest = items.drop k ∧ After c f kp z st s z' st' s' ∧ Rel c f (hs ++ kp) z' st' s' ∧ gd st' = true ∧ I k s'.heap ∧ forLN c.K p q gd mk t body orelse k rest st' = .ok fin stf)
    ?_ (items.length + 1) ⟨0, items, z, st, rfl, rfl, After.refl h.dropL, h, hg, h0, hfin⟩
  rintro m s' ⟨k, rest, z', st', rfl, hrest, af, hr, hg', hI, hfl⟩
  have hA' := hA.after af
  have hd' : st'.md.hd = false := by rw [af.hd]; exact hd
  cases rest with
  | nil =>
    have hnone : items[k]? = none := List.getElem?_eq_none (by have := congrArg List.length hrest; simp at this; omega)
    refine wpAny_mono (src.stop af.nxt (fun i hi => (af.same i hi).1) hnone hr hg' hI (hA.handled hd)) (fun r s₁ hq => ?_) fun _ _ q => q.elim
    obtain ⟨rfl, af1⟩ := hq
    have := execL_sound ok orelse af1.rel hA'
    rw [show execL p orelse st' = .ok fin stf from hfl] at this
    exact wpN_of (wpAny_mono this (fun fl s₃ ⟨z₃, af3, hf⟩ => ⟨z₃, (af.trans af1).trans af3, hf⟩) fun _ _ q => q.elim)
  | cons x rest =>
    have hx : items[k]? = some x := by
      have := congrArg (·[0]?) hrest
      simp at this
      exact this.symm
    have hrest' : rest = items.drop (k + 1) := by
      have := congrArg List.tail hrest
      simpa using this
    refine wpAny_mono (src.next af.nxt (fun i hi => (af.same i hi).1) hx hr hg' hI) (fun r s₁ hq => ?_) fun _ _ q => q.elim
    obtain ⟨v, rfl, hq⟩ := hq
    refine wpAny_mono hq (fun _ s₂ hq => ?_) fun _ _ q => q.elim
    obtain ⟨z₂, af2, hr2, hv, hI2⟩ := hq
    obtain ⟨_, st3, ea, hfl⟩ := bind_ok hfl
    obtain ⟨flb, st4, eb, hfl⟩ := bind_ok hfl
    have as := assignTo_sound (kp := hs ++ kp) hc ok (hA'.after af2) hr2 t hv
    rw [ea] at as
    refine wpAny_mono as (fun _ s₃ hq => ?_) fun _ _ q => q.elim
    obtain ⟨z₃, af3, _⟩ := hq
    have bs := execN_sound okq body af3.rel ((hA'.after af2).after af3)
    rw [eb] at bs
    refine wpN_mono bs fun fl s₄ hq => ?_
    obtain ⟨z₄, af4, hf⟩ := hq
    have afAll := ((af.trans af2).trans af3.dropL).trans af4.dropL
    have hI4 := src.stay _ _ _ hI2 (fun b hb o e => af4.keep b hb o (af3.keep b hb o e))
    cases flb <;> cases fl <;> first | exact hf.elim | skip
    · dsimp only at hfl ⊢
      split at hfl
      · rename_i hg4
        exact ⟨_, Nat.lt_succ_self _, k + 1, rest, z₄, st4, rfl, hrest', afAll, af4.rel, hg4, hI4, hfl⟩
      · cases hfl
    · cases hfl
      exact ⟨z₄, afAll, trivial⟩
    · dsimp only at hfl ⊢
      split at hfl
      · rename_i hg4
        exact ⟨_, Nat.lt_succ_self _, k + 1, rest, z₄, st4, rfl, hrest', afAll, af4.rel, hg4, hI4, hfl⟩
      · cases hfl
    · cases hfl
      exact ⟨z₄, afAll, hf⟩
theorem SndN.calm {α β : Type} {t : Sem α} {m : M β} {P : Sit → Nat → β → α → Prop} (h : st.md.hd = false → SndN c f kp A t (m st) P z st s) : SndN c f kp A t (Mine.calm m st) P z st s := by
  unfold Mine.calm
  cases q : st.md.hd with
  | true => trivial
  | false => exact h q
theorem SndN.getO {α β : Type} {t : Sem α} {i : Nat} {k : O → M β} {P : Sit → Nat → β → α → Prop} (h : i < st.nxt → SndN c f kp A t (k (st.obj i) st) P z st s) : SndN c f kp A t (Mine.bind (Mine.getO i) k st) P z st s := by
  unfold Mine.bind Mine.getO
  by_cases q : i < st.nxt
  · rw [if_pos q]; exact h q
  · rw [if_neg q]; trivial
theorem SndN.begin {x : Value} {ob : Obj} {r : R Fl} {t : Expr} {body orelse : List Stmt} (h : Rel c f kp z st s) (hf : ob.isFreed = false)
    (hp : ∀ (Q : Value → Shared → Prop) (E : Value → Shared → Prop), Q (.ref s.heap.objs.size) { s with heap := s.heap.push ob } → wpAny (model c.prog c.w) A (pyIter x) Q E s)
    (hl : s.heap.objs.size ∉ kp → Rel c f (s.heap.objs.size :: kp) z st { s with heap := s.heap.push ob } → (s.heap.push ob).get? s.heap.objs.size = some ob → SndN c f kp A (runOwn (.forLoop t (.ref s.heap.objs.size) body orelse f.env) f.env) r (FlR c.B) z st { s with heap := s.heap.push ob }) :
    SndN c f kp A (PySem.holding [x] (pyIter x) >>= fun it => runOwn (.forLoop t it body orelse f.env) f.env) r (FlR c.B) z st s := by
  have hno := get?_size s.heap
  have ap := h.fresh hno
  have af : After c f kp z st s z st { s with heap := s.heap.push ob } := h.grown fun b o e => Heap.get?_push_of_some ob e
  have hob := Heap.get?_push_size s.heap hf
  exact SndN.pre (fun v s' => v = .ref s.heap.objs.size ∧ s' = { s with heap := s.heap.push ob }) (wpAny_holding (hp _ _ ⟨rfl, rfl⟩)) fun v s' q => by
    obtain ⟨rfl, rfl⟩ := q
    exact ⟨af, hl ap.kp (af.rel.hold (by show ((s.heap.push ob).get? _).isSome = true; rw [hob]; rfl) ap) hob⟩
theorem loopN_sound (hc : c.Ok) (ok : EOk c p n) (okq : NOk c q n) (h : Rel c f kp z st s) (hA : AOk A f n st.md) (t : Expr) (body orelse : List Stmt) {v : V} {x : Value} (hv : VR z.ρ st.nxt c.B v x) :
    SndN c f kp A (PySem.holding [x] (pyIter x) >>= fun it => runOwn (.forLoop t it body orelse f.env) f.env) (loopN c.K p q t body orelse v st) (FlR c.B) z st s := by
  unfold loopN
  cases v <;> try exact SndN.stuck
  rename_i r
  obtain ⟨rfl, hr⟩ := hv.inj_ref
  refine SndN.calm fun hd => SndN.getO fun hr => ?_
  cases er : st.obj r <;> try exact SndN.stuck
  · rename_i vs
    obtain ⟨us, ep, e1, r1⟩ := h.lst hr er
    refine SndN.begin (ob := { cls := .type "list_iterator", data := .fields #[.ref (z.ρ r), .int 0 0] }) h rfl (fun Q E k => wpAny_pyIter_list ⟨_, e1, rfl, ep, rfl⟩ k) fun hk hr' hob => ?_
    exact forLN_sound hc ok okq (src_list t hk hr).toN body orelse hr' hA hd (decide_eq_true er) ⟨_, hob, rfl, rfl⟩
  · rename_i vs
    obtain ⟨us, e1, r1⟩ := h.tpl hr er
    refine SndN.begin (ob := { cls := .type "tuple_iterator", data := .fields #[.ref (z.ρ r), .int 0 0] }) h rfl (fun Q E k => wpAny_pyIter_tuple ⟨_, e1, rfl, _, rfl⟩ k) fun hk hr' hob => ?_
    exact forLN_sound hc ok okq (src_tup t hk hr).toN body orelse hr' hA hd (decide_eq_true er) ⟨_, hob, rfl, rfl⟩
  · rename_i a b d
    have e1 := h.objs r hr
    rw [er] at e1
    obtain ⟨t1, t2, t3, e1⟩ := e1
    refine SndN.ite (fun hs => ?_) fun _ => SndN.stuck
    refine SndN.begin (ob := { cls := .type "range_iterator", data := .fields #[rawInt a, rawInt (Builtin.Range.rangeSize a b d), rawInt d] }) h rfl (fun Q E k => wpAny_pyIter_range e1 hs k) fun hk hr' hob => ?_
    refine forLN_sound hc ok okq (src_rng t hk a b d).toN body orelse hr' hA hd rfl ?_
    show IsRangeIter _ _ (a + ((0 : Nat) : Int) * d) (Builtin.Range.rangeSize a b d - ((0 : Nat) : Int)) d
    have z1 : a + ((0 : Nat) : Int) * d = a := by simp
    have z2 : Builtin.Range.rangeSize a b d - ((0 : Nat) : Int) = Builtin.Range.rangeSize a b d := by simp
    rw [z1, z2]
    exact hob
end
end Mine
namespace Mine
open PySem PySem.W PySem.Calls PyProof.Rows
section
variable {c : Cx} {p : Ev} {q : Nv} {n : Nat} {f : Fm} {kp : List Addr} {A : Around} {z : Sit} {st : St} {s : Shared}
theorem src_enum {ρ₀ : Nat → Addr} {m₀ r : Nat} {e i : Addr} {vs : List V} {t : Expr} (ht : isTupT t = true) (hne : e ≠ i) (hek : e ∉ kp) (hik : i ∉ kp) (hr : r < m₀) :
    SrcN c f kp A ρ₀ m₀ e [e, i] t (still r (.list vs)) enumMk vs (fun k h => (∃ old, IsEnum h e i (k : Nat) old) ∧ h.IsListIter i (ρ₀ r) k) where
  stay := by
    rintro k h h' ⟨⟨old, he⟩, ⟨o, ho, hx⟩⟩ hk
    exact ⟨⟨old, hk e (.head _) _ he⟩, ⟨o, hk i (.tail _ (.head _)) _ ho, hx⟩⟩
  next := by
    rintro k x z st s hm hz hx h hg ⟨⟨old, he⟩, hit⟩
    obtain ⟨us, ep, e1, r1⟩ := h.lst (Nat.lt_of_lt_of_le hr hm) (still_eq hg)
    rw [hz r hr] at e1
    obtain ⟨v, ev, rv⟩ := r1.get hx
    have oe := h.kps e (.head _)
    have oi := h.kps i (.tail _ (.head _))
    have ue : ∀ j, j < st.nxt → e ≠ z.ρ j ∧ e ≠ z.δ j := fun j hj => ⟨fun w => (h.own j hj e (.inl w)).2.1 (.head _), fun w => (h.own j hj e (.inr w)).2.1 (.head _)⟩
    have ui : ∀ j, j < st.nxt → i ≠ z.ρ j ∧ i ≠ z.δ j := fun j hj => ⟨fun w => (h.own j hj i (.inl w)).2.1 (.tail _ (.head _)), fun w => (h.own j hj i (.inr w)).2.1 (.tail _ (.head _))⟩
    have le : e < s.heap.objs.size := Heap.lt_size he
    have li : i < s.heap.objs.size := by obtain ⟨o, ho, _⟩ := hit; exact Heap.lt_size ho
    refine wpAny_pyNext_enum_item he hit ⟨_, e1, rfl, ep, rfl⟩ (by simpa using ev) hne fun h' he' hit' htup hsz hkeep => ⟨_, rfl, ?_⟩
    cases t <;> try cases ht
    refine wpAny_letOwnedTupleGo_enum he' fun h2 he2 hs2 => ?_
    have h2t : h2.get? s.heap.objs.size = some (tupO #[.int k s.toks, v]) := (hs2.2 _ (Nat.ne_of_gt le)).trans htup
    have hit2 : h2.IsListIter i (ρ₀ r) (k + 1) := by
      obtain ⟨o, ho, hx⟩ := hit'
      exact ⟨o, (hs2.2 i (Ne.symm hne)).trans ho, hx⟩
    have a1 := Rel.push (o := .tup [.int k, x]) (ob := tupO #[.int k s.toks, v]) h.dropL rfl rfl fun e => ⟨_, e, .cons (.int _ _) (.cons (rv.mono (Nat.le_succ _) fun i hi => setN_lt hi) .nil)⟩
    have base := a1.rel
    have a2 := base.heap (h' := h2) fun a o ha eo => by
      by_cases qa : a = s.heap.objs.size
      · subst qa
        rw [Heap.get?_push_size _ rfl] at eo
        cases eo
        exact h2t
      · have eo' : s.heap.get? a = some o := by rw [← eo]; exact (Heap.get?_push_ne _ _ _ qa).symm
        have nb : ∀ b, c.B.get? b = none → (c.B.get? b).isSome = true → False := fun b hb w => by rw [hb] at w; cases w
        have apart : a ≠ e ∧ a ≠ i := by
          rcases ha with w | (w | ⟨j, hj, w⟩) | w | w
          · exact ⟨fun u => nb e oe.2.2.2 (u ▸ w), fun u => nb i oi.2.2.2 (u ▸ w)⟩
          · exact ⟨fun u => hek (u ▸ w), fun u => hik (u ▸ w)⟩
          · rcases Nat.lt_succ_iff_lt_or_eq.mp hj with q | q
            · have w' : a = z.ρ j ∨ a = z.δ j := by
                have w : a = setN z.ρ st.nxt s.heap.objs.size j ∨ a = setN z.δ st.nxt s.heap.objs.size j := w
                rwa [setN_lt q, setN_lt q] at w
              exact ⟨fun u => w'.elim (fun y => (ue j q).1 (u ▸ y)) (fun y => (ue j q).2 (u ▸ y)), fun u => w'.elim (fun y => (ui j q).1 (u ▸ y)) (fun y => (ui j q).2 (u ▸ y))⟩
            · subst q
              have w : a = setN z.ρ st.nxt s.heap.objs.size st.nxt ∨ a = setN z.δ st.nxt s.heap.objs.size st.nxt := w
              rw [setN_self, setN_self] at w
              exact absurd (w.elim id id) qa
          · exact ⟨fun u => oe.2.2.1 (u ▸ w), fun u => oi.2.2.1 (u ▸ w)⟩
          · exact ⟨fun u => oe.2.1 (u ▸ w), fun u => oi.2.1 (u ▸ w)⟩
        exact (hs2.2 a apart.1).trans (hkeep a o apart.1 apart.2 eo')
    have a3 := (a1.trans a2).trans (After.tok a2.rel (s.toks + 1))
    have ours : ∀ (a : Addr), a < s.heap.objs.size → (∀ j, j < st.nxt → a ≠ z.ρ j ∧ a ≠ z.δ j) → ∀ j, j < st.nxt + 1 → a ≠ (z.put st.nxt s.heap.objs.size s.heap.objs.size).ρ j ∧ a ≠ (z.put st.nxt s.heap.objs.size s.heap.objs.size).δ j := fun a la ha j hj => by
      show a ≠ setN z.ρ st.nxt s.heap.objs.size j ∧ a ≠ setN z.δ st.nxt s.heap.objs.size j
      rcases Nat.lt_succ_iff_lt_or_eq.mp hj with q | rfl
      · rw [setN_lt q, setN_lt q]; exact ha j q
      · rw [setN_self, setN_self]; exact ⟨Nat.ne_of_lt la, Nat.ne_of_lt la⟩
    refine ⟨_, a3, ?_, VR.new, ⟨v, ?_⟩, hit2⟩
    · refine Rel.hold (Rel.hold a3.rel (a := i) ?_ ⟨oi.2.1, oi.2.2.1, oi.2.2.2, hik, ours i li ui⟩) (a := e) ?_ ⟨oe.2.1, oe.2.2.1, oe.2.2.2, fun w => ?_, ours e le ue⟩
      · obtain ⟨o, ho, _⟩ := hit2
        show (h2.get? i).isSome = true
        rw [ho]; rfl
      · show (h2.get? e).isSome = true
        rw [he2]; rfl
      · rcases List.mem_cons.mp w with u | u
        · exact hne u
        · exact hek u
    · exact he2
  stop := by
    rintro k z st s hm hz hx h hg ⟨⟨old, he⟩, hit⟩ hh
    obtain ⟨us, ep, e1, r1⟩ := h.lst (Nat.lt_of_lt_of_le hr hm) (still_eq hg)
    rw [hz r hr] at e1
    have hn : us[k]? = none := by
      rw [List.getElem?_eq_none_iff] at hx
      rw [Array.getElem?_eq_none_iff, r1.size]
      exact hx
    have oi := h.kps i (.tail _ (.head _))
    have ui : ∀ j, j < st.nxt → i ≠ z.ρ j ∧ i ≠ z.δ j := fun j hj => ⟨fun w => (h.own j hj i (.inl w)).2.1 (.tail _ (.head _)), fun w => (h.own j hj i (.inr w)).2.1 (.tail _ (.head _))⟩
    exact wpAny_pyNext_enum_end hh he hit ⟨_, e1, rfl, ep, rfl⟩ hn fun h' hex => ⟨rfl, h.dropL.off ⟨oi.2.1, oi.2.2.1, oi.2.2.2, hik, ui⟩ hex⟩
end
end Mine
namespace Mine
open PySem PySem.W PySem.Calls PyProof.Rows
section
variable {c : Cx} {p : Ev} {q : Nv} {n : Nat} {f : Fm} {kp : List Addr} {A : Around} {z : Sit} {st : St} {s : Shared}
theorem loopEnum_sound (hc : c.Ok) (ok : EOk c p n) (okq : NOk c q n) (h : Rel c f kp z st s) (hA : AOk A f n st.md) (t : Expr) (ht : isTupT t = true) (body orelse : List Stmt) {v : V} {x : Value} (hv : VR z.ρ st.nxt c.B v x) {fin : Fl} {stf : St}
    (hl : loopEnum c.K p q t body orelse v st = .ok fin stf) :
    wpAny (model c.prog c.w) A (PySem.call (.type "enumerate") [x] []) (fun x s' => After c f kp z st s z st s' ∧ SndN c f kp A (PySem.holding [x] (pyIter x) >>= fun it => runOwn (.forLoop t it body orelse f.env) f.env) (.ok fin stf) (FlR c.B) z st s') NoE s := by
  unfold loopEnum at hl
  cases v <;> try cases hl
  rename_i r
  obtain ⟨rfl, hr⟩ := hv.inj_ref
  dsimp only at hl
  unfold Mine.calm at hl
  have hd : st.md.hd = false := by
    cases q : st.md.hd with
    | false => rfl
    | true => rw [q] at hl; cases hl
  rw [hd, if_neg Bool.false_ne_true] at hl
  unfold Mine.bind Mine.getO at hl
  rw [if_pos hr] at hl
  dsimp only at hl
  cases er : st.obj r <;> rw [er] at hl <;> try cases hl
  rename_i vs
  obtain ⟨us, ep, e1, r1⟩ := h.lst hr er
  have n0 := get?_size s.heap
  have n1 : s.heap.get? (s.heap.objs.size + 1) = none := by
    cases q : s.heap.get? (s.heap.objs.size + 1) with
    | none => rfl
    | some o => exact absurd (Heap.lt_size q) (Nat.not_lt.mpr (Nat.le_succ _))
  have ap0 := h.fresh n0
  have ap1 := h.fresh n1
  refine call_enumerate_list ⟨_, e1, rfl, ep, rfl⟩ fun h' he hi _ hk => ?_
  have af := h.grown hk
  refine ⟨af, ?_⟩
  refine SndN.pre (fun v s' => v = .ref (s.heap.objs.size + 1) ∧ s' = { s with heap := h' }) (wpAny_holding (wpAny_pyIter_enum he ⟨rfl, rfl⟩)) ?_
  rintro v s' ⟨rfl, rfl⟩
  refine ⟨After.refl af.rel, ?_⟩
  have hr2 : Rel c f ((s.heap.objs.size + 1) :: s.heap.objs.size :: kp) z st { s with heap := h' } := by
    refine Rel.hold (Rel.hold af.rel (a := s.heap.objs.size) ?_ ap0) (a := s.heap.objs.size + 1) ?_ ⟨ap1.L, ap1.frs, ap1.base, fun w => ?_, ap1.ours⟩
    · obtain ⟨o, ho, _⟩ := hi
      show (h'.get? _).isSome = true
      rw [ho]; rfl
    · show (h'.get? _).isSome = true
      rw [he]; rfl
    · rcases List.mem_cons.mp w with u | u
      · exact Nat.succ_ne_self _ u
      · exact ap1.kp u
  have := forLN_sound hc ok okq (src_enum ht (Nat.succ_ne_self _) ap1.kp ap0.kp hr) body orelse hr2 hA hd (decide_eq_true er) ⟨⟨_, he⟩, hi⟩
  rw [show forLN c.K p q (still r (.list vs)) enumMk t body orelse 0 vs st = .ok fin stf from hl] at this
  exact this
theorem forN_sound (hc : c.Ok) (ok : EOk c p n) (okq : NOk c q n) (h : Rel c f kp z st s) (hA : AOk A f n st.md) (t it : Expr) (body orelse : List Stmt) (pos : Pos) : SndN c f kp A (exec (.For t it body orelse pos) f.env) (forN c.K p q t it body orelse st) (FlR c.B) z st s := by
  have plain : ∀ it, notSet it = true → SndN c f kp A (exec (.For t it body orelse pos) f.env) (Mine.bind (p.expr it) (fun v => loopN c.K p q t body orelse v) st) (FlR c.B) z st s := fun it hn => by
    show SndN c f kp A (PySem.standAt pos >>= fun _ => eval it f.env >>= fun x0 => foldedSetIterable it f.env x0 >>= fun x => PySem.standAt it.pos >>= fun _ => PySem.holding [x] (pyIter x) >>= fun i => runOwn (.forLoop t i body orelse f.env) f.env) _ _ z st s
    refine SndN.standAt h ?_
    refine SndN.bind (SndN.of (ok.expr h hA it)) fun v st1 x z1 s1 _ af1 pv => ?_
    rw [folded_pure hn]
    exact SndN.standAt af1.rel (loopN_sound hc ok okq af1.rel (hA.after af1) t body orelse pv)
  unfold forN
  split
  · rename_i x xp e cpos
    split
    · rename_i hx
      subst hx
      refine SndN.ite (fun hq => ?_) fun _ => SndN.stuck
      rw [Bool.and_eq_true] at hq
      show SndN c f kp A (PySem.standAt pos >>= fun _ => eval (.Call (.Name "enumerate" xp) [e] [] cpos) f.env >>= fun x0 => foldedSetIterable (.Call (.Name "enumerate" xp) [e] [] cpos) f.env x0 >>= fun x => PySem.standAt (Expr.pos (.Call (.Name "enumerate" xp) [e] [] cpos)) >>= fun _ => PySem.holding [x] (pyIter x) >>= fun i => runOwn (.forLoop t i body orelse f.env) f.env) _ _ z st s
      refine SndN.standAt h ?_
      have e0 : ∀ (k : Value → Sem Flow), (eval (.Call (.Name "enumerate" xp) [e] [] cpos) f.env >>= k) = (eval (.Name "enumerate" xp) f.env >>= fun g => callWith cpos g [] (backTo cpos (starEach [e] f.env)) (backToKw cpos (keywordEach [] f.env)) >>= k) := fun k => by
        show ((eval (.Name "enumerate" xp) f.env >>= fun g => callWith cpos g [] (backTo cpos (starEach [e] f.env)) (backToKw cpos (keywordEach [] f.env))) >>= k) = _
        rw [bind_assoc]
      rw [e0]
      refine SndN.bind (SndN.of (ok.expr h hA _)) fun g st1 gv z1 s1 _ af1 pg => ?_
      cases g <;> try exact SndN.stuck
      dsimp only
      rw [pg.inj_type]
      split
      · rename_i T hT
        subst hT
        have hA1 := hA.after af1
        cases hm : p.expr e st1 with
        | stuck w => unfold Mine.bind; rw [hm]; trivial
        | err _ _ _ => unfold Mine.bind; rw [hm]; trivial
        | ok v st2 =>
          unfold Mine.bind
          rw [hm]
          dsimp only
          cases hl : loopEnum c.K p q t body orelse v st2 with
          | stuck w => trivial
          | err _ _ _ => trivial
          | ok fl stf =>
            have hs : ([e].all plainE) = true := by rw [List.all_cons, hq.2]; rfl
            have hL := evalL_sound ok cpos [e] af1.rel hA1
            have el : evalL p [e] st1 = .ok [v] st2 := by
              unfold evalL
              rw [if_pos hq.2]
              unfold Mine.bind
              rw [hm]
              rfl
            rw [el] at hL
            refine wpN_bind (callWithN_of (P := fun _ => True) (by rw [noStar cpos f.env [e] hs]; rfl) (fun hp _ => keeps_calleeT (fun a e => by cases e) hp) ?_)
            refine evalArgs_kw2 (kws := []) rfl ?_ (starEach_cons hq.2 [] f.env)
            refine wpAny_mono hL (fun us s2 ⟨z2, a2, pv⟩ => wpAny_evalAll_nil ⟨trivial, ?_⟩) fun _ _ x => x
            cases pv with
            | cons pv pn =>
              cases pn
              refine wpN_of (wpAny_mono (loopEnum_sound hc ok okq a2.rel (hA1.after a2) t hq.1 body orelse pv hl) (fun x s3 ⟨a3, hx⟩ => ?_) fun _ _ x => x)
              refine wpN_pre (wpAny_pure ?_)
              refine wpN_pre (wpAny_standAt ?_)
              exact wpN_mono hx fun u s4 ⟨z4, a4, p4⟩ => ⟨z4, (a2.trans a3).trans a4, p4⟩
      · exact SndN.stuck
    · exact plain _ rfl
  · refine SndN.ite (fun hn => plain _ hn) fun _ => SndN.stuck
end
end Mine
namespace Mine
open PySem PySem.W PySem.Calls PyProof.Rows
section
variable (K : Frag) (p : Ev) (q : Nv) (sel : Nat → Bool)
def isCall : Expr → Bool
  | .Call .. => true
  | _ => false
def assignN (t e : Expr) : M Fl := if plainE t && isCall e then bind (callEN K p q e) fun v => bind (assignTo K p t v) fun _ => ret .next else stuck "an assignment of another form"
def exprN (e : Expr) : M Fl := if isCall e then bind (callEN K p q e) fun _ => ret .next else stuck "a statement of another form"
def retN (e : Expr) : M Fl := if isCall e then bind (callEN K p q e) fun v => ret (.ret v) else stuck "a return of another form"
def ifN (c : Expr) (a b : List Stmt) : M Fl := bind (p.test c) fun t => if t then execN q a else execN q b
def tryN (body orelse : List Stmt) : M Fl := bind (execN q body) fun fl => match fl with
  | .next => execN q orelse
  | fl => ret fl
def stmtN (b : Stmt) : M Fl := match b with
  | .Assign [t] e pos => if sel pos.line then assignN K p q t e else p.stmt b
  | .Expr e pos => if sel pos.line then exprN K p q e else p.stmt b
  | .Return (some e) pos => if sel pos.line then retN K p q e else p.stmt b
  | .If c x y pos => if sel pos.line then ifN p q c x y else p.stmt b
  | .For t it body orelse pos => if sel pos.line then forN K p q t it body orelse else p.stmt b
  | .Try body (_ :: _) orelse [] pos => if sel pos.line then tryN q body orelse else p.stmt b
  | b => p.stmt b
def stepNv : Nv := ⟨stmtN K p q sel, callNV K q⟩
end
def stuckNv : Nv := ⟨fun _ => stuck "fuel", fun _ _ _ => stuck "fuel"⟩
def nvN (K : Frag) (p : Ev) (sel : Nat → Bool) : Nat → Nv
  | 0 => stuckNv
  | n + 1 => stepNv K p (nvN K p sel n) sel
section
variable {c : Cx} {p : Ev} {q : Nv} {n : Nat} {f : Fm} {kp : List Addr} {A : Around} {z : Sit} {st : St} {s : Shared}
theorem Rel.barr (h : Rel c f kp z st s) {h' : Heap} {b : List UInt8} (e : h'.get? s.heap.objs.size = some (barrO b.toArray)) (hk : ∀ x o, s.heap.get? x = some o → h'.get? x = some o) :
    After c f kp z st s (z.put st.nxt s.heap.objs.size s.heap.objs.size) (st.new (.barr b)) { s with heap := h' } :=
  Rel.alloc h hk ⟨get?_size _, by rw [e]; rfl⟩ ⟨get?_size _, by rw [e]; rfl⟩ (fun w => by cases w) e
theorem callNV_sound (hc : c.Ok) (okq : NOk c q n) (h : Rel c f kp z st s) (hA : AOk A f (n + 1) st.md) {g : V} {gv : Value} {args : List V} {us : List Value} {kw : List (Str × V)} {ks : List (Str × Value)} (hg : VR z.ρ st.nxt c.B g gv) (hv : VRs z.ρ st.nxt c.B args us) (hk : KwR c.B z.ρ st.nxt kw ks) :
    SndN c f kp A (PySem.call gv us ks) (callNV c.K q g args kw st) (VP c.B) z st s := by
  unfold callNV
  split
  · rename_i a
    rw [hg.inj_old]
    refine CodeN.call ?_
    cases ef : fnOf? c.K a with
    | some fd => exact fnN_code hc okq h hA ef hv hk
    | none => trivial
  · rename_i T
    rw [hg.inj_type]
    split
    · rename_i hT
      subst hT
      refine SndN.ite (fun hq => ?_) fun _ => SndN.stuck
      have : kw = [] := by simpa using hq
      subst this
      cases hk
      unfold barrNew
      split
      · rename_i b
        refine SndN.ite (fun hz => ?_) fun _ => SndN.stuck
        cases hv with
        | cons hb hn =>
          cases hn
          obtain ⟨t, rfl⟩ := hb.inj_bytes
          show wpN _ _ _ _ _
          have hz' : b.length ≤ sizeLine := of_decide_eq_true hz
          exact wpN_call (BA.barr_call hz' fun h' e hk => ⟨_, h.barr e hk, VR.new⟩)
      · exact SndN.stuck
    · exact SndN.stuck
  · exact SndN.stuck
theorem assignN_sound (hc : c.Ok) (ok : EOk c p n) (okq : NOk c q n) (h : Rel c f kp z st s) (hA : AOk A f n st.md) (t e : Expr) (pos : Pos) : SndN c f kp A (exec (.Assign [t] e pos) f.env) (assignN c.K p q t e st) (FlR c.B) z st s := by
  unfold assignN
  refine SndN.ite (fun hq => ?_) fun _ => SndN.stuck
  rw [Bool.and_eq_true] at hq
  obtain ⟨ht, he⟩ := hq
  have e1 : assignEach [t] f.env = [(false, assign t f.env)] := by cases t <;> first | rfl | cases ht
  have e2 : swappedStores [t] e f.env = pure none := by
    cases t <;> first
      | rfl
      | (cases e <;> first | rfl | cases he)
  have e3 : ∀ l, swapsWith e (some t) l f.env = pure false := fun l => by cases e <;> first | rfl | cases he
  have e0 : exec (.Assign [t] e pos) f.env = (PySem.standAt pos >>= fun _ => eval e f.env >>= fun v => assign t f.env v >>= fun _ => pure .next) := by
    show (PySem.standAt pos >>= fun _ => swapsWith e (some t) pos.line f.env >>= fun b => if b = true then (evalThenUse e f.env fun v => assignAll v ((assignEach [t] f.env).map (·.2))) >>= fun _ => pure .next else eval e f.env >>= fun v => swappedStores [t] e f.env >>= fun sw => assignStores f.env v sw ((assignEach [t] f.env).map (·.2))) = _
    rw [e3, e2, e1]
    rfl
  rw [e0]
  refine SndN.standAt h ?_
  refine SndN.bind (callEN_sound hc ok okq h hA e) fun v st1 vv z1 s1 _ af1 pv => ?_
  refine SndN.of (Snd.bind (assignTo_sound hc ok (hA.after af1) af1.rel t pv) fun _ st4 _ z4 s4 _ af4 _ => ?_)
  exact Snd.pure af4.rel trivial
theorem exprN_sound (hc : c.Ok) (ok : EOk c p n) (okq : NOk c q n) (h : Rel c f kp z st s) (hA : AOk A f n st.md) (e : Expr) (pos : Pos) : SndN c f kp A (exec (.Expr e pos) f.env) (exprN c.K p q e st) (FlR c.B) z st s := by
  unfold exprN
  refine SndN.ite (fun hn => ?_) fun _ => SndN.stuck
  have hi : interactive f.env = false := by
    unfold interactive
    rw [hA.good.kind]
    rfl
  have e3 : ∀ l, swapsWith e none l f.env = pure false := fun l => by cases e <;> first | rfl | cases hn
  have e0 : exec (.Expr e pos) f.env = (PySem.standAt pos >>= fun _ => eval e f.env >>= fun v => dropValue e pos v) := by
    show (PySem.standAt pos >>= fun _ => if interactive f.env = true then printExpr (eval e f.env) else swapsWith e none pos.line f.env >>= fun b => if b = true then (evalThenUse e f.env fun _ => point) >>= fun _ => pure .next else eval e f.env >>= fun v => dropValue e pos v) = _
    rw [hi, e3]
    rfl
  rw [e0]
  refine SndN.standAt h ?_
  refine SndN.bind (callEN_sound hc ok okq h hA e) fun x st1 v z1 s1 _ af1 pa => ?_
  exact SndN.of (Snd.of fun Q E k => wpAny_dropValue (k _ _ _ (After.refl af1.rel) trivial))
theorem retN_sound (hc : c.Ok) (ok : EOk c p n) (okq : NOk c q n) (h : Rel c f kp z st s) (hA : AOk A f n st.md) (e : Expr) (pos : Pos) : SndN c f kp A (exec (.Return (some e) pos) f.env) (retN c.K p q e st) (FlR c.B) z st s := by
  unfold retN
  refine SndN.ite (fun hn => ?_) fun _ => SndN.stuck
  show SndN c f kp A (PySem.standAt pos >>= fun _ => eval e f.env >>= fun v => pure (Flow.ret v)) _ _ z st s
  refine SndN.standAt h ?_
  refine SndN.bind (callEN_sound hc ok okq h hA e) fun x st1 v z1 s1 _ af1 pa => ?_
  exact SndN.of (Snd.pure af1.rel pa)
theorem ifN_sound (ok : EOk c p n) (okq : NOk c q n) (h : Rel c f kp z st s) (hA : AOk A f n st.md) (t : Expr) (a b : List Stmt) (pos : Pos) : SndN c f kp A (exec (.If t a b pos) f.env) (ifN p q t a b st) (FlR c.B) z st s := by
  rw [exec_If]
  refine SndN.standAt h ?_
  refine SndN.bind (SndN.of (ok.test h hA t)) fun x st1 v z1 s1 _ af1 pa => ?_
  cases pa
  cases x
  · exact execN_sound okq b af1.rel (hA.after af1)
  · exact execN_sound okq a af1.rel (hA.after af1)
theorem tryN_sound (okq : NOk c q n) (h : Rel c f kp z st s) (hA : AOk A f n st.md) (body orelse : List Stmt) (h₀ : ExceptHandler) (hs : List ExceptHandler) (pos : Pos) : SndN c f kp A (exec (.Try body (h₀ :: hs) orelse [] pos) f.env) (tryN q body orelse st) (FlR c.B) z st s := by
  rw [arm_exec_Try]
  refine SndN.standAt h ?_
  unfold tryN
  have h1 := execN_sound okq body h hA
  unfold Mine.bind
  cases hm : execN q body st with
  | stuck w => trivial
  | err _ _ _ => trivial
  | ok fl st1 =>
    rw [hm] at h1
    dsimp only
    cases fl with
    | next =>
      cases hk : execN q orelse st1 with
      | stuck w => simp only [hk]; trivial
      | err _ _ _ => simp only [hk]; trivial
      | ok y st2 =>
        simp only [hk]
        refine wpN_tryStmt (wpN_mono h1 fun u s1 ⟨z1, a1, p1⟩ => ?_)
        cases u <;> try exact p1.elim
        have := execN_sound okq orelse a1.rel (hA.after a1)
        rw [hk] at this
        exact wpN_mono this fun u s2 ⟨z2, a2, p2⟩ => ⟨z2, a1.trans a2, p2⟩
    | brk =>
      refine wpN_tryStmt (wpN_mono h1 fun u s1 ⟨z1, a1, p1⟩ => ?_)
      cases u <;> first | exact p1.elim | exact ⟨z1, a1, p1⟩
    | cont =>
      refine wpN_tryStmt (wpN_mono h1 fun u s1 ⟨z1, a1, p1⟩ => ?_)
      cases u <;> first | exact p1.elim | exact ⟨z1, a1, p1⟩
    | ret v =>
      refine wpN_tryStmt (wpN_mono h1 fun u s1 ⟨z1, a1, p1⟩ => ?_)
      cases u <;> first | exact p1.elim | exact ⟨z1, a1, p1⟩
theorem stmtN_sound {sel : Nat → Bool} (hc : c.Ok) (ok : EOk c p n) (okq : NOk c q n) (h : Rel c f kp z st s) (hA : AOk A f n st.md) (b : Stmt) : SndN c f kp A (exec b f.env) (stmtN c.K p q sel b st) (FlR c.B) z st s := by
  have low := SndN.of (ok.stmt h hA b)
  unfold stmtN
  split
  · exact SndN.ite (fun _ => assignN_sound hc ok okq h hA _ _ _) fun _ => low
  · exact SndN.ite (fun _ => exprN_sound hc ok okq h hA _ _) fun _ => low
  · exact SndN.ite (fun _ => retN_sound hc ok okq h hA _ _) fun _ => low
  · exact SndN.ite (fun _ => ifN_sound ok okq h hA _ _ _ _) fun _ => low
  · exact SndN.ite (fun _ => forN_sound hc ok okq h hA _ _ _ _ _) fun _ => low
  · exact SndN.ite (fun _ => tryN_sound okq h hA _ _ _ _ _) fun _ => low
  · exact low
theorem EOk.up {m : Nat} (ok : EOk c p n) (hm : n ≤ m) : EOk c p m where
  expr := fun h hA e => ok.expr h (hA.less hm) e
  test := fun h hA e => ok.test h (hA.less hm) e
  stmt := fun h hA b => ok.stmt h (hA.less hm) b
  call := fun h hA => ok.call h (hA.less hm)
theorem NOk.up {m : Nat} (ok : NOk c q n) (hm : n ≤ m) : NOk c q m where
  stmt := fun h hA b => ok.stmt h (hA.less hm) b
  call := fun h hA => ok.call h (hA.less hm)
theorem stepNv_sound {sel : Nat → Bool} (hc : c.Ok) (ok : EOk c p n) (okq : NOk c q n) : NOk c (stepNv c.K p q sel) (n + 1) where
  stmt := fun h hA b => stmtN_sound hc ok okq h (hA.less (Nat.le_succ _)) b
  call := fun h hA => callNV_sound hc okq h hA
theorem stuckNv_sound : NOk c stuckNv n where
  stmt := fun _ _ _ => trivial
  call := fun _ _ => fun _ _ _ => trivial
theorem nvN_sound {sel : Nat → Bool} (hc : c.Ok) (ok : EOk c p n) : ∀ k : Nat, NOk c (nvN c.K p sel k) (n + k)
  | 0 => stuckNv_sound
  | k + 1 => stepNv_sound hc (ok.up (Nat.le_add_right _ _)) (nvN_sound hc ok k)
end
end Mine
namespace Mine.ZD
open PySem PySem.W PySem.Calls PyProof.Rows
abbrev IsZb (h : Heap) (z TI TO T : Addr) (b : Bool) : Prop :=
  h.get? z = some { cls := .type "zip", dict := none, data := .fields #[rawInt T, .bool b, .bool false, .ref TI, .ref TO], slots := #[] }
section
variable {prog : Program} {w : World} {A : Around} {E : Value → Shared → Prop} {s : Shared}
theorem notFree {z TI TO T : Addr} {b : Bool} {Q : Bool → Shared → Prop} (hz : IsZb s.heap z TI TO T b) (hT : (s.heap.get? T).isSome = true)
    (h : ∀ h', IsZb h' z TI TO T true → Heap.SameBut z s.heap h' → Q false { s with heap := h' }) : wpAny (model prog w) A (Builtin.SmallTypes.ownedTupleIsFree (.ref z)) Q E s := by
  unfold Builtin.SmallTypes.ownedTupleIsFree
  refine wpAny_bind (wpAny_field hz rfl (x := rawInt T) rfl ?_)
  show wpAny _ _ (loadIfAlive ((T : Int).toNat) >>= _) _ _ _
  have e : ((T : Int).toNat) = T := Int.toNat_natCast T
  rw [e]
  refine wpAny_bind (m := loadIfAlive T) ?_
  have la : wpAny (model prog w) A (loadIfAlive T) (fun r s' => r.isNone = false ∧ s' = s) E s := fun Γ p _ => by
    show Sem.wp _ Γ (Sem.loadIfAlive T _) _ _ p s
    rw [Sem.wp_loadIfAlive]
    refine ⟨?_, rfl⟩
    cases q : s.heap.get? T with
    | none => rw [q] at hT; cases hT
    | some o => rfl
  refine wpAny_mono la (fun r s' hr => ?_) fun _ _ x => x
  obtain ⟨hr, rfl⟩ := hr
  rw [hr, if_neg Bool.false_ne_true]
  refine wpAny_bind (wpAny_field hz rfl (x := .bool b) rfl ?_)
  cases b
  · rw [if_pos (by decide)]
    refine wpAny_bind (wpAny_setField_rec hz (by simp) fun h' hz' hs' => ?_)
    exact wpAny_pure (h h' hz' hs')
  · rw [if_neg (by decide)]
    refine wpAny_pure ?_
    exact h s'.heap hz ⟨rfl, fun _ _ => rfl⟩
theorem zipB_item {z TI TO T i1 i2 l1 l2 : Addr} {bz : Bool} {k1 k2 : Nat} {xs ys : Array Value} {x y : Value} {Q : Value → Shared → Prop} (D : ZipApart z TI TO i1 i2 l1 l2)
    (hz : IsZb s.heap z TI TO T bz) (hT : (s.heap.get? T).isSome = true) (hTI : IsPair s.heap TI (.ref i1) (.ref i2))
    (h1 : s.heap.IsListIter i1 l1 k1) (h2 : s.heap.IsListIter i2 l2 k2) (hl1 : s.heap.IsList l1 xs) (hl2 : s.heap.IsList l2 ys) (hx : xs[k1]? = some x) (hy : ys[k2]? = some y)
    (hQ : ∀ h', IsZb h' z TI TO T true → h'.IsListIter i1 l1 (k1 + 1) → h'.IsListIter i2 l2 (k2 + 1) → IsPair h' s.heap.objs.size x y → h'.objs.size = s.heap.objs.size + 1 →
      (∀ c o, c ≠ z → c ≠ i1 → c ≠ i2 → s.heap.get? c = some o → h'.get? c = some o) → Q (.ref s.heap.objs.size) { s with heap := h' }) :
    wpAny (model prog w) A (Builtin.«zip.__next__» ⟨[.ref z], []⟩) (fun fin s' => ∃ v, fin = .done (.ret v) ∧ Q v s') E s := by
  show wpAny _ _ (field (.ref z) 2 >>= _) _ _ _
  refine wpAny_bind (wpAny_field hz rfl (x := .bool false) rfl ?_)
  show wpAny _ _ (field (.ref z) 3 >>= _) _ _ _
  refine wpAny_bind (wpAny_field hz rfl (x := .ref TI) rfl ?_)
  refine wpAny_bind (wpAny_seqItems hTI rfl ?_)
  show wpAny _ _ (Builtin.SmallTypes.ownedTupleIsFree (.ref z) >>= _) _ _ _
  refine wpAny_bind (notFree hz hT fun h₁ hz₁ hs₁ => ?_)
  rw [if_neg Bool.false_ne_true]
  refine wpAny_bind ?_
  simp only [← Array.forIn_toList, List.forIn_cons, List.forIn_nil]
  refine wpAny_bind (wpAny_bind (wpAny_holding ?_))
  show wpAny _ _ (Builtin.SmallTypes.nextOf (.ref i1) >>= _) _ _ _
  refine wpAny_bind (wpAny_nextOf_list_item (h1.extBut hs₁.extBut D.i1z) (hl1.extBut hs₁.extBut D.l1z) hx fun h₂ h1₂ hs₂ => wpAny_pure (wpAny_pure ?_))
  refine wpAny_bind (wpAny_bind (wpAny_holding ?_))
  show wpAny _ _ (Builtin.SmallTypes.nextOf (.ref i2) >>= _) _ _ _
  refine wpAny_bind (wpAny_nextOf_list_item ((h2.extBut hs₁.extBut D.i2z).extBut hs₂.extBut D.i12.symm) ((hl2.extBut hs₁.extBut D.l2z).extBut hs₂.extBut D.l2i1) hy fun h₃ h2₃ hs₃ => wpAny_pure (wpAny_pure (wpAny_pure ?_)))
  show wpAny _ _ (newTuple [x, y] >>= _) _ _ _
  refine wpAny_bind (wpAny_newTuple (wpAny_pure ⟨_, rfl, ?_⟩))
  have hz₃ : IsZb h₃ z TI TO T true := hs₃.extBut _ _ D.i2z.symm (hs₂.extBut _ _ D.i1z.symm hz₁)
  have hk₃ : ∀ c o, c ≠ z → c ≠ i1 → c ≠ i2 → s.heap.get? c = some o → h₃.get? c = some o := fun c o c1 c3 c4 e => hs₃.extBut _ _ c4 (hs₂.extBut _ _ c3 (hs₁.extBut _ _ c1 e))
  have hsz : h₃.objs.size = s.heap.objs.size := by rw [hs₃.1, hs₂.1, hs₁.1]
  have h1₃ : h₃.IsListIter i1 l1 (k1 + 1) := h1₂.extBut hs₃.extBut D.i12
  show Q (.ref h₃.objs.size) { s with heap := h₃.push (tupO #[x, y]) }
  rw [hsz]
  refine hQ _ (Heap.get?_push_of_some _ hz₃) (h1₃.at fun o e => Heap.get?_push_of_some _ e) (h2₃.at fun o e => Heap.get?_push_of_some _ e) ?_ (by rw [Heap.size_push, hsz]) fun c o c1 c2 c3 e => Heap.get?_push_of_some _ (hk₃ c o c1 c2 c3 e)
  have := Heap.get?_push_size h₃ (o := tupO #[x, y]) rfl
  rwa [hsz] at this
theorem zipB_end {z TI TO T i1 i2 l1 l2 : Addr} {bz : Bool} {k1 k2 : Nat} {xs ys : Array Value} {Q : PySem.Fin → Shared → Prop} (hh : A.handled = none) (D : ZipApart z TI TO i1 i2 l1 l2)
    (hz : IsZb s.heap z TI TO T bz) (hT : (s.heap.get? T).isSome = true) (hTI : IsPair s.heap TI (.ref i1) (.ref i2))
    (h1 : s.heap.IsListIter i1 l1 k1) (h2 : s.heap.IsListIter i2 l2 k2) (hl1 : s.heap.IsList l1 xs) (hl2 : s.heap.IsList l2 ys) (hx : xs[k1]? = none)
    (hE : ∀ h' e, (∀ c o, c ≠ z → c ≠ i1 → c ≠ i2 → s.heap.get? c = some o → h'.get? c = some o) → (∃ o, h'.get? e = some o ∧ o.cls = .type "StopIteration") → E (.ref e) { s with heap := h' }) :
    wpAny (model prog w) A (Builtin.«zip.__next__» ⟨[.ref z], []⟩) Q E s := by
  show wpAny _ _ (field (.ref z) 2 >>= _) _ _ _
  refine wpAny_bind (wpAny_field hz rfl (x := .bool false) rfl ?_)
  show wpAny _ _ (field (.ref z) 3 >>= _) _ _ _
  refine wpAny_bind (wpAny_field hz rfl (x := .ref TI) rfl ?_)
  refine wpAny_bind (wpAny_seqItems hTI rfl ?_)
  show wpAny _ _ (Builtin.SmallTypes.ownedTupleIsFree (.ref z) >>= _) _ _ _
  refine wpAny_bind (notFree hz hT fun h₁ hz₁ hs₁ => ?_)
  rw [if_neg Bool.false_ne_true]
  refine wpAny_bind ?_
  simp only [← Array.forIn_toList, List.forIn_cons, List.forIn_nil]
  refine wpAny_bind (wpAny_bind (wpAny_holding ?_))
  show wpAny _ _ (Builtin.SmallTypes.nextOf (.ref i1) >>= _) _ _ _
  refine wpAny_bind (wpAny_nextOf_list_end hh (h1.extBut hs₁.extBut D.i1z) (hl1.extBut hs₁.extBut D.l1z) hx fun h₂ e hs₂ he => ?_)
  exact hE h₂ e (fun c o c1 c3 _ q => hs₂ _ _ c3 (hs₁.extBut _ _ c1 q)) he
theorem nextB_item {z TI TO T i1 i2 l1 l2 : Addr} {bz : Bool} {k1 k2 : Nat} {xs ys : Array Value} {x y : Value} {Q : Option Value → Shared → Prop} (D : ZipApart z TI TO i1 i2 l1 l2)
    (hz : IsZb s.heap z TI TO T bz) (hT : (s.heap.get? T).isSome = true) (hTI : IsPair s.heap TI (.ref i1) (.ref i2))
    (h1 : s.heap.IsListIter i1 l1 k1) (h2 : s.heap.IsListIter i2 l2 k2) (hl1 : s.heap.IsList l1 xs) (hl2 : s.heap.IsList l2 ys) (hx : xs[k1]? = some x) (hy : ys[k2]? = some y)
    (hQ : ∀ h', IsZb h' z TI TO T true → h'.IsListIter i1 l1 (k1 + 1) → h'.IsListIter i2 l2 (k2 + 1) → IsPair h' s.heap.objs.size x y → h'.objs.size = s.heap.objs.size + 1 →
      (∀ c o, c ≠ z → c ≠ i1 → c ≠ i2 → s.heap.get? c = some o → h'.get? c = some o) → Q (some (.ref s.heap.objs.size)) { s with heap := h' }) :
    wpAny (model prog w) A (pyNext (.ref z)) Q E s := by
  have hT' : s.TypeIs (.ref z) "zip" := ⟨_, hz, rfl⟩
  unfold pyNext
  exact wpAny_bind (wpAny_attempt (wpAny_callSpecial?_slot (name := Str.ofString "__next__") hT' F.slot_zip_next
    (wpAny_call_entry F.slot_zip_next hT' F.entry_zip_next (zipB_item D hz hT hTI h1 h2 hl1 hl2 hx hy fun h' a1 a3 a4 a5 a6 a7 => wpAny_pure (hQ h' a1 a3 a4 a5 a6 a7)) (F.args_zip_next_1 _))))
theorem nextB_end {z TI TO T i1 i2 l1 l2 : Addr} {bz : Bool} {k1 k2 : Nat} {xs ys : Array Value} {Q : Option Value → Shared → Prop} (hh : A.handled = none) (D : ZipApart z TI TO i1 i2 l1 l2)
    (hz : IsZb s.heap z TI TO T bz) (hT : (s.heap.get? T).isSome = true) (hTI : IsPair s.heap TI (.ref i1) (.ref i2))
    (h1 : s.heap.IsListIter i1 l1 k1) (h2 : s.heap.IsListIter i2 l2 k2) (hl1 : s.heap.IsList l1 xs) (hl2 : s.heap.IsList l2 ys) (hx : xs[k1]? = none)
    (hQ : ∀ h', (∀ c o, c ≠ z → c ≠ i1 → c ≠ i2 → s.heap.get? c = some o → h'.get? c = some o) → Q none { s with heap := h' }) : wpAny (model prog w) A (pyNext (.ref z)) Q E s := by
  have hT' : s.TypeIs (.ref z) "zip" := ⟨_, hz, rfl⟩
  unfold pyNext
  refine wpAny_bind (wpAny_attempt (wpAny_callSpecial?_slot (name := Str.ofString "__next__") hT' F.slot_zip_next
    (wpAny_call_entry F.slot_zip_next hT' F.entry_zip_next (zipB_end hh D hz hT hTI h1 h2 hl1 hl2 hx fun h' e hk he => ?_) (F.args_zip_next_1 _))))
  obtain ⟨o, ho, hc⟩ := he
  refine wpAny_bind (wpAny_isInstance (T := "StopIteration") (b := true) ⟨o, ho, hc⟩ isSubtype_stop ?_)
  exact wpAny_pure (hQ _ hk)
end
end Mine.ZD
namespace Mine.ZD
open PySem PySem.W PySem.Calls PyProof.Rows
theorem entry_loop : entryFor table "dict.update.loop" = some Builtin.«dict.update.loop» := by first | exact entryFor_of_fast (by kernel_rfl) | exact entryFor_of_tree (by kernel_rfl)
theorem plain_loop : plainId "dict.update.loop" = true := by decide +kernel
structure ZAt (h : Heap) (z TI TO i1 i2 l1 l2 : Addr) (xs ys : Array Value) (k : Nat) : Prop where
  self : (IsZip h z TI TO .none ∧ ∃ a b, IsPair h TO a b) ∨ ∃ T b, IsZb h z TI TO T b ∧ (h.get? T).isSome = true ∧ T ≠ z ∧ T ≠ i1 ∧ T ≠ i2
  ti : IsPair h TI (.ref i1) (.ref i2)
  i1 : h.IsListIter i1 l1 k
  i2 : h.IsListIter i2 l2 k
  l1 : h.IsList l1 xs
  l2 : h.IsList l2 ys
section
variable {prog : Program} {w : World} {A : Around} {E : Value → Shared → Prop} {s : Shared}
theorem zat_next {z TI TO i1 i2 l1 l2 : Addr} {xs ys : Array Value} {k : Nat} {x y : Value} {Q : Option Value → Shared → Prop} (D : ZipApart z TI TO i1 i2 l1 l2) (Z : ZAt s.heap z TI TO i1 i2 l1 l2 xs ys k) (hx : xs[k]? = some x) (hy : ys[k]? = some y)
    (hQ : ∀ h', ZAt h' z TI TO i1 i2 l1 l2 xs ys (k + 1) → IsPair h' s.heap.objs.size x y → (∀ c o, c ≠ z → c ≠ TO → c ≠ i1 → c ≠ i2 → s.heap.get? c = some o → h'.get? c = some o) → Q (some (.ref s.heap.objs.size)) { s with heap := h' }) :
    wpAny (model prog w) A (pyNext (.ref z)) Q E s := by
  have up : ∀ h', (∀ c o, c ≠ z → c ≠ TO → c ≠ i1 → c ≠ i2 → s.heap.get? c = some o → h'.get? c = some o) → IsPair h' TI (.ref i1) (.ref i2) ∧ h'.IsList l1 xs ∧ h'.IsList l2 ys := fun h' hk =>
    ⟨hk _ _ D.TIz D.TITO D.TIi1 D.TIi2 Z.ti, let ⟨o, e, r⟩ := Z.l1; ⟨o, hk _ _ D.l1z D.l1TO D.l1i1 D.l1i2 e, r⟩, let ⟨o, e, r⟩ := Z.l2; ⟨o, hk _ _ D.l2z D.l2TO D.l2i1 D.l2i2 e, r⟩⟩
  rcases Z.self with ⟨hz, a, b, hTO⟩ | ⟨T, b, hz, hT, t1, t2, t3⟩
  · refine wpAny_pyNext_zip_item D hz Z.ti hTO Z.i1 Z.i2 Z.l1 Z.l2 hx hy fun h' a1 a2 a3 a4 a5 a6 a7 => ?_
    obtain ⟨u1, u2, u3⟩ := up h' a7
    have lz : z < s.heap.objs.size := Heap.lt_size hz
    have li1 : i1 < s.heap.objs.size := by obtain ⟨_, e, _⟩ := Z.i1; exact Heap.lt_size e
    have li2 : i2 < s.heap.objs.size := by obtain ⟨_, e, _⟩ := Z.i2; exact Heap.lt_size e
    exact hQ h' ⟨.inr ⟨s.heap.objs.size, false, a1, by rw [show h'.get? s.heap.objs.size = _ from a5]; rfl, Nat.ne_of_gt lz, Nat.ne_of_gt li1, Nat.ne_of_gt li2⟩, u1, a3, a4, u2, u3⟩ a5 a7
  · refine nextB_item D hz hT Z.ti Z.i1 Z.i2 Z.l1 Z.l2 hx hy fun h' a1 a3 a4 a5 a6 a7 => ?_
    have a7' : ∀ c o, c ≠ z → c ≠ TO → c ≠ i1 → c ≠ i2 → s.heap.get? c = some o → h'.get? c = some o := fun c o c1 _ c3 c4 e => a7 c o c1 c3 c4 e
    obtain ⟨u1, u2, u3⟩ := up h' a7'
    obtain ⟨oT, eT⟩ := Option.isSome_iff_exists.mp hT
    exact hQ h' ⟨.inr ⟨T, true, a1, by rw [a7 T oT t1 t2 t3 eT]; rfl, t1, t2, t3⟩, u1, a3, a4, u2, u3⟩ a5 a7'
theorem zat_end {z TI TO i1 i2 l1 l2 : Addr} {xs ys : Array Value} {k : Nat} {Q : Option Value → Shared → Prop} (hh : A.handled = none) (D : ZipApart z TI TO i1 i2 l1 l2) (Z : ZAt s.heap z TI TO i1 i2 l1 l2 xs ys k) (hx : xs[k]? = none)
    (hQ : ∀ h', (∀ c o, c ≠ z → c ≠ TO → c ≠ i1 → c ≠ i2 → s.heap.get? c = some o → h'.get? c = some o) → Q none { s with heap := h' }) :
    wpAny (model prog w) A (pyNext (.ref z)) Q E s := by
  rcases Z.self with ⟨hz, a, b, hTO⟩ | ⟨T, b, hz, hT, t1, t2, t3⟩
  · exact wpAny_pyNext_zip_end hh D hz Z.ti hTO Z.i1 Z.i2 Z.l1 Z.l2 (.inl hx) hQ
  · exact nextB_end hh D hz hT Z.ti Z.i1 Z.i2 Z.l1 Z.l2 hx fun h' hk => hQ h' fun c o c1 _ c3 c4 e => hk c o c1 c3 c4 e
def storeAll (acc : List (Str × Value)) : List (Str × Value) → List (Str × Value)
  | [] => acc
  | p :: r => storeAll (stored acc p.1 p.2) r
theorem ZAt.keep {h h' : Heap} {d z TI TO i1 i2 l1 l2 : Addr} {xs ys : Array Value} {k : Nat} (Z : ZAt h z TI TO i1 i2 l1 l2 xs ys k) (hd : d ≠ z ∧ d ≠ TI ∧ d ≠ TO ∧ d ≠ i1 ∧ d ≠ i2 ∧ d ≠ l1 ∧ d ≠ l2) (hk : ∀ c o, c ≠ d → h.get? c = some o → h'.get? c = some o) (hs : (h'.get? d).isSome = true) : ZAt h' z TI TO i1 i2 l1 l2 xs ys k := by
  obtain ⟨d1, d2, d3, d4, d5, d6, d7⟩ := hd
  refine ⟨?_, hk _ _ d2.symm Z.ti, let ⟨o, e, r⟩ := Z.i1; ⟨o, hk _ _ d4.symm e, r⟩, let ⟨o, e, r⟩ := Z.i2; ⟨o, hk _ _ d5.symm e, r⟩, let ⟨o, e, r⟩ := Z.l1; ⟨o, hk _ _ d6.symm e, r⟩, let ⟨o, e, r⟩ := Z.l2; ⟨o, hk _ _ d7.symm e, r⟩⟩
  rcases Z.self with ⟨hz, a, b, hTO⟩ | ⟨T, b, hz, hT, t⟩
  · exact .inl ⟨hk _ _ d1.symm hz, a, b, hk _ _ d3.symm hTO⟩
  · refine .inr ⟨T, b, hk _ _ d1.symm hz, ?_, t⟩
    by_cases q : T = d
    · rw [q]; exact hs
    · obtain ⟨o, e⟩ := Option.isSome_iff_exists.mp hT
      rw [hk _ _ q e]; rfl
theorem dict_loop {d z TI TO i1 i2 l1 l2 : Addr} {names : List Str} {vs : List Value} {xs : Array Value} {R : Result → Shared → Prop} (hh : A.handled = none) (D : ZipApart z TI TO i1 i2 l1 l2) (hd : d ≠ z ∧ d ≠ TI ∧ d ≠ TO ∧ d ≠ i1 ∧ d ≠ i2 ∧ d ≠ l1 ∧ d ≠ l2)
    (hxs : ∀ (k : Nat) (x : Str), names[k]? = some x → ∃ t, xs[k]? = some (Value.str x t)) (hxn : xs.size = names.length) (hlen : vs.length = names.length) (hz : names.length ≤ 1000) :
    ∀ (r k : Nat) (acc : List (Str × Value)) (s : Shared), names.length - k = r → k ≤ names.length → acc.length ≤ k → ZAt s.heap z TI TO i1 i2 l1 l2 xs vs.toArray k → s.heap.DictOf (strKind prog w) d acc →
      (∀ h' tk, h'.DictOf (strKind prog w) d (storeAll acc ((names.zip vs).drop k)) → (∀ c o, c ≠ d → c ≠ z → c ≠ TO → c ≠ i1 → c ≠ i2 → s.heap.get? c = some o → h'.get? c = some o) → R (.ok (.ret .none)) { s with heap := h', toks := tk }) →
      codeAny (model prog w) A (.builtin "dict.update.loop" ⟨[.ref d, .ref z, rawInt (k : Nat), .none], []⟩) R s := by
  intro r
  induction r with
  | zero =>
    intro k acc s hr hk ha Z hD hR
    have hkn : k = names.length := by omega
    refine codeAny_builtin entry_loop ?_
    rw [Around.under_plainId plain_loop _]
    show wpAny _ A.in1 (pyNext (.ref z) >>= _) _ _ s
    refine wpAny_bind (zat_end hh D Z (by rw [Array.getElem?_eq_none_iff]; omega) fun h' hk' => ?_)
    refine wpAny_bind (m := Builtin.Dict.addKeywords d []) (wpAny_pure (wpAny_pure ?_))
    have e : (names.zip vs).drop k = [] := by rw [List.drop_eq_nil_iff, List.length_zip]; omega
    rw [e] at hR
    refine hR h' s.toks ?_ fun c o _ c1 c2 c3 c4 q => hk' c o c1 c2 c3 c4 q
    obtain ⟨o, es, ep, e1, rest⟩ := hD
    exact ⟨o, es, ep, hk' d o hd.1 hd.2.2.1 hd.2.2.2.1 hd.2.2.2.2.1 e1, rest⟩
  | succ r ih =>
    intro k acc s hr hk ha Z hD hR
    have hlt : k < names.length := by omega
    obtain ⟨x, hx⟩ : ∃ x, names[k]? = some x := ⟨names[k], List.getElem?_eq_getElem hlt⟩
    obtain ⟨v, hv⟩ : ∃ v, vs[k]? = some v := ⟨vs[k]'(by omega), List.getElem?_eq_getElem (by omega)⟩
    obtain ⟨t, ht⟩ := hxs k x hx
    refine codeAny_builtin entry_loop ?_
    rw [Around.under_plainId plain_loop _]
    show wpAny _ A.in1 (pyNext (.ref z) >>= _) _ _ s
    refine wpAny_bind (zat_next D Z ht (by simpa using hv) fun h' Z' hP hk' => ?_)
    have lD : d < s.heap.objs.size := by obtain ⟨o, es, ep, e1, rest⟩ := hD; exact Heap.lt_size e1
    have hD' : h'.DictOf (strKind prog w) d acc := by
      obtain ⟨o, es, ep, e1, rest⟩ := hD
      exact ⟨o, es, ep, hk' d o hd.1 hd.2.2.1 hd.2.2.2.1 hd.2.2.2.2.1 e1, rest⟩
    refine wpAny_bind (wpAny_holding ?_)
    have pI : wpAny (model prog w) A.in1 ((Builtin.Dict.pairItems (.ref s.heap.objs.size)).tryCatch fun e => do
        if !(← isInstance e (.type "TypeError")) then throw e
        rule "dict.update.element-no-sequence"
        raiseError "TypeError" s!"cannot convert dictionary update sequence element #{(k : Int)} to a sequence") (fun l s' => l = [.str x t, v] ∧ s' = { s with heap := h' }) (fun e s' => R (.error e) s') { s with heap := h' } := by
      refine wpAny_tryCatch ?_
      unfold Builtin.Dict.pairItems
      refine wpAny_bind (wpAny_typeOf (T := "tuple") ⟨_, hP, rfl⟩ ?_)
      rw [if_pos (by decide)]
      refine wpAny_bind (wpAny_seqItems hP rfl (wpAny_pure ⟨rfl, rfl⟩))
    refine wpAny_bind (wpAny_mono pI (fun l s' e => ?_) fun _ _ q => q)
    obtain ⟨rfl, rfl⟩ := e
    refine wpAny_holding (wpAny_dictSet_pairs (k := x) (strKind_is _ _ _ _) hD' (fun h2 hD2 hs2 => ?_) (Nat.le_trans ha (Nat.le_trans hk (Nat.le_trans hz (by rw [sizeLine_eq]; decide)))))
    replace hs2 : Heap.SameBut d h' h2 := hs2
    refine wpAny_pure ⟨plainId_quiet plain_loop _, ?_⟩
    have e1 : rawInt (((k : Nat) : Int) + 1) = rawInt ((k + 1 : Nat) : Int) := rfl
    show codeAny (model prog w) A (.builtin "dict.update.loop" ⟨[.ref d, .ref z, rawInt ((k + 1 : Nat) : Int), .none], []⟩) R { s with heap := h2, toks := s.toks + 1 }
    have Z2 : ZAt h2 z TI TO i1 i2 l1 l2 xs vs.toArray (k + 1) := Z'.keep hd (fun c o c1 e => hs2.extBut c o c1 e) (by obtain ⟨o, _, _, e, _⟩ := hD2; rw [e]; rfl)
    have hle : (stored acc x v).length ≤ k + 1 := by
      unfold stored
      split
      · rw [List.length_map]; omega
      · rw [List.length_append]; simp; omega
    refine ih (k + 1) (stored acc x v) { s with heap := h2, toks := s.toks + 1 } (by omega) hlt hle Z2 hD2 fun h3 tk hD3 hk3 => ?_
    have ez : (names.zip vs).drop k = (x, v) :: (names.zip vs).drop (k + 1) := by
      have : (names.zip vs)[k]? = some (x, v) := by
        rw [List.getElem?_zip_eq_some]
        exact ⟨hx, hv⟩
      obtain ⟨hlt', e⟩ := List.getElem?_eq_some_iff.mp this
      rw [List.drop_eq_getElem_cons hlt', e]
    rw [ez] at hR
    exact hR h3 tk hD3 fun c o c0 c1 c2 c3 c4 e => hk3 c o c0 c1 c2 c3 c4 (hs2.extBut c o c0 (hk' c o c1 c2 c3 c4 e))
end
end Mine.ZD
namespace Mine.ZD
open PySem PySem.W PySem.Calls PyProof.Rows
theorem zip_entry_ga : entryFor table "zip.__getattribute__" = some Builtin.«object.__getattribute__» := by
  first | exact F.entry_zip_getattribute | exact entryFor_alias (id' := "object.__getattribute__") (by kernel_rfl) (by decide +kernel) (by decide +kernel) (by kernel_rfl)
theorem zip_keys : typeLookup (.type "zip") "keys" = pure none := by rw [typeLookup_type, builtinLookup_eq_fast]; kernel_rfl
theorem zip_getattr : typeLookup (.type "zip") "__getattr__" = pure none := by rw [typeLookup_type, builtinLookup_eq_fast]; kernel_rfl
section
variable {prog : Program} {w : World} {A : Around} {E : Value → Shared → Prop} {s : Shared}
set_option maxHeartbeats 4000000 in
theorem zip_no_keys {z : Addr} {ob : Obj} {Q : Option Value → Shared → Prop} (hh : A.handled = none) (hx : s.heap.get? z = some ob) (hc : ob.cls = .type "zip") (hd : ob.dict = none) {fs : Array Value} (hf : ob.data = .fields fs)
    (h : ∀ h' tk, (∀ b o, s.heap.get? b = some o → h'.get? b = some o) → Q none { s with heap := h', toks := tk }) : wpAny (model prog w) A (getAttr? (.ref z) "keys") Q E s := by
  obtain ⟨hp, g, d, t, os⟩ := s
  obtain ⟨cl, dc, dt, sl⟩ := ob
  dsimp only at hc hd hf
  subst hc
  subst hd
  subst hf
  have hT : (⟨hp, g, d, t, os⟩ : Shared).TypeIs (.ref z) "zip" := ⟨_, hx, rfl⟩
  have f1 := sub_AttributeError
  have f3 := F.slot_zip_getattribute.lookup
  have f4 := F.slot_zip_getattribute.bind (.ref z)
  have f5 := zip_getattr
  have f6 := zip_keys
  unfold getAttr? getAttrBy?
  repeat (any_goals (first | assumption | wp_step))
  refine codeAny_call_builtin F.slot_zip_getattribute.plain zip_entry_ga (F.slot_zip_getattribute.check _ _ _ _ _ _ _ _ (show (⟨hp, g, d, t + 1, os⟩ : Shared).TypeIs (.ref z) "zip" from ⟨_, hx, rfl⟩) (F.args_zip_getattribute_2 _ _) ?_)
  show wpAny _ _ (Builtin.«object.__getattribute__» ⟨[.ref z, .str (Str.ofString "keys") t], []⟩) _ _ _
  have hT1 : (⟨hp, g, d, t + 1, os⟩ : Shared).TypeIs (.ref z) "zip" := ⟨_, hx, rfl⟩
  have hx1 : (⟨hp, g, d, t + 1, os⟩ : Shared).heap.get? z = some { cls := .type "zip", dict := none, data := .fields fs, slots := sl } := hx
  unfold Builtin.«object.__getattribute__»
  repeat (any_goals (first | assumption | wp_step))
  have mf : (Str.ofString (toString "'" ++ toString ((Manifest.find? "zip").elim "zip" fun x => x.tpName) ++ toString "' object has no attribute '") ++ Str.ofString "keys" ++ Str.ofString "'").length ≤ sizeLine :=
    attrMsg_fits (by decide +kernel) (by rw [sizeLine_eq]; decide +kernel)
  refine wpAny_raiseAttrError hh (fun h' tk e hn => ?_) mf
  obtain ⟨t', u', he⟩ := hn.there
  show wpAny _ _ (getattributeRaised _ _ _ _ _ _ _) _ _ _
  unfold getattributeRaised
  repeat (any_goals (first | assumption | wp_step))
  exact h h' tk hn.keeps
end
end Mine.ZD
namespace Mine.ZD
open PySem PySem.W PySem.Calls PyProof.Rows
section
variable {prog : Program} {w : World} {A : Around} {E : Value → Shared → Prop} {s : Shared}
theorem dict_of_zip {z TI TO i1 i2 l1 l2 : Addr} {a b : Value} {names : List Str} {vs : List Value} {xs : Array Value} {Q : Value → Shared → Prop} (hh : A.handled = none) (D : ZipApart z TI TO i1 i2 l1 l2)
    (hxs : ∀ (k : Nat) (x : Str), names[k]? = some x → ∃ t, xs[k]? = some (Value.str x t)) (hxn : xs.size = names.length) (hlen : vs.length = names.length) (hz : names.length ≤ 1000)
    (z1 : IsZip s.heap z TI TO .none) (z2 : IsPair s.heap TO a b) (z3 : IsPair s.heap TI (.ref i1) (.ref i2)) (z4 : s.heap.IsListIter i1 l1 0) (z5 : s.heap.IsListIter i2 l2 0) (z6 : s.heap.IsList l1 xs) (z7 : s.heap.IsList l2 vs.toArray)
    (h : ∀ h' tk, h'.DictOf (strKind prog w) s.heap.objs.size (storeAll [] (names.zip vs)) → (∀ c o, c ≠ z → c ≠ TO → c ≠ i1 → c ≠ i2 → s.heap.get? c = some o → h'.get? c = some o) → Q (.ref s.heap.objs.size) { s with heap := h', toks := tk }) :
    wpAny (model prog w) A (call (.type "dict") [.ref z]) Q E s := by
  refine callType_codes (Q₁ := fun obj s₁ => obj = .ref s.heap.objs.size ∧ s₁ = { s with heap := s.heap.push { cls := .type "dict", data := .dict #[] } }) F.kt_called_dict (F.kt_typeCall_dict_1 _) F.entry_dict_init (kt_code_dict_new _ ⟨rfl, rfl⟩) ?_
  rintro obj s₁ ⟨rfl, rfl⟩
  have hnew : (s.heap.push { cls := .type "dict", data := .dict #[] }).DictOf (strKind prog w) s.heap.objs.size [] := Heap.DictOf.new s.heap
  have up : ∀ c o, s.heap.get? c = some o → (s.heap.push { cls := .type "dict", data := .dict #[] }).get? c = some o := fun c o e => Heap.get?_push_of_some _ e
  have lt : ∀ c o, s.heap.get? c = some o → s.heap.objs.size ≠ c := fun c o e => Nat.ne_of_gt (Heap.lt_size e)
  have hT : (({ s with heap := s.heap.push { cls := .type "dict", data := .dict #[] } } : Shared)).TypeIs (.ref z) "zip" := ⟨_, up _ _ z1, rfl⟩
  refine ⟨hnew.typeIs, F.args_dict_init_2 _ _, ?_⟩
  unfold Builtin.«dict.__init__»
  refine wpAny_bind ?_
  unfold Builtin.Dict.selfAndRest
  refine wpAny_bind (wpAny_notOrdered_dict hnew.typeIs ?_)
  show wpAny _ _ (pure (s.heap.objs.size, [Value.ref z])) _ _ _
  refine wpAny_pure ?_
  show wpAny _ _ (Builtin.Dict.updateFrom "dict.__init__" s.heap.objs.size (.ref z) [] .none) _ _ _
  unfold Builtin.Dict.updateFrom
  refine wpAny_bind (wpAny_typeOf hT ?_)
  rw [if_pos (by decide)]
  refine wpAny_bind (zip_no_keys hh (up _ _ z1) rfl rfl rfl fun h' tk hk => ?_)
  replace hk : ∀ b o, (s.heap.push { cls := .type "dict", data := .dict #[] }).get? b = some o → h'.get? b = some o := hk
  have k2 : ∀ c o, s.heap.get? c = some o → h'.get? c = some o := fun c o e => hk c o (up c o e)
  rw [if_pos (show (none : Option Value).isNone = true from rfl)]
  refine wpAny_bind (wpAny_rule ?_)
  refine wpAny_bind (wpAny_pyIter_zip (k2 _ _ z1) ?_)
  refine wpAny_pure ⟨plainId_quiet plain_loop _, ?_⟩
  have li1 : s.heap.objs.size ≠ i1 := by obtain ⟨o, e, _⟩ := z4; exact lt _ _ e
  have li2 : s.heap.objs.size ≠ i2 := by obtain ⟨o, e, _⟩ := z5; exact lt _ _ e
  have ll1 : s.heap.objs.size ≠ l1 := by obtain ⟨o, e, _⟩ := z6; exact lt _ _ e
  have ll2 : s.heap.objs.size ≠ l2 := by obtain ⟨o, e, _⟩ := z7; exact lt _ _ e
  refine dict_loop (A := A.in1) (names := names) (vs := vs) (xs := xs) (TI := TI) (TO := TO) (i1 := i1) (i2 := i2) (l1 := l1) (l2 := l2) hh D ⟨lt _ _ z1, lt _ _ z3, lt _ _ z2, li1, li2, ll1, ll2⟩ hxs hxn hlen hz names.length 0 [] { s with heap := h', toks := tk } rfl (Nat.zero_le _) (Nat.zero_le _)
    ⟨.inl ⟨k2 _ _ z1, a, b, k2 _ _ z2⟩, k2 _ _ z3, z4.at fun o e => k2 _ o e, z5.at fun o e => k2 _ o e, z6.at fun o e => k2 _ o e, z7.at fun o e => k2 _ o e⟩ ?_ fun h2 tk2 hD2 hk2 => ?_
  · obtain ⟨o, es, ep, e1, rest⟩ := hnew
    exact ⟨o, es, ep, hk _ o e1, rest⟩
  · refine ⟨rfl, h h2 tk2 ?_ fun c o c1 c2 c3 c4 e => hk2 c o (Ne.symm (lt c o e)) c1 c2 c3 c4 (k2 c o e)⟩
    exact hD2
end
end Mine.ZD
namespace Mine
open PySem PySem.W PySem.Calls PyProof.Rows
section
variable {c : Cx} {p : Ev} {n : Nat} {f : Fm} {kp : List Addr} {A : Around} {z : Sit} {st : St} {s : Shared}
theorem args_ok (ok : EOk c p n) (h : Rel c f kp z st s) (hA : AOk A f n st.md) (pos : Pos) {gv : Value} {es : List Expr} (hs : es.all plainE = true) (hne : es ≠ []) {vs : List V} {st1 : St} (hl : evalL p es st = .ok vs st1) {Q : Args → Shared → Prop} {E : Value → Shared → Prop}
    (k : ∀ us z1 s1, After c f kp z st s z1 st1 s1 → VRs z1.ρ st1.nxt c.B vs us → Q ⟨us, []⟩ s1) :
    wpAny (model c.prog c.w) A (evalArgs gv true (backTo pos (starEach es f.env)) (backToKw pos (keywordEach [] f.env))) Q E s := by
  cases es with
  | nil => exact absurd rfl hne
  | cons e rest =>
    rw [List.all_cons, Bool.and_eq_true] at hs
    have hL := evalL_sound ok pos (e :: rest) h hA
    rw [hl] at hL
    refine evalArgs_kw2 (kws := []) rfl ?_ (starEach_cons hs.1 rest f.env)
    exact wpAny_mono hL (fun us s1 ⟨z1, a1, pv⟩ => wpAny_evalAll_nil (k us z1 s1 a1 pv)) fun _ _ x => x.elim
theorem callW (ok : EOk c p n) (h : Rel c f kp z st s) (hA : AOk A f n st.md) (pos : Pos) {gv : Value} {first : List Value} {es : List Expr} (hs : es.all plainE = true) (hne : es ≠ []) (hg : ∀ a, gv ≠ .ref a) {vs : List V} {st1 : St} (hl : evalL p es st = .ok vs st1) {Q : Value → Shared → Prop} {E : Value → Shared → Prop}
    (k : ∀ us z1 s1, After c f kp z st s z1 st1 s1 → VRs z1.ρ st1.nxt c.B vs us → wpAny (model c.prog c.w) A (PySem.call gv (first ++ us) []) Q E s1) :
    wpAny (model c.prog c.w) A (callWith pos gv first (backTo pos (starEach es f.env)) (backToKw pos (keywordEach [] f.env))) Q E s :=
  callWith_of (P := fun _ => True) (by rw [noStar pos f.env es hs]; rfl) (fun hp _ => keeps_calleeT hg hp) (args_ok ok h hA pos hs hne hl fun us z1 s1 a1 pv => ⟨trivial, k us z1 s1 a1 pv⟩)
end
def fromBV : V → V → M V
  | .bytes b, .str e => if e = ("little" : Str) ∧ b.length ≤ 8 then ret (.int (leNat b)) else stuck "from_bytes"
  | _, _ => stuck "from_bytes"
def fromB (p : Ev) (ip : Pos) (x e : Expr) : M V := noErr (bind (p.expr (.Name "int" ip)) fun g => if g = .type "int" then bind (evalL p [x, e]) fun vs => (match vs with
  | [a, b] => fromBV a b
  | _ => stuck "from_bytes") else stuck "from_bytes")
theorem leNat_value : ∀ b : List UInt8, KFB.value ((b.map fun c => ((c.toNat : Nat) : Int)).reverse) = (leNat b : Nat)
  | [] => rfl
  | a :: r => by
    have ih := leNat_value r
    unfold KFB.value at ih ⊢
    rw [List.map_cons, List.reverse_cons, List.foldl_append, ih]
    show ((leNat r : Nat) : Int) * 256 + (a.toNat : Nat) = ((a.toNat + 256 * leNat r : Nat) : Int)
    push_cast
    omega
section
variable {c : Cx} {p : Ev} {n : Nat} {f : Fm} {kp : List Addr} {A : Around} {z : Sit} {st : St} {s : Shared}
theorem getm_fb {pl : Sem Bool} {Q : Value × List Value → Shared → Prop} {E : Value → Shared → Prop} (h : Q (.ref s.heap.objs.size, []) { s with heap := s.heap.push KFB.bound, toks := s.toks + 1 }) :
    wpAny (model c.prog c.w) A (getMethod (.type "int") (PySem.Str.ofString "from_bytes") pl) Q E s := by
  have X : Frag.In ([] : Frag) s.heap := fun a o e => by cases e
  have hstub : opaqueClassAbove (.type "int") = pure none := by unfold opaqueClassAbove; dsimp only; rw [show Manifest.isStub "int" = false by decide +kernel]; rfl
  have ht : typeOf (.type "int") = pure (.type "type") := by first | rfl | kernel_rfl
  have L0 : Looks (model c.prog c.w) s.heap (typeOf (.type "int")) (.type "type") := Looks.of_pure ht
  have hg : findIn ([] : Frag) (.type "type") "__getattribute__" = some (some (.builtin "type.__getattribute__")) := type_tga
  unfold getMethod specialOf
  refine wpAny_bind (wpAny_bind (L0.here ((looks_findIn X hg).here ?_)))
  dsimp only
  rw [if_pos canon_tga]
  refine wpAny_bind (wpAny_mono (Q := fun v => Q (v, [])) (E := E) ?_ (fun _ _ z => wpAny_pure z) fun _ _ z => z)
  have LO : Looks (model c.prog c.w) s.heap (opaqueClassAbove (.type "int")) none := Looks.of_pure hstub
  have e : findCls ([] : Frag) (.type "int") (.type "type") (PySem.Str.ofString "from_bytes") = some (.get (.builtin "classmethod_descriptor.__get__") (.builtin "int.from_bytes") .none (.type "int")) := by kernel_rfl
  refine cls_open X LO L0 hg (looks_hook X (r := none) (by rfl)) (by show subIn [] _ _ = _; rfl) e ?_
  show wpAny _ _ (holding [.builtin "int.from_bytes"] (call (.builtin "classmethod_descriptor.__get__") [.builtin "int.from_bytes", .none, .type "int"]) >>= fun v => PySem.ret v) _ _ _
  refine wpAny_bind (wpAny_holding (wpAny_call_entry KFB.slot_get KFB.type_fb KFB.entry_get (KFB.run_get ⟨_, rfl, wpAny_pure (wpAny_pure h)⟩) (KFB.args_get _ _ _)))
theorem fromB_sound (ok : EOk c p n) (h : Rel c f kp z st s) (hA : AOk A f n st.md) (ip ap pos : Pos) (x e : Expr) (hx : plainE x = true) (he : plainE e = true) (hl : ap.endLine == pos.line) :
    Snd c f kp A (eval (.Call (.Attribute (.Name "int" ip) "from_bytes" ap) [x, e] [] pos) f.env) (fromB p ip x e st) (VP c.B) z st s := by
  unfold fromB
  refine Snd.noErr fun r st' hr => ?_
  obtain ⟨g, st1, e1, hr⟩ := bind_ok hr
  split at hr
  · rename_i hg
    subst hg
    obtain ⟨vs, st2, e2, hr⟩ := bind_ok hr
    have hs : [x, e].all plainE = true := by rw [List.all_cons, List.all_cons, hx, he]; rfl
    have few : methodCallForm ([x, e].length + ([] : List Keyword).length) (backTo pos (starEach [x, e] f.env)) (backToKw pos (keywordEach [] f.env)) = true := by
      unfold methodCallForm
      rw [noStar' pos f.env [x, e] hs, kwAll pos f.env [] rfl, Bool.true_and, Bool.true_and]
      exact decide_eq_true (by split <;> simp)
    have e0 : eval (.Call (.Attribute (.Name "int" ip) "from_bytes" ap) [x, e] [] pos) f.env = (eval (.Name "int" ip) f.env >>= fun ov => PySem.standAt ap.atName >>= fun _ => PySem.holding [ov] (getMethod ov "from_bytes" (do return (← importBound (.Name "int" ip) f.env).getD true)) >>= fun fx => callWith pos fx.1 fx.2 (backTo pos (starEach [x, e] f.env)) (backToKw pos (keywordEach [] f.env))) := by
      show (attributeBase (.Name "int" ip) "from_bytes" f.env (eval (.Name "int" ip) f.env) >>= fun ov => PySem.standAt ap.atName >>= fun _ => methodCall (.Name "int" ip) "from_bytes" ap pos f.env ov ([x, e].length + ([] : List Keyword).length) (backTo pos (starEach [x, e] f.env)) (backToKw pos (keywordEach [] f.env))) = _
      rw [base_plain rfl]
      congr 1
      funext ov
      congr 1
      funext _
      unfold methodCall calleeOf methodCallPos
      rw [few]
      simp only [if_true, Bool.not_true, Bool.false_or, hl, pure_bind]
    rw [e0]
    have h1 := ok.expr h hA (.Name "int" ip)
    rw [e1] at h1
    refine wpAny_bind (wpAny_mono h1 (fun gv s1 ⟨z1, a1, pg⟩ => ?_) fun _ _ q => q.elim)
    rw [VR.inj_type pg]
    refine wpAny_bind (wpAny_standAt (wpAny_bind (wpAny_holding (getm_fb ?_))))
    have hno := get?_size s1.heap
    have ap' := a1.rel.fresh hno
    have g1 : After c f kp z1 st1 s1 z1 st1 { s1 with heap := s1.heap.push KFB.bound } := a1.rel.grown fun b o q => Heap.get?_push_of_some _ q
    have g2 := g1.trans (After.tok g1.rel (s1.toks + 1))
    have hb : (s1.heap.push KFB.bound).get? s1.heap.objs.size = some KFB.bound := Heap.get?_push_size _ rfl
    have hr2 : Rel c f (s1.heap.objs.size :: kp) z1 st1 { s1 with heap := s1.heap.push KFB.bound, toks := s1.toks + 1 } := g2.rel.hold (by show ((s1.heap.push KFB.bound).get? _).isSome = true; rw [hb]; rfl) ap'
    refine KFB.callWith_fields (by rw [noStar pos f.env [x, e] hs]) ?_
    refine args_ok ok hr2 (hA.after a1) pos hs (by intro q; cases q) e2 fun us z2 s2 a2 pv => ⟨a2.keep _ (.head _) _ hb, ?_⟩
    cases pv with
    | nil => cases hr
    | cons pa pv =>
      cases pv with
      | nil => cases hr
      | cons pb pv =>
        cases pv with
        | cons _ _ => cases hr
        | nil =>
          rename_i va ua vb ub
          dsimp only at hr
          unfold fromBV at hr
          split at hr
          · rename_i b eo
            split at hr
            · rename_i hq
              obtain ⟨rfl, hq⟩ := hq
              cases hr
              obtain ⟨tb, rfl⟩ := pa.inj_bytes
              obtain ⟨te, rfl⟩ := pb.inj_str
              refine KFB.call_of (a2.keep _ (.head _) _ hb) (fun z => KFB.tree_little (by simpa using hq) z) ?_
              have a3 := After.tok a2.rel.drop (s2.toks + 1)
              refine ⟨z2, ((a1.trans g2).trans a2.drop).trans a3, ?_⟩
              have ev : KFB.value (KBw.bInts b.toArray).reverse = (leNat b : Nat) := leNat_value b
              rw [ev]
              exact .int _ _
            · cases hr
          · cases hr
  · cases hr
end
end Mine
namespace Mine
open PySem PySem.W PySem.Calls PyProof.Rows
def strsOf : List V → Option (List Str)
  | [] => some []
  | .str s :: r => (strsOf r).map (s :: ·)
  | _ :: _ => Option.none
def oldStrs (K : Frag) (l : Addr) : Option (List Str) := match K.lookup l with
  | some ⟨.type t, _, .seq _ _, _⟩ => if t = "list" then (oldList K l).bind strsOf else Option.none
  | _ => Option.none
def putAll (acc : List (Nat × V)) : List (Str × V) → List (Nat × V)
  | [] => acc
  | p :: r => putAll (put (nid p.1) p.2 acc) r
def dictZV (K : Frag) : V → V → M V
  | .old l, .ref r => calm (match oldStrs K l with
    | some names => bind (getO r) fun ob => (match ob with
      | .list vs => if names.length = vs.length ∧ names.length ≤ 1000 ∧ names.all (fun x => nid x != 0) = true then alloc (.dict (putAll [] (names.zip vs))) else stuck "dict of zip"
      | _ => stuck "dict of zip")
    | Option.none => stuck "dict of zip")
  | _, _ => stuck "dict of zip"
def dictZ (K : Frag) (p : Ev) (dp zp : Pos) (a b : Expr) : M V := noErr (bind (p.expr (.Name "dict" dp)) fun g => if g = .type "dict" then bind (p.expr (.Name "zip" zp)) fun g => if g = .type "zip" then bind (evalL p [a, b]) fun vs => (match vs with
  | [x, y] => dictZV K x y
  | _ => stuck "dict of zip") else stuck "dict of zip" else stuck "dict of zip")
theorem strsOf_get {c : Cx} (hc : c.Ok) : ∀ {vs : List Value} {xs : List V} {names : List Str}, vs.mapM (vOf c.K) = some xs → strsOf xs = some names → names.length = vs.length ∧ ∀ (k : Nat) (x : Str), names[k]? = some x → ∃ t, vs[k]? = some (Value.str x t)
  | [], xs, names, h, e => by
    simp at h
    subst h
    cases e
    exact ⟨rfl, fun k x q => by simp at q⟩
  | v :: vs, xs, names, h, e => by
    rw [List.mapM_cons] at h
    cases e1 : vOf c.K v with
    | none => rw [e1] at h; cases h
    | some x =>
      cases e2 : vs.mapM (vOf c.K) with
      | none => rw [e1, e2] at h; cases h
      | some ys =>
        rw [e1, e2] at h
        cases h
        cases x <;> try cases e
        rename_i sx
        unfold strsOf at e
        cases e3 : strsOf ys with
        | none => rw [e3] at e; cases e
        | some ns =>
          rw [e3] at e
          cases e
          obtain ⟨i1, i2⟩ := strsOf_get hc e2 e3
          refine ⟨by simp [i1], fun k x q => ?_⟩
          cases k with
          | zero =>
            simp only [List.getElem?_cons_zero, Option.some.injEq] at q
            subst q
            have := vOf_sound hc e1 (fun _ => 0) 0
            obtain ⟨t, rfl⟩ := this.inj_str
            exact ⟨t, rfl⟩
          | succ k => exact i2 k x (by simpa using q)
section
variable {c : Cx} {p : Ev} {n : Nat} {f : Fm} {kp : List Addr} {A : Around} {z : Sit} {st : St} {s : Shared}
theorem stored_nodup {kvs : List (Str × Value)} (h : (kvs.map (·.1)).Nodup) (k : Str) (v : Value) : ((stored kvs k v).map (·.1)).Nodup := by
  unfold stored
  split
  · rename_i q
    have : (kvs.map fun kv => if kv.1 = k then (kv.1, v) else kv).map (·.1) = kvs.map (·.1) := by
      rw [List.map_map]
      refine List.map_congr_left fun a _ => ?_
      show (if a.1 = k then (a.1, v) else a).1 = a.1
      split <;> rfl
    rw [this]
    exact h
  · rename_i q
    rw [List.map_append, List.nodup_append]
    refine ⟨h, by simp, fun a ha b hb e => ?_⟩
    simp only [List.map_cons, List.map_nil, List.mem_singleton] at hb
    subst hb
    subst e
    obtain ⟨kv, hkv, e2⟩ := List.mem_map.mp ha
    exact q (List.any_eq_true.mpr ⟨kv, hkv, by simpa using e2⟩)
theorem putAll_rel {ρ : Nat → Addr} {m : Nat} {B : Heap} : ∀ {l : List (Str × V)} {l' : List (Str × Value)}, All2 (fun a b => b.1 = a.1 ∧ nid a.1 ≠ 0 ∧ VR ρ m B a.2 b.2) l l' → ∀ {acc : List (Nat × V)} {acc' : List (Str × Value)}, All2 (DR ρ m B) acc acc' → (acc'.map (·.1)).Nodup →
    All2 (DR ρ m B) (putAll acc l) (ZD.storeAll acc' l')
  | _, _, .nil, _, _, h, _ => h
  | _, _, .cons (a := a) (b := b) ⟨e, h0, hv⟩ t, acc, acc', h, hn => by
    unfold putAll ZD.storeAll
    rw [e]
    exact putAll_rel t (dict_put h0 hv h hn) (stored_nodup hn _ _)
theorem zipS_rel {ρ : Nat → Addr} {m : Nat} {B : Heap} : ∀ {names : List Str} {vs : List V} {us : List Value}, names.all (fun x => nid x != 0) = true → VRs ρ m B vs us → All2 (fun (a : Str × V) (b : Str × Value) => b.1 = a.1 ∧ nid a.1 ≠ 0 ∧ VR ρ m B a.2 b.2) (names.zip vs) (names.zip us)
  | [], _, _, _, _ => .nil
  | _ :: _, _, _, _, .nil => .nil
  | x :: r, _, _, hn, .cons hv t => by
    rw [List.all_cons, Bool.and_eq_true] at hn
    exact .cons ⟨rfl, by simpa using hn.1, hv⟩ (zipS_rel hn.2 t)
theorem zapart (m l r : Nat) (hl : l < m) (hr : r < m) : ZipApart (m + 4) (m + 2) (m + 3) m (m + 1) l r := by
  refine ⟨?_, ?_, ?_, ?_, ?_, ?_, ?_, ?_, ?_, ?_, ?_, ?_, ?_, ?_, ?_, ?_, ?_, ?_⟩ <;> (intro q; have q : (_ : Nat) = (_ : Nat) := q; omega)
theorem ne4 {x m : Nat} (h : x < m) (k : Nat) : x ≠ m + k := by omega
theorem dictZ_sound (hc : c.Ok) (ok : EOk c p n) (h : Rel c f kp z st s) (hA : AOk A f n st.md) (dp zp cp pos : Pos) (a b : Expr) (ha : plainE a = true) (hb : plainE b = true) :
    Snd c f kp A (eval (.Call (.Name "dict" dp) [.Call (.Name "zip" zp) [a, b] [] cp] [] pos) f.env) (dictZ c.K p dp zp a b st) (VP c.B) z st s := by
  unfold dictZ
  refine Snd.noErr fun r st' hr => ?_
  obtain ⟨g, st1, e1, hr⟩ := bind_ok hr
  split at hr
  · rename_i hg
    subst hg
    obtain ⟨g, st2, e2, hr⟩ := bind_ok hr
    split at hr
    · rename_i hg
      subst hg
      obtain ⟨vs, st3, e3, hr⟩ := bind_ok hr
      have hs : [a, b].all plainE = true := by rw [List.all_cons, List.all_cons, ha, hb]; rfl
      have hs1 : [Expr.Call (.Name "zip" zp) [a, b] [] cp].all plainE = true := rfl
      show wpAny (model c.prog c.w) A (eval (.Name "dict" dp) f.env >>= fun g => callWith pos g [] (backTo pos (starEach [.Call (.Name "zip" zp) [a, b] [] cp] f.env)) (backToKw pos (keywordEach [] f.env))) _ _ s
      have h1 := ok.expr h hA (.Name "dict" dp)
      rw [e1] at h1
      refine wpAny_bind (wpAny_mono h1 (fun gv s1 ⟨z1, a1, pg⟩ => ?_) fun _ _ q => q.elim)
      rw [VR.inj_type pg]
      refine callWith_of (P := fun _ => True) (by rw [noStar pos f.env _ hs1]; rfl) (fun hp _ => keeps_calleeT (fun a e => by cases e) hp) ?_
      refine evalArgs_kw2 (kws := []) rfl ?_ (starEach_cons rfl [] f.env)
      show wpAny (model c.prog c.w) A ((eval (.Name "zip" zp) f.env >>= fun g => callWith cp g [] (backTo cp (starEach [a, b] f.env)) (backToKw cp (keywordEach [] f.env))) >>= fun v => pure [v] >>= fun here => PySem.holding here (spliced (backTo pos (starEach [] f.env))) >>= fun vs => pure (here ++ vs)) _ _ s1
      refine wpAny_bind (wpAny_bind ?_)
      have h2 := ok.expr a1.rel (hA.after a1) (.Name "zip" zp)
      rw [e2] at h2
      refine wpAny_mono h2 (fun gv s2 ⟨z2, a2, pg⟩ => ?_) fun _ _ q => q.elim
      rw [VR.inj_type pg]
      refine callW ok a2.rel ((hA.after a1).after a2) cp hs (by intro q; cases q) (fun a e => by cases e) e3 fun us z3 s3 a3 pv => ?_
      cases pv with
      | nil => cases hr
      | cons pa pv =>
        cases pv with
        | nil => cases hr
        | cons pb pv =>
          cases pv with
          | cons _ _ => cases hr
          | nil =>
            rename_i va ua vb ub
            dsimp only at hr
            unfold dictZV at hr
            split at hr
            · rename_i l r'
              unfold Mine.calm at hr
              split at hr
              · cases hr
              · rename_i hd
                have hd : st3.md.hd = false := by simpa using hd
                cases en : oldStrs c.K l with
                | none => rw [en] at hr; cases hr
                | some names =>
                  rw [en] at hr
                  obtain ⟨ob, st4, e4, hr⟩ := bind_ok hr
                  unfold Mine.getO at e4
                  split at e4
                  · rename_i hlt
                    injection e4 with e5 e6
                    subst e6
                    cases er : st3.obj r' <;> rw [er] at e5 <;> subst e5 <;> try cases hr
                    rename_i vs
                    dsimp only at hr
                    split at hr
                    · rename_i hq
                      obtain ⟨q1, q2, q3⟩ := hq
                      cases hr
                      rw [pa.inj_old]
                      obtain ⟨rfl, _⟩ := pb.inj_ref
                      have R3 := a3.rel
                      obtain ⟨us, ep, el, rl⟩ := R3.lst hlt er
                      unfold oldStrs at en
                      split at en
                      · rename_i t dd xs nn sl ek
                        split at en
                        · rename_i ht
                          subst ht
                          obtain ⟨ys, ey, en⟩ := Option.bind_eq_some_iff.mp en
                          unfold oldList at ey
                          rw [ek] at ey
                          obtain ⟨g1, g2⟩ := strsOf_get hc ey en
                          have hL1 : s3.heap.IsList l xs := ⟨_, R3.inK hc _ _ ek, rfl, nn, rfl⟩
                          have hL2 : s3.heap.IsList (z3.ρ r') us := ⟨_, el, rfl, ep, rfl⟩
                          have hlu : us.toList.length = names.length := by rw [← rl.length]; exact q1.symm
                          have lt1 : l < s3.heap.objs.size := Heap.lt_size (R3.inK hc _ _ ek)
                          have lt2 : z3.ρ r' < s3.heap.objs.size := Heap.lt_size el
                          refine call_zip_2 hL1 hL2 fun h' w1 w2 w3 w4 w5 w6 w7 => ?_
                          refine wpAny_bind (wpAny_pure (wpAny_bind (wpAny_holding (wpAny_pure (wpAny_pure ?_)))))
                          refine wpAny_evalAll_nil ⟨trivial, ?_⟩
                          have D : ZipApart (s3.heap.objs.size + 4) (s3.heap.objs.size + 2) (s3.heap.objs.size + 3) s3.heap.objs.size (s3.heap.objs.size + 1) l (z3.ρ r') := zapart _ _ _ lt1 lt2
                          refine ZD.dict_of_zip (names := names) (vs := us.toList) (xs := xs) (hA.handled (by rw [← hd, a3.hd, a2.hd, a1.hd])) D (fun k x q => by obtain ⟨t, e⟩ := g2 k x q; exact ⟨t, by simpa using e⟩) (by rw [g1]; simp) hlu q2 w1 w3 w2 w4 w5 ⟨_, w7 _ _ (R3.inK hc _ _ ek), rfl, nn, rfl⟩ ?_ fun h2 tk hD2 hk2 => ?_
                          · refine ⟨_, w7 _ _ el, rfl, ep, ?_⟩
                            simp
                          · have big : ∀ x o, s3.heap.get? x = some o → x < s3.heap.objs.size := fun x o e => Heap.lt_size e
                            have hk3 : ∀ x o, s3.heap.get? x = some o → h2.get? x = some o := fun x o e => by
                              have := big x o e
                              exact hk2 x o (ne4 this 4) (ne4 this 3) (ne4 this 0) (ne4 this 1) (w7 x o e)
                            have hnone : s3.heap.get? h'.objs.size = none := by
                              cases q : s3.heap.get? h'.objs.size with
                              | none => rfl
                              | some o =>
                                have := big _ _ q
                                rw [w6] at this
                                exact absurd this (Nat.not_lt.mpr (Nat.le_add_right _ _))
                            have hsome : (h2.get? h'.objs.size).isSome = true := by obtain ⟨o, _, _, e, _⟩ := hD2; rw [e]; rfl
                            have al := Rel.alloc (h' := h2) (a := h'.objs.size) (d := h'.objs.size) (o := .dict (putAll [] (names.zip vs))) R3 hk3 ⟨hnone, hsome⟩ ⟨hnone, hsome⟩ (fun w => by cases w)
                              ⟨_, hD2, putAll_rel (zipS_rel q3 (VRs.up rl)) .nil List.nodup_nil⟩
                            exact ⟨_, ((((a1.trans a2).trans a3).trans al).trans (After.tok al.rel tk)), VR.new⟩
                        · cases en
                      · cases en
                    · cases hr
                  · cases e4
            · cases hr
    · cases hr
  · cases hr
end
end Mine
namespace Mine
open PySem PySem.W PySem.Calls PyProof.Rows
def keysS (p : Ev) (o : Expr) (orelse : List Stmt) : M Fl := noErr (bind (p.expr o) fun v => (match v with
  | .ref r => calm (bind (getO r) fun ob => (match ob with
    | .dict [] => execL p orelse
    | _ => stuck "keys of a dict that is not empty"))
  | _ => stuck "keys"))
section
variable {c : Cx} {p : Ev} {n : Nat} {f : Fm} {kp : List Addr} {A : Around} {z : Sit} {st : St} {s : Shared}
theorem keysS_sound (hc : c.Ok) (ok : EOk c p n) (h : Rel c f kp z st s) (hA : AOk A f n st.md) (t o : Expr) (body orelse : List Stmt) (ap cp pos : Pos) (ho : notSuper o = true) (hl : (ap.endLine == cp.line) = true) :
    Snd c f kp A (exec (.For t (.Call (.Attribute o "keys" ap) [] [] cp) body orelse pos) f.env) (keysS p o orelse st) (FlR c.B) z st s := by
  unfold keysS
  refine Snd.noErr fun fin stf hr => ?_
  obtain ⟨v, st1, e1, hr⟩ := bind_ok hr
  cases v <;> try cases hr
  rename_i r
  dsimp only at hr
  unfold Mine.calm at hr
  split at hr
  · cases hr
  · rename_i hd
    have hd : st1.md.hd = false := by simpa using hd
    obtain ⟨ob, st2, e2, hr⟩ := bind_ok hr
    unfold Mine.getO at e2
    split at e2
    · rename_i hlt
      injection e2 with e3 e4
      subst e4
      cases er : st1.obj r <;> rw [er] at e3 <;> subst e3 <;> try cases hr
      rename_i es
      cases es with
      | cons _ _ => cases hr
      | nil =>
        dsimp only at hr
        have few : methodCallForm (([] : List Expr).length + ([] : List Keyword).length) (backTo cp (starEach [] f.env)) (backToKw cp (keywordEach [] f.env)) = true := by
          unfold methodCallForm
          rw [noStar' cp f.env [] rfl, kwAll cp f.env [] rfl, Bool.true_and, Bool.true_and]
          exact decide_eq_true (by split <;> simp)
        have e0 : eval (.Call (.Attribute o "keys" ap) [] [] cp) f.env = (eval o f.env >>= fun ov => PySem.standAt ap.atName >>= fun _ => PySem.holding [ov] (getMethod ov "keys" (do return (← importBound o f.env).getD true)) >>= fun fx => callWith cp fx.1 fx.2 (backTo cp (starEach [] f.env)) (backToKw cp (keywordEach [] f.env))) := by
          show (attributeBase o "keys" f.env (eval o f.env) >>= fun ov => PySem.standAt ap.atName >>= fun _ => methodCall o "keys" ap cp f.env ov (([] : List Expr).length + ([] : List Keyword).length) (backTo cp (starEach [] f.env)) (backToKw cp (keywordEach [] f.env))) = _
          rw [base_plain ho]
          congr 1
          funext ov
          congr 1
          funext _
          unfold methodCall calleeOf methodCallPos
          rw [few]
          simp only [if_true, Bool.not_true, Bool.false_or, hl, pure_bind]
        show wpAny (model c.prog c.w) A (PySem.standAt pos >>= fun _ => eval (.Call (.Attribute o "keys" ap) [] [] cp) f.env >>= fun x0 => foldedSetIterable (.Call (.Attribute o "keys" ap) [] [] cp) f.env x0 >>= fun x => PySem.standAt (Expr.pos (.Call (.Attribute o "keys" ap) [] [] cp)) >>= fun _ => PySem.holding [x] (pyIter x) >>= fun i => runOwn (.forLoop t i body orelse f.env) f.env) _ _ s
        rw [e0]
        have h1 := ok.expr h hA o
        rw [e1] at h1
        refine wpAny_bind (wpAny_standAt (wpAny_bind (wpAny_bind (wpAny_mono h1 (fun gv s1 ⟨z1, a1, pg⟩ => ?_) fun _ _ q => q.elim))))
        obtain ⟨rfl, _⟩ := VR.inj_ref pg
        obtain ⟨kvs, hD, rl⟩ := a1.rel.dct hlt er
        cases rl
        have hne : (z1.ρ r == sysModules) = false := by
          rw [beq_eq_false_iff_ne]
          intro q
          have := (a1.rel.own r hlt (z1.ρ r) (.inl rfl)).1
          rw [q] at this
          have hs := hc.sys
          rw [this] at hs
          cases hs
        obtain ⟨ep, hDa⟩ := hD.dictAt
        refine wpAny_bind (wpAny_standAt (wpAny_bind (wpAny_holding (getMethod_builtin hD.typeIs F.plainAttrs_dict F.slot_dict_keys F.type_dict_keys hD.mapOf.noDict ?_))))
        refine callWith_of (P := fun h => h.DictOf (strKind c.prog c.w) (z1.ρ r) []) (by rfl) (fun hp _ => keeps_calleeT (fun a e => by cases e) hp) ?_
        refine evalArgs_kw2_nil (kws := []) rfl (wpAny_evalAll_nil ⟨hD, ?_⟩)
        refine call_meetsIn F.slot_dict_keys hD.typeIs F.entry_dict_keys (F.args_dict_keys_1 _) (kdl_meets_keys (strKind c.prog c.w) (z1.ρ r) hne) ⟨⟨[], hD⟩, ?_⟩
        have g1 : After c f kp z1 st1 s1 z1 st1 { s1 with heap := s1.heap.push { cls := .type "dict_keys", data := .fields #[.ref (z1.ρ r)] } } := a1.rel.grown fun b o q => Heap.get?_push_of_some _ q
        have hv1 : (s1.heap.push { cls := .type "dict_keys", data := .fields #[.ref (z1.ρ r)] }).get? s1.heap.objs.size = some { cls := .type "dict_keys", data := .fields #[.ref (z1.ρ r)] } := Heap.get?_push_size _ rfl
        have hD1 := hDa.push { cls := .type "dict_keys", data := .fields #[.ref (z1.ρ r)] }
        refine wpAny_bind (m := foldedSetIterable (.Call (.Attribute o "keys" ap) [] [] cp) f.env (.ref s1.heap.objs.size)) (wpAny_pure (wpAny_bind (wpAny_standAt (wpAny_bind (wpAny_holding (kdl_pyIter_keys ⟨_, hv1, rfl, rfl⟩ hD1 ?_))))))
        generalize hh1 : s1.heap.push { cls := .type "dict_keys", data := .fields #[.ref (z1.ρ r)] } = h1' at g1 hv1 hD1
        have g2 : After c f kp z1 st1 { s1 with heap := h1' } z1 st1 { s1 with heap := h1'.push { cls := .type "dict_keyiterator", data := .fields #[.ref (z1.ρ r), .int 0 0, .int (([] : List (Str × Value)).length) 0, .int ep 0] } } := g1.rel.grown fun b o q => Heap.get?_push_of_some _ q
        have apI := g1.rel.fresh (get?_size h1')
        have hI : (h1'.push { cls := .type "dict_keyiterator", data := .fields #[.ref (z1.ρ r), .int 0 0, .int (([] : List (Str × Value)).length) 0, .int ep 0] }).get? h1'.objs.size = some { cls := .type "dict_keyiterator", data := .fields #[.ref (z1.ρ r), .int 0 0, .int (([] : List (Str × Value)).length) 0, .int ep 0] } := Heap.get?_push_size _ rfl
        have hD2 := hD1.push { cls := .type "dict_keyiterator", data := .fields #[.ref (z1.ρ r), .int 0 0, .int (([] : List (Str × Value)).length) 0, .int ep 0] }
        have hneq : z1.ρ r ≠ h1'.objs.size := Nat.ne_of_lt hD1.lt_size
        have hhd : A.handled = none := hA.handled (by rw [← hd, a1.hd])
        refine wpAny_runOwn ?_
        refine codeAny_forLoop_any (I := fun _ s' => s' = { s1 with heap := h1'.push { cls := .type "dict_keyiterator", data := .fields #[.ref (z1.ρ r), .int 0 0, .int (([] : List (Str × Value)).length) 0, .int ep 0] } }) ?_ 0 rfl
        rintro m s' rfl
        refine (Walks.dictKeys (knd := strKind c.prog c.w) hhd h1'.objs.size (z1.ρ r) hneq [] ep).done _ _ _ ⟨⟨_, hI, rfl, rfl⟩, hD2⟩ fun h' tk hk => ?_
        have g3 : After c f kp z1 st1 _ z1 st1 { s1 with heap := h' } := g2.rel.off (h' := h') apI fun b o q e => hk b o (by simpa using q) e
        have g4 := ((a1.trans g1).trans g2).trans (g3.trans (After.tok g3.rel tk))
        have := execL_sound ok orelse g4.rel (hA.after g4)
        rw [hr] at this
        exact wpAny_mono this (fun fl s₃ ⟨z₃, af3, hf⟩ => ⟨z₃, g4.trans af3, hf⟩) fun _ _ q => q.elim
    · cases e2
end
end Mine
namespace Mine
open PySem PySem.W PySem.Calls PyProof.Rows
section
variable (K : Frag) (p : Ev)
def callX (g : V) (args : List V) (kw : List (Str × V)) : M V := match g with
  | .type T => if T = "bytes" ∧ kw.isEmpty = true then tyBytes args else callV K p g args kw
  | g => callV K p g args kw
def exprX (e : Expr) : M V := match e with
  | .Call (.Name d dp) [.Call (.Name w zp) [a, b] [] _] [] _ => if d = ("dict" : Str) ∧ w = ("zip" : Str) ∧ (plainE a && plainE b) = true then dictZ K p dp zp a b else exprV K p e
  | .Call (.Attribute (.Name i ip) fb ap) [x, y] [] pos => if i = ("int" : Str) ∧ fb = ("from_bytes" : Str) ∧ (plainE x && plainE y && ap.endLine == pos.line) = true then fromB p ip x y else exprV K p e
  | e => exprV K p e
def stmtX (b : Stmt) : M Fl := match b with
  | .For _ (.Call (.Attribute o ks ap) [] [] cp) _ orelse _ => if ks = ("keys" : Str) ∧ (notSuper o && ap.endLine == cp.line) = true then keysS p o orelse else stmtW K p b
  | b => stmtW K p b
end
def stepEx (K : Frag) (p : Ev) : Ev := ⟨exprX K p, testE p, stmtX K p, callX K p⟩
def evX (K : Frag) : Nat → Ev
  | 0 => stuckEv
  | n + 1 => stepEx K (evX K n)
section
variable {c : Cx} {p : Ev} {n : Nat} {f : Fm} {kp : List Addr} {A : Around} {z : Sit} {st : St} {s : Shared}
theorem exprX_sound (hc : c.Ok) (ok : EOk c p n) (h : Rel c f kp z st s) (hA : AOk A f n st.md) (e : Expr) : Snd c f kp A (eval e f.env) (exprX c.K p e st) (VP c.B) z st s := by
  unfold exprX
  split
  · refine Snd.iteP (fun q => ?_) fun _ => exprV_sound hc ok h hA _
    obtain ⟨rfl, rfl, q⟩ := q
    rw [Bool.and_eq_true] at q
    exact dictZ_sound hc ok h hA _ _ _ _ _ _ q.1 q.2
  · refine Snd.iteP (fun q => ?_) fun _ => exprV_sound hc ok h hA _
    obtain ⟨rfl, rfl, q⟩ := q
    rw [Bool.and_eq_true, Bool.and_eq_true] at q
    exact fromB_sound ok h hA _ _ _ _ _ q.1.1 q.1.2 q.2
  · exact exprV_sound hc ok h hA _
theorem stmtX_sound (hc : c.Ok) (ok : EOk c p n) (h : Rel c f kp z st s) (hA : AOk A f n st.md) (b : Stmt) : Snd c f kp A (exec b f.env) (stmtX c.K p b st) (FlR c.B) z st s := by
  unfold stmtX
  split
  · refine Snd.iteP (fun q => ?_) fun _ => stmtW_sound hc ok h hA _
    obtain ⟨rfl, q⟩ := q
    rw [Bool.and_eq_true] at q
    exact keysS_sound hc ok h hA _ _ _ _ _ _ _ q.1 q.2
  · exact stmtW_sound hc ok h hA _
theorem callX_sound (hc : c.Ok) (ok : EOk c p n) (h : Rel c f kp z st s) (hA : AOk A f (n + 2) st.md) {g : V} {gv : Value} {args : List V} {us : List Value} {kw : List (Str × V)} {ks : List (Str × Value)} (hg : VR z.ρ st.nxt c.B g gv) (hv : VRs z.ρ st.nxt c.B args us) (hk : KwR c.B z.ρ st.nxt kw ks) :
    Snd c f kp A (PySem.call gv us ks) (callX c.K p g args kw st) (VP c.B) z st s := by
  unfold callX
  split
  · refine Snd.iteP (fun q => ?_) fun _ => callV_sound hc ok h hA hg hv hk
    obtain ⟨rfl, q⟩ := q
    have : kw = [] := by simpa using q
    subst this
    cases hk
    rw [hg.inj_type]
    exact tyBytes_sound hA h hv
  · exact callV_sound hc ok h hA hg hv hk
theorem stepEx_sound (hc : c.Ok) (ok : EOk c p n) : EOk c (stepEx c.K p) (n + 2) where
  expr := fun h hA e => exprX_sound hc ok h (hA.less (Nat.le_add_right _ _)) e
  test := fun h hA e => testE_sound ok h (hA.less (Nat.le_add_right _ _)) e
  stmt := fun h hA b => stmtX_sound hc ok h (hA.less (Nat.le_add_right _ _)) b
  call := fun h hA => callX_sound hc ok h hA
theorem evX_sound (hc : c.Ok) : ∀ k : Nat, EOk c (evX c.K k) (2 * k)
  | 0 => stuckEv_sound
  | k + 1 => stepEx_sound hc (evX_sound hc k)
end
end Mine
namespace Mine
open PySem PySem.W PySem.Calls PyProof.Rows
def W {α : Type} (m : M α) (st : St) (Q : α → St → Prop) (E : V → St → Prop) : Prop := match m st with
  | .ok a s => Q a s
  | .err c _ s => E c s
  | .stuck _ => False
abbrev NoX : V → St → Prop := fun _ _ => False
section
variable {α β : Type} {m : M α} {k : α → M β} {st : St} {E : V → St → Prop}
theorem W.bind {Q : β → St → Prop} (h : W m st (fun a s => W (k a) s Q E) E) : W (Mine.bind m k) st Q E := by
  unfold W Mine.bind at *
  cases e : m st with
  | ok a s => rw [e] at h; exact h
  | err c fs s => rw [e] at h; exact h
  | stuck w => rw [e] at h; exact h
theorem W.ret {a : α} {Q : α → St → Prop} (h : Q a st) : W (Mine.ret a) st Q E := h
theorem W.mono {Q Q' : α → St → Prop} {E' : V → St → Prop} (h : W m st Q E) (hq : ∀ a s, Q a s → Q' a s) (he : ∀ c s, E c s → E' c s) : W m st Q' E' := by
  unfold W at *
  cases e : m st with
  | ok a s => rw [e] at h; exact hq _ _ h
  | err c fs s => rw [e] at h; exact he _ _ h
  | stuck w => rw [e] at h; exact h
theorem W.ok {a : α} {st' : St} {Q : α → St → Prop} (e : m st = .ok a st') (h : Q a st') : W m st Q E := by
  unfold W
  rw [e]
  exact h
theorem W.of_eq {m' : M α} {Q : α → St → Prop} (e : m = m') (h : W m' st Q E) : W m st Q E := e ▸ h
theorem W.toOk {Q : α → St → Prop} (h : W m st Q NoX) : ∃ a st', m st = .ok a st' ∧ Q a st' := by
  unfold W at h
  cases e : m st with
  | ok a s => rw [e] at h; exact ⟨a, s, rfl, h⟩
  | err c fs s => rw [e] at h; exact h.elim
  | stuck w => rw [e] at h; exact h.elim
theorem W.ite {c : Bool} {m' : M α} {Q : α → St → Prop} (h1 : c = true → W m st Q E) (h2 : c = false → W m' st Q E) : W (if c = true then m else m') st Q E := by
  cases c with
  | true => exact h1 rfl
  | false => exact h2 rfl
theorem W.pos {c : Prop} [Decidable c] {m' : M α} {Q : α → St → Prop} (hc : c) (h : W m st Q E) : W (if c then m else m') st Q E := by rw [if_pos hc]; exact h
theorem W.neg {c : Prop} [Decidable c] {m' : M α} {Q : α → St → Prop} (hc : ¬ c) (h : W m' st Q E) : W (if c then m else m') st Q E := by rw [if_neg hc]; exact h
theorem W.topOnly {Q : α → St → Prop} (ht : st.md.top = true) (h : W m st Q E) : W (Mine.topOnly m) st Q E := by
  unfold W Mine.topOnly at *
  rw [if_pos ht]; exact h
theorem W.calm {Q : α → St → Prop} (hd : st.md.hd = false) (h : W m st Q E) : W (Mine.calm m) st Q E := by
  unfold W Mine.calm at *
  rw [if_neg (by rw [hd]; exact Bool.false_ne_true)]; exact h
theorem W.noErr {Q : α → St → Prop} (h : W m st Q NoX) : W (Mine.noErr m) st Q E := by
  unfold W Mine.noErr at *
  cases e : m st with
  | ok a s => rw [e] at h; exact h
  | err c fs s => rw [e] at h; exact h.elim
  | stuck w => rw [e] at h; exact h.elim
end
theorem updO_same {f : Nat → O} {i : Nat} {o : O} : updO f i o i = o := by unfold updO; rw [if_pos rfl]
theorem updO_other {f : Nat → O} {i j : Nat} {o o' : O} (h : j ≠ i) (e : f j = o') : updO f i o j = o' := by unfold updO; rw [if_neg h]; exact e
theorem look_hd {α : Type} {k : Nat} {v : α} {r : List (Nat × α)} : look k ((k, v) :: r) = some v := by unfold look; rw [if_pos rfl]
theorem look_tl {α : Type} {k j : Nat} {v : α} {x : Option α} {r : List (Nat × α)} (h : j ≠ k) (e : look k r = x) : look k ((j, v) :: r) = x := by unfold look; rw [if_neg h]; exact e
theorem look_nil {α : Type} {k : Nat} : look k ([] : List (Nat × α)) = none := rfl
theorem put_hd {α : Type} {k : Nat} {v w : α} {r : List (Nat × α)} : put k w ((k, v) :: r) = (k, w) :: r := by unfold put; rw [if_pos rfl]
theorem put_tl {α : Type} {k j : Nat} {v w : α} {r r' : List (Nat × α)} (h : j ≠ k) (e : put k w r = r') : put k w ((j, v) :: r) = (j, v) :: r' := by unfold put; rw [if_neg h, e]
theorem put_nil {α : Type} {k : Nat} {w : α} : put k w ([] : List (Nat × α)) = [(k, w)] := rfl
section
variable {K : Frag} {n m : Nat} {f : Nat → O} {l : List (Nat × Slot)} {md : Mode} {st : St} {E : V → St → Prop}
theorem W.alloc {o : O} {Q : V → St → Prop} (h : Q (.ref m) ⟨updO f m o, m + 1, l, md⟩) : W (Mine.alloc o) ⟨f, m, l, md⟩ Q E := h
theorem W.getO {i : Nat} {o : O} {Q : O → St → Prop} (hi : i < m) (e : f i = o) (h : Q o ⟨f, m, l, md⟩) : W (Mine.getO i) ⟨f, m, l, md⟩ Q E := by
  subst e
  unfold W Mine.getO
  rw [if_pos hi]; exact h
theorem W.setO {i : Nat} {o : O} {Q : Unit → St → Prop} (h : Q () ⟨updO f i o, m, l, md⟩) : W (Mine.setO i o) ⟨f, m, l, md⟩ Q E := h
theorem W.mkList {vs : List V} {Q : V → St → Prop} (hs : vs.length ≤ 16777216) (h : Q (.ref m) ⟨updO f m (.list vs), m + 1, l, md⟩) : W (Mine.mkList vs) ⟨f, m, l, md⟩ Q E := by
  unfold Mine.mkList
  exact W.pos (decide_eq_true hs) h
theorem W.mkTup {vs : List V} {Q : V → St → Prop} (hs : vs.length ≤ 16777216) (h : Q (.ref m) ⟨updO f m (.tup vs), m + 1, l, md⟩) : W (Mine.mkTup vs) ⟨f, m, l, md⟩ Q E := by
  unfold Mine.mkTup
  exact W.pos (decide_eq_true hs) h
theorem W.setLoc {x : Str} {v : V} {sl : Slot} {l' : List (Nat × Slot)} {Q : Unit → St → Prop} (h0 : nid x ≠ 0) (hl : look (nid x) l = some sl) (hs : sl = .unset ∨ ∃ w, sl = .val w) (hp : put (nid x) (.val v) l = l') (h : Q () ⟨f, m, l', md⟩) : W (Mine.setLoc x v) ⟨f, m, l, md⟩ Q E := by
  subst hp
  have e : Mine.setLoc x v ⟨f, m, l, md⟩ = .ok () ⟨f, m, put (nid x) (.val v) l, md⟩ := by
    unfold Mine.setLoc
    rw [if_neg h0]
    show (match look (nid x) l with | some .glob => _ | some (.cell i own) => _ | some _ => _ | none => _) = _
    rw [hl]
    rcases hs with rfl | ⟨w, rfl⟩ <;> rfl
  exact W.ok e h
theorem W.name {x : Str} {np : Pos} {v : V} {Q : V → St → Prop} (h0 : nid x ≠ 0) (hd : (x == ("__debug__" : Str)) = false) (hl : look (nid x) l = some (.val v)) (h : Q v ⟨f, m, l, md⟩) : W ((evX K (n + 1)).expr (.Name x np)) ⟨f, m, l, md⟩ Q E := by
  show W (nameE K x) _ Q E
  unfold nameE
  refine W.neg (by rw [hd]; exact Bool.false_ne_true) ?_
  refine W.ok (st' := ⟨f, m, l, md⟩) (a := v) ?_ h
  unfold nameV
  rw [if_neg h0]
  show (match look (nid x) l with | some (.val v) => _ | some .glob => _ | some (.cell i _) => _ | _ => _) = _
  rw [hl]
theorem W.glob {x : Str} {np : Pos} {v : V} {Q : V → St → Prop} (h0 : nid x ≠ 0) (hd : (x == ("__debug__" : Str)) = false) (hl : look (nid x) l = some .glob) (hg : globV K x = some v) (h : Q v ⟨f, m, l, md⟩) : W ((evX K (n + 1)).expr (.Name x np)) ⟨f, m, l, md⟩ Q E := by
  show W (nameE K x) _ Q E
  unfold nameE
  refine W.neg (by rw [hd]; exact Bool.false_ne_true) ?_
  refine W.ok (st' := ⟨f, m, l, md⟩) (a := v) ?_ h
  unfold nameV
  rw [if_neg h0]
  show (match look (nid x) l with | some (.val v) => _ | some .glob => _ | some (.cell i _) => _ | _ => _) = _
  rw [hl]
  show (match globV K x with | some v => R.ok v _ | none => _) = _
  rw [hg]
theorem W.cInt {i : Int} {k : Nat} {pos : Pos} {Q : V → St → Prop} (h : Q (.int i) st) : W ((evX K (n + 1)).expr (.Constant (.int i) k pos)) st Q E := h
theorem W.cNone {k : Nat} {pos : Pos} {Q : V → St → Prop} (h : Q .none st) : W ((evX K (n + 1)).expr (.Constant .none k pos)) st Q E := h
theorem W.cBool {b : Bool} {k : Nat} {pos : Pos} {Q : V → St → Prop} (h : Q (.bool b) st) : W ((evX K (n + 1)).expr (.Constant (.bool b) k pos)) st Q E := h
theorem W.cStr {s : Str} {k : Nat} {pos : Pos} {Q : V → St → Prop} (hs : s.length ≤ 65536) (h : Q (.str s) st) : W ((evX K (n + 1)).expr (.Constant (.str s) k pos)) st Q E := by
  show W (constV (.str s)) st Q E
  unfold constV
  exact W.pos hs h
theorem W.cBytes {b : List UInt8} {k : Nat} {pos : Pos} {Q : V → St → Prop} (hs : b.length ≤ 65536) (h : Q (.bytes b) st) : W ((evX K (n + 1)).expr (.Constant (.bytes b) k pos)) st Q E := by
  show W (constV (.bytes b)) st Q E
  unfold constV
  exact W.pos hs h
theorem W.bin {x y : Expr} {op : Operator} {pos : Pos} {Q : V → St → Prop} (h : W ((evX K n).expr x) st (fun a s => W ((evX K n).expr y) s (fun b s => W (binV op a b) s Q E) E) E) : W ((evX K (n + 1)).expr (.BinOp x op y pos)) st Q E := by
  show W (binE (evX K n) x op y) st Q E
  exact W.bind (W.mono h (fun a s h => W.bind h) fun _ _ h => h)
theorem W.un {x : Expr} {op : UnaryOp} {pos : Pos} {Q : V → St → Prop} (h : W ((evX K n).expr x) st (fun a s => W (unV op a) s Q E) E) : W ((evX K (n + 1)).expr (.UnaryOp op x pos)) st Q E := by
  show W (unE (evX K n) op x) st Q E
  exact W.bind h
theorem W.ifE {c a b : Expr} {pos : Pos} {Q : V → St → Prop} (h : W ((evX K n).test c) st (fun t s => (t = true → W ((evX K n).expr a) s Q E) ∧ (t = false → W ((evX K n).expr b) s Q E)) E) : W ((evX K (n + 1)).expr (.IfExp c a b pos)) st Q E := by
  show W (Mine.ifE (evX K n) c a b) st Q E
  exact W.bind (W.mono h (fun t s h => W.ite h.1 h.2) fun _ _ h => h)
theorem W.cmp {x : Expr} {ops : List CmpOp} {es : List Expr} {pos : Pos} {Q : V → St → Prop} (h : W ((evX K n).expr x) st (fun a s => W (cmpChain (evX K n) a ops es) s Q E) E) : W ((evX K (n + 1)).expr (.Compare x ops es pos)) st Q E := by
  show W (cmpE (evX K n) x ops es) st Q E
  exact W.bind h
theorem W.cc1 {p : Ev} {a : V} {op : CmpOp} {e : Expr} {Q : V → St → Prop} (hm : behindInMarks op e = false) (h : W (p.expr e) st (fun r s => W (cmpV op a r) s Q E) E) : W (cmpChain p a [op] [e]) st Q E := by
  unfold cmpChain
  exact W.neg (by rw [hm]; exact Bool.false_ne_true) (W.bind h)
theorem W.cc2 {p : Ev} {a : V} {op op' : CmpOp} {ops : List CmpOp} {e : Expr} {es : List Expr} {Q : V → St → Prop} (h : W (p.expr e) st (fun r s => W (cmpV op a r) s (fun c s => W (truthV c) s (fun t s => (t = true → W (cmpChain p r (op' :: ops) es) s Q E) ∧ (t = false → Q c s)) E) E) E) :
    W (cmpChain p a (op :: op' :: ops) (e :: es)) st Q E := by
  have e0 : cmpChain p a (op :: op' :: ops) (e :: es) = Mine.bind (p.expr e) fun r => Mine.bind (cmpV op a r) fun c => Mine.bind (truthV c) fun t => if t then cmpChain p r (op' :: ops) es else Mine.ret c := by
    conv => lhs; unfold cmpChain
  rw [e0]
  exact W.bind (W.mono h (fun r s h => W.bind (W.mono h (fun c s h => W.bind (W.mono h (fun t s h => W.ite h.1 h.2) fun _ _ h => h)) fun _ _ h => h)) fun _ _ h => h)
theorem W.list {es : List Expr} {pos : Pos} {Q : V → St → Prop} (h : W (evalL (evX K n) es) st (fun vs s => W (Mine.mkList vs) s Q E) E) : W ((evX K (n + 1)).expr (.List es pos)) st Q E := by
  show W (listE (evX K n) es) st Q E
  exact W.bind h
theorem W.tup {es : List Expr} {k : Nat} {pos : Pos} {Q : V → St → Prop} (h : W (evalL (evX K n) es) st (fun vs s => W (Mine.mkTup vs) s Q E) E) : W ((evX K (n + 1)).expr (.Tuple es k pos)) st Q E := by
  show W (tupE (evX K n) es) st Q E
  exact W.bind h
theorem W.eNil {p : Ev} {Q : List V → St → Prop} (h : Q [] st) : W (evalL p []) st Q E := h
theorem W.eCons {p : Ev} {e : Expr} {es : List Expr} {Q : List V → St → Prop} (he : plainE e = true) (h : W (p.expr e) st (fun v s => W (evalL p es) s (fun vs s => Q (v :: vs) s) E) E) : W (evalL p (e :: es)) st Q E := by
  have e0 : evalL p (e :: es) = Mine.bind (p.expr e) fun v => Mine.bind (evalL p es) fun vs => Mine.ret (v :: vs) := by
    conv => lhs; unfold evalL
    rw [if_pos he]
  rw [e0]
  exact W.bind (W.mono h (fun v s h => W.bind h) fun _ _ h => h)
theorem W.kNil {p : Ev} {Q : List (Str × V) → St → Prop} (h : Q [] st) : W (evalKw p []) st Q E := h
theorem W.kCons {p : Ev} {x : Str} {e : Expr} {q : Pos} {ks : List Keyword} {Q : List (Str × V) → St → Prop} (h : W (p.expr e) st (fun v s => W (evalKw p ks) s (fun vs s => Q ((x, v) :: vs) s) E) E) : W (evalKw p (⟨some x, e, q⟩ :: ks)) st Q E := by
  show W (Mine.bind (p.expr e) fun v => Mine.bind (evalKw p ks) fun vs => Mine.ret ((x, v) :: vs)) st Q E
  exact W.bind (W.mono h (fun v s h => W.bind h) fun _ _ h => h)
theorem W.dict0 {pos : Pos} {Q : V → St → Prop} (h : Q (.ref m) ⟨updO f m (.dict []), m + 1, l, md⟩) : W ((evX K (n + 1)).expr (.Dict [] [] pos)) ⟨f, m, l, md⟩ Q E := h
theorem W.attr {o : Expr} {a : Str} {pos : Pos} {Q : V → St → Prop} (ho : notSuper o = true) (h : W ((evX K n).expr o) st (fun v s => W (readAttr K v a) s Q E) E) : W ((evX K (n + 1)).expr (.Attribute o a pos)) st Q E := by
  show W (attrE K (evX K n) o a) st Q E
  unfold attrE
  exact W.pos ho (W.bind h)
theorem W.sub {o i : Expr} {pos : Pos} {Q : V → St → Prop} (h : W ((evX K n).expr o) st (fun v s => W ((evX K n).expr i) s (fun w s => W (getItemV v w) s Q E) E) E) : W ((evX K (n + 1)).expr (.Subscript o i pos)) st Q E := by
  show W (subE (evX K n) o i) st Q E
  exact W.bind (W.mono h (fun v s h => W.bind h) fun _ _ h => h)
theorem W.slice {lo hi : Option Expr} {pos : Pos} {Q : V → St → Prop} (h : W (orNone (evX K n) lo) st (fun a s => W (orNone (evX K n) hi) s (fun b s => W (Mine.alloc (.slice a b)) s Q E) E) E) : W ((evX K (n + 1)).expr (.Slice lo hi none pos)) st Q E := by
  show W (sliceE (evX K n) lo hi) st Q E
  exact W.bind (W.mono h (fun v s h => W.bind h) fun _ _ h => h)
theorem W.onNone {p : Ev} {Q : V → St → Prop} (h : Q .none st) : W (orNone p none) st Q E := h
theorem W.onSome {p : Ev} {e : Expr} {Q : V → St → Prop} (h : W (p.expr e) st Q E) : W (orNone p (some e)) st Q E := h
end
end Mine
namespace Mine
open PySem PySem.W PySem.Calls PyProof.Rows
def specialX : Expr → Bool
  | .Call (.Name d _) [.Call (.Name w _) [_, _] [] _] [] _ => decide (d = ("dict" : Str) ∧ w = ("zip" : Str))
  | .Call (.Attribute (.Name i _) fb _) [_, _] [] _ => decide (i = ("int" : Str) ∧ fb = ("from_bytes" : Str))
  | _ => false
theorem exprX_plain {K : Frag} {p : Ev} {e : Expr} (h : specialX e = false) : exprX K p e = exprV K p e := by
  unfold exprX
  split
  · unfold specialX at h
    have h := of_decide_eq_false h
    rw [if_neg fun q => h ⟨q.1, q.2.1⟩]
  · unfold specialX at h
    have h := of_decide_eq_false h
    rw [if_neg fun q => h ⟨q.1, q.2.1⟩]
  · rfl
section
variable {K : Frag} {n m : Nat} {f : Nat → O} {l : List (Nat × Slot)} {md : Mode} {st : St} {E : V → St → Prop}
theorem W.tNot {x : Expr} {pos : Pos} {Q : Bool → St → Prop} (h : W ((evX K n).test x) st (fun b s => Q (!b) s) E) : W ((evX K (n + 1)).test (.UnaryOp .Not x pos)) st Q E := by
  show W (Mine.bind ((evX K n).test x) fun b => Mine.ret (!b)) st Q E
  exact W.bind h
theorem W.tBool {op : BoolOp} {es : List Expr} {pos : Pos} {Q : Bool → St → Prop} (h : W (testAll (evX K n) op es) st Q E) : W ((evX K (n + 1)).test (.BoolOp op es pos)) st Q E := h
theorem W.tCmp {x : Expr} {ops : List CmpOp} {es : List Expr} {pos : Pos} {Q : Bool → St → Prop} (h : W ((evX K n).expr x) st (fun a s => W (testChain (evX K n) a ops es) s Q E) E) : W ((evX K (n + 1)).test (.Compare x ops es pos)) st Q E := by
  show W (Mine.bind ((evX K n).expr x) fun a => testChain (evX K n) a ops es) st Q E
  exact W.bind h
def otherT : Expr → Bool
  | .UnaryOp .Not _ _ => false
  | .BoolOp .. => false
  | .IfExp .. => false
  | .Compare .. => false
  | _ => true
theorem W.tVal {e : Expr} {Q : Bool → St → Prop} (he : otherT e = true) (h : W ((evX K n).expr e) st (fun v s => W (truthV v) s Q E) E) : W ((evX K (n + 1)).test e) st Q E := by
  have e0 : (evX K (n + 1)).test e = Mine.bind ((evX K n).expr e) fun v => truthV v := by
    show testE (evX K n) e = _
    unfold testE
    split <;> first | rfl | cases he
  rw [e0]
  exact W.bind h
theorem W.tc1 {p : Ev} {a : V} {op : CmpOp} {e : Expr} {Q : Bool → St → Prop} (hm : behindInMarks op e = false) (h : W (p.expr e) st (fun r s => W (cmpV op a r) s (fun c s => W (truthV c) s Q E) E) E) : W (testChain p a [op] [e]) st Q E := by
  unfold testChain
  exact W.neg (by rw [hm]; exact Bool.false_ne_true) (W.bind (W.mono h (fun r s h => W.bind h) fun _ _ h => h))
theorem W.tc2 {p : Ev} {a : V} {op op' : CmpOp} {ops : List CmpOp} {e : Expr} {es : List Expr} {Q : Bool → St → Prop} (h : W (p.expr e) st (fun r s => W (cmpV op a r) s (fun c s => W (truthV c) s (fun t s => (t = true → W (testChain p r (op' :: ops) es) s Q E) ∧ (t = false → Q false s)) E) E) E) :
    W (testChain p a (op :: op' :: ops) (e :: es)) st Q E := by
  have e0 : testChain p a (op :: op' :: ops) (e :: es) = Mine.bind (p.expr e) fun r => Mine.bind (cmpV op a r) fun c => Mine.bind (truthV c) fun t => if t then testChain p r (op' :: ops) es else Mine.ret false := by
    conv => lhs; unfold testChain
  rw [e0]
  exact W.bind (W.mono h (fun r s h => W.bind (W.mono h (fun c s h => W.bind (W.mono h (fun t s h => W.ite h.1 h.2) fun _ _ h => h)) fun _ _ h => h)) fun _ _ h => h)
theorem W.andN {p : Ev} {Q : Bool → St → Prop} (h : Q true st) : W (testAll p .And []) st Q E := h
theorem W.orN {p : Ev} {Q : Bool → St → Prop} (h : Q false st) : W (testAll p .Or []) st Q E := h
theorem W.andC {p : Ev} {e : Expr} {es : List Expr} {Q : Bool → St → Prop} (h : W (p.test e) st (fun t s => (t = true → W (testAll p .And es) s Q E) ∧ (t = false → Q false s)) E) : W (testAll p .And (e :: es)) st Q E := by
  unfold testAll
  refine W.bind (W.mono h (fun t s h => ?_) fun _ _ h => h)
  cases t with
  | true => exact h.1 rfl
  | false => exact h.2 rfl
theorem W.orC {p : Ev} {e : Expr} {es : List Expr} {Q : Bool → St → Prop} (h : W (p.test e) st (fun t s => (t = true → Q true s) ∧ (t = false → W (testAll p .Or es) s Q E)) E) : W (testAll p .Or (e :: es)) st Q E := by
  unfold testAll
  refine W.bind (W.mono h (fun t s h => ?_) fun _ _ h => h)
  cases t with
  | true => exact h.1 rfl
  | false => exact h.2 rfl
theorem W.truthB {b : Bool} {Q : Bool → St → Prop} (h : Q b st) : W (truthV (.bool b)) st Q E := h
theorem W.cLt {x y : Int} {Q : V → St → Prop} (h : Q (.bool (decide (x < y))) st) : W (cmpV .Lt (.int x) (.int y)) st Q E := h
theorem W.cLe {x y : Int} {Q : V → St → Prop} (h : Q (.bool (decide (x ≤ y))) st) : W (cmpV .LtE (.int x) (.int y)) st Q E := h
theorem W.cGt {x y : Int} {Q : V → St → Prop} (h : Q (.bool (decide (y < x))) st) : W (cmpV .Gt (.int x) (.int y)) st Q E := h
theorem W.cEqI {x y : Int} {Q : V → St → Prop} (h : Q (.bool (x == y)) st) : W (cmpV .Eq (.int x) (.int y)) st Q E := h
theorem W.cNeI {x y : Int} {Q : V → St → Prop} (h : Q (.bool (!(x == y))) st) : W (cmpV .NotEq (.int x) (.int y)) st Q E := h
theorem W.cEqB {x y : List UInt8} {Q : V → St → Prop} (h : Q (.bool (x == y)) st) : W (cmpV .Eq (.bytes x) (.bytes y)) st Q E := h
theorem W.cNeB {x y : List UInt8} {Q : V → St → Prop} (h : Q (.bool (!(x == y))) st) : W (cmpV .NotEq (.bytes x) (.bytes y)) st Q E := h
theorem W.cNeO {x y : Bool} {Q : V → St → Prop} (h : Q (.bool (!(x == y))) st) : W (cmpV .NotEq (.bool x) (.bool y)) st Q E := h
theorem W.cIs {x y : V} {b : Bool} {Q : V → St → Prop} (hb : isV x y = some b) (h : Q (.bool b) st) : W (cmpV .Is x y) st Q E := by
  show W (okB "is" (isV x y)) st Q E
  rw [hb]; exact h
theorem W.cIsNot {x y : V} {b : Bool} {Q : V → St → Prop} (hb : isV x y = some b) (h : Q (.bool (!b)) st) : W (cmpV .IsNot x y) st Q E := by
  show W (okB "is not" ((isV x y).map (!·))) st Q E
  rw [hb]; exact h
theorem W.cNeR {i j : Nat} {d e : PyData} {Q : V → St → Prop} (hd : datV f m 6 (.ref i) = some d) (he : datV f m 6 (.ref j) = some e) (h : Q (.bool (!PyData.eqv d e)) ⟨f, m, l, md⟩) : W (cmpV .NotEq (.ref i) (.ref j)) ⟨f, m, l, md⟩ Q E := by
  show W (fun s => okB "ne" ((eqV s.obj s.nxt (.ref i) (.ref j)).map (!·)) s) _ Q E
  refine W.ok (st' := ⟨f, m, l, md⟩) (a := .bool (!PyData.eqv d e)) ?_ h
  show okB "ne" (((datV f m 6 (.ref i)).bind fun d => (datV f m 6 (.ref j)).map fun e => PyData.eqv d e).map (!·)) _ = _
  rw [hd, he]; rfl
theorem W.iAdd {x y : Int} {Q : V → St → Prop} (h : Q (.int (x + y)) st) : W (binV .Add (.int x) (.int y)) st Q E := h
theorem W.iSub {x y : Int} {Q : V → St → Prop} (h : Q (.int (x - y)) st) : W (binV .Sub (.int x) (.int y)) st Q E := h
theorem small_of {x : Int} (h1 : -18446744073709551616 < x) (h2 : x < 18446744073709551616) : small x = true := decide_eq_true (by omega)
theorem W.iMul {x y : Int} {Q : V → St → Prop} (hx : -18446744073709551616 < x ∧ x < 18446744073709551616) (hy : -18446744073709551616 < y ∧ y < 18446744073709551616) (h : Q (.int (x * y)) st) : W (binV .Mult (.int x) (.int y)) st Q E := by
  show W (if (small x && small y) = true then Mine.ret (.int (x * y)) else Mine.stuck "mul") st Q E
  exact W.pos (by rw [small_of hx.1 hx.2, small_of hy.1 hy.2]; rfl) h
theorem W.iDiv {x y : Int} {Q : V → St → Prop} (hy : (y != 0 && decide (y.natAbs < 1073741824)) = true) (h : Q (.int (x.fdiv y)) st) : W (binV .FloorDiv (.int x) (.int y)) st Q E := by
  show W (if (y != 0 && decide (y.natAbs < 1073741824)) = true then Mine.ret (.int (x.fdiv y)) else Mine.stuck "div") st Q E
  exact W.pos hy h
theorem W.iMod {x y : Int} {Q : V → St → Prop} (hy : (y != 0) = true) (h : Q (.int (x.fmod y)) st) : W (binV .Mod (.int x) (.int y)) st Q E := by
  show W (if (y != 0) = true then Mine.ret (.int (x.fmod y)) else Mine.stuck "mod") st Q E
  exact W.pos hy h
theorem W.iShl {x y : Int} {Q : V → St → Prop} (hy : (decide (0 ≤ y) && decide (y ≤ 1000000)) = true) (hx : -18446744073709551616 < x ∧ x < 18446744073709551616) (h : Q (.int (x * 2 ^ y.toNat)) st) : W (binV .LShift (.int x) (.int y)) st Q E := by
  show W (if (decide (0 ≤ y) && decide (y ≤ 1000000) && small x) = true then Mine.ret (.int (x * 2 ^ y.toNat)) else Mine.stuck "shl") st Q E
  exact W.pos (by rw [hy, small_of hx.1 hx.2]; rfl) h
theorem W.iShr {x y : Int} {Q : V → St → Prop} (hy : decide (0 ≤ y) = true) (h : Q (.int (x.fdiv (2 ^ y.toNat))) st) : W (binV .RShift (.int x) (.int y)) st Q E := by
  show W (if decide (0 ≤ y) = true then Mine.ret (.int (x.fdiv (2 ^ y.toNat))) else Mine.stuck "shr") st Q E
  exact W.pos hy h
theorem W.iAnd {x y : Int} {Q : V → St → Prop} (h : Q (.int (Builtin.bitAnd x y)) st) : W (binV .BitAnd (.int x) (.int y)) st Q E := h
theorem W.iOr {x y : Int} {Q : V → St → Prop} (h : Q (.int (Builtin.bitOr x y)) st) : W (binV .BitOr (.int x) (.int y)) st Q E := h
theorem W.bAdd {x y : List UInt8} {Q : V → St → Prop} (hs : (x ++ y).length ≤ 16777216) (h : Q (.bytes (x ++ y)) st) : W (binV .Add (.bytes x) (.bytes y)) st Q E := by
  show W (mkBytes (x ++ y)) st Q E
  unfold mkBytes
  exact W.pos (decide_eq_true hs) h
theorem W.lAdd {i j : Nat} {x y : List V} {Q : V → St → Prop} (hi : i < m) (ei : f i = .list x) (hj : j < m) (ej : f j = .list y) (hs : (x ++ y).length ≤ 16777216) (h : Q (.ref m) ⟨updO f m (.list (x ++ y)), m + 1, l, md⟩) : W (binV .Add (.ref i) (.ref j)) ⟨f, m, l, md⟩ Q E := by
  show W (Mine.bind (Mine.getO i) fun o => Mine.bind (Mine.getO j) fun o' => match o, o' with | .list x, .list y => Mine.mkList (x ++ y) | _, _ => Mine.stuck "list op") _ Q E
  exact W.bind (W.getO hi ei (W.bind (W.getO hj ej (W.mkList hs h))))
theorem W.lMul {i : Nat} {x : List V} {k : Int} {Q : V → St → Prop} (hi : i < m) (ei : f i = .list x) (hk : nearI k = true) (hs : (repl k.toNat x).length ≤ 16777216) (h : Q (.ref m) ⟨updO f m (.list (repl k.toNat x)), m + 1, l, md⟩) : W (binV .Mult (.ref i) (.int k)) ⟨f, m, l, md⟩ Q E := by
  show W (Mine.bind (Mine.getO i) fun o => match o with | .list x => if nearI k = true then Mine.mkList (repl k.toNat x) else Mine.stuck "list op" | _ => Mine.stuck "list op") _ Q E
  exact W.bind (W.getO hi ei (W.pos hk (W.mkList hs h)))
theorem W.bMul {x : List UInt8} {k : Int} {Q : V → St → Prop} (hk : (nearI k && !x.isEmpty && decide (x.length ≤ 16)) = true) (h : Q (.bytes (repl k.toNat x)) st) : W (binV .Mult (.bytes x) (.int k)) st Q E := by
  show W (if (nearI k && !x.isEmpty && decide (x.length ≤ 16)) = true then Mine.ret (.bytes (repl k.toNat x)) else Mine.stuck "bytes op") st Q E
  exact W.pos hk h
theorem W.neg1 {x : Int} {Q : V → St → Prop} (h : Q (.int (-x)) st) : W (unV .USub (.int x)) st Q E := h
theorem W.ipI {op : Operator} {x y : Int} {Q : V → St → Prop} (h : W (binV op (.int x) (.int y)) st Q E) : W (inplV op (.int x) (.int y)) st Q E := h
theorem W.ipB {op : Operator} {x y : List UInt8} {Q : V → St → Prop} (h : W (binV op (.bytes x) (.bytes y)) st Q E) : W (inplV op (.bytes x) (.bytes y)) st Q E := h
theorem W.ipL {i j : Nat} {x y : List V} {Q : V → St → Prop} (hi : i < m) (ei : f i = .list x) (hj : j < m) (ej : f j = .list y) (hs : (x ++ y).length ≤ 16777216) (hne : i ≠ j) (h : Q (.ref i) ⟨updO f i (.list (x ++ y)), m, l, md⟩) : W (inplV .Add (.ref i) (.ref j)) ⟨f, m, l, md⟩ Q E := by
  show W (Mine.bind (Mine.getO i) fun o => Mine.bind (Mine.getO j) fun o' => match o, o' with | .list x, .list y => if (szOk (x ++ y).length && decide (i ≠ j)) = true then Mine.bind (Mine.setO i (.list (x ++ y))) fun _ => Mine.ret (.ref i) else Mine.stuck "list op=" | _, _ => Mine.stuck "list op=") _ Q E
  refine W.bind (W.getO hi ei (W.bind (W.getO hj ej ?_)))
  have e1 : szOk (x ++ y).length = true := decide_eq_true hs
  exact W.pos (by rw [e1, decide_eq_true hne]; rfl) (W.bind (W.setO h))
theorem W.aInst {r : Nat} {C : Addr} {fs : List (Nat × V)} {a : Str} {v : V} {Q : V → St → Prop} (h0 : nid a ≠ 0) (hr : r < m) (er : f r = .inst C fs) (hk : attrOk K C a = true) (hl : look (nid a) fs = some v) (hb : notBi v = true) (h : Q v ⟨f, m, l, md⟩) : W (readAttr K (.ref r) a) ⟨f, m, l, md⟩ Q E := by
  unfold readAttr
  refine W.neg h0 (W.bind (W.getO hr er (W.pos hk ?_)))
  rw [hl]
  exact W.pos hb h
theorem W.aCls {r : Nat} {C : Addr} {fs : List (Nat × V)} {a : Str} {v : V} {Q : V → St → Prop} (h0 : nid a ≠ 0) (hr : r < m) (er : f r = .inst C fs) (hk : attrOk K C a = true) (hl : look (nid a) fs = none) (hv : clsVal K C a = some v) (h : Q v ⟨f, m, l, md⟩) : W (readAttr K (.ref r) a) ⟨f, m, l, md⟩ Q E := by
  unfold readAttr
  refine W.neg h0 (W.bind (W.getO hr er (W.pos hk ?_)))
  rw [hl, hv]
  exact h
theorem W.aOld {C : Addr} {a : Str} {v : V} {Q : V → St → Prop} (h0 : nid a ≠ 0) (hv : clsGet K C a = some v) (h : Q v st) : W (readAttr K (.old C) a) st Q E := by
  unfold readAttr
  refine W.neg h0 ?_
  show W (match clsGet K C a with | some v => Mine.ret v | none => Mine.stuck "class attr") st Q E
  rw [hv]
  exact h
theorem W.wInst {r : Nat} {C : Addr} {fs : List (Nat × V)} {a : Str} {v : V} {Q : Unit → St → Prop} (h0 : nid a ≠ 0) (hr : r < m) (er : f r = .inst C fs) (hk : setOk K C a = true) (hn : fs.length ≤ 900) {fs' : List (Nat × V)} (hp : put (nid a) v fs = fs') (h : Q () ⟨updO f r (.inst C fs'), m, l, md⟩) : W (writeAttr K (.ref r) a v) ⟨f, m, l, md⟩ Q E := by
  subst hp
  unfold writeAttr
  exact W.neg h0 (W.bind (W.getO hr er (W.pos (by rw [hk, decide_eq_true hn]; rfl) (W.setO h))))
theorem W.gBytesI {b : List UInt8} {i : Int} {x : UInt8} {Q : V → St → Prop} (hz : b.length ≤ 16777216) (hx : itemAt b i = some x) (h : Q (.int x.toNat) st) : W (getItemV (.bytes b) (.int i)) st Q E := by
  show W (if szOk b.length = true then orStuck "bytes index" ((itemAt b i).map fun x => .int x.toNat) else Mine.stuck "long bytes") st Q E
  refine W.pos (decide_eq_true hz) ?_
  rw [hx]
  exact h
theorem W.gBytesS {b : List UInt8} {k : Nat} {lo hi : V} {x : List UInt8} {Q : V → St → Prop} (hk : k < m) (ek : f k = .slice lo hi) (hx : sliceOf b lo hi = some x) (hz : b.length ≤ 16777216) (h : Q (.bytes x) ⟨f, m, l, md⟩) : W (getItemV (.bytes b) (.ref k)) ⟨f, m, l, md⟩ Q E := by
  show W (Mine.bind (Mine.getO k) fun ob => (match ob with
    | .slice lo hi => (match sliceOf b lo hi with
      | some x => if szOk b.length then Mine.ret (.bytes x) else Mine.stuck "long bytes"
      | Option.none => Mine.stuck "slice")
    | _ => Mine.stuck "bytes index")) _ Q E
  refine W.bind (W.getO hk ek ?_)
  dsimp only
  rw [hx]
  exact W.pos (decide_eq_true hz) h
theorem W.gListI {r : Nat} {vs : List V} {i : Int} {v : V} {Q : V → St → Prop} (hr : r < m) (er : f r = .list vs) (hz : vs.length ≤ 16777216) (hx : itemAt vs i = some v) (h : Q v ⟨f, m, l, md⟩) : W (getItemV (.ref r) (.int i)) ⟨f, m, l, md⟩ Q E := by
  show W (Mine.bind (Mine.getO r) fun ob => itemOf ob (.int i)) _ Q E
  refine W.bind (W.getO hr er ?_)
  show W (if szOk vs.length = true then orStuck "list index" (itemAt vs i) else Mine.stuck "long list") _ Q E
  refine W.pos (decide_eq_true hz) ?_
  rw [hx]
  exact h
theorem W.gListS {r k : Nat} {vs x : List V} {lo hi : V} {Q : V → St → Prop} (hr : r < m) (er : f r = .list vs) (hk : k < m) (ek : f k = .slice lo hi) (hz : vs.length ≤ 16777216) (hx : sliceOf vs lo hi = some x) (hxz : x.length ≤ 16777216) (h : Q (.ref m) ⟨updO f m (.list x), m + 1, l, md⟩) : W (getItemV (.ref r) (.ref k)) ⟨f, m, l, md⟩ Q E := by
  show W (Mine.bind (Mine.getO r) fun ob => itemOf ob (.ref k)) _ Q E
  refine W.bind (W.getO hr er ?_)
  show W (Mine.bind (Mine.getO k) fun ob => (match ob with
    | .slice lo hi => (match sliceOf vs lo hi with
      | some x => if szOk vs.length then Mine.mkList x else Mine.stuck "long list"
      | Option.none => Mine.stuck "slice")
    | _ => Mine.stuck "list index")) _ Q E
  refine W.bind (W.getO hk ek ?_)
  dsimp only
  rw [hx]
  exact W.pos (decide_eq_true hz) (W.mkList hxz h)
theorem W.gDict {r : Nat} {es : List (Nat × V)} {k : Str} {v : V} {Q : V → St → Prop} (hr : r < m) (er : f r = .dict es) (h0 : nid k ≠ 0) (hl : look (nid k) es = some v) (h : Q v ⟨f, m, l, md⟩) : W (getItemV (.ref r) (.str k)) ⟨f, m, l, md⟩ Q E := by
  show W (Mine.bind (Mine.getO r) fun ob => itemOf ob (.str k)) _ Q E
  refine W.bind (W.getO hr er ?_)
  show W (if nid k = 0 then Mine.stuck "key" else orStuck "key" (look (nid k) es)) _ Q E
  refine W.neg h0 ?_
  rw [hl]
  exact h
theorem W.gBarr {r : Nat} {b : List UInt8} {i : Int} {x : UInt8} {Q : V → St → Prop} (hr : r < m) (er : f r = .barr b) (hz : b.length ≤ 16777216) (hx : itemAt b i = some x) (h : Q (.int x.toNat) ⟨f, m, l, md⟩) : W (getItemV (.ref r) (.int i)) ⟨f, m, l, md⟩ Q E := by
  show W (Mine.bind (Mine.getO r) fun ob => itemOf ob (.int i)) _ Q E
  refine W.bind (W.getO hr er ?_)
  show W (if szOk b.length = true then orStuck "bytearray index" ((itemAt b i).map fun x => .int x.toNat) else Mine.stuck "long bytearray") _ Q E
  refine W.pos (decide_eq_true hz) ?_
  rw [hx]
  exact h
theorem W.sList {r : Nat} {vs : List V} {i : Int} {v : V} {Q : Unit → St → Prop} (hr : r < m) (er : f r = .list vs) (hz : vs.length ≤ 16777216) (hi : 0 ≤ i ∧ i < vs.length) (h : Q () ⟨updO f r (.list (vs.set i.toNat v)), m, l, md⟩) : W (setItemV (.ref r) (.int i) v) ⟨f, m, l, md⟩ Q E := by
  unfold setItemV
  refine W.bind (W.getO hr er ?_)
  dsimp only
  have e1 : szOk vs.length = true := decide_eq_true hz
  exact W.pos (by rw [e1, decide_eq_true hi.1, decide_eq_true hi.2]; rfl) (W.setO h)
theorem W.sDict {r : Nat} {es es' : List (Nat × V)} {k : Str} {v : V} {Q : Unit → St → Prop} (hr : r < m) (er : f r = .dict es) (h0 : nid k ≠ 0) (hz : es.length ≤ 1048576) (hp : put (nid k) v es = es') (h : Q () ⟨updO f r (.dict es'), m, l, md⟩) : W (setItemV (.ref r) (.str k) v) ⟨f, m, l, md⟩ Q E := by
  subst hp
  unfold setItemV
  refine W.bind (W.getO hr er ?_)
  dsimp only
  exact W.neg h0 (W.pos (decide_eq_true hz) (W.setO h))
end
end Mine
namespace Mine
open PySem PySem.W PySem.Calls PyProof.Rows
section
variable {K : Frag} {n m : Nat} {f : Nat → O} {l : List (Nat × Slot)} {md : Mode} {st : St} {E : V → St → Prop}
theorem W.args {p : Ev} {args : List Expr} {kws : List Keyword} {k : List V → List (Str × V) → M V} {Q : V → St → Prop} (h : W (evalL p args) st (fun vs s => W (evalKw p kws) s (fun kw s => W (k vs kw) s Q E) E) E) : W (argsThen p args kws k) st Q E := by
  unfold argsThen
  exact W.bind (W.mono h (fun _ _ h => W.bind h) fun _ _ h => h)
theorem W.meth {o : Expr} {name : Str} {apos pos : Pos} {args : List Expr} {kws : List Keyword} {Q : V → St → Prop} (hX : specialX (.Call (.Attribute o name apos) args kws pos) = false)
    (hc : (notSuper o && args.all plainE && kws.all (·.arg.isSome) && decide (args.length + kws.length + 1 < 30) && apos.endLine == pos.line) = true)
    (h : W ((evX K n).expr o) st (fun ov s => W (getMeth K ov name) s (fun g s => calleeOk K g.1 = true ∧ W (evalL (evX K n) args) s (fun vs s => W (evalKw (evX K n) kws) s (fun kw s => W ((evX K n).call g.1 (g.2 ++ vs) kw) s Q E) E) E) E) E) :
    W ((evX K (n + 1)).expr (.Call (.Attribute o name apos) args kws pos)) st Q E := by
  show W (exprX K (evX K n) _) st Q E
  rw [exprX_plain hX]
  show W (methE K (evX K n) o name apos pos args kws) st Q E
  unfold methE
  exact W.pos hc (W.bind (W.mono h (fun ov s h => W.bind (W.mono h (fun g s h => W.pos h.1 (W.args h.2)) fun _ _ h => h)) fun _ _ h => h))
theorem W.callN {x : Str} {xp pos : Pos} {args : List Expr} {kws : List Keyword} {Q : V → St → Prop} (hX : specialX (.Call (.Name x xp) args kws pos) = false) (hc : (args.all plainE && kws.all (·.arg.isSome)) = true)
    (h : W ((evX K n).expr (.Name x xp)) st (fun g s => calleeOk K g = true ∧ W (evalL (evX K n) args) s (fun vs s => W (evalKw (evX K n) kws) s (fun kw s => W ((evX K n).call g vs kw) s Q E) E) E) E) :
    W ((evX K (n + 1)).expr (.Call (.Name x xp) args kws pos)) st Q E := by
  show W (exprX K (evX K n) _) st Q E
  rw [exprX_plain hX]
  show W (callE K (evX K n) (.Name x xp) args kws) st Q E
  unfold callE
  rw [Bool.and_eq_true] at hc
  exact W.bind (W.mono h (fun g s h => W.pos (by rw [h.1, hc.1, hc.2]; rfl) (W.args h.2)) fun _ _ h => h)
theorem W.gmI {r : Nat} {C : Addr} {fs : List (Nat × V)} {name : Str} {g : Addr} {Q : V × List V → St → Prop} (h0 : nid name ≠ 0) (hr : r < m) (er : f r = .inst C fs) (hp : plainGet K C name = true) (hl : look (nid name) fs = none) (hg : fnIn K C name = some g)
    (h : Q (.old g, [.ref r]) ⟨f, m, l, md⟩) : W (getMeth K (.ref r) name) ⟨f, m, l, md⟩ Q E := by
  unfold getMeth
  refine W.neg h0 (W.bind (W.getO hr er (W.pos (by rw [hp, hl]; rfl) ?_)))
  rw [hg]
  exact h
theorem W.gmS {r : Nat} {C : Addr} {fs : List (Nat × V)} {name : Str} {g : Addr} {Q : V × List V → St → Prop} (h0 : nid name ≠ 0) (hr : r < m) (er : f r = .inst C fs) (hp : plainGet K C name = true) (hl : look (nid name) fs = none) (hn : fnIn K C name = none) (hg : statIn K C name = some g)
    (h : Q (.old g, []) ⟨f, m, l, md⟩) : W (getMeth K (.ref r) name) ⟨f, m, l, md⟩ Q E := by
  unfold getMeth
  refine W.neg h0 (W.bind (W.getO hr er (W.pos (by rw [hp, hl]; rfl) ?_)))
  rw [hn, hg]
  exact h
theorem W.gmC {C : Addr} {name : Str} {g : Addr} {Q : V × List V → St → Prop} (h0 : nid name ≠ 0) (hg : clsStat K C name = some g) (h : Q (.old g, []) st) : W (getMeth K (.old C) name) st Q E := by
  unfold getMeth
  refine W.neg h0 ?_
  dsimp only
  rw [hg]
  exact h
theorem W.gmA {r : Nat} {vs : List V} {Q : V × List V → St → Prop} (hr : r < m) (er : f r = .list vs) (h0 : nid ("append" : Str) ≠ 0) (h : Q (.bi "list.append", [.ref r]) ⟨f, m, l, md⟩) : W (getMeth K (.ref r) "append") ⟨f, m, l, md⟩ Q E := by
  unfold getMeth
  exact W.neg h0 (W.bind (W.getO hr er (W.pos rfl h)))
theorem W.gmT {i : Int} {Q : V × List V → St → Prop} (h0 : nid ("to_bytes" : Str) ≠ 0) (h : Q (.bi "int.to_bytes", [.int i]) st) : W (getMeth K (.int i) "to_bytes") st Q E := by
  unfold getMeth
  exact W.neg h0 (W.pos rfl h)
theorem W.fn {a : Addr} {fd : FuncData} {args : List V} {kw : List (Str × V)} {l' : List (Nat × Slot)} {body : List Stmt} {Q : V → St → Prop} (hf : fnOf? K a = some fd) (he : enterFn K fd args kw = some l') (hb : bodyOf fd = body)
    (h : W (execL (evX K n) body) ⟨f, m, l', { md with top := true }⟩ (fun fl s => Q (flV fl) ⟨s.obj, s.nxt, l, md⟩) (fun c s => E c ⟨s.obj, s.nxt, l, md⟩)) : W ((evX K (n + 1)).call (.old a) args kw) ⟨f, m, l, md⟩ Q E := by
  subst hb
  show W (callOld K (evX K n) a args kw) _ Q E
  unfold callOld
  rw [hf]
  show W (callFn K (evX K n) fd args kw) _ Q E
  unfold callFn
  rw [he]
  unfold W withLoc Mine.bind Mine.ret at *
  dsimp only
  cases e : execL (evX K n) (bodyOf fd) ⟨f, m, l', { md with top := true }⟩ with
  | ok fl s => rw [e] at h; exact h
  | err c fs s => rw [e] at h; exact h
  | stuck w => rw [e] at h; exact h
theorem W.fnC {p : Ev} {fd : FuncData} {args : List V} {kw : List (Str × V)} {l' : List (Nat × Slot)} {body : List Stmt} {Q : V → St → Prop} (he : enterFn K fd args kw = some l') (hb : bodyOf fd = body)
    (h : W (execL p body) ⟨f, m, l', { md with top := true }⟩ (fun fl s => Q (flV fl) ⟨s.obj, s.nxt, l, md⟩) (fun c s => E c ⟨s.obj, s.nxt, l, md⟩)) : W (callFn K p fd args kw) ⟨f, m, l, md⟩ Q E := by
  subst hb
  unfold callFn
  rw [he]
  unfold W withLoc Mine.bind Mine.ret at *
  dsimp only
  cases e : execL p (bodyOf fd) ⟨f, m, l', { md with top := true }⟩ with
  | ok fl s => rw [e] at h; exact h
  | err c fs s => rw [e] at h; exact h
  | stuck w => rw [e] at h; exact h
theorem W.new {C g : Addr} {fd : FuncData} {args : List V} {kw : List (Str × V)} {l' : List (Nat × Slot)} {body : List Stmt} {Q : V → St → Prop} (hC : fnOf? K C = none) (hm : makesIn K C = true) (hi : findIn K (.ref C) "__init__" = some (some (.ref g))) (hg : isFn K (.ref g) = true)
    (hf : fnOf? K g = some fd) (he : enterFn K fd (.ref m :: args) kw = some l') (hb : bodyOf fd = body)
    (h : W (execL (evX K n) body) ⟨updO f m (.inst C []), m + 1, l', { md with top := true }⟩ (fun fl s => flV fl = .none ∧ Q (.ref m) ⟨s.obj, s.nxt, l, md⟩) (fun c s => E c ⟨s.obj, s.nxt, l, md⟩)) : W ((evX K (n + 1)).call (.old C) args kw) ⟨f, m, l, md⟩ Q E := by
  show W (callOld K (evX K n) C args kw) _ Q E
  unfold callOld
  rw [hC]
  refine W.pos hm ?_
  unfold newInst
  rw [hi]
  refine W.pos hg ?_
  rw [hf]
  refine W.bind (W.alloc (W.bind (W.fnC he hb (W.mono h (fun fl s h => ?_) fun _ _ h => h))))
  rw [h.1]
  exact h.2
theorem W.len1 {b : List UInt8} {Q : V → St → Prop} (hz : b.length ≤ 16777216) (h : Q (.int b.length) st) : W ((evX K (n + 1)).call (.bi "len") [.bytes b] []) st Q E := by
  show W (biLen [.bytes b]) st Q E
  exact W.pos (decide_eq_true hz) h
theorem W.len2 {r : Nat} {vs : List V} {Q : V → St → Prop} (hr : r < m) (er : f r = .list vs) (hz : vs.length ≤ 16777216) (h : Q (.int vs.length) ⟨f, m, l, md⟩) : W ((evX K (n + 1)).call (.bi "len") [.ref r] []) ⟨f, m, l, md⟩ Q E := by
  show W (biLen [.ref r]) _ Q E
  exact W.bind (W.getO hr er (W.pos (decide_eq_true hz) h))
theorem W.len3 {r : Nat} {b : List UInt8} {Q : V → St → Prop} (hr : r < m) (er : f r = .barr b) (hz : b.length ≤ 16777216) (h : Q (.int b.length) ⟨f, m, l, md⟩) : W ((evX K (n + 1)).call (.bi "len") [.ref r] []) ⟨f, m, l, md⟩ Q E := by
  show W (biLen [.ref r]) _ Q E
  exact W.bind (W.getO hr er (W.pos (decide_eq_true hz) h))
theorem W.max2 {x y : Int} {Q : V → St → Prop} (hd : st.md.hd = false) (h : Q (.int (if x < y then y else x)) st) : W ((evX K (n + 1)).call (.bi "max") [.int x, .int y] []) st Q E := by
  show W (biMax [.int x, .int y]) st Q E
  exact W.calm hd h
theorem W.isI {x : V} {T : String} {b : Bool} {Q : V → St → Prop} (hb : (match x, T with | .int _, "int" => some true | .bytes _, "bytes" => some true | _, _ => none) = some b) (h : Q (.bool b) st) : W ((evX K (n + 1)).call (.bi "isinstance") [x, .type T] []) st Q E := by
  show W (biIsi K [x, .type T]) st Q E
  split at hb
  · cases hb; exact h
  · cases hb; exact h
  · cases hb
theorem W.isN {C : Addr} {Q : V → St → Prop} (hn : isNotIn K "NoneType" C = true) (h : Q (.bool false) st) : W ((evX K (n + 1)).call (.bi "isinstance") [.none, .old C] []) st Q E := by
  show W (biIsi K [.none, .old C]) st Q E
  exact W.pos hn h
theorem W.append {r : Nat} {vs : List V} {v : V} {Q : V → St → Prop} (hr : r < m) (er : f r = .list vs) (hz : vs.length + 1 ≤ 16777216) (h : Q .none ⟨updO f r (.list (vs ++ [v])), m, l, md⟩) : W ((evX K (n + 1)).call (.bi "list.append") [.ref r, v] []) ⟨f, m, l, md⟩ Q E := by
  show W (biAppend [.ref r, v]) _ Q E
  exact W.bind (W.getO hr er (W.pos (decide_eq_true hz) (W.bind (W.setO h))))
theorem W.toB {x k : Int} {Q : V → St → Prop} (hk : 0 ≤ k ∧ k ≤ 8) (hx : 0 ≤ x ∧ x < 256 ^ k.toNat) (h : Q (.bytes (leBytes k.toNat x.toNat)) st) : W ((evX K (n + 1)).call (.bi "int.to_bytes") [.int x, .int k, .str "little"] []) st Q E := by
  show W (biToBytes [.int x, .int k, .str "little"]) st Q E
  refine W.pos ?_ h
  rw [decide_eq_true hk.1, decide_eq_true hk.2, decide_eq_true hx.1, decide_eq_true hx.2]
  rfl
theorem W.range3 {a b k : Int} {Q : V → St → Prop} (hk : (k != 0 && decide (k.natAbs < 1073741824)) = true) (h : Q (.ref m) ⟨updO f m (.rng a b k), m + 1, l, md⟩) : W ((evX K (n + 1)).call (.type "range") [.int a, .int b, .int k] []) ⟨f, m, l, md⟩ Q E := by
  show W (tyRange [.int a, .int b, .int k]) _ Q E
  exact W.pos hk h
theorem W.int1 {i : Int} {Q : V → St → Prop} (h : Q (.int i) st) : W ((evX K (n + 1)).call (.type "int") [.int i] []) st Q E := h
theorem W.bytesL {r : Nat} {vs : List V} {ns : List Int} {Q : V → St → Prop} (hd : md.hd = false) (hr : r < m) (er : f r = .list vs) (hn : intsOf vs = some ns) (hz : vs.length ≤ 16777216) (hb : ∀ x ∈ ns, 0 ≤ x ∧ x < 256) (h : Q (.bytes (ns.map fun n => n.toNat.toUInt8)) ⟨f, m, l, md⟩) :
    W ((evX K (n + 1)).call (.type "bytes") [.ref r] []) ⟨f, m, l, md⟩ Q E := by
  show W (tyBytes [.ref r]) _ Q E
  refine W.bind (W.getO hr er ?_)
  dsimp only
  rw [hn]
  have e1 : szOk vs.length = true := decide_eq_true hz
  refine W.pos ?_ (W.calm hd h)
  rw [e1, Bool.true_and, List.all_eq_true]
  intro x hx
  rw [decide_eq_true (hb x hx).1, decide_eq_true (hb x hx).2]
  rfl
theorem W.bytesB {r : Nat} {b : List UInt8} {Q : V → St → Prop} (hr : r < m) (er : f r = .barr b) (hz : b.length ≤ 16777216) (h : Q (.bytes b) ⟨f, m, l, md⟩) : W ((evX K (n + 1)).call (.type "bytes") [.ref r] []) ⟨f, m, l, md⟩ Q E := by
  show W (tyBytes [.ref r]) _ Q E
  exact W.bind (W.getO hr er (W.pos (decide_eq_true hz) h))
theorem W.xNil {p : Ev} {Q : Fl → St → Prop} (h : Q .next st) : W (execL p []) st Q E := h
theorem W.xCons {p : Ev} {b : Stmt} {bs : List Stmt} {Q : Fl → St → Prop} (h : W (p.stmt b) st (fun fl s => match fl with | .next => W (execL p bs) s Q E | fl => Q fl s) E) : W (execL p (b :: bs)) st Q E := by
  unfold execL
  refine W.bind (W.mono h (fun fl s h => ?_) fun _ _ h => h)
  cases fl <;> exact h
theorem W.assignN {x : Str} {np pos : Pos} {e : Expr} {Q : Fl → St → Prop} (hn : notComp e = true) (h : W ((evX K n).expr e) st (fun v s => W (Mine.setLoc x v) s (fun _ s => Q .next s) E) E) : W ((evX K (n + 1)).stmt (.Assign [.Name x np] e pos)) st Q E := by
  have e0 : (evX K (n + 1)).stmt (.Assign [.Name x np] e pos) = assignS K (evX K n) (.Name x np) e := by
    show assignV K (evX K n) (.Name x np) e = _
    unfold assignV
    split
    · cases hn
    · exact if_pos (by rw [hn]; rfl)
  rw [e0]
  unfold assignS
  exact W.bind (W.mono h (fun v s h => W.bind (W.mono h (fun _ _ h => h) fun _ _ h => h)) fun _ _ h => h)
theorem W.assignA {o e : Expr} {a : Str} {ap pos : Pos} {Q : Fl → St → Prop} (hn : notComp e = true) (h : W ((evX K n).expr e) st (fun v s => W ((evX K n).expr o) s (fun ov s => W (writeAttr K ov a v) s (fun _ s => Q .next s) E) E) E) : W ((evX K (n + 1)).stmt (.Assign [.Attribute o a ap] e pos)) st Q E := by
  have e0 : (evX K (n + 1)).stmt (.Assign [.Attribute o a ap] e pos) = assignS K (evX K n) (.Attribute o a ap) e := by
    show assignV K (evX K n) (.Attribute o a ap) e = _
    unfold assignV
    exact if_pos (by rw [hn]; rfl)
  rw [e0]
  unfold assignS
  exact W.bind (W.mono h (fun v s h => W.bind (W.bind (W.mono h (fun _ _ h => W.mono h (fun _ _ h => h) fun _ _ h => h) fun _ _ h => h))) fun _ _ h => h)
theorem W.assignS' {o i e : Expr} {ap pos : Pos} {Q : Fl → St → Prop} (hn : notComp e = true) (h : W ((evX K n).expr e) st (fun v s => W ((evX K n).expr o) s (fun ov s => W ((evX K n).expr i) s (fun iv s => W (setItemV ov iv v) s (fun _ s => Q .next s) E) E) E) E) : W ((evX K (n + 1)).stmt (.Assign [.Subscript o i ap] e pos)) st Q E := by
  have e0 : (evX K (n + 1)).stmt (.Assign [.Subscript o i ap] e pos) = assignS K (evX K n) (.Subscript o i ap) e := by
    show assignV K (evX K n) (.Subscript o i ap) e = _
    unfold assignV
    exact if_pos (by rw [hn]; rfl)
  rw [e0]
  unfold assignS
  exact W.bind (W.mono h (fun v s h => W.bind (W.bind (W.mono h (fun _ _ h => W.bind (W.mono h (fun _ _ h => W.mono h (fun _ _ h => h) fun _ _ h => h) fun _ _ h => h)) fun _ _ h => h))) fun _ _ h => h)
theorem W.assignT {ts : List Expr} {k : Nat} {tp pos : Pos} {e : Expr} {xs : List Str} {Q : Fl → St → Prop} (hn : notComp e = true) (ht : isTup e = false) (hx : namesOf ts = some xs) (h : W ((evX K n).expr e) st (fun v s => W (unpackV v xs.length) s (fun vs s => W (setLocs xs vs) s (fun _ s => Q .next s) E) E) E) :
    W ((evX K (n + 1)).stmt (.Assign [.Tuple ts k tp] e pos)) st Q E := by
  have e0 : (evX K (n + 1)).stmt (.Assign [.Tuple ts k tp] e pos) = assignS K (evX K n) (.Tuple ts k tp) e := by
    show stmtW K (evX K n) (.Assign [.Tuple ts k tp] e pos) = _
    unfold stmtW
    split
    · rename_i q; cases q
    · rename_i q; cases q
    · rename_i q; cases q; cases ht
    · show assignV K (evX K n) (.Tuple ts k tp) e = _
      unfold assignV
      exact if_pos (by rw [hn, ht]; rfl)
  rw [e0]
  unfold assignS
  refine W.bind (W.mono h (fun v s h => W.bind ?_) fun _ _ h => h)
  show W (storeTup ts v) s _ E
  unfold storeTup
  rw [hx]
  exact W.bind (W.mono h (fun _ _ h => W.mono h (fun _ _ h => h) fun _ _ h => h) fun _ _ h => h)
theorem W.swap {ts vs : List Expr} {k1 k2 : Nat} {p1 p2 pos : Pos} {xs : List Str} {Q : Fl → St → Prop} (hs : swapOk ts vs = true) (hx : namesOf ts = some xs) (h : W ((evX K n).expr (.Tuple vs k2 p2)) st (fun v s => xs.all (localIn s.loc) = true ∧ W (unpackV v xs.length) s (fun us s => W (setLocs xs.reverse us.reverse) s (fun _ s => Q .next s) E) E) E) :
    W ((evX K (n + 1)).stmt (.Assign [.Tuple ts k1 p1] (.Tuple vs k2 p2) pos)) st Q E := by
  show W (stmtW K (evX K n) (.Assign [.Tuple ts k1 p1] (.Tuple vs k2 p2) pos)) st Q E
  unfold stmtW
  refine W.pos hs ?_
  rw [hx]
  show W (swapS (evX K n) xs (.Tuple vs k2 p2)) st Q E
  unfold swapS
  refine W.bind (W.mono h (fun v s h => ?_) fun _ _ h => h)
  have := W.bind (W.mono h.2 (fun us s h => W.bind (W.mono h (fun _ _ h => h) fun _ _ h => h)) fun _ _ h => h) (k := fun vs => Mine.bind (setLocs xs.reverse vs.reverse) fun _ => Mine.ret Fl.next) (Q := Q)
  unfold W at this ⊢
  dsimp only
  rw [if_pos h.1]
  exact this
theorem W.sNil {Q : Unit → St → Prop} (h : Q () st) : W (setLocs [] []) st Q E := h
theorem W.sCons {x : Str} {xs : List Str} {v : V} {vs : List V} {Q : Unit → St → Prop} (h : W (Mine.setLoc x v) st (fun _ s => W (setLocs xs vs) s Q E) E) : W (setLocs (x :: xs) (v :: vs)) st Q E := by
  show W (Mine.bind (Mine.setLoc x v) fun _ => setLocs xs vs) st Q E
  exact W.bind h
theorem W.unpL {r k : Nat} {vs : List V} {Q : List V → St → Prop} (hd : md.hd = false) (hr : r < m) (er : f r = .list vs) (hk : vs.length = k) (h : Q vs ⟨f, m, l, md⟩) : W (unpackV (.ref r) k) ⟨f, m, l, md⟩ Q E := by
  unfold unpackV
  exact W.bind (W.getO hr er (W.pos hk (W.calm hd h)))
theorem W.unpT {r k : Nat} {vs : List V} {Q : List V → St → Prop} (hd : md.hd = false) (hr : r < m) (er : f r = .tup vs) (hk : vs.length = k) (h : Q vs ⟨f, m, l, md⟩) : W (unpackV (.ref r) k) ⟨f, m, l, md⟩ Q E := by
  unfold unpackV
  exact W.bind (W.getO hr er (W.pos hk (W.calm hd h)))
theorem W.augN {x : Str} {np pos : Pos} {op : Operator} {e : Expr} {Q : Fl → St → Prop} (h : W (nameV K x) st (fun old s => W ((evX K n).expr e) s (fun v s => W (inplV op old v) s (fun nw s => W (Mine.setLoc x nw) s (fun _ s => Q .next s) E) E) E) E) : W ((evX K (n + 1)).stmt (.AugAssign (.Name x np) op e pos)) st Q E := by
  show W (Mine.augN K (evX K n) x op e) st Q E
  unfold Mine.augN
  exact W.bind (W.mono h (fun _ _ h => W.bind (W.mono h (fun _ _ h => W.bind (W.mono h (fun _ _ h => W.bind (W.mono h (fun _ _ h => h) fun _ _ h => h)) fun _ _ h => h)) fun _ _ h => h)) fun _ _ h => h)
theorem W.nameV {x : Str} {v : V} {Q : V → St → Prop} (h0 : nid x ≠ 0) (hl : look (nid x) l = some (.val v)) (h : Q v ⟨f, m, l, md⟩) : W (Mine.nameV K x) ⟨f, m, l, md⟩ Q E := by
  refine W.ok (st' := ⟨f, m, l, md⟩) (a := v) ?_ h
  unfold Mine.nameV
  rw [if_neg h0]
  show (match look (nid x) l with | some (.val v) => _ | some .glob => _ | some (.cell i _) => _ | _ => _) = _
  rw [hl]
theorem W.augA {o e : Expr} {a : Str} {ap pos : Pos} {op : Operator} {Q : Fl → St → Prop} (h : W ((evX K n).expr o) st (fun ov s => W (readAttr K ov a) s (fun old s => W ((evX K n).expr e) s (fun v s => W (inplV op old v) s (fun nw s => W (writeAttr K ov a nw) s (fun _ s => Q .next s) E) E) E) E) E) : W ((evX K (n + 1)).stmt (.AugAssign (.Attribute o a ap) op e pos)) st Q E := by
  show W (Mine.augA K (evX K n) o a op e) st Q E
  unfold Mine.augA
  exact W.bind (W.mono h (fun _ _ h => W.bind (W.mono h (fun _ _ h => W.bind (W.mono h (fun _ _ h => W.bind (W.mono h (fun _ _ h => W.bind (W.mono h (fun _ _ h => h) fun _ _ h => h)) fun _ _ h => h)) fun _ _ h => h)) fun _ _ h => h)) fun _ _ h => h)
theorem W.ifS {c : Expr} {a b : List Stmt} {pos : Pos} {Q : Fl → St → Prop} (h : W ((evX K n).test c) st (fun t s => (t = true → W (execL (evX K n) a) s Q E) ∧ (t = false → W (execL (evX K n) b) s Q E)) E) : W ((evX K (n + 1)).stmt (.If c a b pos)) st Q E := by
  show W (Mine.ifS (evX K n) c a b) st Q E
  exact W.bind (W.mono h (fun t s h => W.ite h.1 h.2) fun _ _ h => h)
theorem W.retN {pos : Pos} {Q : Fl → St → Prop} (h : Q (.ret .none) st) : W ((evX K (n + 1)).stmt (.Return none pos)) st Q E := h
theorem W.retE {e : Expr} {pos : Pos} {Q : Fl → St → Prop} (h : W ((evX K n).expr e) st (fun v s => Q (.ret v) s) E) : W ((evX K (n + 1)).stmt (.Return (some e) pos)) st Q E := by
  show W (Mine.bind ((evX K n).expr e) fun v => Mine.ret (.ret v)) st Q E
  exact W.bind h
theorem W.exprS {e : Expr} {pos : Pos} {Q : Fl → St → Prop} (hn : notComp e = true) (h : W ((evX K n).expr e) st (fun _ s => Q .next s) E) : W ((evX K (n + 1)).stmt (.Expr e pos)) st Q E := by
  show W (Mine.exprS (evX K n) e) st Q E
  unfold Mine.exprS
  exact W.pos hn (W.bind h)
theorem W.cont {pos : Pos} {Q : Fl → St → Prop} (h : Q .cont st) : W ((evX K (n + 1)).stmt (.Continue pos)) st Q E := h
theorem W.brk {pos : Pos} {Q : Fl → St → Prop} (h : Q .brk st) : W ((evX K (n + 1)).stmt (.Break pos)) st Q E := h
theorem W.raise {x : Str} {xp cp pos : Pos} {args : List Expr} {Q : Fl → St → Prop} (hd : st.md.hd = false) (ha : (args.all plainE && !args.isEmpty) = true) (h : W (nameE K x) st (fun g s => g = .type "ValueError" ∧ W (evalL (evX K n) args) s (fun vs s => vs.length ≤ 16777216 ∧ E (.type "ValueError") s) NoX) NoX) :
    W ((evX K (n + 1)).stmt (.Raise (some (.Call (.Name x xp) args [] cp)) none pos)) st Q E := by
  show W (raiseS K (evX K n) x args) st Q E
  unfold raiseS
  refine W.calm hd ?_
  have h2 : W (raiseA K (evX K n) x args) st (fun vs s => vs.length ≤ 16777216 ∧ E (.type "ValueError") s) NoX := by
    unfold raiseA
    refine W.bind (W.mono h (fun g s h => ?_) fun _ _ h => h)
    rw [Bool.and_eq_true] at ha
    exact W.pos (by rw [h.1, ha.1, ha.2]; rfl) h.2
  obtain ⟨vs, s', e, q1, q2⟩ := W.toOk h2
  unfold W
  dsimp only
  rw [e]
  dsimp only
  rw [if_pos (show szOk vs.length = true from decide_eq_true q1)]
  exact q2
theorem W.try_ {body hs orelse : List Stmt} {b₀ : Stmt} {x : Str} {np hp pos : Pos} {rest : List ExceptHandler} {Q : Fl → St → Prop} (hd : st.md.hd = false) (ht : st.md.top = true)
    (h : W (execL (evX K n) body) st (fun fl s => match fl with | .next => W (execL (evX K n) orelse) s Q E | fl => Q fl s)
      (fun c s => c = .type "ValueError" ∧ W (nameE K x) { s with md := { s.md with hd := true } } (fun g s2 => g = .type "ValueError" ∧ W (execL (evX K n) (b₀ :: hs)) s2 (fun fl s3 => Q fl { s3 with md := s.md }) NoX) NoX)) :
    W ((evX K (n + 1)).stmt (.Try body (.ExceptHandler (some (.Name x np)) none (b₀ :: hs) hp :: rest) orelse [] pos)) st Q E := by
  show W (tryS K (evX K n) body (b₀ :: hs) orelse x) st Q E
  unfold W tryS at *
  rw [if_neg (by rw [hd, ht]; exact Bool.false_ne_true)]
  cases e : execL (evX K n) body st with
  | stuck w => rw [e] at h; exact h
  | ok fl s =>
    rw [e] at h
    cases fl <;> exact h
  | err c fs s =>
    rw [e] at h
    dsimp only at h ⊢
    obtain ⟨rfl, h⟩ := h
    rw [if_pos rfl]
    unfold underH Mine.bind
    cases e2 : nameE K x { s with md := { s.md with hd := true } } with
    | stuck w => rw [e2] at h; exact h.elim
    | err _ _ _ => rw [e2] at h; exact h.elim
    | ok g s2 =>
      rw [e2] at h
      dsimp only at h ⊢
      obtain ⟨rfl, h⟩ := h
      rw [if_pos rfl]
      cases e3 : execL (evX K n) (b₀ :: hs) s2 with
      | stuck w => rw [e3] at h; exact h.elim
      | err _ _ _ => rw [e3] at h; exact h.elim
      | ok fl s3 => rw [e3] at h; exact h
end
end Mine
namespace Mine
open PySem PySem.W PySem.Calls PyProof.Rows
def keysF : Stmt → Bool
  | .For _ (.Call (.Attribute _ ks _) [] [] _) _ _ _ => decide (ks = ("keys" : Str))
  | _ => false
section
variable {K : Frag} {p : Ev} {n m : Nat} {f : Nat → O} {l : List (Nat × Slot)} {md : Mode} {st : St} {E : V → St → Prop}
theorem W.forS {t it : Expr} {body orelse : List Stmt} {pos : Pos} {Q : Fl → St → Prop} (hk : keysF (.For t it body orelse pos) = false) (hn : notSet it = true)
    (h : W ((evX K n).expr it) st (fun v s => W (loopE K (evX K n) t body orelse v) s Q E) E) : W ((evX K (n + 1)).stmt (.For t it body orelse pos)) st Q E := by
  have e0 : (evX K (n + 1)).stmt (.For t it body orelse pos) = forE K (evX K n) t it body orelse := by
    show stmtX K (evX K n) (.For t it body orelse pos) = _
    unfold stmtX
    split
    · rename_i q
      injection q with _ q1 _ _ _
      subst q1
      unfold keysF at hk
      rw [if_neg fun q => of_decide_eq_false hk q.1]
      rfl
    · rfl
  rw [e0]
  unfold forE
  exact W.pos hn (W.bind h)
theorem W.loopR {r : Nat} {a b c : Int} {t : Expr} {body orelse : List Stmt} {Q : Fl → St → Prop} (hd : md.hd = false) (ht : md.top = true) (hr : r < m) (er : f r = .rng a b c) (hs : Builtin.Range.small a b c = true)
    (h : W (forL K p (fun _ => true) plainMk t body orelse 0 (rngL a b c)) ⟨f, m, l, md⟩ Q E) : W (loopE K p t body orelse (.ref r)) ⟨f, m, l, md⟩ Q E := by
  unfold loopE
  exact W.calm hd (W.bind (W.getO hr er (W.pos hs (W.topOnly ht h))))
theorem W.loopL {r : Nat} {vs : List V} {t : Expr} {body orelse : List Stmt} {Q : Fl → St → Prop} (hd : md.hd = false) (ht : md.top = true) (hr : r < m) (er : f r = .list vs)
    (h : W (forL K p (still r (.list vs)) plainMk t body orelse 0 vs) ⟨f, m, l, md⟩ Q E) : W (loopE K p t body orelse (.ref r)) ⟨f, m, l, md⟩ Q E := by
  unfold loopE
  exact W.calm hd (W.bind (W.getO hr er (W.topOnly ht h)))
theorem W.lNil {gd : St → Bool} {mk : Nat → V → St → V × St} {t : Expr} {body orelse : List Stmt} {k : Nat} {Q : Fl → St → Prop} (h : W (execL p orelse) st Q E) : W (forL K p gd mk t body orelse k []) st Q E := h
theorem W.lCons {gd : St → Bool} {x : Str} {np : Pos} {body orelse : List Stmt} {k : Nat} {v : V} {r : List V} {Q : Fl → St → Prop}
    (h : W (Mine.setLoc x v) st (fun _ s => W (execL p body) s (fun fl s => match fl with | .brk => Q .next s | .ret w => Q (.ret w) s | _ => gd s = true ∧ W (forL K p gd plainMk (.Name x np) body orelse (k + 1) r) s Q E) E) E) :
    W (forL K p gd plainMk (.Name x np) body orelse k (v :: r)) st Q E := by
  have : W (Mine.bind (Mine.setLoc x v) fun _ => Mine.bind (execL p body) fun fl => match fl with
    | .brk => Mine.ret .next
    | .ret w => Mine.ret (.ret w)
    | _ => fun s' => if gd s' = true then forL K p gd plainMk (.Name x np) body orelse (k + 1) r s' else .stuck "loop") st Q E := by
    refine W.bind (W.mono h (fun _ s h => W.bind (W.mono h (fun fl s h => ?_) fun _ _ h => h)) fun _ _ h => h)
    cases fl with
    | brk => exact h
    | ret w => exact h
    | next => unfold W at h ⊢; dsimp only at h ⊢; rw [if_pos h.1]; exact h.2
    | cont => unfold W at h ⊢; dsimp only at h ⊢; rw [if_pos h.1]; exact h.2
  exact this
theorem W.lInv {gd : St → Bool} {x : Str} {np : Pos} {body orelse : List Stmt} {items : List V} {Q : Fl → St → Prop} (I : Nat → St → Prop) (h0 : I 0 st)
    (hs : ∀ k v, items[k]? = some v → ∀ s, I k s → W (Mine.setLoc x v) s (fun _ s => W (execL p body) s (fun fl s => match fl with | .brk => Q .next s | .ret w => Q (.ret w) s | _ => gd s = true ∧ I (k + 1) s) E) E)
    (he : ∀ s, I items.length s → W (execL p orelse) s Q E) : W (forL K p gd plainMk (.Name x np) body orelse 0 items) st Q E := by
  have go : ∀ (r : List V) (k : Nat) (s : St), r = items.drop k → k ≤ items.length → I k s → W (forL K p gd plainMk (.Name x np) body orelse k r) s Q E := by
    intro r
    induction r with
    | nil =>
      intro k s e hk hI
      have : k = items.length := by have := congrArg List.length e; simp at this; omega
      subst this
      exact W.lNil (he s hI)
    | cons v r ih =>
      intro k s e hk hI
      have hk' : k < items.length := by have := congrArg List.length e; simp at this; omega
      have e1 : items[k]? = some v := by
        have := congrArg (fun l => l[0]?) e
        simp at this
        exact this.symm
      have e2 : r = items.drop (k + 1) := by
        have := congrArg List.tail e
        simpa using this
      refine W.lCons (W.mono (hs k v e1 s hI) (fun _ s h => W.mono h (fun fl s h => ?_) fun _ _ h => h) fun _ _ h => h)
      cases fl with
      | brk => exact h
      | ret w => exact h
      | next => exact ⟨h.1, ih (k + 1) s e2 hk' h.2⟩
      | cont => exact ⟨h.1, ih (k + 1) s e2 hk' h.2⟩
  exact go items 0 st rfl (Nat.zero_le _) h0
theorem W.keys {o : Expr} {t : Expr} {ks : Str} {ap cp pos : Pos} {body orelse : List Stmt} {Q : Fl → St → Prop} (hk : ks = ("keys" : Str)) (hc : (notSuper o && ap.endLine == cp.line) = true)
    (h : W ((evX K n).expr o) st (fun v s => ∃ r, v = .ref r ∧ r < s.nxt ∧ s.obj r = .dict [] ∧ s.md.hd = false ∧ W (execL (evX K n) orelse) s Q NoX) NoX) :
    W ((evX K (n + 1)).stmt (.For t (.Call (.Attribute o ks ap) [] [] cp) body orelse pos)) st Q E := by
  show W (if ks = ("keys" : Str) ∧ (notSuper o && ap.endLine == cp.line) = true then keysS (evX K n) o orelse else stmtW K (evX K n) _) st Q E
  refine W.pos ⟨hk, hc⟩ ?_
  unfold keysS
  refine W.noErr (W.bind (W.mono h (fun v s h => ?_) fun _ _ h => h))
  obtain ⟨r, rfl, hr, er, hd, h⟩ := h
  dsimp only
  refine W.calm hd (W.bind ?_)
  obtain ⟨f, m, l, md⟩ := s
  refine W.getO hr er ?_
  exact h
theorem W.fromB {i fb : Str} {ip ap pos : Pos} {x e : Expr} {Q : V → St → Prop} (hc : i = ("int" : Str) ∧ fb = ("from_bytes" : Str) ∧ (plainE x && plainE e && ap.endLine == pos.line) = true)
    (h : W ((evX K n).expr (.Name "int" ip)) st (fun g s => g = .type "int" ∧ W (evalL (evX K n) [x, e]) s (fun vs s => ∃ b, vs = [.bytes b, .str "little"] ∧ b.length ≤ 8 ∧ Q (.int (leNat b)) s) NoX) NoX) :
    W ((evX K (n + 1)).expr (.Call (.Attribute (.Name i ip) fb ap) [x, e] [] pos)) st Q E := by
  show W (if i = ("int" : Str) ∧ fb = ("from_bytes" : Str) ∧ (plainE x && plainE e && ap.endLine == pos.line) = true then Mine.fromB (evX K n) ip x e else exprV K (evX K n) _) st Q E
  refine W.pos hc ?_
  unfold Mine.fromB
  refine W.noErr (W.bind (W.mono h (fun g s h => W.pos h.1 (W.bind (W.mono h.2 (fun vs s h => ?_) fun _ _ h => h))) fun _ _ h => h))
  obtain ⟨b, rfl, hb, h⟩ := h
  exact W.pos (c := ("little" : Str) = ("little" : Str) ∧ b.length ≤ 8) ⟨rfl, hb⟩ h
theorem W.dictZ {d w : Str} {dp zp q1 q2 : Pos} {a b : Expr} {Q : V → St → Prop} (hc : d = ("dict" : Str) ∧ w = ("zip" : Str) ∧ (plainE a && plainE b) = true)
    (h : W ((evX K n).expr (.Name "dict" dp)) st (fun g s => g = .type "dict" ∧ W ((evX K n).expr (.Name "zip" zp)) s (fun g s => g = .type "zip" ∧ W (evalL (evX K n) [a, b]) s (fun vs s => ∃ x y, vs = [x, y] ∧ W (dictZV K x y) s Q NoX) NoX) NoX) NoX) :
    W ((evX K (n + 1)).expr (.Call (.Name d dp) [.Call (.Name w zp) [a, b] [] q1] [] q2)) st Q E := by
  show W (if d = ("dict" : Str) ∧ w = ("zip" : Str) ∧ (plainE a && plainE b) = true then Mine.dictZ K (evX K n) dp zp a b else exprV K (evX K n) _) st Q E
  refine W.pos hc ?_
  unfold Mine.dictZ
  refine W.noErr (W.bind (W.mono h (fun g s h => W.pos h.1 (W.bind (W.mono h.2 (fun g s h => W.pos h.1 (W.bind (W.mono h.2 (fun vs s h => ?_) fun _ _ h => h))) fun _ _ h => h))) fun _ _ h => h))
  obtain ⟨x, y, rfl, h⟩ := h
  exact h
theorem W.dictZV {a : Addr} {r : Nat} {names : List Str} {vs : List V} {Q : V → St → Prop} (hd : md.hd = false) (hn : oldStrs K a = some names) (hr : r < m) (er : f r = .list vs) (hl : names.length = vs.length) (hz : names.length ≤ 1000) (ha : names.all (fun x => nid x != 0) = true) {es : List (Nat × V)} (he : putAll [] (names.zip vs) = es)
    (h : Q (.ref m) ⟨updO f m (.dict es), m + 1, l, md⟩) : W (dictZV K (.old a) (.ref r)) ⟨f, m, l, md⟩ Q E := by
  subst he
  show W (Mine.calm (match oldStrs K a with
    | some names => Mine.bind (Mine.getO r) fun ob => (match ob with
      | .list vs => if names.length = vs.length ∧ names.length ≤ 1000 ∧ names.all (fun x => nid x != 0) = true then Mine.alloc (.dict (putAll [] (names.zip vs))) else Mine.stuck "dict of zip"
      | _ => Mine.stuck "dict of zip")
    | Option.none => Mine.stuck "dict of zip")) _ Q E
  refine W.calm hd ?_
  rw [hn]
  exact W.bind (W.getO hr er (W.pos ⟨hl, hz, ha⟩ (W.alloc h)))
theorem W.comp {elt it : Expr} {x : Str} {xp pos : Pos} {ifs : List Expr} {sc : Scope} {Q : V → St → Prop} (hs : (scopeOk sc && notSet it) = true) (h : W ((evX K n).expr it) st (fun v s => W (compOver (evX K n) sc x elt ifs v) s Q NoX) E) :
    W ((evX K (n + 1)).expr (.ListComp elt [⟨.Name x xp, it, ifs, 0⟩] sc pos)) st Q E := by
  show W (compE (evX K n) elt sc x it ifs) st Q E
  unfold compE
  exact W.pos hs (W.bind (W.mono h (fun v s h => W.noErr h) fun _ _ h => h))
theorem W.compL {r : Nat} {vs : List V} {elt : Expr} {x : Str} {ifs : List Expr} {sc : Scope} {Q : V → St → Prop} (hd : md.hd = false) (hr : r < m) (er : f r = .list vs)
    (h : W (forC p (still r (.list vs)) x elt ifs (.ref m) vs) ⟨updO f m (.list []), m + 1, locOf [] sc.names, { md with top := false }⟩ (fun _ s => Q (.ref m) ⟨s.obj, s.nxt, l, md⟩) NoX) :
    W (compOver p sc x elt ifs (.ref r)) ⟨f, m, l, md⟩ Q NoX := by
  unfold compOver
  refine W.calm hd (W.bind (W.getO hr er ?_))
  dsimp only
  unfold compRun
  refine W.bind (W.mkList (Nat.zero_le _) ?_)
  unfold W withC at *
  dsimp only
  cases e : forC p (still r (.list vs)) x elt ifs (.ref m) vs ⟨updO f m (.list []), m + 1, locOf [] sc.names, { md with top := false }⟩ with
  | ok a s => rw [e] at h; exact h
  | err c fs s => rw [e] at h; exact h.elim
  | stuck w => rw [e] at h; exact h.elim
theorem W.cInv {gd : St → Bool} {x : Str} {elt : Expr} {ifs : List Expr} {acc : V} {items : List V} {Q : Unit → St → Prop} (I : Nat → St → Prop) (h0 : I 0 st)
    (hs : ∀ k v, items[k]? = some v → ∀ s, I k s → W (Mine.setLoc x v) s (fun _ s => W (testIfs p ifs) s (fun t s => W (putC p elt acc t) s (fun _ s => gd s = true ∧ I (k + 1) s) E) E) E)
    (he : ∀ s, I items.length s → Q () s) : W (forC p gd x elt ifs acc items) st Q E := by
  have go : ∀ (r : List V) (k : Nat) (s : St), r = items.drop k → k ≤ items.length → I k s → W (forC p gd x elt ifs acc r) s Q E := by
    intro r
    induction r with
    | nil =>
      intro k s e hk hI
      have : k = items.length := by have := congrArg List.length e; simp at this; omega
      subst this
      exact W.ret (he s hI)
    | cons v r ih =>
      intro k s e hk hI
      have hk' : k < items.length := by have := congrArg List.length e; simp at this; omega
      have e1 : items[k]? = some v := by
        have := congrArg (fun l => l[0]?) e
        simp at this
        exact this.symm
      have e2 : r = items.drop (k + 1) := by
        have := congrArg List.tail e
        simpa using this
      unfold forC
      refine W.bind (W.mono (hs k v e1 s hI) (fun _ s h => W.bind (W.mono h (fun t s h => W.bind (W.mono h (fun _ s h => ?_) fun _ _ h => h)) fun _ _ h => h)) fun _ _ h => h)
      unfold W
      dsimp only
      rw [if_pos h.1]
      exact ih (k + 1) s e2 hk' h.2
  exact go items 0 st rfl (Nat.zero_le _) h0
theorem W.ifNil {Q : Bool → St → Prop} (h : Q true st) : W (testIfs p []) st Q E := h
theorem W.ifCons {e : Expr} {r : List Expr} {Q : Bool → St → Prop} (h : W (p.test e) st (fun t s => (t = true → W (testIfs p r) s Q E) ∧ (t = false → Q false s)) E) : W (testIfs p (e :: r)) st Q E := by
  unfold testIfs
  refine W.bind (W.mono h (fun t s h => ?_) fun _ _ h => h)
  cases t with
  | true => exact h.1 rfl
  | false => exact h.2 rfl
theorem W.putF {elt : Expr} {acc : V} {Q : Unit → St → Prop} (h : Q () st) : W (putC p elt acc false) st Q E := h
theorem W.putT {elt : Expr} {acc : V} {Q : Unit → St → Prop} (h : W (p.expr elt) st (fun y s => W (biAppend [acc, y]) s (fun _ s => Q () s) E) E) : W (putC p elt acc true) st Q E := by
  show W (Mine.bind (p.expr elt) fun y => Mine.bind (biAppend [acc, y]) fun _ => Mine.ret ()) st Q E
  exact W.bind (W.mono h (fun _ _ h => W.bind h) fun _ _ h => h)
theorem W.biAppend {r : Nat} {vs : List V} {v : V} {Q : V → St → Prop} (hr : r < m) (er : f r = .list vs) (hz : vs.length + 1 ≤ 16777216) (h : Q .none ⟨updO f r (.list (vs ++ [v])), m, l, md⟩) : W (Mine.biAppend [.ref r, v]) ⟨f, m, l, md⟩ Q E :=
  W.append (K := (default : Frag)) (n := 0) hr er hz h
theorem W.assignC {t : Str} {tp : Pos} {elt it : Expr} {x : Str} {xp pos qp : Pos} {ifs : List Expr} {sc : Scope} {Q : Fl → St → Prop} (hc : (tp.line == pos.line && !(sc.names.any fun (n, k) => n == t && (k == .local || k == .cell)) && localIn st.loc t) = true)
    (hs : (scopeOk sc && notSet it) = true) (h : W ((evX K n).expr it) st (fun v s => W (compOver (evX K n) sc x elt ifs v) s (fun v s => W (Mine.setLoc t v) s (fun _ s => Q .next s) NoX) NoX) NoX) :
    W ((evX K (n + 1)).stmt (.Assign [.Name t tp] (.ListComp elt [⟨.Name x xp, it, ifs, 0⟩] sc pos) qp)) st Q E := by
  show W (compA (evX K n) t tp elt sc x it ifs pos) st Q E
  have : W (Mine.noErr (Mine.bind (compE (evX K n) elt sc x it ifs) fun v => Mine.bind (Mine.setLoc t v) fun _ => Mine.ret .next)) st Q E := by
    refine W.noErr (W.bind ?_)
    unfold compE
    exact W.pos hs (W.bind (W.mono h (fun v s h => W.noErr (W.mono h (fun _ _ h => W.bind h) fun _ _ h => h)) fun _ _ h => h))
  unfold W compA at *
  rw [if_pos hc]
  exact this
end
end Mine
namespace Mine
open PySem PySem.W PySem.Calls PyProof.Rows
def selS (sel : Nat → Bool) : Stmt → Bool
  | .Assign [_] _ pos => sel pos.line
  | .Expr _ pos => sel pos.line
  | .Return (some _) pos => sel pos.line
  | .If _ _ _ pos => sel pos.line
  | .For _ _ _ _ pos => sel pos.line
  | .Try _ (_ :: _) _ [] pos => sel pos.line
  | _ => false
section
variable {K : Frag} {p : Ev} {sel : Nat → Bool} {q : Nv} {n m : Nat} {f : Nat → O} {l : List (Nat × Slot)} {md : Mode} {st : St} {E : V → St → Prop}
theorem W.nPlain {b : Stmt} {Q : Fl → St → Prop} (hs : selS sel b = false) (h : W (p.stmt b) st Q E) : W ((nvN K p sel (n + 1)).stmt b) st Q E := by
  have e0 : (nvN K p sel (n + 1)).stmt b = p.stmt b := by
    show stmtN K p (nvN K p sel n) sel b = _
    unfold stmtN
    split <;> first | exact if_neg (fun q => Bool.false_ne_true (hs.symm.trans q)) | rfl
  rw [e0]; exact h
theorem W.nNil {Q : Fl → St → Prop} (h : Q .next st) : W (execN q []) st Q E := h
theorem W.nCons {b : Stmt} {bs : List Stmt} {Q : Fl → St → Prop} (h : W (q.stmt b) st (fun fl s => match fl with | .next => W (execN q bs) s Q E | fl => Q fl s) E) : W (execN q (b :: bs)) st Q E := by
  unfold execN
  refine W.bind (W.mono h (fun fl s h => ?_) fun _ _ h => h)
  cases fl <;> exact h
theorem W.nAssign {t e : Expr} {pos : Pos} {Q : Fl → St → Prop} (hs : sel pos.line = true) (hc : (plainE t && isCall e) = true) (h : W (callEN K p (nvN K p sel n) e) st (fun v s => W (assignTo K p t v) s (fun _ s => Q .next s) E) E) : W ((nvN K p sel (n + 1)).stmt (.Assign [t] e pos)) st Q E := by
  show W (if sel pos.line = true then Mine.assignN K p (nvN K p sel n) t e else p.stmt _) st Q E
  refine W.pos hs ?_
  unfold Mine.assignN
  exact W.pos hc (W.bind (W.mono h (fun v s h => W.bind h) fun _ _ h => h))
theorem W.nExpr {e : Expr} {pos : Pos} {Q : Fl → St → Prop} (hs : sel pos.line = true) (hc : isCall e = true) (h : W (callEN K p (nvN K p sel n) e) st (fun v s => Q .next s) E) : W ((nvN K p sel (n + 1)).stmt (.Expr e pos)) st Q E := by
  show W (if sel pos.line = true then exprN K p (nvN K p sel n) e else p.stmt _) st Q E
  refine W.pos hs ?_
  unfold exprN
  exact W.pos hc (W.bind h)
theorem W.nFor {t it : Expr} {body orelse : List Stmt} {pos : Pos} {Q : Fl → St → Prop} (hs : sel pos.line = true) (h : W (forN K p (nvN K p sel n) t it body orelse) st Q E) : W ((nvN K p sel (n + 1)).stmt (.For t it body orelse pos)) st Q E := by
  show W (if sel pos.line = true then forN K p (nvN K p sel n) t it body orelse else p.stmt _) st Q E
  exact W.pos hs h
theorem W.nTry {body orelse : List Stmt} {h₀ : ExceptHandler} {hs' : List ExceptHandler} {pos : Pos} {Q : Fl → St → Prop} (hs : sel pos.line = true) (h : W (execN (nvN K p sel n) body) st (fun fl s => match fl with | .next => W (execN (nvN K p sel n) orelse) s Q E | fl => Q fl s) E) : W ((nvN K p sel (n + 1)).stmt (.Try body (h₀ :: hs') orelse [] pos)) st Q E := by
  show W (if sel pos.line = true then tryN (nvN K p sel n) body orelse else p.stmt _) st Q E
  refine W.pos hs ?_
  unfold tryN
  refine W.bind (W.mono h (fun fl s h => ?_) fun _ _ h => h)
  cases fl <;> exact h
theorem W.nMeth {o : Expr} {name : Str} {apos pos : Pos} {args : List Expr} {kws : List Keyword} {Q : V → St → Prop}
    (hc : (notSuper o && args.all plainE && kws.all (·.arg.isSome) && decide (args.length + kws.length + 1 < 30) && apos.endLine == pos.line) = true)
    (h : W (p.expr o) st (fun ov s => W (getMeth K ov name) s (fun g s => calleeOk K g.1 = true ∧ W (evalL p args) s (fun vs s => W (evalKw p kws) s (fun kw s => W (q.call g.1 (g.2 ++ vs) kw) s Q E) E) E) E) E) :
    W (callEN K p q (.Call (.Attribute o name apos) args kws pos)) st Q E := by
  unfold callEN
  exact W.pos hc (W.bind (W.mono h (fun ov s h => W.bind (W.mono h (fun g s h => W.pos h.1 (W.args h.2)) fun _ _ h => h)) fun _ _ h => h))
theorem W.nName {x : Str} {xp pos : Pos} {args : List Expr} {kws : List Keyword} {Q : V → St → Prop} (hc : (args.all plainE && kws.all (·.arg.isSome)) = true)
    (h : W (p.expr (.Name x xp)) st (fun g s => calleeOk K g = true ∧ W (evalL p args) s (fun vs s => W (evalKw p kws) s (fun kw s => W (q.call g vs kw) s Q E) E) E) E) :
    W (callEN K p q (.Call (.Name x xp) args kws pos)) st Q E := by
  unfold callEN
  rw [Bool.and_eq_true] at hc
  exact W.bind (W.mono h (fun g s h => W.pos (by rw [h.1, hc.1, hc.2]; rfl) (W.args h.2)) fun _ _ h => h)
theorem W.nFn {a : Addr} {fd : FuncData} {args : List V} {kw : List (Str × V)} {l' : List (Nat × Slot)} {body : List Stmt} {Q : V → St → Prop} (hf : fnOf? K a = some fd) (he : enterFn K fd args kw = some l') (hb : bodyOf fd = body)
    (h : W (execN (nvN K p sel n) body) ⟨f, m, l', { md with top := true }⟩ (fun fl s => Q (flV fl) ⟨s.obj, s.nxt, l, md⟩) (fun c s => E c ⟨s.obj, s.nxt, l, md⟩)) : W ((nvN K p sel (n + 1)).call (.old a) args kw) ⟨f, m, l, md⟩ Q E := by
  subst hb
  show W (callNV K (nvN K p sel n) (.old a) args kw) _ Q E
  unfold callNV
  dsimp only
  rw [hf]
  show W (callFnN K (nvN K p sel n) fd args kw) _ Q E
  unfold callFnN
  rw [he]
  unfold W withLoc Mine.bind Mine.ret at *
  dsimp only
  cases e : execN (nvN K p sel n) (bodyOf fd) ⟨f, m, l', { md with top := true }⟩ with
  | ok fl s => rw [e] at h; exact h
  | err c fs s => rw [e] at h; exact h
  | stuck w => rw [e] at h; exact h
theorem W.nBarr {b : List UInt8} {Q : V → St → Prop} (hz : b.length ≤ 16777216) (h : Q (.ref m) ⟨updO f m (.barr b), m + 1, l, md⟩) : W ((nvN K p sel (n + 1)).call (.type "bytearray") [.bytes b] []) ⟨f, m, l, md⟩ Q E := by
  show W (if szOk b.length = true then Mine.alloc (.barr b) else Mine.stuck "long bytes") _ Q E
  exact W.pos (decide_eq_true hz) h
theorem W.aName {x : Str} {np : Pos} {v : V} {Q : Unit → St → Prop} (h : W (Mine.setLoc x v) st Q E) : W (assignTo K p (.Name x np) v) st Q E := h
theorem W.aTup {ts : List Expr} {k : Nat} {tp : Pos} {xs : List Str} {v : V} {Q : Unit → St → Prop} (hx : namesOf ts = some xs) (h : W (unpackV v xs.length) st (fun vs s => W (setLocs xs vs) s Q E) E) : W (assignTo K p (.Tuple ts k tp) v) st Q E := by
  show W (storeTup ts v) st Q E
  unfold storeTup
  rw [hx]
  exact W.bind h
def enumF : Expr → Bool
  | .Call (.Name x _) [_] [] _ => decide (x = ("enumerate" : Str))
  | _ => false
theorem W.forN {t it : Expr} {body orelse : List Stmt} {Q : Fl → St → Prop} (he : enumF it = false) (hn : notSet it = true) (h : W (p.expr it) st (fun v s => W (loopN K p q t body orelse v) s Q E) E) : W (Mine.forN K p q t it body orelse) st Q E := by
  unfold Mine.forN
  split
  · unfold enumF at he
    rw [if_neg (of_decide_eq_false he)]
    exact W.bind h
  · exact W.pos hn (W.bind h)
theorem W.forNe {t e : Expr} {x : Str} {xp cp : Pos} {body orelse : List Stmt} {Q : Fl → St → Prop} (he : x = ("enumerate" : Str)) (hc : (isTupT t && plainE e) = true) (h : W (p.expr (.Name x xp)) st (fun g s => g = .type "enumerate" ∧ W (p.expr e) s (fun v s => W (loopEnum K p q t body orelse v) s Q E) E) E) :
    W (Mine.forN K p q t (.Call (.Name x xp) [e] [] cp) body orelse) st Q E := by
  unfold Mine.forN
  dsimp only
  refine W.pos he (W.pos hc (W.bind (W.mono h (fun g s h => ?_) fun _ _ h => h)))
  obtain ⟨rfl, h⟩ := h
  exact W.pos (c := ("enumerate" : String) = "enumerate") rfl (W.bind h)
theorem W.nLoopR {r : Nat} {a b c : Int} {t : Expr} {body orelse : List Stmt} {Q : Fl → St → Prop} (hd : md.hd = false) (hr : r < m) (er : f r = .rng a b c) (hs : Builtin.Range.small a b c = true)
    (h : W (forLN K p q (fun _ => true) plainMk t body orelse 0 (rngL a b c)) ⟨f, m, l, md⟩ Q E) : W (loopN K p q t body orelse (.ref r)) ⟨f, m, l, md⟩ Q E := by
  unfold loopN
  exact W.calm hd (W.bind (W.getO hr er (W.pos hs h)))
theorem W.nLoopT {r : Nat} {vs : List V} {t : Expr} {body orelse : List Stmt} {Q : Fl → St → Prop} (hd : md.hd = false) (hr : r < m) (er : f r = .tup vs)
    (h : W (forLN K p q (still r (.tup vs)) plainMk t body orelse 0 vs) ⟨f, m, l, md⟩ Q E) : W (loopN K p q t body orelse (.ref r)) ⟨f, m, l, md⟩ Q E := by
  unfold loopN
  exact W.calm hd (W.bind (W.getO hr er h))
theorem W.nLoopE {r : Nat} {vs : List V} {t : Expr} {body orelse : List Stmt} {Q : Fl → St → Prop} (hd : md.hd = false) (hr : r < m) (er : f r = .list vs)
    (h : W (forLN K p q (still r (.list vs)) enumMk t body orelse 0 vs) ⟨f, m, l, md⟩ Q E) : W (loopEnum K p q t body orelse (.ref r)) ⟨f, m, l, md⟩ Q E := by
  unfold loopEnum
  exact W.calm hd (W.bind (W.getO hr er h))
theorem W.nlNil {gd : St → Bool} {mk : Nat → V → St → V × St} {t : Expr} {body orelse : List Stmt} {k : Nat} {Q : Fl → St → Prop} (h : W (execL p orelse) st Q E) : W (forLN K p q gd mk t body orelse k []) st Q E := h
theorem W.nlCons {gd : St → Bool} {mk : Nat → V → St → V × St} {t : Expr} {body orelse : List Stmt} {k : Nat} {v : V} {r : List V} {Q : Fl → St → Prop}
    (h : W (assignTo K p t (mk k v st).1) (mk k v st).2 (fun _ s => W (execN q body) s (fun fl s => match fl with | .brk => Q .next s | .ret w => Q (.ret w) s | _ => gd s = true ∧ W (forLN K p q gd mk t body orelse (k + 1) r) s Q E) E) E) :
    W (forLN K p q gd mk t body orelse k (v :: r)) st Q E := by
  have : W (Mine.bind (assignTo K p t (mk k v st).1) fun _ => Mine.bind (execN q body) fun fl => match fl with
    | .brk => Mine.ret .next
    | .ret w => Mine.ret (.ret w)
    | _ => fun s' => if gd s' = true then forLN K p q gd mk t body orelse (k + 1) r s' else .stuck "loop") (mk k v st).2 Q E := by
    refine W.bind (W.mono h (fun _ s h => W.bind (W.mono h (fun fl s h => ?_) fun _ _ h => h)) fun _ _ h => h)
    cases fl with
    | brk => exact h
    | ret w => exact h
    | next => unfold W at h ⊢; dsimp only at h ⊢; rw [if_pos h.1]; exact h.2
    | cont => unfold W at h ⊢; dsimp only at h ⊢; rw [if_pos h.1]; exact h.2
  exact this
theorem W.nlInv {gd : St → Bool} {mk : Nat → V → St → V × St} {t : Expr} {body orelse : List Stmt} {items : List V} {Q : Fl → St → Prop} (I : Nat → St → Prop) (h0 : I 0 st)
    (hs : ∀ k v, items[k]? = some v → ∀ s, I k s → W (assignTo K p t (mk k v s).1) (mk k v s).2 (fun _ s => W (execN q body) s (fun fl s => match fl with | .brk => Q .next s | .ret w => Q (.ret w) s | _ => gd s = true ∧ I (k + 1) s) E) E)
    (he : ∀ s, I items.length s → W (execL p orelse) s Q E) : W (forLN K p q gd mk t body orelse 0 items) st Q E := by
  have go : ∀ (r : List V) (k : Nat) (s : St), r = items.drop k → k ≤ items.length → I k s → W (forLN K p q gd mk t body orelse k r) s Q E := by
    intro r
    induction r with
    | nil =>
      intro k s e hk hI
      have : k = items.length := by have := congrArg List.length e; simp at this; omega
      subst this
      exact W.nlNil (he s hI)
    | cons v r ih =>
      intro k s e hk hI
      have hk' : k < items.length := by have := congrArg List.length e; simp at this; omega
      have e1 : items[k]? = some v := by
        have := congrArg (fun l => l[0]?) e
        simp at this
        exact this.symm
      have e2 : r = items.drop (k + 1) := by
        have := congrArg List.tail e
        simpa using this
      refine W.nlCons (W.mono (hs k v e1 s hI) (fun _ s h => W.mono h (fun fl s h => ?_) fun _ _ h => h) fun _ _ h => h)
      cases fl with
      | brk => exact h
      | ret w => exact h
      | next => exact ⟨h.1, ih (k + 1) s e2 hk' h.2⟩
      | cont => exact ⟨h.1, ih (k + 1) s e2 hk' h.2⟩
  exact go items 0 st rfl (Nat.zero_le _) h0
theorem W.boolE {op : BoolOp} {es : List Expr} {pos : Pos} {Q : V → St → Prop} (h : W (boolOpV (evX K n) op es) st Q E) : W ((evX K (n + 1)).expr (.BoolOp op es pos)) st Q E := h
theorem W.bv1 {op : BoolOp} {e : Expr} {Q : V → St → Prop} (h : W (p.expr e) st Q E) : W (boolOpV p op [e]) st Q E := h
theorem W.bvAnd {e e' : Expr} {r : List Expr} {Q : V → St → Prop} (h : W (p.expr e) st (fun v s => W (truthV v) s (fun t s => (t = true → W (boolOpV p .And (e' :: r)) s Q E) ∧ (t = false → Q v s)) E) E) : W (boolOpV p .And (e :: e' :: r)) st Q E := by
  have : W (Mine.bind (p.expr e) fun v => Mine.bind (truthV v) fun t => match BoolOp.And, t with | .And, false | .Or, true => Mine.ret v | _, _ => boolOpV p .And (e' :: r)) st Q E := by
    refine W.bind (W.mono h (fun v s h => W.bind (W.mono h (fun t s h => ?_) fun _ _ h => h)) fun _ _ h => h)
    cases t with
    | true => exact h.1 rfl
    | false => exact h.2 rfl
  exact this
end
end Mine
namespace Mine
open PySem PySem.W PySem.Calls PyProof.Rows
def itemOld (a0 : Addr) (xs : List V) (ov iv : V) : M V := match ov, iv with
  | .old a, .ref k => if a = a0 then bind (getO k) fun ob => (match ob with
    | .slice lo hi => (match sliceOf xs lo hi with
      | some y => if szOk xs.length then mkList y else stuck "long list"
      | Option.none => stuck "slice")
    | _ => stuck "list index") else stuck "item"
  | _, _ => stuck "item"
def subOld (a0 : Addr) (xs : List V) (p : Ev) (o i : Expr) : M V := bind (p.expr o) fun ov => bind (p.expr i) fun iv => itemOld a0 xs ov iv
def exprO (a0 : Addr) (xs : List V) (p : Ev) (e : Expr) : M V := match e with
  | .Subscript o i _ => subOld a0 xs p o i
  | e => p.expr e
def evO (a0 : Addr) (xs : List V) (p : Ev) : Ev := ⟨exprO a0 xs p, fun _ => stuck "x", fun _ => stuck "x", fun _ _ _ => stuck "x"⟩
structure OldL (c : Cx) (a0 : Addr) (xs : List V) : Prop where
  ex : ∃ o vs ep, c.B.get? a0 = some o ∧ o.cls = .type "list" ∧ o.data = .seq vs ep ∧ ∀ ρ m, VRs ρ m c.B xs vs.toList
section
variable {c : Cx} {p : Ev} {n : Nat} {f : Fm} {kp : List Addr} {A : Around} {z : Sit} {st : St} {s : Shared}
theorem itemOld_sound {a0 : Addr} {xs : List V} (hL : OldL c a0 xs) (h : Rel c f kp z st s) {o i : V} {x y : Value} (ho : VR z.ρ st.nxt c.B o x) (hi : VR z.ρ st.nxt c.B i y) : (∃ w, itemOld a0 xs o i st = .stuck w) ∨ ItemS c f kp A z st s x y (itemOld a0 xs o i st) := by
  unfold itemOld
  split
  · rename_i a k
    rw [ho.inj_old]
    obtain ⟨rfl, hk⟩ := hi.inj_ref
    by_cases q : a = a0
    · subst q
      rw [if_pos rfl]
      obtain ⟨ob, vs, ep, e1, c1, d1, r1⟩ := hL.ex
      have e1 := h.base _ _ e1
      have r1 := r1 z.ρ st.nxt
      refine .inr ⟨_, _, ⟨_, e1, c1⟩, F.slot_list_getitem.lookup, ?_⟩
      refine Snd.getO fun hk => ?_
      cases ek : st.obj k <;> try exact Snd.stuck
      rename_i lo hi'
      dsimp only
      cases e : sliceOf xs lo hi' with
      | none => exact Snd.stuck
      | some ys =>
        refine Snd.ite (fun hz => ?_) fun _ => Snd.stuck
        have := h.objs k hk
        rw [ek] at this
        obtain ⟨l, u, e2, r2, r3⟩ := this
        obtain ⟨a', b', p1, p2, ex⟩ := sliceOf_some r2 r3 e
        have hz := of_decide_eq_true hz
        unfold mkList szOk
        refine Snd.ite (fun q => ?_) fun _ => Snd.stuck
        refine Snd.of fun Q E k' => wpAny_getItem_list_slice ⟨_, e1, c1, ep, d1⟩ ⟨_, e2, rfl, rfl⟩ p1 p2 .none (by simp) ?_ (by rw [r1.size, sizeLine_eq]; exact hz)
        refine k' _ _ _ (Rel.push (o := .list ys) (ob := listO (slicePick vs a' b' none) 0) h rfl rfl fun e => ⟨_, _, e, ?_⟩) VR.new
        rw [kms_pick_eq]
        unfold kms_pick
        rw [lo_eq, hi_eq, ex, ← r1.length]
        exact (r1.slice _ _).up
    · rw [if_neg q]; exact .inl ⟨_, rfl⟩
  · exact .inl ⟨_, rfl⟩
theorem evO_sound {a0 : Addr} {xs : List V} (hL : OldL c a0 xs) (ok : EOk c p n) : EOk c (evO a0 xs p) n where
  expr := fun {f kp A z st s} h hA e => by
    show Snd c f kp A (eval e f.env) (exprO a0 xs p e st) (VP c.B) z st s
    unfold exprO
    split
    · rename_i o i pos
      show Snd c f kp A (eval o f.env >>= fun ov => PySem.holding [ov] (eval i f.env) >>= fun iv => PySem.standAt pos >>= fun _ => getitemInPython ov >>= fun b => subscripted i b ov iv >>= fun r => letTemporaryGo o ov r >>= fun _ => pure r) (subOld a0 xs p o i st) _ z st s
      unfold subOld
      refine Snd.bind (ok.expr h hA o) fun ov st1 va z1 s1 _ af1 pa => ?_
      refine Snd.bind (Snd.holding (ok.expr af1.rel (hA.after af1) i)) fun iv st2 vb z2 s2 _ af2 pb => ?_
      refine Snd.standAt af2.rel ?_
      exact Snd.item (itemOld_sound hL af2.rel (af2.vr pa) pb)
    · exact ok.expr h hA e
  test := fun _ _ _ => trivial
  stmt := fun _ _ _ => trivial
  call := fun _ _ => fun _ _ _ => trivial
def entryM (K : Frag) (p : Ev) (q : Nv) (a0 : Addr) (xs : List V) (t e : Expr) (bs : List Stmt) : M Fl := bind (assignS K (evO a0 xs p) t e) fun fl => match fl with
  | .next => execN q bs
  | fl => ret fl
theorem entry_sound {q : Nv} {a0 : Addr} {xs : List V} (hc : c.Ok) (hL : OldL c a0 xs) (ok : EOk c p n) (okq : NOk c q n) (h : Rel c f kp z st s) (hA : AOk A f n st.md) (t e : Expr) (pos : Pos) (bs : List Stmt) (hn : notComp e = true) (ht : plainE t = true) (hs : (isTup t && isTup e) = false) :
    SndN c f kp A (execs (.Assign [t] e pos :: bs) f.env) (entryM c.K p q a0 xs t e bs st) (FlR c.B) z st s := by
  show SndN c f kp A (exec (.Assign [t] e pos) f.env >>= fun fl => match fl with | .next => execs bs f.env | fl => pure fl) _ _ z st s
  unfold entryM
  refine SndN.bind (SndN.of (assignS_sound hc (evO_sound hL ok) h hA t e pos hn ht hs)) fun x st1 v z1 s1 _ af1 pa => ?_
  cases x <;> cases v <;> first | exact pa.elim | skip
  · exact execN_sound okq bs af1.rel (hA.after af1)
  · exact SndN.of (Snd.pure af1.rel trivial)
  · exact SndN.of (Snd.pure af1.rel trivial)
  · exact SndN.of (Snd.pure af1.rel pa)
end
theorem items_int {R : WRecords} {cl : Str → Option Addr} {h : Heap} : ∀ {vs : List Value} {xs : List WData} {as : List Addr}, ReadsAllW R cl h vs xs as → (∀ d ∈ xs, ∃ i, d = .int i) → ∃ ns : List Int, ns.length = xs.length ∧ ∀ B ρ m, VRs ρ m B (ns.map V.int) vs
  | _, _, _, .nil, _ => ⟨[], rfl, fun _ _ _ => .nil⟩
  | _, _, _, .cons hv hr, hx => by
    obtain ⟨i, rfl⟩ := hx _ (.head _)
    obtain ⟨ns, e, k⟩ := items_int hr fun d hd => hx d (.tail _ hd)
    cases hv
    exact ⟨i :: ns, by simp [e], fun B ρ m => .cons (.int _ _) (k B ρ m)⟩
theorem args_ints {cl : Str → Option Addr} {h : Heap} {vals : List Value} {args : List WData} {as : List Addr} (hr : ReadsAllW [] cl h vals args as) (hh : WShape.hasAll [] args [.list .int] = true) :
    ∃ a o vs n, vals = [.ref a] ∧ h.get? a = some o ∧ o.cls = .type "list" ∧ o.data = .seq vs n ∧ ∃ ns : List Int, (∃ xs, args = [.list xs] ∧ ns.length = xs.length) ∧ ∀ B ρ m, VRs ρ m B (ns.map V.int) vs.toList := by
  obtain ⟨d, r, rfl, h1, h2⟩ := hasAllW_cons hh
  obtain rfl := hasAllW_nil h2
  obtain ⟨xs, rfl, h3⟩ := hasW_list h1
  cases hr with
  | cons hv hn =>
    cases hn
    cases hv with
    | list e c d hi =>
      obtain ⟨ns, q1, q2⟩ := items_int hi fun d hd => hasW_int (hasItemsW_at h3 d hd)
      exact ⟨_, _, _, _, rfl, e, c, d, ns, ⟨xs, rfl, q1⟩, q2⟩
end Mine
namespace Mine
open PySem PySem.W PySem.Calls PyProof.Rows
theorem fun_rel {f : Fm} {fd : FuncData} {L a : Addr} {c : Cx} {z : Sit} {n : Nat} {K : Frag} (P : PlainFd K fd) {xs : List (Str × V)} {bs : List (Str × Value)} (hxs : KwR c.B z.ρ n xs bs) : LocR (calleeFm f fd L a) z n c.B (locOf xs fd.scope.names) (fun x => bs.reverse.lookup x) := fun x hx => by
  have := look_locOf (binds := xs) hx P.names
  have hr := lookup_rel (All2.reverse hxs) x
  cases q : look (nid x) (locOf xs fd.scope.names) with
  | none => trivial
  | some sl =>
    rw [q] at this
    cases sl with
    | glob => exact this
    | cell _ _ => exact this.elim
    | unset => rw [this.2] at hr; exact ⟨this.1, hr⟩
    | val v =>
      rw [this.2] at hr
      obtain ⟨u, e1, e2⟩ := hr
      exact ⟨this.1, u, e1, e2⟩
section
variable {c : Cx} {p : Ev} {q : Nv} {n : Nat} {s : Shared}
theorem enter_callN (hc : c.Ok) (hB : c.B = s.heap) (hos : c.os = s.os) (hg : s.gens = #[]) {a a0 : Addr} {fd : FuncData} {xs : List V} {t e : Expr} {pos : Pos} {bs : List Stmt} {x : Str} {stf : St} {w : V} {wv : Value} (hL : OldL c a0 xs) (ok : EOk c p n) (okq : NOk c q n) (hn : n ≤ 600)
    (hf : fnOf? c.K a = some fd) (hp : plainFn c.K fd = true) (hd : fd.defaults = .none) (hbg : ∀ v : Value, bindG (fd.params.args.map (·.arg)) [] [v] [] = some [(x, v)]) (hxl : fd.scope.names.lookup x = some .local) (hbody : fd.body = .stmts (.Assign [t] e pos :: bs)) (h1 : notComp e = true) (h2 : plainE t = true) (h3 : (isTup t && isTup e) = false)
    (hrun : entryM c.K p q a0 xs t e bs ⟨fun _ => .junk, 0, locOf [(x, .old a0)] fd.scope.names, {}⟩ = .ok (.ret w) stf) (hw : ∀ ρ m v, VR ρ m c.B w v → v = wv) :
    wpN (model c.prog c.w) callerA (PySem.call (.ref a) [.ref a0]) (fun v s' => v = wv ∧ (∀ b o, s.heap.get? b = some o → s'.heap.get? b = some o) ∧ s'.os = s.os ∧ s'.gens = #[]) s := by
  have P := plainFn_iff hp
  have hin : c.K.In s.heap := hB ▸ hc.inK
  have ho : ∃ o, s.heap.get? a = some o ∧ o.data = .func fd := by
    unfold fnOf? at hf
    split at hf
    · rename_i c1 d1 fd' sl e1
      cases hf
      exact ⟨_, hin _ _ e1, rfl⟩
    · cases hf
  obtain ⟨o, ho, hdata⟩ := ho
  have hlim : s.heap.NoLimit := by have := hc.top.nolimit; rw [hB] at this; exact this
  have hcell : ∀ x ∈ fd.scope.names, x.2 ≠ .cell := fun x hx e => by
    rcases (P.names x hx).1 with q | q <;> (rw [e] at q; cases q)
  have hbind : BindsTo s fd ⟨[.ref a0], []⟩ [(x, .ref a0)] := binds_plain hin P.po P.ko P.va P.kw (ds := []) (.inl ⟨hd, rfl⟩) (hbg _)
  have hloc : ∀ y ∈ [(x, Value.ref a0)], fd.scope.names.lookup y.1 = some .local := fun y hy => by
    rw [List.mem_singleton] at hy
    subst hy
    exact hxl
  refine wpN_call (codeN_call_def (by decide +kernel) ho hdata hlim (codeRec_of hin P.code) hbody hbind hcell hloc (fun h₀ hn' hkeep => ?_) P.co P.gen P.kind)
  let z : Sit := ⟨fun _ => 0, fun _ => 0⟩
  have hxs : KwR c.B z.ρ 0 [(x, V.old a0)] [(x, Value.ref a0)] := by
    refine .cons ⟨rfl, .old a0 ?_⟩ .nil
    obtain ⟨o, _, _, e, _⟩ := hL.ex
    rw [e]; rfl
  let g : Fm := calleeFm ⟨callEnv fd s.heap.objs.size a, []⟩ fd s.heap.objs.size a
  have hfrs : ∀ b, b ∉ g.frs := fun b hb => by
    obtain ⟨h1, h2⟩ := List.mem_filter.mp hb
    obtain ⟨env, h3, h4⟩ := List.mem_filterMap.mp h1
    have : env = callEnv fd s.heap.objs.size a := by simpa [g, calleeFm] using h3
    subst this
    have h4 : some s.heap.objs.size = some b := h4
    cases h4
    exact absurd rfl (of_decide_eq_true h2)
  have hbL : c.B.get? s.heap.objs.size = none := by rw [hB]; exact get?_size _
  have hr : Rel c g [] z ⟨fun _ => .junk, 0, locOf [(x, .old a0)] fd.scope.names, {}⟩ { s with heap := h₀, toks := s.toks + 1 } := by
    refine ⟨fun b o e => hkeep b o (hB ▸ e), ⟨_, hn', fun_rel P hxs⟩, fun i hi => absurd hi (Nat.not_lt_zero _), fun i hi => absurd hi (Nat.not_lt_zero _), fun i hi => absurd hi (Nat.not_lt_zero _), fun b hb => absurd hb (by simp), ?_, hbL, hg, hos.symm⟩
    obtain ⟨o, es, ep, e1, e2, e3, e4⟩ := hn'
    refine ⟨?_, ⟨s.heap.objs.size, o, rfl, hbL, e1, fun vs q => by rw [e2] at q; cases q⟩, trivial⟩
    show fd.scope.kind ≠ .module
    rw [P.kind]
    exact fun e => by cases e
  have hA : AOk (callerA.deeper (callEnv fd s.heap.objs.size a)) g n {} := by
    refine ⟨rfl, ?_, ?_, fun _ => rfl, fun _ => ⟨[], rfl, rfl⟩, ⟨P.kind, P.gl, P.bi⟩⟩
    · show callerA.depth + 1 + n ≤ 950
      have : callerA.depth = 301 := by decide +kernel
      omega
    · show callerA.units + 3 + 10 * n ≤ 9000
      have : callerA.units = 4 := by decide +kernel
      omega
  have := entry_sound hc hL ok okq hr hA t e pos bs h1 h2 h3
  rw [hrun] at this
  refine wpN_mono this fun fl s' ⟨z', af, hfl⟩ => ?_
  cases fl <;> try exact hfl.elim
  rename_i v
  refine ⟨hw _ _ _ hfl, fun b o e => af.rel.base b o (hB ▸ e), af.rel.os.trans hos, af.rel.gens⟩
end
end Mine
open PySem PySem.W PySem.Calls PyProof.Rows
namespace Mine
theorem nb_int {i : Int} : notBi (.int i) = true := rfl
theorem nb_ref {i : Nat} : notBi (.ref i) = true := rfl
theorem nb_str {s : Str} : notBi (.str s) = true := rfl
theorem nb_bytes {b : List UInt8} : notBi (.bytes b) = true := rfl
theorem nb_bool {b : Bool} : notBi (.bool b) = true := rfl
theorem nb_none : notBi .none = true := rfl
theorem nb_old {a : Addr} : notBi (.old a) = true := rfl
local macro_rules | `(tactic| k_extra "nb") => `(tactic| first | (first | exact nb_int | exact nb_ref | exact nb_str | exact nb_bytes | exact nb_bool | exact nb_none | exact nb_old) | fail)
local macro_rules | `(tactic| k_extra "lk") => `(tactic| first | (((repeat (first | with_reducible exact look_hd | with_reducible exact look_nil | with_reducible refine look_tl (by decide +kernel) ?_)); first | done | fail "x")) | fail)
local macro_rules | `(tactic| k_extra "pt") => `(tactic| first | (((repeat (first | with_reducible exact put_hd | with_reducible exact put_nil | with_reducible apply put_tl (by decide +kernel))); first | done | fail "x")) | fail)
local macro_rules | `(tactic| o_head $_t) => `(tactic| assumption)
theorem heapMaker (h : (OpenLaw.row PySem.Challenge.rw_jr0030_02).Holds) : True := by
  have _h2 : (OpenLaw.row PySem.Challenge.rw_jr0030_02).Holds := by k_head
  trivial
def need2 : List Addr := [2, 3, 34, 35, 37, 38, 50, 56, 57, 63, 64, 66, 73, 74, 80, 81, 87, 88, 90, 97, 98, 100, 103, 104, 128, 186, 187, 216, 222, 223, 250, 251, 257, 258, 267, 268, 280, 281, 287, 288, 294, 295, 296, 302, 303, 305, 312, 313, 319, 320, 326, 327, 333, 334, 336, 350, 351, 364, 365, 371, 372, 378, 379, 557, 558, 576, 577, 612, 613, 615, 629, 630, 632, 633, 646, 652, 653, 690, 691, 697, 698, 755, 756, 772, 778, 779, 785, 786, 792, 793, 950, 951, 952, 958, 959, 1003, 1004, 1014, 1015, 1021, 1022, 1028, 1029, 1035, 1036, 1042, 1043, 1049, 1050, 1056, 1057, 1061, 1062]
def pick : List Addr → Frag → Frag
  | [], _ => []
  | _ :: _, [] => []
  | a :: as, p :: r => if Nat.beq p.1 a = true then p :: pick as r else pick (a :: as) r
noncomputable def K2 (P : Params) : Frag := pick need2 (heapMaker.heap_1 P)
def fd35 : { fd : FuncData // ∀ P, fnOf? (K2 P) 35 = some fd } := ⟨_, fun _ => rfl⟩
theorem pf35 (P : Params) : plainFn (K2 P) fd35.1 = true := by kernel_rfl
theorem df35 (P : Params) : defaultsV (K2 P) fd35.1 = some [] := by kernel_rfl
theorem is35 : isStmts fd35.1 = true := by kernel_rfl
def bd35 : { b : List Stmt // bodyOf fd35.1 = b } := by
  refine ⟨?b, ?h⟩
  case h => conv => lhs; whnf
theorem en35 (P : Params) (v0 v1 v2 v3 : V) : enterFn (K2 P) fd35.1 [v0, v1, v2, v3] [] = some [(nid "self", .val v0), (nid "hour", .val v1), (nid "minute", .val v2), (nid "second", .val v3), (nid "ValueError", .glob)] := by
  unfold enterFn
  rw [pf35, is35, df35]
  kernel_rfl
def fd57 : { fd : FuncData // ∀ P, fnOf? (K2 P) 57 = some fd } := ⟨_, fun _ => rfl⟩
theorem pf57 (P : Params) : plainFn (K2 P) fd57.1 = true := by kernel_rfl
theorem df57 (P : Params) : defaultsV (K2 P) fd57.1 = some [.int 0, .int 0, .int 0] := by kernel_rfl
theorem is57 : isStmts fd57.1 = true := by kernel_rfl
def bd57 : { b : List Stmt // bodyOf fd57.1 = b } := by
  refine ⟨?b, ?h⟩
  case h => conv => lhs; whnf
theorem en57 (P : Params) (v0 v1 v2 v3 : V) : enterFn (K2 P) fd57.1 [v0, v1, v2, v3] [] = some [(nid "self", .val v0), (nid "year", .val v1), (nid "month", .val v2), (nid "day", .val v3), (nid "hour", .val (.int 0)), (nid "minute", .val (.int 0)), (nid "second", .val (.int 0)), (nid "days", .unset), (nid "time", .unset), (nid "ValueError", .glob), (nid "DosTime", .glob)] := by
  unfold enterFn
  rw [pf57, is57, df57]
  kernel_rfl
theorem en57' (P : Params) (v0 v1 v2 v3 v4 v5 v6 : V) : enterFn (K2 P) fd57.1 [v0, v1, v2, v3, v4, v5, v6] [] = some [(nid "self", .val v0), (nid "year", .val v1), (nid "month", .val v2), (nid "day", .val v3), (nid "hour", .val v4), (nid "minute", .val v5), (nid "second", .val v6), (nid "days", .unset), (nid "time", .unset), (nid "ValueError", .glob), (nid "DosTime", .glob)] := by
  unfold enterFn
  rw [pf57, is57, df57]
  kernel_rfl
def fd64 : { fd : FuncData // ∀ P, fnOf? (K2 P) 64 = some fd } := ⟨_, fun _ => rfl⟩
theorem pf64 (P : Params) : plainFn (K2 P) fd64.1 = true := by kernel_rfl
theorem df64 (P : Params) : defaultsV (K2 P) fd64.1 = some [] := by kernel_rfl
theorem is64 : isStmts fd64.1 = true := by kernel_rfl
def bd64 : { b : List Stmt // bodyOf fd64.1 = b } := by
  refine ⟨?b, ?h⟩
  case h => conv => lhs; whnf
theorem en64 (P : Params) (v0 v1 : V) : enterFn (K2 P) fd64.1 [v0, v1] [] = some [(nid "date", .val v0), (nid "time", .val v1), (nid "DosDateTime", .glob)] := by
  unfold enterFn
  rw [pf64, is64, df64]
  kernel_rfl
def fd74 : { fd : FuncData // ∀ P, fnOf? (K2 P) 74 = some fd } := ⟨_, fun _ => rfl⟩
theorem pf74 (P : Params) : plainFn (K2 P) fd74.1 = true := by kernel_rfl
theorem df74 (P : Params) : defaultsV (K2 P) fd74.1 = some [] := by kernel_rfl
theorem is74 : isStmts fd74.1 = true := by kernel_rfl
def bd74 : { b : List Stmt // bodyOf fd74.1 = b } := by
  refine ⟨?b, ?h⟩
  case h => conv => lhs; whnf
theorem en74 (P : Params) (v0 : V) : enterFn (K2 P) fd74.1 [v0] [] = some [(nid "self", .val v0), (nid "date", .unset)] := by
  unfold enterFn
  rw [pf74, is74, df74]
  kernel_rfl
def fd81 : { fd : FuncData // ∀ P, fnOf? (K2 P) 81 = some fd } := ⟨_, fun _ => rfl⟩
theorem pf81 (P : Params) : plainFn (K2 P) fd81.1 = true := by kernel_rfl
theorem df81 (P : Params) : defaultsV (K2 P) fd81.1 = some [] := by kernel_rfl
theorem is81 : isStmts fd81.1 = true := by kernel_rfl
def bd81 : { b : List Stmt // bodyOf fd81.1 = b } := by
  refine ⟨?b, ?h⟩
  case h => conv => lhs; whnf
theorem en81 (P : Params) (v0 : V) : enterFn (K2 P) fd81.1 [v0] [] = some [(nid "self", .val v0), (nid "time", .unset)] := by
  unfold enterFn
  rw [pf81, is81, df81]
  kernel_rfl
def fd88 : { fd : FuncData // ∀ P, fnOf? (K2 P) 88 = some fd } := ⟨_, fun _ => rfl⟩
theorem pf88 (P : Params) : plainFn (K2 P) fd88.1 = true := by kernel_rfl
theorem df88 (P : Params) : defaultsV (K2 P) fd88.1 = some [] := by kernel_rfl
theorem is88 : isStmts fd88.1 = true := by kernel_rfl
def bd88 : { b : List Stmt // bodyOf fd88.1 = b } := by
  refine ⟨?b, ?h⟩
  case h => conv => lhs; whnf
theorem en88 (P : Params) (v0 : V) : enterFn (K2 P) fd88.1 [v0] [] = some [(nid "dt", .val v0), (nid "day", .unset), (nid "month", .unset), (nid "year", .unset), (nid "DosDateTime", .glob), (nid "ValueError", .glob)] := by
  unfold enterFn
  rw [pf88, is88, df88]
  kernel_rfl
def fd98 : { fd : FuncData // ∀ P, fnOf? (K2 P) 98 = some fd } := ⟨_, fun _ => rfl⟩
theorem pf98 (P : Params) : plainFn (K2 P) fd98.1 = true := by kernel_rfl
theorem df98 (P : Params) : defaultsV (K2 P) fd98.1 = some [] := by kernel_rfl
theorem is98 : isStmts fd98.1 = true := by kernel_rfl
def bd98 : { b : List Stmt // bodyOf fd98.1 = b } := by
  refine ⟨?b, ?h⟩
  case h => conv => lhs; whnf
theorem en98 (P : Params) (v0 : V) : enterFn (K2 P) fd98.1 [v0] [] = some [(nid "tm", .val v0), (nid "second", .unset), (nid "minute", .unset), (nid "hour", .unset), (nid "DosTime", .glob), (nid "ValueError", .glob)] := by
  unfold enterFn
  rw [pf98, is98, df98]
  kernel_rfl
def fd223 : { fd : FuncData // ∀ P, fnOf? (K2 P) 223 = some fd } := ⟨_, fun _ => rfl⟩
theorem pf223 (P : Params) : plainFn (K2 P) fd223.1 = true := by kernel_rfl
theorem df223 (P : Params) : defaultsV (K2 P) fd223.1 = some [.bool true] := by kernel_rfl
theorem is223 : isStmts fd223.1 = true := by kernel_rfl
def bd223 : { b : List Stmt // bodyOf fd223.1 = b } := by
  refine ⟨?b, ?h⟩
  case h => conv => lhs; whnf
theorem en223 (P : Params) (v0 v1 v2 : V) : enterFn (K2 P) fd223.1 [v0, v1, v2] [] = some [(nid "self", .val v0), (nid "data", .val v1), (nid "write", .val v2)] := by
  unfold enterFn
  rw [pf223, is223, df223]
  kernel_rfl
def fd251 : { fd : FuncData // ∀ P, fnOf? (K2 P) 251 = some fd } := ⟨_, fun _ => rfl⟩
theorem pf251 (P : Params) : plainFn (K2 P) fd251.1 = true := by kernel_rfl
theorem df251 (P : Params) : defaultsV (K2 P) fd251.1 = some [] := by kernel_rfl
theorem is251 : isStmts fd251.1 = true := by kernel_rfl
def bd251 : { b : List Stmt // bodyOf fd251.1 = b } := by
  refine ⟨?b, ?h⟩
  case h => conv => lhs; whnf
theorem en251 (P : Params) (v0 v1 : V) : enterFn (K2 P) fd251.1 [v0, v1] [] = some [(nid "self", .val v0), (nid "at", .val v1)] := by
  unfold enterFn
  rw [pf251, is251, df251]
  kernel_rfl
def fd258 : { fd : FuncData // ∀ P, fnOf? (K2 P) 258 = some fd } := ⟨_, fun _ => rfl⟩
theorem pf258 (P : Params) : plainFn (K2 P) fd258.1 = true := by kernel_rfl
theorem df258 (P : Params) : defaultsV (K2 P) fd258.1 = some [] := by kernel_rfl
theorem is258 : isStmts fd258.1 = true := by kernel_rfl
def bd258 : { b : List Stmt // bodyOf fd258.1 = b } := by
  refine ⟨?b, ?h⟩
  case h => conv => lhs; whnf
theorem en258 (P : Params) (v0 v1 : V) : enterFn (K2 P) fd258.1 [v0, v1] [] = some [(nid "self", .val v0), (nid "size", .val v1), (nid "found", .unset), (nid "len", .glob)] := by
  unfold enterFn
  rw [pf258, is258, df258]
  kernel_rfl
def fd288 : { fd : FuncData // ∀ P, fnOf? (K2 P) 288 = some fd } := ⟨_, fun _ => rfl⟩
theorem pf288 (P : Params) : plainFn (K2 P) fd288.1 = true := by kernel_rfl
theorem df288 (P : Params) : defaultsV (K2 P) fd288.1 = some [.str "latin-1", .none, .bool false, .none] := by kernel_rfl
theorem is288 : isStmts fd288.1 = true := by kernel_rfl
def bd288 : { b : List Stmt // bodyOf fd288.1 = b } := by
  refine ⟨?b, ?h⟩
  case h => conv => lhs; whnf
theorem en288 (P : Params) (v0 w0 w1 w2 w3 w4 w5 w6 w7 w8 w9 w10 w11 w12 w13 w14 w15 : V) : enterFn (K2 P) fd288.1 [v0] [("fs", w0), ("encoding", w1), ("lfn_entry", w2), ("lazy_load", w3), ("DIR_Name", w4), ("DIR_Attr", w5), ("DIR_NTRes", w6), ("DIR_CrtTimeTenth", w7), ("DIR_CrtTime", w8), ("DIR_CrtDate", w9), ("DIR_LstAccessDate", w10), ("DIR_FstClusHI", w11), ("DIR_WrtTime", w12), ("DIR_WrtDate", w13), ("DIR_FstClusLO", w14), ("DIR_FileSize", w15)] = some [(nid "self", .val v0), (nid "DIR_Name", .val w4), (nid "DIR_Attr", .val w5), (nid "DIR_NTRes", .val w6), (nid "DIR_CrtTimeTenth", .val w7), (nid "DIR_CrtTime", .val w8), (nid "DIR_CrtDate", .val w9), (nid "DIR_LstAccessDate", .val w10), (nid "DIR_FstClusHI", .val w11), (nid "DIR_WrtTime", .val w12), (nid "DIR_WrtDate", .val w13), (nid "DIR_FstClusLO", .val w14), (nid "DIR_FileSize", .val w15), (nid "encoding", .val w1), (nid "fs", .val w0), (nid "lazy_load", .val w3), (nid "lfn_entry", .val w2), (nid "int", .glob), (nid "BrokenLFNEntryException", .glob)] := by
  unfold enterFn
  rw [pf288, is288, df288]
  kernel_rfl
theorem en288' (P : Params) (v0 w0 w1 w2 w3 w4 w5 w6 w7 w8 w9 w10 w11 w12 : V) : enterFn (K2 P) fd288.1 [v0] [("DIR_Name", w0), ("DIR_Attr", w1), ("DIR_NTRes", w2), ("DIR_CrtTimeTenth", w3), ("DIR_CrtTime", w4), ("DIR_CrtDate", w5), ("DIR_LstAccessDate", w6), ("DIR_FstClusHI", w7), ("DIR_WrtTime", w8), ("DIR_WrtDate", w9), ("DIR_FstClusLO", w10), ("DIR_FileSize", w11), ("encoding", w12)] = some [(nid "self", .val v0), (nid "DIR_Name", .val w0), (nid "DIR_Attr", .val w1), (nid "DIR_NTRes", .val w2), (nid "DIR_CrtTimeTenth", .val w3), (nid "DIR_CrtTime", .val w4), (nid "DIR_CrtDate", .val w5), (nid "DIR_LstAccessDate", .val w6), (nid "DIR_FstClusHI", .val w7), (nid "DIR_WrtTime", .val w8), (nid "DIR_WrtDate", .val w9), (nid "DIR_FstClusLO", .val w10), (nid "DIR_FileSize", .val w11), (nid "encoding", .val w12), (nid "fs", .val (.none)), (nid "lazy_load", .val (.bool false)), (nid "lfn_entry", .val (.none)), (nid "int", .glob), (nid "BrokenLFNEntryException", .glob)] := by
  unfold enterFn
  rw [pf288, is288, df288]
  kernel_rfl
def fd295 : { fd : FuncData // ∀ P, fnOf? (K2 P) 295 = some fd } := ⟨_, fun _ => rfl⟩
theorem pf295 (P : Params) : plainFn (K2 P) fd295.1 = true := by kernel_rfl
theorem df295 (P : Params) : defaultsV (K2 P) fd295.1 = some [] := by kernel_rfl
theorem is295 : isStmts fd295.1 = true := by kernel_rfl
def bd295 : { b : List Stmt // bodyOf fd295.1 = b } := by
  refine ⟨?b, ?h⟩
  case h => conv => lhs; whnf
theorem en295 (P : Params) (v0 v1 : V) : enterFn (K2 P) fd295.1 [v0, v1] [] = some [(nid "self", .val v0), (nid "size", .val v1), (nid "PyFATException", .glob), (nid "errno", .glob)] := by
  unfold enterFn
  rw [pf295, is295, df295]
  kernel_rfl
def fd303 : { fd : FuncData // ∀ P, fnOf? (K2 P) 303 = some fd } := ⟨_, fun _ => rfl⟩
theorem pf303 (P : Params) : plainFn (K2 P) fd303.1 = true := by kernel_rfl
theorem df303 (P : Params) : defaultsV (K2 P) fd303.1 = some [.int 0, .int 0, .int 0, .int 0] := by kernel_rfl
theorem is303 : isStmts fd303.1 = true := by kernel_rfl
def bd303 : { b : List Stmt // bodyOf fd303.1 = b } := by
  refine ⟨?b, ?h⟩
  case h => conv => lhs; whnf
theorem en303 (P : Params) (v0 v1 v2 v3 v4 v5 v6 : V) : enterFn (K2 P) fd303.1 [v0, v1, v2, v3, v4, v5, v6] [] = some [(nid "name", .val v0), (nid "tz", .val v1), (nid "encoding", .val v2), (nid "attr", .val v3), (nid "ntres", .val v4), (nid "cluster", .val v5), (nid "filesize", .val v6), (nid "dt", .unset), (nid "dentry", .unset), (nid "FATDirectoryEntry", .glob)] := by
  unfold enterFn
  rw [pf303, is303, df303]
  kernel_rfl
def fd313 : { fd : FuncData // ∀ P, fnOf? (K2 P) 313 = some fd } := ⟨_, fun _ => rfl⟩
theorem pf313 (P : Params) : plainFn (K2 P) fd313.1 = true := by kernel_rfl
theorem df313 (P : Params) : defaultsV (K2 P) fd313.1 = some [] := by kernel_rfl
theorem is313 : isStmts fd313.1 = true := by kernel_rfl
def bd313 : { b : List Stmt // bodyOf fd313.1 = b } := by
  refine ⟨?b, ?h⟩
  case h => conv => lhs; whnf
theorem en313 (P : Params) (v0 : V) : enterFn (K2 P) fd313.1 [v0] [] = some [(nid "self", .val v0)] := by
  unfold enterFn
  rw [pf313, is313, df313]
  kernel_rfl
def fd320 : { fd : FuncData // ∀ P, fnOf? (K2 P) 320 = some fd } := ⟨_, fun _ => rfl⟩
theorem pf320 (P : Params) : plainFn (K2 P) fd320.1 = true := by kernel_rfl
theorem df320 (P : Params) : defaultsV (K2 P) fd320.1 = some [] := by kernel_rfl
theorem is320 : isStmts fd320.1 = true := by kernel_rfl
def bd320 : { b : List Stmt // bodyOf fd320.1 = b } := by
  refine ⟨?b, ?h⟩
  case h => conv => lhs; whnf
theorem en320 (P : Params) (v0 : V) : enterFn (K2 P) fd320.1 [v0] [] = some [(nid "self", .val v0)] := by
  unfold enterFn
  rw [pf320, is320, df320]
  kernel_rfl
def fd327 : { fd : FuncData // ∀ P, fnOf? (K2 P) 327 = some fd } := ⟨_, fun _ => rfl⟩
theorem pf327 (P : Params) : plainFn (K2 P) fd327.1 = true := by kernel_rfl
theorem df327 (P : Params) : defaultsV (K2 P) fd327.1 = some [] := by kernel_rfl
theorem is327 : isStmts fd327.1 = true := by kernel_rfl
def bd327 : { b : List Stmt // bodyOf fd327.1 = b } := by
  refine ⟨?b, ?h⟩
  case h => conv => lhs; whnf
theorem en327 (P : Params) (v0 : V) : enterFn (K2 P) fd327.1 [v0] [] = some [(nid "self", .val v0), (nid "DosDateTime", .glob)] := by
  unfold enterFn
  rw [pf327, is327, df327]
  kernel_rfl
def fd334 : { fd : FuncData // ∀ P, fnOf? (K2 P) 334 = some fd } := ⟨_, fun _ => rfl⟩
theorem pf334 (P : Params) : plainFn (K2 P) fd334.1 = true := by kernel_rfl
theorem df334 (P : Params) : defaultsV (K2 P) fd334.1 = some [] := by kernel_rfl
theorem is334 : isStmts fd334.1 = true := by kernel_rfl
def bd334 : { b : List Stmt // bodyOf fd334.1 = b } := by
  refine ⟨?b, ?h⟩
  case h => conv => lhs; whnf
theorem en334 (P : Params) (v0 v1 : V) : enterFn (K2 P) fd334.1 [v0, v1] [] = some [(nid "dt", .val v0), (nid "tm", .val v1), (nid "DosDateTime", .glob)] := by
  unfold enterFn
  rw [pf334, is334, df334]
  kernel_rfl
def fd351 : { fd : FuncData // ∀ P, fnOf? (K2 P) 351 = some fd } := ⟨_, fun _ => rfl⟩
theorem pf351 (P : Params) : plainFn (K2 P) fd351.1 = true := by kernel_rfl
theorem df351 (P : Params) : defaultsV (K2 P) fd351.1 = some [] := by kernel_rfl
theorem is351 : isStmts fd351.1 = true := by kernel_rfl
def bd351 : { b : List Stmt // bodyOf fd351.1 = b } := by
  refine ⟨?b, ?h⟩
  case h => conv => lhs; whnf
theorem en351 (P : Params) (v0 v1 : V) : enterFn (K2 P) fd351.1 [v0, v1] [] = some [(nid "self", .val v0), (nid "lfn_entry", .val v1), (nid "chksum", .unset), (nid "entry", .unset), (nid "entry_chksum", .unset), (nid "isinstance", .glob), (nid "FATLongDirectoryEntry", .glob), (nid "BrokenLFNEntryException", .glob)] := by
  unfold enterFn
  rw [pf351, is351, df351]
  kernel_rfl
def fd365 : { fd : FuncData // ∀ P, fnOf? (K2 P) 365 = some fd } := ⟨_, fun _ => rfl⟩
theorem pf365 (P : Params) : plainFn (K2 P) fd365.1 = true := by kernel_rfl
theorem df365 (P : Params) : defaultsV (K2 P) fd365.1 = some [] := by kernel_rfl
theorem is365 : isStmts fd365.1 = true := by kernel_rfl
def bd365 : { b : List Stmt // bodyOf fd365.1 = b } := by
  refine ⟨?b, ?h⟩
  case h => conv => lhs; whnf
theorem en365 (P : Params) (v0 : V) : enterFn (K2 P) fd365.1 [v0] [] = some [(nid "self", .val v0)] := by
  unfold enterFn
  rw [pf365, is365, df365]
  kernel_rfl
def fd372 : { fd : FuncData // ∀ P, fnOf? (K2 P) 372 = some fd } := ⟨_, fun _ => rfl⟩
theorem pf372 (P : Params) : plainFn (K2 P) fd372.1 = true := by kernel_rfl
theorem df372 (P : Params) : defaultsV (K2 P) fd372.1 = some [] := by kernel_rfl
theorem is372 : isStmts fd372.1 = true := by kernel_rfl
def bd372 : { b : List Stmt // bodyOf fd372.1 = b } := by
  refine ⟨?b, ?h⟩
  case h => conv => lhs; whnf
theorem en372 (P : Params) (v0 v1 : V) : enterFn (K2 P) fd372.1 [v0, v1] [] = some [(nid "self", .val v0), (nid "first_cluster", .val v1)] := by
  unfold enterFn
  rw [pf372, is372, df372]
  kernel_rfl
def fd379 : { fd : FuncData // ∀ P, fnOf? (K2 P) 379 = some fd } := ⟨_, fun _ => rfl⟩
theorem pf379 (P : Params) : plainFn (K2 P) fd379.1 = true := by kernel_rfl
theorem df379 (P : Params) : defaultsV (K2 P) fd379.1 = some [] := by kernel_rfl
theorem is379 : isStmts fd379.1 = true := by kernel_rfl
def bd379 : { b : List Stmt // bodyOf fd379.1 = b } := by
  refine ⟨?b, ?h⟩
  case h => conv => lhs; whnf
theorem en379 (P : Params) (v0 : V) : enterFn (K2 P) fd379.1 [v0] [] = some [(nid "self", .val v0), (nid "entry", .unset), (nid "word", .unset), (nid "isinstance", .glob), (nid "FATLongDirectoryEntry", .glob), (nid "bytes", .glob)] := by
  unfold enterFn
  rw [pf379, is379, df379]
  kernel_rfl
def fd577 : { fd : FuncData // ∀ P, fnOf? (K2 P) 577 = some fd } := ⟨_, fun _ => rfl⟩
theorem pf577 (P : Params) : plainFn (K2 P) fd577.1 = true := by kernel_rfl
theorem df577 (P : Params) : defaultsV (K2 P) fd577.1 = some [] := by kernel_rfl
theorem is577 : isStmts fd577.1 = true := by kernel_rfl
def bd577 : { b : List Stmt // bodyOf fd577.1 = b } := by
  refine ⟨?b, ?h⟩
  case h => conv => lhs; whnf
theorem en577 (P : Params) (v0 : V) : enterFn (K2 P) fd577.1 [v0] [] = some [(nid "self", .val v0)] := by
  unfold enterFn
  rw [pf577, is577, df577]
  kernel_rfl
def fd613 : { fd : FuncData // ∀ P, fnOf? (K2 P) 613 = some fd } := ⟨_, fun _ => rfl⟩
theorem pf613 (P : Params) : plainFn (K2 P) fd613.1 = true := by kernel_rfl
theorem df613 (P : Params) : defaultsV (K2 P) fd613.1 = some [] := by kernel_rfl
theorem is613 : isStmts fd613.1 = true := by kernel_rfl
def bd613 : { b : List Stmt // bodyOf fd613.1 = b } := by
  refine ⟨?b, ?h⟩
  case h => conv => lhs; whnf
theorem en613 (P : Params) (v0 v1 : V) : enterFn (K2 P) fd613.1 [v0, v1] [] = some [(nid "LDIR_Ord", .val v0), (nid "LDIR_Attr", .val v1), (nid "lfn_attr", .unset), (nid "lfn_attr_mask", .unset), (nid "is_attr_set", .unset), (nid "FATDirectoryEntry", .glob)] := by
  unfold enterFn
  rw [pf613, is613, df613]
  kernel_rfl
def fd630 : { fd : FuncData // ∀ P, fnOf? (K2 P) 630 = some fd } := ⟨_, fun _ => rfl⟩
theorem pf630 (P : Params) : plainFn (K2 P) fd630.1 = true := by kernel_rfl
theorem df630 (P : Params) : defaultsV (K2 P) fd630.1 = some [] := by kernel_rfl
theorem is630 : isStmts fd630.1 = true := by kernel_rfl
def bd630 : { b : List Stmt // bodyOf fd630.1 = b } := by
  refine ⟨?b, ?h⟩
  case h => conv => lhs; whnf
theorem en630 (P : Params) (v0 : V) : enterFn (K2 P) fd630.1 [v0] [] = some [(nid "self", .val v0), (nid "k", .unset), (nid "int", .glob)] := by
  unfold enterFn
  rw [pf630, is630, df630]
  kernel_rfl
def fd653 : { fd : FuncData // ∀ P, fnOf? (K2 P) 653 = some fd } := ⟨_, fun _ => rfl⟩
theorem pf653 (P : Params) : plainFn (K2 P) fd653.1 = true := by kernel_rfl
theorem df653 (P : Params) : defaultsV (K2 P) fd653.1 = some [.str "latin-1"] := by kernel_rfl
theorem is653 : isStmts fd653.1 = true := by kernel_rfl
def bd653 : { b : List Stmt // bodyOf fd653.1 = b } := by
  refine ⟨?b, ?h⟩
  case h => conv => lhs; whnf
theorem en653 (P : Params) (v0 w0 : V) : enterFn (K2 P) fd653.1 [v0] [("encoding", w0)] = some [(nid "self", .val v0), (nid "encoding", .val w0)] := by
  unfold enterFn
  rw [pf653, is653, df653]
  kernel_rfl
def fd691 : { fd : FuncData // ∀ P, fnOf? (K2 P) 691 = some fd } := ⟨_, fun _ => rfl⟩
theorem pf691 (P : Params) : plainFn (K2 P) fd691.1 = true := by kernel_rfl
theorem df691 (P : Params) : defaultsV (K2 P) fd691.1 = some [] := by kernel_rfl
theorem is691 : isStmts fd691.1 = true := by kernel_rfl
def bd691 : { b : List Stmt // bodyOf fd691.1 = b } := by
  refine ⟨?b, ?h⟩
  case h => conv => lhs; whnf
theorem en691 (P : Params) (v0 v1 : V) : enterFn (K2 P) fd691.1 [v0, v1] [] = some [(nid "self", .val v0), (nid "name", .val v1), (nid "len", .glob), (nid "decoded", .glob)] := by
  unfold enterFn
  rw [pf691, is691, df691]
  kernel_rfl
def fd698 : { fd : FuncData // ∀ P, fnOf? (K2 P) 698 = some fd } := ⟨_, fun _ => rfl⟩
theorem pf698 (P : Params) : plainFn (K2 P) fd698.1 = true := by kernel_rfl
theorem df698 (P : Params) : defaultsV (K2 P) fd698.1 = some [] := by kernel_rfl
theorem is698 : isStmts fd698.1 = true := by kernel_rfl
def bd698 : { b : List Stmt // bodyOf fd698.1 = b } := by
  refine ⟨?b, ?h⟩
  case h => conv => lhs; whnf
theorem en698 (P : Params) (v0 v1 : V) : enterFn (K2 P) fd698.1 [v0, v1] [] = some [(nid "self", .val v0), (nid "name", .val v1), (nid "isinstance", .glob), (nid "bytes", .glob), (nid "TypeError", .glob), (nid "bytearray", .glob), (nid "len", .glob), (nid "ValueError", .glob), (nid "NotAFatEntryException", .glob)] := by
  unfold enterFn
  rw [pf698, is698, df698]
  kernel_rfl
def fd779 : { fd : FuncData // ∀ P, fnOf? (K2 P) 779 = some fd } := ⟨_, fun _ => rfl⟩
theorem pf779 (P : Params) : plainFn (K2 P) fd779.1 = true := by kernel_rfl
theorem df779 (P : Params) : defaultsV (K2 P) fd779.1 = some [.str "ibm437", .int 0, .bool true] := by kernel_rfl
theorem is779 : isStmts fd779.1 = true := by kernel_rfl
def bd779 : { b : List Stmt // bodyOf fd779.1 = b } := by
  refine ⟨?b, ?h⟩
  case h => conv => lhs; whnf
theorem en779 (P : Params) (v0 v1 v2 : V) : enterFn (K2 P) fd779.1 [v0, v1, v2] [] = some [(nid "self", .val v0), (nid "encoding", .val v1), (nid "offset", .val v2), (nid "lazy_load", .val (.bool true))] := by
  unfold enterFn
  rw [pf779, is779, df779]
  kernel_rfl
def fd786 : { fd : FuncData // ∀ P, fnOf? (K2 P) 786 = some fd } := ⟨_, fun _ => rfl⟩
theorem pf786 (P : Params) : plainFn (K2 P) fd786.1 = true := by kernel_rfl
theorem df786 (P : Params) : defaultsV (K2 P) fd786.1 = some [] := by kernel_rfl
theorem is786 : isStmts fd786.1 = true := by kernel_rfl
def bd786 : { b : List Stmt // bodyOf fd786.1 = b } := by
  refine ⟨?b, ?h⟩
  case h => conv => lhs; whnf
theorem en786 (P : Params) (v0 v1 : V) : enterFn (K2 P) fd786.1 [v0, v1] [] = some [(nid "self", .val v0), (nid "fp", .val v1), (nid "PyFATException", .glob), (nid "errno", .glob)] := by
  unfold enterFn
  rw [pf786, is786, df786]
  kernel_rfl
def fd793 : { fd : FuncData // ∀ P, fnOf? (K2 P) 793 = some fd } := ⟨_, fun _ => rfl⟩
theorem pf793 (P : Params) : plainFn (K2 P) fd793.1 = true := by kernel_rfl
theorem df793 (P : Params) : defaultsV (K2 P) fd793.1 = some [] := by kernel_rfl
theorem is793 : isStmts fd793.1 = true := by kernel_rfl
def bd793 : { b : List Stmt // bodyOf fd793.1 = b } := by
  refine ⟨?b, ?h⟩
  case h => conv => lhs; whnf
theorem en793 (P : Params) (v0 v1 : V) : enterFn (K2 P) fd793.1 [v0, v1] [] = some [(nid "self", .val v0), (nid "address", .val v1), (nid "PyFATException", .glob), (nid "errno", .glob)] := by
  unfold enterFn
  rw [pf793, is793, df793]
  kernel_rfl
def fd951 : { fd : FuncData // ∀ P, fnOf? (K2 P) 951 = some fd } := ⟨_, fun _ => rfl⟩
theorem pf951 (P : Params) : plainFn (K2 P) fd951.1 = true := by kernel_rfl
theorem df951 (P : Params) : defaultsV (K2 P) fd951.1 = some [] := by kernel_rfl
theorem is951 : isStmts fd951.1 = true := by kernel_rfl
def bd951 : { b : List Stmt // bodyOf fd951.1 = b } := by
  refine ⟨?b, ?h⟩
  case h => conv => lhs; whnf
theorem en951 (P : Params) (v0 v1 : V) : enterFn (K2 P) fd951.1 [v0, v1] [] = some [(nid "self", .val v0), (nid "address", .val v1), (nid "dir_hdr_size", .unset), (nid "dir_data", .unset), (nid "dir_hdr", .unset), (nid "at", .unset), (nid "FATDirectoryEntry", .glob), (nid "range", .glob), (nid "int", .glob), (nid "dict", .glob), (nid "zip", .glob)] := by
  unfold enterFn
  rw [pf951, is951, df951]
  kernel_rfl
def fd959 : { fd : FuncData // ∀ P, fnOf? (K2 P) 959 = some fd } := ⟨_, fun _ => rfl⟩
theorem pf959 (P : Params) : plainFn (K2 P) fd959.1 = true := by kernel_rfl
theorem df959 (P : Params) : defaultsV (K2 P) fd959.1 = some [.int 0, .int 0, .none] := by kernel_rfl
theorem is959 : isStmts fd959.1 = true := by kernel_rfl
def bd959 : { b : List Stmt // bodyOf fd959.1 = b } := by
  refine ⟨?b, ?h⟩
  case h => conv => lhs; whnf
theorem en959 (P : Params) (v0 v1 v2 : V) : enterFn (K2 P) fd959.1 [v0, v1, v2] [] = some [(nid "self", .val v0), (nid "address", .val v1), (nid "max_address", .val v2), (nid "tmp_lfn_entry", .val (.none)), (nid "dir_hdr_size", .unset), (nid "dir_entries", .unset), (nid "hdr_addr", .unset), (nid "dir_hdr", .unset), (nid "dir_sn", .unset), (nid "dir_first_byte", .unset), (nid "ex", .unset), (nid "dir_entry", .unset), (nid "cluster", .unset), (nid "subdirs", .unset), (nid "d", .unset), (nid "FATLongDirectoryEntry", .glob), (nid "FATDirectoryEntry", .glob), (nid "range", .glob), (nid "EightDotThree", .glob), (nid "NotAFatEntryException", .glob)] := by
  unfold enterFn
  rw [pf959, is959, df959]
  kernel_rfl
def fd1015 : { fd : FuncData // ∀ P, fnOf? (K2 P) 1015 = some fd } := ⟨_, fun _ => rfl⟩
theorem pf1015 (P : Params) : plainFn (K2 P) fd1015.1 = true := by kernel_rfl
theorem df1015 (P : Params) : defaultsV (K2 P) fd1015.1 = some [] := by kernel_rfl
theorem is1015 : isStmts fd1015.1 = true := by kernel_rfl
def bd1015 : { b : List Stmt // bodyOf fd1015.1 = b } := by
  refine ⟨?b, ?h⟩
  case h => conv => lhs; whnf
theorem en1015 (P : Params) (v0 v1 : V) : enterFn (K2 P) fd1015.1 [v0, v1] [] = some [(nid "year", .val v0), (nid "month", .val v1)] := by
  unfold enterFn
  rw [pf1015, is1015, df1015]
  kernel_rfl
def fd1022 : { fd : FuncData // ∀ P, fnOf? (K2 P) 1022 = some fd } := ⟨_, fun _ => rfl⟩
theorem pf1022 (P : Params) : plainFn (K2 P) fd1022.1 = true := by kernel_rfl
theorem df1022 (P : Params) : defaultsV (K2 P) fd1022.1 = some [] := by kernel_rfl
theorem is1022 : isStmts fd1022.1 = true := by kernel_rfl
def bd1022 : { b : List Stmt // bodyOf fd1022.1 = b } := by
  refine ⟨?b, ?h⟩
  case h => conv => lhs; whnf
theorem en1022 (P : Params) (v0 v1 : V) : enterFn (K2 P) fd1022.1 [v0, v1] [] = some [(nid "year", .val v0), (nid "month", .val v1), (nid "after", .unset), (nid "_law_ahead", .glob)] := by
  unfold enterFn
  rw [pf1022, is1022, df1022]
  kernel_rfl
def fd1029 : { fd : FuncData // ∀ P, fnOf? (K2 P) 1029 = some fd } := ⟨_, fun _ => rfl⟩
theorem pf1029 (P : Params) : plainFn (K2 P) fd1029.1 = true := by kernel_rfl
theorem df1029 (P : Params) : defaultsV (K2 P) fd1029.1 = some [] := by kernel_rfl
theorem is1029 : isStmts fd1029.1 = true := by kernel_rfl
def bd1029 : { b : List Stmt // bodyOf fd1029.1 = b } := by
  refine ⟨?b, ?h⟩
  case h => conv => lhs; whnf
theorem en1029 (P : Params) (v0 : V) : enterFn (K2 P) fd1029.1 [v0] [] = some [(nid "six", .val v0), (nid "year", .unset), (nid "month", .unset), (nid "day", .unset), (nid "hour", .unset), (nid "minute", .unset), (nid "second", .unset), (nid "_law_length", .glob)] := by
  unfold enterFn
  rw [pf1029, is1029, df1029]
  kernel_rfl
def fd1036 : { fd : FuncData // ∀ P, fnOf? (K2 P) 1036 = some fd } := ⟨_, fun _ => rfl⟩
theorem pf1036 (P : Params) : plainFn (K2 P) fd1036.1 = true := by kernel_rfl
theorem df1036 (P : Params) : defaultsV (K2 P) fd1036.1 = some [] := by kernel_rfl
theorem is1036 : isStmts fd1036.1 = true := by kernel_rfl
def bd1036 : { b : List Stmt // bodyOf fd1036.1 = b } := by
  refine ⟨?b, ?h⟩
  case h => conv => lhs; whnf
theorem en1036 (P : Params) (v0 v1 : V) : enterFn (K2 P) fd1036.1 [v0, v1] [] = some [(nid "date", .val v0), (nid "tick", .val v1), (nid "day", .unset), (nid "clock", .unset), (nid "_law_stands", .glob)] := by
  unfold enterFn
  rw [pf1036, is1036, df1036]
  kernel_rfl
def fd1043 : { fd : FuncData // ∀ P, fnOf? (K2 P) 1043 = some fd } := ⟨_, fun _ => rfl⟩
theorem pf1043 (P : Params) : plainFn (K2 P) fd1043.1 = true := by kernel_rfl
theorem df1043 (P : Params) : defaultsV (K2 P) fd1043.1 = some [] := by kernel_rfl
theorem is1043 : isStmts fd1043.1 = true := by kernel_rfl
def bd1043 : { b : List Stmt // bodyOf fd1043.1 = b } := by
  refine ⟨?b, ?h⟩
  case h => conv => lhs; whnf
theorem en1043 (P : Params) (v0 : V) : enterFn (K2 P) fd1043.1 [v0] [] = some [(nid "six", .val v0)] := by
  unfold enterFn
  rw [pf1043, is1043, df1043]
  kernel_rfl
def fd1050 : { fd : FuncData // ∀ P, fnOf? (K2 P) 1050 = some fd } := ⟨_, fun _ => rfl⟩
theorem pf1050 (P : Params) : plainFn (K2 P) fd1050.1 = true := by kernel_rfl
theorem df1050 (P : Params) : defaultsV (K2 P) fd1050.1 = some [] := by kernel_rfl
theorem is1050 : isStmts fd1050.1 = true := by kernel_rfl
def bd1050 : { b : List Stmt // bodyOf fd1050.1 = b } := by
  refine ⟨?b, ?h⟩
  case h => conv => lhs; whnf
theorem en1050 (P : Params) (v0 : V) : enterFn (K2 P) fd1050.1 [v0] [] = some [(nid "stamp", .val v0)] := by
  unfold enterFn
  rw [pf1050, is1050, df1050]
  kernel_rfl
def fd1057 : { fd : FuncData // ∀ P, fnOf? (K2 P) 1057 = some fd } := ⟨_, fun _ => rfl⟩
theorem pf1057 (P : Params) : plainFn (K2 P) fd1057.1 = true := by kernel_rfl
theorem df1057 (P : Params) : defaultsV (K2 P) fd1057.1 = some [] := by kernel_rfl
theorem is1057 : isStmts fd1057.1 = true := by kernel_rfl
def bd1057 : { b : List Stmt // bodyOf fd1057.1 = b } := by
  refine ⟨?b, ?h⟩
  case h => conv => lhs; whnf
theorem en1057 (P : Params) (v0 : V) : enterFn (K2 P) fd1057.1 [v0] [] = some [(nid "octets", .val v0), (nid "disk", .unset), (nid "box", .unset), (nid "found", .unset), (nid "pending", .unset), (nid "PyFat", .glob), (nid "Octets", .glob), (nid "len", .glob)] := by
  unfold enterFn
  rw [pf1057, is1057, df1057]
  kernel_rfl
def fd1062 : { fd : FuncData // ∀ P, fnOf? (K2 P) 1062 = some fd } := ⟨_, fun _ => rfl⟩
theorem pf1062 (P : Params) : plainFn (K2 P) fd1062.1 = true := by kernel_rfl
def bd1062 : { b : List Stmt // bodyOf fd1062.1 = b } := by
  refine ⟨?b, ?h⟩
  case h => conv => lhs; whnf
theorem gv_PyFat (P : Params) : globV (K2 P) "PyFat" = some (.old 1004) := by kernel_rfl
theorem gv_Octets (P : Params) : globV (K2 P) "Octets" = some (.old 268) := by kernel_rfl
theorem gv_FATDirectoryEntry (P : Params) : globV (K2 P) "FATDirectoryEntry" = some (.old 558) := by kernel_rfl
theorem gv_FATLongDirectoryEntry (P : Params) : globV (K2 P) "FATLongDirectoryEntry" = some (.old 633) := by kernel_rfl
theorem gv_EightDotThree (P : Params) : globV (K2 P) "EightDotThree" = some (.old 756) := by kernel_rfl
theorem gv_DosTime (P : Params) : globV (K2 P) "DosTime" = some (.old 38) := by kernel_rfl
theorem gv_DosDateTime (P : Params) : globV (K2 P) "DosDateTime" = some (.old 104) := by kernel_rfl
theorem gv_PyFATException (P : Params) : globV (K2 P) "PyFATException" = some (.old 128) := by kernel_rfl
theorem gv_errno (P : Params) : globV (K2 P) "errno" = some (.old 187) := by kernel_rfl
theorem gv__law_ahead (P : Params) : globV (K2 P) "_law_ahead" = some (.old 1015) := by kernel_rfl
theorem gv__law_length (P : Params) : globV (K2 P) "_law_length" = some (.old 1022) := by kernel_rfl
theorem gv__law_stands (P : Params) : globV (K2 P) "_law_stands" = some (.old 1029) := by kernel_rfl
theorem gv__law_due (P : Params) : globV (K2 P) "_law_due" = some (.old 1036) := by kernel_rfl
theorem gv__law_words (P : Params) : globV (K2 P) "_law_words" = some (.old 1043) := by kernel_rfl
theorem gv__law_six (P : Params) : globV (K2 P) "_law_six" = some (.old 1050) := by kernel_rfl
theorem gv__law_read (P : Params) : globV (K2 P) "_law_read" = some (.old 1057) := by kernel_rfl
theorem gv_ValueError (P : Params) : globV (K2 P) "ValueError" = some (.type "ValueError") := by kernel_rfl
theorem gv_TypeError (P : Params) : globV (K2 P) "TypeError" = some (.type "TypeError") := by kernel_rfl
theorem gv_len (P : Params) : globV (K2 P) "len" = some (.bi "len") := by kernel_rfl
theorem gv_range (P : Params) : globV (K2 P) "range" = some (.type "range") := by kernel_rfl
theorem gv_bytes (P : Params) : globV (K2 P) "bytes" = some (.type "bytes") := by kernel_rfl
theorem gv_bytearray (P : Params) : globV (K2 P) "bytearray" = some (.type "bytearray") := by kernel_rfl
theorem gv_int (P : Params) : globV (K2 P) "int" = some (.type "int") := by kernel_rfl
theorem gv_max (P : Params) : globV (K2 P) "max" = some (.bi "max") := by kernel_rfl
theorem gv_isinstance (P : Params) : globV (K2 P) "isinstance" = some (.bi "isinstance") := by kernel_rfl
theorem gv_enumerate (P : Params) : globV (K2 P) "enumerate" = some (.type "enumerate") := by kernel_rfl
theorem gv_dict (P : Params) : globV (K2 P) "dict" = some (.type "dict") := by kernel_rfl
theorem gv_zip (P : Params) : globV (K2 P) "zip" = some (.type "zip") := by kernel_rfl
theorem nf38 (P : Params) : fnOf? (K2 P) 38 = none := by kernel_rfl
theorem mk38 (P : Params) : makesIn (K2 P) 38 = true := by kernel_rfl
theorem ini38 (P : Params) : findIn (K2 P) (.ref 38) "__init__" = some (some (.ref 35)) := by kernel_rfl
theorem isf35 (P : Params) : isFn (K2 P) (.ref 35) = true := by kernel_rfl
theorem nf104 (P : Params) : fnOf? (K2 P) 104 = none := by kernel_rfl
theorem mk104 (P : Params) : makesIn (K2 P) 104 = true := by kernel_rfl
theorem ini104 (P : Params) : findIn (K2 P) (.ref 104) "__init__" = some (some (.ref 57)) := by kernel_rfl
theorem isf57 (P : Params) : isFn (K2 P) (.ref 57) = true := by kernel_rfl
theorem nf268 (P : Params) : fnOf? (K2 P) 268 = none := by kernel_rfl
theorem mk268 (P : Params) : makesIn (K2 P) 268 = true := by kernel_rfl
theorem ini268 (P : Params) : findIn (K2 P) (.ref 268) "__init__" = some (some (.ref 223)) := by kernel_rfl
theorem isf223 (P : Params) : isFn (K2 P) (.ref 223) = true := by kernel_rfl
theorem nf558 (P : Params) : fnOf? (K2 P) 558 = none := by kernel_rfl
theorem mk558 (P : Params) : makesIn (K2 P) 558 = true := by kernel_rfl
theorem ini558 (P : Params) : findIn (K2 P) (.ref 558) "__init__" = some (some (.ref 288)) := by kernel_rfl
theorem isf288 (P : Params) : isFn (K2 P) (.ref 288) = true := by kernel_rfl
theorem nf633 (P : Params) : fnOf? (K2 P) 633 = none := by kernel_rfl
theorem mk633 (P : Params) : makesIn (K2 P) 633 = true := by kernel_rfl
theorem ini633 (P : Params) : findIn (K2 P) (.ref 633) "__init__" = some (some (.ref 577)) := by kernel_rfl
theorem isf577 (P : Params) : isFn (K2 P) (.ref 577) = true := by kernel_rfl
theorem nf756 (P : Params) : fnOf? (K2 P) 756 = none := by kernel_rfl
theorem mk756 (P : Params) : makesIn (K2 P) 756 = true := by kernel_rfl
theorem ini756 (P : Params) : findIn (K2 P) (.ref 756) "__init__" = some (some (.ref 653)) := by kernel_rfl
theorem isf653 (P : Params) : isFn (K2 P) (.ref 653) = true := by kernel_rfl
theorem nf1004 (P : Params) : fnOf? (K2 P) 1004 = none := by kernel_rfl
theorem mk1004 (P : Params) : makesIn (K2 P) 1004 = true := by kernel_rfl
theorem ini1004 (P : Params) : findIn (K2 P) (.ref 1004) "__init__" = some (some (.ref 779)) := by kernel_rfl
theorem isf779 (P : Params) : isFn (K2 P) (.ref 779) = true := by kernel_rfl
theorem mn104_combine (P : Params) : fnIn (K2 P) 104 "combine" = none := by kernel_rfl
theorem ms104_combine (P : Params) : statIn (K2 P) 104 "combine" = some 64 := by kernel_rfl
theorem mc104_combine (P : Params) : clsStat (K2 P) 104 "combine" = some 64 := by kernel_rfl
theorem me104_serialize_date (P : Params) : fnIn (K2 P) 104 "serialize_date" = some 74 := by kernel_rfl
theorem me104_serialize_time (P : Params) : fnIn (K2 P) 104 "serialize_time" = some 81 := by kernel_rfl
theorem mn104_deserialize_date (P : Params) : fnIn (K2 P) 104 "deserialize_date" = none := by kernel_rfl
theorem ms104_deserialize_date (P : Params) : statIn (K2 P) 104 "deserialize_date" = some 88 := by kernel_rfl
theorem mc104_deserialize_date (P : Params) : clsStat (K2 P) 104 "deserialize_date" = some 88 := by kernel_rfl
theorem mn104_deserialize_time (P : Params) : fnIn (K2 P) 104 "deserialize_time" = none := by kernel_rfl
theorem ms104_deserialize_time (P : Params) : statIn (K2 P) 104 "deserialize_time" = some 98 := by kernel_rfl
theorem mc104_deserialize_time (P : Params) : clsStat (K2 P) 104 "deserialize_time" = some 98 := by kernel_rfl
theorem me268_seek (P : Params) : fnIn (K2 P) 268 "seek" = some 251 := by kernel_rfl
theorem me268_read (P : Params) : fnIn (K2 P) 268 "read" = some 258 := by kernel_rfl
theorem me558_set_size (P : Params) : fnIn (K2 P) 558 "set_size" = some 295 := by kernel_rfl
theorem mn558_new (P : Params) : fnIn (K2 P) 558 "new" = none := by kernel_rfl
theorem ms558_new (P : Params) : statIn (K2 P) 558 "new" = some 303 := by kernel_rfl
theorem mc558_new (P : Params) : clsStat (K2 P) 558 "new" = some 303 := by kernel_rfl
theorem me558_get_ctime (P : Params) : fnIn (K2 P) 558 "get_ctime" = some 313 := by kernel_rfl
theorem me558_get_mtime (P : Params) : fnIn (K2 P) 558 "get_mtime" = some 320 := by kernel_rfl
theorem me558_get_atime (P : Params) : fnIn (K2 P) 558 "get_atime" = some 327 := by kernel_rfl
theorem mn558__combine_dosdatetime (P : Params) : fnIn (K2 P) 558 "_combine_dosdatetime" = none := by kernel_rfl
theorem ms558__combine_dosdatetime (P : Params) : statIn (K2 P) 558 "_combine_dosdatetime" = some 334 := by kernel_rfl
theorem mc558__combine_dosdatetime (P : Params) : clsStat (K2 P) 558 "_combine_dosdatetime" = some 334 := by kernel_rfl
theorem me558_set_lfn_entry (P : Params) : fnIn (K2 P) 558 "set_lfn_entry" = some 351 := by kernel_rfl
theorem me558_get_cluster (P : Params) : fnIn (K2 P) 558 "get_cluster" = some 365 := by kernel_rfl
theorem me558_set_cluster (P : Params) : fnIn (K2 P) 558 "set_cluster" = some 372 := by kernel_rfl
theorem me558_as_bytes (P : Params) : fnIn (K2 P) 558 "as_bytes" = some 379 := by kernel_rfl
theorem mn633_is_lfn_entry (P : Params) : fnIn (K2 P) 633 "is_lfn_entry" = none := by kernel_rfl
theorem ms633_is_lfn_entry (P : Params) : statIn (K2 P) 633 "is_lfn_entry" = some 613 := by kernel_rfl
theorem mc633_is_lfn_entry (P : Params) : clsStat (K2 P) 633 "is_lfn_entry" = some 613 := by kernel_rfl
theorem me633_is_lfn_entry_complete (P : Params) : fnIn (K2 P) 633 "is_lfn_entry_complete" = some 630 := by kernel_rfl
theorem me756__set_name (P : Params) : fnIn (K2 P) 756 "_set_name" = some 691 := by kernel_rfl
theorem me756_set_byte_name (P : Params) : fnIn (K2 P) 756 "set_byte_name" = some 698 := by kernel_rfl
theorem me1004__set_fp (P : Params) : fnIn (K2 P) 1004 "_set_fp" = some 786 := by kernel_rfl
theorem me1004__seek (P : Params) : fnIn (K2 P) 1004 "_seek" = some 793 := by kernel_rfl
theorem me1004__parse_dir_entry (P : Params) : fnIn (K2 P) 1004 "_parse_dir_entry" = some 951 := by kernel_rfl
theorem me1004_parse_dir_entries_in_address (P : Params) : fnIn (K2 P) 1004 "parse_dir_entries_in_address" = some 959 := by kernel_rfl
theorem cg558_FAT_DIRECTORY_HEADER_SIZE (P : Params) : clsGet (K2 P) 558 "FAT_DIRECTORY_HEADER_SIZE" = some (.int 32) := by kernel_rfl
theorem cg558_ATTR_LONG_NAME (P : Params) : clsGet (K2 P) 558 "ATTR_LONG_NAME" = some (.int 15) := by kernel_rfl
theorem cg558_ATTR_LONG_NAME_MASK (P : Params) : clsGet (K2 P) 558 "ATTR_LONG_NAME_MASK" = some (.int 63) := by kernel_rfl
theorem cg558_FREE_DIR_ENTRY_MARK (P : Params) : clsGet (K2 P) 558 "FREE_DIR_ENTRY_MARK" = some (.int 229) := by kernel_rfl
theorem cg558_FAT_DIRECTORY_VARS (P : Params) : clsGet (K2 P) 558 "FAT_DIRECTORY_VARS" = some (.old 280) := by kernel_rfl
theorem cv558_MAX (P : Params) : clsVal (K2 P) 558 "MAX_FILE_SIZE" = some (.int 4294967295) := by kernel_rfl
theorem cv1004_UNK (P : Params) : clsVal (K2 P) 1004 "FAT_TYPE_UNKNOWN" = some (.int 0) := by kernel_rfl
section
variable {st : St} {E : V → St → Prop}
theorem W.iModE {x y z : Int} {Q : V → St → Prop} (hy : (y != 0) = true) (hz : x.fmod y = z) (h : Q (.int z) st) : W (binV .Mod (.int x) (.int y)) st Q E := W.iMod hy (hz ▸ h)
theorem W.iDivE {x y z : Int} {Q : V → St → Prop} (hy : (y != 0 && decide (y.natAbs < 1073741824)) = true) (hz : x.fdiv y = z) (h : Q (.int z) st) : W (binV .FloorDiv (.int x) (.int y)) st Q E := W.iDiv hy (hz ▸ h)
theorem W.iShrE {x y z : Int} {Q : V → St → Prop} (hy : decide (0 ≤ y) = true) (hz : x.fdiv (2 ^ y.toNat) = z) (h : Q (.int z) st) : W (binV .RShift (.int x) (.int y)) st Q E := W.iShr hy (hz ▸ h)
theorem W.iShlE {x y z : Int} {Q : V → St → Prop} (hy : (decide (0 ≤ y) && decide (y ≤ 1000000)) = true) (hx : -18446744073709551616 < x ∧ x < 18446744073709551616) (hz : x * 2 ^ y.toNat = z) (h : Q (.int z) st) : W (binV .LShift (.int x) (.int y)) st Q E := W.iShl hy hx (hz ▸ h)
theorem W.iAndE {x y z : Int} {Q : V → St → Prop} (hz : Builtin.bitAnd x y = z) (h : Q (.int z) st) : W (binV .BitAnd (.int x) (.int y)) st Q E := W.iAnd (hz ▸ h)
theorem W.iOrE {x y z : Int} {Q : V → St → Prop} (hz : Builtin.bitOr x y = z) (h : Q (.int z) st) : W (binV .BitOr (.int x) (.int y)) st Q E := W.iOr (hz ▸ h)
end
theorem fmodE {x y : Int} (h : 0 ≤ y) : x.fmod y = x % y := Int.fmod_eq_emod_of_nonneg x h
theorem fdivE {x y : Int} (h : 0 ≤ y) : x.fdiv y = x / y := Int.fdiv_eq_ediv_of_nonneg x h
theorem shr5 (x : Int) : x.fdiv (2 ^ (5 : Int).toNat) = x / 32 := fdivE (by decide)
theorem shr9 (x : Int) : x.fdiv (2 ^ (9 : Int).toNat) = x / 512 := fdivE (by decide)
theorem shr11 (x : Int) : x.fdiv (2 ^ (11 : Int).toNat) = x / 2048 := fdivE (by decide)
theorem shr0 (x : Int) : x.fdiv (2 ^ ((16 : Int) * 0).toNat) = x := by
  have : x.fdiv (2 ^ ((16 : Int) * 0).toNat) = x / 1 := fdivE (by decide)
  rw [this]; omega
theorem shr16 (x : Int) : x.fdiv (2 ^ ((16 : Int) * 1).toNat) = x / 65536 := fdivE (by decide)
theorem shl5 (x : Int) : x * 2 ^ (5 : Int).toNat = x * 32 := rfl
theorem shl4 (x : Int) : x * 2 ^ (4 : Int).toNat = x * 16 := rfl
theorem shl6 (x : Int) : x * 2 ^ (6 : Int).toNat = x * 64 := rfl
theorem shl7 (x : Int) : x * 2 ^ (7 : Int).toNat = x * 128 := rfl
theorem shl9 (x : Int) : x * 2 ^ (9 : Int).toNat = x * 512 := rfl
theorem shl11 (x : Int) : x * 2 ^ (11 : Int).toNat = x * 2048 := rfl
theorem shl16 (x : Int) : x * 2 ^ (16 : Int).toNat = x * 65536 := rfl
theorem mk4 (x : Int) : Builtin.bitAnd x (1 * 16 - 1) = x % 16 := bitAnd_m4 x
theorem mk5 (x : Int) : Builtin.bitAnd x (1 * 32 - 1) = x % 32 := bitAnd_m5 x
theorem mk6 (x : Int) : Builtin.bitAnd x (1 * 64 - 1) = x % 64 := bitAnd_m6 x
theorem mk7 (x : Int) : Builtin.bitAnd x (1 * 128 - 1) = x % 128 := bitAnd_m7 x
theorem mk16 (x : Int) : Builtin.bitAnd x 65535 = x % 65536 := bitAnd_m16 x
theorem mk63 (x : Int) : Builtin.bitAnd x 63 = x % 64 := bitAnd_m6 x
theorem bitOr_nat (a b : Nat) : Builtin.bitOr (a : Int) (b : Int) = ((a ||| b : Nat) : Int) := by
  have nn : ∀ x : Int, Builtin.bitNot (Builtin.bitNot x) = x := fun x => by unfold Builtin.bitNot; omega
  have neg : ∀ c : Nat, decide (0 ≤ Builtin.bitNot (c : Int)) = false := fun c => decide_eq_false (by unfold Builtin.bitNot; omega)
  unfold Builtin.bitOr Builtin.bitAnd
  rw [neg a, neg b]
  show Builtin.bitNot (Builtin.bitNot (((Builtin.bitNot (Builtin.bitNot (a : Int))).toNat ||| (Builtin.bitNot (Builtin.bitNot (b : Int))).toNat : Nat) : Int)) = _
  rw [nn, nn, nn, Int.toNat_natCast, Int.toNat_natCast]
theorem or_add {x b : Int} (k : Nat) (hx : 0 ≤ x) (hm : x % (2 ^ k : Nat) = 0) (hb : 0 ≤ b) (hb' : b < (2 ^ k : Nat)) : Builtin.bitOr x b = x + b := by
  obtain ⟨X, rfl⟩ := Int.eq_ofNat_of_zero_le hx
  obtain ⟨B, rfl⟩ := Int.eq_ofNat_of_zero_le hb
  have hB : B < 2 ^ k := by omega
  have hX : X % 2 ^ k = 0 := by
    have : ((X % 2 ^ k : Nat) : Int) = 0 := by rw [Int.natCast_emod]; exact hm
    omega
  have e : X = 2 ^ k * (X / 2 ^ k) := by have := Nat.div_add_mod X (2 ^ k); omega
  show Builtin.bitOr ((X : Nat) : Int) ((B : Nat) : Int) = _
  rw [bitOr_nat]
  have := Nat.two_pow_add_eq_or_of_lt hB (X / 2 ^ k)
  rw [← e] at this
  rw [← this]
  push_cast
  rfl
theorem or5 {x b : Int} (hx : 0 ≤ x) (hm : x % 32 = 0) (hb : 0 ≤ b) (hb' : b < 32) : Builtin.bitOr x b = x + b := or_add 5 hx hm hb hb'
theorem or9 {x b : Int} (hx : 0 ≤ x) (hm : x % 512 = 0) (hb : 0 ≤ b) (hb' : b < 512) : Builtin.bitOr x b = x + b := or_add 9 hx hm hb hb'
theorem or11 {x b : Int} (hx : 0 ≤ x) (hm : x % 2048 = 0) (hb : 0 ≤ b) (hb' : b < 2048) : Builtin.bitOr x b = x + b := or_add 11 hx hm hb hb'
theorem still_mk {r m : Nat} {o : O} {f : Nat → O} {l : List (Nat × Slot)} {md : Mode} (h : f r = o) : still r o ⟨f, m, l, md⟩ = true := decide_eq_true h
theorem p256_2 : (256 : Int) ^ (2 : Int).toNat = 65536 := by decide
theorem p256_4 : (256 : Int) ^ (4 : Int).toNat = 4294967296 := by decide
section
variable {K : Frag} {n m : Nat} {f : Nat → O} {l : List (Nat × Slot)} {md : Mode} {E : V → St → Prop}
theorem W.lAddE {i j : Nat} {x y z : List V} {Q : V → St → Prop} (hi : i < m) (ei : f i = .list x) (hj : j < m) (ej : f j = .list y) (hz : x ++ y = z) (hs : z.length ≤ 16777216) (h : Q (.ref m) ⟨updO f m (.list z), m + 1, l, md⟩) : W (binV .Add (.ref i) (.ref j)) ⟨f, m, l, md⟩ Q E := by
  subst hz; exact W.lAdd hi ei hj ej hs h
theorem W.ipLE {i j : Nat} {x y z : List V} {Q : V → St → Prop} (hi : i < m) (ei : f i = .list x) (hj : j < m) (ej : f j = .list y) (hz : x ++ y = z) (hs : z.length ≤ 16777216) (hne : i ≠ j) (h : Q (.ref i) ⟨updO f i (.list z), m, l, md⟩) : W (inplV .Add (.ref i) (.ref j)) ⟨f, m, l, md⟩ Q E := by
  subst hz; exact W.ipL hi ei hj ej hs hne h
end
theorem leB_length : ∀ (k n : Nat), (leBytes k n).length = k
  | 0, _ => rfl
  | k + 1, n => by show (leBytes k (n / 256)).length + 1 = k + 1; rw [leB_length k]
structure Same (f : Nat → O) (m : Nat) (f' : Nat → O) : Prop where
  get : ∀ {i : Nat} {o : O}, i < m → f i = o → f' i = o
theorem Same.refl {f : Nat → O} {m : Nat} : Same f m f := ⟨fun _ e => e⟩
theorem Same.upd {f f' : Nat → O} {m i : Nat} {o : O} (h : Same f m f') (hi : m ≤ i) : Same f m (updO f' i o) := ⟨fun hj e => updO_other (by omega) (h.get hj e)⟩
theorem Same.trans {f f' f'' : Nat → O} {m m' : Nat} (h : Same f m f') (h' : Same f' m' f'') (hm : m ≤ m') : Same f m f'' := ⟨fun hj e => h'.get (by omega) (h.get hj e)⟩
structure SameX (f : Nat → O) (m i : Nat) (f' : Nat → O) : Prop where
  get : ∀ {j : Nat} {o : O}, j < m → j ≠ i → f j = o → f' j = o
theorem SameX.refl {f : Nat → O} {m i : Nat} : SameX f m i f := ⟨fun _ _ e => e⟩
theorem SameX.upd {f f' : Nat → O} {m i j : Nat} {o : O} (h : SameX f m i f') (hj : m ≤ j) : SameX f m i (updO f' j o) := ⟨fun hk hn e => updO_other (by omega) (h.get hk hn e)⟩
theorem SameX.here {f f' : Nat → O} {m i : Nat} {o : O} (h : SameX f m i f') : SameX f m i (updO f' i o) := ⟨fun hk hn e => updO_other hn (h.get hk hn e)⟩
theorem SameX.trans {f f' f'' : Nat → O} {m m' i : Nat} (h : SameX f m i f') (h' : SameX f' m' i f'') (hm : m ≤ m') : SameX f m i f'' := ⟨fun hj hn e => h'.get (by omega) hn (h.get hj hn e)⟩
theorem SameX.same {f f' f'' : Nat → O} {m m' i : Nat} (h : SameX f m i f') (h' : Same f' m' f'') (hm : m ≤ m') : SameX f m i f'' := ⟨fun hj hn e => h'.get (by omega) (h.get hj hn e)⟩
theorem Same.then {f f' f'' : Nat → O} {m m' i : Nat} (h : Same f m f') (h' : SameX f' m' i f'') (hm : m ≤ m') (hi : m ≤ i) : Same f m f'' := ⟨fun hj e => h'.get (by omega) (by omega) (h.get hj e)⟩
section
variable {K : Frag} {n m : Nat} {f : Nat → O} {l : List (Nat × Slot)} {md : Mode} {E : V → St → Prop}
theorem W.nameEg {x : Str} {v : V} {Q : V → St → Prop} (h0 : nid x ≠ 0) (hd : (x == ("__debug__" : Str)) = false) (hl : look (nid x) l = some .glob) (hg : globV K x = some v) (h : Q v ⟨f, m, l, md⟩) : W (nameE K x) ⟨f, m, l, md⟩ Q E :=
  W.glob (n := 0) (np := default) h0 hd hl hg h
end
def slotE (K : Frag) (x : Str) : Slot → M V
  | .val v => Mine.ret v
  | .glob => (match globV K x with | some v => Mine.ret v | none => Mine.stuck "global")
  | _ => Mine.stuck "slot"
section
variable {K : Frag} {n m : Nat} {f : Nat → O} {l : List (Nat × Slot)} {md : Mode} {st : St} {E : V → St → Prop}
theorem W.nm {x : Str} {np : Pos} {sl : Slot} {Q : V → St → Prop} (h0 : nid x ≠ 0) (hd : (x == ("__debug__" : Str)) = false) (hl : look (nid x) l = some sl) (h : W (slotE K x sl) ⟨f, m, l, md⟩ Q E) : W ((evX K (n + 1)).expr (.Name x np)) ⟨f, m, l, md⟩ Q E := by
  cases sl with
  | val v => exact W.name h0 hd hl h
  | glob =>
    cases e : globV K x with
    | none => unfold slotE at h; rw [e] at h; exact h.elim
    | some v => unfold slotE at h; rw [e] at h; exact W.glob h0 hd hl e h
  | cell _ _ => exact h.elim
  | unset => exact h.elim
theorem W.slV {x : Str} {v : V} {Q : V → St → Prop} (h : Q v st) : W (slotE K x (.val v)) st Q E := h
theorem W.slG {x : Str} {v : V} {Q : V → St → Prop} (hg : globV K x = some v) (h : Q v st) : W (slotE K x .glob) st Q E := by
  unfold slotE; rw [hg]; exact h
end
structure Hold (p : Prop) : Prop where
  get : p
theorem holdE {p : Prop} : Hold p ↔ p := ⟨fun h => h.get, fun h => ⟨h⟩⟩
theorem flV_next : flV .next = .none := rfl
local macro_rules | `(tactic| k_extra "omh") => `(tactic| first | (((try simp only [holdE] at *); omega)) | fail)
local macro_rules | `(tactic| k_extra "lt") => `(tactic| first | (first | assumption | exact Nat.lt_succ_self _ | omega) | fail)
local macro_rules | `(tactic| k_extra "same") => `(tactic| first | (((repeat (first | with_reducible exact Same.refl | with_reducible assumption | with_reducible refine Same.upd ?_ (by omega) | with_reducible refine Same.trans ?_ (by assumption) (by omega) | with_reducible refine Same.then ?_ (by assumption) (by omega) (by omega))); first | done | fail "x")) | fail)
local macro_rules | `(tactic| k_extra "ob2") => `(tactic| first | (((repeat (first | assumption | with_reducible exact updO_same | with_reducible refine updO_other (by omega) ?_ | with_reducible refine Same.get (by assumption) (by omega) ?_ | with_reducible refine SameX.get (by assumption) (by omega) (by omega) ?_)); first | done | fail "x")) | fail)
local macro_rules | `(tactic| k_extra "samex") => `(tactic| first | (((repeat (first | with_reducible exact SameX.refl | with_reducible assumption | with_reducible exact SameX.here | with_reducible refine SameX.here ?_ | with_reducible refine SameX.upd ?_ (by omega) | with_reducible refine SameX.trans ?_ (by assumption) (by omega) | with_reducible refine SameX.same ?_ (by assumption) (by omega))); first | done | fail "x")) | fail)
local macro_rules | `(tactic| k_extra "bb") => `(tactic| first | ((intro x hx; simp only [List.mem_cons, List.not_mem_nil, or_false] at hx; omega)) | fail)
local macro_rules | `(tactic| k_extra "tb") => `(tactic| first | ((first | (rw [p256_2]; omega) | (rw [p256_4]; omega))) | fail)
local macro_rules | `(tactic| k_extra "ap") => `(tactic| first | (((try (conv => lhs; simp only [List.cons_append, List.nil_append])); first | done | exact rfl)) | fail)
local macro_rules | `(tactic| k_extra "gd") => `(tactic| first | (first | exact still_mk (by k_extra "ob2") | rfl) | fail)
local macro_rules | `(tactic| k_extra "ln") => `(tactic| first | ((first | decide | omega | (simp only [List.length_cons, List.length_nil, List.length_append, List.length_map, List.length_take, List.length_drop, List.length_set, leB_length]; omega))) | fail)
local macro_rules | `(tactic| k_extra "gv") => `(tactic| first | (first | exact gv_DosTime _ | exact gv_DosDateTime _ | exact gv_ValueError _ | exact gv_len _ | exact gv_range _ | exact gv_bytes _ | exact gv_int _ | exact gv_isinstance _ | exact gv_FATDirectoryEntry _ | exact gv_FATLongDirectoryEntry _ | exact gv_EightDotThree _ | exact gv_PyFat _ | exact gv_Octets _ | exact gv__law_ahead _ | exact gv__law_length _ | exact gv__law_stands _ | exact gv__law_due _ | exact gv__law_words _ | exact gv__law_six _ | exact gv__law_read _ | exact gv_max _ | exact gv_bytearray _ | exact gv_enumerate _ | exact gv_dict _ | exact gv_zip _ | exact gv_TypeError _ | exact gv_PyFATException _ | exact gv_errno _) | fail)
local macro_rules | `(tactic| k_extra "me") => `(tactic| first | (first | exact me104_serialize_date _ | exact me104_serialize_time _ | exact me268_seek _ | exact me268_read _ | exact me558_set_size _ | exact me558_get_ctime _ | exact me558_get_mtime _ | exact me558_get_atime _ | exact me558_set_lfn_entry _ | exact me558_get_cluster _ | exact me558_set_cluster _ | exact me558_as_bytes _ | exact me633_is_lfn_entry_complete _ | exact me756__set_name _ | exact me756_set_byte_name _ | exact me1004__set_fp _ | exact me1004__seek _ | exact me1004__parse_dir_entry _ | exact me1004_parse_dir_entries_in_address _) | fail)
local macro_rules | `(tactic| k_extra "mn") => `(tactic| first | (first | exact mn104_combine _ | exact mn104_deserialize_date _ | exact mn104_deserialize_time _ | exact mn558_new _ | exact mn558__combine_dosdatetime _ | exact mn633_is_lfn_entry _) | fail)
local macro_rules | `(tactic| k_extra "ms") => `(tactic| first | (first | exact ms104_combine _ | exact ms104_deserialize_date _ | exact ms104_deserialize_time _ | exact ms558_new _ | exact ms558__combine_dosdatetime _ | exact ms633_is_lfn_entry _) | fail)
local macro_rules | `(tactic| k_extra "mc") => `(tactic| first | (first | exact mc104_combine _ | exact mc104_deserialize_date _ | exact mc104_deserialize_time _ | exact mc558_new _ | exact mc558__combine_dosdatetime _ | exact mc633_is_lfn_entry _) | fail)
local macro_rules | `(tactic| k_extra "cg") => `(tactic| first | (first | exact cg558_FAT_DIRECTORY_HEADER_SIZE _ | exact cg558_ATTR_LONG_NAME _ | exact cg558_ATTR_LONG_NAME_MASK _ | exact cg558_FREE_DIR_ENTRY_MARK _ | exact cg558_FAT_DIRECTORY_VARS _) | fail)
local macro_rules | `(tactic| k_extra "cv") => `(tactic| first | (first | exact cv558_MAX _ | exact cv1004_UNK _) | fail)
local macro_rules | `(tactic| k_extra "shl") => `(tactic| first | (first | exact shl5 _ | exact shl9 _ | exact shl11 _ | exact shl16 _ | exact shl4 _ | exact shl6 _ | exact shl7 _) | fail)
local macro_rules | `(tactic| k_extra "shr") => `(tactic| first | (first | exact shr5 _ | exact shr9 _ | exact shr11 _ | exact shr16 _ | exact shr0 _) | fail)
local macro_rules | `(tactic| k_extra "mk") => `(tactic| first | (first | exact mk5 _ | exact mk4 _ | exact mk6 _ | exact mk7 _ | exact mk16 _ | exact mk63 _) | fail)
local macro_rules | `(tactic| k_extra "orr") => `(tactic| first | (first | exact or5 (by k_extra "omh") (by k_extra "omh") (by k_extra "omh") (by k_extra "omh") | exact or9 (by k_extra "omh") (by k_extra "omh") (by k_extra "omh") (by k_extra "omh") | exact or11 (by k_extra "omh") (by k_extra "omh") (by k_extra "omh") (by k_extra "omh")) | fail)
local macro_rules | `(tactic| k_extra "hdt") => `(tactic| first | (first | assumption | rfl) | fail)
local macro_rules | `(tactic| k_extra "br") => `(tactic| first | (((with_reducible refine ⟨fun hb => ?_, fun hb => ?_⟩) <;> (try simp only [decide_eq_true_eq, decide_eq_false_iff_not, beq_iff_eq, bne_iff_ne, Bool.not_true, Bool.not_false, reduceCtorEq, Bool.not_eq_true', Bool.not_eq_false', beq_eq_false_iff_ne, ne_eq, Decidable.not_not, Int.not_le, Int.not_lt] at hb) <;> (try replace hb := Hold.mk hb))) | fail)
local macro_rules | `(tactic| k_extra "it") => `(tactic| first | (exact rfl) | fail)
local macro_rules | `(tactic| k_extra "bm") => `(tactic| first | (fail "no") | fail)
local macro_rules | `(tactic| k_extra "okd") => `(tactic| first | (fail "no") | fail)
local macro_rules | `(tactic| k_extra "fl") => `(tactic| first | (fail "no") | fail)
local macro_rules | `(tactic| k_extra "od") => `(tactic| first | (fail "no") | fail)
local macro_rules | `(tactic| k_extra "pa") => `(tactic| first | (fail "no") | fail)
local macro_rules | `(tactic| k_extra "lq") => `(tactic| first | (first | assumption | simp only [List.length_cons, List.length_nil, List.length_reverse]) | fail)
local macro_rules | `(tactic| k_extra "so") => `(tactic| first | (first | assumption | exact .inl rfl | exact .inr ⟨_, rfl⟩) | fail)
local macro_rules | `(tactic| k_extra "ex") => `(tactic| first | (fail "no") | fail)
local macro_rules | `(tactic| k_extra "pr0") => `(tactic| first | ((simp only [holdE, List.length_cons, List.length_nil] at *; omega)) | fail)
local macro_rules | `(tactic| k_extra "okt") => `(tactic| first | (fail "no") | fail)
local macro_rules | `(tactic| k_extra "okn") => `(tactic| first | (fail "no") | fail)
local macro_rules | `(tactic| k_extra "dt") => `(tactic| first | (fail "no") | fail)
local macro_rules | `(tactic| end_is "x0") => `(tactic| focus (assumption))
local macro_rules | `(tactic| end_is "x1") => `(tactic| focus (dsimp only [List.nil_append, List.cons_append]))
local macro_rules | `(tactic| end_is "x2") => `(tactic| focus (dsimp only []))
local macro_rules | `(tactic| end_is "x3") => `(tactic| focus (exact fun q => absurd q.2 (by assumption)))
local macro_rules | `(tactic| end_is "x4") => `(tactic| focus (exfalso; first | exact Mine.Hold.get (by assumption) | k_extra "omh" | k_extra "pr0"))
local macro_rules | `(tactic| end_is "x5") => `(tactic| focus (k_extra "br"))
local macro_rules | `(tactic| end_is "x6") => `(tactic| focus (k_extra "exkIff"))
local macro_rules | `(tactic| end_is "x7") => `(tactic| focus (k_extra "exkforC"))
local macro_rules | `(tactic| end_is "x8") => `(tactic| focus (k_extra "exkslOk"))
local macro_rules | `(tactic| end_is "x9") => `(tactic| focus (k_extra "lt"))
local macro_rules | `(tactic| end_is "x10") => `(tactic| focus (k_extra "ob2"))
local macro_rules | `(tactic| end_is "x11") => `(tactic| focus (k_extra "okn"))
local macro_rules | `(tactic| end_is "x12") => `(tactic| focus (k_extra "omh"))
local macro_rules | `(tactic| end_is "x13") => `(tactic| focus (k_extra "same"))
local macro_rules | `(tactic| end_is "x14") => `(tactic| focus (k_extra "spn38"))
local macro_rules | `(tactic| end_is "x15") => `(tactic| focus (with_reducible intro _))
local macro_rules | `(tactic| end_is "x16") => `(tactic| with_reducible refine W.aCls (by decide +kernel) (by k_extra "lt") (by k_extra "ob2") (by kernel_rfl) (by k_extra "lk") (by k_extra "cv") ?_)
local macro_rules | `(tactic| end_is "x17") => `(tactic| with_reducible refine W.aInst (by decide +kernel) (by k_extra "lt") (by k_extra "ob2") (by kernel_rfl) (by k_extra "lk") (by k_extra "nb") ?_)
local macro_rules | `(tactic| end_is "x18") => `(tactic| with_reducible refine W.aOld (by decide +kernel) (by k_extra "cg") ?_)
local macro_rules | `(tactic| end_is "x19") => `(tactic| with_reducible refine W.alloc ?_)
local macro_rules | `(tactic| end_is "x20") => `(tactic| with_reducible refine W.andC ?_)
local macro_rules | `(tactic| end_is "x21") => `(tactic| with_reducible refine W.andN ?_)
local macro_rules | `(tactic| end_is "x22") => `(tactic| with_reducible refine W.append (by k_extra "lt") (by k_extra "ob2") (by k_extra "ln") ?_)
local macro_rules | `(tactic| end_is "x23") => `(tactic| with_reducible refine W.assignA (by decide +kernel) ?_)
local macro_rules | `(tactic| end_is "x24") => `(tactic| with_reducible refine W.assignN (by decide +kernel) ?_)
local macro_rules | `(tactic| end_is "x25") => `(tactic| with_reducible refine W.attr (by decide +kernel) ?_)
local macro_rules | `(tactic| end_is "x26") => `(tactic| with_reducible refine W.augN ?_)
local macro_rules | `(tactic| end_is "x27") => `(tactic| with_reducible refine W.bAdd (by k_extra "ln") ?_)
local macro_rules | `(tactic| end_is "x28") => `(tactic| with_reducible refine W.bin ?_)
local macro_rules | `(tactic| end_is "x29") => `(tactic| with_reducible refine W.bytesL (by k_extra "hdt") (by k_extra "lt") (by k_extra "ob2") rfl (by k_extra "ln") (by k_extra "bb") ?_)
local macro_rules | `(tactic| end_is "x30") => `(tactic| with_reducible refine W.cBool ?_)
local macro_rules | `(tactic| end_is "x31") => `(tactic| with_reducible refine W.cEqI ?_)
local macro_rules | `(tactic| end_is "x32") => `(tactic| with_reducible refine W.cGt ?_)
local macro_rules | `(tactic| end_is "x33") => `(tactic| with_reducible refine W.cInt ?_)
local macro_rules | `(tactic| end_is "x34") => `(tactic| with_reducible refine W.cLe ?_)
local macro_rules | `(tactic| end_is "x35") => `(tactic| with_reducible refine W.cLt ?_)
local macro_rules | `(tactic| end_is "x36") => `(tactic| with_reducible refine W.cNeI ?_)
local macro_rules | `(tactic| end_is "x37") => `(tactic| with_reducible refine W.cNone ?_)
local macro_rules | `(tactic| end_is "x38") => `(tactic| with_reducible refine W.cStr (by decide +kernel) ?_)
local macro_rules | `(tactic| end_is "x39") => `(tactic| with_reducible refine W.callN (by decide +kernel) (by decide +kernel) ?_)
local macro_rules | `(tactic| end_is "x40") => `(tactic| with_reducible refine W.cc1 (by decide +kernel) ?_)
local macro_rules | `(tactic| end_is "x41") => `(tactic| with_reducible refine W.cc2 ?_)
local macro_rules | `(tactic| end_is "x42") => `(tactic| with_reducible refine W.cmp ?_)
local macro_rules | `(tactic| end_is "x43") => `(tactic| with_reducible refine W.eCons (by decide +kernel) ?_)
local macro_rules | `(tactic| end_is "x44") => `(tactic| with_reducible refine W.eNil ?_)
local macro_rules | `(tactic| end_is "x45") => `(tactic| with_reducible refine W.exprS (by decide +kernel) ?_)
local macro_rules | `(tactic| end_is "x46") => `(tactic| with_reducible refine W.forS (by decide +kernel) (by decide +kernel) ?_)
local macro_rules | `(tactic| end_is "x47") => `(tactic| with_reducible refine W.fromB (by decide +kernel) ?_)
local macro_rules | `(tactic| end_is "x48") => `(tactic| with_reducible refine W.gBarr (by k_extra "lt") (by k_extra "ob2") (by k_extra "ln") (by k_extra "it") ?_)
local macro_rules | `(tactic| end_is "x49") => `(tactic| with_reducible refine W.gBytesI (by k_extra "ln") (by k_extra "it") ?_)
local macro_rules | `(tactic| end_is "x50") => `(tactic| with_reducible refine W.gBytesS (by k_extra "lt") (by k_extra "ob2") (by k_extra "it") (by k_extra "ln") ?_)
local macro_rules | `(tactic| end_is "x51") => `(tactic| with_reducible refine W.gDict (by k_extra "lt") (by k_extra "ob2") (by decide +kernel) (by k_extra "lk") ?_)
local macro_rules | `(tactic| end_is "x52") => `(tactic| with_reducible refine W.gListI (by k_extra "lt") (by k_extra "ob2") (by k_extra "ln") (by k_extra "it") ?_)
local macro_rules | `(tactic| end_is "x53") => `(tactic| with_reducible refine W.gListS (by k_extra "lt") (by k_extra "ob2") (by k_extra "lt") (by k_extra "ob2") (by k_extra "ln") (by k_extra "it") (by k_extra "ln") ?_)
local macro_rules | `(tactic| end_is "x54") => `(tactic| with_reducible refine W.gmA (by k_extra "lt") (by k_extra "ob2") (by decide +kernel) ?_)
local macro_rules | `(tactic| end_is "x55") => `(tactic| with_reducible refine W.gmC (by decide +kernel) (by k_extra "mc") ?_)
local macro_rules | `(tactic| end_is "x56") => `(tactic| with_reducible refine W.gmI (by decide +kernel) (by k_extra "lt") (by k_extra "ob2") (by kernel_rfl) (by k_extra "lk") (by k_extra "me") ?_)
local macro_rules | `(tactic| end_is "x57") => `(tactic| with_reducible refine W.gmS (by decide +kernel) (by k_extra "lt") (by k_extra "ob2") (by kernel_rfl) (by k_extra "lk") (by k_extra "mn") (by k_extra "ms") ?_)
local macro_rules | `(tactic| end_is "x58") => `(tactic| with_reducible refine W.gmT (by decide +kernel) ?_)
local macro_rules | `(tactic| end_is "x59") => `(tactic| with_reducible refine W.iAdd ?_)
local macro_rules | `(tactic| end_is "x60") => `(tactic| with_reducible refine W.iAndE (by k_extra "mk") ?_)
local macro_rules | `(tactic| end_is "x61") => `(tactic| with_reducible refine W.iDivE (by decide +kernel) (fdivE (by decide +kernel)) ?_)
local macro_rules | `(tactic| end_is "x62") => `(tactic| with_reducible refine W.iModE (by decide +kernel) (fmodE (by decide +kernel)) ?_)
local macro_rules | `(tactic| end_is "x63") => `(tactic| with_reducible refine W.iMul (by k_extra "omh") (by k_extra "omh") ?_)
local macro_rules | `(tactic| end_is "x64") => `(tactic| with_reducible refine W.iOrE (by k_extra "orr") ?_)
local macro_rules | `(tactic| end_is "x65") => `(tactic| with_reducible refine W.iShlE (by decide +kernel) (by k_extra "omh") (by k_extra "shl") ?_)
local macro_rules | `(tactic| end_is "x66") => `(tactic| with_reducible refine W.iShrE (by decide +kernel) (by k_extra "shr") ?_)
local macro_rules | `(tactic| end_is "x67") => `(tactic| with_reducible refine W.iSub ?_)
local macro_rules | `(tactic| end_is "x68") => `(tactic| with_reducible refine W.ifCons ?_)
local macro_rules | `(tactic| end_is "x69") => `(tactic| with_reducible refine W.ifS ?_)
local macro_rules | `(tactic| end_is "x70") => `(tactic| with_reducible refine W.int1 ?_)
local macro_rules | `(tactic| end_is "x71") => `(tactic| with_reducible refine W.ipB ?_)
local macro_rules | `(tactic| end_is "x72") => `(tactic| with_reducible refine W.ipLE (by k_extra "lt") (by k_extra "ob2") (by k_extra "lt") (by k_extra "ob2") (by k_extra "ap") (by k_extra "ln") (by omega) ?_)
local macro_rules | `(tactic| end_is "x73") => `(tactic| with_reducible refine W.isI rfl ?_)
local macro_rules | `(tactic| end_is "x74") => `(tactic| with_reducible refine W.kCons ?_)
local macro_rules | `(tactic| end_is "x75") => `(tactic| with_reducible refine W.kNil ?_)
local macro_rules | `(tactic| end_is "x76") => `(tactic| with_reducible refine W.lAddE (by k_extra "lt") (by k_extra "ob2") (by k_extra "lt") (by k_extra "ob2") (by k_extra "ap") (by k_extra "ln") ?_)
local macro_rules | `(tactic| end_is "x77") => `(tactic| with_reducible refine W.lCons ?_)
local macro_rules | `(tactic| end_is "x78") => `(tactic| with_reducible refine W.len2 (by k_extra "lt") (by k_extra "ob2") (by k_extra "ln") ?_)
local macro_rules | `(tactic| end_is "x79") => `(tactic| with_reducible refine W.list ?_)
local macro_rules | `(tactic| end_is "x80") => `(tactic| with_reducible refine W.loopL (by k_extra "hdt") (by k_extra "hdt") (by k_extra "lt") (by k_extra "ob2") ?_)
local macro_rules | `(tactic| end_is "x81") => `(tactic| with_reducible refine W.meth (by decide +kernel) (by decide +kernel) ?_)
local macro_rules | `(tactic| end_is "x82") => `(tactic| with_reducible refine W.mkList (by k_extra "ln") ?_)
local macro_rules | `(tactic| end_is "x83") => `(tactic| with_reducible refine W.mkTup (by k_extra "ln") ?_)
local macro_rules | `(tactic| end_is "x84") => `(tactic| with_reducible refine W.nAssign (by decide +kernel) (by decide +kernel) ?_)
local macro_rules | `(tactic| end_is "x85") => `(tactic| with_reducible refine W.nCons ?_)
local macro_rules | `(tactic| end_is "x86") => `(tactic| with_reducible refine W.nNil ?_)
local macro_rules | `(tactic| end_is "x87") => `(tactic| with_reducible refine W.nPlain (by decide +kernel) ?_)
local macro_rules | `(tactic| end_is "x88") => `(tactic| with_reducible refine W.nameEg (by decide +kernel) (by decide +kernel) (by k_extra "lk") (by k_extra "gv") ?_)
local macro_rules | `(tactic| end_is "x89") => `(tactic| with_reducible refine W.nameV (by decide +kernel) (by k_extra "lk") ?_)
local macro_rules | `(tactic| end_is "x90") => `(tactic| with_reducible refine W.nm (by decide +kernel) (by decide +kernel) (by k_extra "lk") ?_)
local macro_rules | `(tactic| end_is "x91") => `(tactic| with_reducible refine W.onSome ?_)
local macro_rules | `(tactic| end_is "x92") => `(tactic| with_reducible refine W.orC ?_)
local macro_rules | `(tactic| end_is "x93") => `(tactic| with_reducible refine W.putF ?_)
local macro_rules | `(tactic| end_is "x94") => `(tactic| with_reducible refine W.retE ?_)
local macro_rules | `(tactic| end_is "x95") => `(tactic| with_reducible refine W.sCons ?_)
local macro_rules | `(tactic| end_is "x96") => `(tactic| with_reducible refine W.sNil ?_)
local macro_rules | `(tactic| end_is "x97") => `(tactic| with_reducible refine W.setLoc (by decide +kernel) (by k_extra "lk") (by k_extra "so") (by k_extra "pt") ?_)
local macro_rules | `(tactic| end_is "x98") => `(tactic| with_reducible refine W.slG (by k_extra "gv") ?_)
local macro_rules | `(tactic| end_is "x99") => `(tactic| with_reducible refine W.slV ?_)
local macro_rules | `(tactic| end_is "x100") => `(tactic| with_reducible refine W.slice ?_)
local macro_rules | `(tactic| end_is "x101") => `(tactic| with_reducible refine W.sub ?_)
local macro_rules | `(tactic| end_is "x102") => `(tactic| with_reducible refine W.tBool ?_)
local macro_rules | `(tactic| end_is "x103") => `(tactic| with_reducible refine W.tCmp ?_)
local macro_rules | `(tactic| end_is "x104") => `(tactic| with_reducible refine W.tNot ?_)
local macro_rules | `(tactic| end_is "x105") => `(tactic| with_reducible refine W.tVal (by decide +kernel) ?_)
local macro_rules | `(tactic| end_is "x106") => `(tactic| with_reducible refine W.tc1 (by decide +kernel) ?_)
local macro_rules | `(tactic| end_is "x107") => `(tactic| with_reducible refine W.tc2 ?_)
local macro_rules | `(tactic| end_is "x108") => `(tactic| with_reducible refine W.toB (by omega) (by k_extra "tb") ?_)
local macro_rules | `(tactic| end_is "x109") => `(tactic| with_reducible refine W.truthB ?_)
local macro_rules | `(tactic| end_is "x110") => `(tactic| with_reducible refine W.try_ (by k_extra "hdt") (by k_extra "hdt") ?_)
local macro_rules | `(tactic| end_is "x111") => `(tactic| with_reducible refine W.unpL (by k_extra "hdt") (by k_extra "lt") (by k_extra "ob2") (by k_extra "lq") ?_)
local macro_rules | `(tactic| end_is "x112") => `(tactic| with_reducible refine W.unpT (by k_extra "hdt") (by k_extra "lt") (by k_extra "ob2") (by k_extra "lq") ?_)
local macro_rules | `(tactic| end_is "x113") => `(tactic| with_reducible refine W.wInst (by decide +kernel) (by k_extra "lt") (by k_extra "ob2") (by kernel_rfl) (by k_extra "ln") (by k_extra "pt") ?_)
local macro_rules | `(tactic| end_is "x114") => `(tactic| with_reducible refine W.xCons ?_)
local macro_rules | `(tactic| end_is "x115") => `(tactic| with_reducible refine W.xNil ?_)
local macro_rules | `(tactic| end_is "x116") => `(tactic| with_reducible refine ⟨(Eq.refl (V.type _)), ?_⟩)
local macro_rules | `(tactic| end_is "x117") => `(tactic| with_reducible refine ⟨(by k_extra "gd" : _ = true), ?_⟩)
local macro_rules | `(tactic| end_is "x118") => `(tactic| with_reducible refine ⟨(by k_extra "ln" : _ ≤ 16777216), ?_⟩)
local macro_rules | `(tactic| end_is "x119") => `(tactic| with_reducible refine ⟨(by kernel_rfl : calleeOk _ _ = true), ?_⟩)
local macro_rules | `(tactic| end_is "x120") => `(tactic| with_reducible refine ⟨_, rfl, by k_extra "ln", ?_⟩)
local macro_rules | `(tactic| end_is "x121") => `(tactic| with_reducible refine ⟨flV_next, ?_⟩)
local macro_rules | `(tactic| end_is "y0") => `(tactic| (end_is "x90"; end_is "x99"))
local macro_rules | `(tactic| end_is "y1") => `(tactic| (end_is "x15"; end_is "x15"))
local macro_rules | `(tactic| end_is "y2") => `(tactic| (end_is "x2"; end_is "x114"))
local macro_rules | `(tactic| end_is "y3") => `(tactic| (end_is "y1"; end_is "y1"))
local macro_rules | `(tactic| end_is "y4") => `(tactic| (end_is "x44"; end_is "x75"))
local macro_rules | `(tactic| end_is "y5") => `(tactic| (end_is "y0"; end_is "x113"))
local macro_rules | `(tactic| end_is "y6") => `(tactic| (end_is "x119"; end_is "x43"))
local macro_rules | `(tactic| end_is "y7") => `(tactic| (end_is "x90"; end_is "x98"))
local macro_rules | `(tactic| end_is "y8") => `(tactic| (end_is "y2"; end_is "x23"))
local macro_rules | `(tactic| end_is "y9") => `(tactic| (end_is "y0"; end_is "x33"))
local macro_rules | `(tactic| end_is "y10") => `(tactic| (end_is "x109"; end_is "x5"))
local macro_rules | `(tactic| end_is "y11") => `(tactic| (end_is "y5"; end_is "y8"))
local macro_rules | `(tactic| end_is "y12") => `(tactic| (end_is "x9"; end_is "x13"))
local macro_rules | `(tactic| end_is "y13") => `(tactic| (end_is "x39"; end_is "y7"))
local macro_rules | `(tactic| end_is "y14") => `(tactic| (end_is "y13"; end_is "y6"))
local macro_rules | `(tactic| end_is "y15") => `(tactic| (end_is "x25"; end_is "y0"))
local macro_rules | `(tactic| end_is "y16") => `(tactic| (end_is "y15"; end_is "x17"))
local macro_rules | `(tactic| end_is "y17") => `(tactic| (end_is "x28"; end_is "y9"))
local macro_rules | `(tactic| end_is "y18") => `(tactic| (end_is "x43"; end_is "x33"))
local macro_rules | `(tactic| end_is "y19") => `(tactic| (end_is "y0"; end_is "y4"))
local macro_rules | `(tactic| end_is "y20") => `(tactic| (end_is "x2"; end_is "x115"))
local macro_rules | `(tactic| end_is "y21") => `(tactic| (end_is "y3"; end_is "y3"))
local macro_rules | `(tactic| end_is "y22") => `(tactic| (end_is "x44"; end_is "x82"))
local macro_rules | `(tactic| end_is "y23") => `(tactic| (end_is "y0"; end_is "y11"))
local macro_rules | `(tactic| end_is "y24") => `(tactic| (end_is "y0"; end_is "x43"))
local macro_rules | `(tactic| end_is "y25") => `(tactic| (end_is "x81"; end_is "y0"))
local macro_rules | `(tactic| end_is "y26") => `(tactic| (end_is "x43"; end_is "x38"))
local macro_rules | `(tactic| end_is "y27") => `(tactic| (end_is "y4"; end_is "x1"))
local macro_rules | `(tactic| end_is "y28") => `(tactic| (end_is "x115"; end_is "y2"))
local macro_rules | `(tactic| end_is "y29") => `(tactic| (end_is "y14"; end_is "y19"))
local macro_rules | `(tactic| end_is "y30") => `(tactic| (end_is "x85"; end_is "x87"))
local macro_rules | `(tactic| end_is "y31") => `(tactic| (end_is "x114"; end_is "x24"))
local macro_rules | `(tactic| end_is "y32") => `(tactic| (end_is "x79"; end_is "x43"))
local macro_rules | `(tactic| end_is "y33") => `(tactic| (end_is "x106"; end_is "x33"))
local macro_rules | `(tactic| end_is "y34") => `(tactic| (end_is "y26"; end_is "x44"))
local macro_rules | `(tactic| end_is "y35") => `(tactic| (end_is "x101"; end_is "y9"))
local macro_rules | `(tactic| end_is "y36") => `(tactic| (end_is "x97"; end_is "y2"))
local macro_rules | `(tactic| end_is "y37") => `(tactic| (end_is "y17"; end_is "x62"))
local macro_rules | `(tactic| end_is "y38") => `(tactic| (end_is "x88"; end_is "x116"))
local macro_rules | `(tactic| end_is "y39") => `(tactic| (end_is "x97"; end_is "y20"))
local macro_rules | `(tactic| end_is "y40") => `(tactic| (end_is "x8"; end_is "x8"))
local macro_rules | `(tactic| end_is "y41") => `(tactic| (end_is "y18"; end_is "y18"))
local macro_rules | `(tactic| end_is "y42") => `(tactic| (end_is "x103"; end_is "y0"))
local macro_rules | `(tactic| end_is "y43") => `(tactic| (end_is "x28"; end_is "x28"))
local macro_rules | `(tactic| end_is "y44") => `(tactic| (end_is "y17"; end_is "x61"))
local macro_rules | `(tactic| end_is "y45") => `(tactic| (end_is "y35"; end_is "x52"))
local macro_rules | `(tactic| end_is "y46") => `(tactic| (end_is "x34"; end_is "y10"))
local macro_rules | `(tactic| end_is "y47") => `(tactic| (end_is "y12"; end_is "x9"))
local macro_rules | `(tactic| end_is "y48") => `(tactic| (end_is "y25"; end_is "x56"))
local macro_rules | `(tactic| end_is "y49") => `(tactic| (end_is "x101"; end_is "y0"))
local macro_rules | `(tactic| end_is "y50") => `(tactic| (end_is "y38"; end_is "y34"))
local macro_rules | `(tactic| end_is "y51") => `(tactic| (end_is "y50"; end_is "x118"))
local macro_rules | `(tactic| end_is "y52") => `(tactic| (end_is "x11"; end_is "y12"))
local macro_rules | `(tactic| end_is "y53") => `(tactic| (end_is "x2"; end_is "x117"))
local macro_rules | `(tactic| end_is "y54") => `(tactic| (end_is "y14"; end_is "y24"))
local macro_rules | `(tactic| end_is "y55") => `(tactic| (end_is "x77"; end_is "x97"))
local macro_rules | `(tactic| end_is "y56") => `(tactic| (end_is "y5"; end_is "y20"))
local macro_rules | `(tactic| end_is "y57") => `(tactic| (end_is "y16"; end_is "x43"))
local macro_rules | `(tactic| end_is "y58") => `(tactic| (end_is "y29"; end_is "x70"))
local macro_rules | `(tactic| end_is "y59") => `(tactic| (end_is "x119"; end_is "y27"))
local macro_rules | `(tactic| end_is "y60") => `(tactic| (end_is "x5"; end_is "x114"))
local macro_rules | `(tactic| end_is "y61") => `(tactic| (end_is "x26"; end_is "x89"))
local macro_rules | `(tactic| end_is "y62") => `(tactic| (end_is "x2"; end_is "y30"))
local macro_rules | `(tactic| end_is "y63") => `(tactic| (end_is "y3"; end_is "y1"))
local macro_rules | `(tactic| end_is "y64") => `(tactic| (end_is "y16"; end_is "y11"))
local macro_rules | `(tactic| end_is "y65") => `(tactic| (end_is "x28"; end_is "y0"))
local macro_rules | `(tactic| end_is "y66") => `(tactic| (end_is "y53"; end_is "y55"))
local macro_rules | `(tactic| end_is "y67") => `(tactic| (end_is "x95"; end_is "x97"))
local macro_rules | `(tactic| end_is "y68") => `(tactic| (end_is "y3"; end_is "x15"))
local macro_rules | `(tactic| end_is "y69") => `(tactic| (end_is "x69"; end_is "y42"))
local macro_rules | `(tactic| end_is "y70") => `(tactic| (end_is "y6"; end_is "y19"))
local macro_rules | `(tactic| end_is "y71") => `(tactic| (end_is "y58"; end_is "y11"))
local macro_rules | `(tactic| end_is "y72") => `(tactic| (end_is "y48"; end_is "y59"))
local macro_rules | `(tactic| end_is "y73") => `(tactic| (end_is "y56"; end_is "x121"))
local macro_rules | `(tactic| end_is "y74") => `(tactic| (end_is "x28"; end_is "x33"))
local macro_rules | `(tactic| end_is "y75") => `(tactic| (end_is "x20"; end_is "x103"))
local macro_rules | `(tactic| end_is "y76") => `(tactic| (end_is "y0"; end_is "y46"))
local macro_rules | `(tactic| end_is "y77") => `(tactic| (end_is "y69"; end_is "x106"))
local macro_rules | `(tactic| end_is "y78") => `(tactic| (end_is "y70"; end_is "x1"))
local macro_rules | `(tactic| end_is "y79") => `(tactic| (end_is "x32"; end_is "y10"))
local macro_rules | `(tactic| end_is "y80") => `(tactic| (end_is "y18"; end_is "y22"))
local macro_rules | `(tactic| end_is "y81") => `(tactic| (end_is "y49"; end_is "x38"))
local macro_rules | `(tactic| end_is "y82") => `(tactic| (end_is "y81"; end_is "x51"))
local macro_rules | `(tactic| end_is "y83") => `(tactic| (end_is "y23"; end_is "y23"))
local macro_rules | `(tactic| end_is "y84") => `(tactic| (end_is "x114"; end_is "x94"))
local macro_rules | `(tactic| end_is "y85") => `(tactic| (end_is "y47"; end_is "x9"))
local macro_rules | `(tactic| end_is "y86") => `(tactic| (end_is "x114"; end_is "y61"))
local macro_rules | `(tactic| end_is "y87") => `(tactic| (end_is "y39"; end_is "y66"))
local macro_rules | `(tactic| end_is "y88") => `(tactic| (end_is "x5"; end_is "y28"))
local macro_rules | `(tactic| end_is "y89") => `(tactic| (end_is "y54"; end_is "y24"))
local macro_rules | `(tactic| end_is "y90") => `(tactic| (end_is "y89"; end_is "y19"))
local macro_rules | `(tactic| end_is "y91") => `(tactic| (end_is "x15"; end_is "x97"))
local macro_rules | `(tactic| end_is "y92") => `(tactic| (end_is "x104"; end_is "x105"))
local macro_rules | `(tactic| end_is "y93") => `(tactic| (end_is "x10"; end_is "x10"))
local macro_rules | `(tactic| end_is "y94") => `(tactic| (end_is "x69"; end_is "x102"))
local macro_rules | `(tactic| end_is "y95") => `(tactic| (end_is "y33"; end_is "x31"))
local macro_rules | `(tactic| end_is "y96") => `(tactic| (end_is "y95"; end_is "y10"))
local macro_rules | `(tactic| end_is "y97") => `(tactic| (end_is "x14"; end_is "y63"))
local macro_rules | `(tactic| end_is "y98") => `(tactic| (end_is "y36"; end_is "x24"))
local macro_rules | `(tactic| end_is "y99") => `(tactic| (end_is "y21"; end_is "y21"))
local macro_rules | `(tactic| end_is "y100") => `(tactic| (end_is "y49"; end_is "x100"))
local macro_rules | `(tactic| end_is "y101") => `(tactic| (end_is "x12"; end_is "y12"))
local macro_rules | `(tactic| end_is "y102") => `(tactic| (end_is "x6"; end_is "y12"))
local macro_rules | `(tactic| end_is "y103") => `(tactic| (end_is "x74"; end_is "y82"))
local macro_rules | `(tactic| end_is "y104") => `(tactic| (end_is "y8"; end_is "y83"))
local macro_rules | `(tactic| end_is "y105") => `(tactic| (end_is "y47"; end_is "x10"))
local macro_rules | `(tactic| end_is "y106") => `(tactic| (end_is "y77"; end_is "y0"))
local macro_rules | `(tactic| end_is "y107") => `(tactic| (end_is "y90"; end_is "y97"))
local macro_rules | `(tactic| end_is "y108") => `(tactic| (end_is "x33"; end_is "x65"))
local macro_rules | `(tactic| end_is "y109") => `(tactic| (end_is "x33"; end_is "x62"))
local macro_rules | `(tactic| end_is "y110") => `(tactic| (end_is "x19"; end_is "x50"))
local macro_rules | `(tactic| end_is "y111") => `(tactic| (end_is "y7"; end_is "x116"))
local macro_rules | `(tactic| end_is "y112") => `(tactic| (end_is "y17"; end_is "x59"))
local macro_rules | `(tactic| end_is "y113") => `(tactic| (end_is "x71"; end_is "x27"))
local macro_rules | `(tactic| end_is "y114") => `(tactic| (end_is "y41"; end_is "y80"))
local macro_rules | `(tactic| end_is "y115") => `(tactic| (end_is "y37"; end_is "x43"))
local macro_rules | `(tactic| end_is "y116") => `(tactic| (end_is "x43"; end_is "y45"))
local macro_rules | `(tactic| end_is "y117") => `(tactic| (end_is "y75"; end_is "x33"))
local macro_rules | `(tactic| end_is "y118") => `(tactic| (end_is "x92"; end_is "x103"))
local macro_rules | `(tactic| end_is "y119") => `(tactic| (end_is "y39"; end_is "y2"))
local macro_rules | `(tactic| end_is "y120") => `(tactic| (end_is "y106"; end_is "y79"))
local macro_rules | `(tactic| end_is "y121") => `(tactic| (end_is "y120"; end_is "x114"))
local macro_rules | `(tactic| end_is "y122") => `(tactic| (end_is "y52"; end_is "y28"))
local macro_rules | `(tactic| end_is "y123") => `(tactic| (end_is "y122"; end_is "x24"))
local macro_rules | `(tactic| end_is "y124") => `(tactic| (end_is "y123"; end_is "y107"))
local macro_rules | `(tactic| end_is "y125") => `(tactic| (end_is "y124"; end_is "y91"))
local macro_rules | `(tactic| end_is "y126") => `(tactic| (end_is "y125"; end_is "y104"))
local macro_rules | `(tactic| end_is "y127") => `(tactic| (end_is "y126"; end_is "y23"))
local macro_rules | `(tactic| end_is "y128") => `(tactic| (end_is "y127"; end_is "y64"))
local macro_rules | `(tactic| end_is "y129") => `(tactic| (end_is "y128"; end_is "y64"))
local macro_rules | `(tactic| end_is "y130") => `(tactic| (end_is "y129"; end_is "y16"))
local macro_rules | `(tactic| end_is "y131") => `(tactic| (end_is "y130"; end_is "y73"))
local macro_rules | `(tactic| end_is "y132") => `(tactic| (end_is "x0"; end_is "y105"))
local macro_rules | `(tactic| end_is "y133") => `(tactic| (end_is "y132"; end_is "y68"))
local macro_rules | `(tactic| end_is "y134") => `(tactic| (end_is "x3"; end_is "y12"))
local macro_rules | `(tactic| end_is "y135") => `(tactic| (end_is "y31"; end_is "y65"))
local macro_rules | `(tactic| end_is "y136") => `(tactic| (end_is "x114"; end_is "x23"))
local macro_rules | `(tactic| end_is "y137") => `(tactic| (end_is "y100"; end_is "x91"))
local macro_rules | `(tactic| end_is "y138") => `(tactic| (end_is "x28"; end_is "y44"))
local macro_rules | `(tactic| end_is "y139") => `(tactic| (end_is "y138"; end_is "y109"))
local macro_rules | `(tactic| end_is "y140") => `(tactic| (end_is "y32"; end_is "y115"))
local macro_rules | `(tactic| end_is "y141") => `(tactic| (end_is "y33"; end_is "y46"))
local macro_rules | `(tactic| end_is "y142") => `(tactic| (end_is "x33"; end_is "x63"))
local macro_rules | `(tactic| end_is "y143") => `(tactic| (end_is "y7"; end_is "y4"))
local macro_rules | `(tactic| end_is "y144") => `(tactic| (end_is "y111"; end_is "x43"))
local macro_rules | `(tactic| end_is "y145") => `(tactic| (end_is "y22"; end_is "x72"))
local macro_rules | `(tactic| end_is "y146") => `(tactic| (end_is "y6"; end_is "x33"))
local macro_rules | `(tactic| end_is "y147") => `(tactic| (end_is "y67"; end_is "y67"))
local macro_rules | `(tactic| end_is "y148") => `(tactic| (end_is "x59"; end_is "x43"))
local macro_rules | `(tactic| end_is "y149") => `(tactic| (end_is "y40"; end_is "y40"))
local macro_rules | `(tactic| end_is "y150") => `(tactic| (end_is "y135"; end_is "y140"))
local macro_rules | `(tactic| end_is "y151") => `(tactic| (end_is "y150"; end_is "y44"))
local macro_rules | `(tactic| end_is "y152") => `(tactic| (end_is "y151"; end_is "y22"))
local macro_rules | `(tactic| end_is "y153") => `(tactic| (end_is "y152"; end_is "x76"))
local macro_rules | `(tactic| end_is "y154") => `(tactic| (end_is "y117"; end_is "x107"))
local macro_rules | `(tactic| end_is "y155") => `(tactic| (end_is "y94"; end_is "x20"))
local macro_rules | `(tactic| end_is "y156") => `(tactic| (end_is "x33"; end_is "x67"))
local macro_rules | `(tactic| end_is "y157") => `(tactic| (end_is "y43"; end_is "x33"))
local macro_rules | `(tactic| end_is "y158") => `(tactic| (end_is "x9"; end_is "x9"))
local macro_rules | `(tactic| end_is "y159") => `(tactic| (end_is "y57"; end_is "y57"))
local macro_rules | `(tactic| end_is "y160") => `(tactic| (end_is "y92"; end_is "y54"))
local macro_rules | `(tactic| end_is "y161") => `(tactic| (end_is "y160"; end_is "y143"))
local macro_rules | `(tactic| end_is "y162") => `(tactic| (end_is "y71"; end_is "y71"))
local macro_rules | `(tactic| end_is "y163") => `(tactic| (end_is "x45"; end_is "y48"))
local macro_rules | `(tactic| end_is "y164") => `(tactic| (end_is "y10"; end_is "x4"))
local macro_rules | `(tactic| end_is "y165") => `(tactic| (end_is "y32"; end_is "x47"))
local macro_rules | `(tactic| end_is "y166") => `(tactic| (end_is "y165"; end_is "y144"))
local macro_rules | `(tactic| end_is "y167") => `(tactic| (end_is "y166"; end_is "y137"))
local macro_rules | `(tactic| end_is "y168") => `(tactic| (end_is "y0"; end_is "x91"))
local macro_rules | `(tactic| end_is "y169") => `(tactic| (end_is "y168"; end_is "y112"))
local macro_rules | `(tactic| end_is "y170") => `(tactic| (end_is "y110"; end_is "y34"))
local macro_rules | `(tactic| end_is "y171") => `(tactic| (end_is "y170"; end_is "x120"))
local macro_rules | `(tactic| end_is "y172") => `(tactic| (end_is "y171"; end_is "y145"))
local macro_rules | `(tactic| end_is "y173") => `(tactic| (end_is "x58"; end_is "y146"))
local macro_rules | `(tactic| end_is "y174") => `(tactic| (end_is "y173"; end_is "y26"))
local macro_rules | `(tactic| end_is "y175") => `(tactic| (end_is "y174"; end_is "y27"))
local macro_rules | `(tactic| end_is "y176") => `(tactic| (end_is "y175"; end_is "x108"))
local macro_rules | `(tactic| end_is "y177") => `(tactic| (end_is "y176"; end_is "y113"))
local macro_rules | `(tactic| end_is "y178") => `(tactic| (end_is "y177"; end_is "x97"))
local macro_rules | `(tactic| end_is "y179") => `(tactic| (end_is "x79"; end_is "y114"))
local macro_rules | `(tactic| end_is "y180") => `(tactic| (end_is "x115"; end_is "y62"))
local macro_rules | `(tactic| end_is "y181") => `(tactic| (end_is "y153"; end_is "y87"))
local macro_rules | `(tactic| end_is "y182") => `(tactic| (end_is "x117"; end_is "x7"))
local macro_rules | `(tactic| end_is "y183") => `(tactic| (end_is "x114"; end_is "x69"))
local macro_rules | `(tactic| end_is "y184") => `(tactic| (end_is "y154"; end_is "y76"))
local macro_rules | `(tactic| end_is "y185") => `(tactic| (end_is "y184"; end_is "y141"))
local macro_rules | `(tactic| end_is "y186") => `(tactic| (end_is "x21"; end_is "x5"))
local macro_rules | `(tactic| end_is "y187") => `(tactic| (end_is "y52"; end_is "x5"))
local macro_rules | `(tactic| end_is "y188") => `(tactic| (end_is "y187"; end_is "y60"))
local macro_rules | `(tactic| end_is "y189") => `(tactic| (end_is "y41"; end_is "y41"))
local macro_rules | `(tactic| end_is "y190") => `(tactic| (end_is "y85"; end_is "x0"))
local macro_rules | `(tactic| end_is "y191") => `(tactic| (end_is "y86"; end_is "y167"))
local macro_rules | `(tactic| end_is "y192") => `(tactic| (end_is "y191"; end_is "y169"))
local macro_rules | `(tactic| end_is "y193") => `(tactic| (end_is "y192"; end_is "y172"))
local macro_rules | `(tactic| end_is "y194") => `(tactic| (end_is "y86"; end_is "y25"))
local macro_rules | `(tactic| end_is "y195") => `(tactic| (end_is "y194"; end_is "y178"))
local macro_rules | `(tactic| end_is "y196") => `(tactic| (end_is "y195"; end_is "x115"))
local macro_rules | `(tactic| end_is "y197") => `(tactic| (end_is "x74"; end_is "y0"))
local macro_rules | `(tactic| end_is "y198") => `(tactic| (end_is "y42"; end_is "y33"))
local macro_rules | `(tactic| end_is "y199") => `(tactic| (end_is "x35"; end_is "y10"))
local macro_rules | `(tactic| end_is "y200") => `(tactic| (end_is "x42"; end_is "x33"))
local macro_rules | `(tactic| end_is "y201") => `(tactic| (end_is "y200"; end_is "x41"))
local macro_rules | `(tactic| end_is "y202") => `(tactic| (end_is "y201"; end_is "y76"))
local macro_rules | `(tactic| end_is "y203") => `(tactic| (end_is "y202"; end_is "x40"))
local macro_rules | `(tactic| end_is "y204") => `(tactic| (end_is "y203"; end_is "x33"))
local macro_rules | `(tactic| end_is "y205") => `(tactic| (end_is "y101"; end_is "x2"))
local macro_rules | `(tactic| end_is "y206") => `(tactic| (end_is "y161"; end_is "x73"))
local macro_rules | `(tactic| end_is "y207") => `(tactic| (end_is "y206"; end_is "y10"))
local macro_rules | `(tactic| end_is "y208") => `(tactic| (end_is "x97"; end_is "y62"))
local macro_rules | `(tactic| end_is "y209") => `(tactic| (end_is "x45"; end_is "y25"))
local macro_rules | `(tactic| end_is "y210") => `(tactic| (end_is "y209"; end_is "x54"))
local macro_rules | `(tactic| end_is "y211") => `(tactic| (end_is "y149"; end_is "y40"))
variable {P : Params} {n k m : Nat} {f : Nat → O} {l : List (Nat × Slot)} {md : Mode} {E : V → St → Prop}
def dim (m : Int) : Int := if m = 2 then 28 else if m = 4 ∨ m = 6 ∨ m = 9 ∨ m = 11 then 30 else 31
def mlen (y m : Int) : Int := if m = 2 ∧ y % 4 = 0 ∧ (y % 100 ≠ 0 ∨ y % 400 = 0) then 29 else dim m
def okDate (y m d : Int) : Prop := 1 ≤ y ∧ y ≤ 9999 ∧ 1 ≤ m ∧ m ≤ 12 ∧ 1 ≤ d ∧ d ≤ mlen y m
def okTime (h m s : Int) : Prop := 0 ≤ h ∧ h ≤ 23 ∧ 0 ≤ m ∧ m ≤ 59 ∧ 0 ≤ s ∧ s ≤ 59
instance (y m d : Int) : Decidable (okDate y m d) := by unfold okDate; exact inferInstance
instance (h m s : Int) : Decidable (okTime h m s) := by unfold okTime; exact inferInstance
theorem hdF {b : Bool} {p : Prop} (h : b = true → p) (n : ¬ p) : b = false := by
  cases b with
  | true => exact absurd (h rfl) n
  | false => rfl
theorem hdI {b : Bool} {p : Prop} (h : b = false) : b = true → p := fun e => absurd (h.symm.trans e) Bool.false_ne_true
local macro_rules | `(tactic| k_extra "ph") => `(tactic| first | (first | exact hdI (by assumption) | exact fun _ => by k_extra "okt" | exact fun h => ((by assumption : _ = true → _ ∧ _) h).2) | fail)
theorem dim_item {m : Int} (h1 : 1 ≤ m) (h2 : m ≤ 12) : itemAt [V.int 31, .int 28, .int 31, .int 30, .int 31, .int 30, .int 31, .int 31, .int 30, .int 31, .int 30, .int 31] (m - 1) = some (.int (dim m)) := by
  have : m = 1 ∨ m = 2 ∨ m = 3 ∨ m = 4 ∨ m = 5 ∨ m = 6 ∨ m = 7 ∨ m = 8 ∨ m = 9 ∨ m = 10 ∨ m = 11 ∨ m = 12 := by omega
  rcases this with h | h | h | h | h | h | h | h | h | h | h | h <;> subst h <;> rfl
local macro_rules | `(tactic| k_extra "it") => `(tactic| first | (exact dim_item (by k_extra "omh") (by k_extra "omh")) | fail)
local macro_rules | `(tactic| k_extra "okd") => `(tactic| first | (((try simp only [holdE] at *); unfold okDate mlen; split <;> omega)) | fail)
local macro_rules | `(tactic| k_extra "okt") => `(tactic| first | (((try simp only [holdE] at *); unfold okTime; omega)) | fail)
local macro_rules | `(tactic| k_extra "okn") => `(tactic| first | (((try simp only [holdE] at *); unfold okTime; omega)) | fail)
abbrev dtO (y mo d h mi s : Int) : O := .inst 104 [(nid "year", .int y), (nid "month", .int mo), (nid "day", .int d), (nid "hour", .int h), (nid "minute", .int mi), (nid "second", .int s)]
abbrev tmO (h mi s : Int) : O := .inst 38 [(nid "hour", .int h), (nid "minute", .int mi), (nid "second", .int s)]
theorem sp38 {h mi s : Int} {Q : V → St → Prop} (hmd : md.hd = true → okTime h mi s)
    (hq : okTime h mi s → ∀ f' m', m ≤ m' → Same f m f' → m < m' → f' m = tmO h mi s → Q (.ref m) ⟨f', m', l, md⟩)
    (he : ¬ okTime h mi s → ∀ f' m', m ≤ m' → Same f m f' → E (.type "ValueError") ⟨f', m', l, md⟩) :
    W ((evX (K2 P) (n + 20)).call (.old 38) [.int h, .int mi, .int s] []) ⟨f, m, l, md⟩ Q E := by
  refine W.new (nf38 P) (mk38 P) (ini38 P) (isf35 P) (fd35.2 P) (en35 P _ _ _ _) bd35.2 ?_
  unfold bd35
  dsimp only
  end_is "y183"; end_is "x104"; end_is "x102"; end_is "y185"; end_is "y185"; end_is "y185"; end_is "y186"; end_is "x115"; end_is "y104"; end_is "y0"; end_is "y73"
  (focus (((try dsimp only); (first | apply hq | with_unfolding_all apply hq)))); (focus (k_extra "okt")); end_is "y105"; end_is "y60"
  (with_reducible refine W.raise (by first | k_extra "hdt" | (refine hdF hmd ?_; k_extra "okn")) (by decide +kernel) ?_); end_is "y51"
  (focus (((try dsimp only); (first | apply he | with_unfolding_all apply he)))); end_is "y188"
  (with_reducible refine W.raise (by first | k_extra "hdt" | (refine hdF hmd ?_; k_extra "okn")) (by decide +kernel) ?_); end_is "y51"
  (focus (((try dsimp only); (first | apply he | with_unfolding_all apply he)))); end_is "y52"; end_is "y60"
  (with_reducible refine W.raise (by first | k_extra "hdt" | (refine hdF hmd ?_; k_extra "okn")) (by decide +kernel) ?_); end_is "y51"
  (focus (((try dsimp only); (first | apply he | with_unfolding_all apply he)))); end_is "y188"
  (with_reducible refine W.raise (by first | k_extra "hdt" | (refine hdF hmd ?_; k_extra "okn")) (by decide +kernel) ?_); end_is "y51"
  (focus (((try dsimp only); (first | apply he | with_unfolding_all apply he)))); end_is "y52"; end_is "y60"
  (with_reducible refine W.raise (by first | k_extra "hdt" | (refine hdF hmd ?_; k_extra "okn")) (by decide +kernel) ?_); end_is "y51"
  (focus (((try dsimp only); (first | apply he | with_unfolding_all apply he)))); end_is "y188"
  (with_reducible refine W.raise (by first | k_extra "hdt" | (refine hdF hmd ?_; k_extra "okn")) (by decide +kernel) ?_); end_is "y51"
  (focus (((try dsimp only); (first | apply he | with_unfolding_all apply he)))); end_is "y52"
local macro_rules | `(tactic| k_extra "okn") => `(tactic| first | (((try simp only [holdE] at *); unfold okDate okTime mlen; split <;> omega)) | fail)
local macro_rules | `(tactic| k_extra "spn38") => `(tactic| first | (with_reducible refine sp38 (by k_extra "ph") ?_ ?_) | fail)
theorem sp104 {y mo d h mi s : Int} {Q : V → St → Prop} (hmd : md.hd = true → okDate y mo d ∧ okTime h mi s)
    (hq : okDate y mo d → okTime h mi s → ∀ f' m', m ≤ m' → Same f m f' → m < m' → f' m = dtO y mo d h mi s → Q (.ref m) ⟨f', m', l, md⟩)
    (he : ¬ (okDate y mo d ∧ okTime h mi s) → ∀ f' m', m ≤ m' → Same f m f' → E (.type "ValueError") ⟨f', m', l, md⟩) :
    W ((evX (K2 P) (n + 40)).call (.old 104) [.int y, .int mo, .int d, .int h, .int mi, .int s] []) ⟨f, m, l, md⟩ Q E := by
  refine W.new (nf104 P) (mk104 P) (ini104 P) (isf57 P) (fd57.2 P) (en57' P _ _ _ _ _ _ _) bd57.2 ?_
  unfold bd57
  dsimp only
  end_is "y183"; end_is "x104"; end_is "x102"; end_is "y185"; end_is "y185"; end_is "y117"; end_is "x106"; end_is "y76"; end_is "x21"; end_is "y88"; end_is "x24"; end_is "x101"
  end_is "x79"; end_is "y189"; end_is "y189"; end_is "y189"; end_is "y22"; end_is "y17"; end_is "x67"; end_is "x52"; end_is "y36"; end_is "y155"; end_is "y42"; end_is "y96"
  end_is "y75"; end_is "y37"; end_is "y96"; end_is "x20"; end_is "x102"; end_is "y118"; end_is "y37"; end_is "y33"; end_is "x36"; end_is "y10"; end_is "x5"; end_is "y186"; end_is "y31"
  end_is "x33"; end_is "y119"; end_is "y121"; (with_reducible refine W.raise (by first | k_extra "hdt" | (refine hdF hmd ?_; k_extra "okn")) (by decide +kernel) ?_); end_is "y51"
  (focus (((try dsimp only); (first | apply he | with_unfolding_all apply he)))); end_is "y131"; (focus (((try dsimp only); (first | apply hq | with_unfolding_all apply hq))))
  (focus (k_extra "okd")); end_is "y133"; (focus (((try dsimp only); (first | apply he | with_unfolding_all apply he)))); end_is "y134"; end_is "y118"; end_is "y37"; end_is "y96"
  end_is "x5"; end_is "y186"; end_is "y31"; end_is "x33"; end_is "y119"; end_is "y121"
  (with_reducible refine W.raise (by first | k_extra "hdt" | (refine hdF hmd ?_; k_extra "okn")) (by decide +kernel) ?_); end_is "y51"
  (focus (((try dsimp only); (first | apply he | with_unfolding_all apply he)))); end_is "y131"; (focus (((try dsimp only); (first | apply hq | with_unfolding_all apply hq))))
  (focus (k_extra "okd")); end_is "y133"; (focus (((try dsimp only); (first | apply he | with_unfolding_all apply he)))); end_is "y134"; (with_reducible refine W.orN ?_); end_is "x5"
  end_is "y88"; end_is "y121"; (with_reducible refine W.raise (by first | k_extra "hdt" | (refine hdF hmd ?_; k_extra "okn")) (by decide +kernel) ?_); end_is "y51"
  (focus (((try dsimp only); (first | apply he | with_unfolding_all apply he)))); end_is "y131"; (focus (((try dsimp only); (first | apply hq | with_unfolding_all apply hq))))
  (focus (k_extra "okd")); end_is "y133"; (focus (((try dsimp only); (first | apply he | with_unfolding_all apply he)))); end_is "y134"; end_is "y88"; end_is "y121"
  (with_reducible refine W.raise (by first | k_extra "hdt" | (refine hdF hmd ?_; k_extra "okn")) (by decide +kernel) ?_); end_is "y51"
  (focus (((try dsimp only); (first | apply he | with_unfolding_all apply he)))); end_is "y131"; (focus (((try dsimp only); (first | apply hq | with_unfolding_all apply hq))))
  (focus (k_extra "okd")); end_is "y133"; (focus (((try dsimp only); (first | apply he | with_unfolding_all apply he)))); end_is "y134"; end_is "y88"; end_is "y121"
  (with_reducible refine W.raise (by first | k_extra "hdt" | (refine hdF hmd ?_; k_extra "okn")) (by decide +kernel) ?_); end_is "y51"
  (focus (((try dsimp only); (first | apply he | with_unfolding_all apply he)))); end_is "y131"; (focus (((try dsimp only); (first | apply hq | with_unfolding_all apply hq))))
  (focus (k_extra "okd")); end_is "y133"; (focus (((try dsimp only); (first | apply he | with_unfolding_all apply he)))); end_is "y134"; end_is "y60"
  (with_reducible refine W.raise (by first | k_extra "hdt" | (refine hdF hmd ?_; k_extra "okn")) (by decide +kernel) ?_); end_is "y51"
  (focus (((try dsimp only); (first | apply he | with_unfolding_all apply he)))); end_is "y52"; end_is "y60"
  (with_reducible refine W.raise (by first | k_extra "hdt" | (refine hdF hmd ?_; k_extra "okn")) (by decide +kernel) ?_); end_is "y51"
  (focus (((try dsimp only); (first | apply he | with_unfolding_all apply he)))); end_is "y188"
  (with_reducible refine W.raise (by first | k_extra "hdt" | (refine hdF hmd ?_; k_extra "okn")) (by decide +kernel) ?_); end_is "y51"
  (focus (((try dsimp only); (first | apply he | with_unfolding_all apply he)))); end_is "y52"; end_is "y60"
  (with_reducible refine W.raise (by first | k_extra "hdt" | (refine hdF hmd ?_; k_extra "okn")) (by decide +kernel) ?_); end_is "y51"
  (focus (((try dsimp only); (first | apply he | with_unfolding_all apply he)))); end_is "y188"
  (with_reducible refine W.raise (by first | k_extra "hdt" | (refine hdF hmd ?_; k_extra "okn")) (by decide +kernel) ?_); end_is "y51"
  (focus (((try dsimp only); (first | apply he | with_unfolding_all apply he)))); end_is "y52"
theorem sp104' {y mo d : Int} {Q : V → St → Prop} (hmd : md.hd = true → okDate y mo d ∧ okTime 0 0 0)
    (hq : okDate y mo d → okTime 0 0 0 → ∀ f' m', m ≤ m' → Same f m f' → m < m' → f' m = dtO y mo d 0 0 0 → Q (.ref m) ⟨f', m', l, md⟩)
    (he : ¬ (okDate y mo d ∧ okTime 0 0 0) → ∀ f' m', m ≤ m' → Same f m f' → E (.type "ValueError") ⟨f', m', l, md⟩) :
    W ((evX (K2 P) (n + 40)).call (.old 104) [.int y, .int mo, .int d] []) ⟨f, m, l, md⟩ Q E := by
  refine W.new (nf104 P) (mk104 P) (ini104 P) (isf57 P) (fd57.2 P) (en57 P _ _ _ _) bd57.2 ?_
  unfold bd57
  dsimp only
  end_is "y183"; end_is "x104"; end_is "x102"; end_is "y185"; end_is "y185"; end_is "y117"; end_is "x106"; end_is "y76"; end_is "x21"; end_is "y88"; end_is "x24"; end_is "x101"
  end_is "x79"; end_is "y189"; end_is "y189"; end_is "y189"; end_is "y22"; end_is "y17"; end_is "x67"; end_is "x52"; end_is "y36"; end_is "y155"; end_is "y42"; end_is "y96"
  end_is "y75"; end_is "y37"; end_is "y96"; end_is "x20"; end_is "x102"; end_is "y118"; end_is "y37"; end_is "y33"; end_is "x36"; end_is "y10"; end_is "x5"; end_is "y186"; end_is "y31"
  end_is "x33"; end_is "y119"; end_is "y121"; (with_reducible refine W.raise (by first | k_extra "hdt" | (refine hdF hmd ?_; k_extra "okn")) (by decide +kernel) ?_); end_is "y51"
  (focus (((try dsimp only); (first | apply he | with_unfolding_all apply he)))); end_is "y131"; (focus (((try dsimp only); (first | apply hq | with_unfolding_all apply hq))))
  (focus (k_extra "okd")); end_is "y133"; (focus (((try dsimp only); (first | apply he | with_unfolding_all apply he)))); end_is "y134"; end_is "y118"; end_is "y37"; end_is "y96"
  end_is "x5"; end_is "y186"; end_is "y31"; end_is "x33"; end_is "y119"; end_is "y121"
  (with_reducible refine W.raise (by first | k_extra "hdt" | (refine hdF hmd ?_; k_extra "okn")) (by decide +kernel) ?_); end_is "y51"
  (focus (((try dsimp only); (first | apply he | with_unfolding_all apply he)))); end_is "y131"; (focus (((try dsimp only); (first | apply hq | with_unfolding_all apply hq))))
  (focus (k_extra "okd")); end_is "y133"; (focus (((try dsimp only); (first | apply he | with_unfolding_all apply he)))); end_is "y134"; (with_reducible refine W.orN ?_); end_is "x5"
  end_is "y88"; end_is "y121"; (with_reducible refine W.raise (by first | k_extra "hdt" | (refine hdF hmd ?_; k_extra "okn")) (by decide +kernel) ?_); end_is "y51"
  (focus (((try dsimp only); (first | apply he | with_unfolding_all apply he)))); end_is "y131"; (focus (((try dsimp only); (first | apply hq | with_unfolding_all apply hq))))
  (focus (k_extra "okd")); end_is "y133"; (focus (((try dsimp only); (first | apply he | with_unfolding_all apply he)))); end_is "y134"; end_is "y88"; end_is "y121"
  (with_reducible refine W.raise (by first | k_extra "hdt" | (refine hdF hmd ?_; k_extra "okn")) (by decide +kernel) ?_); end_is "y51"
  (focus (((try dsimp only); (first | apply he | with_unfolding_all apply he)))); end_is "y131"; (focus (((try dsimp only); (first | apply hq | with_unfolding_all apply hq))))
  (focus (k_extra "okd")); end_is "y133"; (focus (((try dsimp only); (first | apply he | with_unfolding_all apply he)))); end_is "y134"; end_is "y88"; end_is "y121"
  (with_reducible refine W.raise (by first | k_extra "hdt" | (refine hdF hmd ?_; k_extra "okn")) (by decide +kernel) ?_); end_is "y51"
  (focus (((try dsimp only); (first | apply he | with_unfolding_all apply he)))); end_is "y131"; (focus (((try dsimp only); (first | apply hq | with_unfolding_all apply hq))))
  (focus (k_extra "okd")); end_is "y133"; (focus (((try dsimp only); (first | apply he | with_unfolding_all apply he)))); end_is "y134"; end_is "y60"
  (with_reducible refine W.raise (by first | k_extra "hdt" | (refine hdF hmd ?_; k_extra "okn")) (by decide +kernel) ?_); end_is "y51"
  (focus (((try dsimp only); (first | apply he | with_unfolding_all apply he)))); end_is "y52"; end_is "y60"
  (with_reducible refine W.raise (by first | k_extra "hdt" | (refine hdF hmd ?_; k_extra "okn")) (by decide +kernel) ?_); end_is "y51"
  (focus (((try dsimp only); (first | apply he | with_unfolding_all apply he)))); end_is "y188"
  (with_reducible refine W.raise (by first | k_extra "hdt" | (refine hdF hmd ?_; k_extra "okn")) (by decide +kernel) ?_); end_is "y51"
  (focus (((try dsimp only); (first | apply he | with_unfolding_all apply he)))); end_is "y52"; end_is "y60"
  (with_reducible refine W.raise (by first | k_extra "hdt" | (refine hdF hmd ?_; k_extra "okn")) (by decide +kernel) ?_); end_is "y51"
  (focus (((try dsimp only); (first | apply he | with_unfolding_all apply he)))); end_is "y188"
  (with_reducible refine W.raise (by first | k_extra "hdt" | (refine hdF hmd ?_; k_extra "okn")) (by decide +kernel) ?_); end_is "y51"
  (focus (((try dsimp only); (first | apply he | with_unfolding_all apply he)))); end_is "y52"
local macro_rules | `(tactic| k_extra "pg") => `(tactic| first | (first | exact hdI (by assumption) | exact fun _ => ⟨by first | assumption | k_extra "okd", by first | assumption | k_extra "okt"⟩) | fail)
local macro_rules | `(tactic| k_extra "spn104") => `(tactic| first | (with_reducible refine sp104 (by k_extra "pg") ?_ ?_) | fail)
local macro_rules | `(tactic| k_extra "spn104") => `(tactic| first | (with_reducible refine sp104' (by k_extra "pg") ?_ ?_) | fail)
theorem sp74 {i : Nat} {y mo d h mi s : Int} {Q : V → St → Prop} (hi : i < m) (hf : f i = dtO y mo d h mi s) (ha : okDate y mo d) (hy : 1980 ≤ y ∧ y ≤ 2107)
    (hq : Q (.int ((y - 1980) * 512 + mo * 32 + d)) ⟨f, m, l, md⟩) :
    W ((evX (K2 P) (n + 20)).call (.old 74) [.ref i] []) ⟨f, m, l, md⟩ Q E := by
  obtain ⟨h1, h2, h3, h4, h5, h6⟩ := ha
  have h7 : d ≤ 31 := by unfold mlen dim at h6; omega
  clear h6
  refine W.fn (fd74.2 P) (en74 P _) bd74.2 ?_
  unfold bd74
  dsimp only
  end_is "y31"; end_is "y43"; end_is "y43"; end_is "y16"; end_is "y156"; end_is "y108"; end_is "x28"; end_is "y16"; end_is "y108"; end_is "x64"; end_is "y16"; end_is "x64"
  end_is "y36"; end_is "x94"; end_is "y0"; end_is "x2"; (focus (((try dsimp only); (first | apply hq | with_unfolding_all apply hq))))
theorem sp81 {i : Nat} {y mo d h mi s : Int} {Q : V → St → Prop} (hi : i < m) (hf : f i = dtO y mo d h mi s) (ha : okTime h mi s)
    (hq : Q (.int (h * 2048 + mi * 32 + s / 2)) ⟨f, m, l, md⟩) :
    W ((evX (K2 P) (n + 20)).call (.old 81) [.ref i] []) ⟨f, m, l, md⟩ Q E := by
  obtain ⟨h1, h2, h3, h4, h5, h6⟩ := ha
  have e : (s - s % 2) / 2 = s / 2 := by omega
  rw [← e] at hq
  refine W.fn (fd81.2 P) (en81 P _) bd81.2 ?_
  unfold bd81
  dsimp only
  end_is "y31"; end_is "y43"; end_is "y16"; end_is "y108"; end_is "x28"; end_is "y16"; end_is "y108"; end_is "x64"; end_is "y36"; end_is "y61"; end_is "y43"; end_is "y16"; end_is "x28"
  end_is "y16"; end_is "y109"; end_is "x67"; end_is "x33"; end_is "x61"; (with_reducible refine W.ipI ?_); end_is "x64"; end_is "y36"; end_is "x94"; end_is "y0"; end_is "x2"
  (focus (((try dsimp only); (first | apply hq | with_unfolding_all apply hq))))
local macro_rules | `(tactic| k_extra "spn74") => `(tactic| first | (with_reducible refine sp74 (by k_extra "lt") (by k_extra "ob2") (by assumption) (by omega) ?_) | fail)
local macro_rules | `(tactic| k_extra "spn81") => `(tactic| first | (with_reducible refine sp81 (by k_extra "lt") (by k_extra "ob2") (by assumption) ?_) | fail)
def DueD (x y mo d : Int) : Prop := (okDate (x / 512 % 128 + 1980) (x / 32 % 16) (x % 32) ∧ y = x / 512 % 128 + 1980 ∧ mo = x / 32 % 16 ∧ d = x % 32) ∨ (¬ okDate (x / 512 % 128 + 1980) (x / 32 % 16) (x % 32) ∧ y = 1980 ∧ mo = 1 ∧ d = 1)
def DueT (x h mi s : Int) : Prop := (okTime (x / 2048 % 32) (x / 32 % 64) (x % 32 * 2) ∧ h = x / 2048 % 32 ∧ mi = x / 32 % 64 ∧ s = x % 32 * 2) ∨ (¬ okTime (x / 2048 % 32) (x / 32 % 64) (x % 32 * 2) ∧ h = 0 ∧ mi = 0 ∧ s = 0)
theorem ok80 : okDate 1980 1 1 := by decide
theorem ok00 : okTime 0 0 0 := by decide
theorem DueD.ok {x y mo d : Int} (h : DueD x y mo d) : okDate y mo d ∧ 1980 ≤ y ∧ y ≤ 2107 := by
  rcases h with ⟨h, rfl, rfl, rfl⟩ | ⟨_, rfl, rfl, rfl⟩
  · exact ⟨h, by omega⟩
  · exact ⟨ok80, by omega⟩
theorem DueT.ok {x h mi s : Int} (q : DueT x h mi s) : okTime h mi s := by
  rcases q with ⟨q, rfl, rfl, rfl⟩ | ⟨_, rfl, rfl, rfl⟩
  · exact q
  · exact ok00
local macro_rules | `(tactic| k_extra "pg") => `(tactic| first | (exact fun _ => ⟨ok80, ok00⟩) | fail)
local macro_rules | `(tactic| k_extra "ph") => `(tactic| first | (exact fun _ => ok00) | fail)
local macro_rules | `(tactic| k_extra "okn") => `(tactic| first | (exact fun q => absurd ⟨‹_›, ok00⟩ (by assumption)) | fail)
local macro_rules | `(tactic| k_extra "dued") => `(tactic| first | (first | assumption | exact .inl ⟨‹_›, rfl, rfl, rfl⟩ | exact .inr ⟨fun q => absurd (⟨q, ok00⟩ : _ ∧ _) ‹_›, rfl, rfl, rfl⟩) | fail)
local macro_rules | `(tactic| k_extra "duet") => `(tactic| first | (first | assumption | exact .inl ⟨‹_›, rfl, rfl, rfl⟩ | exact .inr ⟨‹_›, rfl, rfl, rfl⟩) | fail)
theorem sp88 {x : Int} {Q : V → St → Prop} (hmd : md.hd = false)
    (hq : ∀ y mo d, DueD x y mo d → ∀ f' m' r, m ≤ m' → Same f m f' → m ≤ r → r < m' → f' r = dtO y mo d 0 0 0 → Q (.ref r) ⟨f', m', l, md⟩) :
    W ((evX (K2 P) (n + 60)).call (.old 88) [.int x] []) ⟨f, m, l, md⟩ Q E := by
  refine W.fn (fd88.2 P) (en88 P _) bd88.2 ?_
  unfold bd88
  dsimp only
  end_is "y135"; end_is "y157"; end_is "y108"; end_is "y156"; end_is "x60"; end_is "y98"; end_is "x28"; end_is "y17"; end_is "x66"; end_is "y157"; end_is "y108"; end_is "y156"
  end_is "x60"; end_is "y98"; end_is "y43"; end_is "y17"; end_is "x66"; end_is "y157"; end_is "y108"; end_is "y156"; end_is "x60"; end_is "x33"; end_is "x59"; end_is "y36"
  end_is "x110"; end_is "y84"; end_is "y90"; (focus (k_extra "spn104")); end_is "y21"; end_is "x2"; (focus (((try dsimp only); (first | apply hq | with_unfolding_all apply hq))))
  (focus (k_extra "dued")); end_is "y190"; rotate_left; rotate_left; rotate_left; end_is "y68"; end_is "x116"; end_is "y38"; end_is "y84"; end_is "y14"; end_is "x33"; end_is "y41"
  end_is "y4"; (focus (k_extra "spn104")); end_is "y21"; end_is "x2"; (focus (((try dsimp only); (first | apply hq | with_unfolding_all apply hq)))); (focus (k_extra "dued"))
  end_is "x12"; end_is "x13"; end_is "y158"; end_is "x0"; rotate_left; rotate_left; rotate_left; end_is "y68"; (focus (exact absurd (And.intro ok80 ok00) (by assumption)))
  rotate_right; rotate_right; rotate_right; rotate_right; rotate_right; rotate_right
theorem sp98 {x : Int} {Q : V → St → Prop} (hmd : md.hd = false)
    (hq : ∀ h mi s, DueT x h mi s → ∀ f' m' r, m ≤ m' → Same f m f' → m ≤ r → r < m' → f' r = tmO h mi s → Q (.ref r) ⟨f', m', l, md⟩) :
    W ((evX (K2 P) (n + 60)).call (.old 98) [.int x] []) ⟨f, m, l, md⟩ Q E := by
  refine W.fn (fd98.2 P) (en98 P _) bd98.2 ?_
  unfold bd98
  dsimp only
  end_is "y31"; end_is "y43"; end_is "y0"; end_is "y157"; end_is "y108"; end_is "y156"; end_is "x60"; end_is "y142"; end_is "y98"; end_is "x28"; end_is "y17"; end_is "x66"
  end_is "y157"; end_is "y108"; end_is "y156"; end_is "x60"; end_is "y98"; end_is "x28"; end_is "y17"; end_is "x66"; end_is "y157"; end_is "y108"; end_is "y156"; end_is "x60"
  end_is "y36"; end_is "x110"; end_is "y84"; end_is "y107"; end_is "x15"; end_is "x2"; (focus (((try dsimp only); (first | apply hq | with_unfolding_all apply hq))))
  (focus (k_extra "duet")); end_is "y190"; rotate_left; rotate_left; rotate_left; end_is "y68"; end_is "x116"; end_is "y38"; end_is "y84"; end_is "y14"; end_is "x33"; end_is "y41"
  end_is "y4"; end_is "y97"; end_is "x15"; end_is "x2"; (focus (((try dsimp only); (first | apply hq | with_unfolding_all apply hq)))); (focus (k_extra "duet")); end_is "x12"
  end_is "x13"; end_is "y158"; end_is "x0"; rotate_left; rotate_left; rotate_left; end_is "y68"; (focus (exact absurd ok00 (by assumption))); rotate_right; rotate_right; rotate_right
  rotate_right; rotate_right; rotate_right
theorem sp64 {i j : Nat} {y mo d a b c h mi s : Int} {Q : V → St → Prop} (hi : i < m) (ei : f i = dtO y mo d a b c) (hj : j < m) (ej : f j = tmO h mi s) (hd : okDate y mo d) (ht : okTime h mi s)
    (hq : ∀ f' m' r, m ≤ m' → Same f m f' → m ≤ r → r < m' → f' r = dtO y mo d h mi s → Q (.ref r) ⟨f', m', l, md⟩) :
    W ((evX (K2 P) (n + 60)).call (.old 64) [.ref i, .ref j] []) ⟨f, m, l, md⟩ Q E := by
  refine W.fn (fd64.2 P) (en64 P _ _) bd64.2 ?_
  unfold bd64
  dsimp only
  end_is "y84"; end_is "y14"; end_is "y159"; end_is "y159"; end_is "y57"; end_is "y16"; end_is "y4"; (focus (k_extra "spn104")); end_is "y21"; end_is "x2"
  (focus (((try dsimp only); (first | apply hq | with_unfolding_all apply hq)))); end_is "y190"; end_is "y68"; rotate_left; rotate_right; rotate_left; rotate_right
  all_goals exact absurd (And.intro hd ht) (by assumption)
local macro_rules | `(tactic| k_extra "spn88") => `(tactic| first | (with_reducible refine sp88 (by k_extra "hdt") ?_) | fail)
local macro_rules | `(tactic| k_extra "spn98") => `(tactic| first | (with_reducible refine sp98 (by k_extra "hdt") ?_) | fail)
local macro_rules | `(tactic| k_extra "spn64") => `(tactic| first | (with_reducible refine sp64 (by k_extra "lt") (by k_extra "ob2") (by k_extra "lt") (by k_extra "ob2") (by first | assumption | exact (DueD.ok (by assumption)).1) (by first | assumption | exact DueT.ok (by assumption)) ?_) | fail)
abbrev entO (nm : V) (at_ nt te ct cd la hc wt wd lo fs : Int) (lz fv : V) (dirs : Nat) (enc : V) : O := .inst 558 [(nid "name", nm), (nid "attr", .int at_), (nid "ntres", .int nt), (nid "crttimetenth", .int te), (nid "crttime", .int ct), (nid "crtdate", .int cd), (nid "lstaccessdate", .int la), (nid "fstclushi", .int hc), (nid "wrttime", .int wt), (nid "wrtdate", .int wd), (nid "fstcluslo", .int lo), (nid "filesize", .int fs), (nid "_lazy_load", lz), (nid "_fs", fv), (nid "_parent", .none), (nid "lfn_entry", .none), (nid "_dirs", .ref dirs), (nid "_encoding", enc)]
theorem sp334 {x t : Int} {Q : V → St → Prop} (hmd : md.hd = false)
    (hq : ∀ y mo d h mi s, DueD x y mo d → DueT t h mi s → ∀ f' m' r, m ≤ m' → Same f m f' → m ≤ r → r < m' → f' r = dtO y mo d h mi s → Q (.ref r) ⟨f', m', l, md⟩) :
    W ((evX (K2 P) (n + 70)).call (.old 334) [.int x, .int t] []) ⟨f, m, l, md⟩ Q E := by
  refine W.fn (fd334.2 P) (en334 P _ _) bd334.2 ?_
  unfold bd334
  dsimp only
  end_is "y31"; end_is "x81"; end_is "y7"; end_is "x55"; end_is "y78"; (focus (k_extra "spn88")); end_is "y21"; end_is "y3"; end_is "x97"; end_is "y84"; end_is "y25"; end_is "x57"
  end_is "y6"; end_is "y24"; end_is "x81"; end_is "y7"; end_is "x55"; end_is "y78"; (focus (k_extra "spn98")); end_is "y21"; end_is "y3"; end_is "y4"; (focus (k_extra "spn64"))
  end_is "y21"; (focus (((try dsimp only); (first | apply hq | with_unfolding_all apply hq)))); (focus (k_extra "dued")); (focus (k_extra "duet")); end_is "y190"; rotate_left
  rotate_left; rotate_left; rotate_left; rotate_left; rotate_left; rotate_right; rotate_right; rotate_right; rotate_right; rotate_right; rotate_right
local macro_rules | `(tactic| k_extra "spn334") => `(tactic| first | (with_reducible refine sp334 (by k_extra "hdt") ?_) | fail)
theorem sp313 {i : Nat} {nm lz fv enc : V} {at_ nt te ct cd la hc wt wd lo fs : Int} {dirs : Nat} {Q : V → St → Prop} (hmd : md.hd = false) (hi : i < m) (ei : f i = entO nm at_ nt te ct cd la hc wt wd lo fs lz fv dirs enc)
    (hq : ∀ y mo d h mi s, DueD cd y mo d → DueT ct h mi s → ∀ f' m' r, m ≤ m' → Same f m f' → m ≤ r → r < m' → f' r = dtO y mo d h mi s → Q (.ref r) ⟨f', m', l, md⟩) :
    W ((evX (K2 P) (n + 80)).call (.old 313) [.ref i] []) ⟨f, m, l, md⟩ Q E := by
  refine W.fn (fd313.2 P) (en313 P _) bd313.2 ?_
  unfold bd313
  dsimp only
  end_is "y84"; end_is "y25"; end_is "x57"; end_is "y6"; end_is "y57"; end_is "y16"; end_is "y27"; (focus (k_extra "spn334")); end_is "y99"
  (focus (((try dsimp only); (first | apply hq | with_unfolding_all apply hq)))); (focus (k_extra "dued")); (focus (k_extra "duet")); end_is "y190"; rotate_left; rotate_left
  rotate_left; rotate_left; rotate_left; rotate_left; rotate_right; rotate_right; rotate_right; rotate_right; rotate_right; rotate_right
theorem sp320 {i : Nat} {nm lz fv enc : V} {at_ nt te ct cd la hc wt wd lo fs : Int} {dirs : Nat} {Q : V → St → Prop} (hmd : md.hd = false) (hi : i < m) (ei : f i = entO nm at_ nt te ct cd la hc wt wd lo fs lz fv dirs enc)
    (hq : ∀ y mo d h mi s, DueD wd y mo d → DueT wt h mi s → ∀ f' m' r, m ≤ m' → Same f m f' → m ≤ r → r < m' → f' r = dtO y mo d h mi s → Q (.ref r) ⟨f', m', l, md⟩) :
    W ((evX (K2 P) (n + 80)).call (.old 320) [.ref i] []) ⟨f, m, l, md⟩ Q E := by
  refine W.fn (fd320.2 P) (en320 P _) bd320.2 ?_
  unfold bd320
  dsimp only
  end_is "y84"; end_is "y25"; end_is "x57"; end_is "y6"; end_is "y57"; end_is "y16"; end_is "y27"; (focus (k_extra "spn334")); end_is "y99"
  (focus (((try dsimp only); (first | apply hq | with_unfolding_all apply hq)))); (focus (k_extra "dued")); (focus (k_extra "duet")); end_is "y190"; rotate_left; rotate_left
  rotate_left; rotate_left; rotate_left; rotate_left; rotate_right; rotate_right; rotate_right; rotate_right; rotate_right; rotate_right
theorem sp327 {i : Nat} {nm lz fv enc : V} {at_ nt te ct cd la hc wt wd lo fs : Int} {dirs : Nat} {Q : V → St → Prop} (hmd : md.hd = false) (hi : i < m) (ei : f i = entO nm at_ nt te ct cd la hc wt wd lo fs lz fv dirs enc)
    (hq : ∀ y mo d, DueD la y mo d → ∀ f' m' r, m ≤ m' → Same f m f' → m ≤ r → r < m' → f' r = dtO y mo d 0 0 0 → Q (.ref r) ⟨f', m', l, md⟩) :
    W ((evX (K2 P) (n + 80)).call (.old 327) [.ref i] []) ⟨f, m, l, md⟩ Q E := by
  refine W.fn (fd327.2 P) (en327 P _) bd327.2 ?_
  unfold bd327
  dsimp only
  end_is "y84"; end_is "x81"; end_is "y7"; end_is "x55"; end_is "y6"; end_is "y16"; end_is "y27"; (focus (k_extra "spn88")); end_is "y21"; end_is "y3"
  (focus (((try dsimp only); (first | apply hq | with_unfolding_all apply hq)))); (focus (k_extra "dued")); end_is "y190"; rotate_left; rotate_left; rotate_left; rotate_right
  rotate_right; rotate_right
theorem sp351 {i : Nat} {Q : V → St → Prop} (hq : Q .none ⟨f, m, l, md⟩) :
    W ((evX (K2 P) (n + 20)).call (.old 351) [.ref i, .none] []) ⟨f, m, l, md⟩ Q E := by
  refine W.fn (fd351.2 P) (en351 P _ _) bd351.2 ?_
  unfold bd351
  dsimp only
  end_is "y183"; end_is "y161"; (with_reducible refine W.isN (by kernel_rfl) ?_); end_is "y10"; end_is "x114"; (with_reducible refine W.retN ?_); end_is "x2"
  (focus (((try dsimp only); (first | apply hq | with_unfolding_all apply hq))))
theorem sp365 {i : Nat} {nm lz fv enc : V} {at_ nt te ct cd la hc wt wd lo fs : Int} {dirs : Nat} {Q : V → St → Prop} (hi : i < m) (ei : f i = entO nm at_ nt te ct cd la hc wt wd lo fs lz fv dirs enc) (hb : 0 ≤ hc ∧ hc < 65536)
    (hq : Q (.int (lo + hc * 65536)) ⟨f, m, l, md⟩) :
    W ((evX (K2 P) (n + 20)).call (.old 365) [.ref i] []) ⟨f, m, l, md⟩ Q E := by
  refine W.fn (fd365.2 P) (en365 P _) bd365.2 ?_
  unfold bd365
  dsimp only
  end_is "y84"; end_is "x28"; end_is "y16"; end_is "x28"; end_is "y16"; end_is "y108"; end_is "x59"; end_is "x2"
  (focus (((try dsimp only); (first | apply hq | with_unfolding_all apply hq))))
theorem sp372 {i : Nat} {nm lz fv enc : V} {at_ nt te ct cd la hc wt wd lo fs c : Int} {dirs : Nat} {Q : V → St → Prop} (hi : i < m) (ei : f i = entO nm at_ nt te ct cd la hc wt wd lo fs lz fv dirs enc)
    (hq : Q .none ⟨updO (updO f i (entO nm at_ nt te ct cd la hc wt wd (c % 65536) fs lz fv dirs enc)) i (entO nm at_ nt te ct cd la (c / 65536 % 65536) wt wd (c % 65536) fs lz fv dirs enc), m, l, md⟩) :
    W ((evX (K2 P) (n + 20)).call (.old 372) [.ref i, .int c] []) ⟨f, m, l, md⟩ Q E := by
  refine W.fn (fd372.2 P) (en372 P _ _) bd372.2 ?_
  unfold bd372
  dsimp only
  end_is "y136"; end_is "y43"; end_is "y0"; end_is "y74"; end_is "y142"; end_is "x66"; end_is "x33"; end_is "x60"; end_is "y11"; end_is "y43"; end_is "y0"; end_is "y74"; end_is "y142"
  end_is "x66"; end_is "x33"; end_is "x60"; end_is "y56"; (focus (((try dsimp only); (first | apply hq | with_unfolding_all apply hq))))
local macro_rules | `(tactic| k_extra "spn313") => `(tactic| first | (with_reducible refine sp313 (by k_extra "hdt") (by k_extra "lt") (by k_extra "ob2") ?_) | fail)
local macro_rules | `(tactic| k_extra "spn320") => `(tactic| first | (with_reducible refine sp320 (by k_extra "hdt") (by k_extra "lt") (by k_extra "ob2") ?_) | fail)
local macro_rules | `(tactic| k_extra "spn327") => `(tactic| first | (with_reducible refine sp327 (by k_extra "hdt") (by k_extra "lt") (by k_extra "ob2") ?_) | fail)
local macro_rules | `(tactic| k_extra "spn351") => `(tactic| first | (with_reducible refine sp351 ?_) | fail)
local macro_rules | `(tactic| k_extra "spn365") => `(tactic| first | (with_reducible refine sp365 (by k_extra "lt") (by k_extra "ob2") (by omega) ?_) | fail)
local macro_rules | `(tactic| k_extra "spn372") => `(tactic| first | (with_reducible refine sp372 (by k_extra "lt") (by k_extra "ob2") ?_) | fail)
theorem sp295 {i : Nat} {nm : V} {at_ nt te ct cd la hc wt wd lo fs : Int} {Q : V → St → Prop} (hi : i < m) (ei : f i = .inst 558 [(nid "name", nm), (nid "attr", .int at_), (nid "ntres", .int nt), (nid "crttimetenth", .int te), (nid "crttime", .int ct), (nid "crtdate", .int cd), (nid "lstaccessdate", .int la), (nid "fstclushi", .int hc), (nid "wrttime", .int wt), (nid "wrtdate", .int wd), (nid "fstcluslo", .int lo)]) (hb : fs ≤ 4294967295)
    (hq : Q .none ⟨updO f i (.inst 558 [(nid "name", nm), (nid "attr", .int at_), (nid "ntres", .int nt), (nid "crttimetenth", .int te), (nid "crttime", .int ct), (nid "crtdate", .int cd), (nid "lstaccessdate", .int la), (nid "fstclushi", .int hc), (nid "wrttime", .int wt), (nid "wrtdate", .int wd), (nid "fstcluslo", .int lo), (nid "filesize", .int fs)]), m, l, md⟩) :
    W ((evX (K2 P) (n + 20)).call (.old 295) [.ref i, .int fs] []) ⟨f, m, l, md⟩ Q E := by
  refine W.fn (fd295.2 P) (en295 P _ _) bd295.2 ?_
  unfold bd295
  dsimp only
  end_is "x114"; end_is "y77"; end_is "y15"; end_is "x16"; end_is "y79"; end_is "x4"; rotate_left; rotate_right; end_is "x115"; end_is "y8"; end_is "y0"; end_is "y56"
  (focus (((try dsimp only); (first | apply hq | with_unfolding_all apply hq))))
local macro_rules | `(tactic| k_extra "spn295") => `(tactic| first | (with_reducible refine sp295 (by k_extra "lt") (by k_extra "ob2") (by omega) ?_) | fail)
theorem sp558 {nm lz fv enc : V} {at_ nt te ct cd la hc wt wd lo fs : Int} {Q : V → St → Prop} (hmd : md.hd = false) (hb : fs ≤ 4294967295)
    (hq : ∀ f' m' r, m ≤ m' → Same f m f' → m < m' → m < r → r < m' → f' m = entO nm at_ nt te ct cd la hc wt wd lo fs lz fv r enc → f' r = .list [] → Q (.ref m) ⟨f', m', l, md⟩) :
    W ((evX (K2 P) (n + 40)).call (.old 558) [] [("fs", fv), ("encoding", enc), ("lfn_entry", .none), ("lazy_load", lz), ("DIR_Name", nm), ("DIR_Attr", .int at_), ("DIR_NTRes", .int nt), ("DIR_CrtTimeTenth", .int te), ("DIR_CrtTime", .int ct), ("DIR_CrtDate", .int cd), ("DIR_LstAccessDate", .int la), ("DIR_FstClusHI", .int hc), ("DIR_WrtTime", .int wt), ("DIR_WrtDate", .int wd), ("DIR_FstClusLO", .int lo), ("DIR_FileSize", .int fs)]) ⟨f, m, l, md⟩ Q E := by
  refine W.new (nf558 P) (mk558 P) (ini558 P) (isf288 P) (fd288.2 P) (en288 P _ _ _ _ _ _ _ _ _ _ _ _ _ _ _ _ _) bd288.2 ?_
  unfold bd288
  dsimp only
  end_is "y136"; end_is "y23"; end_is "y162"; end_is "y162"; end_is "y162"; end_is "y162"; end_is "y71"; end_is "y58"; end_is "y5"; end_is "y2"; end_is "y163"; end_is "y6"
  end_is "y58"; end_is "y27"; (focus (k_extra "spn295")); end_is "y136"; end_is "y83"; end_is "x37"; end_is "y11"; end_is "x37"; end_is "y5"; end_is "y2"; end_is "x110"; end_is "x114"
  end_is "y163"; end_is "y78"; (focus (k_extra "spn351")); end_is "x115"; end_is "y20"; end_is "y8"; end_is "x79"; end_is "y22"; end_is "y11"; end_is "y0"; end_is "y73"
  (focus (((try dsimp only); (first | apply hq | with_unfolding_all apply hq)))); end_is "y47"; rotate_left; rotate_left; end_is "y93"; rotate_left; rotate_right; rotate_right
  rotate_right; end_is "y158"
theorem sp558' {nm enc : V} {at_ nt te ct cd la hc wt wd lo fs : Int} {Q : V → St → Prop} (hmd : md.hd = false) (hb : fs ≤ 4294967295)
    (hq : ∀ f' m' r, m ≤ m' → Same f m f' → m < m' → m < r → r < m' → f' m = entO nm at_ nt te ct cd la hc wt wd lo fs (.bool false) .none r enc → f' r = .list [] → Q (.ref m) ⟨f', m', l, md⟩) :
    W ((evX (K2 P) (n + 40)).call (.old 558) [] [("DIR_Name", nm), ("DIR_Attr", .int at_), ("DIR_NTRes", .int nt), ("DIR_CrtTimeTenth", .int te), ("DIR_CrtTime", .int ct), ("DIR_CrtDate", .int cd), ("DIR_LstAccessDate", .int la), ("DIR_FstClusHI", .int hc), ("DIR_WrtTime", .int wt), ("DIR_WrtDate", .int wd), ("DIR_FstClusLO", .int lo), ("DIR_FileSize", .int fs), ("encoding", enc)]) ⟨f, m, l, md⟩ Q E := by
  refine W.new (nf558 P) (mk558 P) (ini558 P) (isf288 P) (fd288.2 P) (en288' P _ _ _ _ _ _ _ _ _ _ _ _ _ _) bd288.2 ?_
  unfold bd288
  dsimp only
  end_is "y136"; end_is "y23"; end_is "y162"; end_is "y162"; end_is "y162"; end_is "y162"; end_is "y71"; end_is "y58"; end_is "y5"; end_is "y2"; end_is "y163"; end_is "y6"
  end_is "y58"; end_is "y27"; (focus (k_extra "spn295")); end_is "y136"; end_is "y83"; end_is "x37"; end_is "y11"; end_is "x37"; end_is "y5"; end_is "y2"; end_is "x110"; end_is "x114"
  end_is "y163"; end_is "y78"; (focus (k_extra "spn351")); end_is "x115"; end_is "y20"; end_is "y8"; end_is "x79"; end_is "y22"; end_is "y11"; end_is "y0"; end_is "y73"
  (focus (((try dsimp only); (first | apply hq | with_unfolding_all apply hq)))); end_is "y47"; rotate_left; rotate_left; end_is "y93"; rotate_left; rotate_right; rotate_right
  rotate_right; end_is "y158"
local macro_rules | `(tactic| k_extra "spn558") => `(tactic| first | (with_reducible refine sp558 (by k_extra "hdt") (by omega) ?_) | fail)
local macro_rules | `(tactic| k_extra "spn558") => `(tactic| first | (with_reducible refine sp558' (by k_extra "hdt") (by omega) ?_) | fail)
abbrev ocO (d : List UInt8) (w : Bool) (at_ : Int) : O := .inst 268 [(nid "data", .bytes d), (nid "write_allowed", .bool w), (nid "at", .int at_)]
abbrev pfO (fp : V) (off : Int) (r : Nat) (enc : V) : O := .inst 1004 [(nid "_fp", fp), (nid "_fp_offset", .int off), (nid "_fat_size", .int 0), (nid "bpb_header", .none), (nid "root_dir", .none), (nid "root_dir_sector", .int 0), (nid "root_dir_sectors", .int 0), (nid "bytes_per_cluster", .int 0), (nid "first_data_sector", .int 0), (nid "first_free_cluster", .int 0), (nid "fat_type", .int 0), (nid "fat", .ref r), (nid "initialized", .bool false), (nid "encoding", enc), (nid "is_read_only", .bool true), (nid "lazy_load", .bool true)]
abbrev nmO (v enc : V) (b : Bool) : O := .inst 756 [(nid "name", v), (nid "encoding", enc), (nid "initialized", .bool b)]
theorem sp633 {Q : V → St → Prop} (hq : ∀ f' m' r, m < m' → Same f m f' → m < r → r < m' → f' m = .inst 633 [(nid "lfn_entries", .ref r)] → f' r = .dict [] → Q (.ref m) ⟨f', m', l, md⟩) :
    W ((evX (K2 P) (n + 20)).call (.old 633) [] []) ⟨f, m, l, md⟩ Q E := by
  refine W.new (nf633 P) (mk633 P) (ini633 P) (isf577 P) (fd577.2 P) (en577 P _) bd577.2 ?_
  unfold bd577
  dsimp only
  end_is "y136"; (with_reducible refine W.dict0 ?_); end_is "y73"; (focus (((try dsimp only); (first | apply hq | with_unfolding_all apply hq)))); end_is "y12"; rotate_left
  rotate_left; end_is "y93"; rotate_left; rotate_right; rotate_right; rotate_right; end_is "y158"
theorem sp613 {x y : Int} {Q : V → St → Prop} (hy : y % 64 ≠ 15) (hq : Q (.bool false) ⟨f, m, l, md⟩) :
    W ((evX (K2 P) (n + 20)).call (.old 613) [.int x, .int y] []) ⟨f, m, l, md⟩ Q E := by
  have e : (y % 64 == 15) = false := beq_eq_false_iff_ne.mpr hy
  rw [← e] at hq
  refine W.fn (fd613.2 P) (en613 P _ _) bd613.2 ?_
  unfold bd613
  dsimp only
  end_is "y31"; end_is "x25"; end_is "y7"; end_is "x18"; end_is "y98"; end_is "x25"; end_is "y7"; end_is "x18"; end_is "y98"; end_is "x42"; end_is "y65"; end_is "y0"; end_is "x60"
  end_is "x40"; end_is "y0"; end_is "x31"; end_is "y36"; end_is "x94"; (with_reducible refine W.boolE ?_); (with_reducible refine W.bvAnd ?_); end_is "y0"; end_is "y164"; rotate_left
  rotate_right; end_is "x2"; (focus (((try dsimp only); (first | apply hq | with_unfolding_all apply hq))))
theorem sp630 {i r : Nat} {Q : V → St → Prop} (hmd : md.hd = false) (hi : i < m) (ei : f i = .inst 633 [(nid "lfn_entries", .ref r)]) (hr : r < m) (er : f r = .dict []) (hq : Q (.bool false) ⟨f, m, l, md⟩) :
    W ((evX (K2 P) (n + 20)).call (.old 630) [.ref i] []) ⟨f, m, l, md⟩ Q E := by
  refine W.fn (fd630.2 P) (en630 P _) bd630.2 ?_
  unfold bd630
  dsimp only
  end_is "x114"; (with_reducible refine W.keys rfl (by decide +kernel) ?_); end_is "y16"; (with_reducible refine ⟨_, rfl, by k_extra "lt", by k_extra "ob2", by k_extra "hdt", ?_⟩)
  end_is "y28"; end_is "x94"; end_is "x30"; end_is "x2"; (focus (((try dsimp only); (first | apply hq | with_unfolding_all apply hq))))
theorem sp756 {enc : V} {Q : V → St → Prop} (hq : ∀ f' m', m < m' → Same f m f' → f' m = nmO .none enc false → Q (.ref m) ⟨f', m', l, md⟩) :
    W ((evX (K2 P) (n + 20)).call (.old 756) [] [("encoding", enc)]) ⟨f, m, l, md⟩ Q E := by
  refine W.new (nf756 P) (mk756 P) (ini756 P) (isf653 P) (fd653.2 P) (en653 P _ _) bd653.2 ?_
  unfold bd653
  dsimp only
  end_is "y136"; end_is "x37"; end_is "y11"; end_is "y23"; end_is "x30"; end_is "y73"; (focus (((try dsimp only); (first | apply hq | with_unfolding_all apply hq)))); end_is "y12"
  end_is "x10"
theorem sp691 {i r : Nat} {v enc : V} {b : List UInt8} {Q : V → St → Prop} (hi : i < m) (ei : f i = nmO v enc false) (hr : r < m) (er : f r = .barr b) (hb : b.length = 11)
    (hq : Q .none ⟨updO (updO f i (nmO (.ref r) enc false)) i (nmO (.ref r) enc true), m, l, md⟩) :
    W ((evX (K2 P) (n + 20)).call (.old 691) [.ref i, .ref r] []) ⟨f, m, l, md⟩ Q E := by
  refine W.fn (fd691.2 P) (en691 P _ _) bd691.2 ?_
  unfold bd691
  dsimp only
  end_is "y183"; end_is "x103"; end_is "y29"; (with_reducible refine W.len3 (by k_extra "lt") (by k_extra "ob2") (by k_extra "ln") ?_); end_is "y33"; end_is "x36"; end_is "y164"
  rotate_left; rotate_right; end_is "x115"; end_is "y8"; end_is "y23"; end_is "x30"; end_is "y56"; (focus (((try dsimp only); (first | apply hq | with_unfolding_all apply hq))))
theorem sp1004 {enc : V} {o : Int} {Q : V → St → Prop} (hq : ∀ f' m' r, m < m' → Same f m f' → m < r → r < m' → f' m = pfO .none o r enc → f' r = .dict [] → Q (.ref m) ⟨f', m', l, md⟩) :
    W ((evX (K2 P) (n + 20)).call (.old 1004) [enc, .int o] []) ⟨f, m, l, md⟩ Q E := by
  refine W.new (nf1004 P) (mk1004 P) (ini1004 P) (isf779 P) (fd779.2 P) (en779 P _ _ _) bd779.2 ?_
  unfold bd779
  dsimp only
  end_is "y136"; end_is "x37"; end_is "y11"; end_is "y23"; end_is "x33"; end_is "y11"; end_is "x37"; end_is "y11"; end_is "x37"; end_is "y11"; end_is "x33"; end_is "y11"; end_is "x33"
  end_is "y11"; end_is "x33"; end_is "y11"; end_is "x33"; end_is "y11"; end_is "x33"; end_is "y11"; end_is "y15"; end_is "x16"; end_is "y11"; (with_reducible refine W.dict0 ?_)
  end_is "y11"; end_is "x30"; end_is "y11"; end_is "y23"; end_is "x30"; end_is "y11"; end_is "y0"; end_is "y73"
  (focus (((try dsimp only); (first | apply hq | with_unfolding_all apply hq)))); end_is "y12"; rotate_left; rotate_left; end_is "y93"; rotate_left; rotate_right; rotate_right
  rotate_right; end_is "y158"
theorem sp786 {i r b : Nat} {o : Int} {enc : V} {Q : V → St → Prop} (hi : i < m) (ei : f i = pfO .none o r enc) (hq : Q .none ⟨updO f i (pfO (.ref b) o r enc), m, l, md⟩) :
    W ((evX (K2 P) (n + 20)).call (.old 786) [.ref i, .ref b] []) ⟨f, m, l, md⟩ Q E := by
  refine W.fn (fd786.2 P) (en786 P _ _) bd786.2 ?_
  unfold bd786
  dsimp only
  end_is "y183"; end_is "x103"; end_is "y16"; end_is "x106"; end_is "x37"; (with_reducible refine W.cIsNot rfl ?_); end_is "y10"; rotate_left; rotate_right; end_is "x115"; end_is "y8"
  end_is "y0"; end_is "y56"; (focus (((try dsimp only); (first | apply hq | with_unfolding_all apply hq))))
theorem sp268 {d : List UInt8} {w : Bool} {Q : V → St → Prop} (hq : ∀ f' m', m < m' → Same f m f' → f' m = ocO d w 0 → Q (.ref m) ⟨f', m', l, md⟩) :
    W ((evX (K2 P) (n + 20)).call (.old 268) [.bytes d, .bool w] []) ⟨f, m, l, md⟩ Q E := by
  refine W.new (nf268 P) (mk268 P) (ini268 P) (isf223 P) (fd223.2 P) (en223 P _ _ _) bd223.2 ?_
  unfold bd223
  dsimp only
  end_is "y136"; end_is "y83"; end_is "x33"; end_is "y73"; (focus (((try dsimp only); (first | apply hq | with_unfolding_all apply hq)))); end_is "y12"; end_is "x10"
theorem sp251 {i : Nat} {d : List UInt8} {w : Bool} {x y : Int} {Q : V → St → Prop} (hi : i < m) (ei : f i = ocO d w x) (hq : Q .none ⟨updO f i (ocO d w y), m, l, md⟩) :
    W ((evX (K2 P) (n + 20)).call (.old 251) [.ref i, .int y] []) ⟨f, m, l, md⟩ Q E := by
  refine W.fn (fd251.2 P) (en251 P _ _) bd251.2 ?_
  unfold bd251
  dsimp only
  end_is "y136"; end_is "y0"; end_is "y56"; (focus (((try dsimp only); (first | apply hq | with_unfolding_all apply hq))))
local macro_rules | `(tactic| k_extra "spn633") => `(tactic| first | (with_reducible refine sp633 ?_) | fail)
local macro_rules | `(tactic| k_extra "spn613") => `(tactic| first | (with_reducible refine sp613 (by k_extra "omh") ?_) | fail)
local macro_rules | `(tactic| k_extra "spn630") => `(tactic| first | (with_reducible refine sp630 (by k_extra "hdt") (by k_extra "lt") (by k_extra "ob2") (by k_extra "lt") (by k_extra "ob2") ?_) | fail)
local macro_rules | `(tactic| k_extra "spn756") => `(tactic| first | (with_reducible refine sp756 ?_) | fail)
local macro_rules | `(tactic| k_extra "spn691") => `(tactic| first | (with_reducible refine sp691 (by k_extra "lt") (by k_extra "ob2") (by k_extra "lt") (by k_extra "ob2") (by first | assumption | rfl) ?_) | fail)
local macro_rules | `(tactic| k_extra "spn1004") => `(tactic| first | (with_reducible refine sp1004 ?_) | fail)
local macro_rules | `(tactic| k_extra "spn786") => `(tactic| first | (with_reducible refine sp786 (by k_extra "lt") (by k_extra "ob2") ?_) | fail)
local macro_rules | `(tactic| k_extra "spn268") => `(tactic| first | (with_reducible refine sp268 ?_) | fail)
local macro_rules | `(tactic| k_extra "spn251") => `(tactic| first | (with_reducible refine sp251 (by k_extra "lt") (by k_extra "ob2") ?_) | fail)
section
variable {b0 b1 b2 b3 b4 b5 b6 b7 b8 b9 b10 b11 b12 b13 b14 b15 b16 b17 b18 b19 b20 b21 b22 b23 b24 b25 b26 b27 b28 b29 b30 b31 : UInt8}
theorem slA : sliceOf [b0, b1, b2, b3, b4, b5, b6, b7, b8, b9, b10, b11, b12, b13, b14, b15, b16, b17, b18, b19, b20, b21, b22, b23, b24, b25, b26, b27, b28, b29, b30, b31] .none (.int 11) = some [b0, b1, b2, b3, b4, b5, b6, b7, b8, b9, b10] := rfl
theorem sl14 : sliceOf [b0, b1, b2, b3, b4, b5, b6, b7, b8, b9, b10, b11, b12, b13, b14, b15, b16, b17, b18, b19, b20, b21, b22, b23, b24, b25, b26, b27, b28, b29, b30, b31] (.int 14) (.int (14 + 2)) = some [b14, b15] := rfl
theorem sl16 : sliceOf [b0, b1, b2, b3, b4, b5, b6, b7, b8, b9, b10, b11, b12, b13, b14, b15, b16, b17, b18, b19, b20, b21, b22, b23, b24, b25, b26, b27, b28, b29, b30, b31] (.int 16) (.int (16 + 2)) = some [b16, b17] := rfl
theorem sl18 : sliceOf [b0, b1, b2, b3, b4, b5, b6, b7, b8, b9, b10, b11, b12, b13, b14, b15, b16, b17, b18, b19, b20, b21, b22, b23, b24, b25, b26, b27, b28, b29, b30, b31] (.int 18) (.int (18 + 2)) = some [b18, b19] := rfl
theorem sl20 : sliceOf [b0, b1, b2, b3, b4, b5, b6, b7, b8, b9, b10, b11, b12, b13, b14, b15, b16, b17, b18, b19, b20, b21, b22, b23, b24, b25, b26, b27, b28, b29, b30, b31] (.int 20) (.int (20 + 2)) = some [b20, b21] := rfl
theorem sl22 : sliceOf [b0, b1, b2, b3, b4, b5, b6, b7, b8, b9, b10, b11, b12, b13, b14, b15, b16, b17, b18, b19, b20, b21, b22, b23, b24, b25, b26, b27, b28, b29, b30, b31] (.int 22) (.int (22 + 2)) = some [b22, b23] := rfl
theorem sl24 : sliceOf [b0, b1, b2, b3, b4, b5, b6, b7, b8, b9, b10, b11, b12, b13, b14, b15, b16, b17, b18, b19, b20, b21, b22, b23, b24, b25, b26, b27, b28, b29, b30, b31] (.int 24) (.int (24 + 2)) = some [b24, b25] := rfl
theorem sl26 : sliceOf [b0, b1, b2, b3, b4, b5, b6, b7, b8, b9, b10, b11, b12, b13, b14, b15, b16, b17, b18, b19, b20, b21, b22, b23, b24, b25, b26, b27, b28, b29, b30, b31] (.int 26) (.int (26 + 2)) = some [b26, b27] := rfl
theorem sl28 : sliceOf [b0, b1, b2, b3, b4, b5, b6, b7, b8, b9, b10, b11, b12, b13, b14, b15, b16, b17, b18, b19, b20, b21, b22, b23, b24, b25, b26, b27, b28, b29, b30, b31] (.int 28) (.int 32) = some [b28, b29, b30, b31] := rfl
theorem ix11 : itemAt [b0, b1, b2, b3, b4, b5, b6, b7, b8, b9, b10, b11, b12, b13, b14, b15, b16, b17, b18, b19, b20, b21, b22, b23, b24, b25, b26, b27, b28, b29, b30, b31] 11 = some b11 := rfl
theorem ix12 : itemAt [b0, b1, b2, b3, b4, b5, b6, b7, b8, b9, b10, b11, b12, b13, b14, b15, b16, b17, b18, b19, b20, b21, b22, b23, b24, b25, b26, b27, b28, b29, b30, b31] 12 = some b12 := rfl
theorem ix13 : itemAt [b0, b1, b2, b3, b4, b5, b6, b7, b8, b9, b10, b11, b12, b13, b14, b15, b16, b17, b18, b19, b20, b21, b22, b23, b24, b25, b26, b27, b28, b29, b30, b31] 13 = some b13 := rfl
end
theorem rng14 : rngL 14 28 2 = [.int 14, .int 16, .int 18, .int 20, .int 22, .int 24, .int 26] := rfl
abbrev hdO (v0 v1 v2 v3 v4 v5 v6 v7 v8 v9 v10 v11 : V) : O := .dict [(nid "DIR_Name", v0), (nid "DIR_Attr", v1), (nid "DIR_NTRes", v2), (nid "DIR_CrtTimeTenth", v3), (nid "DIR_CrtTime", v4), (nid "DIR_CrtDate", v5), (nid "DIR_LstAccessDate", v6), (nid "DIR_FstClusHI", v7), (nid "DIR_WrtTime", v8), (nid "DIR_WrtDate", v9), (nid "DIR_FstClusLO", v10), (nid "DIR_FileSize", v11)]
theorem pa12 {v0 v1 v2 v3 v4 v5 v6 v7 v8 v9 v10 v11 : V} : putAll [] ((["DIR_Name", "DIR_Attr", "DIR_NTRes", "DIR_CrtTimeTenth", "DIR_CrtTime", "DIR_CrtDate", "DIR_LstAccessDate", "DIR_FstClusHI", "DIR_WrtTime", "DIR_WrtDate", "DIR_FstClusLO", "DIR_FileSize"] : List Str).zip [v0, v1, v2, v3, v4, v5, v6, v7, v8, v9, v10, v11]) = [(nid "DIR_Name", v0), (nid "DIR_Attr", v1), (nid "DIR_NTRes", v2), (nid "DIR_CrtTimeTenth", v3), (nid "DIR_CrtTime", v4), (nid "DIR_CrtDate", v5), (nid "DIR_LstAccessDate", v6), (nid "DIR_FstClusHI", v7), (nid "DIR_WrtTime", v8), (nid "DIR_WrtDate", v9), (nid "DIR_FstClusLO", v10), (nid "DIR_FileSize", v11)] := by kernel_rfl
theorem od280 (P : Params) : oldStrs (K2 P) 280 = some (["DIR_Name", "DIR_Attr", "DIR_NTRes", "DIR_CrtTimeTenth", "DIR_CrtTime", "DIR_CrtDate", "DIR_LstAccessDate", "DIR_FstClusHI", "DIR_WrtTime", "DIR_WrtDate", "DIR_FstClusLO", "DIR_FileSize"] : List Str) := by kernel_rfl
local macro_rules | `(tactic| k_extra "it") => `(tactic| first | (first | exact slA | exact sl14 | exact sl16 | exact sl18 | exact sl20 | exact sl22 | exact sl24 | exact sl26 | exact sl28 | exact ix11 | exact ix12 | exact ix13 | assumption) | fail)
local macro_rules | `(tactic| k_extra "od") => `(tactic| first | (exact od280 _) | fail)
local macro_rules | `(tactic| k_extra "pa") => `(tactic| first | (exact pa12) | fail)
local macro_rules | `(tactic| k_extra "fl") => `(tactic| first | (rw [rng14]) | fail)
theorem sl_drop {d c : List UInt8} {x y : Int} (hx : 0 ≤ x) (hy : 0 ≤ y) (hl : x + y ≤ d.length) (hc : (d.drop x.toNat).take y.toNat = c) : sliceOf d (.int x) (.int (x + y)) = some c := by
  unfold sliceOf lowOf highOf clampI
  dsimp only
  rw [if_neg (by omega), if_neg (by omega)]
  have e1 : min x.toNat d.length = x.toNat := by omega
  have e2 : min (x + y).toNat d.length = (x + y).toNat := by omega
  rw [e1, e2]
  show some ((d.drop x.toNat).take ((x + y).toNat - x.toNat)) = some c
  rw [show (x + y).toNat - x.toNat = y.toNat by omega, hc]
theorem sp258 {i : Nat} {d c : List UInt8} {w : Bool} {x : Int} {Q : V → St → Prop} (hi : i < m) (ei : f i = ocO d w x) (hx : 0 ≤ x) (hl : x + 32 ≤ d.length) (hz : d.length ≤ 16777216) (hc : (d.drop x.toNat).take 32 = c)
    (hq : ∀ f' m', m ≤ m' → SameX f m i f' → f' i = ocO d w (x + 32) → Q (.bytes c) ⟨f', m', l, md⟩) :
    W ((evX (K2 P) (n + 20)).call (.old 258) [.ref i, .int 32] []) ⟨f, m, l, md⟩ Q E := by
  have hs := sl_drop (y := 32) hx (by omega) hl hc
  have hcl : c.length = 32 := by rw [← hc, List.length_take, List.length_drop]; omega
  have e : (x + 32 : Int) = x + (c.length : Nat) := by omega
  have hq' := fun f' m' a b (h : f' i = ocO d w (x + (c.length : Nat))) => hq f' m' a b (by rw [e]; exact h)
  clear hq
  refine W.fn (fd258.2 P) (en258 P _ _) bd258.2 ?_
  unfold bd258
  dsimp only
  end_is "y31"; end_is "x101"; end_is "y16"; end_is "x100"; end_is "x91"; end_is "y16"; end_is "x91"; end_is "x28"; end_is "y16"; end_is "y0"; end_is "x59"; end_is "y110"; end_is "y36"
  (with_reducible refine W.augA ?_); end_is "y0"; end_is "x17"; end_is "y29"; (with_reducible refine W.len1 (by k_extra "ln") ?_); (with_reducible refine W.ipI ?_); end_is "x59"
  end_is "x113"; end_is "y2"; end_is "x94"; end_is "y0"; end_is "x2"; rotate_left; rotate_right; rotate_left; rotate_right
  all_goals (apply hq' <;> (try dsimp only) <;> first | omega | k_extra "samex" | k_extra "ob2")
local macro_rules | `(tactic| k_extra "spn258") => `(tactic| first | (with_reducible refine sp258 (by k_extra "lt") (by k_extra "ob2") (by omega) (by omega) (by omega) (by assumption) ?_) | fail)
theorem sp793 {i r b : Nat} {o a x : Int} {d : List UInt8} {w : Bool} {enc : V} {Q : V → St → Prop} (hi : i < m) (ei : f i = pfO (.ref b) o r enc) (hb : b < m) (eb : f b = ocO d w x)
    (hq : Q .none ⟨updO f b (ocO d w (a + o)), m, l, md⟩) :
    W ((evX (K2 P) (n + 40)).call (.old 793) [.ref i, .int a] []) ⟨f, m, l, md⟩ Q E := by
  refine W.fn (fd793.2 P) (en793 P _ _) bd793.2 ?_
  unfold bd793
  dsimp only
  end_is "y183"; end_is "x103"; end_is "y16"; end_is "x106"; end_is "x37"; (with_reducible refine W.cIs rfl ?_); end_is "y10"; rotate_left; rotate_right; end_is "y28"; end_is "x45"
  end_is "x81"; end_is "y16"; end_is "x56"; end_is "y6"; end_is "y65"; end_is "y16"; end_is "x59"; end_is "y27"; (focus (k_extra "spn251")); end_is "x115"
  (focus (((try dsimp only); (first | apply hq | with_unfolding_all apply hq))))
local macro_rules | `(tactic| k_extra "spn793") => `(tactic| first | (with_reducible refine sp793 (by k_extra "lt") (by k_extra "ob2") (by k_extra "lt") (by k_extra "ob2") ?_) | fail)
theorem sp951 {i r b : Nat} {o a x : Int} {d : List UInt8} {w : Bool} {enc : V} {b0 b1 b2 b3 b4 b5 b6 b7 b8 b9 b10 b11 b12 b13 b14 b15 b16 b17 b18 b19 b20 b21 b22 b23 b24 b25 b26 b27 b28 b29 b30 b31 : UInt8} {Q : V → St → Prop} (hmd : md.hd = false) (hi : i < m) (ei : f i = pfO (.ref b) o r enc) (hb : b < m) (eb : f b = ocO d w x) (hib : i ≠ b)
    (ha : 0 ≤ a + o) (hl : a + o + 32 ≤ d.length) (hz : d.length ≤ 16777216) (hc : (d.drop (a + o).toNat).take 32 = [b0, b1, b2, b3, b4, b5, b6, b7, b8, b9, b10, b11, b12, b13, b14, b15, b16, b17, b18, b19, b20, b21, b22, b23, b24, b25, b26, b27, b28, b29, b30, b31])
    (hq : ∀ f' m' r', m ≤ m' → SameX f m b f' → f' b = ocO d w (a + o + 32) → m ≤ r' → r' < m' → f' r' = hdO (.bytes [b0, b1, b2, b3, b4, b5, b6, b7, b8, b9, b10]) (.int b11.toNat) (.int b12.toNat) (.int b13.toNat) (.int (leNat [b14, b15])) (.int (leNat [b16, b17])) (.int (leNat [b18, b19])) (.int (leNat [b20, b21])) (.int (leNat [b22, b23])) (.int (leNat [b24, b25])) (.int (leNat [b26, b27])) (.int (leNat [b28, b29, b30, b31])) → Q (.ref r') ⟨f', m', l, md⟩) :
    W ((evX (K2 P) (n + 60)).call (.old 951) [.ref i, .int a] []) ⟨f, m, l, md⟩ Q E := by
  refine W.fn (fd951.2 P) (en951 P _ _) bd951.2 ?_
  unfold bd951
  dsimp only
  end_is "x114"; end_is "y163"; end_is "y78"; (focus (k_extra "spn793")); end_is "y31"; end_is "x25"; end_is "y7"; end_is "x18"; end_is "y98"; end_is "x81"; end_is "y16"; end_is "x56"
  end_is "y78"; (focus (k_extra "spn258")); end_is "y68"; end_is "x97"; end_is "y31"; end_is "y32"; end_is "y100"; (with_reducible refine W.onNone ?_); end_is "x91"; end_is "x33"
  end_is "y110"; end_is "x43"; end_is "y35"; end_is "x49"; end_is "x43"; end_is "y35"; end_is "x49"; end_is "x43"; end_is "y35"; end_is "x49"; end_is "y22"; end_is "y36"; end_is "x46"
  end_is "y14"; end_is "x33"; end_is "y41"; end_is "y4"; (with_reducible refine W.range3 (by decide +kernel) ?_)
  (with_reducible refine W.loopR (by k_extra "hdt") (by k_extra "hdt") (by k_extra "lt") (by k_extra "ob2") (by decide +kernel) ?_); (focus (k_extra "fl")); end_is "y55"; end_is "y193"
  end_is "y87"; end_is "y193"; end_is "y87"; end_is "y193"; end_is "y87"; end_is "y193"; end_is "y87"; end_is "y193"; end_is "y87"; end_is "y193"; end_is "y87"; end_is "y193"
  end_is "y39"; end_is "y53"; (with_reducible refine W.lNil ?_); end_is "y28"; end_is "y61"; end_is "y167"; end_is "x33"; end_is "x91"; end_is "x33"; end_is "y172"; end_is "y98"
  (with_reducible refine W.dictZ (by decide +kernel) ?_); end_is "y111"; end_is "y144"; end_is "x25"; end_is "y7"; end_is "x18"; end_is "x43"; end_is "y0"; end_is "x44"
  (with_reducible refine ⟨_, _, rfl, ?_⟩)
  (with_reducible refine W.dictZV (by k_extra "hdt") (by k_extra "od") (by k_extra "lt") (by k_extra "ob2") rfl (by decide +kernel) (by decide +kernel) (by k_extra "pa") ?_)
  end_is "y36"; end_is "x94"; end_is "y0"; end_is "x2"; (focus (((try dsimp only); (first | apply hq | with_unfolding_all apply hq)))); end_is "x9"; (focus (k_extra "samex"))
  end_is "x10"; end_is "y158"; end_is "x10"
local macro_rules | `(tactic| k_extra "spn951") => `(tactic| first | (with_reducible refine sp951 (by k_extra "hdt") (by k_extra "lt") (by k_extra "ob2") (by k_extra "lt") (by k_extra "ob2") (by omega) (by omega) (by omega) (by omega) (by assumption) ?_) | fail)
abbrev entB (nmb : List UInt8) (at_ nt te ct cd la hc wt wd lo fs : Int) : List UInt8 := ((((((((nmb ++ List.map (fun n => n.toNat.toUInt8) [at_, nt, te]) ++ leBytes (2 : Int).toNat ct.toNat) ++ leBytes (2 : Int).toNat cd.toNat) ++ leBytes (2 : Int).toNat la.toNat) ++ leBytes (2 : Int).toNat hc.toNat) ++ leBytes (2 : Int).toNat wt.toNat) ++ leBytes (2 : Int).toNat wd.toNat) ++ leBytes (2 : Int).toNat lo.toNat) ++ leBytes (4 : Int).toNat fs.toNat
abbrev byte (x : Int) : Prop := 0 ≤ x ∧ x < 256
abbrev word (x : Int) : Prop := 0 ≤ x ∧ x < 65536
theorem sp379 {i j k : Nat} {lz fv enc enc' : V} {at_ nt te ct cd la hc wt wd lo fs : Int} {dirs : Nat} {nmb : List UInt8} {Q : V → St → Prop} (hmd : md.hd = false) (hi : i < m) (ei : f i = entO (.ref j) at_ nt te ct cd la hc wt wd lo fs lz fv dirs enc)
    (hj : j < m) (ej : f j = nmO (.ref k) enc' true) (hk : k < m) (ek : f k = .barr nmb) (hl : nmb.length = 11) (b1 : byte at_) (b2 : byte nt) (b3 : byte te) (w1 : word ct) (w2 : word cd) (w3 : word la) (w4 : word hc) (w5 : word wt) (w6 : word wd) (w7 : word lo) (hf : 0 ≤ fs ∧ fs < 4294967296)
    (hq : ∀ f' m', m ≤ m' → Same f m f' → Q (.bytes (entB nmb at_ nt te ct cd la hc wt wd lo fs)) ⟨f', m', l, md⟩) :
    W ((evX (K2 P) (n + 40)).call (.old 379) [.ref i] []) ⟨f, m, l, md⟩ Q E := by
  refine W.fn (fd379.2 P) (en379 P _) bd379.2 ?_
  unfold bd379
  dsimp only
  end_is "y31"; (with_reducible refine W.cBytes (by decide +kernel) ?_); end_is "y36"; end_is "x69"; end_is "x105"; end_is "y14"; end_is "y57"; end_is "y143"
  (with_reducible refine W.isN (by kernel_rfl) ?_); end_is "y10"; end_is "y28"; end_is "y61"; end_is "y14"; end_is "x25"; end_is "y16"; end_is "x17"; end_is "y4"
  (with_reducible refine W.bytesB (by k_extra "lt") (by k_extra "ob2") (by k_extra "ln") ?_); end_is "y113"; end_is "y36"; end_is "y61"; end_is "y14"; end_is "y32"; end_is "y159"
  end_is "y16"; end_is "y22"; end_is "y4"; end_is "x29"; end_is "y113"; end_is "y36"; end_is "x46"; end_is "y32"; end_is "y159"; end_is "y159"; end_is "y159"; end_is "y16"
  end_is "y22"; end_is "x80"; end_is "y55"; end_is "y196"; end_is "y66"; end_is "y196"; end_is "y66"; end_is "y196"; end_is "y66"; end_is "y196"; end_is "y66"; end_is "y196"
  end_is "y66"; end_is "y196"; end_is "y66"; end_is "y196"; end_is "y53"; (with_reducible refine W.lNil ?_); end_is "y28"; end_is "y61"; end_is "x81"; end_is "y16"; end_is "y178"
  end_is "y84"; end_is "y0"; end_is "x2"; (focus (((try dsimp only); (first | apply hq | with_unfolding_all apply hq)))); end_is "y12"
theorem sp303 {i j : Nat} {y mo d h mi s : Int} {enc : V} {at_ nt c fs : Int} {Q : V → St → Prop} (hmd : md.hd = false) (hi : i < m) (ei : f i = dtO y mo d h mi s) (hd : okDate y mo d) (hy : 1980 ≤ y ∧ y ≤ 2107) (ht : okTime h mi s) (hb : fs ≤ 4294967295)
    (hq : ∀ f' m' r r', m ≤ m' → Same f m f' → m ≤ r → r < m' → m ≤ r' → r' < m' → f' r = entO (.ref j) at_ nt 0 (h * 2048 + mi * 32 + s / 2) ((y - 1980) * 512 + mo * 32 + d) ((y - 1980) * 512 + mo * 32 + d) (c / 65536 % 65536) (h * 2048 + mi * 32 + s / 2) ((y - 1980) * 512 + mo * 32 + d) (c % 65536) fs (.bool false) .none r' enc → f' r' = .list [] → Q (.ref r) ⟨f', m', l, md⟩) :
    W ((evX (K2 P) (n + 60)).call (.old 303) [.ref j, .ref i, enc, .int at_, .int nt, .int c, .int fs] []) ⟨f, m, l, md⟩ Q E := by
  refine W.fn (fd303.2 P) (en303 P _ _ _ _ _ _ _) bd303.2 ?_
  unfold bd303
  dsimp only
  end_is "y31"; end_is "y0"; end_is "y98"; end_is "y13"; end_is "x119"; end_is "x44"; end_is "y197"; end_is "y197"; end_is "y197"; end_is "x74"; end_is "x33"; end_is "x74"
  end_is "y72"; (focus (k_extra "spn81")); end_is "x74"; end_is "y72"; (focus (k_extra "spn74")); end_is "x74"; end_is "y72"; (focus (k_extra "spn74")); end_is "x74"; end_is "x33"
  end_is "x74"; end_is "y72"; (focus (k_extra "spn81")); end_is "x74"; end_is "y72"; (focus (k_extra "spn74")); end_is "x74"; end_is "x33"; end_is "y197"; end_is "y197"; end_is "x75"
  (focus (k_extra "spn558")); end_is "y21"; end_is "y1"; end_is "x97"; end_is "x114"; end_is "y163"; end_is "y78"; (focus (k_extra "spn372")); end_is "y84"; end_is "y0"; end_is "x2"
  (focus (((try dsimp only); (first | apply hq | with_unfolding_all apply hq)))); end_is "y85"; rotate_left; rotate_left; end_is "y93"; rotate_left; rotate_right; rotate_right
  rotate_right; end_is "y158"
local macro_rules | `(tactic| k_extra "spn379") => `(tactic| first | (with_reducible refine sp379 (by k_extra "hdt") (by k_extra "lt") (by k_extra "ob2") (by k_extra "lt") (by k_extra "ob2") (by k_extra "lt") (by k_extra "ob2") (by assumption) (by omega) (by omega) (by omega) (by omega) (by omega) (by omega) (by omega) (by omega) (by omega) (by omega) (by omega) ?_) | fail)
local macro_rules | `(tactic| k_extra "spn303") => `(tactic| first | (with_reducible refine sp303 (by k_extra "hdt") (by k_extra "lt") (by k_extra "ob2") (by first | assumption | exact (DueD.ok (by assumption)).1) (by first | assumption | exact (DueD.ok (by assumption)).2) (by first | assumption | exact DueT.ok (by assumption)) (by omega) ?_) | fail)
section
variable {α : Type} {a b c d e g : α}
theorem it60 : itemAt [a, b, c, d, e, g] 0 = some a := rfl
theorem it61 : itemAt [a, b, c, d, e, g] 1 = some b := rfl
theorem it62 : itemAt [a, b, c, d, e, g] 2 = some c := rfl
theorem it63 : itemAt [a, b, c, d, e, g] 3 = some d := rfl
theorem it64 : itemAt [a, b, c, d, e, g] 4 = some e := rfl
theorem it65 : itemAt [a, b, c, d, e, g] 5 = some g := rfl
end
local macro_rules | `(tactic| k_extra "it") => `(tactic| first | (first | exact it60 | exact it61 | exact it62 | exact it63 | exact it64 | exact it65) | fail)
def aheadY (y mo : Int) : Int := if mo ≤ 2 then y - 1 else y
def aheadM (y mo : Int) : Int := if mo ≤ 2 then mo + 12 else mo
def ahead (y mo : Int) : Int := 365 * aheadY y mo + aheadY y mo / 4 - aheadY y mo / 100 + aheadY y mo / 400 + (153 * (aheadM y mo - 3) + 2) / 5
def lawLen (y mo : Int) : Int := (if mo = 12 then ahead (y + 1) 1 else ahead y (mo + 1)) - ahead y mo
theorem lawLen_eq {y mo : Int} (h1 : 1 ≤ mo) (h2 : mo ≤ 12) : lawLen y mo = mlen y mo := by
  have : mo = 1 ∨ mo = 2 ∨ mo = 3 ∨ mo = 4 ∨ mo = 5 ∨ mo = 6 ∨ mo = 7 ∨ mo = 8 ∨ mo = 9 ∨ mo = 10 ∨ mo = 11 ∨ mo = 12 := by omega
  unfold lawLen mlen dim ahead aheadY aheadM
  rcases this with h | h | h | h | h | h | h | h | h | h | h | h <;> subst h <;> simp only [reduceCtorEq, Int.reduceEq, Int.reduceLE, Int.reduceAdd, Int.reduceSub, Int.reduceMul, Int.reduceDiv, if_true, if_false, false_and, true_and, or_false, false_or, or_true, true_or, reduceIte] <;> first | omega | (split <;> omega)
theorem sp1015 {y mo : Int} {Q : V → St → Prop} (hmd : md.hd = false) (hy : -100000 ≤ y ∧ y ≤ 100000) (hm : -100000 ≤ mo ∧ mo ≤ 100000) (h0 : ∀ f' m', m ≤ m' → Same f m f' → Q (.int (ahead y mo)) ⟨f', m', l, md⟩) :
    W ((evX (K2 P) (n + 20)).call (.old 1015) [.int y, .int mo] []) ⟨f, m, l, md⟩ Q E := by
  have hq : mo ≤ 2 → ∀ f' m', m ≤ m' → Same f m f' → Q (.int (365 * (y - 1) + (y - 1) / 4 - (y - 1) / 100 + (y - 1) / 400 + (153 * (mo + 12 - 3) + 2) / 5)) ⟨f', m', l, md⟩ := fun h => by
    unfold ahead aheadY aheadM at h0; rw [if_pos h, if_pos h] at h0; exact h0
  have hq2 : 2 < mo → ∀ f' m', m ≤ m' → Same f m f' → Q (.int (365 * y + y / 4 - y / 100 + y / 400 + (153 * (mo - 3) + 2) / 5)) ⟨f', m', l, md⟩ := fun h => by
    unfold ahead aheadY aheadM at h0; rw [if_neg (by omega), if_neg (by omega)] at h0; exact h0
  clear h0
  refine W.fn (fd1015.2 P) (en1015 P _ _) bd1015.2 ?_
  unfold bd1015
  dsimp only
  end_is "x114"; end_is "y69"; end_is "y141"; end_is "x114"; (with_reducible refine W.swap (by decide +kernel) rfl ?_); (with_reducible refine W.tup ?_); end_is "x43"; end_is "y17"
  end_is "x67"; end_is "x43"; end_is "y112"; end_is "x44"; end_is "x83"; (with_reducible refine ⟨(by kernel_rfl : List.all _ _ = true), ?_⟩); end_is "x112"
  (focus (dsimp only [List.reverse, List.reverseAux])); end_is "y147"; end_is "x96"; end_is "y28"; end_is "x94"; end_is "y43"; end_is "y43"; end_is "y74"; end_is "y0"; end_is "x63"
  end_is "y44"; end_is "x59"; end_is "y44"; end_is "x67"; end_is "y44"; end_is "x59"; end_is "y43"; end_is "y74"; end_is "y17"; end_is "x67"; end_is "x63"; end_is "x33"; end_is "x59"
  end_is "x33"; end_is "x61"; end_is "x59"; end_is "x2"; (focus (((try dsimp only); (first | apply hq | with_unfolding_all apply hq)))); end_is "y101"; end_is "y28"; end_is "x94"
  end_is "y43"; end_is "y43"; end_is "y74"; end_is "y0"; end_is "x63"; end_is "y44"; end_is "x59"; end_is "y44"; end_is "x67"; end_is "y44"; end_is "x59"; end_is "y43"; end_is "y74"
  end_is "y17"; end_is "x67"; end_is "x63"; end_is "x33"; end_is "x59"; end_is "x33"; end_is "x61"; end_is "x59"; end_is "x2"
  (focus (((try dsimp only); (first | apply hq2 | with_unfolding_all apply hq2)))); end_is "y101"
local macro_rules | `(tactic| k_extra "spn1015") => `(tactic| first | (with_reducible refine sp1015 (by k_extra "hdt") (by k_extra "omh") (by k_extra "omh") ?_) | fail)
theorem sp1022 {y mo : Int} {Q : V → St → Prop} (hmd : md.hd = false) (hy : 1 ≤ y ∧ y ≤ 9999) (hm : 1 ≤ mo ∧ mo ≤ 12) (h0 : ∀ f' m', m ≤ m' → Same f m f' → Q (.int (mlen y mo)) ⟨f', m', l, md⟩) :
    W ((evX (K2 P) (n + 30)).call (.old 1022) [.int y, .int mo] []) ⟨f, m, l, md⟩ Q E := by
  rw [← lawLen_eq hm.1 hm.2] at h0
  have hq : mo = 12 → ∀ f' m', m ≤ m' → Same f m f' → Q (.int (ahead (y + 1) 1 - ahead y mo)) ⟨f', m', l, md⟩ := fun h => by
    unfold lawLen at h0; rw [if_pos h] at h0; exact h0
  have hq2 : mo ≠ 12 → ∀ f' m', m ≤ m' → Same f m f' → Q (.int (ahead y (mo + 1) - ahead y mo)) ⟨f', m', l, md⟩ := fun h => by
    unfold lawLen at h0; rw [if_neg h] at h0; exact h0
  clear h0
  refine W.fn (fd1022.2 P) (en1022 P _ _) bd1022.2 ?_
  unfold bd1022
  dsimp only
  end_is "y31"; (with_reducible refine W.ifE ?_); end_is "y42"; end_is "y96"; end_is "y14"; end_is "y112"; end_is "y18"; end_is "y4"; (focus (k_extra "spn1015")); end_is "y3"
  end_is "y36"; end_is "x94"; end_is "y65"; end_is "y54"; end_is "y19"; (focus (k_extra "spn1015")); end_is "y3"; end_is "x67"; end_is "x2"
  (focus (((try dsimp only); (first | apply hq | with_unfolding_all apply hq)))); end_is "y101"; end_is "y54"; end_is "y112"; end_is "y4"; (focus (k_extra "spn1015")); end_is "y3"
  end_is "y36"; end_is "x94"; end_is "y65"; end_is "y54"; end_is "y19"; (focus (k_extra "spn1015")); end_is "y3"; end_is "x67"; end_is "x2"
  (focus (((try dsimp only); (first | apply hq2 | with_unfolding_all apply hq2)))); end_is "y101"
local macro_rules | `(tactic| k_extra "spn1022") => `(tactic| first | (with_reducible refine sp1022 (by k_extra "hdt") (by k_extra "omh") (by k_extra "omh") ?_) | fail)
theorem sp1043 {i : Nat} {y mo d h mi s : Int} {Q : V → St → Prop} (hi : i < m) (ei : f i = .list [.int y, .int mo, .int d, .int h, .int mi, .int s]) (hy : -100000 ≤ y ∧ y ≤ 100000) (hmo : -100000 ≤ mo ∧ mo ≤ 100000) (hh : -100000 ≤ h ∧ h ≤ 100000) (hmi : -100000 ≤ mi ∧ mi ≤ 100000)
    (hq : ∀ f' m' r, m ≤ m' → Same f m f' → m ≤ r → r < m' → f' r = .list [.int ((y - 1980) * 512 + mo * 32 + d), .int (h * 2048 + mi * 32 + s / 2)] → Q (.ref r) ⟨f', m', l, md⟩) :
    W ((evX (K2 P) (n + 20)).call (.old 1043) [.ref i] []) ⟨f, m, l, md⟩ Q E := by
  refine W.fn (fd1043.2 P) (en1043 P _) bd1043.2 ?_
  unfold bd1043
  dsimp only
  end_is "y84"; end_is "y32"; end_is "y43"; end_is "y43"; end_is "y45"; end_is "y156"; end_is "y142"; end_is "x28"; end_is "y45"; end_is "y142"; end_is "x59"; end_is "y45"
  end_is "y148"; end_is "y43"; end_is "x28"; end_is "y45"; end_is "y142"; end_is "x28"; end_is "y45"; end_is "y142"; end_is "x59"; end_is "x28"; end_is "y45"; end_is "x33"
  end_is "x61"; end_is "x59"; end_is "y22"; end_is "x2"; (focus (((try dsimp only); (first | apply hq | with_unfolding_all apply hq)))); end_is "y85"; end_is "x10"
theorem sp1050 {i : Nat} {y mo d h mi s : Int} {Q : V → St → Prop} (hi : i < m) (ei : f i = dtO y mo d h mi s)
    (hq : ∀ f' m' r, m ≤ m' → Same f m f' → m ≤ r → r < m' → f' r = .list [.int y, .int mo, .int d, .int h, .int mi, .int s] → Q (.ref r) ⟨f', m', l, md⟩) :
    W ((evX (K2 P) (n + 20)).call (.old 1050) [.ref i] []) ⟨f, m, l, md⟩ Q E := by
  refine W.fn (fd1050.2 P) (en1050 P _) bd1050.2 ?_
  unfold bd1050
  dsimp only
  end_is "y84"; end_is "y32"; end_is "y159"; end_is "y159"; end_is "y57"; end_is "y16"; end_is "y22"; end_is "x2"
  (focus (((try dsimp only); (first | apply hq | with_unfolding_all apply hq)))); end_is "y85"; end_is "x10"
local macro_rules | `(tactic| k_extra "spn1043") => `(tactic| first | (with_reducible refine sp1043 (by k_extra "lt") (by k_extra "ob2") (by k_extra "omh") (by k_extra "omh") (by k_extra "omh") (by k_extra "omh") ?_) | fail)
local macro_rules | `(tactic| k_extra "spn1050") => `(tactic| first | (with_reducible refine sp1050 (by k_extra "lt") (by k_extra "ob2") ?_) | fail)
local macro_rules | `(tactic| k_extra "iff1") => `(tactic| first | (((try simp only [holdE] at *); simp only [decide_eq_true_eq, Bool.false_eq_true, false_iff, true_iff, okDate, okTime]; omega)) | fail)
local macro_rules | `(tactic| k_extra "exkIff") => `(tactic| first | (k_extra "iff1") | fail)
theorem sp1029 {i : Nat} {y mo d h mi s : Int} {Q : V → St → Prop} (hmd : md.hd = false) (hi : i < m) (ei : f i = .list [.int y, .int mo, .int d, .int h, .int mi, .int s])
    (hq : ∀ b : Bool, (b = true ↔ okDate y mo d ∧ okTime h mi s) → ∀ f' m', m ≤ m' → Same f m f' → Q (.bool b) ⟨f', m', l, md⟩) :
    W ((evX (K2 P) (n + 50)).call (.old 1029) [.ref i] []) ⟨f, m, l, md⟩ Q E := by
  refine W.fn (fd1029.2 P) (en1029 P _) bd1029.2 ?_
  unfold bd1029
  dsimp only
  end_is "x114"; (with_reducible refine W.assignT (by decide +kernel) (by decide +kernel) rfl ?_); end_is "y0"; end_is "x111"; end_is "y147"; end_is "y147"; end_is "y147"; end_is "x96"
  end_is "y2"; end_is "y94"; end_is "x92"; end_is "y198"; end_is "y199"; end_is "y60"; end_is "x94"; end_is "x30"; end_is "x2"
  (focus (((try dsimp only); (first | apply hq | with_unfolding_all apply hq)))); end_is "y102"; end_is "x92"; end_is "y198"; end_is "y79"; end_is "y60"; end_is "x94"; end_is "x30"
  end_is "x2"; (focus (((try dsimp only); (first | apply hq | with_unfolding_all apply hq)))); end_is "y102"; end_is "x92"; end_is "y198"; end_is "y199"; end_is "y60"; end_is "x94"
  end_is "x30"; end_is "x2"; (focus (((try dsimp only); (first | apply hq | with_unfolding_all apply hq)))); end_is "y102"; end_is "x92"; end_is "y198"; end_is "y79"; end_is "y60"
  end_is "x94"; end_is "x30"; end_is "x2"; (focus (((try dsimp only); (first | apply hq | with_unfolding_all apply hq)))); end_is "y102"; end_is "x92"; end_is "y198"; end_is "y199"
  end_is "y60"; end_is "x94"; end_is "x30"; end_is "x2"; (focus (((try dsimp only); (first | apply hq | with_unfolding_all apply hq)))); end_is "y102"; (with_reducible refine W.orN ?_)
  end_is "y88"; end_is "x94"; (with_reducible refine W.boolE ?_); (with_reducible refine W.bvAnd ?_); end_is "x42"; end_is "y0"; end_is "x40"; end_is "y54"; end_is "y19"
  (focus (k_extra "spn1022")); end_is "y3"; end_is "y46"; (with_reducible refine W.bvAnd ?_); end_is "y204"; end_is "y199"; (with_reducible refine W.bvAnd ?_); end_is "y204"
  end_is "y199"; (with_reducible refine W.bv1 ?_); end_is "y204"; end_is "x35"; end_is "x2"; (focus (((try dsimp only); (first | apply hq | with_unfolding_all apply hq))))
  end_is "y102"; end_is "x2"; (focus (((try dsimp only); (first | apply hq | with_unfolding_all apply hq)))); end_is "y102"; end_is "x2"
  (focus (((try dsimp only); (first | apply hq | with_unfolding_all apply hq)))); end_is "y102"; end_is "y10"; (with_reducible refine W.bv1 ?_); end_is "y204"; end_is "x35"
  end_is "x2"; (focus (((try dsimp only); (first | apply hq | with_unfolding_all apply hq)))); end_is "y205"
  (focus (((try dsimp only); (first | apply hq | with_unfolding_all apply hq)))); end_is "y205"; (focus (((try dsimp only); (first | apply hq | with_unfolding_all apply hq))))
  end_is "y102"; end_is "x2"; (focus (((try dsimp only); (first | apply hq | with_unfolding_all apply hq)))); end_is "y102"; end_is "y10"; (with_reducible refine W.bvAnd ?_)
  end_is "y204"; end_is "y199"; (with_reducible refine W.bv1 ?_); end_is "y204"; end_is "x35"; end_is "x2"
  (focus (((try dsimp only); (first | apply hq | with_unfolding_all apply hq)))); end_is "y205"; (focus (((try dsimp only); (first | apply hq | with_unfolding_all apply hq))))
  end_is "y205"; (focus (((try dsimp only); (first | apply hq | with_unfolding_all apply hq)))); end_is "y101"; end_is "y10"; (with_reducible refine W.bv1 ?_); end_is "y204"
  end_is "x35"; end_is "x2"; (focus (((try dsimp only); (first | apply hq | with_unfolding_all apply hq)))); end_is "y205"
  (focus (((try dsimp only); (first | apply hq | with_unfolding_all apply hq)))); end_is "y205"; (focus (((try dsimp only); (first | apply hq | with_unfolding_all apply hq))))
  end_is "y205"; (focus (((try dsimp only); (first | apply hq | with_unfolding_all apply hq)))); end_is "y102"; end_is "x2"
  (focus (((try dsimp only); (first | apply hq | with_unfolding_all apply hq)))); end_is "y102"
local macro_rules | `(tactic| k_extra "spn1029") => `(tactic| first | (with_reducible refine sp1029 (by k_extra "hdt") (by k_extra "lt") (by k_extra "ob2") ?_) | fail)
theorem due1 {x : Int} (h : 0 ≤ x ∧ x < 65536) (b : okDate (1980 + x / 512) (x / 32 % 16) (x % 32)) : DueD x (1980 + x / 512) (x / 32 % 16) (x % 32) := by
  have e : 1980 + x / 512 = x / 512 % 128 + 1980 := by omega
  rw [e] at b ⊢
  exact .inl ⟨b, rfl, rfl, rfl⟩
theorem due2 {x : Int} (h : 0 ≤ x ∧ x < 65536) (b : ¬ okDate (1980 + x / 512) (x / 32 % 16) (x % 32)) : DueD x 1980 1 1 := by
  have e : 1980 + x / 512 = x / 512 % 128 + 1980 := by omega
  rw [e] at b
  exact .inr ⟨b, rfl, rfl, rfl⟩
theorem due3 {x : Int} (h : 0 ≤ x ∧ x < 65536) (b : okTime (x / 2048) (x / 32 % 64) (x % 32 * 2)) : DueT x (x / 2048) (x / 32 % 64) (x % 32 * 2) := by
  have e : x / 2048 = x / 2048 % 32 := by omega
  rw [e] at b ⊢
  exact .inl ⟨b, rfl, rfl, rfl⟩
theorem due4 {x : Int} (h : 0 ≤ x ∧ x < 65536) (b : ¬ okTime (x / 2048) (x / 32 % 64) (x % 32 * 2)) : DueT x 0 0 0 := by
  have e : x / 2048 = x / 2048 % 32 := by omega
  rw [e] at b
  exact .inr ⟨b, rfl, rfl, rfl⟩
theorem due1' {x : Int} {b : Bool} (h : 0 ≤ x ∧ x < 65536) (k : b = true ↔ okDate (1980 + x / 512) (x / 32 % 16) (x % 32) ∧ okTime 0 0 0) (hb : Hold (b = true)) : DueD x (1980 + x / 512) (x / 32 % 16) (x % 32) := due1 h (k.1 hb.get).1
theorem due2' {x : Int} {b : Bool} (h : 0 ≤ x ∧ x < 65536) (k : b = true ↔ okDate (1980 + x / 512) (x / 32 % 16) (x % 32) ∧ okTime 0 0 0) (hb : Hold (b = false)) : DueD x 1980 1 1 := due2 h fun q => Bool.false_ne_true (hb.get.symm.trans (k.2 ⟨q, ok00⟩))
theorem due3' {t : Int} {b : Bool} (h : 0 ≤ t ∧ t < 65536) (k : b = true ↔ okDate 1980 1 1 ∧ okTime (t / 2048) (t / 32 % 64) (t % 32 * 2)) (hb : Hold (b = true)) : DueT t (t / 2048) (t / 32 % 64) (t % 32 * 2) := due3 h (k.1 hb.get).2
theorem due4' {t : Int} {b : Bool} (h : 0 ≤ t ∧ t < 65536) (k : b = true ↔ okDate 1980 1 1 ∧ okTime (t / 2048) (t / 32 % 64) (t % 32 * 2)) (hb : Hold (b = false)) : DueT t 0 0 0 := due4 h fun q => Bool.false_ne_true (hb.get.symm.trans (k.2 ⟨ok80, q⟩))
local macro_rules | `(tactic| k_extra "exkDueD") => `(tactic| first | (first | exact due1' (by assumption) (by assumption) (by assumption) | exact due2' (by assumption) (by assumption) (by assumption)) | fail)
local macro_rules | `(tactic| k_extra "exkDueT") => `(tactic| first | (first | exact due3' (by assumption) (by assumption) (by assumption) | exact due4' (by assumption) (by assumption) (by assumption)) | fail)
theorem sp1036 {x t : Int} {Q : V → St → Prop} (hmd : md.hd = false) (hx : 0 ≤ x ∧ x < 65536) (ht : 0 ≤ t ∧ t < 65536)
    (hq : ∀ y mo d h mi s, DueD x y mo d → DueT t h mi s → ∀ f' m' r, m ≤ m' → Same f m f' → m ≤ r → r < m' → f' r = .list [.int y, .int mo, .int d, .int h, .int mi, .int s] → Q (.ref r) ⟨f', m', l, md⟩) :
    W ((evX (K2 P) (n + 60)).call (.old 1036) [.int x, .int t] []) ⟨f, m, l, md⟩ Q E := by
  refine W.fn (fd1036.2 P) (en1036 P _ _) bd1036.2 ?_
  unfold bd1036
  dsimp only
  end_is "y31"; end_is "y32"; end_is "y74"; end_is "y44"; end_is "y148"; end_is "y139"; end_is "x43"; end_is "y37"; end_is "y22"; end_is "y98"; end_is "y32"; end_is "y44"; end_is "x43"
  end_is "y139"; end_is "x43"; end_is "x28"; end_is "y37"; end_is "y142"; end_is "y22"; end_is "y36"; end_is "x69"; end_is "y92"; end_is "y14"; end_is "y65"; end_is "y179"
  end_is "x76"; end_is "y4"; (focus (k_extra "spn1029")); end_is "y63"; end_is "y10"; end_is "y31"; end_is "y179"; end_is "y119"; end_is "x69"; end_is "y92"; end_is "y14"; end_is "x28"
  end_is "y179"; end_is "y0"; end_is "x76"; end_is "y4"; (focus (k_extra "spn1029")); end_is "y63"; end_is "y10"; end_is "y31"; end_is "y179"; end_is "y119"; end_is "x94"; end_is "y65"
  end_is "y0"; end_is "x76"; end_is "x2"; (focus (((try dsimp only); (first | apply hq | with_unfolding_all apply hq)))); (focus (k_extra "exkDueD")); (focus (k_extra "exkDueT"))
  end_is "y85"; end_is "x10"; end_is "y28"; end_is "x94"; end_is "y65"; end_is "y0"; end_is "x76"; end_is "x2"
  (focus (((try dsimp only); (first | apply hq | with_unfolding_all apply hq)))); (focus (k_extra "exkDueD")); (focus (k_extra "exkDueT")); end_is "y85"; end_is "x10"; end_is "y28"
  end_is "x69"; end_is "y92"; end_is "y14"; end_is "x28"; end_is "y179"; end_is "y0"; end_is "x76"; end_is "y4"; (focus (k_extra "spn1029")); end_is "y63"; end_is "y10"; end_is "y31"
  end_is "y179"; end_is "y119"; end_is "x94"; end_is "y65"; end_is "y0"; end_is "x76"; end_is "x2"; (focus (((try dsimp only); (first | apply hq | with_unfolding_all apply hq))))
  (focus (k_extra "exkDueD")); (focus (k_extra "exkDueT")); end_is "y85"; end_is "x10"; end_is "y28"; end_is "x94"; end_is "y65"; end_is "y0"; end_is "x76"; end_is "x2"
  (focus (((try dsimp only); (first | apply hq | with_unfolding_all apply hq)))); (focus (k_extra "exkDueD")); (focus (k_extra "exkDueT")); end_is "y85"; end_is "x10"
local macro_rules | `(tactic| k_extra "spn1036") => `(tactic| first | (with_reducible refine sp1036 (by k_extra "hdt") (by k_extra "omh") (by k_extra "omh") ?_) | fail)
def sel02 : Nat → Bool := fun l => [441, 617, 621, 622, 724, 744, 748, 751, 759].contains l
theorem it11 {b0 b1 b2 b3 b4 b5 b6 b7 b8 b9 b10 : UInt8} : itemAt [b0, b1, b2, b3, b4, b5, b6, b7, b8, b9, b10] 0 = some b0 := rfl
local macro_rules | `(tactic| k_extra "it") => `(tactic| first | (exact it11) | fail)
local macro_rules | `(tactic| k_extra "spn691") => `(tactic| first | (with_reducible refine sp691 (by k_extra "lt") (by k_extra "ob2") (by k_extra "lt") (by k_extra "ob2") (by k_extra "lq") ?_) | fail)
theorem sp698 {i : Nat} {enc v : V} {b0 b1 b2 b3 b4 b5 b6 b7 b8 b9 b10 : UInt8} {Q : V → St → Prop} (hi : i < m) (ei : f i = nmO v enc false) (h1 : (b0.toNat : Int) ≠ 0) (h2 : (b0.toNat : Int) ≠ 229)
    (hq : ∀ f' m', m < m' → SameX f m i f' → f' i = nmO (.ref m) enc true → f' m = .barr [b0, b1, b2, b3, b4, b5, b6, b7, b8, b9, b10] → Q .none ⟨f', m', l, md⟩) :
    W ((nvN (K2 P) (evX (K2 P) (k + 100)) sel02 (n + 5)).call (.old 698) [.ref i, .bytes [b0, b1, b2, b3, b4, b5, b6, b7, b8, b9, b10]] []) ⟨f, m, l, md⟩ Q E := by
  refine W.nFn (fd698.2 P) (en698 P _ _) bd698.2 ?_
  unfold bd698
  dsimp only
  end_is "y30"; end_is "x69"; end_is "y207"; rotate_left; rotate_right; end_is "x115"; end_is "x2"; end_is "x85"; end_is "x84"; (with_reducible refine W.nName (by decide +kernel) ?_)
  end_is "y7"; end_is "y70"; (with_reducible refine W.nBarr (by k_extra "ln") ?_); (with_reducible refine W.aName ?_); end_is "y208"; end_is "x69"; end_is "x103"; end_is "y29"
  (with_reducible refine W.len3 (by k_extra "lt") (by k_extra "ob2") (by k_extra "ln") ?_); end_is "y33"; end_is "x36"; end_is "y164"; rotate_left; rotate_right; end_is "y180"
  end_is "y94"; end_is "y118"; end_is "y35"; end_is "x48"; end_is "y96"; end_is "x4"; rotate_left; rotate_right; end_is "y118"; end_is "y35"; end_is "x48"; end_is "y96"; end_is "x4"
  rotate_left; rotate_right; (with_reducible refine W.orN ?_); end_is "x5"; rotate_left; rotate_right; end_is "y180"; end_is "y163"; end_is "y78"; (focus (k_extra "spn691"))
  end_is "x86"; (focus (((try dsimp only); (first | apply hq | with_unfolding_all apply hq)))); end_is "x9"; (focus (k_extra "samex")); end_is "y93"
local macro_rules | `(tactic| k_extra "spn698") => `(tactic| first | (with_reducible refine sp698 (by k_extra "lt") (by k_extra "ob2") (by k_extra "omh") (by k_extra "omh") ?_) | fail)
theorem rgL_len (a c : Int) : ∀ n : Nat, (rangeL a c n).length = n
  | 0 => rfl
  | n + 1 => by show (rangeL (a + c) c n).length + 1 = n + 1; rw [rgL_len (a + c) c n]
theorem rgL_get : ∀ (n : Nat) (a c : Int) (k : Nat), k < n → (rangeL a c n)[k]? = some (a + c * k)
  | 0, _, _, _, h => by omega
  | n + 1, a, c, 0, _ => by show some a = _; simp
  | n + 1, a, c, k + 1, h => by
    show (rangeL (a + c) c n)[k]? = _
    rw [rgL_get n (a + c) c k (by omega)]
    congr 1
    push_cast
    rw [Int.mul_add]
    omega
theorem rng_up {a b c : Int} {g : Nat} (hc : 0 < c) (hb : b = a + c * g) : rngL a b c = (rangeL a c g).map .int := by
  unfold rngL
  have : (Builtin.Range.rangeSize a b c).toNat = g := by
    unfold Builtin.Range.rangeSize
    rw [if_pos hc]
    subst hb
    by_cases h : g = 0
    · subst h; simp
    · have h1 : 0 < c * g := Int.mul_pos hc (by omega)
      rw [if_pos (by omega)]
      have e : a + c * g - a - 1 = (c * (g - 1) + (c - 1)) := by rw [Int.mul_sub]; omega
      rw [e, Int.mul_add_ediv_left _ _ (by omega), Int.ediv_eq_zero_of_lt (by omega) (by omega)]
      omega
  rw [this]
theorem rng_get {a b c : Int} {g k : Nat} {v : V} (hc : 0 < c) (hb : b = a + c * g) (h : (rngL a b c)[k]? = some v) : k < g ∧ v = .int (a + c * k) := by
  rw [rng_up hc hb, List.getElem?_map] at h
  by_cases hk : k < g
  · rw [rgL_get g a c k hk] at h
    cases h
    exact ⟨hk, rfl⟩
  · rw [List.getElem?_eq_none (by rw [rgL_len]; omega)] at h
    cases h
theorem rng_len {a b c : Int} {g : Nat} (hc : 0 < c) (hb : b = a + c * g) : (rngL a b c).length = g := by
  rw [rng_up hc hb, List.length_map, rgL_len]
theorem rng_small {a b c : Int} {g : Nat} (ha : 0 ≤ a ∧ a ≤ 1000000000) (hb : b = a + c * g) (hb' : b ≤ 1000000000) (hc : 0 < c ∧ c ≤ 1000) : Builtin.Range.small a b c = true := by
  have e : Builtin.Range.rangeSize a b c = g := by
    have := rng_len (a := a) (b := b) hc.1 hb
    unfold rngL at this
    rw [List.length_map, rgL_len] at this
    have h0 : 0 ≤ Builtin.Range.rangeSize a b c := by
      unfold Builtin.Range.rangeSize
      rw [if_pos hc.1]
      split
      · have := Int.ediv_nonneg (a := b - a - 1) (b := c) (by omega) (by omega); omega
      · omega
    omega
  have hg : (g : Int) ≤ c * g := by
    have := Int.mul_le_mul_of_nonneg_right (a := 1) (b := c) (c := (g : Int)) (by omega) (by omega)
    omega
  unfold Builtin.Range.small
  rw [e, if_pos hc.1]
  have k : ∀ x : Int, 0 ≤ x → x ≤ 2000000000 → Builtin.Range.rangeFitsLong x = true := fun x h1 h2 => by
    unfold Builtin.Range.rangeFitsLong
    simp only [Bool.and_eq_true, decide_eq_true_eq]
    omega
  rw [k a (by omega) (by omega), k b (by omega) (by omega), k c (by omega) (by omega), k g (by omega) (by omega), k (b + (c - 1)) (by omega) (by omega)]
  simp
def gB (c : List UInt8) (k : Nat) : UInt8 := c.getD k 0
def g1 (c : List UInt8) (k : Nat) : Int := ((gB c k).toNat : Nat)
def g2 (c : List UInt8) (k : Nat) : Int := (leNat [gB c k, gB c (k + 1)] : Nat)
def g4 (c : List UInt8) (k : Nat) : Int := (leNat [gB c k, gB c (k + 1), gB c (k + 2), gB c (k + 3)] : Nat)
structure EntAt (f : Nat → O) (m : Nat) (enc : V) (c : List UInt8) (j : Nat) : Prop where
  ex : ∃ jn jb jd lz fv, j < m ∧ jn < m ∧ jb < m ∧ jd < m ∧ f j = entO (.ref jn) (g1 c 11) (g1 c 12) (g1 c 13) (g2 c 14) (g2 c 16) (g2 c 18) (g2 c 20) (g2 c 22) (g2 c 24) (g2 c 26) (g4 c 28) lz fv jd enc ∧ f jn = nmO (.ref jb) enc true ∧ f jb = .barr (c.take 11)
theorem EntAt.same {f f' : Nat → O} {m m' : Nat} {enc : V} {c : List UInt8} {j : Nat} (h : EntAt f m enc c j) (hs : Same f m f') (hm : m ≤ m') : EntAt f' m' enc c j := by
  obtain ⟨jn, jb, jd, lz, fv, h1, h2, h3, h4, e1, e2, e3⟩ := h.ex
  exact ⟨jn, jb, jd, lz, fv, by omega, by omega, by omega, by omega, hs.get h1 e1, hs.get h2 e2, hs.get h3 e3⟩
theorem len32 {c : List UInt8} (h : c.length = 32) : ∃ b0 b1 b2 b3 b4 b5 b6 b7 b8 b9 b10 b11 b12 b13 b14 b15 b16 b17 b18 b19 b20 b21 b22 b23 b24 b25 b26 b27 b28 b29 b30 b31, c = [b0, b1, b2, b3, b4, b5, b6, b7, b8, b9, b10, b11, b12, b13, b14, b15, b16, b17, b18, b19, b20, b21, b22, b23, b24, b25, b26, b27, b28, b29, b30, b31] := by
  have g : ∀ k, k < 32 → ∃ b, c[k]? = some b := fun k hk => ⟨c[k], List.getElem?_eq_getElem (by omega)⟩
  refine ⟨gB c 0, gB c 1, gB c 2, gB c 3, gB c 4, gB c 5, gB c 6, gB c 7, gB c 8, gB c 9, gB c 10, gB c 11, gB c 12, gB c 13, gB c 14, gB c 15, gB c 16, gB c 17, gB c 18, gB c 19, gB c 20, gB c 21, gB c 22, gB c 23, gB c 24, gB c 25, gB c 26, gB c 27, gB c 28, gB c 29, gB c 30, gB c 31, ?_⟩
  apply List.ext_getElem?
  intro k
  by_cases hk : k < 32
  · have : k = 0 ∨ k = 1 ∨ k = 2 ∨ k = 3 ∨ k = 4 ∨ k = 5 ∨ k = 6 ∨ k = 7 ∨ k = 8 ∨ k = 9 ∨ k = 10 ∨ k = 11 ∨ k = 12 ∨ k = 13 ∨ k = 14 ∨ k = 15 ∨ k = 16 ∨ k = 17 ∨ k = 18 ∨ k = 19 ∨ k = 20 ∨ k = 21 ∨ k = 22 ∨ k = 23 ∨ k = 24 ∨ k = 25 ∨ k = 26 ∨ k = 27 ∨ k = 28 ∨ k = 29 ∨ k = 30 ∨ k = 31 := by omega
    rcases this with rfl | rfl | rfl | rfl | rfl | rfl | rfl | rfl | rfl | rfl | rfl | rfl | rfl | rfl | rfl | rfl | rfl | rfl | rfl | rfl | rfl | rfl | rfl | rfl | rfl | rfl | rfl | rfl | rfl | rfl | rfl | rfl <;> (obtain ⟨b, hb⟩ := g _ hk; unfold gB; rw [List.getD_eq_getElem?_getD]; simp [List.getD_eq_getElem?_getD, hb])
  · rw [List.getElem?_eq_none (by omega), List.getElem?_eq_none (by simp; omega)]
structure SameY (f : Nat → O) (m i k : Nat) (f' : Nat → O) : Prop where
  get : ∀ {j : Nat} {o : O}, j < m → j ≠ i → j ≠ k → f j = o → f' j = o
theorem SameY.refl {f : Nat → O} {m i k : Nat} : SameY f m i k f := ⟨fun _ _ _ e => e⟩
theorem SameY.upd {f f' : Nat → O} {m i k j : Nat} {o : O} (h : SameY f m i k f') (hj : m ≤ j) : SameY f m i k (updO f' j o) := ⟨fun hk hn hn' e => updO_other (by omega) (h.get hk hn hn' e)⟩
theorem SameY.here1 {f f' : Nat → O} {m i k : Nat} {o : O} (h : SameY f m i k f') : SameY f m i k (updO f' i o) := ⟨fun hk hn hn' e => updO_other hn (h.get hk hn hn' e)⟩
theorem SameY.here2 {f f' : Nat → O} {m i k : Nat} {o : O} (h : SameY f m i k f') : SameY f m i k (updO f' k o) := ⟨fun hk hn hn' e => updO_other hn' (h.get hk hn hn' e)⟩
theorem SameY.same {f f' f'' : Nat → O} {m m' i k : Nat} (h : SameY f m i k f') (h' : Same f' m' f'') (hm : m ≤ m') : SameY f m i k f'' := ⟨fun hj hn hn' e => h'.get (by omega) (h.get hj hn hn' e)⟩
theorem SameY.samex {f f' f'' : Nat → O} {m m' i k : Nat} (h : SameY f m i k f') (h' : SameX f' m' i f'') (hm : m ≤ m') : SameY f m i k f'' := ⟨fun hj hn hn' e => h'.get (by omega) hn (h.get hj hn hn' e)⟩
theorem SameY.thenx {f f' f'' : Nat → O} {m m' i k j : Nat} (h : SameY f m i k f') (h' : SameX f' m' j f'') (hm : m ≤ m') (hj : m ≤ j) : SameY f m i k f'' := ⟨fun hq hn hn' e => h'.get (by omega) (by omega) (h.get hq hn hn' e)⟩
local macro_rules | `(tactic| k_extra "samey") => `(tactic| first | (((repeat (first | with_reducible exact SameY.refl | with_reducible assumption | with_reducible refine SameY.here1 ?_ | with_reducible refine SameY.here2 ?_ | with_reducible refine SameY.upd ?_ (by omega) | with_reducible refine SameY.samex ?_ (by assumption) (by omega) | with_reducible refine SameY.thenx ?_ (by assumption) (by omega) (by omega) | with_reducible refine SameY.same ?_ (by assumption) (by omega))); first | done | fail "x")) | fail)
abbrev slOk (sl : Slot) : Prop := sl = .unset ∨ ∃ w, sl = .val w
abbrev loc959 (i : Nat) (mx : Int) (lf fl : Nat) (s1 s2 s3 s4 s5 : Slot) : List (Nat × Slot) := [(nid "self", .val (.ref i)), (nid "address", .val (.int 32)), (nid "max_address", .val (.int mx)), (nid "tmp_lfn_entry", .val (.ref lf)), (nid "dir_hdr_size", .val (.int 32)), (nid "dir_entries", .val (.ref fl)), (nid "hdr_addr", s1), (nid "dir_hdr", s2), (nid "dir_sn", s3), (nid "dir_first_byte", s4), (nid "ex", .unset), (nid "dir_entry", s5), (nid "cluster", .unset), (nid "subdirs", .unset), (nid "d", .unset), (nid "FATLongDirectoryEntry", .glob), (nid "FATDirectoryEntry", .glob), (nid "range", .glob), (nid "EightDotThree", .glob), (nid "NotAFatEntryException", .glob)]
local macro_rules | `(tactic| k_extra "exkSameY") => `(tactic| first | (k_extra "samey") | fail)
def forBody (b : List Stmt) (k : Nat) : List Stmt := match b[k]? with | some (.For _ _ body _ _) => body | _ => []
def lb959 : { b : List Stmt // forBody bd959.1 4 = b } := by
  refine ⟨?b, ?h⟩
  case h => conv => lhs; whnf
theorem leNat4 {b0 b1 b2 b3 : UInt8} : ((leNat [b0, b1, b2, b3] : Nat) : Int) ≤ 4294967295 := by
  have h0 := b0.toNat_lt
  have h1 := b1.toNat_lt
  have h2 := b2.toNat_lt
  have h3 := b3.toNat_lt
  show ((b0.toNat + 256 * (b1.toNat + 256 * (b2.toNat + 256 * (b3.toNat + 256 * 0))) : Nat) : Int) ≤ _
  omega
local macro_rules | `(tactic| k_extra "spn558") => `(tactic| first | (with_reducible refine sp558 (by k_extra "hdt") leNat4 ?_) | fail)
local macro_rules | `(tactic| k_extra "exkslOk") => `(tactic| first | (k_extra "so") | fail)
theorem lb959_step {i b r lf lr fl : Nat} {a x mx : Int} {d : List UInt8} {w : Bool} {en : Str} {es : List V} {s2 s3 s4 s5 : Slot} {b0 b1 b2 b3 b4 b5 b6 b7 b8 b9 b10 b11 b12 b13 b14 b15 b16 b17 b18 b19 b20 b21 b22 b23 b24 b25 b26 b27 b28 b29 b30 b31 : UInt8} {Q : Fl → St → Prop} (hmd : md.hd = false) (hi : i < m) (ei : f i = pfO (.ref b) 3 r (.str en)) (hb : b < m) (eb : f b = ocO d w x) (hib : i ≠ b)
    (hlf : lf < m) (elf : f lf = .inst 633 [(nid "lfn_entries", .ref lr)]) (nlf : lf ≠ b) (hlr : lr < m) (elr : f lr = .dict []) (nlr : lr ≠ b) (hfl : fl < m) (efl : f fl = .list es) (nfl : fl ≠ b) (nif : i ≠ fl) (hes : es.length ≤ 1000)
    (o2 : slOk s2) (o3 : slOk s3) (o4 : slOk s4) (o5 : slOk s5) (h0 : (b0.toNat : Int) ≠ 0) (h1 : (b0.toNat : Int) ≠ 229) (h2 : Hold ((b11.toNat : Int) % 64 ≠ 15))
    (ha : 0 ≤ a + 3) (hl : a + 3 + 32 ≤ d.length) (hz : d.length ≤ 16777216) (hc : (d.drop (a + 3).toNat).take 32 = [b0, b1, b2, b3, b4, b5, b6, b7, b8, b9, b10, b11, b12, b13, b14, b15, b16, b17, b18, b19, b20, b21, b22, b23, b24, b25, b26, b27, b28, b29, b30, b31])
    (hq : ∀ f' m' lf' lr' j jn jb jd s2 s3 s4 s5, m ≤ m' → SameY f m b fl f' → f' b = ocO d w (a + 3 + 32) → (m ≤ lf' ∧ lf' < m') → f' lf' = .inst 633 [(nid "lfn_entries", .ref lr')] → (m ≤ lr' ∧ lr' < m') → f' lr' = .dict [] → f' fl = .list (es ++ [.ref j]) →
      (j < m' ∧ jn < m' ∧ jb < m' ∧ jd < m') → f' j = entO (.ref jn) (.ofNat b11.toNat) (.ofNat b12.toNat) (.ofNat b13.toNat) (.ofNat (leNat [b14, b15])) (.ofNat (leNat [b16, b17])) (.ofNat (leNat [b18, b19])) (.ofNat (leNat [b20, b21])) (.ofNat (leNat [b22, b23])) (.ofNat (leNat [b24, b25])) (.ofNat (leNat [b26, b27])) (.ofNat (leNat [b28, b29, b30, b31])) (.bool true) (.ref i) jd (.str en) → f' jn = nmO (.ref jb) (.str en) true → f' jb = .barr [b0, b1, b2, b3, b4, b5, b6, b7, b8, b9, b10] →
      slOk s2 → slOk s3 → slOk s4 → slOk s5 → Q .next ⟨f', m', loc959 i mx lf' fl (.val (.int a)) s2 s3 s4 s5, md⟩) :
    W (execN (nvN (K2 P) (evX (K2 P) (k + 200)) sel02 (n + 14)) lb959.1) ⟨f, m, loc959 i mx lf fl (.val (.int a)) s2 s3 s4 s5, md⟩ Q E := by
  unfold lb959 loc959
  dsimp only
  end_is "y30"; end_is "x24"; end_is "y48"; end_is "y78"; (focus (k_extra "spn951")); end_is "y21"; end_is "y91"; end_is "y30"; end_is "x24"; end_is "y13"; end_is "x119"; end_is "x44"
  end_is "x74"; end_is "y16"; end_is "x75"; (focus (k_extra "spn756")); end_is "y68"; end_is "y208"; end_is "x24"; end_is "x101"; end_is "y82"; end_is "x33"; end_is "x49"; end_is "x97"
  end_is "x2"; end_is "x85"; (with_reducible refine W.nTry (by decide +kernel) ?_); end_is "x85"; (with_reducible refine W.nExpr (by decide +kernel) (by decide +kernel) ?_)
  (with_reducible refine W.nMeth (by decide +kernel) ?_); end_is "y0"; end_is "x56"; end_is "y6"; end_is "y82"; end_is "y27"; (focus (k_extra "spn698")); end_is "y63"; end_is "x86"
  end_is "y62"; (with_reducible refine W.assignS' (by decide +kernel) ?_); end_is "y0"; end_is "y0"; end_is "x38"
  (with_reducible refine W.sDict (by k_extra "lt") (by k_extra "ob2") (by decide +kernel) (by k_extra "ln") (by k_extra "pt") ?_); end_is "x2"; end_is "x86"; end_is "y62"; end_is "x69"
  end_is "x105"; end_is "x81"; end_is "y7"; end_is "x55"; end_is "y6"; end_is "y24"; end_is "y82"; end_is "y27"; (focus (k_extra "spn613")); end_is "y10"; rotate_left; rotate_right
  end_is "y180"; end_is "x69"; end_is "y92"; end_is "y72"; (focus (k_extra "spn630")); end_is "y10"; rotate_left; rotate_right; end_is "y31"; end_is "x37"; end_is "y39"; end_is "y62"
  end_is "x24"; end_is "y13"; end_is "x119"; end_is "x44"; end_is "y197"; end_is "x74"; end_is "y16"; end_is "y197"; end_is "x74"; end_is "y16"; end_is "y103"; end_is "y103"
  end_is "y103"; end_is "y103"; end_is "y103"; end_is "y103"; end_is "y103"; end_is "y103"; end_is "y103"; end_is "y103"; end_is "y103"; end_is "y103"; end_is "x75"
  (focus (k_extra "spn558")); end_is "y21"; end_is "y1"; end_is "y208"; end_is "y61"; end_is "y32"; end_is "y0"; end_is "y145"; end_is "y208"; end_is "x69"; end_is "y92"; end_is "y16"
  end_is "y10"; rotate_left; rotate_right; end_is "y180"; end_is "x24"; end_is "y13"; end_is "x119"; end_is "y4"; (focus (k_extra "spn633")); end_is "y21"; end_is "y91"; end_is "x2"
  end_is "x86"; (focus (((try dsimp only); (first | apply hq | with_unfolding_all apply hq)))); end_is "x9"; (focus (k_extra "exkSameY")); end_is "x10"; end_is "x12"; end_is "x0"
  end_is "x12"; end_is "x0"; end_is "x10"; rotate_left; end_is "y93"; end_is "x10"; end_is "y149"; rotate_left; rotate_left; rotate_left; rotate_left; rotate_left; rotate_right
  rotate_right; rotate_right; rotate_right; rotate_right; rotate_right; end_is "x12"
structure RecOk (d : List UInt8) (k : Nat) (c : List UInt8) : Prop where
  at_ : (d.drop (35 + 32 * k)).take 32 = c
  len : c.length = 32
  n0 : g1 c 0 ≠ 0
  n1 : g1 c 0 ≠ 229
  a : g1 c 11 % 64 ≠ 15
def I959 (f : Nat → O) (m i b : Nat) (enc : V) (d : List UInt8) (w : Bool) (mx : Int) (md : Mode) (cs : List (List UInt8)) (t : Nat) (s : St) : Prop :=
  ∃ (f' : Nat → O) (m' lf lr fl : Nat) (es : List Nat) (x' : Int) (s1 s2 s3 s4 s5 : Slot), s = ⟨f', m', loc959 i mx lf fl s1 s2 s3 s4 s5, md⟩ ∧ slOk s1 ∧ slOk s2 ∧ slOk s3 ∧ slOk s4 ∧ slOk s5 ∧ m ≤ m' ∧ SameX f m b f' ∧ f' b = ocO d w x' ∧ (m ≤ lf ∧ lf < m' ∧ f' lf = .inst 633 [(nid "lfn_entries", .ref lr)]) ∧ (m ≤ lr ∧ lr < m' ∧ f' lr = .dict []) ∧ (m ≤ fl ∧ fl < m' ∧ f' fl = .list (es.map V.ref)) ∧ es.length = t ∧
  ∀ k c, k < t → cs[k]? = some c → ∃ j, es[k]? = some j ∧ EntAt f' m' enc c j
theorem EntAt.sameY {f f' : Nat → O} {m m' b fl : Nat} {d : List UInt8} {w : Bool} {x : Int} {vs : List V} {enc : V} {c : List UInt8} {j : Nat} (h : EntAt f m enc c j) (hs : SameY f m b fl f') (hm : m ≤ m') (hb : f b = ocO d w x) (hfl : f fl = .list vs) : EntAt f' m' enc c j := by
  obtain ⟨jn, jb, jd, lz, fv, h1, h2, h3, h4, e1, e2, e3⟩ := h.ex
  refine ⟨jn, jb, jd, lz, fv, by omega, by omega, by omega, by omega, hs.get h1 (fun q => ?_) (fun q => ?_) e1, hs.get h2 (fun q => ?_) (fun q => ?_) e2, hs.get h3 (fun q => ?_) (fun q => ?_) e3⟩
  · subst q; have := hb.symm.trans e1; simp at this
  · subst q; have := hfl.symm.trans e1; simp at this
  · subst q; have := hb.symm.trans e2; simp at this
  · subst q; have := hfl.symm.trans e2; simp at this
  · subst q; have := hb.symm.trans e3; simp at this
  · subst q; have := hfl.symm.trans e3; simp at this
theorem SameX.thenY {f f' f'' : Nat → O} {m m' b fl : Nat} (h : SameX f m b f') (h' : SameY f' m' b fl f'') (hm : m ≤ m') (hfl : m ≤ fl) : SameX f m b f'' := ⟨fun hj hn e => h'.get (by omega) hn (by omega) (h.get hj hn e)⟩
theorem sp959 {i b r g : Nat} {x mx : Int} {d : List UInt8} {w : Bool} {en : Str} {cs : List (List UInt8)} {Q : V → St → Prop} (hmd : md.hd = false) (hi : i < m) (ei : f i = pfO (.ref b) 3 r (.str en)) (hb : b < m) (eb : f b = ocO d w x) (hib : i ≠ b)
    (hg : cs.length = g) (hg0 : 0 < g) (hg' : g ≤ 1000) (hmx : mx = 32 + 32 * g) (hdl : d.length = 35 + 32 * g) (hcs : ∀ k c, cs[k]? = some c → RecOk d k c)
    (hq : ∀ (f' : Nat → O) (m' rt fl lf : Nat) (es : List Nat) (x' : Int), m ≤ m' → SameX f m b f' → f' b = ocO d w x' → (m ≤ rt ∧ rt < m') → f' rt = .tup [.ref fl, .ref lf] → (m ≤ fl ∧ fl < m') → f' fl = .list (es.map V.ref) → es.length = g → (∀ k c, k < g → cs[k]? = some c → ∃ j, es[k]? = some j ∧ EntAt f' m' (.str en) c j) → Q (.ref rt) ⟨f', m', l, md⟩) :
    W ((nvN (K2 P) (evX (K2 P) (k + 200)) sel02 (n + 16)).call (.old 959) [.ref i, .int 32, .int mx] []) ⟨f, m, l, md⟩ Q E := by
  refine W.nFn (fd959.2 P) (en959 P _ _ _) bd959.2 ?_
  unfold bd959
  dsimp only
  end_is "y30"; end_is "y77"; end_is "x37"; (with_reducible refine W.cIs rfl ?_); end_is "y10"; rotate_left; rotate_right; end_is "y31"; end_is "y13"; end_is "x119"; end_is "y4"
  (focus (k_extra "spn633")); end_is "y21"; end_is "x15"; end_is "y39"; end_is "y62"; end_is "x24"; end_is "x25"; end_is "y7"; end_is "x18"; end_is "y208"; end_is "y69"; end_is "y96"
  end_is "x4"; rotate_left; rotate_right; end_is "y180"; end_is "x24"; end_is "x79"; end_is "y22"; end_is "x97"; end_is "x2"; end_is "x85"
  (with_reducible refine W.nFor (by decide +kernel) ?_); (with_reducible refine W.forN (by decide +kernel) (by decide +kernel) ?_); end_is "y90"
  (with_reducible refine W.range3 (by decide +kernel) ?_); rotate_left; rotate_right; rotate_left; rotate_right
  rename_i f1 m1 r1 a1 a2 a3 a4 a5 a6 a7
  refine W.nLoopR (by k_extra "hdt") (by k_extra "lt") (by k_extra "ob2") (rng_small (g := g) (by omega) (by omega) (by omega) (by omega)) ?_
  refine W.nlInv (I959 f m i b (.str en) d w mx { md with top := true } cs) ?_ ?_ ?_
  · refine ⟨_, _, m, r1, m1, [], x, _, _, _, _, _, rfl, .inl rfl, .inl rfl, .inl rfl, .inl rfl, .inl rfl, by omega, ?_, ?_, ⟨by omega, by omega, by k_extra "ob2"⟩, ⟨by omega, by omega, by k_extra "ob2"⟩, ⟨by omega, by omega, ?_⟩, rfl, fun k c hk => absurd hk (Nat.not_lt_zero _)⟩
    · exact ⟨fun hj _ e => updO_other (by omega) (updO_other (by omega) (Same.get (by assumption) hj e))⟩
    · k_extra "ob2"
    · exact updO_other (by omega) updO_same
  · intro t v hv s hI
    obtain ⟨ht, rfl⟩ := rng_get (g := g) (by omega) (by omega) hv
    obtain ⟨f', m', lf, lr, fl, es, x', s1, s2, s3, s4, s5, rfl, o1, o2, o3, o4, o5, q1, q2, q3, ⟨q4, q5, q6⟩, ⟨q7, q8, q9⟩, ⟨q10, q11, q12⟩, q13, q14⟩ := hI
    have hc : ∃ c, cs[t]? = some c := ⟨cs[t], List.getElem?_eq_getElem (by omega)⟩
    obtain ⟨c, hc⟩ := hc
    obtain ⟨c1, c2, c3, c4, c5⟩ := hcs t c hc
    have hc0 := hc
    obtain ⟨b0, b1, b2, b3, b4, b5, b6, b7, b8, b9, b10, b11, b12, b13, b14, b15, b16, b17, b18, b19, b20, b21, b22, b23, b24, b25, b26, b27, b28, b29, b30, b31, rfl⟩ := len32 c2
    rw [show 35 + 32 * t = ((32 : Int) + 32 * t + 3).toNat by omega] at c1
    dsimp only [plainMk]
    let E0 : V → St → Prop := NoX
    refine W.aName (W.setLoc (by decide +kernel) (by k_extra "lk") o1 (by k_extra "pt") ?_)
    refine W.mono (lb959_step (E := E0) (by exact hmd) (by omega) (q2.get hi hib ei) (by omega) q3 hib q5 q6 (by omega) q8 q9 (by omega) q11 q12 (by omega) (by omega) (by rw [List.length_map]; omega) o2 o3 o4 o5 c3 c4 ⟨c5⟩ (by omega) (by omega) (by omega) c1 (Q := fun fl s => fl = .next ∧ I959 f m i b (.str en) d w mx { md with top := true } cs (t + 1) s) ?_) ?_ ?_
    · intro f2 m2 lf' lr' j jn jb jd s2' s3' s4' s5' p1 p2 p3 p4 p5 p6 p7 p8 p9 p10 p11 p12 z2 z3 z4 z5
      refine ⟨rfl, f2, m2, lf', lr', fl, es ++ [j], _, _, _, _, _, _, rfl, .inr ⟨_, rfl⟩, z2, z3, z4, z5, by omega, q2.thenY p2 (by omega) (by omega), p3, ⟨by omega, by omega, p5⟩, ⟨by omega, by omega, p7⟩, ⟨by omega, by omega, ?_⟩, ?_, ?_⟩
      · rw [List.map_append]; exact p8
      · rw [List.length_append, q13]; rfl
      · intro k c hk hkc
        by_cases hkt : k < t
        · obtain ⟨j', e1, e2⟩ := q14 k c hkt hkc
          exact ⟨j', by rw [List.getElem?_append_left (by omega)]; exact e1, e2.sameY p2 p1 q3 q12⟩
        · have : k = t := by omega
          subst this
          rw [hc] at hkc
          cases hkc
          refine ⟨j, ?_, ⟨jn, jb, jd, _, _, p9.1, p9.2.1, p9.2.2.1, p9.2.2.2, p10, p11, p12⟩⟩
          rw [List.getElem?_append_right (by omega), q13, Nat.sub_self]; rfl
    · rintro fl s ⟨rfl, h⟩
      exact ⟨rfl, h⟩
    · exact fun _ _ h => h.elim
  · intro s hI
    rw [rng_len (g := g) (by omega) (by omega)] at hI
    obtain ⟨f', m', lf, lr, fl, es, x', s1, s2, s3, s4, s5, rfl, o1, o2, o3, o4, o5, q1, q2, q3, ⟨q4, q5, q6⟩, ⟨q7, q8, q9⟩, ⟨q10, q11, q12⟩, q13, q14⟩ := hI
    refine W.xNil ?_
    dsimp only
    end_is "y30"; end_is "x94"; (with_reducible refine W.tup ?_); end_is "x43"; end_is "y24"; end_is "y0"; end_is "x44"; end_is "x83"; end_is "x2"
    (focus (((try dsimp only); (first | apply hq | with_unfolding_all apply hq)))); end_is "x9"; (focus (k_extra "samex")); end_is "x10"; end_is "x12"; end_is "x10"; end_is "x12"
    end_is "x10"; end_is "x0"; end_is "y3"; rotate_left; rotate_left; rotate_left; rotate_left; rotate_left; rotate_right; rotate_right; rotate_right; rotate_right; rotate_right
    rotate_left; rotate_right
    rename_i k c hk hkc
    obtain ⟨j, e1, e2⟩ := q14 k c hk hkc
    exact ⟨j, e1, e2.same (Same.refl.upd (Nat.le_refl _)) (by omega)⟩
local macro_rules | `(tactic| k_extra "spn959") => `(tactic| first | (with_reducible refine sp959 (by k_extra "hdt") (by k_extra "lt") (by k_extra "ob2") (by k_extra "lt") (by k_extra "ob2") (by omega) (by assumption) (by omega) (by omega) (by omega) (by k_extra "ln") (by assumption) ?_) | fail)
structure Ents (cs : List (List UInt8)) (es : List Nat) (f : Nat → O) (m : Nat) (enc : V) : Prop where
  len : es.length = cs.length
  at_ : ∀ (k : Nat) (c : List UInt8), cs[k]? = some c → ∃ j, es[k]? = some j ∧ EntAt f m enc c j
theorem Ents.same {cs : List (List UInt8)} {es : List Nat} {f f' : Nat → O} {m m' : Nat} {enc : V} (h : Ents cs es f m enc) (hs : Same f m f') (hm : m ≤ m') : Ents cs es f' m' enc :=
  ⟨h.len, fun k c e => by obtain ⟨j, e1, e2⟩ := h.at_ k c e; exact ⟨j, e1, e2.same hs hm⟩⟩
theorem Ents.mk' {cs : List (List UInt8)} {es : List Nat} {f f' : Nat → O} {m m' g : Nat} {enc : V} (hl : es.length = g) (hg : cs.length = g) (h : ∀ (k : Nat) (c : List UInt8), k < g → cs[k]? = some c → ∃ j, es[k]? = some j ∧ EntAt f m enc c j) (hs : Same f m f') (hm : m ≤ m') : Ents cs es f' m' enc :=
  ⟨hl.trans hg.symm, fun k c e => by
    have hk : k < cs.length := by
      by_cases hk : k < cs.length
      · exact hk
      · rw [List.getElem?_eq_none (by omega)] at e; cases e
    obtain ⟨j, e1, e2⟩ := h k c (by omega) e
    exact ⟨j, e1, e2.same hs hm⟩⟩
local macro_rules | `(tactic| k_extra "exkEnts") => `(tactic| first | (first | with_reducible refine Ents.same (by assumption) (by k_extra "same") (by omega) | with_reducible refine Ents.mk' (by assumption) (by assumption) (by assumption) (by k_extra "same") (by omega)) | fail)
theorem sp1057 {g : Nat} {o : List UInt8} {cs : List (List UInt8)} {Q : V → St → Prop} (hmd : md.hd = false) 
    (hg : cs.length = g) (hg0 : 0 < g) (hg' : g ≤ 1000) (hol : o.length = 32 + 32 * g) (hcs : ∀ k c, cs[k]? = some c → RecOk ([97, 98, 99] ++ o) k c)
    (hq : ∀ (f' : Nat → O) (m' rt fl bx : Nat) (es : List Nat) (x' : Int), m ≤ m' → Same f m f' → (m ≤ rt ∧ rt < m') → f' rt = .tup [.ref fl, .ref bx] → (m ≤ fl ∧ fl < m') → f' fl = .list (es.map V.ref) → Ents cs es f' m' (.str "latin-1") → (m ≤ bx ∧ bx < m') → f' bx = ocO ([97, 98, 99] ++ o) false x' → Q (.ref rt) ⟨f', m', l, md⟩) :
    W ((nvN (K2 P) (evX (K2 P) (k + 200)) sel02 (n + 18)).call (.old 1057) [.bytes o] []) ⟨f, m, l, md⟩ Q E := by
  refine W.nFn (fd1057.2 P) (en1057 P _) bd1057.2 ?_
  unfold bd1057
  dsimp only
  end_is "y30"; end_is "x24"; end_is "y14"; end_is "x38"; end_is "y18"; end_is "y4"; (focus (k_extra "spn1004")); end_is "y21"; end_is "y91"; end_is "y62"; end_is "x24"; end_is "y14"
  end_is "x28"; (with_reducible refine W.cBytes (by decide +kernel) ?_); end_is "y0"; end_is "x27"; end_is "x43"; end_is "x30"; end_is "y4"; (focus (k_extra "spn268")); end_is "y68"
  end_is "y208"; end_is "y163"; end_is "y78"; (focus (k_extra "spn786")); end_is "x85"; end_is "x84"; (with_reducible refine W.nMeth (by decide +kernel) ?_); end_is "y0"; end_is "x56"
  end_is "y146"; end_is "x43"; end_is "y29"; (with_reducible refine W.len1 (by k_extra "ln") ?_); end_is "y27"; (focus (k_extra "spn959")); end_is "y99"
  (with_reducible refine W.aTup rfl ?_); end_is "x112"; end_is "y147"; end_is "x96"; end_is "y30"; end_is "x94"; (with_reducible refine W.tup ?_); end_is "x43"; end_is "y24"
  end_is "y0"; end_is "x44"; end_is "x83"; end_is "x2"; (focus (((try dsimp only); (first | apply hq | with_unfolding_all apply hq)))); end_is "y12"; end_is "x12"; end_is "x10"
  end_is "x12"; end_is "x10"; (focus (k_extra "exkEnts")); end_is "x12"; end_is "x10"; rotate_left; rotate_left; rotate_left; rotate_left; rotate_right; rotate_right; rotate_right
  rotate_right
local macro_rules | `(tactic| k_extra "spn1057") => `(tactic| first | (with_reducible refine sp1057 (by k_extra "hdt") (by assumption) (by omega) (by omega) (by omega) (by assumption) ?_) | fail)
structure Six where
  (y mo d h mi s : Int)
abbrev Six.vs (x : Six) : List V := [.int x.y, .int x.mo, .int x.d, .int x.h, .int x.mi, .int x.s]
def dueS (x t : Int) : Six :=
  { y := if okDate (x / 512 % 128 + 1980) (x / 32 % 16) (x % 32) then x / 512 % 128 + 1980 else 1980
    mo := if okDate (x / 512 % 128 + 1980) (x / 32 % 16) (x % 32) then x / 32 % 16 else 1
    d := if okDate (x / 512 % 128 + 1980) (x / 32 % 16) (x % 32) then x % 32 else 1
    h := if okTime (t / 2048 % 32) (t / 32 % 64) (t % 32 * 2) then t / 2048 % 32 else 0
    mi := if okTime (t / 2048 % 32) (t / 32 % 64) (t % 32 * 2) then t / 32 % 64 else 0
    s := if okTime (t / 2048 % 32) (t / 32 % 64) (t % 32 * 2) then t % 32 * 2 else 0 }
theorem dueS_eq {x t y mo d h mi s : Int} (hd : DueD x y mo d) (ht : DueT t h mi s) : y = (dueS x t).y ∧ mo = (dueS x t).mo ∧ d = (dueS x t).d ∧ h = (dueS x t).h ∧ mi = (dueS x t).mi ∧ s = (dueS x t).s := by
  unfold dueS
  rcases hd with ⟨a, b, c, e⟩ | ⟨a, b, c, e⟩ <;> rcases ht with ⟨a', b', c', e'⟩ | ⟨a', b', c', e'⟩ <;> simp [a, a', b, c, e, b', c', e']
structure DueAt (lo : Nat) (f : Nat → O) (m : Nat) (x1 x2 x3 : Six) (j : Nat) : Prop where
  ex : ∃ j1 j2 j3, (lo ≤ j ∧ j < m) ∧ (lo ≤ j1 ∧ j1 < m) ∧ (lo ≤ j2 ∧ j2 < m) ∧ (lo ≤ j3 ∧ j3 < m) ∧ f j = .list [.ref j1, .ref j2, .ref j3] ∧ f j1 = .list x1.vs ∧ f j2 = .list x2.vs ∧ f j3 = .list x3.vs
theorem DueAt.sameY {lo : Nat} {f f' : Nat → O} {m m' du st : Nat} {x1 x2 x3 : Six} {j : Nat} (h : DueAt lo f m x1 x2 x3 j) (hs : SameY f m du st f') (hm : m ≤ m') (hd : du < lo) (ht : st < lo) : DueAt lo f' m' x1 x2 x3 j := by
  obtain ⟨j1, j2, j3, h0, h1, h2, h3, e0, e1, e2, e3⟩ := h.ex
  exact ⟨j1, j2, j3, by omega, by omega, by omega, by omega, hs.get (by omega) (by omega) (by omega) e0, hs.get (by omega) (by omega) (by omega) e1, hs.get (by omega) (by omega) (by omega) e2, hs.get (by omega) (by omega) (by omega) e3⟩
theorem DueAt.same {lo : Nat} {f f' : Nat → O} {m m' : Nat} {x1 x2 x3 : Six} {j : Nat} (h : DueAt lo f m x1 x2 x3 j) (hs : Same f m f') (hm : m ≤ m') : DueAt lo f' m' x1 x2 x3 j := by
  obtain ⟨j1, j2, j3, h0, h1, h2, h3, e0, e1, e2, e3⟩ := h.ex
  exact ⟨j1, j2, j3, by omega, by omega, by omega, by omega, hs.get (by omega) e0, hs.get (by omega) e1, hs.get (by omega) e2, hs.get (by omega) e3⟩
structure SixAt (lo : Nat) (f : Nat → O) (m : Nat) (j : Nat) : Prop where
  ex : ∃ x : Six, (lo ≤ j ∧ j < m) ∧ f j = .list x.vs
theorem SixAt.sameY {lo : Nat} {f f' : Nat → O} {m m' du st j : Nat} (h : SixAt lo f m j) (hs : SameY f m du st f') (hm : m ≤ m') (hd : du < lo) (ht : st < lo) : SixAt lo f' m' j := by
  obtain ⟨x, h0, e⟩ := h.ex
  exact ⟨x, by omega, hs.get (by omega) (by omega) (by omega) e⟩
theorem SixAt.same {lo : Nat} {f f' : Nat → O} {m m' j : Nat} (h : SixAt lo f m j) (hs : Same f m f') (hm : m ≤ m') : SixAt lo f' m' j := by
  obtain ⟨x, h0, e⟩ := h.ex
  exact ⟨x, by omega, hs.get (by omega) e⟩
theorem DueAt.mk' {lo m j j1 j2 j3 : Nat} {f : Nat → O} {x1 t1 x2 t2 x3 t3 a1 b1 c1 d1 e1 g1 a2 b2 c2 d2 e2 g2 a3 b3 c3 d3 e3 g3 : Int} (h0 : lo ≤ j ∧ j < m) (e : f j = .list [.ref j1, .ref j2, .ref j3]) (h1 : lo ≤ j1 ∧ j1 < m) (h2 : lo ≤ j2 ∧ j2 < m) (h3 : lo ≤ j3 ∧ j3 < m)
    (q1 : f j1 = .list [.int a1, .int b1, .int c1, .int d1, .int e1, .int g1]) (q2 : f j2 = .list [.int a2, .int b2, .int c2, .int d2, .int e2, .int g2]) (q3 : f j3 = .list [.int a3, .int b3, .int c3, .int d3, .int e3, .int g3])
    (k1 : DueD x1 a1 b1 c1) (l1 : DueT t1 d1 e1 g1) (k2 : DueD x2 a2 b2 c2) (l2 : DueT t2 d2 e2 g2) (k3 : DueD x3 a3 b3 c3) (l3 : DueT t3 d3 e3 g3) : DueAt lo f m (dueS x1 t1) (dueS x2 t2) (dueS x3 t3) j := by
  obtain ⟨rfl, rfl, rfl, rfl, rfl, rfl⟩ := dueS_eq k1 l1
  obtain ⟨rfl, rfl, rfl, rfl, rfl, rfl⟩ := dueS_eq k2 l2
  obtain ⟨rfl, rfl, rfl, rfl, rfl, rfl⟩ := dueS_eq k3 l3
  exact ⟨j1, j2, j3, h0, h1, h2, h3, e, q1, q2, q3⟩
theorem SixAt.mk' {lo m j : Nat} {f : Nat → O} {y0 y1 y2 y3 y4 y5 : Int} (h0 : lo ≤ j ∧ j < m) (e : f j = .list [.int y0, .int y1, .int y2, .int y3, .int y4, .int y5]) : SixAt lo f m j := ⟨⟨y0, y1, y2, y3, y4, y5⟩, h0, e⟩
theorem rep10 {v : V} : repl (10 : Int).toNat [v] = [v, v, v, v, v, v, v, v, v, v] := rfl
theorem it50 {α : Type} {a b c d e : α} : itemAt [a, b, c, d, e] 0 = some a := rfl
theorem it51 {α : Type} {a b c d e : α} : itemAt [a, b, c, d, e] 1 = some b := rfl
theorem it52 {α : Type} {a b c d e : α} : itemAt [a, b, c, d, e] 2 = some c := rfl
theorem it53 {α : Type} {a b c d e : α} : itemAt [a, b, c, d, e] 3 = some d := rfl
theorem it54 {α : Type} {a b c d e : α} : itemAt [a, b, c, d, e] 4 = some e := rfl
section
variable {K : Frag} {n m : Nat} {f : Nat → O} {l : List (Nat × Slot)} {md : Mode} {E : V → St → Prop}
theorem W.lMulE {i : Nat} {x z : List V} {k : Int} {Q : V → St → Prop} (hi : i < m) (ei : f i = .list x) (hk : nearI k = true) (hz : repl k.toNat x = z) (hs : z.length ≤ 16777216) (h : Q (.ref m) ⟨updO f m (.list z), m + 1, l, md⟩) : W (binV .Mult (.ref i) (.int k)) ⟨f, m, l, md⟩ Q E := by
  subst hz; exact W.lMul hi ei hk hs h
theorem W.sList6 {r : Nat} {x0 x1 x2 x3 x4 x5 v i : Int} {Q : Unit → St → Prop} (hr : r < m) (er : f r = .list [.int x0, .int x1, .int x2, .int x3, .int x4, .int x5]) (hi : 0 ≤ i ∧ i < 6)
    (h : ∀ y0 y1 y2 y3 y4 y5 : Int, Q () ⟨updO f r (.list [.int y0, .int y1, .int y2, .int y3, .int y4, .int y5]), m, l, md⟩) : W (setItemV (.ref r) (.int i) (.int v)) ⟨f, m, l, md⟩ Q E := by
  refine W.sList hr er (by simp only [List.length_cons, List.length_nil]; omega) hi ?_
  have : i = 0 ∨ i = 1 ∨ i = 2 ∨ i = 3 ∨ i = 4 ∨ i = 5 := by omega
  rcases this with rfl | rfl | rfl | rfl | rfl | rfl
  · exact h v x1 x2 x3 x4 x5
  · exact h x0 v x2 x3 x4 x5
  · exact h x0 x1 v x3 x4 x5
  · exact h x0 x1 x2 v x4 x5
  · exact h x0 x1 x2 x3 v x5
  · exact h x0 x1 x2 x3 x4 v
end
local macro_rules | `(tactic| k_extra "it") => `(tactic| first | (first | exact it50 | exact it51 | exact it52 | exact it53 | exact it54) | fail)
local macro_rules | `(tactic| k_extra "bm") => `(tactic| first | (with_reducible refine W.lMulE (by k_extra "lt") (by k_extra "ob2") (by decide +kernel) (by exact rep10) (by k_extra "ln") ?_) | fail)
abbrev locL (scr cells octets due stamps k a b c words laid word six found box record told at_ stamp fresh again beside held : Slot) : List (Nat × Slot) :=
  [(nid "script", scr), (nid "cells", cells), (nid "octets", octets), (nid "due", due), (nid "stamps", stamps), (nid "k", k), (nid "a", a), (nid "b", b), (nid "c", c), (nid "words", words), (nid "laid", laid), (nid "word", word), (nid "six", six), (nid "found", found), (nid "box", box), (nid "record", record), (nid "told", told), (nid "at", at_), (nid "stamp", stamp), (nid "fresh", fresh), (nid "again", again), (nid "beside", beside), (nid "held", held), (nid "max", .glob), (nid "len", .glob), (nid "bytes", .glob), (nid "range", .glob), (nid "_law_due", .glob), (nid "_law_read", .glob), (nid "enumerate", .glob), (nid "_law_six", .glob), (nid "_law_words", .glob), (nid "FATDirectoryEntry", .glob), (nid "DosDateTime", .glob), (nid "ValueError", .glob), (nid "_law_stands", .glob)]
def recI (k w0 w1 w2 w3 w4 : Int) : List Int := [65 + k, 32, 32, 32, 32, 32, 32, 32, 32, 32, 32, 32, 0, 0, w1 % 256, w1 / 256, w0 % 256, w0 / 256, w4 % 256, w4 / 256, 0, 0, w3 % 256, w3 / 256, w2 % 256, w2 / 256, 0, 0, 0, 0, 0, 0]
def recB (k w0 w1 w2 w3 w4 : Int) : List UInt8 := (recI k w0 w1 w2 w3 w4).map fun n => n.toNat.toUInt8
def lb1 : { b : List Stmt // forBody bd1062.1 3 = b } := by
  refine ⟨?b, ?h⟩
  case h => conv => lhs; whnf
local macro_rules | `(tactic| k_extra "exksetItemV") => `(tactic| first | (with_reducible refine W.sList6 (by k_extra "lt") (by k_extra "ob2") (by k_extra "omh") ?_) | fail)
local macro_rules | `(tactic| k_extra "exkDueAt") => `(tactic| first | (with_reducible refine DueAt.mk' (by omega) (by k_extra "ob2") (by omega) (by omega) (by omega) (by k_extra "ob2") (by k_extra "ob2") (by k_extra "ob2") (by assumption) (by assumption) (by assumption) (by assumption) (by assumption) (by assumption)) | fail)
local macro_rules | `(tactic| k_extra "exkSixAt") => `(tactic| first | (with_reducible refine SixAt.mk' (by omega) (by k_extra "ob2")) | fail)
theorem lb1_step {scr : V} {ce du st : Nat} {oc : List UInt8} {vs ds ss : List V} {k A B C : Int} {s1 s2 s3 s4 s5 s6 s7 : Slot} {Q : Fl → St → Prop} (hmd : md.hd = false) (htop : md.top = true)
    (hce : ce < m) (ece : f ce = .list vs) (hdu : du < m) (edu : f du = .list ds) (hst : st < m) (est : f st = .list ss) (n1 : ce ≠ du) (n2 : ce ≠ st) (n3 : du ≠ st) (hvl : vs.length ≤ 100) (hdl : ds.length ≤ 100) (hsl : ss.length ≤ 100) (hol : oc.length ≤ 1000)
    (hk : 0 ≤ k ∧ k ≤ 100) (hsl3 : sliceOf vs (.int k) (.int (k + 3)) = some [.int A, .int B, .int C])
    (o1 : slOk s1) (o2 : slOk s2) (o3 : slOk s3) (o4 : slOk s4) (o5 : slOk s5) (o6 : slOk s6) (o7 : slOk s7)
    (hq : ∀ f' m' j j' s1 s2 s3 s4 s5 s6 s7, m ≤ m' → SameY f m du st f' → f' du = .list (ds ++ [.ref j]) → f' st = .list (ss ++ [.ref j']) → DueAt m f' m' (dueS (A % 65536) (A / 65536 % 65536)) (dueS (B % 65536) (B / 65536 % 65536)) (dueS (C % 65536) 0) j → SixAt m f' m' j' →
      slOk s1 → slOk s2 → slOk s3 → slOk s4 → slOk s5 → slOk s6 → slOk s7 → Q .next ⟨f', m', locL (.val scr) (.val (.ref ce)) (.val (.bytes (oc ++ recB k (A % 65536) (A / 65536 % 65536) (B % 65536) (B / 65536 % 65536) (C % 65536)))) (.val (.ref du)) (.val (.ref st)) (.val (.int k)) s1 s2 s3 s4 s5 s6 s7 .unset .unset .unset .unset .unset .unset .unset .unset .unset .unset, md⟩) :
    W (execL (evX (K2 P) (n + 100)) lb1.1) ⟨f, m, locL (.val scr) (.val (.ref ce)) (.val (.bytes oc)) (.val (.ref du)) (.val (.ref st)) (.val (.int k)) s1 s2 s3 s4 s5 s6 s7 .unset .unset .unset .unset .unset .unset .unset .unset .unset .unset, md⟩ Q E := by
  unfold lb1 locL
  dsimp only
  end_is "x114"; (with_reducible refine W.assignT (by decide +kernel) (by decide +kernel) rfl ?_); end_is "y137"; end_is "y169"; end_is "x19"; end_is "x53"; end_is "x111"
  end_is "y147"; end_is "y67"; end_is "x96"; end_is "y2"; end_is "x24"; end_is "y140"; end_is "y139"; end_is "x43"; end_is "y115"; end_is "y139"; end_is "x43"; end_is "y37"
  end_is "y22"; end_is "y98"; end_is "y43"; end_is "y32"; end_is "y74"; end_is "y0"; end_is "x59"; end_is "y22"; end_is "x28"; end_is "x79"; end_is "y80"; end_is "x33"
  (focus (k_extra "bm")); end_is "x76"; end_is "y179"; end_is "x76"; end_is "y36"; end_is "x46"; end_is "y32"; end_is "y45"; end_is "y116"; end_is "y116"; end_is "y18"; end_is "y116"
  end_is "y116"; end_is "y114"; end_is "x80"; end_is "y55"; end_is "y181"; end_is "y181"; end_is "y181"; end_is "y181"; end_is "y181"; end_is "y181"; end_is "y181"; end_is "y181"
  end_is "y153"; end_is "y39"; end_is "y53"; (with_reducible refine W.lNil ?_); end_is "y28"; end_is "y61"; end_is "y29"; end_is "x29"; end_is "y113"; end_is "y36"; end_is "y210"
  end_is "y6"; end_is "y32"; end_is "y14"; end_is "y45"; end_is "y116"; end_is "y4"; (focus (k_extra "spn1036")); end_is "y99"; end_is "x43"; end_is "y14"; end_is "y45"; end_is "y116"
  end_is "y4"; (focus (k_extra "spn1036")); end_is "y99"; end_is "x43"; end_is "y14"; end_is "y45"; end_is "y18"; end_is "y4"; (focus (k_extra "spn1036")); end_is "y99"; end_is "y22"
  end_is "y27"; end_is "x22"; end_is "y31"; end_is "y32"; end_is "y74"; end_is "y37"; end_is "y148"; end_is "y74"; end_is "y37"; end_is "y148"; end_is "y74"; end_is "y139"
  end_is "y148"; end_is "y139"; end_is "x43"; end_is "y139"; end_is "x43"; end_is "y139"; end_is "y22"; end_is "y36"; end_is "x69"; end_is "x103"; end_is "y37"; end_is "y33"
  end_is "y199"; end_is "x114"; (with_reducible refine W.assignS' (by decide +kernel) ?_); end_is "y44"; end_is "y0"; end_is "y37"; (focus (k_extra "exksetItemV")); end_is "y63"
  end_is "y20"; end_is "y2"; end_is "y155"; end_is "y198"; end_is "y79"; end_is "y75"; end_is "y37"; end_is "y96"; end_is "y186"; end_is "y31"; end_is "y32"; end_is "y74"; end_is "y37"
  end_is "y148"; end_is "y74"; end_is "y37"; end_is "y148"; end_is "y74"; end_is "y139"; end_is "x59"; end_is "y114"; end_is "y119"; end_is "y210"; end_is "y78"; end_is "x22"
  end_is "x115"; (focus (((try dsimp only); (first | apply hq | with_unfolding_all apply hq)))); end_is "x9"; (focus (k_extra "exkSameY")); end_is "y93"; (focus (k_extra "exkDueAt"))
  (focus (k_extra "exkSixAt")); end_is "y211"; end_is "x8"; end_is "y88"; end_is "y210"; end_is "y78"; end_is "x22"; end_is "x115"
  (focus (((try dsimp only); (first | apply hq | with_unfolding_all apply hq)))); end_is "x9"; (focus (k_extra "exkSameY")); end_is "y93"; (focus (k_extra "exkDueAt"))
  (focus (k_extra "exkSixAt")); end_is "y211"; end_is "x8"; end_is "y88"; end_is "y210"; end_is "y78"; end_is "x22"; end_is "x115"
  (focus (((try dsimp only); (first | apply hq | with_unfolding_all apply hq)))); end_is "x9"; (focus (k_extra "exkSameY")); end_is "y93"; (focus (k_extra "exkDueAt"))
  (focus (k_extra "exkSixAt")); end_is "y211"; end_is "x8"; end_is "y28"; end_is "y155"; end_is "y198"; end_is "y79"; end_is "y75"; end_is "y37"; end_is "y96"; end_is "y186"
  end_is "y31"; end_is "y32"; end_is "y74"; end_is "y37"; end_is "y148"; end_is "y74"; end_is "y37"; end_is "y148"; end_is "y74"; end_is "y139"; end_is "x59"; end_is "y114"
  end_is "y119"; end_is "y210"; end_is "y78"; end_is "x22"; end_is "x115"; (focus (((try dsimp only); (first | apply hq | with_unfolding_all apply hq)))); end_is "x9"
  (focus (k_extra "exkSameY")); end_is "y93"; (focus (k_extra "exkDueAt")); (focus (k_extra "exkSixAt")); end_is "y211"; end_is "x8"; end_is "y88"; end_is "y210"; end_is "y78"
  end_is "x22"; end_is "x115"; (focus (((try dsimp only); (first | apply hq | with_unfolding_all apply hq)))); end_is "x9"; (focus (k_extra "exkSameY")); end_is "y93"
  (focus (k_extra "exkDueAt")); (focus (k_extra "exkSixAt")); end_is "y211"; end_is "x8"; end_is "y88"; end_is "y210"; end_is "y78"; end_is "x22"; end_is "x115"
  (focus (((try dsimp only); (first | apply hq | with_unfolding_all apply hq)))); end_is "x9"; (focus (k_extra "exkSameY")); end_is "y93"; (focus (k_extra "exkDueAt"))
  (focus (k_extra "exkSixAt")); end_is "y211"; end_is "x8"
theorem datV_int {f : Nat → O} {m n : Nat} {x : Int} : datV f m n (.int x) = some (.int x) := by unfold datV; rfl
theorem datL_nil {f : Nat → O} {m n : Nat} : datL f m n [] = some [] := by unfold datL; rfl
theorem datL_cons {f : Nat → O} {m n : Nat} {v : V} {r : List V} {d : PyData} {ds : List PyData} (h : datV f m n v = some d) (h' : datL f m n r = some ds) : datL f m n (v :: r) = some (d :: ds) := by
  unfold datL; rw [h, h']; rfl
theorem datV_list {f : Nat → O} {m n i : Nat} {xs : List V} {ds : List PyData} (hi : i < m) (e : f i = .list xs) (h : datL f m n xs = some ds) : datV f m (n + 1) (.ref i) = some (.list ds) := by
  unfold datV
  rw [if_pos hi, e]
  dsimp only
  rw [h]; rfl
def isInt : V → Bool
  | .int _ => true
  | _ => false
theorem datL_ints {f : Nat → O} {m n : Nat} : ∀ {x : List V}, x.all isInt = true → ∃ ds, datL f m n x = some ds ∧ PyData.canLayAll0 ds = true
  | [], _ => ⟨[], datL_nil, by unfold PyData.canLayAll0; rfl⟩
  | v :: r, h => by
    simp only [List.all_cons, Bool.and_eq_true] at h
    obtain ⟨ds, e, c⟩ := datL_ints (f := f) (m := m) (n := n) h.2
    cases v with
    | int i => exact ⟨.int i :: ds, datL_cons datV_int e, by unfold PyData.canLayAll0; rw [c]; unfold PyData.canLay0; rfl⟩
    | _ => exact absurd h.1 Bool.false_ne_true
theorem datV_ints2 {f : Nat → O} {m n i j : Nat} {x : List V} (hi : i < m) (e : f i = .list x) (hj : j < m) (e' : f j = .list x) (h : x.all isInt = true) : ∃ d, datV f m (n + 1) (.ref i) = some d ∧ datV f m (n + 1) (.ref j) = some d ∧ d.canLay0 = true := by
  obtain ⟨ds, k, c⟩ := datL_ints (f := f) (m := m) (n := n) h
  exact ⟨.list ds, datV_list hi e k, datV_list hj e' k, by unfold PyData.canLay0; exact c⟩
section
variable {K : Frag} {n m : Nat} {f : Nat → O} {l : List (Nat × Slot)} {md : Mode} {st : St} {E : V → St → Prop}
theorem W.cNeD {i j : Nat} {d : PyData} {Q : V → St → Prop} (hd : datV f m 6 (.ref i) = some d) (he : datV f m 6 (.ref j) = some d) (hc : d.canLay0 = true) (h : Q (.bool false) ⟨f, m, l, md⟩) : W (cmpV .NotEq (.ref i) (.ref j)) ⟨f, m, l, md⟩ Q E := by
  refine W.cNeR hd he ?_
  rw [PySem.SeqAt.eqv_refl d hc]
  exact h
theorem W.cNe1 {i j : Nat} {x : List V} {Q : V → St → Prop} (hi : i < m) (ei : f i = .list x) (hj : j < m) (ej : f j = .list x) (hx : x.all isInt = true) (h : Q (.bool false) ⟨f, m, l, md⟩) : W (cmpV .NotEq (.ref i) (.ref j)) ⟨f, m, l, md⟩ Q E := by
  obtain ⟨d, h1, h2, h3⟩ := datV_ints2 (n := 5) hi ei hj ej hx
  exact W.cNeD h1 h2 h3 h
theorem W.cNe2 {i j a b a' b' : Nat} {x y z : List V} {Q : V → St → Prop} (hi : i < m) (ei : f i = .list z) (hz : z = [.ref a, .ref b]) (hj : j < m) (ej : f j = .list [.ref a', .ref b']) (ha : a < m) (ea : f a = .list x) (ha' : a' < m) (ea' : f a' = .list x) (hb : b < m) (eb : f b = .list y) (hb' : b' < m) (eb' : f b' = .list y) (hx : x.all isInt = true) (hy : y.all isInt = true) (h : Q (.bool false) ⟨f, m, l, md⟩) : W (cmpV .NotEq (.ref i) (.ref j)) ⟨f, m, l, md⟩ Q E := by
  subst hz
  obtain ⟨d, h1, h2, h3⟩ := datV_ints2 (n := 4) ha ea ha' ea' hx
  obtain ⟨e, k1, k2, k3⟩ := datV_ints2 (n := 4) hb eb hb' eb' hy
  refine W.cNeD (d := .list [d, e]) (datV_list hi ei (datL_cons h1 (datL_cons k1 datL_nil))) (datV_list hj ej (datL_cons h2 (datL_cons k2 datL_nil))) ?_ h
  unfold PyData.canLay0 PyData.canLayAll0 PyData.canLayAll0 PyData.canLayAll0
  rw [h3, k3]; rfl
theorem W.cNil {p : Ev} {gd : St → Bool} {x : Str} {elt : Expr} {ifs : List Expr} {acc : V} {Q : Unit → St → Prop} (h : Q () st) : W (forC p gd x elt ifs acc []) st Q E := by
  unfold forC
  exact W.ret h
theorem W.cCons {p : Ev} {gd : St → Bool} {x : Str} {elt : Expr} {ifs : List Expr} {acc v : V} {r : List V} {Q : Unit → St → Prop}
    (h : W (Mine.setLoc x v) st (fun _ s => W (testIfs p ifs) s (fun t s => W (putC p elt acc t) s (fun _ s => gd s = true ∧ W (forC p gd x elt ifs acc r) s Q E) E) E) E) : W (forC p gd x elt ifs acc (v :: r)) st Q E := by
  unfold forC
  refine W.bind (W.mono h (fun _ s h => W.bind (W.mono h (fun t s h => W.bind (W.mono h (fun _ s h => ?_) fun _ _ h => h)) fun _ _ h => h)) fun _ _ h => h)
  unfold W
  dsimp only
  rw [if_pos h.1]
  exact h.2
theorem W.compT {p : Ev} {r : Nat} {vs : List V} {elt : Expr} {x : Str} {ifs : List Expr} {sc : Scope} {l' : List (Nat × Slot)} {Q : V → St → Prop} (hd : md.hd = false) (hr : r < m) (er : f r = .tup vs) (hl : locOf [] sc.names = l')
    (h : W (forC p (still r (.tup vs)) x elt ifs (.ref m) vs) ⟨updO f m (.list []), m + 1, l', { md with top := false }⟩ (fun _ s => Q (.ref m) ⟨s.obj, s.nxt, l, md⟩) NoX) :
    W (compOver p sc x elt ifs (.ref r)) ⟨f, m, l, md⟩ Q NoX := by
  subst hl
  unfold compOver
  refine W.calm hd (W.bind (W.getO hr er ?_))
  dsimp only
  unfold compRun
  refine W.bind (W.mkList (Nat.zero_le _) ?_)
  unfold W withC at *
  dsimp only
  cases e : forC p (still r (.tup vs)) x elt ifs (.ref m) vs ⟨updO f m (.list []), m + 1, locOf [] sc.names, { md with top := false }⟩ with
  | ok a s => rw [e] at h; exact h
  | err c fs s => rw [e] at h; exact h.elim
  | stuck w => rw [e] at h; exact h.elim
end
theorem lo1 : locOf [] [((".0" : Str), NameKind.local), (("record" : Str), NameKind.local), (("_law_six" : Str), NameKind.globalImplicit)] = [(nid ".0", .unset), (nid "record", .unset), (nid "_law_six", .glob)] := by kernel_rfl
theorem lo2 : locOf [] [((".0" : Str), NameKind.local), (("part" : Str), NameKind.local), (("isinstance" : Str), NameKind.globalImplicit), (("int" : Str), NameKind.globalImplicit)] = [(nid ".0", .unset), (nid "part", .unset), (nid "isinstance", .glob), (nid "int", .glob)] := by kernel_rfl
theorem lo3 : locOf [] [((".0" : Str), NameKind.local), (("clock" : Str), NameKind.local), (("_law_six" : Str), NameKind.globalImplicit)] = [(nid ".0", .unset), (nid "clock", .unset), (nid "_law_six", .glob)] := by kernel_rfl
theorem sl63 {α : Type} {a b c d e g : α} : sliceOf [a, b, c, d, e, g] .none (.int 3) = some [a, b, c] := rfl
theorem it11' {α : Type} {a : α} : itemAt [a] 0 = some a := rfl
theorem okD_bd {y mo d : Int} (h : okDate y mo d) : 1 ≤ mo ∧ mo ≤ 12 ∧ 1 ≤ d ∧ d ≤ 31 := by
  obtain ⟨h1, h2, h3, h4, h5, h6⟩ := h
  unfold mlen dim at h6
  omega
theorem DueD.pack {y mo d y' mo' d' : Int} (h : okDate y mo d) (hy : 1980 ≤ y ∧ y ≤ 2107) (q : DueD ((y - 1980) * 512 + mo * 32 + d) y' mo' d') : y' = y ∧ mo' = mo ∧ d' = d := by
  have hb := okD_bd h
  have e1 : ((y - 1980) * 512 + mo * 32 + d) / 512 % 128 + 1980 = y := by omega
  have e2 : ((y - 1980) * 512 + mo * 32 + d) / 32 % 16 = mo := by omega
  have e3 : ((y - 1980) * 512 + mo * 32 + d) % 32 = d := by omega
  unfold DueD at q
  rw [e1, e2, e3] at q
  rcases q with ⟨_, a, b, c⟩ | ⟨a, _⟩
  · exact ⟨a, b, c⟩
  · exact absurd h a
theorem DueT.pack {h mi s h' mi' s' : Int} (k : okTime h mi s) (hs : s % 2 = 0) (q : DueT (h * 2048 + mi * 32 + s / 2) h' mi' s') : h' = h ∧ mi' = mi ∧ s' = s := by
  have k' := k
  obtain ⟨h1, h2, h3, h4, h5, h6⟩ := k'
  have e1 : (h * 2048 + mi * 32 + s / 2) / 2048 % 32 = h := by omega
  have e2 : (h * 2048 + mi * 32 + s / 2) / 32 % 64 = mi := by omega
  have e3 : (h * 2048 + mi * 32 + s / 2) % 32 * 2 = s := by omega
  unfold DueT at q
  rw [e1, e2, e3] at q
  rcases q with ⟨_, a, b, c⟩ | ⟨a, _⟩
  · exact ⟨a, b, c⟩
  · exact absurd k a
theorem sp313F {i : Nat} {nm lz fv enc : V} {at_ nt te y mo d h mi s la hc wt wd lo fs : Int} {dirs : Nat} {Q : V → St → Prop} (hmd : md.hd = false) (hi : i < m) (ei : f i = entO nm at_ nt te (h * 2048 + mi * 32 + s / 2) ((y - 1980) * 512 + mo * 32 + d) la hc wt wd lo fs lz fv dirs enc)
    (kd : okDate y mo d) (hy : 1980 ≤ y ∧ y ≤ 2107) (kt : okTime h mi s) (hs : Hold (s % 2 = 0))
    (hq : ∀ f' m' r, m ≤ m' → Same f m f' → m ≤ r → r < m' → f' r = dtO y mo d h mi s → Q (.ref r) ⟨f', m', l, md⟩) :
    W ((evX (K2 P) (n + 80)).call (.old 313) [.ref i] []) ⟨f, m, l, md⟩ Q E :=
  sp313 hmd hi ei fun y' mo' d' h' mi' s' q1 q2 f' m' r a b c e g => by
    obtain ⟨rfl, rfl, rfl⟩ := q1.pack kd hy
    obtain ⟨rfl, rfl, rfl⟩ := q2.pack kt hs.get
    exact hq f' m' r a b c e g
theorem sp320F {i : Nat} {nm lz fv enc : V} {at_ nt te y mo d h mi s la hc ct cd lo fs : Int} {dirs : Nat} {Q : V → St → Prop} (hmd : md.hd = false) (hi : i < m) (ei : f i = entO nm at_ nt te ct cd la hc (h * 2048 + mi * 32 + s / 2) ((y - 1980) * 512 + mo * 32 + d) lo fs lz fv dirs enc)
    (kd : okDate y mo d) (hy : 1980 ≤ y ∧ y ≤ 2107) (kt : okTime h mi s) (hs : Hold (s % 2 = 0))
    (hq : ∀ f' m' r, m ≤ m' → Same f m f' → m ≤ r → r < m' → f' r = dtO y mo d h mi s → Q (.ref r) ⟨f', m', l, md⟩) :
    W ((evX (K2 P) (n + 80)).call (.old 320) [.ref i] []) ⟨f, m, l, md⟩ Q E :=
  sp320 hmd hi ei fun y' mo' d' h' mi' s' q1 q2 f' m' r a b c e g => by
    obtain ⟨rfl, rfl, rfl⟩ := q1.pack kd hy
    obtain ⟨rfl, rfl, rfl⟩ := q2.pack kt hs.get
    exact hq f' m' r a b c e g
theorem sp327F {i : Nat} {nm lz fv enc : V} {at_ nt te y mo d hc ct cd wt wd lo fs : Int} {dirs : Nat} {Q : V → St → Prop} (hmd : md.hd = false) (hi : i < m) (ei : f i = entO nm at_ nt te ct cd ((y - 1980) * 512 + mo * 32 + d) hc wt wd lo fs lz fv dirs enc)
    (kd : okDate y mo d) (hy : 1980 ≤ y ∧ y ≤ 2107)
    (hq : ∀ f' m' r, m ≤ m' → Same f m f' → m ≤ r → r < m' → f' r = dtO y mo d 0 0 0 → Q (.ref r) ⟨f', m', l, md⟩) :
    W ((evX (K2 P) (n + 80)).call (.old 327) [.ref i] []) ⟨f, m, l, md⟩ Q E :=
  sp327 hmd hi ei fun y' mo' d' q1 f' m' r a b c e g => by
    obtain ⟨rfl, rfl, rfl⟩ := q1.pack kd hy
    exact hq f' m' r a b c e g
theorem leW {x : Int} (h : word x) : ((leNat [UInt8.ofNat (x.toNat % 256), UInt8.ofNat (x.toNat / 256 % 256)] : Nat) : Int) = x := by
  unfold word at h
  show (((UInt8.ofNat (x.toNat % 256)).toNat + 256 * ((UInt8.ofNat (x.toNat / 256 % 256)).toNat + 256 * 0) : Nat) : Int) = x
  rw [UInt8.toNat_ofNat', UInt8.toNat_ofNat']
  omega
section
variable {b0 b1 b2 b3 b4 b5 b6 b7 b8 b9 b10 b11 b12 b13 b14 b15 b16 b17 b18 b19 b20 b21 b22 b23 b24 b25 b26 b27 b28 b29 b30 b31 : UInt8}
theorem gw14 : g2 [b0, b1, b2, b3, b4, b5, b6, b7, b8, b9, b10, b11, b12, b13, b14, b15, b16, b17, b18, b19, b20, b21, b22, b23, b24, b25, b26, b27, b28, b29, b30, b31] 14 = ((leNat [b14, b15] : Nat) : Int) := rfl
theorem gw16 : g2 [b0, b1, b2, b3, b4, b5, b6, b7, b8, b9, b10, b11, b12, b13, b14, b15, b16, b17, b18, b19, b20, b21, b22, b23, b24, b25, b26, b27, b28, b29, b30, b31] 16 = ((leNat [b16, b17] : Nat) : Int) := rfl
theorem gw18 : g2 [b0, b1, b2, b3, b4, b5, b6, b7, b8, b9, b10, b11, b12, b13, b14, b15, b16, b17, b18, b19, b20, b21, b22, b23, b24, b25, b26, b27, b28, b29, b30, b31] 18 = ((leNat [b18, b19] : Nat) : Int) := rfl
theorem gw20 : g2 [b0, b1, b2, b3, b4, b5, b6, b7, b8, b9, b10, b11, b12, b13, b14, b15, b16, b17, b18, b19, b20, b21, b22, b23, b24, b25, b26, b27, b28, b29, b30, b31] 20 = ((leNat [b20, b21] : Nat) : Int) := rfl
theorem gw22 : g2 [b0, b1, b2, b3, b4, b5, b6, b7, b8, b9, b10, b11, b12, b13, b14, b15, b16, b17, b18, b19, b20, b21, b22, b23, b24, b25, b26, b27, b28, b29, b30, b31] 22 = ((leNat [b22, b23] : Nat) : Int) := rfl
theorem gw24 : g2 [b0, b1, b2, b3, b4, b5, b6, b7, b8, b9, b10, b11, b12, b13, b14, b15, b16, b17, b18, b19, b20, b21, b22, b23, b24, b25, b26, b27, b28, b29, b30, b31] 24 = ((leNat [b24, b25] : Nat) : Int) := rfl
theorem gw26 : g2 [b0, b1, b2, b3, b4, b5, b6, b7, b8, b9, b10, b11, b12, b13, b14, b15, b16, b17, b18, b19, b20, b21, b22, b23, b24, b25, b26, b27, b28, b29, b30, b31] 26 = ((leNat [b26, b27] : Nat) : Int) := rfl
theorem gb11 : g1 [b0, b1, b2, b3, b4, b5, b6, b7, b8, b9, b10, b11, b12, b13, b14, b15, b16, b17, b18, b19, b20, b21, b22, b23, b24, b25, b26, b27, b28, b29, b30, b31] 11 = ((b11.toNat : Nat) : Int) := rfl
theorem gb12 : g1 [b0, b1, b2, b3, b4, b5, b6, b7, b8, b9, b10, b11, b12, b13, b14, b15, b16, b17, b18, b19, b20, b21, b22, b23, b24, b25, b26, b27, b28, b29, b30, b31] 12 = ((b12.toNat : Nat) : Int) := rfl
theorem gb13 : g1 [b0, b1, b2, b3, b4, b5, b6, b7, b8, b9, b10, b11, b12, b13, b14, b15, b16, b17, b18, b19, b20, b21, b22, b23, b24, b25, b26, b27, b28, b29, b30, b31] 13 = ((b13.toNat : Nat) : Int) := rfl
theorem gd28 : g4 [b0, b1, b2, b3, b4, b5, b6, b7, b8, b9, b10, b11, b12, b13, b14, b15, b16, b17, b18, b19, b20, b21, b22, b23, b24, b25, b26, b27, b28, b29, b30, b31] 28 = ((leNat [b28, b29, b30, b31] : Nat) : Int) := rfl
end
theorem entB_eq {b0 b1 b2 b3 b4 b5 b6 b7 b8 b9 b10 : UInt8} {at_ nt te ct cd la hc wt wd lo fs : Int} : entB [b0, b1, b2, b3, b4, b5, b6, b7, b8, b9, b10] at_ nt te ct cd la hc wt wd lo fs = [b0, b1, b2, b3, b4, b5, b6, b7, b8, b9, b10, at_.toNat.toUInt8, nt.toNat.toUInt8, te.toNat.toUInt8, UInt8.ofNat (ct.toNat % 256), UInt8.ofNat (ct.toNat / 256 % 256), UInt8.ofNat (cd.toNat % 256), UInt8.ofNat (cd.toNat / 256 % 256), UInt8.ofNat (la.toNat % 256), UInt8.ofNat (la.toNat / 256 % 256), UInt8.ofNat (hc.toNat % 256), UInt8.ofNat (hc.toNat / 256 % 256), UInt8.ofNat (wt.toNat % 256), UInt8.ofNat (wt.toNat / 256 % 256), UInt8.ofNat (wd.toNat % 256), UInt8.ofNat (wd.toNat / 256 % 256), UInt8.ofNat (lo.toNat % 256), UInt8.ofNat (lo.toNat / 256 % 256), UInt8.ofNat (fs.toNat % 256), UInt8.ofNat (fs.toNat / 256 % 256), UInt8.ofNat (fs.toNat / 256 / 256 % 256), UInt8.ofNat (fs.toNat / 256 / 256 / 256 % 256)] := rfl
theorem leD9 : ((leNat [UInt8.ofNat ((9 : Int).toNat % 256), UInt8.ofNat ((9 : Int).toNat / 256 % 256), UInt8.ofNat ((9 : Int).toNat / 256 / 256 % 256), UInt8.ofNat ((9 : Int).toNat / 256 / 256 / 256 % 256)] : Nat) : Int) = 9 := by decide
theorem by33 : (((33 : Int).toNat.toUInt8.toNat : Nat) : Int) = 33 := by decide
theorem by0 : (((0 : Int).toNat.toUInt8.toNat : Nat) : Int) = 0 := by decide
abbrev seven : List UInt8 := repl (32 : Int).toNat (List.map (fun n : Int => n.toNat.toUInt8) [7])
theorem sp1057F {b0 b1 b2 b3 b4 b5 b6 b7 b8 b9 b10 : UInt8} {ct cd la hc wt wd lo : Int} {Q : V → St → Prop} (hmd : md.hd = false) (h1 : (b0.toNat : Int) ≠ 0) (h2 : (b0.toNat : Int) ≠ 229)
    (w1 : word ct) (w2 : word cd) (w3 : word la) (w4 : word hc) (w5 : word wt) (w6 : word wd) (w7 : word lo)
    (hq : ∀ (f' : Nat → O) (m' rt fl bx j jn jd : Nat) (lz fv : V), m ≤ m' → Same f m f' → (m ≤ rt ∧ rt < m') → f' rt = .tup [.ref fl, .ref bx] → (m ≤ fl ∧ fl < m') → f' fl = .list [.ref j] → j < m' → f' j = entO (.ref jn) 33 0 0 ct cd la hc wt wd lo 9 lz fv jd (.str "latin-1") → Q (.ref rt) ⟨f', m', l, md⟩) :
    W ((nvN (K2 P) (evX (K2 P) (k + 200)) sel02 (n + 18)).call (.old 1057) [.bytes (seven ++ entB [b0, b1, b2, b3, b4, b5, b6, b7, b8, b9, b10] 33 0 0 ct cd la hc wt wd lo 9)] []) ⟨f, m, l, md⟩ Q E := by
  refine sp1057 (g := 1) (cs := [entB [b0, b1, b2, b3, b4, b5, b6, b7, b8, b9, b10] 33 0 0 ct cd la hc wt wd lo 9]) hmd rfl (by omega) (by omega) rfl ?_ ?_
  · intro k c e
    have : k = 0 := by
      cases k with
      | zero => rfl
      | succ k => simp at e
    subst this
    simp only [List.getElem?_cons_zero, Option.some.injEq] at e
    subst e
    refine ⟨rfl, rfl, h1, h2, ?_⟩
    rw [entB_eq, gb11, by33]
    decide
  · intro f' m' rt fl bx es x' a b c e g q r u v
    obtain ⟨j, e1, jn, jb, jd, lz, fv, z1, z2, z3, z4, z5, z6, z7⟩ := r.at_ 0 _ rfl
    have hl := r.len
    match es, hl, e1 with
    | [j0], _, e1 =>
      cases e1
      refine hq f' m' rt fl bx j jn jd lz fv a b c e g q z1 ?_
      rw [z5]
      rw [entB_eq, gb11, gb12, gb13, gw14, gw16, gw18, gw20, gw22, gw24, gw26, gd28, leW w1, leW w2, leW w3, leW w4, leW w5, leW w6, leW w7, leD9, by33, by0]
local macro_rules | `(tactic| k_extra "ex") => `(tactic| first | (dsimp only []) | fail)
local macro_rules | `(tactic| k_extra "it") => `(tactic| first | (first | exact sl63 | exact it11') | fail)
local macro_rules | `(tactic| k_extra "dt") => `(tactic| first | (first | with_reducible refine W.cNe1 (by k_extra "lt") (by k_extra "ob2") (by k_extra "lt") (by k_extra "ob2") (by with_unfolding_all rfl) ?_ | with_reducible refine W.cNe2 (by k_extra "lt") (by k_extra "ob2") (by with_unfolding_all rfl) (by k_extra "lt") (by k_extra "ob2") (by k_extra "lt") (by k_extra "ob2") (by k_extra "lt") (by k_extra "ob2") (by k_extra "lt") (by k_extra "ob2") (by k_extra "lt") (by k_extra "ob2") (by with_unfolding_all rfl) (by with_unfolding_all rfl) ?_) | fail)
local macro_rules | `(tactic| k_extra "exkforC") => `(tactic| first | (first | with_reducible refine W.cNil ?_ | with_reducible refine W.cCons ?_) | fail)
local macro_rules | `(tactic| k_extra "bm") => `(tactic| first | (with_reducible refine W.bMul (by with_unfolding_all rfl) ?_) | fail)
theorem fresh_ln {b0 b1 b2 b3 b4 b5 b6 b7 b8 b9 b10 : UInt8} {at_ nt te ct cd la hc wt wd lo fs : Int} : (seven ++ entB [b0, b1, b2, b3, b4, b5, b6, b7, b8, b9, b10] at_ nt te ct cd la hc wt wd lo fs).length ≤ 16777216 := by
  rw [entB_eq]
  exact (by decide : 64 ≤ 16777216)
local macro_rules | `(tactic| k_extra "ln") => `(tactic| first | (exact fresh_ln) | fail)
local macro_rules | `(tactic| k_extra "lo") => `(tactic| first | (first | exact lo1 | exact lo2 | exact lo3) | fail)
local macro_rules | `(tactic| k_extra "exkcompOver") => `(tactic| first | (with_reducible refine W.compT (by k_extra "hdt") (by k_extra "lt") (by k_extra "ob2") (by k_extra "lo") ?_) | fail)
local macro_rules | `(tactic| k_extra "exksetLoc") => `(tactic| first | ((dsimp only []; first | rw [lo1] | rw [lo2] | rw [lo3])) | fail)
local macro_rules | `(tactic| k_extra "spn313") => `(tactic| first | (with_reducible refine sp313F (by k_extra "hdt") (by k_extra "lt") (by k_extra "ob2") (by assumption) (by assumption) (by assumption) (by assumption) ?_) | fail)
local macro_rules | `(tactic| k_extra "spn320") => `(tactic| first | (with_reducible refine sp320F (by k_extra "hdt") (by k_extra "lt") (by k_extra "ob2") (by assumption) (by assumption) (by assumption) (by assumption) ?_) | fail)
local macro_rules | `(tactic| k_extra "spn327") => `(tactic| first | (with_reducible refine sp327F (by k_extra "hdt") (by k_extra "lt") (by k_extra "ob2") (by assumption) (by assumption) ?_) | fail)
local macro_rules | `(tactic| k_extra "spn1057") => `(tactic| first | (with_reducible refine sp1057F (by k_extra "hdt") (by assumption) (by assumption) (by omega) (by omega) (by omega) (by omega) (by omega) (by omega) (by omega) ?_) | fail)
local macro_rules | `(tactic| k_extra "spn379") => `(tactic| first | (with_reducible refine sp379 (by k_extra "hdt") (by k_extra "lt") (by k_extra "ob2") (by k_extra "lt") (by k_extra "ob2") (by k_extra "lt") (by k_extra "ob2") (by k_extra "lq") (by omega) (by omega) (by omega) (by omega) (by omega) (by omega) (by omega) (by omega) (by omega) (by omega) (by omega) ?_) | fail)
local macro_rules | `(tactic| k_extra "pr0") => `(tactic| first | (exact (Hold.get (by assumption) : ¬ True) trivial) | fail)
def lb2 : { b : List Stmt // forBody (forBody bd1062.1 7) 1 = b } := by
  refine ⟨?b, ?h⟩
  case h => conv => lhs; whnf
theorem lb2_step {rec ist jn jb jd : Nat} {y mo d h mi s at_ nt te ct cd la hc wt wd lo fs : Int} {lz fv enc : V} {b0 b1 b2 b3 b4 b5 b6 b7 b8 b9 b10 : UInt8} {u1 u2 u3 u4 u5 u6 u7 u8 u9 u10 u11 u12 u13 u14 u15 u16 s1 s2 s3 s4 s5 : Slot} {Q : Fl → St → Prop} (hmd : md.hd = false) (htop : md.top = true)
    (hi : ist < m) (ei : f ist = dtO y mo d h mi s) (hr : rec < m) (er : f rec = entO (.ref jn) at_ nt te ct cd la hc wt wd lo fs lz fv jd enc) (hjn : jn < m) (ejn : f jn = nmO (.ref jb) enc true) (hjb : jb < m) (ejb : f jb = .barr [b0, b1, b2, b3, b4, b5, b6, b7, b8, b9, b10])
    (kd : okDate y mo d) (hy : 1980 ≤ y ∧ y ≤ 2107) (kt : okTime h mi s) (hs : Hold (s % 2 = 0)) (h1 : (b0.toNat : Int) ≠ 0) (h2 : (b0.toNat : Int) ≠ 229) (hD : 0 ≤ (y - 1980) * 512 + mo * 32 + d ∧ (y - 1980) * 512 + mo * 32 + d < 65536) (hT : 0 ≤ h * 2048 + mi * 32 + s / 2 ∧ h * 2048 + mi * 32 + s / 2 < 65536)
    (r1 : 1 ≤ mo ∧ mo ≤ 12) (r2 : 0 ≤ h ∧ h ≤ 23) (r3 : 0 ≤ mi ∧ mi ≤ 59) (o1 : slOk s1) (o2 : slOk s2) (o3 : slOk s3) (o4 : slOk s4) (o5 : slOk s5)
    (hq : ∀ f' m' s1 s2 s3 s4 s5, m ≤ m' → Same f m f' → slOk s1 → slOk s2 → slOk s3 → slOk s4 → slOk s5 → Q .next ⟨f', m', locL u1 u2 u3 u4 u5 u6 u7 u8 u9 s1 u10 u11 s2 u12 u13 (.val (.ref rec)) u14 u15 (.val (.ref ist)) s3 s4 s5 u16, md⟩) :
    W (execN (nvN (K2 P) (evX (K2 P) (k + 201)) sel02 (n + 20)) lb2.1) ⟨f, m, locL u1 u2 u3 u4 u5 u6 u7 u8 u9 s1 u10 u11 s2 u12 u13 (.val (.ref rec)) u14 u15 (.val (.ref ist)) s3 s4 s5 u16, md⟩ Q E := by
  unfold lb2 locL
  dsimp only
  end_is "y30"; end_is "x24"; end_is "y29"; (focus (k_extra "spn1050")); end_is "y21"; end_is "y208"; end_is "x69"; end_is "x103"; (with_reducible refine W.comp (by decide +kernel) ?_)
  end_is "y0"; (with_reducible refine W.compL (by k_extra "hdt") (by k_extra "lt") (by k_extra "ob2") ?_); end_is "x7"; (focus (k_extra "exksetLoc")); end_is "x97"; end_is "x68"
  end_is "y207"; rotate_left; rotate_right; end_is "x93"; end_is "y182"; end_is "x97"; end_is "x68"; end_is "y207"; rotate_left; rotate_right; end_is "x93"; end_is "y182"; end_is "x97"
  end_is "x68"; end_is "y207"; rotate_left; rotate_right; end_is "x93"; end_is "y182"; end_is "x97"; end_is "x68"; end_is "y207"; rotate_left; rotate_right; end_is "x93"; end_is "y182"
  end_is "x97"; end_is "x68"; end_is "y207"; rotate_left; rotate_right; end_is "x93"; end_is "y182"; end_is "x97"; end_is "x68"; end_is "y207"; rotate_left; rotate_right; end_is "x93"
  end_is "y182"; end_is "x106"; end_is "x79"; end_is "y22"; (focus (k_extra "ex")); (focus (k_extra "dt")); end_is "y10"; rotate_left; rotate_right; end_is "y180"; end_is "x24"
  end_is "y32"; end_is "y72"; (focus (k_extra "spn74")); end_is "x43"; end_is "y72"; (focus (k_extra "spn81")); end_is "y22"; end_is "x97"; end_is "y30"; end_is "y77"; end_is "y29"
  (focus (k_extra "spn1043")); end_is "y21"; (focus (k_extra "dt")); end_is "y10"; rotate_left; rotate_right; end_is "y180"; end_is "x24"; end_is "x81"; end_is "y7"; end_is "x55"
  end_is "y6"; end_is "y57"; end_is "y24"; end_is "x38"; end_is "y189"; end_is "y27"; (focus (k_extra "spn303")); end_is "y21"; end_is "y3"; end_is "x97"; end_is "x85"; end_is "x84"
  (with_reducible refine W.nName (by decide +kernel) ?_); end_is "y7"; end_is "y6"; end_is "y43"; end_is "y14"; end_is "x79"; end_is "y80"; end_is "y4"; end_is "x29"; end_is "x33"
  (focus (k_extra "bm")); end_is "y72"; (focus (k_extra "spn379")); end_is "y3"; end_is "x27"; end_is "y4"; (focus (k_extra "spn1057")); end_is "y99"; end_is "y1"
  (with_reducible refine W.aTup rfl ?_); end_is "x112"; end_is "y147"; end_is "x96"; end_is "y30"; end_is "y94"; end_is "y118"; (with_reducible refine W.comp (by decide +kernel) ?_)
  (with_reducible refine W.tup ?_); end_is "x43"; end_is "x81"; end_is "y45"; end_is "x56"; end_is "y59"; (focus (k_extra "spn313")); end_is "y21"; end_is "x43"; end_is "x81"
  end_is "y45"; end_is "x56"; end_is "y59"; (focus (k_extra "spn320")); end_is "y21"; end_is "x44"; end_is "x83"; (focus (k_extra "exkcompOver")); end_is "x7"; end_is "x97"
  (with_reducible refine W.ifNil ?_); (with_reducible refine W.putT ?_); end_is "y29"; (focus (k_extra "spn1050")); end_is "y21"
  (with_reducible refine W.biAppend (by k_extra "lt") (by k_extra "ob2") (by k_extra "ln") ?_); end_is "y182"; end_is "x97"; (with_reducible refine W.ifNil ?_)
  (with_reducible refine W.putT ?_); end_is "y29"; (focus (k_extra "spn1050")); end_is "y21"
  (with_reducible refine W.biAppend (by k_extra "lt") (by k_extra "ob2") (by k_extra "ln") ?_); end_is "y182"; end_is "x106"; end_is "y32"; end_is "y24"; end_is "y0"; end_is "y22"
  (focus (k_extra "ex")); (focus (k_extra "dt")); end_is "y10"; rotate_left; rotate_right; end_is "y118"; end_is "y14"; end_is "x81"; end_is "y45"; end_is "x56"; end_is "y59"
  (focus (k_extra "spn327")); end_is "y21"; end_is "y4"; (focus (k_extra "spn1050")); end_is "y21"; end_is "x106"; end_is "x28"; end_is "y100"; (with_reducible refine W.onNone ?_)
  end_is "x91"; end_is "x33"; end_is "x19"; end_is "x53"; end_is "y179"; end_is "x76"; (focus (k_extra "dt")); end_is "y10"; rotate_left; rotate_right; (with_reducible refine W.orN ?_)
  end_is "x5"; rotate_left; rotate_right; end_is "y180"; end_is "y94"; end_is "y118"; end_is "x81"; end_is "y45"; end_is "x56"; end_is "y59"; (focus (k_extra "spn365")); end_is "y33"
  end_is "x36"; end_is "y164"; rotate_left; rotate_right; end_is "y118"; end_is "x25"; end_is "y45"; end_is "x17"; end_is "y33"; end_is "x36"; end_is "y164"; rotate_left; rotate_right
  (with_reducible refine W.orN ?_); end_is "x5"; rotate_left; rotate_right; end_is "x115"; end_is "x2"; end_is "x86"
  (focus (((try dsimp only); (first | apply hq | with_unfolding_all apply hq)))); end_is "y12"; end_is "y149"; end_is "x8"
theorem byId {b : UInt8} : (((b.toNat : Nat) : Int)).toNat.toUInt8 = b := by
  rw [Int.toNat_natCast]
  exact UInt8.ofNat_toNat
theorem leBytes_leNat : ∀ (l : List UInt8), leBytes l.length (leNat l) = l
  | [] => rfl
  | b :: r => by
    have hb := b.toNat_lt
    show UInt8.ofNat ((b.toNat + 256 * leNat r) % 256) :: leBytes r.length ((b.toNat + 256 * leNat r) / 256) = b :: r
    rw [show (b.toNat + 256 * leNat r) % 256 = b.toNat by omega, show (b.toNat + 256 * leNat r) / 256 = leNat r by omega, leBytes_leNat r, UInt8.ofNat_toNat]
theorem leId2 {a b : UInt8} : leBytes (2 : Int).toNat ((leNat [a, b] : Nat) : Int).toNat = [a, b] := by
  rw [Int.toNat_natCast]; exact leBytes_leNat [a, b]
theorem leId4 {a b c d : UInt8} : leBytes (4 : Int).toNat ((leNat [a, b, c, d] : Nat) : Int).toNat = [a, b, c, d] := by
  rw [Int.toNat_natCast]; exact leBytes_leNat [a, b, c, d]
theorem leNat2_lt {a b : UInt8} : word ((leNat [a, b] : Nat) : Int) := by
  have h0 := a.toNat_lt
  have h1 := b.toNat_lt
  show (0 : Int) ≤ ((a.toNat + 256 * (b.toNat + 256 * 0) : Nat) : Int) ∧ ((a.toNat + 256 * (b.toNat + 256 * 0) : Nat) : Int) < 65536
  omega
theorem byte_lt {a : UInt8} : byte ((a.toNat : Nat) : Int) := by
  have h0 := a.toNat_lt
  unfold byte; omega
theorem entB_id {b0 b1 b2 b3 b4 b5 b6 b7 b8 b9 b10 b11 b12 b13 b14 b15 b16 b17 b18 b19 b20 b21 b22 b23 b24 b25 b26 b27 b28 b29 b30 b31 : UInt8} : entB [b0, b1, b2, b3, b4, b5, b6, b7, b8, b9, b10] (b11.toNat : Nat) (b12.toNat : Nat) (b13.toNat : Nat) (leNat [b14, b15] : Nat) (leNat [b16, b17] : Nat) (leNat [b18, b19] : Nat) (leNat [b20, b21] : Nat) (leNat [b22, b23] : Nat) (leNat [b24, b25] : Nat) (leNat [b26, b27] : Nat) (leNat [b28, b29, b30, b31] : Nat) = [b0, b1, b2, b3, b4, b5, b6, b7, b8, b9, b10, b11, b12, b13, b14, b15, b16, b17, b18, b19, b20, b21, b22, b23, b24, b25, b26, b27, b28, b29, b30, b31] := by
  unfold entB
  rw [leId2, leId2, leId2, leId2, leId2, leId2, leId2, leId4]
  simp only [List.map_cons, List.map_nil, byId, List.cons_append, List.nil_append]
theorem sp379C {i j k : Nat} {lz fv enc enc' : V} {dirs : Nat} {b0 b1 b2 b3 b4 b5 b6 b7 b8 b9 b10 b11 b12 b13 b14 b15 b16 b17 b18 b19 b20 b21 b22 b23 b24 b25 b26 b27 b28 b29 b30 b31 : UInt8} {Q : V → St → Prop} (hmd : md.hd = false) (hi : i < m) (ei : f i = entO (.ref j) (b11.toNat : Nat) (b12.toNat : Nat) (b13.toNat : Nat) (leNat [b14, b15] : Nat) (leNat [b16, b17] : Nat) (leNat [b18, b19] : Nat) (leNat [b20, b21] : Nat) (leNat [b22, b23] : Nat) (leNat [b24, b25] : Nat) (leNat [b26, b27] : Nat) (leNat [b28, b29, b30, b31] : Nat) lz fv dirs enc)
    (hj : j < m) (ej : f j = nmO (.ref k) enc' true) (hk : k < m) (ek : f k = .barr [b0, b1, b2, b3, b4, b5, b6, b7, b8, b9, b10])
    (hq : ∀ f' m', m ≤ m' → Same f m f' → Q (.bytes [b0, b1, b2, b3, b4, b5, b6, b7, b8, b9, b10, b11, b12, b13, b14, b15, b16, b17, b18, b19, b20, b21, b22, b23, b24, b25, b26, b27, b28, b29, b30, b31]) ⟨f', m', l, md⟩) :
    W ((evX (K2 P) (n + 40)).call (.old 379) [.ref i] []) ⟨f, m, l, md⟩ Q E :=
  sp379 hmd hi ei hj ej hk ek rfl byte_lt byte_lt byte_lt leNat2_lt leNat2_lt leNat2_lt leNat2_lt leNat2_lt leNat2_lt leNat2_lt ⟨by omega, by have := @leNat4 b28 b29 b30 b31; omega⟩ (by rw [entB_id]; exact hq)
theorem due00 : DueT 0 0 0 0 := .inl ⟨by decide, by decide, by decide, by decide⟩
theorem DueT.even {x h mi s : Int} (q : DueT x h mi s) : s % 2 = 0 := by
  rcases q with ⟨_, _, _, rfl⟩ | ⟨_, _, _, rfl⟩ <;> omega
theorem lb2_due {body : List Stmt} {rec ist jn jb jd : Nat} {y mo d h mi s at_ nt te ct cd la hc wt wd lo fs x t : Int} {lz fv enc : V} {b0 b1 b2 b3 b4 b5 b6 b7 b8 b9 b10 : UInt8} {u1 u2 u3 u4 u5 u6 u7 u8 u9 u10 u11 u12 u13 u14 u15 u16 s1 s2 s3 s4 s5 : Slot} {Q : Fl → St → Prop} (hbody : body = lb2.1) (hmd : md.hd = false) (htop : md.top = true)
    (hi : ist < m) (ei : f ist = dtO y mo d h mi s) (hr : rec < m) (er : f rec = entO (.ref jn) at_ nt te ct cd la hc wt wd lo fs lz fv jd enc) (hjn : jn < m) (ejn : f jn = nmO (.ref jb) enc true) (hjb : jb < m) (ejb : f jb = .barr [b0, b1, b2, b3, b4, b5, b6, b7, b8, b9, b10])
    (k1 : DueD x y mo d) (k2 : DueT t h mi s) (h1 : (b0.toNat : Int) ≠ 0) (h2 : (b0.toNat : Int) ≠ 229) (o1 : slOk s1) (o2 : slOk s2) (o3 : slOk s3) (o4 : slOk s4) (o5 : slOk s5)
    (hq : ∀ f' m' s1 s2 s3 s4 s5, m ≤ m' → Same f m f' → slOk s1 → slOk s2 → slOk s3 → slOk s4 → slOk s5 → Q .next ⟨f', m', locL u1 u2 u3 u4 u5 u6 u7 u8 u9 s1 u10 u11 s2 u12 u13 (.val (.ref rec)) u14 u15 (.val (.ref ist)) s3 s4 s5 u16, md⟩) :
    W (execN (nvN (K2 P) (evX (K2 P) (k + 201)) sel02 (n + 20)) body) ⟨f, m, locL u1 u2 u3 u4 u5 u6 u7 u8 u9 s1 u10 u11 s2 u12 u13 (.val (.ref rec)) u14 u15 (.val (.ref ist)) s3 s4 s5 u16, md⟩ Q E := by
  subst hbody
  have kt := k2.ok
  have kt' := kt
  obtain ⟨g1, g2, g3, g4, g5, g6⟩ := kt'
  have hb := okD_bd k1.ok.1
  have hy := k1.ok.2
  exact lb2_step hmd htop hi ei hr er hjn ejn hjb ejb k1.ok.1 hy kt ⟨k2.even⟩ h1 h2 (by omega) (by omega) (by omega) (by omega) (by omega) o1 o2 o3 o4 o5 hq
local macro_rules | `(tactic| k_extra "spn379") => `(tactic| first | (with_reducible refine sp379C (by k_extra "hdt") (by k_extra "lt") (by k_extra "ob2") (by k_extra "lt") (by k_extra "ob2") (by k_extra "lt") (by k_extra "ob2") ?_) | fail)
local macro_rules | `(tactic| k_extra "exkexecN") => `(tactic| first | (with_reducible refine lb2_due (by with_unfolding_all exact rfl) (by k_extra "hdt") (by k_extra "hdt") (by k_extra "lt") (by k_extra "ob2") (by k_extra "lt") (by k_extra "ob2") (by k_extra "lt") (by k_extra "ob2") (by k_extra "lt") (by k_extra "ob2") (by assumption) (by first | assumption | exact due00) (by assumption) (by assumption) (by k_extra "so") (by k_extra "so") (by k_extra "so") (by k_extra "so") (by k_extra "so") ?_) | fail)
local macro_rules | `(tactic| k_extra "exksetLoc") => `(tactic| first | (dsimp only [plainMk]) | fail)
def lb3 : { b : List Stmt // forBody bd1062.1 7 = b } := by
  refine ⟨?b, ?h⟩
  case h => conv => lhs; whnf
theorem lb3_step {t j jn jb jd : Nat} {o : List UInt8} {lz fv enc : V} {b0 b1 b2 b3 b4 b5 b6 b7 b8 b9 b10 b11 b12 b13 b14 b15 b16 b17 b18 b19 b20 b21 b22 b23 b24 b25 b26 b27 b28 b29 b30 b31 : UInt8} {u1 u2 u4 u5 u6 u7 u8 u9 u10 u11 u12 u13 u14 u16 s1 s2 s3 s4 s5 s6 : Slot} {Q : Fl → St → Prop} (hmd : md.hd = false) (htop : md.top = true)
    (hj : j < m) (ej : f j = entO (.ref jn) (b11.toNat : Nat) (b12.toNat : Nat) (b13.toNat : Nat) (leNat [b14, b15] : Nat) (leNat [b16, b17] : Nat) (leNat [b18, b19] : Nat) (leNat [b20, b21] : Nat) (leNat [b22, b23] : Nat) (leNat [b24, b25] : Nat) (leNat [b26, b27] : Nat) (leNat [b28, b29, b30, b31] : Nat) lz fv jd enc) (hjn : jn < m) (ejn : f jn = nmO (.ref jb) enc true) (hjb : jb < m) (ejb : f jb = .barr [b0, b1, b2, b3, b4, b5, b6, b7, b8, b9, b10])
    (hsl : sliceOf o (.int (32 * t + 32)) (.int (32 * t + 64)) = some [b0, b1, b2, b3, b4, b5, b6, b7, b8, b9, b10, b11, b12, b13, b14, b15, b16, b17, b18, b19, b20, b21, b22, b23, b24, b25, b26, b27, b28, b29, b30, b31]) (hol : o.length ≤ 1000) (ht : t ≤ 1000) (h1 : (b0.toNat : Int) ≠ 0) (h2 : (b0.toNat : Int) ≠ 229) (o1 : slOk s1) (o2 : slOk s2) (o3 : slOk s3) (o4 : slOk s4) (o5 : slOk s5) (o6 : slOk s6)
    (hq : ∀ f' m' s1 s2 s3 s4 s5 s6, m ≤ m' → Same f m f' → slOk s1 → slOk s2 → slOk s3 → slOk s4 → slOk s5 → slOk s6 → Q .next ⟨f', m', locL u1 u2 (.val (.bytes o)) u4 u5 u6 u7 u8 u9 s1 u10 u11 s2 u12 u13 (.val (.ref j)) u14 (.val (.int t)) s6 s3 s4 s5 u16, md⟩) :
    W (execN (nvN (K2 P) (evX (K2 P) (k + 201)) sel02 (n + 21)) lb3.1) ⟨f, m, locL u1 u2 (.val (.bytes o)) u4 u5 u6 u7 u8 u9 s1 u10 u11 s2 u12 u13 (.val (.ref j)) u14 (.val (.int t)) s6 s3 s4 s5 u16, md⟩ Q E := by
  unfold lb3 locL
  dsimp only
  end_is "y30"; end_is "x69"; end_is "x103"; end_is "y72"; (focus (k_extra "spn379")); end_is "y3"; end_is "x106"; end_is "y137"; end_is "y157"; end_is "y0"; end_is "x63"; end_is "x33"
  end_is "x59"; end_is "x91"; end_is "y157"; end_is "y0"; end_is "x63"; end_is "x33"; end_is "x59"; end_is "y110"; (with_reducible refine W.cNeB ?_); end_is "y164"; rotate_left
  rotate_right; end_is "x115"; end_is "x2"; end_is "x85"; (with_reducible refine W.nFor (by decide +kernel) ?_)
  (with_reducible refine W.forN (by decide +kernel) (by decide +kernel) ?_); (with_reducible refine W.tup ?_); end_is "x43"; end_is "y72"; (focus (k_extra "spn313")); end_is "y99"
  end_is "x43"; end_is "y72"; (focus (k_extra "spn320")); end_is "y99"; end_is "x43"; end_is "y72"; (focus (k_extra "spn327")); end_is "y21"; end_is "y3"; end_is "x44"; end_is "x83"
  (with_reducible refine W.nLoopT (by k_extra "hdt") (by k_extra "lt") (by k_extra "ob2") ?_); (with_reducible refine W.nlCons ?_); (with_reducible refine W.aName ?_)
  (focus (k_extra "exksetLoc")); end_is "x97"; (focus (k_extra "exkexecN")); end_is "y21"; end_is "y63"; end_is "y53"; (with_reducible refine W.nlCons ?_)
  (with_reducible refine W.aName ?_); (focus (k_extra "exksetLoc")); end_is "x97"; (focus (k_extra "exkexecN")); end_is "y21"; end_is "y63"; end_is "y53"
  (with_reducible refine W.nlCons ?_); (with_reducible refine W.aName ?_); (focus (k_extra "exksetLoc")); end_is "x97"; (focus (k_extra "exkexecN")); end_is "y21"; end_is "y63"
  end_is "y53"; (with_reducible refine W.nlNil ?_); end_is "x115"; end_is "x2"; end_is "x86"; (focus (((try dsimp only); (first | apply hq | with_unfolding_all apply hq))))
  end_is "y12"; end_is "y211"
theorem sp1029T {i : Nat} {y mo d h mi s : Int} {Q : V → St → Prop} (hmd : md.hd = false) (hi : i < m) (ei : f i = .list [.int y, .int mo, .int d, .int h, .int mi, .int s]) (k1 : okDate y mo d) (k2 : okTime h mi s)
    (hq : ∀ f' m', m ≤ m' → Same f m f' → Q (.bool true) ⟨f', m', l, md⟩) :
    W ((evX (K2 P) (n + 50)).call (.old 1029) [.ref i] []) ⟨f, m, l, md⟩ Q E :=
  sp1029 hmd hi ei fun b hb f' m' a c => by
    have : b = true := hb.2 ⟨k1, k2⟩
    subst this
    exact hq f' m' a c
theorem sp1029F {i : Nat} {y mo d h mi s : Int} {Q : V → St → Prop} (hmd : md.hd = false) (hi : i < m) (ei : f i = .list [.int y, .int mo, .int d, .int h, .int mi, .int s]) (k : ¬ (okDate y mo d ∧ okTime h mi s))
    (hq : ∀ f' m', m ≤ m' → Same f m f' → Q (.bool false) ⟨f', m', l, md⟩) :
    W ((evX (K2 P) (n + 50)).call (.old 1029) [.ref i] []) ⟨f, m, l, md⟩ Q E :=
  sp1029 hmd hi ei fun b hb f' m' a c => by
    have : b = false := hdF hb.1 k
    subst this
    exact hq f' m' a c
theorem sp1043K {i : Nat} {y mo d h mi s : Int} {Q : V → St → Prop} (hi : i < m) (ei : f i = .list [.int y, .int mo, .int d, .int h, .int mi, .int s]) (k1 : okDate y mo d) (k2 : okTime h mi s)
    (hq : ∀ f' m' r, m ≤ m' → Same f m f' → m ≤ r → r < m' → f' r = .list [.int ((y - 1980) * 512 + mo * 32 + d), .int (h * 2048 + mi * 32 + s / 2)] → Q (.ref r) ⟨f', m', l, md⟩) :
    W ((evX (K2 P) (n + 20)).call (.old 1043) [.ref i] []) ⟨f, m, l, md⟩ Q E := by
  obtain ⟨a1, a2, a3, a4, a5, a6⟩ := k1
  obtain ⟨c1, c2, c3, c4, c5, c6⟩ := k2
  exact sp1043 hi ei (by omega) (by omega) (by omega) (by omega) hq
local macro_rules | `(tactic| k_extra "spn1029") => `(tactic| first | (with_reducible refine sp1029T (by k_extra "hdt") (by k_extra "lt") (by k_extra "ob2") (by assumption) (by assumption) ?_) | fail)
local macro_rules | `(tactic| k_extra "spn1029") => `(tactic| first | (with_reducible refine sp1029F (by k_extra "hdt") (by k_extra "lt") (by k_extra "ob2") (by assumption) ?_) | fail)
local macro_rules | `(tactic| k_extra "spn1043") => `(tactic| first | (with_reducible refine sp1043K (by k_extra "lt") (by k_extra "ob2") (by assumption) (by assumption) ?_) | fail)
local macro_rules | `(tactic| k_extra "spn74") => `(tactic| first | (with_reducible refine sp74 (by k_extra "lt") (by k_extra "ob2") (by assumption) (by k_extra "omh") ?_) | fail)
def lb4 : { b : List Stmt // forBody bd1062.1 8 = b } := by
  refine ⟨?b, ?h⟩
  case h => conv => lhs; whnf
theorem lb4_step {j : Nat} {y mo d h mi s : Int} {u1 u2 u3 u4 u5 u6 u7 u8 u9 u10 u11 u12 u13 u14 u15 u16 u17 u18 u19 u20 s1 s2 : Slot} {Q : Fl → St → Prop} (hmd : md.hd = false) (htop : md.top = true)
    (hj : j < m) (ej : f j = .list [.int y, .int mo, .int d, .int h, .int mi, .int s]) (o1 : slOk s1) (o2 : slOk s2)
    (hq : ∀ f' m' s1 s2, m ≤ m' → Same f m f' → slOk s1 → slOk s2 → Q .next ⟨f', m', locL u1 u2 u3 u4 u5 u6 u7 u8 u9 u10 u11 u12 (.val (.ref j)) u13 u14 u15 u16 u17 s1 u18 u19 u20 s2, md⟩) :
    W (execL (evX (K2 P) (k + 100)) lb4.1) ⟨f, m, locL u1 u2 u3 u4 u5 u6 u7 u8 u9 u10 u11 u12 (.val (.ref j)) u13 u14 u15 u16 u17 s1 u18 u19 u20 s2, md⟩ Q E := by
  unfold lb4 locL
  dsimp only
  end_is "x114"; end_is "x110"; end_is "y31"; end_is "y14"; end_is "y45"; end_is "y116"; end_is "y116"; end_is "y116"; end_is "y116"; end_is "y116"; end_is "y4"
  (focus (k_extra "spn104")); end_is "y21"; end_is "y98"; end_is "x30"; end_is "y39"; end_is "y20"; end_is "y2"; end_is "y77"; end_is "y29"; (focus (k_extra "spn1029")); end_is "y3"
  (with_reducible refine W.cNeO ?_); end_is "y164"; rotate_left; rotate_right; end_is "y28"; end_is "y155"; end_is "x105"; end_is "y0"; end_is "y10"; rotate_left; rotate_right
  end_is "y75"; end_is "y29"; (focus (k_extra "spn1050")); end_is "y21"; end_is "x106"; end_is "y0"; (focus (k_extra "dt")); end_is "y10"; rotate_left; rotate_right; end_is "x5"
  rotate_left; rotate_right; end_is "y28"; end_is "y155"; end_is "x105"; end_is "y0"; end_is "y10"; rotate_left; rotate_right; end_is "y154"; end_is "y45"; end_is "y46"; rotate_left
  rotate_left; rotate_right; rotate_right; end_is "y141"; rotate_left; rotate_left; rotate_right; rotate_right; end_is "y75"; end_is "y32"; end_is "y72"; (focus (k_extra "spn74"))
  end_is "x43"; end_is "y72"; (focus (k_extra "spn81")); end_is "y22"; end_is "x106"; end_is "y29"; (focus (k_extra "spn1043")); end_is "y21"; (focus (k_extra "dt")); end_is "y10"
  rotate_left; rotate_right; end_is "x5"; rotate_left; rotate_right; end_is "x115"; end_is "y20"; (focus (((try dsimp only); (first | apply hq | with_unfolding_all apply hq))))
  end_is "y12"; end_is "y40"; end_is "x5"; rotate_left; rotate_right; end_is "x115"; end_is "y20"; (focus (((try dsimp only); (first | apply hq | with_unfolding_all apply hq))))
  end_is "y12"; end_is "y40"; end_is "x5"; rotate_left; rotate_right; end_is "x5"; rotate_left; rotate_right; end_is "x115"; end_is "y20"
  (focus (((try dsimp only); (first | apply hq | with_unfolding_all apply hq)))); end_is "y12"; end_is "y40"; end_is "y68"; end_is "x116"; end_is "y38"; end_is "y31"; end_is "x30"
  end_is "y119"; end_is "y77"; end_is "y29"; (focus (k_extra "spn1029")); end_is "y3"; (with_reducible refine W.cNeO ?_); end_is "y164"; rotate_left; rotate_right; end_is "y28"
  end_is "y155"; end_is "x105"; end_is "y0"; end_is "y10"; rotate_left; rotate_right; end_is "x5"; rotate_left; rotate_right; end_is "y28"; end_is "y155"; end_is "x105"; end_is "y0"
  end_is "y10"; rotate_left; rotate_right; end_is "x5"; rotate_left; rotate_right; end_is "x115"; end_is "y20"
  (focus (((try dsimp only); (first | apply hq | with_unfolding_all apply hq)))); end_is "y12"; end_is "y40"
def cAt (cv : List Int) (t i : Nat) : Int := cv.getD (3 * t + i) 0
theorem sl_dropG {α : Type} {d c : List α} {x y : Int} (hx : 0 ≤ x) (hy : 0 ≤ y) (hl : x + y ≤ d.length) (hc : (d.drop x.toNat).take y.toNat = c) : sliceOf d (.int x) (.int (x + y)) = some c := by
  unfold sliceOf lowOf highOf clampI
  dsimp only
  rw [if_neg (by omega), if_neg (by omega)]
  have e1 : min x.toNat d.length = x.toNat := by omega
  have e2 : min (x + y).toNat d.length = (x + y).toNat := by omega
  rw [e1, e2]
  show some ((d.drop x.toNat).take ((x + y).toNat - x.toNat)) = some c
  rw [show (x + y).toNat - x.toNat = y.toNat by omega, hc]
theorem sl3 {cv : List Int} {t g : Nat} (hl : cv.length = 3 * g) (ht : t < g) : sliceOf (cv.map V.int) (.int (0 + 3 * t)) (.int (0 + 3 * t + 3)) = some [.int (cAt cv t 0), .int (cAt cv t 1), .int (cAt cv t 2)] := by
  rw [sl_dropG (c := [.int (cAt cv t 0), .int (cAt cv t 1), .int (cAt cv t 2)]) (by omega) (by omega) (by rw [List.length_map]; omega) ?_]
  apply List.ext_getElem?
  intro k
  rw [List.getElem?_take, List.getElem?_drop, List.getElem?_map]
  have e : ((0 : Int) + 3 * (t : Int)).toNat = 3 * t := by omega
  have e3 : ((3 : Int)).toNat = 3 := rfl
  rw [e, e3]
  have key : ∀ i, i < 3 → cv[3 * t + i]? = some (cAt cv t i) := fun i hi => by
    have hx : 3 * t + i < cv.length := by omega
    unfold cAt
    rw [List.getD_eq_getElem?_getD, List.getElem?_eq_getElem hx]
    rfl
  by_cases h0 : k = 0
  · subst h0; rw [if_pos (by omega), key 0 (by omega)]; rfl
  by_cases h1 : k = 1
  · subst h1; rw [if_pos (by omega), key 1 (by omega)]; rfl
  by_cases h2 : k = 2
  · subst h2; rw [if_pos (by omega), key 2 (by omega)]; rfl
  rw [if_neg (by omega), List.getElem?_eq_none (by simp only [List.length_cons, List.length_nil]; omega)]
def recT (cv : List Int) (t : Nat) : List UInt8 := recB (0 + 3 * t) (cAt cv t 0 % 65536) (cAt cv t 0 / 65536 % 65536) (cAt cv t 1 % 65536) (cAt cv t 1 / 65536 % 65536) (cAt cv t 2 % 65536)
def octs (cv : List Int) : Nat → List UInt8
  | 0 => seven
  | t + 1 => octs cv t ++ recT cv t
theorem recT_len {cv : List Int} {t : Nat} : (recT cv t).length = 32 := by unfold recT recB recI; rw [List.length_map]; rfl
theorem octs_len {cv : List Int} : ∀ t, (octs cv t).length = 32 + 32 * t
  | 0 => rfl
  | t + 1 => by show (octs cv t ++ recT cv t).length = _; rw [List.length_append, octs_len t, recT_len]; omega
theorem octs_pre {cv : List Int} (k : Nat) : ∀ g, k ≤ g → ∃ r, octs cv g = octs cv k ++ r
  | 0, h => ⟨[], by rw [show k = 0 by omega, List.append_nil]⟩
  | g + 1, h => by
    by_cases e : k = g + 1
    · exact ⟨[], by rw [e, List.append_nil]⟩
    · obtain ⟨r, hr⟩ := octs_pre k g (by omega)
      exact ⟨r ++ recT cv g, by show octs cv g ++ recT cv g = _; rw [hr, List.append_assoc]⟩
theorem octs_at {cv : List Int} {k g : Nat} (h : k < g) : ((octs cv g).drop (32 + 32 * k)).take 32 = recT cv k := by
  obtain ⟨r, hr⟩ := octs_pre (cv := cv) (k + 1) g h
  rw [hr]
  show (((octs cv k ++ recT cv k) ++ r).drop (32 + 32 * k)).take 32 = _
  rw [List.append_assoc, ← octs_len (cv := cv) k, List.drop_left, ← recT_len (cv := cv) (t := k), List.take_left]
def D1 (cv : List Int) (t : Nat) : Six := dueS (cAt cv t 0 % 65536) (cAt cv t 0 / 65536 % 65536)
def D2 (cv : List Int) (t : Nat) : Six := dueS (cAt cv t 1 % 65536) (cAt cv t 1 / 65536 % 65536)
def D3 (cv : List Int) (t : Nat) : Six := dueS (cAt cv t 2 % 65536) 0
structure Dues (cv : List Int) (lo g : Nat) (f : Nat → O) (m : Nat) (ds : List Nat) : Prop where
  len : ds.length = g
  at_ : ∀ (k : Nat), k < g → ∃ j, ds[k]? = some j ∧ DueAt lo f m (D1 cv k) (D2 cv k) (D3 cv k) j
structure Sixes (lo g : Nat) (f : Nat → O) (m : Nat) (ss : List Nat) : Prop where
  len : ss.length = g
  at_ : ∀ (k : Nat), k < g → ∃ j, ss[k]? = some j ∧ SixAt lo f m j
theorem Dues.same {cv : List Int} {lo g m m' : Nat} {f f' : Nat → O} {ds : List Nat} (h : Dues cv lo g f m ds) (hs : Same f m f') (hm : m ≤ m') : Dues cv lo g f' m' ds :=
  ⟨h.len, fun k hk => by obtain ⟨j, e1, e2⟩ := h.at_ k hk; exact ⟨j, e1, e2.same hs hm⟩⟩
theorem Sixes.same {lo g m m' : Nat} {f f' : Nat → O} {ss : List Nat} (h : Sixes lo g f m ss) (hs : Same f m f') (hm : m ≤ m') : Sixes lo g f' m' ss :=
  ⟨h.len, fun k hk => by obtain ⟨j, e1, e2⟩ := h.at_ k hk; exact ⟨j, e1, e2.same hs hm⟩⟩
theorem Dues.push {cv : List Int} {lo lo' g m m' du st j : Nat} {f f' : Nat → O} {ds : List Nat} (h : Dues cv lo g f m ds) (hs : SameY f m du st f') (hm : m ≤ m') (hd : du < lo) (ht : st < lo) (hj : DueAt lo' f' m' (D1 cv g) (D2 cv g) (D3 cv g) j) (hl : lo ≤ lo') : Dues cv lo (g + 1) f' m' (ds ++ [j]) :=
  ⟨by rw [List.length_append, h.len]; rfl, fun k hk => by
    by_cases q : k < g
    · obtain ⟨j, e1, e2⟩ := h.at_ k q
      exact ⟨j, by rw [List.getElem?_append_left (by rw [h.len]; exact q)]; exact e1, e2.sameY hs hm hd ht⟩
    · have : k = g := by omega
      subst this
      obtain ⟨j1, j2, j3, h0, h1, h2, h3, e⟩ := hj.ex
      exact ⟨j, by rw [List.getElem?_append_right (by rw [h.len]; omega), h.len, Nat.sub_self]; rfl, j1, j2, j3, by omega, by omega, by omega, by omega, e⟩⟩
theorem Sixes.push {lo lo' g m m' du st j : Nat} {f f' : Nat → O} {ss : List Nat} (h : Sixes lo g f m ss) (hs : SameY f m du st f') (hm : m ≤ m') (hd : du < lo) (ht : st < lo) (hj : SixAt lo' f' m' j) (hl : lo ≤ lo') : Sixes lo (g + 1) f' m' (ss ++ [j]) :=
  ⟨by rw [List.length_append, h.len]; rfl, fun k hk => by
    by_cases q : k < g
    · obtain ⟨j, e1, e2⟩ := h.at_ k q
      exact ⟨j, by rw [List.getElem?_append_left (by rw [h.len]; exact q)]; exact e1, e2.sameY hs hm hd ht⟩
    · have : k = g := by omega
      subst this
      obtain ⟨x, h0, e⟩ := hj.ex
      exact ⟨j, by rw [List.getElem?_append_right (by rw [h.len]; omega), h.len, Nat.sub_self]; rfl, x, by omega, e⟩⟩
theorem rep_map {α β : Type} (g : α → β) (x : α) : ∀ n, (List.replicate n x).map g = repl n [g x]
  | 0 => rfl
  | n + 1 => by
    show g x :: (List.replicate n x).map g = [g x] ++ repl n [g x]
    rw [rep_map g x n]; rfl
def recN (n : Nat) : Nat := if n ≤ 3 then 1 else (n + 2) / 3
def cells (cl : List Int) : List Int := cl ++ List.replicate (3 * recN cl.length - cl.length) 0
theorem cells_len {cl : List Int} : (cells cl).length = 3 * recN cl.length := by
  unfold cells
  rw [List.length_append, List.length_replicate]
  unfold recN
  split <;> omega
structure I730 (cv : List Int) (f0 : Nat → O) (m0 ce du st : Nat) (scr : V) (md : Mode) (t : Nat) (s : St) : Prop where
  ex : ∃ (f' : Nat → O) (m' : Nat) (ds ss : List Nat) (s0 s1 s2 s3 s4 s5 s6 s7 : Slot), s = ⟨f', m', locL (.val scr) (.val (.ref ce)) (.val (.bytes (octs cv t))) (.val (.ref du)) (.val (.ref st)) s0 s1 s2 s3 s4 s5 s6 s7 .unset .unset .unset .unset .unset .unset .unset .unset .unset .unset, md⟩ ∧
    slOk s0 ∧ slOk s1 ∧ slOk s2 ∧ slOk s3 ∧ slOk s4 ∧ slOk s5 ∧ slOk s6 ∧ slOk s7 ∧ m0 ≤ m' ∧ SameY f0 m0 du st f' ∧ f' du = .list (ds.map V.ref) ∧ f' st = .list (ss.map V.ref) ∧ Dues cv m0 t f' m' ds ∧ Sixes m0 t f' m' ss
theorem SameY.trans {f f' f'' : Nat → O} {m m' i k : Nat} (h : SameY f m i k f') (h' : SameY f' m' i k f'') (hm : m ≤ m') : SameY f m i k f'' := ⟨fun hj hn hn' e => h'.get (by omega) hn hn' (h.get hj hn hn' e)⟩
def lR4 : { b : List Stmt // bd1062.1.drop 4 = b } := by
  refine ⟨?b, ?h⟩
  case h => conv => lhs; whnf
def lR1 : { b : List Stmt // bd1062.1.drop 1 = b } := by
  refine ⟨?b, ?h⟩
  case h => conv => lhs; whnf
theorem lawA {scr : V} {c0 : Nat} {cl cv : List Int} {g : Nat} {Q : Fl → St → Prop} (hmd : md.hd = false) (htop : md.top = true) (hc0 : c0 < m) (ec0 : f c0 = .list (cl.map V.int)) (hcl : cl.length ≤ 12) (hcv : cv = cells cl) (hg : g = recN cl.length)
    (hq : ∀ f' m' lo ce du st ds ss s0 s1 s2 s3 s4 s5 s6 s7, Same f m f' → (m ≤ lo ∧ lo ≤ m') → (m ≤ du ∧ du < lo) → (m ≤ st ∧ st < lo) → f' du = .list (ds.map V.ref) → f' st = .list (ss.map V.ref) → Dues cv lo g f' m' ds → Sixes lo g f' m' ss → slOk s0 → slOk s1 → slOk s2 → slOk s3 → slOk s4 → slOk s5 → slOk s6 → slOk s7 →
      W (execN (nvN (K2 P) (evX (K2 P) (k + 210)) sel02 (n + 24)) lR4.1) ⟨f', m', locL (.val scr) (.val (.ref ce)) (.val (.bytes (octs cv g))) (.val (.ref du)) (.val (.ref st)) s0 s1 s2 s3 s4 s5 s6 s7 .unset .unset .unset .unset .unset .unset .unset .unset .unset .unset, md⟩ Q E) :
    W (execN (nvN (K2 P) (evX (K2 P) (k + 210)) sel02 (n + 24)) lR1.1) ⟨f, m, locL (.val scr) (.val (.ref c0)) .unset .unset .unset .unset .unset .unset .unset .unset .unset .unset .unset .unset .unset .unset .unset .unset .unset .unset .unset .unset .unset, md⟩ Q E := by
  unfold lR1 locL
  dsimp only
  have hml : (cl.map V.int).length = cl.length := List.length_map ..
  end_is "y30"; end_is "x24"; end_is "y65"; end_is "x28"; end_is "x79"; end_is "y80"; end_is "y43"; end_is "y14"; end_is "x33"; end_is "x43"; (with_reducible refine W.un ?_)
  end_is "x28"; (with_reducible refine W.un ?_); end_is "y29"; end_is "x78"; (with_reducible refine W.neg1 ?_); end_is "x33"; end_is "x61"; (with_reducible refine W.neg1 ?_)
  end_is "y4"; (with_reducible refine W.max2 (by k_extra "hdt") ?_); end_is "y142"; end_is "y29"; end_is "x78"; end_is "x67"; (focus (k_extra "ex")); rotate_left; rotate_right
  rotate_left; rotate_right
  rw [hml]
  have hp : (if (1 : Int) < -(-(cl.length : Int) / 3) then -(-(cl.length : Int) / 3) else 1) * 3 - (cl.length : Int) = ((3 * recN cl.length - cl.length : Nat) : Int) := by
    unfold recN
    split <;> split <;> omega
  rw [hp]
  have hpl : 3 * recN cl.length - cl.length ≤ 3 := by unfold recN; split <;> omega
  have hgl : 1 ≤ recN cl.length ∧ recN cl.length ≤ 4 := by unfold recN; split <;> omega
  rw [← hg] at hgl
  have hvl : cv.length = 3 * g := by rw [hcv, hg]; exact cells_len
  refine W.lMulE (z := (List.replicate (3 * recN cl.length - cl.length) (0 : Int)).map V.int) (by omega) updO_same (by unfold nearI; simp only [Bool.and_eq_true, decide_eq_true_eq]; omega) (by rw [rep_map, Int.toNat_natCast]) (by rw [List.length_map, List.length_replicate]; omega) ?_
  refine W.lAddE (z := cv.map V.int) (by omega) (by k_extra "ob2") (by omega) updO_same (by rw [hcv, ← List.map_append]; rfl) (by rw [List.length_map]; omega) ?_
  end_is "x97"; end_is "y30"; (with_reducible refine W.swap (by decide +kernel) rfl ?_); (with_reducible refine W.tup ?_); end_is "x43"; end_is "x28"; end_is "y14"; end_is "x79"
  end_is "y80"; end_is "y4"; end_is "x29"; end_is "x33"; (focus (k_extra "bm")); end_is "x43"; end_is "x79"; end_is "y22"; end_is "x43"; end_is "x79"; end_is "y22"; end_is "x44"
  end_is "x83"; (with_reducible refine ⟨(by kernel_rfl : List.all _ _ = true), ?_⟩); end_is "x112"; (focus (dsimp only [List.reverse, List.reverseAux])); end_is "y147"; end_is "y67"
  end_is "x96"; end_is "y30"; end_is "x46"; end_is "y14"; end_is "x33"; end_is "x43"; end_is "y29"; end_is "x78"; end_is "y18"; end_is "y4"
  (with_reducible refine W.range3 (by decide +kernel) ?_); rotate_left; rotate_right; rotate_left; rotate_right
  have hml2 : (cv.map V.int).length = 3 * g := by rw [List.length_map, hvl]
  refine W.loopR (by k_extra "hdt") (by k_extra "hdt") (by k_extra "lt") (by k_extra "ob2") (rng_small (g := g) (by omega) (by omega) (by omega) (by omega)) ?_
  generalize hf1 : updO (updO (updO (updO (updO (updO (updO (updO f m (O.list [V.int 0])) (m + 1) _) (m + 1 + 1) _) (m + 1 + 1 + 1) _) (m + 1 + 1 + 1 + 1) _) (m + 1 + 1 + 1 + 1 + 1) _) (m + 1 + 1 + 1 + 1 + 1 + 1) _) (m + 1 + 1 + 1 + 1 + 1 + 1 + 1) _ = f1
  have a1 : Same f m f1 := by rw [← hf1]; k_extra "same"
  have a2 : f1 (m + 1 + 1) = .list (cv.map V.int) := by rw [← hf1]; k_extra "ob2"
  have a3 : f1 (m + 1 + 1 + 1 + 1) = .list [] := by rw [← hf1]; k_extra "ob2"
  have a4 : f1 (m + 1 + 1 + 1 + 1 + 1) = .list [] := by rw [← hf1]; k_extra "ob2"
  clear hf1
  generalize hm1 : m + 1 + 1 + 1 + 1 + 1 + 1 + 1 + 1 = m1
  refine W.lInv (I730 cv f1 m1 (m + 1 + 1) (m + 1 + 1 + 1 + 1) (m + 1 + 1 + 1 + 1 + 1) scr md) ?_ ?_ ?_
  · exact ⟨f1, m1, [], [], _, _, _, _, _, _, _, _, rfl, .inl rfl, .inl rfl, .inl rfl, .inl rfl, .inl rfl, .inl rfl, .inl rfl, .inl rfl, by omega, SameY.refl, a3, a4, ⟨rfl, fun k hk => absurd hk (Nat.not_lt_zero _)⟩, ⟨rfl, fun k hk => absurd hk (Nat.not_lt_zero _)⟩⟩
  · intro t v hv s hI
    obtain ⟨ht, rfl⟩ := rng_get (g := g) (by omega) (by omega) hv
    obtain ⟨f', m', ds, ss, s0, s1, s2, s3, s4, s5, s6, s7, rfl, o0, o1, o2, o3, o4, o5, o6, o7, q1, q2, q3, q4, q5, q6⟩ := hI.ex
    refine W.setLoc (by decide +kernel) (by k_extra "lk") o0 (by k_extra "pt") ?_
    let E0 : V → St → Prop := NoX
    refine W.mono (lb1_step (E := E0) (vs := cv.map V.int) (A := cAt cv t 0) (B := cAt cv t 1) (C := cAt cv t 2) hmd htop (by omega) (q2.get (by omega) (by omega) (by omega) a2) (by omega) q3 (by omega) q4 (by omega) (by omega) (by omega) (by omega) (by rw [List.length_map, q5.len]; omega) (by rw [List.length_map, q6.len]; omega) (by rw [octs_len]; omega) (by omega) (sl3 hvl ht) o1 o2 o3 o4 o5 o6 o7 (Q := fun fl s => fl = .next ∧ I730 cv f1 m1 (m + 1 + 1) (m + 1 + 1 + 1 + 1) (m + 1 + 1 + 1 + 1 + 1) scr md (t + 1) s) ?_) ?_ ?_
    · intro f2 m2 j j' z1 z2 z3 z4 z5 z6 z7 w1 w2 w3 w4 w5 w6 w7 w8 w9 w10 w11 w12 w13
      refine ⟨rfl, ⟨f2, m2, ds ++ [j], ss ++ [j'], _, z1, z2, z3, z4, z5, z6, z7, rfl, .inr ⟨_, rfl⟩, w7, w8, w9, w10, w11, w12, w13, by omega, q2.trans w2 (by omega), ?_, ?_, q5.push w2 w1 (by omega) (by omega) w5 (by omega), q6.push w2 w1 (by omega) (by omega) w6 (by omega)⟩⟩
      · rw [List.map_append]; exact w3
      · rw [List.map_append]; exact w4
    · rintro fl s ⟨rfl, h⟩
      exact ⟨rfl, h⟩
    · exact fun _ _ h => h.elim
  · intro s hI
    rw [rng_len (g := g) (by omega) (by omega)] at hI
    obtain ⟨f', m', ds, ss, s0, s1, s2, s3, s4, s5, s6, s7, rfl, o0, o1, o2, o3, o4, o5, o6, o7, q1, q2, q3, q4, q5, q6⟩ := hI.ex
    refine W.xNil ?_
    dsimp only
    exact hq f' m' m1 (m + 1 + 1) (m + 1 + 1 + 1 + 1) (m + 1 + 1 + 1 + 1 + 1) ds ss s0 s1 s2 s3 s4 s5 s6 s7 ⟨fun hj e => q2.get (by omega) (by omega) (by omega) (a1.get hj e)⟩ (by omega) (by omega) (by omega) q3 q4 q5 q6 o0 o1 o2 o3 o4 o5 o6 o7
theorem leWi {x : Int} (h : word x) : ((leNat [(x % 256).toNat.toUInt8, (x / 256).toNat.toUInt8] : Nat) : Int) = x := by
  unfold word at h
  show (((UInt8.ofNat (x % 256).toNat).toNat + 256 * ((UInt8.ofNat (x / 256).toNat).toNat + 256 * 0) : Nat) : Int) = x
  rw [UInt8.toNat_ofNat', UInt8.toNat_ofNat']
  omega
theorem recB_eq {k w0 w1 w2 w3 w4 : Int} : recB k w0 w1 w2 w3 w4 = [(65 + k).toNat.toUInt8, (32 : Int).toNat.toUInt8, (32 : Int).toNat.toUInt8, (32 : Int).toNat.toUInt8, (32 : Int).toNat.toUInt8, (32 : Int).toNat.toUInt8, (32 : Int).toNat.toUInt8, (32 : Int).toNat.toUInt8, (32 : Int).toNat.toUInt8, (32 : Int).toNat.toUInt8, (32 : Int).toNat.toUInt8, (32 : Int).toNat.toUInt8, (0 : Int).toNat.toUInt8, (0 : Int).toNat.toUInt8,
    (w1 % 256).toNat.toUInt8, (w1 / 256).toNat.toUInt8, (w0 % 256).toNat.toUInt8, (w0 / 256).toNat.toUInt8, (w4 % 256).toNat.toUInt8, (w4 / 256).toNat.toUInt8, (0 : Int).toNat.toUInt8, (0 : Int).toNat.toUInt8, (w3 % 256).toNat.toUInt8, (w3 / 256).toNat.toUInt8, (w2 % 256).toNat.toUInt8, (w2 / 256).toNat.toUInt8, (0 : Int).toNat.toUInt8, (0 : Int).toNat.toUInt8, (0 : Int).toNat.toUInt8, (0 : Int).toNat.toUInt8, (0 : Int).toNat.toUInt8, (0 : Int).toNat.toUInt8] := rfl
theorem gb0 {b0 b1 b2 b3 b4 b5 b6 b7 b8 b9 b10 b11 b12 b13 b14 b15 b16 b17 b18 b19 b20 b21 b22 b23 b24 b25 b26 b27 b28 b29 b30 b31 : UInt8} : g1 [b0, b1, b2, b3, b4, b5, b6, b7, b8, b9, b10, b11, b12, b13, b14, b15, b16, b17, b18, b19, b20, b21, b22, b23, b24, b25, b26, b27, b28, b29, b30, b31] 0 = ((b0.toNat : Nat) : Int) := rfl
theorem rec14 {k w0 w1 w2 w3 w4 : Int} (h : word w1) : g2 (recB k w0 w1 w2 w3 w4) 14 = w1 := by rw [recB_eq, gw14, leWi h]
theorem rec16 {k w0 w1 w2 w3 w4 : Int} (h : word w0) : g2 (recB k w0 w1 w2 w3 w4) 16 = w0 := by rw [recB_eq, gw16, leWi h]
theorem rec18 {k w0 w1 w2 w3 w4 : Int} (h : word w4) : g2 (recB k w0 w1 w2 w3 w4) 18 = w4 := by rw [recB_eq, gw18, leWi h]
theorem rec22 {k w0 w1 w2 w3 w4 : Int} (h : word w3) : g2 (recB k w0 w1 w2 w3 w4) 22 = w3 := by rw [recB_eq, gw22, leWi h]
theorem rec24 {k w0 w1 w2 w3 w4 : Int} (h : word w2) : g2 (recB k w0 w1 w2 w3 w4) 24 = w2 := by rw [recB_eq, gw24, leWi h]
theorem rec0 {k w0 w1 w2 w3 w4 : Int} (h : 0 ≤ k ∧ k ≤ 100) : g1 (recB k w0 w1 w2 w3 w4) 0 = 65 + k := by
  rw [recB_eq, gb0]
  show (((UInt8.ofNat (65 + k).toNat).toNat : Nat) : Int) = _
  rw [UInt8.toNat_ofNat']
  omega
theorem by32 : (((32 : Int).toNat.toUInt8.toNat : Nat) : Int) = 32 := by decide
theorem rec11 {k w0 w1 w2 w3 w4 : Int} : g1 (recB k w0 w1 w2 w3 w4) 11 = 32 := by rw [recB_eq, gb11, by32]
def recs (cv : List Int) (g : Nat) : List (List UInt8) := (List.range g).map (recT cv)
theorem recs_len {cv : List Int} {g : Nat} : (recs cv g).length = g := by unfold recs; rw [List.length_map, List.length_range]
theorem recs_get {cv : List Int} {g k : Nat} {c : List UInt8} (h : (recs cv g)[k]? = some c) : k < g ∧ c = recT cv k := by
  unfold recs at h
  rw [List.getElem?_map] at h
  by_cases hk : k < g
  · rw [List.getElem?_range hk] at h
    cases h
    exact ⟨hk, rfl⟩
  · rw [List.getElem?_eq_none (by rw [List.length_range]; omega)] at h
    cases h
theorem recs_at {cv : List Int} {g k : Nat} (h : k < g) : (recs cv g)[k]? = some (recT cv k) := by
  unfold recs
  rw [List.getElem?_map, List.getElem?_range h]
  rfl
theorem recs_ok {cv : List Int} {g : Nat} (hg : g ≤ 4) : ∀ (k : Nat) (c : List UInt8), (recs cv g)[k]? = some c → RecOk ([97, 98, 99] ++ octs cv g) k c := fun k c e => by
  obtain ⟨hk, rfl⟩ := recs_get e
  refine ⟨?_, recT_len, ?_, ?_, ?_⟩
  · have := octs_at (cv := cv) hk
    rw [show 35 + 32 * k = ([97, 98, 99] : List UInt8).length + (32 + 32 * k) by show _ = 3 + _; omega, List.drop_append, List.drop_eq_nil_of_le (by omega), List.nil_append, show ([97, 98, 99] : List UInt8).length + (32 + 32 * k) - ([97, 98, 99] : List UInt8).length = 32 + 32 * k by omega]
    exact this
  · unfold recT; rw [rec0 (by omega)]; omega
  · unfold recT; rw [rec0 (by omega)]; omega
  · unfold recT; rw [rec11]; decide
theorem datL_two {f : Nat → O} {m n : Nat} : ∀ (ds ts : List Nat), ds.length = ts.length → (∀ (i j j' : Nat), ds[i]? = some j → ts[i]? = some j' → ∃ d, datV f m n (.ref j) = some d ∧ datV f m n (.ref j') = some d ∧ d.canLay0 = true) → ∃ dd, datL f m n (ds.map V.ref) = some dd ∧ datL f m n (ts.map V.ref) = some dd ∧ PyData.canLayAll0 dd = true
  | [], [], _, _ => ⟨[], datL_nil, datL_nil, by unfold PyData.canLayAll0; rfl⟩
  | [], _ :: _, h, _ => by cases h
  | _ :: _, [], h, _ => by cases h
  | a :: ds, b :: ts, h, k => by
    obtain ⟨d, d1, d2, d3⟩ := k 0 a b rfl rfl
    obtain ⟨dd, e1, e2, e3⟩ := datL_two ds ts (by simpa using h) (fun i j j' x y => k (i + 1) j j' x y)
    exact ⟨d :: dd, datL_cons d1 e1, datL_cons d2 e2, by unfold PyData.canLayAll0; rw [d3, e3]; rfl⟩
theorem DueAt.two {lo lo' m n j j' : Nat} {f : Nat → O} {x1 x2 x3 : Six} (h : DueAt lo f m x1 x2 x3 j) (h' : DueAt lo' f m x1 x2 x3 j') : ∃ d, datV f m (n + 2) (.ref j) = some d ∧ datV f m (n + 2) (.ref j') = some d ∧ d.canLay0 = true := by
  obtain ⟨j1, j2, j3, h0, h1, h2, h3, e0, e1, e2, e3⟩ := h.ex
  obtain ⟨k1, k2, k3, g0, g1, g2, g3, r0, r1, r2, r3⟩ := h'.ex
  obtain ⟨a, a1, a2, a3⟩ := datV_ints2 (n := n) h1.2 e1 g1.2 r1 rfl
  obtain ⟨b, b1, b2, b3⟩ := datV_ints2 (n := n) h2.2 e2 g2.2 r2 rfl
  obtain ⟨c, c1, c2, c3⟩ := datV_ints2 (n := n) h3.2 e3 g3.2 r3 rfl
  refine ⟨.list [a, b, c], datV_list h0.2 e0 (datL_cons a1 (datL_cons b1 (datL_cons c1 datL_nil))), datV_list g0.2 r0 (datL_cons a2 (datL_cons b2 (datL_cons c2 datL_nil))), ?_⟩
  unfold PyData.canLay0 PyData.canLayAll0 PyData.canLayAll0 PyData.canLayAll0 PyData.canLayAll0
  rw [a3, b3, c3]; rfl
section
variable {K : Frag} {n m : Nat} {f : Nat → O} {l : List (Nat × Slot)} {md : Mode} {E : V → St → Prop}
theorem W.cNeDues {cv : List Int} {a b lo lo' g : Nat} {ds ts : List Nat} {Q : V → St → Prop} (ha : a < m) (ea : f a = .list (ds.map V.ref)) (hb : b < m) (eb : f b = .list (ts.map V.ref)) (h1 : Dues cv lo g f m ds) (h2 : Dues cv lo' g f m ts) (h : Q (.bool false) ⟨f, m, l, md⟩) : W (cmpV .NotEq (.ref a) (.ref b)) ⟨f, m, l, md⟩ Q E := by
  obtain ⟨dd, e1, e2, e3⟩ := datL_two (f := f) (m := m) (n := 5) ds ts (h1.len.trans h2.len.symm) (fun i j j' x y => by
    have hi : i < g := by
      by_cases q : i < g
      · exact q
      · rw [List.getElem?_eq_none (by rw [h1.len]; omega)] at x; cases x
    obtain ⟨u, u1, u2⟩ := h1.at_ i hi
    obtain ⟨v, v1, v2⟩ := h2.at_ i hi
    rw [x] at u1; cases u1
    rw [y] at v1; cases v1
    exact u2.two (n := 3) v2)
  exact W.cNeD (datV_list ha ea e1) (datV_list hb eb e2) (by unfold PyData.canLay0; exact e3) h
end
def eltOf : Option Stmt → Expr
  | some (.Assign _ (.ListComp elt _ _ _) _) => elt
  | _ => .Constant .none 0 default
def le1 : { e : Expr // eltOf bd1062.1[5]? = e } := by
  refine ⟨?b, ?h⟩
  case h => conv => lhs; whnf
local macro_rules | `(tactic| k_extra "exkDueAt") => `(tactic| first | (with_reducible refine DueAt.mk' (by omega) (by k_extra "ob2") (by omega) (by omega) (by omega) (by k_extra "ob2") (by k_extra "ob2") (by k_extra "ob2") (by assumption) (by assumption) (by assumption) (by assumption) (by assumption) (by exact due00)) | fail)
theorem le1_step {j jn : Nat} {at_ nt te ct cd la hc wt wd lo fs : Int} {lz fv enc : V} {jd : Nat} {Q : V → St → Prop} (hmd : md.hd = false) (hj : j < m) (ej : f j = entO (.ref jn) at_ nt te ct cd la hc wt wd lo fs lz fv jd enc)
    (hq : ∀ f' m' r, m ≤ m' → Same f m f' → DueAt m f' m' (dueS cd ct) (dueS wd wt) (dueS la 0) r → Q (.ref r) ⟨f', m', [(nid ".0", .unset), (nid "record", .val (.ref j)), (nid "_law_six", .glob)], md⟩) :
    W ((evX (K2 P) (n + 100)).expr le1.1) ⟨f, m, [(nid ".0", .unset), (nid "record", .val (.ref j)), (nid "_law_six", .glob)], md⟩ Q E := by
  unfold le1
  dsimp only
  end_is "y32"; end_is "y14"; end_is "y72"; (focus (k_extra "spn313")); end_is "y99"; end_is "y4"; (focus (k_extra "spn1050")); end_is "y21"; end_is "x43"; end_is "y14"; end_is "y72"
  (focus (k_extra "spn320")); end_is "y99"; end_is "y4"; (focus (k_extra "spn1050")); end_is "y21"; end_is "x43"; end_is "y14"; end_is "y72"; (focus (k_extra "spn327")); end_is "y21"
  end_is "y3"; end_is "y4"; (focus (k_extra "spn1050")); end_is "y21"; end_is "y22"; (focus (((try dsimp only); (first | apply hq | with_unfolding_all apply hq)))); end_is "y12"
  (focus (k_extra "exkDueAt"))
def lR7 : { b : List Stmt // bd1062.1.drop 7 = b } := by
  refine ⟨?b, ?h⟩
  case h => conv => lhs; whnf
structure I745 (cv : List Int) (f0 : Nat → O) (acc : Nat) (md : Mode) (t : Nat) (s : St) : Prop where
  ex : ∃ (f' : Nat → O) (m' : Nat) (ts : List Nat) (sl : Slot), s = ⟨f', m', [(nid ".0", .unset), (nid "record", sl), (nid "_law_six", .glob)], md⟩ ∧ slOk sl ∧ acc + 1 ≤ m' ∧ Same f0 acc f' ∧ f' acc = .list (ts.map V.ref) ∧ Dues cv (acc + 1) t f' m' ts
theorem lawB {scr : V} {lo ce du st g : Nat} {cv : List Int} {ds : List Nat} {s0 s1 s2 s3 s4 s5 s6 s7 : Slot} {Q : Fl → St → Prop} (hmd : md.hd = false) (hg : 1 ≤ g ∧ g ≤ 4)
    (hdu : du < m) (edu : f du = .list (ds.map V.ref)) (hds : Dues cv lo g f m ds)
    (hq : ∀ (f' : Nat → O) (m' fl bx : Nat) (es : List Nat) (x' : Int) (to : V), Same f m f' → m ≤ m' → fl < m' → f' fl = .list (es.map V.ref) → Ents (recs cv g) es f' m' (.str "latin-1") → bx < m' → f' bx = ocO ([97, 98, 99] ++ octs cv g) false x' →
      W (execN (nvN (K2 P) (evX (K2 P) (k + 210)) sel02 (n + 24)) lR7.1) ⟨f', m', locL (.val scr) (.val (.ref ce)) (.val (.bytes (octs cv g))) (.val (.ref du)) (.val (.ref st)) s0 s1 s2 s3 s4 s5 s6 s7 (.val (.ref fl)) (.val (.ref bx)) .unset (.val to) .unset .unset .unset .unset .unset .unset, md⟩ Q E) :
    W (execN (nvN (K2 P) (evX (K2 P) (k + 210)) sel02 (n + 24)) lR4.1) ⟨f, m, locL (.val scr) (.val (.ref ce)) (.val (.bytes (octs cv g))) (.val (.ref du)) (.val (.ref st)) s0 s1 s2 s3 s4 s5 s6 s7 .unset .unset .unset .unset .unset .unset .unset .unset .unset .unset, md⟩ Q E := by
  unfold lR4 locL
  dsimp only
  have hrl : (recs cv g).length = g := recs_len
  have hol : (octs cv g).length = 32 + 32 * g := octs_len g
  have hrk := recs_ok (cv := cv) (g := g) hg.2
  end_is "x85"; end_is "x84"; (with_reducible refine W.nName (by decide +kernel) ?_); end_is "y7"; end_is "y70"; (focus (k_extra "spn1057")); end_is "y99"
  (with_reducible refine W.aTup rfl ?_); end_is "x112"; end_is "y147"; end_is "x96"; end_is "y62"; rotate_left; rotate_right; rotate_left; rotate_right
  rename_i f1 m1 rt fl bx es x' b1 b2 b3 b4 b5 b6 b7 b8 b9
  refine W.assignC (by kernel_rfl) (by kernel_rfl) ?_
  end_is "y0"; (with_reducible refine W.compL (by k_extra "hdt") (by k_extra "lt") (by k_extra "ob2") ?_); (focus (k_extra "ex")); rotate_left; rotate_right; rotate_left; rotate_right
  try dsimp only []
  rw [lo1]
  refine W.cInv (I745 cv f1 m1 { md with top := false }) ?_ ?_ ?_
  · exact ⟨_, m1 + 1, [], _, rfl, .inl rfl, by omega, Same.refl.upd (Nat.le_refl _), updO_same, rfl, fun k hk => absurd hk (Nat.not_lt_zero _)⟩
  · intro t v hv s hI
    obtain ⟨f', m', ts, sl, rfl, o0, q1, q2, q3, q4⟩ := hI.ex
    have ht : t < g := by
      by_cases q : t < g
      · exact q
      · rw [List.getElem?_eq_none (by rw [List.length_map, b7.len, hrl]; omega)] at hv; cases hv
    obtain ⟨j, e1, jn, jb, jd, lz, fv, z1, z2, z3, z4, z5, z6, z7⟩ := b7.at_ t _ (recs_at ht)
    rw [List.getElem?_map, e1] at hv
    cases hv
    refine W.setLoc (by decide +kernel) (by k_extra "lk") o0 (by k_extra "pt") ?_
    refine W.ifNil (W.putT ?_)
    have w0 : ∀ i, word (cAt cv t i % 65536) := fun i => by unfold word; omega
    have w1 : ∀ i, word (cAt cv t i / 65536 % 65536) := fun i => by unfold word; omega
    unfold recT at z5
    rw [rec14 (w1 0), rec16 (w0 0), rec18 (w0 2), rec22 (w1 1), rec24 (w0 1)] at z5
    refine le1_step hmd (by omega) (q2.get (by omega) z5) ?_
    intro f2 m2 r y1 y2 y3
    refine W.biAppend (by omega) (y2.get (by omega) q3) (by rw [List.length_map, q4.len]; omega) ?_
    have sy : SameY f' m' m1 m1 (updO f2 m1 (.list (ts.map V.ref ++ [.ref r]))) := (SameY.refl.same y2 (Nat.le_refl _)).here1
    refine ⟨?_, ⟨_, m2, ts ++ [r], _, rfl, .inr ⟨_, rfl⟩, by omega, ?_, ?_, ?_⟩⟩
    · exact decide_eq_true (updO_other (by omega) (y2.get (by omega) (q2.get (by omega) b6)))
    · exact ((q2.trans y2 (by omega)).upd (Nat.le_refl _))
    · rw [List.map_append]; exact updO_same
    · refine q4.push (lo' := m') sy y1 (by omega) (by omega) ?_ (by omega)
      obtain ⟨j1, j2, j3, h0, h1, h2, h3, e⟩ := y3.ex
      exact ⟨j1, j2, j3, h0, h1, h2, h3, updO_other (by omega) e.1, updO_other (by omega) e.2.1, updO_other (by omega) e.2.2.1, updO_other (by omega) e.2.2.2⟩
  · intro s hI
    obtain ⟨f', m', ts, sl, rfl, o0, q1, q2, q3, q4⟩ := hI.ex
    rw [List.length_map, b7.len, hrl] at q4
    dsimp only
    end_is "x97"; end_is "y30"; end_is "y106"; rotate_left; rotate_right; rotate_left; rotate_right
    have sm : Same f m f' := b2.trans q2 b1
    refine W.cNeDues (by omega) q3 (by omega) (sm.get hdu edu) q4 (hds.same sm (by omega)) ?_
    refine W.truthB ?_
    refine ⟨fun h => absurd h Bool.false_ne_true, fun _ => ?_⟩
    refine W.xNil ?_
    dsimp only
    refine hq f' m' fl bx es x' (.ref m1) sm (by omega) (by omega) (q2.get (by omega) b6) (b7.same q2 (by omega)) (by omega) (q2.get (by omega) b9)
def lR8 : { b : List Stmt // bd1062.1.drop 8 = b } := by
  refine ⟨?b, ?h⟩
  case h => conv => lhs; whnf
structure I748 (u1 u2 : V) (o : List UInt8) (u4 u5 : V) (t0 t1 t2 t3 t5 t6 fl bx to he : Slot) (f0 : Nat → O) (m0 : Nat) (md : Mode) (s : St) : Prop where
  ex : ∃ (f' : Nat → O) (m' : Nat) (w si re at_ sp fr ag be : Slot), s = ⟨f', m', locL (.val u1) (.val u2) (.val (.bytes o)) (.val u4) (.val u5) t0 t1 t2 t3 w t5 t6 si fl bx re to at_ sp fr ag be he, md⟩ ∧
    slOk w ∧ slOk si ∧ slOk re ∧ slOk at_ ∧ slOk sp ∧ slOk fr ∧ slOk ag ∧ slOk be ∧ m0 ≤ m' ∧ Same f0 m0 f'
theorem lawC {u1 u2 u4 u5 to : V} {g fl : Nat} {cv : List Int} {es : List Nat} {t0 t1 t2 t3 w t5 t6 si bx he : Slot} {Q : Fl → St → Prop} (hmd : md.hd = false) (htop : md.top = true) (hg : 1 ≤ g ∧ g ≤ 4)
    (hfl : fl < m) (efl : f fl = .list (es.map V.ref)) (hen : Ents (recs cv g) es f m (.str "latin-1")) (o1 : slOk w) (o2 : slOk si)
    (hq : ∀ f' m' w si re at_ sp fr ag be, Same f m f' → m ≤ m' → slOk w → slOk si → slOk sp →
      W (execN (nvN (K2 P) (evX (K2 P) (k + 210)) sel02 (n + 24)) lR8.1) ⟨f', m', locL (.val u1) (.val u2) (.val (.bytes (octs cv g))) (.val u4) (.val u5) t0 t1 t2 t3 w t5 t6 si (.val (.ref fl)) bx re (.val to) at_ sp fr ag be he, md⟩ Q E) :
    W (execN (nvN (K2 P) (evX (K2 P) (k + 210)) sel02 (n + 24)) lR7.1) ⟨f, m, locL (.val u1) (.val u2) (.val (.bytes (octs cv g))) (.val u4) (.val u5) t0 t1 t2 t3 w t5 t6 si (.val (.ref fl)) bx .unset (.val to) .unset .unset .unset .unset .unset he, md⟩ Q E := by
  unfold lR7 locL
  dsimp only
  end_is "x85"; (with_reducible refine W.nFor (by decide +kernel) ?_); (with_reducible refine W.forNe rfl (by decide +kernel) ?_); end_is "y111"; end_is "y0"
  (with_reducible refine W.nLoopE (by k_extra "hdt") (by k_extra "lt") (by k_extra "ob2") ?_); rotate_left; rotate_right; rotate_left; rotate_right
  refine W.nlInv (fun _ s => I748 u1 u2 (octs cv g) u4 u5 t0 t1 t2 t3 t5 t6 (.val (.ref fl)) bx (.val to) he f m md s) ?_ ?_ ?_
  · exact ⟨f, m, w, si, _, _, _, _, _, _, rfl, o1, o2, .inl rfl, .inl rfl, .inl rfl, .inl rfl, .inl rfl, .inl rfl, Nat.le_refl _, Same.refl⟩
  · intro t v hv s hI
    obtain ⟨f', m', w, si, re, at_, sp, fr, ag, be, rfl, o1, o2, o3, o4, o5, o6, o7, o8, q1, q2⟩ := hI.ex
    have ht : t < g := by
      by_cases q : t < g
      · exact q
      · rw [List.getElem?_eq_none (by rw [List.length_map, hen.len, recs_len]; omega)] at hv; cases hv
    obtain ⟨j, e1, jn, jb, jd, lz, fv, z1, z2, z3, z4, z5, z6, z7⟩ := hen.at_ t _ (recs_at ht)
    rw [List.getElem?_map, e1] at hv
    cases hv
    have h0 : g1 (recT cv t) 0 = 65 + (0 + 3 * t) := rec0 (by omega)
    have hsl : sliceOf (octs cv g) (.int (32 * t + 32)) (.int (32 * t + 64)) = some (recT cv t) := by
      rw [show ((32 : Int) * t + 64) = (32 * t + 32) + 32 by omega]
      refine sl_dropG (by omega) (by omega) (by rw [octs_len]; omega) ?_
      rw [show ((32 : Int) * t + 32).toNat = 32 + 32 * t by omega]
      exact octs_at ht
    obtain ⟨b0, b1, b2, b3, b4, b5, b6, b7, b8, b9, b10, b11, b12, b13, b14, b15, b16, b17, b18, b19, b20, b21, b22, b23, b24, b25, b26, b27, b28, b29, b30, b31, hc⟩ := len32 (recT_len (cv := cv) (t := t))
    rw [hc] at h0 hsl z5 z7
    rw [gb0] at h0
    rw [gb11, gb12, gb13, gw14, gw16, gw18, gw20, gw22, gw24, gw26, gd28] at z5
    dsimp only [enumMk, St.new]
    refine W.aTup rfl (W.unpT hmd (by omega) updO_same rfl ?_)
    refine W.sCons (W.setLoc (by decide +kernel) (by k_extra "lk") o4 (by k_extra "pt") (W.sCons (W.setLoc (by decide +kernel) (by k_extra "lk") o3 (by k_extra "pt") (W.sNil ?_))))
    let E0 : V → St → Prop := NoX
    have q2' : Same f m (updO f' m' (.tup [.int t, .ref j])) := q2.upd q1
    refine W.mono (lb3_step (E := E0) hmd htop (by omega) (q2'.get z1 z5) (by omega) (q2'.get z2 z6) (by omega) (q2'.get z3 z7) hsl (by rw [octs_len]; omega) (by omega) (by omega) (by omega) o1 o2 o6 o7 o8 o5 (Q := fun fl' s => fl' = .next ∧ still fl (.list (es.map V.ref)) s = true ∧ I748 u1 u2 (octs cv g) u4 u5 t0 t1 t2 t3 t5 t6 (.val (.ref fl)) bx (.val to) he f m md s) ?_) ?_ ?_
    · intro f2 m2 s1 s2 s3 s4 s5 s6 y1 y2 p1 p2 p3 p4 p5 p6
      have y3 : Same f m f2 := q2'.trans y2 (by omega)
      exact ⟨rfl, decide_eq_true (y3.get hfl efl), ⟨f2, m2, s1, s2, _, _, s6, s3, s4, s5, rfl, p1, p2, .inr ⟨_, rfl⟩, .inr ⟨_, rfl⟩, p6, p3, p4, p5, by omega, y3⟩⟩
    · rintro fl' s ⟨rfl, h1, h2⟩
      exact ⟨h1, h2⟩
    · exact fun _ _ h => h.elim
  · intro s hI
    obtain ⟨f', m', w, si, re, at_, sp, fr, ag, be, rfl, o1, o2, o3, o4, o5, o6, o7, o8, q1, q2⟩ := hI.ex
    refine W.xNil ?_
    dsimp only
    exact hq f' m' w si re at_ sp fr ag be q2 q1 o1 o2 o5
structure I764' (u1 u2 : V) (o : List UInt8) (u4 : V) (st bx : Nat) (t5 t6 t7 t8 t9 t10 t11 fl re to at_ fr ag be : Slot) (f0 : Nat → O) (m0 : Nat) (md : Mode) (s : St) : Prop where
  ex : ∃ (f' : Nat → O) (m' : Nat) (si sp he : Slot), s = ⟨f', m', locL (.val u1) (.val u2) (.val (.bytes o)) (.val u4) (.val (.ref st)) t5 t6 t7 t8 t9 t10 t11 si fl (.val (.ref bx)) re to at_ sp fr ag be he, md⟩ ∧ slOk si ∧ slOk sp ∧ slOk he ∧ m0 ≤ m' ∧ Same f0 m0 f'
theorem lawD {u1 u2 u4 : V} {o : List UInt8} {st bx lo g : Nat} {x' : Int} {ss : List Nat} {t5 t6 t7 t8 t9 t10 t11 si fl re to at_ sp fr ag be he : Slot} {Q : Fl → St → Prop} (hmd : md.hd = false) (htop : md.top = true) (hol : o.length ≤ 1000)
    (hst : st < m) (est : f st = .list (ss.map V.ref)) (hss : Sixes lo g f m ss) (hbx : bx < m) (ebx : f bx = ocO ([97, 98, 99] ++ o) false x') (o1 : slOk si) (o2 : slOk sp) (o3 : slOk he)
    (hq : ∀ f' m' l', Q (.ret (.bool true)) ⟨f', m', l', md⟩) :
    W (execN (nvN (K2 P) (evX (K2 P) (k + 210)) sel02 (n + 24)) lR8.1) ⟨f, m, locL (.val u1) (.val u2) (.val (.bytes o)) (.val u4) (.val (.ref st)) t5 t6 t7 t8 t9 t10 t11 si fl (.val (.ref bx)) re to at_ sp fr ag be he, md⟩ Q E := by
  unfold lR8 locL
  dsimp only
  end_is "y30"; end_is "x46"; end_is "y0"; end_is "x80"; rotate_left; rotate_right; rotate_left; rotate_right
  refine W.lInv (fun _ s => I764' u1 u2 o u4 st bx t5 t6 t7 t8 t9 t10 t11 fl re to at_ fr ag be f m md s) ?_ ?_ ?_
  · exact ⟨f, m, si, sp, he, rfl, o1, o2, o3, Nat.le_refl _, Same.refl⟩
  · intro t v hv s hI
    obtain ⟨f', m', si, sp, he, rfl, o1, o2, o3, q1, q2⟩ := hI.ex
    have ht : t < g := by
      by_cases q : t < g
      · exact q
      · rw [List.getElem?_eq_none (by rw [List.length_map, hss.len]; omega)] at hv; cases hv
    obtain ⟨j, e1, ⟨y, mo, d, h, mi, s⟩, h0, e2⟩ := hss.at_ t ht
    rw [List.getElem?_map, e1] at hv
    cases hv
    refine W.setLoc (by decide +kernel) (by k_extra "lk") o1 (by k_extra "pt") ?_
    let E0 : V → St → Prop := NoX
    refine W.mono (lb4_step (E := E0) hmd htop (by omega) (q2.get h0.2 e2) o2 o3 (Q := fun fl' s => fl' = .next ∧ still st (.list (ss.map V.ref)) s = true ∧ I764' u1 u2 o u4 st bx t5 t6 t7 t8 t9 t10 t11 fl re to at_ fr ag be f m md s) ?_) ?_ ?_
    · intro f2 m2 s1 s2 y1 y2 p1 p2
      have y3 : Same f m f2 := q2.trans y2 (by omega)
      exact ⟨rfl, decide_eq_true (y3.get hst est), ⟨f2, m2, _, s1, s2, rfl, .inr ⟨_, rfl⟩, p1, p2, by omega, y3⟩⟩
    · rintro fl' s ⟨rfl, h1, h2⟩
      exact ⟨h1, h2⟩
    · exact fun _ _ h => h.elim
  · intro s hI
    obtain ⟨f', m', si, sp, he, rfl, o1, o2, o3, q1, q2⟩ := hI.ex
    refine W.xNil ?_
    dsimp only
    have ebx' := q2.get hbx ebx
    have hl3 : ([97, 98, 99] ++ o).length ≤ 16777216 := by rw [List.length_append]; simp only [List.length_cons, List.length_nil]; omega
    have hbb : ([97, 98, 99] ++ o == [97, 98, 99] ++ o) = true := beq_iff_eq.mpr rfl
    have hq' : ∀ f' m' l', Q (.ret (.bool ([97, 98, 99] ++ o == [97, 98, 99] ++ o))) ⟨f', m', l', md⟩ := fun f' m' l' => by rw [hbb]; exact hq f' m' l'
    clear hq
    end_is "y30"; end_is "x94"; end_is "x42"; end_is "y16"; end_is "x40"; end_is "x28"; (with_reducible refine W.cBytes (by decide +kernel) ?_); end_is "y0"; end_is "x27"
    (with_reducible refine W.cEqB ?_); end_is "x2"; rotate_left; rotate_right; rotate_left; rotate_right
    exact hq' _ _ _
theorem law_body {P : Params} {n k m : Nat} {f : Nat → O} {md : Mode} {E : V → St → Prop} {scr : V} {c0 : Nat} {cl : List Int} {Q : Fl → St → Prop} (hmd : md.hd = false) (htop : md.top = true) (hc0 : c0 < m) (ec0 : f c0 = .list (cl.map V.int)) (hcl : cl.length ≤ 12)
    (hq : ∀ f' m' l', Q (.ret (.bool true)) ⟨f', m', l', md⟩) :
    W (execN (nvN (K2 P) (evX (K2 P) (k + 210)) sel02 (n + 24)) lR1.1) ⟨f, m, locL (.val scr) (.val (.ref c0)) .unset .unset .unset .unset .unset .unset .unset .unset .unset .unset .unset .unset .unset .unset .unset .unset .unset .unset .unset .unset .unset, md⟩ Q E := by
  have hg : 1 ≤ recN cl.length ∧ recN cl.length ≤ 4 := by unfold recN; split <;> omega
  refine lawA hmd htop hc0 ec0 hcl rfl rfl ?_
  intro f1 m1 lo ce du st ds ss s0 s1 s2 s3 s4 s5 s6 s7 a1 a2 a3 a4 a5 a6 a7 a8 o0 o1 o2 o3 o4 o5 o6 o7
  refine lawB hmd hg (by omega) a5 a7 ?_
  intro f2 m2 fl bx es x' to b1 b2 b3 b4 b5 b6 b7
  refine lawC hmd htop hg b3 b4 b5 o4 o7 ?_
  intro f3 m3 w si re at_ sp fr ag be c1 c2 p1 p2 p3
  have sm := b1.trans c1 b2
  exact lawD hmd htop (by rw [octs_len]; omega) (by omega) (sm.get (by omega) a6) ((a8.same b1 b2).same c1 c2) (by omega) (c1.get b6 b7) p2 p3 (.inl rfl) hq
theorem slice12 {α : Type} {xs : List α} : sliceOf xs .none (.int 12) = some (xs.take 12) := by
  unfold sliceOf lowOf highOf clampI
  dsimp only [Option.bind_some, Option.map_some]
  rw [if_neg (by omega), List.drop_zero, Nat.sub_zero]
  congr 1
  show xs.take (min 12 xs.length) = _
  by_cases h : 12 ≤ xs.length
  · rw [Nat.min_eq_left h]
  · rw [Nat.min_eq_right (by omega), List.take_length, List.take_of_length_le (by omega)]
theorem first_run {K : Frag} {n m : Nat} {f : Nat → O} {l l' : List (Nat × Slot)} {md : Mode} {E : V → St → Prop} {a0 : Addr} {xs : List V} {np sp slp sbp cp : Pos} {kk : Nat} {Q : Fl → St → Prop} (hx : xs.length ≤ 16777216) (hl : look (nid "script") l = some (.val (.old a0))) (hs : look (nid "cells") l = some .unset) (hp : put (nid "cells") (.val (.ref (m + 1))) l = l')
    (h : Q .next ⟨updO (updO f m (.slice .none (.int 12))) (m + 1) (.list (xs.take 12)), m + 2, l', md⟩) :
    W (assignS K (evO a0 xs (evX K (n + 5))) (.Name "cells" np) (.Subscript (.Name "script" sp) (.Slice none (some (.Constant (.int 12) kk cp)) none slp) sbp)) ⟨f, m, l, md⟩ Q E := by
  unfold assignS
  refine W.bind ?_
  show W (subOld a0 xs (evX K (n + 5)) (.Name "script" sp) (.Slice none (some (.Constant (.int 12) kk cp)) none slp)) _ _ _
  unfold subOld
  refine W.bind (W.nm (by decide +kernel) (by decide +kernel) hl (W.slV (W.bind (W.slice (W.onNone (W.onSome (W.cInt (W.alloc ?_))))))))
  show W (if a0 = a0 then Mine.bind (getO m) fun ob => (match ob with
    | .slice lo hi => (match sliceOf xs lo hi with
      | some y => if szOk xs.length then mkList y else stuck "long list"
      | Option.none => stuck "slice")
    | _ => stuck "list index") else stuck "item") _ _ _
  rw [if_pos rfl]
  refine W.bind (W.getO (by omega) updO_same ?_)
  dsimp only
  rw [slice12]
  dsimp only
  refine W.pos (decide_eq_true hx) (W.mkList (by rw [List.length_take]; omega) ?_)
  refine W.bind ?_
  show W (setLoc "cells" (.ref (m + 1))) _ _ _
  exact W.setLoc (by decide +kernel) hs (.inl rfl) hp h
theorem law_run {P : Params} {a0 : Addr} {ns : List Int} (hns : ns.length ≤ 16777216) : ∃ t e pos stf, bd1062.1 = .Assign [t] e pos :: lR1.1 ∧ notComp e = true ∧ plainE t = true ∧ (isTup t && isTup e) = false ∧
    entryM (K2 P) (evX (K2 P) 210) (nvN (K2 P) (evX (K2 P) 210) sel02 24) a0 (ns.map V.int) t e lR1.1 ⟨fun _ => .junk, 0, locL (.val (.old a0)) .unset .unset .unset .unset .unset .unset .unset .unset .unset .unset .unset .unset .unset .unset .unset .unset .unset .unset .unset .unset .unset .unset, {}⟩ = .ok (.ret (.bool true)) stf := by
  have key : ∀ np sp slp sbp cp kk, W (entryM (K2 P) (evX (K2 P) 210) (nvN (K2 P) (evX (K2 P) 210) sel02 24) a0 (ns.map V.int) (.Name "cells" np) (.Subscript (.Name "script" sp) (.Slice none (some (.Constant (.int 12) kk cp)) none slp) sbp) lR1.1) ⟨fun _ => .junk, 0, locL (.val (.old a0)) .unset .unset .unset .unset .unset .unset .unset .unset .unset .unset .unset .unset .unset .unset .unset .unset .unset .unset .unset .unset .unset .unset, {}⟩ (fun fl _ => fl = .ret (.bool true)) NoX := by
    intro np sp slp sbp cp kk
    unfold entryM
    refine W.bind (first_run (n := 205) (by rw [List.length_map]; exact hns) (by k_extra "lk") (by k_extra "lk") (by k_extra "pt") ?_)
    dsimp only
    exact law_body (k := 0) (n := 0) (cl := ns.take 12) rfl rfl (by omega) (by rw [updO_same, List.map_take]) (by rw [List.length_take]; omega) (fun _ _ _ => rfl)
  have fin : ∀ np sp slp sbp cp kk pos, bd1062.1 = .Assign [.Name "cells" np] (.Subscript (.Name "script" sp) (.Slice none (some (.Constant (.int 12) kk cp)) none slp) sbp) pos :: lR1.1 → ∃ t e pos stf, bd1062.1 = .Assign [t] e pos :: lR1.1 ∧ notComp e = true ∧ plainE t = true ∧ (isTup t && isTup e) = false ∧
    entryM (K2 P) (evX (K2 P) 210) (nvN (K2 P) (evX (K2 P) 210) sel02 24) a0 (ns.map V.int) t e lR1.1 ⟨fun _ => .junk, 0, locL (.val (.old a0)) .unset .unset .unset .unset .unset .unset .unset .unset .unset .unset .unset .unset .unset .unset .unset .unset .unset .unset .unset .unset .unset .unset, {}⟩ = .ok (.ret (.bool true)) stf := by
    intro np sp slp sbp cp kk pos e
    obtain ⟨fl, stf, h1, rfl⟩ := W.toOk (key np sp slp sbp cp kk)
    exact ⟨_, _, pos, stf, e, rfl, rfl, rfl, h1⟩
  exact fin _ _ _ _ _ _ _ rfl
set_option maxHeartbeats 0
noncomputable def bootT (P : Params) : BT := ((((((((((BT.nil.ins 0 (boot_o_0 P)).ins 1 (boot_o_1 P)).ins 2 (boot_o_2 P)).ins 3 (boot_o_3 P)).ins 4 (boot_o_4 P)).ins 5 (boot_o_5 P)).ins 6 (boot_o_6 P)).ins 7 (boot_o_7 P)).ins 8 (boot_o_8 P)).ins 9 (boot_o_9 P)).ins 10 (boot_o_10 P)
abbrev pw := PySem.Challenge.pw_jr0030_02
def q2 : Program := view pw [30]
def loose2 : List Str := pw.boundNames.filter (fun x => x != ("law" : Str))
def life0 : Life := {}
theorem open2 : ∀ w : World, (fencedOpening treeTable pw w 20000).map (fun s => (s.heap, s.gens, s.drawn, s.toks)) = some (boot_heap w.params, Array.mk [], boot_drawn, boot_toks) :=
  boot_open (by kernel_rfl) (by kernel_rfl) (fun s => by kernel_rfl)
theorem hH2 : ∀ P : Params, boot_heap P = absHeap (bootT P) 11 life0 := fun P => by kernel_rfl
theorem size2 : ∀ w : World, ((boot_heap w.params).isNs mainGlobals && (Array.mk [] : Array GenState).size == 0, (boot_heap w.params).objs.size, (boot_heap w.params).nsMap mainGlobals "__annotations__") = (true, 11, some (Value.ref 6)) := fun w => by kernel_rfl
theorem keys2 : ∀ P, need2 = (K2 P).map (·.1) := fun _ => by kernel_rfl
noncomputable def H0 : Hook := ⟨List (Option Obj) × Bool, fun s => (need2.map s.heap.get?, (s.heap.get? sysModules).isSome), fun w => ((K2 w.params).map fun p => some p.2, true), fun w h => InK K2 w h ∧ (h.get? sysModules).isSome = true,
  fun w s e => ⟨InK.of keys2 w s (Prod.mk.inj e).1, (Prod.mk.inj e).2⟩, fun w h h' x k => ⟨InK.keeps w h h' x.1 k, by
    obtain ⟨o, e⟩ := Option.isSome_iff_exists.mp x.2
    rw [k _ _ e]; rfl⟩⟩
def Xt2 : Shared → Bool := fun s => xlAt q2 [] s && recOk (RowW.records (OpenRow.toRowW (OpenLaw.row PySem.Challenge.rw_jr0030_02))) s
theorem run2f : ∀ (w : World) (os : OsState), (topRunT treeTable pw (w.withFollow "special-get-raises" false) 11 (some (Value.ref 6)) 20000 ⟨bootT (w.withFollow "special-get-raises" false).params, 11, life0, Array.mk [], boot_drawn, boot_toks, os⟩ (topStub pw)).map (fun s => looksAt pw q2 loose2 Xt2 H0.obs (boot_heap (w.withFollow "special-get-raises" false).params) s.abs) =
      some (true, openGood q2 loose2, H0.val (w.withFollow "special-get-raises" false)) := fun w os => by
  rw [topRunF_eq, PySem.W.Fast.te14364793385576792824]
  unfold looksAt
  rw [PySem.W.Fast.te4187177175401517315]
  kernel_rfl
theorem run2t : ∀ (w : World) (os : OsState), (topRunT treeTable pw (w.withFollow "special-get-raises" true) 11 (some (Value.ref 6)) 20000 ⟨bootT (w.withFollow "special-get-raises" true).params, 11, life0, Array.mk [], boot_drawn, boot_toks, os⟩ (topStub pw)).map (fun s => looksAt pw q2 loose2 Xt2 H0.obs (boot_heap (w.withFollow "special-get-raises" true).params) s.abs) =
      some (true, openGood q2 loose2, H0.val (w.withFollow "special-get-raises" true)) := fun w os => by
  rw [topRunF_eq, PySem.W.Fast.te14364793385576792824]
  unfold looksAt
  rw [PySem.W.Fast.te4187177175401517315]
  kernel_rfl
theorem run2 (b : Bool) : ∀ (w : World) (os : OsState), (topRunT treeTable pw (w.withFollow "special-get-raises" b) 11 (some (Value.ref 6)) 20000 ⟨bootT (w.withFollow "special-get-raises" b).params, 11, life0, Array.mk [], boot_drawn, boot_toks, os⟩ (topStub pw)).map (fun s => looksAt pw q2 loose2 Xt2 H0.obs (boot_heap (w.withFollow "special-get-raises" b).params) s.abs) =
      some (true, openGood q2 loose2, H0.val (w.withFollow "special-get-raises" b)) := by
  cases b
  · exact run2f
  · exact run2t
set_option maxHeartbeats 0
theorem left2 : LeftO pw q2 loose2 Xt2 H0.obs H0.val 20000 := left_one "special-get-raises" open2 hH2 size2 run2
theorem law_call {c : Cx} {s : Shared} {P : Params} (hc : c.Ok) (hK : c.K = K2 P) (hB : c.B = s.heap) (hos : c.os = s.os) (hg : s.gens = #[]) {a0 : Addr} {o : Obj} {vs : Array Value} {ep : Nat} {ns : List Int} (e1 : s.heap.get? a0 = some o) (c1 : o.cls = .type "list") (d1 : o.data = .seq vs ep) (hv : ∀ B ρ m, VRs ρ m B (ns.map V.int) vs.toList) (hns : ns.length ≤ 16777216) :
    wpN (model c.prog c.w) callerA (PySem.call (.ref 1062) [.ref a0]) (fun v s' => v = .bool true ∧ (∀ b o, s.heap.get? b = some o → s'.heap.get? b = some o) ∧ s'.os = s.os ∧ s'.gens = #[]) s := by
  obtain ⟨t, e, pos, stf, hb, h1, h2, h3, hrun⟩ := law_run (P := P) (a0 := a0) hns
  have ok : EOk c (evX (K2 P) 210) 444 := by
    have := evX_sound hc 210
    rw [hK] at this
    exact this.up (by decide)
  have okq : NOk c (nvN (K2 P) (evX (K2 P) 210) sel02 24) 444 := by
    have h0 : EOk c (evX (K2 P) 210) 420 := by have := evX_sound hc 210; rw [hK] at this; exact this
    have := nvN_sound (sel := sel02) hc h0 24
    rw [hK] at this
    exact this
  have hbody : fd1062.1.body = .stmts (.Assign [t] e pos :: lR1.1) := by
    rw [← hb, ← bd1062.2]
    rfl
  refine enter_callN (x := "script") hc hB hos hg (xs := ns.map V.int) ⟨o, vs, ep, by rw [hB]; exact e1, c1, d1, fun ρ m => hv _ ρ m⟩ ok okq (by decide) (fd := fd1062.1) (by rw [hK]; exact fd1062.2 P) (by rw [hK]; exact pf1062 P) (by kernel_rfl) (fun v => by kernel_rfl) (by kernel_rfl) hbody h1 h2 h3 (by rw [hK]; exact hrun) (fun ρ m v h => by cases h; rfl)
theorem post2 (xs : List WData) : (RowW.claim (OpenRow.toRowW (OpenLaw.row PySem.Challenge.rw_jr0030_02))).post [.list xs] (.bool true) [.list xs] = true := by kernel_rfl
theorem walk2 (d : DefRec) (kwd : List (Str × PySem.Expr)) (hd : defOf q2 ("law" : Str) = some (d, kwd)) : WalkC q2 loose2 (XL q2 []) H0.says (OpenRow.toRowW (OpenLaw.row PySem.Challenge.rw_jr0030_02)) d kwd := by
  intro w s₀ s₁ mg mb G Y a o pm cd doc dV kV ho hda hm hg hsys args vals as hpre hlay L
  have hin : (K2 w.params).In s₁.heap := Y.1
  have T := topRead_of G.T
  have hname : d.name = ("law" : Str) := defOf_name hd
  have hma : mg ("law" : Str) = some (.ref 1062) := mg_of hin T.g (by kernel_rfl)
  rw [hname, hma] at hm
  cases hm
  obtain ⟨a0, ob, vs, n, rfl, e1, c1, d1, ns, ⟨xs, rfl, hl⟩, hv⟩ := args_ints L.reads (pre_splitW hpre).1
  have hxs : xs.length ≤ 1048576 := length_le_of_layableW (by simpa [WData.layableAll] using hlay)
  let c : Cx := ⟨RowW.prog (OpenRow.toRowW (OpenLaw.row PySem.Challenge.rw_jr0030_02)), w, K2 w.params, s₁.heap, q2, looseW q2 loose2, mg, mb, s₁.os⟩
  have hc : c.Ok := ⟨hin, T, Y.2⟩
  refine wpN_mono (law_call (c := c) (P := w.params) hc rfl rfl rfl hg e1 c1 d1 hv (by omega)) fun v s' h => ?_
  obtain ⟨rfl, h1, h2, h3⟩ := h
  refine ⟨.inl ⟨_, .bool true, [], rfl, fun cls => rfl, .bool true, post2 xs, fun _ => ⟨List.nodup_nil, fun a ha => by cases ha⟩⟩, OldK.of_keep h1, h2, ?_⟩
  rw [h3]
  intro y hy
  simp at hy
theorem prom2 : RowW.promised (OpenRow.toRowW (OpenLaw.row PySem.Challenge.rw_jr0030_02)) := ⟨[.list [.int 3]], by decide +kernel, by decide +kernel⟩
theorem hd2 (said : OpenLaw.wellSaid PySem.Challenge.rw_jr0030_02 = true) : PySem.Challenge.rw_jr0030_02.Holds := by
  refine holds_law said fun said => ?_
  exact holds_N (q := q2) (loose := loose2) (Xt := Xt2) (XP := XL q2 []) (Yf := H0.obs) (Ya := H0.val) (YP := H0.says) (N := 20000) left2 (Hook.of H0) (Hook.keeps H0) (fun s e => xl_of s (Bool.and_eq_true_iff.mp e).1) XL.keeps (by rfl) (by rfl) (by rfl) (fun s e => recFacts_of (Bool.and_eq_true_iff.mp e).2) (by rfl) said (by decide +kernel) ⟨rfl, rfl, rfl, rfl, rfl, by decide +kernel⟩ prom2 (walk2 _ _ (by rfl))
set_option maxHeartbeats 0
theorem so1 : sreFenced ((OpenLaw.row PySem.Challenge.rw_jr0030_02).prog).main = true := by kernel_rfl
theorem so2 : ((moduleNames ((OpenLaw.row PySem.Challenge.rw_jr0030_02).prog).main.body).isEmpty || lookedIntoSs (moduleNames ((OpenLaw.row PySem.Challenge.rw_jr0030_02).prog).main.body) ((OpenLaw.row PySem.Challenge.rw_jr0030_02).prog).main.body) = true := by kernel_rfl
theorem so3 : namesResolve ((OpenLaw.row PySem.Challenge.rw_jr0030_02).prog) = true := by kernel_rfl
theorem so4 : (((OpenLaw.row PySem.Challenge.rw_jr0030_02).prog).boundNames.all fun n => !worldNames.contains n) = true := by kernel_rfl
theorem so5 : noRoadLSs { strict := !(importedModules ((OpenLaw.row PySem.Challenge.rw_jr0030_02).prog).main.body).all cThrough.contains, foot := none, bare := (["vars", "dir", "locals"] : List Str).filter (readsOut ((OpenLaw.row PySem.Challenge.rw_jr0030_02).prog) ((OpenLaw.row PySem.Challenge.rw_jr0030_02).prog).main.body) } ((OpenLaw.row PySem.Challenge.rw_jr0030_02).prog).main.body = true := by kernel_rfl
theorem so6 : (namesMeet ((OpenLaw.row PySem.Challenge.rw_jr0030_02).prog) ((OpenLaw.row PySem.Challenge.rw_jr0030_02).prog).main.body fun x n => attrL n) = true := by kernel_rfl
theorem sl12 : (namesMeet (PySem.Challenge.rw_jr0030_02).prog (PySem.Challenge.rw_jr0030_02).above fun x n => !(PySem.Challenge.rw_jr0030_02).own.contains n) = true := by kernel_rfl
theorem said_open : looksOpen (OpenLaw.row PySem.Challenge.rw_jr0030_02).prog = true := by
  unfold looksOpen
  exact look_both (look_both (look_both (look_both (look_both so1 so2) so3) so4) so5) so6
theorem said_row : OpenRow.wellSaid (OpenLaw.row PySem.Challenge.rw_jr0030_02) = true := by
  unfold OpenRow.wellSaid OpenRow.partSaid
  repeat' (with_reducible refine look_both ?_ ?_)
  exact said_open
  all_goals kernel_rfl
theorem said2 : OpenLaw.wellSaid PySem.Challenge.rw_jr0030_02 = true := by
  unfold OpenLaw.wellSaid
  repeat' (with_reducible refine look_both ?_ ?_)
  exact said_row
  all_goals first | with_reducible exact sl12 | kernel_rfl
end Mine
open PySem PySem.W PyProof.Rows
theorem PySem.Challenge.cw_jr0030_02_holds : PySem.Challenge.rw_jr0030_02.Holds :=
  Mine.hd2 Mine.said2
