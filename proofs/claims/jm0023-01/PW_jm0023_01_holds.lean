import PyProof.Rows.All
import Wide.All
import OpenK.AllK
import Wide.FinOn
import Lean
import PySem.Challenge.RW_jm0023_01
set_option Elab.async false
set_option maxRecDepth 100000
set_option compiler.extract_closed false
set_option hygiene false
section
open PySem PySem.W PySem.Calls PyProof.Rows
namespace Mine
section

/-- an object at an address: the newest entry of the overlay, else the rest -/
noncomputable def look : List (Nat × Obj) → (Nat → Obj) → Nat → Obj
  | [], b, a => b a
  | (k, o) :: r, b, a => match Nat.beq k a with
    | true => o
    | false => look r b a

theorem beqN (a b : Nat) : Nat.beq a b = decide (a = b) := BT.beq_eq a b
theorem look_cons (k : Nat) (o : Obj) (r : List (Nat × Obj)) (b : Nat → Obj) (a : Nat) : look ((k, o) :: r) b a = if a = k then o else look r b a := by
  show (match Nat.beq k a with | true => o | false => look r b a) = _
  rw [beqN]
  by_cases h : a = k
  · subst h; simp
  · have : ¬ k = a := fun q => h q.symm
    simp [h, this]

structure SU where
  ov : List (Nat × Obj)
  base : Nat → Obj
  n : Nat
  life : Life
  gens : Array GenState
  drawn : Drawn
  toks : Nat
  os : OsState

noncomputable def heapU (f : Nat → Obj) (n : Nat) (life : Life) : Heap := ⟨((List.range n).map f).toArray, life⟩
noncomputable def SU.abs (s : SU) : Shared := ⟨heapU (look s.ov s.base) s.n s.life, s.gens, s.drawn, s.toks, s.os⟩

theorem heapU_at (f : Nat → Obj) (n : Nat) (life : Life) (a : Nat) : (heapU f n life).objs[a]? = if a < n then some (f a) else none := by
  unfold heapU
  rw [List.getElem?_toArray, List.getElem?_map]
  by_cases h : a < n
  · rw [List.getElem?_range h, if_pos h]; rfl
  · rw [List.getElem?_eq_none (by rw [List.length_range]; omega), if_neg h]; rfl
theorem heapU_size (f : Nat → Obj) (n : Nat) (life : Life) : (heapU f n life).objs.size = n := by
  unfold heapU
  rw [List.size_toArray, List.length_map, List.length_range]
theorem heapU_congr {f g : Nat → Obj} {n : Nat} {life : Life} (h : ∀ a, a < n → f a = g a) : heapU f n life = heapU g n life := by
  have : (heapU f n life).objs = (heapU g n life).objs := by
    apply Array.ext_getElem?
    intro i
    rw [heapU_at, heapU_at]
    by_cases q : i < n
    · rw [if_pos q, if_pos q, h i q]
    · rw [if_neg q, if_neg q]
  exact congrArg (Heap.mk · life) this
theorem heapU_set {ov : List (Nat × Obj)} {b : Nat → Obj} {n : Nat} {life : Life} {a : Nat} {f : Obj → Obj} (h : a < n) :
    heapU (look ((a, f (look ov b a)) :: ov) b) n life = (heapU (look ov b) n life).update a f := by
  have : (heapU (look ((a, f (look ov b a)) :: ov) b) n life).objs = ((heapU (look ov b) n life).objs.modify a f) := by
    apply Array.ext_getElem?
    intro i
    rw [Array.getElem?_modify, heapU_at, heapU_at, look_cons]
    by_cases q : i < n
    · by_cases e : i = a
      · subst e; simp [q]
      · simp [q, e, Ne.symm e]
    · by_cases e : i = a
      · subst e; exact absurd h q
      · simp [q]
  show Heap.mk _ _ = Heap.mk _ _
  exact congrArg (Heap.mk · life) this
theorem heapU_push {ov : List (Nat × Obj)} {b : Nat → Obj} {n : Nat} {life : Life} {o : Obj} :
    heapU (look ((n, o) :: ov) b) (n + 1) life = (heapU (look ov b) n life).push o := by
  have : (heapU (look ((n, o) :: ov) b) (n + 1) life).objs = ((heapU (look ov b) n life).objs.push o) := by
    apply Array.ext_getElem?
    intro i
    rw [Array.getElem?_push, heapU_at, heapU_at, heapU_size, look_cons]
    by_cases e : i = n
    · subst e; simp
    · by_cases h : i < n
      · have : i < n + 1 := by omega
        simp [h, e, this]
      · have : ¬ i < n + 1 := by omega
        simp [h, e, this]
  show Heap.mk _ _ = Heap.mk _ _
  exact congrArg (Heap.mk · life) this
theorem heapU_get {f : Nat → Obj} {n : Nat} {life : Life} {a : Nat} (h : a < n) : (heapU f n life).get? a = alive (f a) := by
  unfold Heap.get?
  rw [heapU_at, if_pos h]
  show (match some (f a) with | some ⟨_, _, .freed, _⟩ => none | o => o) = alive (f a)
  cases f a with
  | mk c d dt sl => cases dt <;> rfl
theorem heapU_get_none {f : Nat → Obj} {n : Nat} {life : Life} {a : Nat} (h : ¬ a < n) : (heapU f n life).get? a = none := by
  unfold Heap.get?
  rw [heapU_at, if_neg h]

noncomputable abbrev stepF := PySem.W.Fast.tw8437177126325714943
noncomputable abbrev denF := PySem.W.Fast.tw11892475500146522536
noncomputable abbrev tabF := PySem.W.Fast.tw14364793385576792824
noncomputable abbrev okF := PySem.W.Fast.tw6613529449190102663

noncomputable def stepU (den : Code → Sem Fin) (p : Program) (w : World) : SU → Thread → Option (SU × Thread)
  | ⟨ov, b, n, life, gens, drawn, toks, os⟩, ⟨cur, code, pos, stack⟩ => match cur with
    | .load a _ k => match Nat.blt a n with
      | true => match alive (look ov b a) with
        | some o' => some (⟨ov, b, n, life, gens, drawn, toks, os⟩, ⟨k o', code, pos, stack⟩)
        | none => none
      | false => none
    | .update a _ f k => match Nat.blt a n with
      | true => match alive (look ov b a) with
        | some _ => some (⟨(a, f (look ov b a)) :: ov, b, n, life, gens, drawn, toks, os⟩, ⟨k (), code, pos, stack⟩)
        | none => none
      | false => none
    | .alloc o k => some (⟨(n, o) :: ov, b, n + 1, life, gens, drawn, toks, os⟩, ⟨k n, code, pos, stack⟩)
    | .loadIfAlive a k => match Nat.blt a n with
      | true => some (⟨ov, b, n, life, gens, drawn, toks, os⟩, ⟨k (alive (look ov b a)), code, pos, stack⟩)
      | false => some (⟨ov, b, n, life, gens, drawn, toks, os⟩, ⟨k none, code, pos, stack⟩)
    | c => match stepF den p w ⟨{}, gens, drawn, toks, os⟩ ⟨c, code, pos, stack⟩ with
      | .go s' t' => some (⟨ov, b, n, life, s'.gens, s'.drawn, s'.toks, s'.os⟩, t')
      | .halt _ _ => none

theorem stepF_eq : @step = @stepF := PySem.W.Fast.te8437177126325714943
theorem denF_eq : @denote = @denF := PySem.W.Fast.te11892475500146522536
theorem tabF_eq : @treeTable = @tabF := PySem.W.Fast.te14364793385576792824
theorem okF_eq : @stepOk = @okF := PySem.W.Fast.te6613529449190102663

section
variable {den : Code → Sem Fin} {p : Program} {w : World}
theorem stepU_other {ov : List (Nat × Obj)} {b : Nat → Obj} {n : Nat} {life : Life} {gens : Array GenState} {drawn : Drawn} {toks : Nat} {os : OsState} {cur : Sem Fin} {code : Code} {pos : Pos} {stack : List Frame} {s' : SU} {t' : Thread}
    (h1 : ∀ a q k, cur ≠ .load a q k) (h2 : ∀ a q f k, cur ≠ .update a q f k) (h3 : ∀ o k, cur ≠ .alloc o k) (h4 : ∀ a k, cur ≠ .loadIfAlive a k)
    (h : (match stepF den p w ⟨{}, gens, drawn, toks, os⟩ ⟨cur, code, pos, stack⟩ with
      | .go s' t' => some ((⟨ov, b, n, life, s'.gens, s'.drawn, s'.toks, s'.os⟩ : SU), t')
      | .halt _ _ => none) = some (s', t')) :
    step den p w ⟨heapU (look ov b) n life, gens, drawn, toks, os⟩ ⟨cur, code, pos, stack⟩ = .go s'.abs t' := by
  rw [← stepF_eq] at h
  cases q : step den p w ⟨{}, gens, drawn, toks, os⟩ ⟨cur, code, pos, stack⟩ with
  | halt o s => rw [q] at h; cases h
  | go s₀ t₀ => rw [q] at h; cases h; exact PySem.W.step_heap h1 h2 h3 h4 q
theorem stepU_spec {s s' : SU} {t t' : Thread} (h : stepU den p w s t = some (s', t')) : step den p w s.abs t = .go s'.abs t' := by
  obtain ⟨ov, b, n, life, gens, drawn, toks, os⟩ := s
  obtain ⟨cur, code, pos, stack⟩ := t
  cases cur with
  | load a q k =>
    cases e : Nat.blt a n with
    | false => unfold stepU at h; dsimp only at h; rw [e] at h; cases h
    | true =>
      have lt : a < n := Nat.le_of_ble_eq_true e
      cases al : alive (look ov b a) with
      | none => unfold stepU at h; dsimp only at h; rw [e] at h; dsimp only at h; rw [al] at h; cases h
      | some o' =>
        unfold stepU at h; dsimp only at h; rw [e] at h; dsimp only at h; rw [al] at h; dsimp only at h
        cases h
        show step den p w ⟨heapU (look ov b) n life, gens, drawn, toks, os⟩ ⟨.load a q k, code, pos, stack⟩ = _
        simp only [step, heapU_get lt, al]
        rfl
  | update a q f k =>
    cases e : Nat.blt a n with
    | false => unfold stepU at h; dsimp only at h; rw [e] at h; cases h
    | true =>
      have lt : a < n := Nat.le_of_ble_eq_true e
      cases al : alive (look ov b a) with
      | none => unfold stepU at h; dsimp only at h; rw [e] at h; dsimp only at h; rw [al] at h; cases h
      | some o' =>
        unfold stepU at h; dsimp only at h; rw [e] at h; dsimp only at h; rw [al] at h; dsimp only at h
        cases h
        show step den p w ⟨heapU (look ov b) n life, gens, drawn, toks, os⟩ ⟨.update a q f k, code, pos, stack⟩ = .go ⟨heapU (look ((a, f (look ov b a)) :: ov) b) n life, gens, drawn, toks, os⟩ _
        rw [heapU_set lt]
        simp only [step, heapU_get lt, al, Option.isSome_some, if_true]
  | alloc o k =>
    unfold stepU at h; dsimp only at h
    cases h
    show step den p w ⟨heapU (look ov b) n life, gens, drawn, toks, os⟩ ⟨.alloc o k, code, pos, stack⟩ = .go ⟨heapU (look ((n, o) :: ov) b) (n + 1) life, gens, drawn, toks, os⟩ _
    rw [heapU_push]
    simp only [step, heapU_size]
  | loadIfAlive a k =>
    cases e : Nat.blt a n with
    | false =>
      have lt : ¬ a < n := fun q => by have : Nat.blt a n = true := Nat.ble_eq_true_of_le q; rw [e] at this; cases this
      unfold stepU at h; dsimp only at h; rw [e] at h; dsimp only at h
      cases h
      show step den p w ⟨heapU (look ov b) n life, gens, drawn, toks, os⟩ ⟨.loadIfAlive a k, code, pos, stack⟩ = _
      simp only [step, heapU_get_none lt]
      rfl
    | true =>
      have lt : a < n := Nat.le_of_ble_eq_true e
      unfold stepU at h; dsimp only at h; rw [e] at h; dsimp only at h
      cases h
      show step den p w ⟨heapU (look ov b) n life, gens, drawn, toks, os⟩ ⟨.loadIfAlive a k, code, pos, stack⟩ = _
      simp only [step, heapU_get lt]
      rfl
  | _ => exact stepU_other (by intros; nofun) (by intros; nofun) (by intros; nofun) (by intros; nofun) h
end

/-- a run over the overlay: the twins' tables and steps -/
noncomputable def goU (p : Program) (w : World) (n₀ : Nat) (ann : Option Value) (b : Nat) : Nat → SU → Thread → Option (SU × Thread)
  | 0, s, t => some (s, t)
  | n + 1, s, t => match endAt b t with
    | some _ => none
    | none => match okF n₀ ann t with
      | false => none
      | true => match stepU (denF tabF) p w s t with
        | some (s', t') => goU p w n₀ ann b n s' t'
        | none => none
noncomputable def runU (p : Program) (w : World) (n₀ : Nat) (ann : Option Value) (b : Nat) : Nat → SU → Thread → Option (Flow × SU × Code × Pos)
  | 0, _, _ => none
  | n + 1, s, t => match endAt b t with
    | some f => some (f, s, t.code, t.pos)
    | none => match okF n₀ ann t with
      | false => none
      | true => match stepU (denF tabF) p w s t with
        | some (s', t') => runU p w n₀ ann b n s' t'
        | none => none

section
variable {p : Program} {w : World} {n₀ : Nat} {ann : Option Value} {b : Nat}
theorem goU_spec : ∀ {n : Nat} {s s' : SU} {t t' : Thread}, goU p w n₀ ann b n s t = some (s', t') → segGo treeTable p w n₀ ann b n s.abs t = some (s'.abs, t')
  | 0, s, s', t, t', h => by
    obtain ⟨rfl, rfl⟩ : s = s' ∧ t = t' := by simpa [goU] using h
    rfl
  | n + 1, s, s', t, t', h => by
    unfold goU at h
    unfold segGo
    cases he : endAt b t with
    | some f => rw [he] at h; cases h
    | none =>
      rw [he] at h
      rw [okF_eq]
      cases hk : okF n₀ ann t with
      | false => rw [hk] at h; cases h
      | true =>
        rw [hk] at h
        cases hs : stepU (denF tabF) p w s t with
        | none => rw [hs] at h; cases h
        | some x =>
          obtain ⟨s₂, t₂⟩ := x
          rw [hs] at h
          have e := stepU_spec hs
          rw [← denF_eq, ← tabF_eq] at e
          show (match step (denote treeTable) p w s.abs t with | .go s' t' => segGo treeTable p w n₀ ann b n s' t' | .halt _ _ => none) = _
          rw [e]
          exact goU_spec h
theorem runU_spec : ∀ {n : Nat} {s s' : SU} {t : Thread} {f : Flow} {c : Code} {q : Pos}, runU p w n₀ ann b n s t = some (f, s', c, q) → segRun treeTable p w n₀ ann b n s.abs t = some (f, s'.abs, c, q)
  | 0, _, _, _, _, _, _, h => by cases h
  | n + 1, s, s', t, f, c, q, h => by
    unfold runU at h
    unfold segRun
    cases he : endAt b t with
    | some f' =>
      rw [he] at h
      obtain ⟨rfl, rfl, rfl, rfl⟩ : f' = f ∧ s = s' ∧ t.code = c ∧ t.pos = q := by simpa using h
      rfl
    | none =>
      rw [he] at h
      rw [okF_eq]
      cases hk : okF n₀ ann t with
      | false => rw [hk] at h; cases h
      | true =>
        rw [hk] at h
        cases hs : stepU (denF tabF) p w s t with
        | none => rw [hs] at h; cases h
        | some x =>
          obtain ⟨s₂, t₂⟩ := x
          rw [hs] at h
          have e := stepU_spec hs
          rw [← denF_eq, ← tabF_eq] at e
          show (match step (denote treeTable) p w s.abs t with | .go s' t' => segRun treeTable p w n₀ ann b n s' t' | .halt _ _ => none) = _
          rw [e]
          exact runU_spec h
end
end
end Mine
end
section
open PySem PySem.W PySem.Calls PyProof.Rows
namespace Mine
section
noncomputable abbrev PW : Program := PySem.Challenge.pw_jm0023_01
noncomputable def stAB : Stmt := match PW.main.body[6]? with | some s => s | none => .Pass default
noncomputable def cmp : PySem.Expr := match stAB with | .Assign _ (.Call _ [x] _ _) _ => x | _ => default
noncomputable def cEnv : Env := { scope := (match cmp with | .ListComp _ _ sc _ => sc | _ => default), locals := 73, globals := 3, cells := [], code := .ref 13, frame := some 14, builtins := 0 }
noncomputable def cl : Code := .compLoop cmp 0 (.ref 71) (.ref 72) cEnv
noncomputable def thr (k : Result → Sem Fin) (c : Code) (q : Pos) : Thread :=
  ⟨denF tabF cl, cl, ⟨16, 19, 16, 29⟩, [.ret k none true [.ref 73, .ref 72] c ⟨16, 39, 16, 49⟩ [], topFrame q]⟩
noncomputable def bts (i : Nat) : Value := .bytes #[i.toUInt8] (273 + 3 * i)
noncomputable def oR (i : Nat) : Obj := { cls := .type "range_iterator", data := .fields #[.int (Int.ofNat i) 0, .int (Int.ofNat (256 - i)) 0, .int (Int.ofNat 1) 0] }
noncomputable def oA (i : Nat) : Obj := { cls := .type "list", data := .seq ((List.range i).map bts).toArray i }
noncomputable def oD (P : Params) (i : Nat) : Obj := { cls := .type "dict", data := .dict #[{ hash := PyData.keyHash P (Str.ofString "i"), key := .str (Str.ofString "i") 272, val := .int (Int.ofNat (i - 1)) (268 + 3 * i) }] 1 }
noncomputable def oL (i : Nat) : Obj := { cls := .type "list", data := .seq #[.int (Int.ofNat i) (271 + 3 * i)] }
noncomputable def oI : Obj := { cls := .type "list_iterator", data := .fields #[.none, .int (Int.ofNat 1) 0] }
noncomputable def oI0 (n : Nat) : Obj := { cls := .type "list_iterator", data := .fields #[.ref n, .int (Int.ofNat 0) 0] }
noncomputable def oI1 (n : Nat) : Obj := { cls := .type "list_iterator", data := .fields #[.ref n, .int (Int.ofNat 1) 0] }
noncomputable def oB (i : Nat) : Obj := { cls := .type "bytearray", data := .bytearray #[i.toUInt8] }
noncomputable def oB0 : Obj := { cls := .type "bytearray", data := .bytearray #[] }
noncomputable def oT : Obj := { cls := .type "tuple", data := .seq #[] }
noncomputable def oS (n : Nat) : Obj := { cls := .type "StopIteration", data := .fields #[.ref (n + 3), .none, .none, .none, .bool false, .none] }
noncomputable def ent (P : Params) (x : String) (t : Nat) (v : Value) : DictEntry := { hash := PyData.keyHash P (Str.ofString x), key := .str (Str.ofString x) t, val := v }
noncomputable def oM1 (P : Params) : Obj := { cls := .type "dict", data := .dict #[
    ent P "__name__" 165 (.str (Str.ofString "rlp.utils") 266),
    ent P "__doc__" 166 (.none),
    ent P "__package__" 167 (.none),
    ent P "__loader__" 168 (.builtin "__main__.__loader__#opaque"),
    ent P "__spec__" 169 (.none),
    ent P "__annotations__" 170 (.ref 6),
    ent P "__builtins__" 171 (.ref 4),
    ent P "__file__" 173 (.str (Str.ofString "/claim/cut.py") 172),
    ent P "__cached__" 174 (.none),
    ent P "RLPException" 208 (.ref 24),
    ent P "EncodingError" 236 (.ref 46),
    ent P "DecodingError" 264 (.ref 67),
    ent P "DecodingError_exceptions" 265 (.ref 67)] 13 }
noncomputable abbrev dr0 : Drawn := ⟨0, 0, 0, 0⟩
noncomputable def sN (P : Params) (f : Nat → Obj) (os : OsState) (i : Nat) : SU := ⟨[(71, oR i), (72, oA i), (73, oD P i), (3, oM1 P), (0, boot_o_0 P)], f, 74 + 5 * i, {}, #[], dr0, 271 + 3 * i, os⟩
/-- where the overlay stands behind a turn -/
noncomputable def ovOf (x : Option (SU × Thread)) : List (Nat × Obj) := match x with | some (s, _) => s.ov | none => []
noncomputable def keysOf (x : Option (SU × Thread)) : List Nat := (ovOf x).map (·.1)
end
end Mine
end
section
open PySem PySem.W PySem.Calls PyProof.Rows
namespace Mine
section
noncomputable def stOf (i : Nat) : Stmt := match PW.main.body[i]? with | some s => s | none => .Pass default
noncomputable def meth1 : Stmt → Stmt
  | .ClassDef _ _ _ (s :: _) _ _ _ _ _ _ _ => s
  | s => s
noncomputable def pOf : Stmt → Arguments
  | .FunctionDef _ a _ _ _ _ _ _ _ _ => a
  | _ => default
noncomputable def bOf : Stmt → List Stmt
  | .FunctionDef _ _ b _ _ _ _ _ _ _ => b
  | _ => []
noncomputable def scOf : Stmt → Scope
  | .FunctionDef _ _ _ _ _ _ sc _ _ _ => sc
  | _ => default
noncomputable def fn2 : Stmt := meth1 (stOf 2)
noncomputable def fn3 : Stmt := meth1 (stOf 3)
noncomputable def fn7 : Stmt := stOf 7
noncomputable def fn8 : Stmt := stOf 8
noncomputable def fn9 : Stmt := stOf 9
noncomputable def fn11 : Stmt := stOf 11
noncomputable def fn13 : Stmt := stOf 13
noncomputable def fn15 : Stmt := stOf 15
noncomputable def fn17 : Stmt := stOf 17
noncomputable def fn18 : Stmt := stOf 18
noncomputable def fn19 : Stmt := stOf 19
noncomputable def fn20 : Stmt := stOf 20
noncomputable def fn24 : Stmt := stOf 24
noncomputable def fn25 : Stmt := stOf 25
noncomputable def fn27 : Stmt := stOf 27
noncomputable def fn28 : Stmt := stOf 28
noncomputable def fn30 : Stmt := stOf 30
noncomputable def fn31 : Stmt := stOf 31
noncomputable def fn32 : Stmt := stOf 32
noncomputable def fn33 : Stmt := stOf 33
noncomputable def fn34 : Stmt := stOf 34
noncomputable def fn35 : Stmt := stOf 35
noncomputable def fn36 : Stmt := stOf 36
noncomputable def o2 (P : Params) : Obj := ⟨.none, none, .dict #[ent P "type.__subclasses__.Exception.0" 205 (.int (.ofNat 24) 0), ent P "type.__subclasses__.Exception.n" 206 (.int (.ofNat 1) 0)] 2, #[]⟩
noncomputable def o3 (P : Params) : Obj := ⟨(.type "dict"), none, .dict #[ent P "__name__" 165 (.str (Str.ofString "rlp.utils") 266), ent P "__doc__" 166 .none, ent P "__package__" 167 .none, ent P "__loader__" 168 (.builtin "__main__.__loader__#opaque"), ent P "__spec__" 169 .none, ent P "__annotations__" 170 (.ref 6), ent P "__builtins__" 171 (.ref 4), ent P "__file__" 173 (.str (Str.ofString "/claim/cut.py") 172), ent P "__cached__" 174 .none, ent P "RLPException" 208 (.ref 24), ent P "EncodingError" 236 (.ref 46), ent P "DecodingError" 264 (.ref 67), ent P "DecodingError_exceptions" 265 (.ref 67)] 13, #[]⟩
noncomputable def o11 (_ : Params) : Obj := ⟨(.type "tuple"), none, .seq #[] 0, #[]⟩
noncomputable def o12 (_ : Params) : Obj := ⟨.none, none, .fields #[(.int (.ofNat 2) 0), (.int (.ofNat 0) 0), (.ref 20), (.int (.ofNat 4) 0), (.int (.ofNat 0) 0), (.ref 34), (.int (.ofNat 9) 0), (.int (.ofNat 0) 0), (.ref 55)], #[]⟩
noncomputable def o13 (_ : Params) : Obj := ⟨(.type "code"), none, .fields #[(.str (Str.ofString "<module>") 182), (.str (Str.ofString "<module>") 183), (.str (Str.ofString "/claim/cut.py") 184), (.int (.ofNat 1) 0), (.int (.ofNat 0) 0), (.int (.ofNat 0) 0), (.int (.ofNat 0) 0), (.int (.ofNat 0) 0), (.ref 11), (.bool false), (.int (.ofNat 181) 0), (.ref 12), .none, .none, .none, .none, (.int (.ofNat 185) 0), (.int (.ofNat 1) 0), (.str (Str.ofString "/claim/cut.py") 186)], #[]⟩
noncomputable def o14 (_ : Params) : Obj := ⟨(.type "frame"), none, .plain, #[some (.ref 13), some (.ref 3), some (.ref 3), none, some (.str (Str.ofString "__main__") 164), none, some (.ref 0)]⟩
noncomputable def o15 (_ : Params) : Obj := ⟨(.type "tuple"), none, .seq #[(.type "Exception")] 0, #[]⟩
noncomputable def o16 (_ : Params) : Obj := ⟨(.type "builtin_function_or_method"), none, .fields #[(.builtin "type.__prepare__"), (.type "type")], #[]⟩
noncomputable def o17 (P : Params) : Obj := ⟨(.type "dict"), none, .dict #[ent P "__module__" 196 (.str (Str.ofString "rlp.exceptions") 187), ent P "__qualname__" 198 (.str (Str.ofString "RLPException") 197), ent P "__firstlineno__" 200 (.int (.ofNat 2) 199), ent P "__static_attributes__" 201 (.ref 22)] 4, #[]⟩
noncomputable def o18 (_ : Params) : Obj := ⟨(.type "tuple"), none, .seq #[] 0, #[]⟩
noncomputable def o19 (_ : Params) : Obj := ⟨.none, none, .fields #[], #[]⟩
noncomputable def o20 (_ : Params) : Obj := ⟨(.type "code"), none, .fields #[(.str (Str.ofString "RLPException") 191), (.str (Str.ofString "RLPException") 192), (.str (Str.ofString "/claim/cut.py") 193), (.int (.ofNat 2) 0), (.int (.ofNat 0) 0), (.int (.ofNat 0) 0), (.int (.ofNat 0) 0), (.int (.ofNat 0) 0), (.ref 18), (.bool false), (.int (.ofNat 181) 0), (.ref 19), .none, .none, .none, .none, (.int (.ofNat 194) 0), (.int (.ofNat 2) 0), (.str (Str.ofString "/claim/cut.py") 195)], #[]⟩
noncomputable def o21 (_ : Params) : Obj := ⟨(.type "frame"), none, .plain, #[some (.ref 20), some (.ref 3), some (.ref 17), none, some (.str (Str.ofString "rlp.exceptions") 187), none, some (.ref 0)]⟩
noncomputable def o22 (_ : Params) : Obj := ⟨(.type "tuple"), none, .seq #[] 0, #[]⟩
noncomputable def o23 (P : Params) : Obj := ⟨(.type "dict"), none, .dict #[ent P "__module__" 196 (.str (Str.ofString "rlp.exceptions") 187), ent P "__firstlineno__" 200 (.int (.ofNat 2) 199), ent P "__static_attributes__" 201 (.ref 22), ent P "__weakref__" 203 (.ref 25), ent P "__doc__" 204 .none] 3, #[]⟩
noncomputable def o24 (_ : Params) : Obj := ⟨(.type "type"), none, .cls { name := (Str.ofString "RLPException"), bases := [(.type "Exception")], mro := [(.ref 24), (.type "Exception"), (.type "BaseException"), (.type "object")], ns := 23, qualname := (Str.ofString "RLPException"), hasDict := true, slotNames := [], subclasses := [(.ref 46), (.ref 67)], abstract := false, collection := none, hasDel := false }, #[some (.ref 15), none, some (.str (Str.ofString "RLPException") 189), some (.str (Str.ofString "RLPException") 197), some (.builtin "Exception.__new__"), some (.bool true)]⟩
noncomputable def o25 (_ : Params) : Obj := ⟨(.type "getset_descriptor"), none, .fields #[(.str (Str.ofString "__weakref__") 202), (.ref 24), (.builtin "ExceptionGroup.__weakref__"), .none], #[]⟩
noncomputable def o26 (_ : Params) : Obj := ⟨(.type "super"), none, .fields #[(.ref 24), (.ref 24), (.ref 24)], #[]⟩
noncomputable def o27 (_ : Params) : Obj := ⟨(.type "builtin_function_or_method"), none, .fields #[(.builtin "object.__init_subclass__"), (.ref 24)], #[]⟩
noncomputable def o28 (_ : Params) : Obj := ⟨(.type "tuple"), none, .seq #[(.ref 24)] 0, #[]⟩
noncomputable def o29 (_ : Params) : Obj := ⟨(.type "builtin_function_or_method"), none, .fields #[(.builtin "type.__prepare__"), (.type "type")], #[]⟩
noncomputable def o30 (P : Params) : Obj := ⟨(.type "dict"), none, .dict #[ent P "__module__" 216 (.str (Str.ofString "rlp.exceptions") 187), ent P "__qualname__" 218 (.str (Str.ofString "EncodingError") 217), ent P "__firstlineno__" 220 (.int (.ofNat 4) 219), ent P "__init__" 230 (.ref 43), ent P "__static_attributes__" 232 (.ref 44), ent P "__classcell__" 233 (.ref 31)] 6, #[]⟩
noncomputable def o31 (_ : Params) : Obj := ⟨(.type "cell"), none, .cell (some (.ref 46)), #[]⟩
noncomputable def o32 (_ : Params) : Obj := ⟨(.type "tuple"), none, .seq #[] 0, #[]⟩
noncomputable def o33 (_ : Params) : Obj := ⟨.none, none, .fields #[(.int (.ofNat 6) 0), (.int (.ofNat 4) 0), (.ref 42)], #[]⟩
noncomputable def o34 (_ : Params) : Obj := ⟨(.type "code"), none, .fields #[(.str (Str.ofString "EncodingError") 211), (.str (Str.ofString "EncodingError") 212), (.str (Str.ofString "/claim/cut.py") 213), (.int (.ofNat 4) 0), (.int (.ofNat 0) 0), (.int (.ofNat 0) 0), (.int (.ofNat 0) 0), (.int (.ofNat 0) 0), (.ref 32), (.bool false), (.int (.ofNat 181) 0), (.ref 33), .none, .none, .none, .none, (.int (.ofNat 214) 0), (.int (.ofNat 4) 0), (.str (Str.ofString "/claim/cut.py") 215)], #[]⟩
noncomputable def o35 (_ : Params) : Obj := ⟨(.type "frame"), none, .plain, #[some (.ref 34), some (.ref 3), some (.ref 30), none, some (.str (Str.ofString "rlp.exceptions") 187), none, some (.ref 0)]⟩
noncomputable def o36 (_ : Params) : Obj := ⟨(.type "tuple"), none, .seq #[(.ref 31)] 0, #[]⟩
noncomputable def o37 (_ : Params) : Obj := ⟨(.type "tuple"), none, .seq #[(.str (Str.ofString "__class__") 224)] 0, #[]⟩
noncomputable def o38 (_ : Params) : Obj := ⟨.none, none, .fields #[], #[]⟩
noncomputable def o39 (_ : Params) : Obj := ⟨(.type "tuple"), none, .seq #[(.str (Str.ofString "self") 225), (.str (Str.ofString "message") 226), (.str (Str.ofString "obj") 227)] 0, #[]⟩
noncomputable def o40 (_ : Params) : Obj := ⟨(.type "tuple"), none, .seq #[] 0, #[]⟩
noncomputable def o41 (_ : Params) : Obj := ⟨.none, none, .func { name := (Str.ofString "__init__"), qualname := (Str.ofString "EncodingError.__init__"), params := pOf fn2, body := .stmts (bOf fn2), scope := scOf fn2, globals := 0, closure := [], defaults := .none, kwdefaults := .none, doc := .none, pyModule := .none, annotations := none, code := .none, closureTuple := .none, builtins := 0 }, #[]⟩
noncomputable def o42 (_ : Params) : Obj := ⟨(.type "code"), none, .fields #[(.str (Str.ofString "__init__") 221), (.str (Str.ofString "EncodingError.__init__") 222), (.str (Str.ofString "/claim/cut.py") 223), (.int (.ofNat 6) 0), (.int (.ofNat 3) 0), (.int (.ofNat 0) 0), (.int (.ofNat 0) 0), (.int (.ofNat 3) 0), (.ref 37), (.bool true), (.int (.ofNat 181) 0), (.ref 38), .none, (.ref 39), (.ref 40), (.ref 41), (.int (.ofNat 228) 0), (.int (.ofNat 6) 0), (.str (Str.ofString "/claim/cut.py") 229)], #[]⟩
noncomputable def o43 (_ : Params) : Obj := ⟨(.type "function"), none, .func { name := (Str.ofString "__init__"), qualname := (Str.ofString "EncodingError.__init__"), params := pOf fn2, body := .stmts (bOf fn2), scope := scOf fn2, globals := 3, closure := [((Str.ofString "__class__"), 31)], defaults := .none, kwdefaults := .none, doc := .none, pyModule := (.str (Str.ofString "rlp.exceptions") 187), annotations := none, code := (.ref 42), closureTuple := (.ref 36), builtins := 0 }, #[]⟩
noncomputable def o44 (_ : Params) : Obj := ⟨(.type "tuple"), none, .seq #[(.str (Str.ofString "obj") 231)] 0, #[]⟩
noncomputable def o45 (P : Params) : Obj := ⟨(.type "dict"), none, .dict #[ent P "__module__" 216 (.str (Str.ofString "rlp.exceptions") 187), ent P "__firstlineno__" 220 (.int (.ofNat 4) 219), ent P "__init__" 230 (.ref 43), ent P "__static_attributes__" 232 (.ref 44), ent P "__doc__" 234 .none] 3, #[]⟩
noncomputable def o46 (_ : Params) : Obj := ⟨(.type "type"), none, .cls { name := (Str.ofString "EncodingError"), bases := [(.ref 24)], mro := [(.ref 46), (.ref 24), (.type "Exception"), (.type "BaseException"), (.type "object")], ns := 45, qualname := (Str.ofString "EncodingError"), hasDict := true, slotNames := [], subclasses := [], abstract := false, collection := none, hasDel := false }, #[some (.ref 28), none, some (.str (Str.ofString "EncodingError") 209), some (.str (Str.ofString "EncodingError") 217), some (.builtin "Exception.__new__"), some (.bool true)]⟩
noncomputable def o47 (_ : Params) : Obj := ⟨(.type "super"), none, .fields #[(.ref 46), (.ref 46), (.ref 46)], #[]⟩
noncomputable def o48 (_ : Params) : Obj := ⟨(.type "builtin_function_or_method"), none, .fields #[(.builtin "object.__init_subclass__"), (.ref 46)], #[]⟩
noncomputable def o49 (_ : Params) : Obj := ⟨(.type "tuple"), none, .seq #[(.ref 24)] 0, #[]⟩
noncomputable def o50 (_ : Params) : Obj := ⟨(.type "builtin_function_or_method"), none, .fields #[(.builtin "type.__prepare__"), (.type "type")], #[]⟩
noncomputable def o51 (P : Params) : Obj := ⟨(.type "dict"), none, .dict #[ent P "__module__" 244 (.str (Str.ofString "rlp.exceptions") 187), ent P "__qualname__" 246 (.str (Str.ofString "DecodingError") 245), ent P "__firstlineno__" 248 (.int (.ofNat 9) 247), ent P "__init__" 258 (.ref 64), ent P "__static_attributes__" 260 (.ref 65), ent P "__classcell__" 261 (.ref 52)] 6, #[]⟩
noncomputable def o52 (_ : Params) : Obj := ⟨(.type "cell"), none, .cell (some (.ref 67)), #[]⟩
noncomputable def o53 (_ : Params) : Obj := ⟨(.type "tuple"), none, .seq #[] 0, #[]⟩
noncomputable def o54 (_ : Params) : Obj := ⟨.none, none, .fields #[(.int (.ofNat 11) 0), (.int (.ofNat 4) 0), (.ref 63)], #[]⟩
noncomputable def o55 (_ : Params) : Obj := ⟨(.type "code"), none, .fields #[(.str (Str.ofString "DecodingError") 239), (.str (Str.ofString "DecodingError") 240), (.str (Str.ofString "/claim/cut.py") 241), (.int (.ofNat 9) 0), (.int (.ofNat 0) 0), (.int (.ofNat 0) 0), (.int (.ofNat 0) 0), (.int (.ofNat 0) 0), (.ref 53), (.bool false), (.int (.ofNat 181) 0), (.ref 54), .none, .none, .none, .none, (.int (.ofNat 242) 0), (.int (.ofNat 9) 0), (.str (Str.ofString "/claim/cut.py") 243)], #[]⟩
noncomputable def o56 (_ : Params) : Obj := ⟨(.type "frame"), none, .plain, #[some (.ref 55), some (.ref 3), some (.ref 51), none, some (.str (Str.ofString "rlp.exceptions") 187), none, some (.ref 0)]⟩
noncomputable def o57 (_ : Params) : Obj := ⟨(.type "tuple"), none, .seq #[(.ref 52)] 0, #[]⟩
noncomputable def o58 (_ : Params) : Obj := ⟨(.type "tuple"), none, .seq #[(.str (Str.ofString "__class__") 252)] 0, #[]⟩
noncomputable def o59 (_ : Params) : Obj := ⟨.none, none, .fields #[], #[]⟩
noncomputable def o60 (_ : Params) : Obj := ⟨(.type "tuple"), none, .seq #[(.str (Str.ofString "self") 253), (.str (Str.ofString "message") 254), (.str (Str.ofString "rlp") 255)] 0, #[]⟩
noncomputable def o61 (_ : Params) : Obj := ⟨(.type "tuple"), none, .seq #[] 0, #[]⟩
noncomputable def o62 (_ : Params) : Obj := ⟨.none, none, .func { name := (Str.ofString "__init__"), qualname := (Str.ofString "DecodingError.__init__"), params := pOf fn3, body := .stmts (bOf fn3), scope := scOf fn3, globals := 0, closure := [], defaults := .none, kwdefaults := .none, doc := .none, pyModule := .none, annotations := none, code := .none, closureTuple := .none, builtins := 0 }, #[]⟩
noncomputable def o63 (_ : Params) : Obj := ⟨(.type "code"), none, .fields #[(.str (Str.ofString "__init__") 249), (.str (Str.ofString "DecodingError.__init__") 250), (.str (Str.ofString "/claim/cut.py") 251), (.int (.ofNat 11) 0), (.int (.ofNat 3) 0), (.int (.ofNat 0) 0), (.int (.ofNat 0) 0), (.int (.ofNat 3) 0), (.ref 58), (.bool true), (.int (.ofNat 181) 0), (.ref 59), .none, (.ref 60), (.ref 61), (.ref 62), (.int (.ofNat 256) 0), (.int (.ofNat 11) 0), (.str (Str.ofString "/claim/cut.py") 257)], #[]⟩
noncomputable def o64 (_ : Params) : Obj := ⟨(.type "function"), none, .func { name := (Str.ofString "__init__"), qualname := (Str.ofString "DecodingError.__init__"), params := pOf fn3, body := .stmts (bOf fn3), scope := scOf fn3, globals := 3, closure := [((Str.ofString "__class__"), 52)], defaults := .none, kwdefaults := .none, doc := .none, pyModule := (.str (Str.ofString "rlp.exceptions") 187), annotations := none, code := (.ref 63), closureTuple := (.ref 57), builtins := 0 }, #[]⟩
noncomputable def o65 (_ : Params) : Obj := ⟨(.type "tuple"), none, .seq #[(.str (Str.ofString "rlp") 259)] 0, #[]⟩
noncomputable def o66 (P : Params) : Obj := ⟨(.type "dict"), none, .dict #[ent P "__module__" 244 (.str (Str.ofString "rlp.exceptions") 187), ent P "__firstlineno__" 248 (.int (.ofNat 9) 247), ent P "__init__" 258 (.ref 64), ent P "__static_attributes__" 260 (.ref 65), ent P "__doc__" 262 .none] 3, #[]⟩
noncomputable def o67 (_ : Params) : Obj := ⟨(.type "type"), none, .cls { name := (Str.ofString "DecodingError"), bases := [(.ref 24)], mro := [(.ref 67), (.ref 24), (.type "Exception"), (.type "BaseException"), (.type "object")], ns := 66, qualname := (Str.ofString "DecodingError"), hasDict := true, slotNames := [], subclasses := [], abstract := false, collection := none, hasDel := false }, #[some (.ref 49), none, some (.str (Str.ofString "DecodingError") 237), some (.str (Str.ofString "DecodingError") 245), some (.builtin "Exception.__new__"), some (.bool true)]⟩
noncomputable def o68 (_ : Params) : Obj := ⟨(.type "super"), none, .fields #[(.ref 67), (.ref 67), (.ref 67)], #[]⟩
noncomputable def o69 (_ : Params) : Obj := ⟨(.type "builtin_function_or_method"), none, .fields #[(.builtin "object.__init_subclass__"), (.ref 67)], #[]⟩
noncomputable def o3_1 (P : Params) : Obj := ⟨(.type "dict"), none, .dict #[ent P "__name__" 165 (.str (Str.ofString "rlp.utils") 266), ent P "__doc__" 166 .none, ent P "__package__" 167 .none, ent P "__loader__" 168 (.builtin "__main__.__loader__#opaque"), ent P "__spec__" 169 .none, ent P "__annotations__" 170 (.ref 6), ent P "__builtins__" 171 (.ref 4), ent P "__file__" 173 (.str (Str.ofString "/claim/cut.py") 172), ent P "__cached__" 174 .none, ent P "RLPException" 208 (.ref 24), ent P "EncodingError" 236 (.ref 46), ent P "DecodingError" 264 (.ref 67), ent P "DecodingError_exceptions" 265 (.ref 67), ent P "ALL_BYTES" 1039 (.ref 1357)] 14, #[]⟩
noncomputable def o70 (_ : Params) : Obj := ⟨(.type "range"), none, .fields #[(.int (.ofNat 0) 269), (.int (.ofNat 256) 268), (.int (.ofNat 1) 270)], #[]⟩
noncomputable def o71 (_ : Params) : Obj := ⟨(.type "range_iterator"), none, .fields #[(.int (.ofNat 256) 0), (.int (.ofNat 0) 0), (.int (.ofNat 1) 0)], #[]⟩
noncomputable def o72 (_ : Params) : Obj := ⟨(.type "list"), none, .seq #[(.bytes #[0] 273), (.bytes #[1] 276), (.bytes #[2] 279), (.bytes #[3] 282), (.bytes #[4] 285), (.bytes #[5] 288), (.bytes #[6] 291), (.bytes #[7] 294), (.bytes #[8] 297), (.bytes #[9] 300), (.bytes #[10] 303), (.bytes #[11] 306), (.bytes #[12] 309), (.bytes #[13] 312), (.bytes #[14] 315), (.bytes #[15] 318), (.bytes #[16] 321), (.bytes #[17] 324), (.bytes #[18] 327), (.bytes #[19] 330), (.bytes #[20] 333), (.bytes #[21] 336), (.bytes #[22] 339), (.bytes #[23] 342), (.bytes #[24] 345), (.bytes #[25] 348), (.bytes #[26] 351), (.bytes #[27] 354), (.bytes #[28] 357), (.bytes #[29] 360), (.bytes #[30] 363), (.bytes #[31] 366), (.bytes #[32] 369), (.bytes #[33] 372), (.bytes #[34] 375), (.bytes #[35] 378), (.bytes #[36] 381), (.bytes #[37] 384), (.bytes #[38] 387), (.bytes #[39] 390), (.bytes #[40] 393), (.bytes #[41] 396), (.bytes #[42] 399), (.bytes #[43] 402), (.bytes #[44] 405), (.bytes #[45] 408), (.bytes #[46] 411), (.bytes #[47] 414), (.bytes #[48] 417), (.bytes #[49] 420), (.bytes #[50] 423), (.bytes #[51] 426), (.bytes #[52] 429), (.bytes #[53] 432), (.bytes #[54] 435), (.bytes #[55] 438), (.bytes #[56] 441), (.bytes #[57] 444), (.bytes #[58] 447), (.bytes #[59] 450), (.bytes #[60] 453), (.bytes #[61] 456), (.bytes #[62] 459), (.bytes #[63] 462), (.bytes #[64] 465), (.bytes #[65] 468), (.bytes #[66] 471), (.bytes #[67] 474), (.bytes #[68] 477), (.bytes #[69] 480), (.bytes #[70] 483), (.bytes #[71] 486), (.bytes #[72] 489), (.bytes #[73] 492), (.bytes #[74] 495), (.bytes #[75] 498), (.bytes #[76] 501), (.bytes #[77] 504), (.bytes #[78] 507), (.bytes #[79] 510), (.bytes #[80] 513), (.bytes #[81] 516), (.bytes #[82] 519), (.bytes #[83] 522), (.bytes #[84] 525), (.bytes #[85] 528), (.bytes #[86] 531), (.bytes #[87] 534), (.bytes #[88] 537), (.bytes #[89] 540), (.bytes #[90] 543), (.bytes #[91] 546), (.bytes #[92] 549), (.bytes #[93] 552), (.bytes #[94] 555), (.bytes #[95] 558), (.bytes #[96] 561), (.bytes #[97] 564), (.bytes #[98] 567), (.bytes #[99] 570), (.bytes #[100] 573), (.bytes #[101] 576), (.bytes #[102] 579), (.bytes #[103] 582), (.bytes #[104] 585), (.bytes #[105] 588), (.bytes #[106] 591), (.bytes #[107] 594), (.bytes #[108] 597), (.bytes #[109] 600), (.bytes #[110] 603), (.bytes #[111] 606), (.bytes #[112] 609), (.bytes #[113] 612), (.bytes #[114] 615), (.bytes #[115] 618), (.bytes #[116] 621), (.bytes #[117] 624), (.bytes #[118] 627), (.bytes #[119] 630), (.bytes #[120] 633), (.bytes #[121] 636), (.bytes #[122] 639), (.bytes #[123] 642), (.bytes #[124] 645), (.bytes #[125] 648), (.bytes #[126] 651), (.bytes #[127] 654), (.bytes #[128] 657), (.bytes #[129] 660), (.bytes #[130] 663), (.bytes #[131] 666), (.bytes #[132] 669), (.bytes #[133] 672), (.bytes #[134] 675), (.bytes #[135] 678), (.bytes #[136] 681), (.bytes #[137] 684), (.bytes #[138] 687), (.bytes #[139] 690), (.bytes #[140] 693), (.bytes #[141] 696), (.bytes #[142] 699), (.bytes #[143] 702), (.bytes #[144] 705), (.bytes #[145] 708), (.bytes #[146] 711), (.bytes #[147] 714), (.bytes #[148] 717), (.bytes #[149] 720), (.bytes #[150] 723), (.bytes #[151] 726), (.bytes #[152] 729), (.bytes #[153] 732), (.bytes #[154] 735), (.bytes #[155] 738), (.bytes #[156] 741), (.bytes #[157] 744), (.bytes #[158] 747), (.bytes #[159] 750), (.bytes #[160] 753), (.bytes #[161] 756), (.bytes #[162] 759), (.bytes #[163] 762), (.bytes #[164] 765), (.bytes #[165] 768), (.bytes #[166] 771), (.bytes #[167] 774), (.bytes #[168] 777), (.bytes #[169] 780), (.bytes #[170] 783), (.bytes #[171] 786), (.bytes #[172] 789), (.bytes #[173] 792), (.bytes #[174] 795), (.bytes #[175] 798), (.bytes #[176] 801), (.bytes #[177] 804), (.bytes #[178] 807), (.bytes #[179] 810), (.bytes #[180] 813), (.bytes #[181] 816), (.bytes #[182] 819), (.bytes #[183] 822), (.bytes #[184] 825), (.bytes #[185] 828), (.bytes #[186] 831), (.bytes #[187] 834), (.bytes #[188] 837), (.bytes #[189] 840), (.bytes #[190] 843), (.bytes #[191] 846), (.bytes #[192] 849), (.bytes #[193] 852), (.bytes #[194] 855), (.bytes #[195] 858), (.bytes #[196] 861), (.bytes #[197] 864), (.bytes #[198] 867), (.bytes #[199] 870), (.bytes #[200] 873), (.bytes #[201] 876), (.bytes #[202] 879), (.bytes #[203] 882), (.bytes #[204] 885), (.bytes #[205] 888), (.bytes #[206] 891), (.bytes #[207] 894), (.bytes #[208] 897), (.bytes #[209] 900), (.bytes #[210] 903), (.bytes #[211] 906), (.bytes #[212] 909), (.bytes #[213] 912), (.bytes #[214] 915), (.bytes #[215] 918), (.bytes #[216] 921), (.bytes #[217] 924), (.bytes #[218] 927), (.bytes #[219] 930), (.bytes #[220] 933), (.bytes #[221] 936), (.bytes #[222] 939), (.bytes #[223] 942), (.bytes #[224] 945), (.bytes #[225] 948), (.bytes #[226] 951), (.bytes #[227] 954), (.bytes #[228] 957), (.bytes #[229] 960), (.bytes #[230] 963), (.bytes #[231] 966), (.bytes #[232] 969), (.bytes #[233] 972), (.bytes #[234] 975), (.bytes #[235] 978), (.bytes #[236] 981), (.bytes #[237] 984), (.bytes #[238] 987), (.bytes #[239] 990), (.bytes #[240] 993), (.bytes #[241] 996), (.bytes #[242] 999), (.bytes #[243] 1002), (.bytes #[244] 1005), (.bytes #[245] 1008), (.bytes #[246] 1011), (.bytes #[247] 1014), (.bytes #[248] 1017), (.bytes #[249] 1020), (.bytes #[250] 1023), (.bytes #[251] 1026), (.bytes #[252] 1029), (.bytes #[253] 1032), (.bytes #[254] 1035), (.bytes #[255] 1038)] 256, #[]⟩
noncomputable def o73 (_ : Params) : Obj := ⟨(.type "dict"), none, .dict #[] 2, #[]⟩
noncomputable def o1354 (_ : Params) : Obj := ⟨(.type "tuple"), none, .seq #[] 0, #[]⟩
noncomputable def o1355 (_ : Params) : Obj := ⟨(.type "StopIteration"), none, .fields #[(.ref 1354), .none, .none, .none, (.bool false), .none], #[]⟩
noncomputable def o1356 (_ : Params) : Obj := ⟨(.type "list"), none, .seq #[(.bytes #[0] 273), (.bytes #[1] 276), (.bytes #[2] 279), (.bytes #[3] 282), (.bytes #[4] 285), (.bytes #[5] 288), (.bytes #[6] 291), (.bytes #[7] 294), (.bytes #[8] 297), (.bytes #[9] 300), (.bytes #[10] 303), (.bytes #[11] 306), (.bytes #[12] 309), (.bytes #[13] 312), (.bytes #[14] 315), (.bytes #[15] 318), (.bytes #[16] 321), (.bytes #[17] 324), (.bytes #[18] 327), (.bytes #[19] 330), (.bytes #[20] 333), (.bytes #[21] 336), (.bytes #[22] 339), (.bytes #[23] 342), (.bytes #[24] 345), (.bytes #[25] 348), (.bytes #[26] 351), (.bytes #[27] 354), (.bytes #[28] 357), (.bytes #[29] 360), (.bytes #[30] 363), (.bytes #[31] 366), (.bytes #[32] 369), (.bytes #[33] 372), (.bytes #[34] 375), (.bytes #[35] 378), (.bytes #[36] 381), (.bytes #[37] 384), (.bytes #[38] 387), (.bytes #[39] 390), (.bytes #[40] 393), (.bytes #[41] 396), (.bytes #[42] 399), (.bytes #[43] 402), (.bytes #[44] 405), (.bytes #[45] 408), (.bytes #[46] 411), (.bytes #[47] 414), (.bytes #[48] 417), (.bytes #[49] 420), (.bytes #[50] 423), (.bytes #[51] 426), (.bytes #[52] 429), (.bytes #[53] 432), (.bytes #[54] 435), (.bytes #[55] 438), (.bytes #[56] 441), (.bytes #[57] 444), (.bytes #[58] 447), (.bytes #[59] 450), (.bytes #[60] 453), (.bytes #[61] 456), (.bytes #[62] 459), (.bytes #[63] 462), (.bytes #[64] 465), (.bytes #[65] 468), (.bytes #[66] 471), (.bytes #[67] 474), (.bytes #[68] 477), (.bytes #[69] 480), (.bytes #[70] 483), (.bytes #[71] 486), (.bytes #[72] 489), (.bytes #[73] 492), (.bytes #[74] 495), (.bytes #[75] 498), (.bytes #[76] 501), (.bytes #[77] 504), (.bytes #[78] 507), (.bytes #[79] 510), (.bytes #[80] 513), (.bytes #[81] 516), (.bytes #[82] 519), (.bytes #[83] 522), (.bytes #[84] 525), (.bytes #[85] 528), (.bytes #[86] 531), (.bytes #[87] 534), (.bytes #[88] 537), (.bytes #[89] 540), (.bytes #[90] 543), (.bytes #[91] 546), (.bytes #[92] 549), (.bytes #[93] 552), (.bytes #[94] 555), (.bytes #[95] 558), (.bytes #[96] 561), (.bytes #[97] 564), (.bytes #[98] 567), (.bytes #[99] 570), (.bytes #[100] 573), (.bytes #[101] 576), (.bytes #[102] 579), (.bytes #[103] 582), (.bytes #[104] 585), (.bytes #[105] 588), (.bytes #[106] 591), (.bytes #[107] 594), (.bytes #[108] 597), (.bytes #[109] 600), (.bytes #[110] 603), (.bytes #[111] 606), (.bytes #[112] 609), (.bytes #[113] 612), (.bytes #[114] 615), (.bytes #[115] 618), (.bytes #[116] 621), (.bytes #[117] 624), (.bytes #[118] 627), (.bytes #[119] 630), (.bytes #[120] 633), (.bytes #[121] 636), (.bytes #[122] 639), (.bytes #[123] 642), (.bytes #[124] 645), (.bytes #[125] 648), (.bytes #[126] 651), (.bytes #[127] 654), (.bytes #[128] 657), (.bytes #[129] 660), (.bytes #[130] 663), (.bytes #[131] 666), (.bytes #[132] 669), (.bytes #[133] 672), (.bytes #[134] 675), (.bytes #[135] 678), (.bytes #[136] 681), (.bytes #[137] 684), (.bytes #[138] 687), (.bytes #[139] 690), (.bytes #[140] 693), (.bytes #[141] 696), (.bytes #[142] 699), (.bytes #[143] 702), (.bytes #[144] 705), (.bytes #[145] 708), (.bytes #[146] 711), (.bytes #[147] 714), (.bytes #[148] 717), (.bytes #[149] 720), (.bytes #[150] 723), (.bytes #[151] 726), (.bytes #[152] 729), (.bytes #[153] 732), (.bytes #[154] 735), (.bytes #[155] 738), (.bytes #[156] 741), (.bytes #[157] 744), (.bytes #[158] 747), (.bytes #[159] 750), (.bytes #[160] 753), (.bytes #[161] 756), (.bytes #[162] 759), (.bytes #[163] 762), (.bytes #[164] 765), (.bytes #[165] 768), (.bytes #[166] 771), (.bytes #[167] 774), (.bytes #[168] 777), (.bytes #[169] 780), (.bytes #[170] 783), (.bytes #[171] 786), (.bytes #[172] 789), (.bytes #[173] 792), (.bytes #[174] 795), (.bytes #[175] 798), (.bytes #[176] 801), (.bytes #[177] 804), (.bytes #[178] 807), (.bytes #[179] 810), (.bytes #[180] 813), (.bytes #[181] 816), (.bytes #[182] 819), (.bytes #[183] 822), (.bytes #[184] 825), (.bytes #[185] 828), (.bytes #[186] 831), (.bytes #[187] 834), (.bytes #[188] 837), (.bytes #[189] 840), (.bytes #[190] 843), (.bytes #[191] 846), (.bytes #[192] 849), (.bytes #[193] 852), (.bytes #[194] 855), (.bytes #[195] 858), (.bytes #[196] 861), (.bytes #[197] 864), (.bytes #[198] 867), (.bytes #[199] 870), (.bytes #[200] 873), (.bytes #[201] 876), (.bytes #[202] 879), (.bytes #[203] 882), (.bytes #[204] 885), (.bytes #[205] 888), (.bytes #[206] 891), (.bytes #[207] 894), (.bytes #[208] 897), (.bytes #[209] 900), (.bytes #[210] 903), (.bytes #[211] 906), (.bytes #[212] 909), (.bytes #[213] 912), (.bytes #[214] 915), (.bytes #[215] 918), (.bytes #[216] 921), (.bytes #[217] 924), (.bytes #[218] 927), (.bytes #[219] 930), (.bytes #[220] 933), (.bytes #[221] 936), (.bytes #[222] 939), (.bytes #[223] 942), (.bytes #[224] 945), (.bytes #[225] 948), (.bytes #[226] 951), (.bytes #[227] 954), (.bytes #[228] 957), (.bytes #[229] 960), (.bytes #[230] 963), (.bytes #[231] 966), (.bytes #[232] 969), (.bytes #[233] 972), (.bytes #[234] 975), (.bytes #[235] 978), (.bytes #[236] 981), (.bytes #[237] 984), (.bytes #[238] 987), (.bytes #[239] 990), (.bytes #[240] 993), (.bytes #[241] 996), (.bytes #[242] 999), (.bytes #[243] 1002), (.bytes #[244] 1005), (.bytes #[245] 1008), (.bytes #[246] 1011), (.bytes #[247] 1014), (.bytes #[248] 1017), (.bytes #[249] 1020), (.bytes #[250] 1023), (.bytes #[251] 1026), (.bytes #[252] 1029), (.bytes #[253] 1032), (.bytes #[254] 1035), (.bytes #[255] 1038)] 1, #[]⟩
noncomputable def o1357 (_ : Params) : Obj := ⟨(.type "tuple"), none, .seq #[(.bytes #[0] 273), (.bytes #[1] 276), (.bytes #[2] 279), (.bytes #[3] 282), (.bytes #[4] 285), (.bytes #[5] 288), (.bytes #[6] 291), (.bytes #[7] 294), (.bytes #[8] 297), (.bytes #[9] 300), (.bytes #[10] 303), (.bytes #[11] 306), (.bytes #[12] 309), (.bytes #[13] 312), (.bytes #[14] 315), (.bytes #[15] 318), (.bytes #[16] 321), (.bytes #[17] 324), (.bytes #[18] 327), (.bytes #[19] 330), (.bytes #[20] 333), (.bytes #[21] 336), (.bytes #[22] 339), (.bytes #[23] 342), (.bytes #[24] 345), (.bytes #[25] 348), (.bytes #[26] 351), (.bytes #[27] 354), (.bytes #[28] 357), (.bytes #[29] 360), (.bytes #[30] 363), (.bytes #[31] 366), (.bytes #[32] 369), (.bytes #[33] 372), (.bytes #[34] 375), (.bytes #[35] 378), (.bytes #[36] 381), (.bytes #[37] 384), (.bytes #[38] 387), (.bytes #[39] 390), (.bytes #[40] 393), (.bytes #[41] 396), (.bytes #[42] 399), (.bytes #[43] 402), (.bytes #[44] 405), (.bytes #[45] 408), (.bytes #[46] 411), (.bytes #[47] 414), (.bytes #[48] 417), (.bytes #[49] 420), (.bytes #[50] 423), (.bytes #[51] 426), (.bytes #[52] 429), (.bytes #[53] 432), (.bytes #[54] 435), (.bytes #[55] 438), (.bytes #[56] 441), (.bytes #[57] 444), (.bytes #[58] 447), (.bytes #[59] 450), (.bytes #[60] 453), (.bytes #[61] 456), (.bytes #[62] 459), (.bytes #[63] 462), (.bytes #[64] 465), (.bytes #[65] 468), (.bytes #[66] 471), (.bytes #[67] 474), (.bytes #[68] 477), (.bytes #[69] 480), (.bytes #[70] 483), (.bytes #[71] 486), (.bytes #[72] 489), (.bytes #[73] 492), (.bytes #[74] 495), (.bytes #[75] 498), (.bytes #[76] 501), (.bytes #[77] 504), (.bytes #[78] 507), (.bytes #[79] 510), (.bytes #[80] 513), (.bytes #[81] 516), (.bytes #[82] 519), (.bytes #[83] 522), (.bytes #[84] 525), (.bytes #[85] 528), (.bytes #[86] 531), (.bytes #[87] 534), (.bytes #[88] 537), (.bytes #[89] 540), (.bytes #[90] 543), (.bytes #[91] 546), (.bytes #[92] 549), (.bytes #[93] 552), (.bytes #[94] 555), (.bytes #[95] 558), (.bytes #[96] 561), (.bytes #[97] 564), (.bytes #[98] 567), (.bytes #[99] 570), (.bytes #[100] 573), (.bytes #[101] 576), (.bytes #[102] 579), (.bytes #[103] 582), (.bytes #[104] 585), (.bytes #[105] 588), (.bytes #[106] 591), (.bytes #[107] 594), (.bytes #[108] 597), (.bytes #[109] 600), (.bytes #[110] 603), (.bytes #[111] 606), (.bytes #[112] 609), (.bytes #[113] 612), (.bytes #[114] 615), (.bytes #[115] 618), (.bytes #[116] 621), (.bytes #[117] 624), (.bytes #[118] 627), (.bytes #[119] 630), (.bytes #[120] 633), (.bytes #[121] 636), (.bytes #[122] 639), (.bytes #[123] 642), (.bytes #[124] 645), (.bytes #[125] 648), (.bytes #[126] 651), (.bytes #[127] 654), (.bytes #[128] 657), (.bytes #[129] 660), (.bytes #[130] 663), (.bytes #[131] 666), (.bytes #[132] 669), (.bytes #[133] 672), (.bytes #[134] 675), (.bytes #[135] 678), (.bytes #[136] 681), (.bytes #[137] 684), (.bytes #[138] 687), (.bytes #[139] 690), (.bytes #[140] 693), (.bytes #[141] 696), (.bytes #[142] 699), (.bytes #[143] 702), (.bytes #[144] 705), (.bytes #[145] 708), (.bytes #[146] 711), (.bytes #[147] 714), (.bytes #[148] 717), (.bytes #[149] 720), (.bytes #[150] 723), (.bytes #[151] 726), (.bytes #[152] 729), (.bytes #[153] 732), (.bytes #[154] 735), (.bytes #[155] 738), (.bytes #[156] 741), (.bytes #[157] 744), (.bytes #[158] 747), (.bytes #[159] 750), (.bytes #[160] 753), (.bytes #[161] 756), (.bytes #[162] 759), (.bytes #[163] 762), (.bytes #[164] 765), (.bytes #[165] 768), (.bytes #[166] 771), (.bytes #[167] 774), (.bytes #[168] 777), (.bytes #[169] 780), (.bytes #[170] 783), (.bytes #[171] 786), (.bytes #[172] 789), (.bytes #[173] 792), (.bytes #[174] 795), (.bytes #[175] 798), (.bytes #[176] 801), (.bytes #[177] 804), (.bytes #[178] 807), (.bytes #[179] 810), (.bytes #[180] 813), (.bytes #[181] 816), (.bytes #[182] 819), (.bytes #[183] 822), (.bytes #[184] 825), (.bytes #[185] 828), (.bytes #[186] 831), (.bytes #[187] 834), (.bytes #[188] 837), (.bytes #[189] 840), (.bytes #[190] 843), (.bytes #[191] 846), (.bytes #[192] 849), (.bytes #[193] 852), (.bytes #[194] 855), (.bytes #[195] 858), (.bytes #[196] 861), (.bytes #[197] 864), (.bytes #[198] 867), (.bytes #[199] 870), (.bytes #[200] 873), (.bytes #[201] 876), (.bytes #[202] 879), (.bytes #[203] 882), (.bytes #[204] 885), (.bytes #[205] 888), (.bytes #[206] 891), (.bytes #[207] 894), (.bytes #[208] 897), (.bytes #[209] 900), (.bytes #[210] 903), (.bytes #[211] 906), (.bytes #[212] 909), (.bytes #[213] 912), (.bytes #[214] 915), (.bytes #[215] 918), (.bytes #[216] 921), (.bytes #[217] 924), (.bytes #[218] 927), (.bytes #[219] 930), (.bytes #[220] 933), (.bytes #[221] 936), (.bytes #[222] 939), (.bytes #[223] 942), (.bytes #[224] 945), (.bytes #[225] 948), (.bytes #[226] 951), (.bytes #[227] 954), (.bytes #[228] 957), (.bytes #[229] 960), (.bytes #[230] 963), (.bytes #[231] 966), (.bytes #[232] 969), (.bytes #[233] 972), (.bytes #[234] 975), (.bytes #[235] 978), (.bytes #[236] 981), (.bytes #[237] 984), (.bytes #[238] 987), (.bytes #[239] 990), (.bytes #[240] 993), (.bytes #[241] 996), (.bytes #[242] 999), (.bytes #[243] 1002), (.bytes #[244] 1005), (.bytes #[245] 1008), (.bytes #[246] 1011), (.bytes #[247] 1014), (.bytes #[248] 1017), (.bytes #[249] 1020), (.bytes #[250] 1023), (.bytes #[251] 1026), (.bytes #[252] 1029), (.bytes #[253] 1032), (.bytes #[254] 1035), (.bytes #[255] 1038)] 0, #[]⟩
noncomputable def o3_2 (P : Params) : Obj := ⟨(.type "dict"), none, .dict #[ent P "__name__" 165 (.str (Str.ofString "trie.utils.nodes") 1163), ent P "__doc__" 166 .none, ent P "__package__" 167 .none, ent P "__loader__" 168 (.builtin "__main__.__loader__#opaque"), ent P "__spec__" 169 .none, ent P "__annotations__" 170 (.ref 6), ent P "__builtins__" 171 (.ref 4), ent P "__file__" 173 (.str (Str.ofString "/claim/cut.py") 172), ent P "__cached__" 174 .none, ent P "RLPException" 208 (.ref 24), ent P "EncodingError" 236 (.ref 46), ent P "DecodingError" 264 (.ref 67), ent P "DecodingError_exceptions" 265 (.ref 67), ent P "ALL_BYTES" 1039 (.ref 1357), ent P "is_bytes" 1046 (.ref 1364), ent P "big_endian_to_int" 1053 (.ref 1371), ent P "int_to_big_endian" 1060 (.ref 1378), ent P "encode_raw" 1073 (.ref 1385), ent P "encode_raw_codec" 1074 (.ref 1385), ent P "decode_raw" 1087 (.ref 1392), ent P "LONG_LENGTH" 1091 (.int (.ofNat 18446744073709551616) 1090), ent P "length_prefix" 1100 (.ref 1399), ent P "SHORT_STRING" 1104 (.int (.ofNat 184) 1103), ent P "consume_length_prefix" 1116 (.ref 1406), ent P "consume_payload" 1138 (.ref 1413), ent P "consume_item" 1150 (.ref 1420), ent P "decode" 1162 (.ref 1428)] 27, #[]⟩
noncomputable def o12_1 (_ : Params) : Obj := ⟨.none, none, .fields #[(.int (.ofNat 2) 0), (.int (.ofNat 0) 0), (.ref 20), (.int (.ofNat 4) 0), (.int (.ofNat 0) 0), (.ref 34), (.int (.ofNat 9) 0), (.int (.ofNat 0) 0), (.ref 55), (.int (.ofNat 17) 0), (.int (.ofNat 0) 0), (.ref 1363), (.int (.ofNat 19) 0), (.int (.ofNat 0) 0), (.ref 1370), (.int (.ofNat 21) 0), (.int (.ofNat 0) 0), (.ref 1377), (.int (.ofNat 24) 0), (.int (.ofNat 0) 0), (.ref 1384), (.int (.ofNat 42) 0), (.int (.ofNat 0) 0), (.ref 1391), (.int (.ofNat 52) 0), (.int (.ofNat 0) 0), (.ref 1398), (.int (.ofNat 61) 0), (.int (.ofNat 0) 0), (.ref 1405), (.int (.ofNat 89) 0), (.int (.ofNat 0) 0), (.ref 1412), (.int (.ofNat 111) 0), (.int (.ofNat 0) 0), (.ref 1419), (.int (.ofNat 114) 0), (.int (.ofNat 0) 0), (.ref 1427)], #[]⟩
noncomputable def o1358 (_ : Params) : Obj := ⟨(.type "tuple"), none, .seq #[] 0, #[]⟩
noncomputable def o1359 (_ : Params) : Obj := ⟨.none, none, .fields #[], #[]⟩
noncomputable def o1360 (_ : Params) : Obj := ⟨(.type "tuple"), none, .seq #[(.str (Str.ofString "value") 1043)] 0, #[]⟩
noncomputable def o1361 (_ : Params) : Obj := ⟨(.type "tuple"), none, .seq #[] 0, #[]⟩
noncomputable def o1362 (_ : Params) : Obj := ⟨.none, none, .func { name := (Str.ofString "is_bytes"), qualname := (Str.ofString "is_bytes"), params := pOf fn7, body := .stmts (bOf fn7), scope := scOf fn7, globals := 0, closure := [], defaults := .none, kwdefaults := .none, doc := .none, pyModule := .none, annotations := none, code := .none, closureTuple := .none, builtins := 0 }, #[]⟩
noncomputable def o1363 (_ : Params) : Obj := ⟨(.type "code"), none, .fields #[(.str (Str.ofString "is_bytes") 1040), (.str (Str.ofString "is_bytes") 1041), (.str (Str.ofString "/claim/cut.py") 1042), (.int (.ofNat 17) 0), (.int (.ofNat 1) 0), (.int (.ofNat 0) 0), (.int (.ofNat 0) 0), (.int (.ofNat 3) 0), (.ref 1358), (.bool true), (.int (.ofNat 181) 0), (.ref 1359), .none, (.ref 1360), (.ref 1361), (.ref 1362), (.int (.ofNat 1044) 0), (.int (.ofNat 17) 0), (.str (Str.ofString "/claim/cut.py") 1045)], #[]⟩
noncomputable def o1364 (_ : Params) : Obj := ⟨(.type "function"), none, .func { name := (Str.ofString "is_bytes"), qualname := (Str.ofString "is_bytes"), params := pOf fn7, body := .stmts (bOf fn7), scope := scOf fn7, globals := 3, closure := [], defaults := .none, kwdefaults := .none, doc := .none, pyModule := (.str (Str.ofString "rlp.utils") 266), annotations := none, code := (.ref 1363), closureTuple := .none, builtins := 0 }, #[]⟩
noncomputable def o1365 (_ : Params) : Obj := ⟨(.type "tuple"), none, .seq #[] 0, #[]⟩
noncomputable def o1366 (_ : Params) : Obj := ⟨.none, none, .fields #[], #[]⟩
noncomputable def o1367 (_ : Params) : Obj := ⟨(.type "tuple"), none, .seq #[(.str (Str.ofString "value") 1050)] 0, #[]⟩
noncomputable def o1368 (_ : Params) : Obj := ⟨(.type "tuple"), none, .seq #[] 0, #[]⟩
noncomputable def o1369 (_ : Params) : Obj := ⟨.none, none, .func { name := (Str.ofString "big_endian_to_int"), qualname := (Str.ofString "big_endian_to_int"), params := pOf fn8, body := .stmts (bOf fn8), scope := scOf fn8, globals := 0, closure := [], defaults := .none, kwdefaults := .none, doc := .none, pyModule := .none, annotations := none, code := .none, closureTuple := .none, builtins := 0 }, #[]⟩
noncomputable def o1370 (_ : Params) : Obj := ⟨(.type "code"), none, .fields #[(.str (Str.ofString "big_endian_to_int") 1047), (.str (Str.ofString "big_endian_to_int") 1048), (.str (Str.ofString "/claim/cut.py") 1049), (.int (.ofNat 19) 0), (.int (.ofNat 1) 0), (.int (.ofNat 0) 0), (.int (.ofNat 0) 0), (.int (.ofNat 3) 0), (.ref 1365), (.bool true), (.int (.ofNat 181) 0), (.ref 1366), .none, (.ref 1367), (.ref 1368), (.ref 1369), (.int (.ofNat 1051) 0), (.int (.ofNat 19) 0), (.str (Str.ofString "/claim/cut.py") 1052)], #[]⟩
noncomputable def o1371 (_ : Params) : Obj := ⟨(.type "function"), none, .func { name := (Str.ofString "big_endian_to_int"), qualname := (Str.ofString "big_endian_to_int"), params := pOf fn8, body := .stmts (bOf fn8), scope := scOf fn8, globals := 3, closure := [], defaults := .none, kwdefaults := .none, doc := .none, pyModule := (.str (Str.ofString "rlp.utils") 266), annotations := none, code := (.ref 1370), closureTuple := .none, builtins := 0 }, #[]⟩
noncomputable def o1372 (_ : Params) : Obj := ⟨(.type "tuple"), none, .seq #[] 0, #[]⟩
noncomputable def o1373 (_ : Params) : Obj := ⟨.none, none, .fields #[], #[]⟩
noncomputable def o1374 (_ : Params) : Obj := ⟨(.type "tuple"), none, .seq #[(.str (Str.ofString "value") 1057)] 0, #[]⟩
noncomputable def o1375 (_ : Params) : Obj := ⟨(.type "tuple"), none, .seq #[] 0, #[]⟩
noncomputable def o1376 (_ : Params) : Obj := ⟨.none, none, .func { name := (Str.ofString "int_to_big_endian"), qualname := (Str.ofString "int_to_big_endian"), params := pOf fn9, body := .stmts (bOf fn9), scope := scOf fn9, globals := 0, closure := [], defaults := .none, kwdefaults := .none, doc := .none, pyModule := .none, annotations := none, code := .none, closureTuple := .none, builtins := 0 }, #[]⟩
noncomputable def o1377 (_ : Params) : Obj := ⟨(.type "code"), none, .fields #[(.str (Str.ofString "int_to_big_endian") 1054), (.str (Str.ofString "int_to_big_endian") 1055), (.str (Str.ofString "/claim/cut.py") 1056), (.int (.ofNat 21) 0), (.int (.ofNat 1) 0), (.int (.ofNat 0) 0), (.int (.ofNat 0) 0), (.int (.ofNat 3) 0), (.ref 1372), (.bool true), (.int (.ofNat 181) 0), (.ref 1373), .none, (.ref 1374), (.ref 1375), (.ref 1376), (.int (.ofNat 1058) 0), (.int (.ofNat 21) 0), (.str (Str.ofString "/claim/cut.py") 1059)], #[]⟩
noncomputable def o1378 (_ : Params) : Obj := ⟨(.type "function"), none, .func { name := (Str.ofString "int_to_big_endian"), qualname := (Str.ofString "int_to_big_endian"), params := pOf fn9, body := .stmts (bOf fn9), scope := scOf fn9, globals := 3, closure := [], defaults := .none, kwdefaults := .none, doc := .none, pyModule := (.str (Str.ofString "rlp.utils") 266), annotations := none, code := (.ref 1377), closureTuple := .none, builtins := 0 }, #[]⟩
noncomputable def o1379 (_ : Params) : Obj := ⟨(.type "tuple"), none, .seq #[] 0, #[]⟩
noncomputable def o1380 (_ : Params) : Obj := ⟨.none, none, .fields #[], #[]⟩
noncomputable def o1381 (_ : Params) : Obj := ⟨(.type "tuple"), none, .seq #[(.str (Str.ofString "item") 1066), (.str (Str.ofString "payload") 1067), (.str (Str.ofString "prefix_offset") 1068), (.str (Str.ofString "msg") 1069), (.str (Str.ofString "prefix") 1070)] 0, #[]⟩
noncomputable def o1382 (_ : Params) : Obj := ⟨(.type "tuple"), none, .seq #[] 0, #[]⟩
noncomputable def o1383 (_ : Params) : Obj := ⟨.none, none, .func { name := (Str.ofString "encode_raw"), qualname := (Str.ofString "encode_raw"), params := pOf fn11, body := .stmts (bOf fn11), scope := scOf fn11, globals := 0, closure := [], defaults := .none, kwdefaults := .none, doc := .none, pyModule := .none, annotations := none, code := .none, closureTuple := .none, builtins := 0 }, #[]⟩
noncomputable def o1384 (_ : Params) : Obj := ⟨(.type "code"), none, .fields #[(.str (Str.ofString "encode_raw") 1063), (.str (Str.ofString "encode_raw") 1064), (.str (Str.ofString "/claim/cut.py") 1065), (.int (.ofNat 24) 0), (.int (.ofNat 1) 0), (.int (.ofNat 0) 0), (.int (.ofNat 0) 0), (.int (.ofNat 3) 0), (.ref 1379), (.bool true), (.int (.ofNat 181) 0), (.ref 1380), .none, (.ref 1381), (.ref 1382), (.ref 1383), (.int (.ofNat 1071) 0), (.int (.ofNat 24) 0), (.str (Str.ofString "/claim/cut.py") 1072)], #[]⟩
noncomputable def o1385 (_ : Params) : Obj := ⟨(.type "function"), none, .func { name := (Str.ofString "encode_raw"), qualname := (Str.ofString "encode_raw"), params := pOf fn11, body := .stmts (bOf fn11), scope := scOf fn11, globals := 3, closure := [], defaults := .none, kwdefaults := .none, doc := .none, pyModule := (.str (Str.ofString "rlp.codec") 1061), annotations := none, code := (.ref 1384), closureTuple := .none, builtins := 0 }, #[]⟩
noncomputable def o1386 (_ : Params) : Obj := ⟨(.type "tuple"), none, .seq #[] 0, #[]⟩
noncomputable def o1387 (_ : Params) : Obj := ⟨.none, none, .fields #[], #[]⟩
noncomputable def o1388 (_ : Params) : Obj := ⟨(.type "tuple"), none, .seq #[(.str (Str.ofString "item") 1078), (.str (Str.ofString "strict") 1079), (.str (Str.ofString "_") 1080), (.str (Str.ofString "result") 1081), (.str (Str.ofString "per_item_rlp") 1082), (.str (Str.ofString "end") 1083), (.str (Str.ofString "msg") 1084)] 0, #[]⟩
noncomputable def o1389 (_ : Params) : Obj := ⟨(.type "tuple"), none, .seq #[] 0, #[]⟩
noncomputable def o1390 (_ : Params) : Obj := ⟨.none, none, .func { name := (Str.ofString "decode_raw"), qualname := (Str.ofString "decode_raw"), params := pOf fn13, body := .stmts (bOf fn13), scope := scOf fn13, globals := 0, closure := [], defaults := .none, kwdefaults := .none, doc := .none, pyModule := .none, annotations := none, code := .none, closureTuple := .none, builtins := 0 }, #[]⟩
noncomputable def o1391 (_ : Params) : Obj := ⟨(.type "code"), none, .fields #[(.str (Str.ofString "decode_raw") 1075), (.str (Str.ofString "decode_raw") 1076), (.str (Str.ofString "/claim/cut.py") 1077), (.int (.ofNat 42) 0), (.int (.ofNat 3) 0), (.int (.ofNat 0) 0), (.int (.ofNat 0) 0), (.int (.ofNat 3) 0), (.ref 1386), (.bool true), (.int (.ofNat 181) 0), (.ref 1387), .none, (.ref 1388), (.ref 1389), (.ref 1390), (.int (.ofNat 1085) 0), (.int (.ofNat 42) 0), (.str (Str.ofString "/claim/cut.py") 1086)], #[]⟩
noncomputable def o1392 (_ : Params) : Obj := ⟨(.type "function"), none, .func { name := (Str.ofString "decode_raw"), qualname := (Str.ofString "decode_raw"), params := pOf fn13, body := .stmts (bOf fn13), scope := scOf fn13, globals := 3, closure := [], defaults := .none, kwdefaults := .none, doc := .none, pyModule := (.str (Str.ofString "rlp.codec") 1061), annotations := none, code := (.ref 1391), closureTuple := .none, builtins := 0 }, #[]⟩
noncomputable def o1393 (_ : Params) : Obj := ⟨(.type "tuple"), none, .seq #[] 0, #[]⟩
noncomputable def o1394 (_ : Params) : Obj := ⟨.none, none, .fields #[], #[]⟩
noncomputable def o1395 (_ : Params) : Obj := ⟨(.type "tuple"), none, .seq #[(.str (Str.ofString "length") 1095), (.str (Str.ofString "offset") 1096), (.str (Str.ofString "length_string") 1097)] 0, #[]⟩
noncomputable def o1396 (_ : Params) : Obj := ⟨(.type "tuple"), none, .seq #[] 0, #[]⟩
noncomputable def o1397 (_ : Params) : Obj := ⟨.none, none, .func { name := (Str.ofString "length_prefix"), qualname := (Str.ofString "length_prefix"), params := pOf fn15, body := .stmts (bOf fn15), scope := scOf fn15, globals := 0, closure := [], defaults := .none, kwdefaults := .none, doc := .none, pyModule := .none, annotations := none, code := .none, closureTuple := .none, builtins := 0 }, #[]⟩
noncomputable def o1398 (_ : Params) : Obj := ⟨(.type "code"), none, .fields #[(.str (Str.ofString "length_prefix") 1092), (.str (Str.ofString "length_prefix") 1093), (.str (Str.ofString "/claim/cut.py") 1094), (.int (.ofNat 52) 0), (.int (.ofNat 2) 0), (.int (.ofNat 0) 0), (.int (.ofNat 0) 0), (.int (.ofNat 3) 0), (.ref 1393), (.bool true), (.int (.ofNat 181) 0), (.ref 1394), .none, (.ref 1395), (.ref 1396), (.ref 1397), (.int (.ofNat 1098) 0), (.int (.ofNat 52) 0), (.str (Str.ofString "/claim/cut.py") 1099)], #[]⟩
noncomputable def o1399 (_ : Params) : Obj := ⟨(.type "function"), none, .func { name := (Str.ofString "length_prefix"), qualname := (Str.ofString "length_prefix"), params := pOf fn15, body := .stmts (bOf fn15), scope := scOf fn15, globals := 3, closure := [], defaults := .none, kwdefaults := .none, doc := .none, pyModule := (.str (Str.ofString "rlp.codec") 1061), annotations := none, code := (.ref 1398), closureTuple := .none, builtins := 0 }, #[]⟩
noncomputable def o1400 (_ : Params) : Obj := ⟨(.type "tuple"), none, .seq #[] 0, #[]⟩
noncomputable def o1401 (_ : Params) : Obj := ⟨.none, none, .fields #[], #[]⟩
noncomputable def o1402 (_ : Params) : Obj := ⟨(.type "tuple"), none, .seq #[(.str (Str.ofString "rlp") 1108), (.str (Str.ofString "start") 1109), (.str (Str.ofString "b0") 1110), (.str (Str.ofString "ll") 1111), (.str (Str.ofString "len_prefix") 1112), (.str (Str.ofString "l") 1113)] 0, #[]⟩
noncomputable def o1403 (_ : Params) : Obj := ⟨(.type "tuple"), none, .seq #[] 0, #[]⟩
noncomputable def o1404 (_ : Params) : Obj := ⟨.none, none, .func { name := (Str.ofString "consume_length_prefix"), qualname := (Str.ofString "consume_length_prefix"), params := pOf fn17, body := .stmts (bOf fn17), scope := scOf fn17, globals := 0, closure := [], defaults := .none, kwdefaults := .none, doc := .none, pyModule := .none, annotations := none, code := .none, closureTuple := .none, builtins := 0 }, #[]⟩
noncomputable def o1405 (_ : Params) : Obj := ⟨(.type "code"), none, .fields #[(.str (Str.ofString "consume_length_prefix") 1105), (.str (Str.ofString "consume_length_prefix") 1106), (.str (Str.ofString "/claim/cut.py") 1107), (.int (.ofNat 61) 0), (.int (.ofNat 2) 0), (.int (.ofNat 0) 0), (.int (.ofNat 0) 0), (.int (.ofNat 3) 0), (.ref 1400), (.bool true), (.int (.ofNat 181) 0), (.ref 1401), .none, (.ref 1402), (.ref 1403), (.ref 1404), (.int (.ofNat 1114) 0), (.int (.ofNat 61) 0), (.str (Str.ofString "/claim/cut.py") 1115)], #[]⟩
noncomputable def o1406 (_ : Params) : Obj := ⟨(.type "function"), none, .func { name := (Str.ofString "consume_length_prefix"), qualname := (Str.ofString "consume_length_prefix"), params := pOf fn17, body := .stmts (bOf fn17), scope := scOf fn17, globals := 3, closure := [], defaults := .none, kwdefaults := .none, doc := .none, pyModule := (.str (Str.ofString "rlp.codec") 1061), annotations := none, code := (.ref 1405), closureTuple := .none, builtins := 0 }, #[]⟩
noncomputable def o1407 (_ : Params) : Obj := ⟨(.type "tuple"), none, .seq #[] 0, #[]⟩
noncomputable def o1408 (_ : Params) : Obj := ⟨.none, none, .fields #[], #[]⟩
noncomputable def o1409 (_ : Params) : Obj := ⟨(.type "tuple"), none, .seq #[(.str (Str.ofString "rlp") 1120), (.str (Str.ofString "prefix") 1121), (.str (Str.ofString "start") 1122), (.str (Str.ofString "type_") 1123), (.str (Str.ofString "length") 1124), (.str (Str.ofString "item") 1125), (.str (Str.ofString "items") 1126), (.str (Str.ofString "per_item_rlp") 1127), (.str (Str.ofString "list_rlp") 1128), (.str (Str.ofString "next_item_start") 1129), (.str (Str.ofString "end") 1130), (.str (Str.ofString "p") 1131), (.str (Str.ofString "t") 1132), (.str (Str.ofString "l") 1133), (.str (Str.ofString "s") 1134), (.str (Str.ofString "item_rlp") 1135)] 0, #[]⟩
noncomputable def o1410 (_ : Params) : Obj := ⟨(.type "tuple"), none, .seq #[] 0, #[]⟩
noncomputable def o1411 (_ : Params) : Obj := ⟨.none, none, .func { name := (Str.ofString "consume_payload"), qualname := (Str.ofString "consume_payload"), params := pOf fn18, body := .stmts (bOf fn18), scope := scOf fn18, globals := 0, closure := [], defaults := .none, kwdefaults := .none, doc := .none, pyModule := .none, annotations := none, code := .none, closureTuple := .none, builtins := 0 }, #[]⟩
noncomputable def o1412 (_ : Params) : Obj := ⟨(.type "code"), none, .fields #[(.str (Str.ofString "consume_payload") 1117), (.str (Str.ofString "consume_payload") 1118), (.str (Str.ofString "/claim/cut.py") 1119), (.int (.ofNat 89) 0), (.int (.ofNat 5) 0), (.int (.ofNat 0) 0), (.int (.ofNat 0) 0), (.int (.ofNat 3) 0), (.ref 1407), (.bool true), (.int (.ofNat 181) 0), (.ref 1408), .none, (.ref 1409), (.ref 1410), (.ref 1411), (.int (.ofNat 1136) 0), (.int (.ofNat 89) 0), (.str (Str.ofString "/claim/cut.py") 1137)], #[]⟩
noncomputable def o1413 (_ : Params) : Obj := ⟨(.type "function"), none, .func { name := (Str.ofString "consume_payload"), qualname := (Str.ofString "consume_payload"), params := pOf fn18, body := .stmts (bOf fn18), scope := scOf fn18, globals := 3, closure := [], defaults := .none, kwdefaults := .none, doc := .none, pyModule := (.str (Str.ofString "rlp.codec") 1061), annotations := none, code := (.ref 1412), closureTuple := .none, builtins := 0 }, #[]⟩
noncomputable def o1414 (_ : Params) : Obj := ⟨(.type "tuple"), none, .seq #[] 0, #[]⟩
noncomputable def o1415 (_ : Params) : Obj := ⟨.none, none, .fields #[], #[]⟩
noncomputable def o1416 (_ : Params) : Obj := ⟨(.type "tuple"), none, .seq #[(.str (Str.ofString "rlp") 1142), (.str (Str.ofString "start") 1143), (.str (Str.ofString "p") 1144), (.str (Str.ofString "t") 1145), (.str (Str.ofString "l") 1146), (.str (Str.ofString "s") 1147)] 0, #[]⟩
noncomputable def o1417 (_ : Params) : Obj := ⟨(.type "tuple"), none, .seq #[] 0, #[]⟩
noncomputable def o1418 (_ : Params) : Obj := ⟨.none, none, .func { name := (Str.ofString "consume_item"), qualname := (Str.ofString "consume_item"), params := pOf fn19, body := .stmts (bOf fn19), scope := scOf fn19, globals := 0, closure := [], defaults := .none, kwdefaults := .none, doc := .none, pyModule := .none, annotations := none, code := .none, closureTuple := .none, builtins := 0 }, #[]⟩
noncomputable def o1419 (_ : Params) : Obj := ⟨(.type "code"), none, .fields #[(.str (Str.ofString "consume_item") 1139), (.str (Str.ofString "consume_item") 1140), (.str (Str.ofString "/claim/cut.py") 1141), (.int (.ofNat 111) 0), (.int (.ofNat 2) 0), (.int (.ofNat 0) 0), (.int (.ofNat 0) 0), (.int (.ofNat 3) 0), (.ref 1414), (.bool true), (.int (.ofNat 181) 0), (.ref 1415), .none, (.ref 1416), (.ref 1417), (.ref 1418), (.int (.ofNat 1148) 0), (.int (.ofNat 111) 0), (.str (Str.ofString "/claim/cut.py") 1149)], #[]⟩
noncomputable def o1420 (_ : Params) : Obj := ⟨(.type "function"), none, .func { name := (Str.ofString "consume_item"), qualname := (Str.ofString "consume_item"), params := pOf fn19, body := .stmts (bOf fn19), scope := scOf fn19, globals := 3, closure := [], defaults := .none, kwdefaults := .none, doc := .none, pyModule := (.str (Str.ofString "rlp.codec") 1061), annotations := none, code := (.ref 1419), closureTuple := .none, builtins := 0 }, #[]⟩
noncomputable def o1421 (_ : Params) : Obj := ⟨(.type "tuple"), none, .seq #[.none, (.bool true), (.bool false)] 0, #[]⟩
noncomputable def o1422 (_ : Params) : Obj := ⟨(.type "tuple"), none, .seq #[] 0, #[]⟩
noncomputable def o1423 (_ : Params) : Obj := ⟨.none, none, .fields #[], #[]⟩
noncomputable def o1424 (_ : Params) : Obj := ⟨(.type "tuple"), none, .seq #[(.str (Str.ofString "rlp") 1154), (.str (Str.ofString "sedes") 1155), (.str (Str.ofString "strict") 1156), (.str (Str.ofString "recursive_cache") 1157), (.str (Str.ofString "item") 1158), (.str (Str.ofString "per_item_rlp") 1159)] 0, #[]⟩
noncomputable def o1425 (_ : Params) : Obj := ⟨(.type "tuple"), none, .seq #[] 0, #[]⟩
noncomputable def o1426 (_ : Params) : Obj := ⟨.none, none, .func { name := (Str.ofString "decode"), qualname := (Str.ofString "decode"), params := pOf fn20, body := .stmts (bOf fn20), scope := scOf fn20, globals := 0, closure := [], defaults := .none, kwdefaults := .none, doc := .none, pyModule := .none, annotations := none, code := .none, closureTuple := .none, builtins := 0 }, #[]⟩
noncomputable def o1427 (_ : Params) : Obj := ⟨(.type "code"), none, .fields #[(.str (Str.ofString "decode") 1151), (.str (Str.ofString "decode") 1152), (.str (Str.ofString "/claim/cut.py") 1153), (.int (.ofNat 114) 0), (.int (.ofNat 4) 0), (.int (.ofNat 0) 0), (.int (.ofNat 0) 0), (.int (.ofNat 3) 0), (.ref 1422), (.bool true), (.int (.ofNat 181) 0), (.ref 1423), .none, (.ref 1424), (.ref 1425), (.ref 1426), (.int (.ofNat 1160) 0), (.int (.ofNat 114) 0), (.str (Str.ofString "/claim/cut.py") 1161)], #[]⟩
noncomputable def o1428 (_ : Params) : Obj := ⟨(.type "function"), none, .func { name := (Str.ofString "decode"), qualname := (Str.ofString "decode"), params := pOf fn20, body := .stmts (bOf fn20), scope := scOf fn20, globals := 3, closure := [], defaults := (.ref 1421), kwdefaults := .none, doc := .none, pyModule := (.str (Str.ofString "rlp.codec") 1061), annotations := none, code := (.ref 1427), closureTuple := .none, builtins := 0 }, #[]⟩
noncomputable def o2_1 (P : Params) : Obj := ⟨.none, none, .dict #[ent P "type.__subclasses__.Exception.0" 205 (.int (.ofNat 24) 0), ent P "type.__subclasses__.Exception.n" 206 (.int (.ofNat 2) 0), ent P "type.__subclasses__.Exception.1" 1181 (.int (.ofNat 1438) 0)] 3, #[]⟩
noncomputable def o3_3 (P : Params) : Obj := ⟨(.type "dict"), none, .dict #[ent P "__name__" 165 (.str (Str.ofString "law_jm0023_01") 1229), ent P "__doc__" 166 .none, ent P "__package__" 167 .none, ent P "__loader__" 168 (.builtin "__main__.__loader__#opaque"), ent P "__spec__" 169 .none, ent P "__annotations__" 170 (.ref 6), ent P "__builtins__" 171 (.ref 4), ent P "__file__" 173 (.str (Str.ofString "/claim/cut.py") 172), ent P "__cached__" 174 .none, ent P "RLPException" 208 (.ref 24), ent P "EncodingError" 236 (.ref 46), ent P "DecodingError" 264 (.ref 1438), ent P "DecodingError_exceptions" 265 (.ref 67), ent P "ALL_BYTES" 1039 (.ref 1357), ent P "is_bytes" 1046 (.ref 1364), ent P "big_endian_to_int" 1053 (.ref 1371), ent P "int_to_big_endian" 1060 (.ref 1378), ent P "encode_raw" 1073 (.ref 1455), ent P "encode_raw_codec" 1074 (.ref 1385), ent P "decode_raw" 1087 (.ref 1392), ent P "LONG_LENGTH" 1091 (.int (.ofNat 18446744073709551616) 1090), ent P "length_prefix" 1100 (.ref 1399), ent P "SHORT_STRING" 1104 (.int (.ofNat 184) 1103), ent P "consume_length_prefix" 1116 (.ref 1406), ent P "consume_payload" 1138 (.ref 1413), ent P "consume_item" 1150 (.ref 1420), ent P "decode" 1162 (.ref 1428), ent P "DecodingError_nodes" 1185 (.ref 1438), ent P "_rlp_prefix" 1194 (.ref 1448), ent P "encode_raw_nodes" 1204 (.ref 1455), ent P "_rlp_item" 1219 (.ref 1462), ent P "rlp_decode" 1228 (.ref 1469), ent P "_law_at" 1238 (.ref 1476)] 33, #[]⟩
noncomputable def o12_2 (_ : Params) : Obj := ⟨.none, none, .fields #[(.int (.ofNat 2) 0), (.int (.ofNat 0) 0), (.ref 20), (.int (.ofNat 4) 0), (.int (.ofNat 0) 0), (.ref 34), (.int (.ofNat 9) 0), (.int (.ofNat 0) 0), (.ref 55), (.int (.ofNat 17) 0), (.int (.ofNat 0) 0), (.ref 1363), (.int (.ofNat 19) 0), (.int (.ofNat 0) 0), (.ref 1370), (.int (.ofNat 21) 0), (.int (.ofNat 0) 0), (.ref 1377), (.int (.ofNat 24) 0), (.int (.ofNat 0) 0), (.ref 1384), (.int (.ofNat 42) 0), (.int (.ofNat 0) 0), (.ref 1391), (.int (.ofNat 52) 0), (.int (.ofNat 0) 0), (.ref 1398), (.int (.ofNat 61) 0), (.int (.ofNat 0) 0), (.ref 1405), (.int (.ofNat 89) 0), (.int (.ofNat 0) 0), (.ref 1412), (.int (.ofNat 111) 0), (.int (.ofNat 0) 0), (.ref 1419), (.int (.ofNat 114) 0), (.int (.ofNat 0) 0), (.ref 1427), (.int (.ofNat 123) 0), (.int (.ofNat 0) 0), (.ref 1434), (.int (.ofNat 126) 0), (.int (.ofNat 0) 0), (.ref 1447), (.int (.ofNat 131) 0), (.int (.ofNat 0) 0), (.ref 1454), (.int (.ofNat 141) 0), (.int (.ofNat 0) 0), (.ref 1461), (.int (.ofNat 171) 0), (.int (.ofNat 0) 0), (.ref 1468), (.int (.ofNat 177) 0), (.int (.ofNat 0) 0), (.ref 1475)], #[]⟩
noncomputable def o1429 (_ : Params) : Obj := ⟨(.type "tuple"), none, .seq #[(.type "Exception")] 0, #[]⟩
noncomputable def o1430 (_ : Params) : Obj := ⟨(.type "builtin_function_or_method"), none, .fields #[(.builtin "type.__prepare__"), (.type "type")], #[]⟩
noncomputable def o1431 (P : Params) : Obj := ⟨(.type "dict"), none, .dict #[ent P "__module__" 1172 (.str (Str.ofString "trie.utils.nodes") 1163), ent P "__qualname__" 1174 (.str (Str.ofString "DecodingError") 1173), ent P "__firstlineno__" 1176 (.int (.ofNat 123) 1175), ent P "__static_attributes__" 1177 (.ref 1436)] 4, #[]⟩
noncomputable def o1432 (_ : Params) : Obj := ⟨(.type "tuple"), none, .seq #[] 0, #[]⟩
noncomputable def o1433 (_ : Params) : Obj := ⟨.none, none, .fields #[], #[]⟩
noncomputable def o1434 (_ : Params) : Obj := ⟨(.type "code"), none, .fields #[(.str (Str.ofString "DecodingError") 1167), (.str (Str.ofString "DecodingError") 1168), (.str (Str.ofString "/claim/cut.py") 1169), (.int (.ofNat 123) 0), (.int (.ofNat 0) 0), (.int (.ofNat 0) 0), (.int (.ofNat 0) 0), (.int (.ofNat 0) 0), (.ref 1432), (.bool false), (.int (.ofNat 181) 0), (.ref 1433), .none, .none, .none, .none, (.int (.ofNat 1170) 0), (.int (.ofNat 123) 0), (.str (Str.ofString "/claim/cut.py") 1171)], #[]⟩
noncomputable def o1435 (_ : Params) : Obj := ⟨(.type "frame"), none, .plain, #[some (.ref 1434), some (.ref 3), some (.ref 1431), none, some (.str (Str.ofString "trie.utils.nodes") 1163), none, some (.ref 0)]⟩
noncomputable def o1436 (_ : Params) : Obj := ⟨(.type "tuple"), none, .seq #[] 0, #[]⟩
noncomputable def o1437 (P : Params) : Obj := ⟨(.type "dict"), none, .dict #[ent P "__module__" 1172 (.str (Str.ofString "trie.utils.nodes") 1163), ent P "__firstlineno__" 1176 (.int (.ofNat 123) 1175), ent P "__static_attributes__" 1177 (.ref 1436), ent P "__weakref__" 1179 (.ref 1439), ent P "__doc__" 1180 .none] 3, #[]⟩
noncomputable def o1438 (_ : Params) : Obj := ⟨(.type "type"), none, .cls { name := (Str.ofString "DecodingError"), bases := [(.type "Exception")], mro := [(.ref 1438), (.type "Exception"), (.type "BaseException"), (.type "object")], ns := 1437, qualname := (Str.ofString "DecodingError"), hasDict := true, slotNames := [], subclasses := [], abstract := false, collection := none, hasDel := false }, #[some (.ref 1429), none, some (.str (Str.ofString "DecodingError") 1165), some (.str (Str.ofString "DecodingError") 1173), some (.builtin "Exception.__new__"), some (.bool true)]⟩
noncomputable def o1439 (_ : Params) : Obj := ⟨(.type "getset_descriptor"), none, .fields #[(.str (Str.ofString "__weakref__") 1178), (.ref 1438), (.builtin "ExceptionGroup.__weakref__"), .none], #[]⟩
noncomputable def o1440 (_ : Params) : Obj := ⟨(.type "super"), none, .fields #[(.ref 1438), (.ref 1438), (.ref 1438)], #[]⟩
noncomputable def o1441 (_ : Params) : Obj := ⟨(.type "builtin_function_or_method"), none, .fields #[(.builtin "object.__init_subclass__"), (.ref 1438)], #[]⟩
noncomputable def o1442 (_ : Params) : Obj := ⟨(.type "tuple"), none, .seq #[] 0, #[]⟩
noncomputable def o1443 (_ : Params) : Obj := ⟨.none, none, .fields #[], #[]⟩
noncomputable def o1444 (_ : Params) : Obj := ⟨(.type "tuple"), none, .seq #[(.str (Str.ofString "length") 1189), (.str (Str.ofString "offset") 1190), (.str (Str.ofString "digits") 1191)] 0, #[]⟩
noncomputable def o1445 (_ : Params) : Obj := ⟨(.type "tuple"), none, .seq #[] 0, #[]⟩
noncomputable def o1446 (_ : Params) : Obj := ⟨.none, none, .func { name := (Str.ofString "_rlp_prefix"), qualname := (Str.ofString "_rlp_prefix"), params := pOf fn24, body := .stmts (bOf fn24), scope := scOf fn24, globals := 0, closure := [], defaults := .none, kwdefaults := .none, doc := .none, pyModule := .none, annotations := none, code := .none, closureTuple := .none, builtins := 0 }, #[]⟩
noncomputable def o1447 (_ : Params) : Obj := ⟨(.type "code"), none, .fields #[(.str (Str.ofString "_rlp_prefix") 1186), (.str (Str.ofString "_rlp_prefix") 1187), (.str (Str.ofString "/claim/cut.py") 1188), (.int (.ofNat 126) 0), (.int (.ofNat 2) 0), (.int (.ofNat 0) 0), (.int (.ofNat 0) 0), (.int (.ofNat 3) 0), (.ref 1442), (.bool true), (.int (.ofNat 181) 0), (.ref 1443), .none, (.ref 1444), (.ref 1445), (.ref 1446), (.int (.ofNat 1192) 0), (.int (.ofNat 126) 0), (.str (Str.ofString "/claim/cut.py") 1193)], #[]⟩
noncomputable def o1448 (_ : Params) : Obj := ⟨(.type "function"), none, .func { name := (Str.ofString "_rlp_prefix"), qualname := (Str.ofString "_rlp_prefix"), params := pOf fn24, body := .stmts (bOf fn24), scope := scOf fn24, globals := 3, closure := [], defaults := .none, kwdefaults := .none, doc := .none, pyModule := (.str (Str.ofString "trie.utils.nodes") 1163), annotations := none, code := (.ref 1447), closureTuple := .none, builtins := 0 }, #[]⟩
noncomputable def o1449 (_ : Params) : Obj := ⟨(.type "tuple"), none, .seq #[] 0, #[]⟩
noncomputable def o1450 (_ : Params) : Obj := ⟨.none, none, .fields #[], #[]⟩
noncomputable def o1451 (_ : Params) : Obj := ⟨(.type "tuple"), none, .seq #[(.str (Str.ofString "item") 1198), (.str (Str.ofString "payload") 1199), (.str (Str.ofString "part") 1200)] 0, #[]⟩
noncomputable def o1452 (_ : Params) : Obj := ⟨(.type "tuple"), none, .seq #[] 0, #[]⟩
noncomputable def o1453 (_ : Params) : Obj := ⟨.none, none, .func { name := (Str.ofString "encode_raw"), qualname := (Str.ofString "encode_raw"), params := pOf fn25, body := .stmts (bOf fn25), scope := scOf fn25, globals := 0, closure := [], defaults := .none, kwdefaults := .none, doc := .none, pyModule := .none, annotations := none, code := .none, closureTuple := .none, builtins := 0 }, #[]⟩
noncomputable def o1454 (_ : Params) : Obj := ⟨(.type "code"), none, .fields #[(.str (Str.ofString "encode_raw") 1195), (.str (Str.ofString "encode_raw") 1196), (.str (Str.ofString "/claim/cut.py") 1197), (.int (.ofNat 131) 0), (.int (.ofNat 1) 0), (.int (.ofNat 0) 0), (.int (.ofNat 0) 0), (.int (.ofNat 3) 0), (.ref 1449), (.bool true), (.int (.ofNat 181) 0), (.ref 1450), .none, (.ref 1451), (.ref 1452), (.ref 1453), (.int (.ofNat 1201) 0), (.int (.ofNat 131) 0), (.str (Str.ofString "/claim/cut.py") 1202)], #[]⟩
noncomputable def o1455 (_ : Params) : Obj := ⟨(.type "function"), none, .func { name := (Str.ofString "encode_raw"), qualname := (Str.ofString "encode_raw"), params := pOf fn25, body := .stmts (bOf fn25), scope := scOf fn25, globals := 3, closure := [], defaults := .none, kwdefaults := .none, doc := .none, pyModule := (.str (Str.ofString "trie.utils.nodes") 1163), annotations := none, code := (.ref 1454), closureTuple := .none, builtins := 0 }, #[]⟩
noncomputable def o1456 (_ : Params) : Obj := ⟨(.type "tuple"), none, .seq #[] 0, #[]⟩
noncomputable def o1457 (_ : Params) : Obj := ⟨.none, none, .fields #[], #[]⟩
noncomputable def o1458 (_ : Params) : Obj := ⟨(.type "tuple"), none, .seq #[(.str (Str.ofString "octets") 1208), (.str (Str.ofString "start") 1209), (.str (Str.ofString "first") 1210), (.str (Str.ofString "offset") 1211), (.str (Str.ofString "size") 1212), (.str (Str.ofString "digits") 1213), (.str (Str.ofString "end") 1214), (.str (Str.ofString "item") 1215), (.str (Str.ofString "items") 1216)] 0, #[]⟩
noncomputable def o1459 (_ : Params) : Obj := ⟨(.type "tuple"), none, .seq #[] 0, #[]⟩
noncomputable def o1460 (_ : Params) : Obj := ⟨.none, none, .func { name := (Str.ofString "_rlp_item"), qualname := (Str.ofString "_rlp_item"), params := pOf fn27, body := .stmts (bOf fn27), scope := scOf fn27, globals := 0, closure := [], defaults := .none, kwdefaults := .none, doc := .none, pyModule := .none, annotations := none, code := .none, closureTuple := .none, builtins := 0 }, #[]⟩
noncomputable def o1461 (_ : Params) : Obj := ⟨(.type "code"), none, .fields #[(.str (Str.ofString "_rlp_item") 1205), (.str (Str.ofString "_rlp_item") 1206), (.str (Str.ofString "/claim/cut.py") 1207), (.int (.ofNat 141) 0), (.int (.ofNat 2) 0), (.int (.ofNat 0) 0), (.int (.ofNat 0) 0), (.int (.ofNat 3) 0), (.ref 1456), (.bool true), (.int (.ofNat 181) 0), (.ref 1457), .none, (.ref 1458), (.ref 1459), (.ref 1460), (.int (.ofNat 1217) 0), (.int (.ofNat 141) 0), (.str (Str.ofString "/claim/cut.py") 1218)], #[]⟩
noncomputable def o1462 (_ : Params) : Obj := ⟨(.type "function"), none, .func { name := (Str.ofString "_rlp_item"), qualname := (Str.ofString "_rlp_item"), params := pOf fn27, body := .stmts (bOf fn27), scope := scOf fn27, globals := 3, closure := [], defaults := .none, kwdefaults := .none, doc := .none, pyModule := (.str (Str.ofString "trie.utils.nodes") 1163), annotations := none, code := (.ref 1461), closureTuple := .none, builtins := 0 }, #[]⟩
noncomputable def o1463 (_ : Params) : Obj := ⟨(.type "tuple"), none, .seq #[] 0, #[]⟩
noncomputable def o1464 (_ : Params) : Obj := ⟨.none, none, .fields #[], #[]⟩
noncomputable def o1465 (_ : Params) : Obj := ⟨(.type "tuple"), none, .seq #[(.str (Str.ofString "octets") 1223), (.str (Str.ofString "item") 1224), (.str (Str.ofString "end") 1225)] 0, #[]⟩
noncomputable def o1466 (_ : Params) : Obj := ⟨(.type "tuple"), none, .seq #[] 0, #[]⟩
noncomputable def o1467 (_ : Params) : Obj := ⟨.none, none, .func { name := (Str.ofString "rlp_decode"), qualname := (Str.ofString "rlp_decode"), params := pOf fn28, body := .stmts (bOf fn28), scope := scOf fn28, globals := 0, closure := [], defaults := .none, kwdefaults := .none, doc := .none, pyModule := .none, annotations := none, code := .none, closureTuple := .none, builtins := 0 }, #[]⟩
noncomputable def o1468 (_ : Params) : Obj := ⟨(.type "code"), none, .fields #[(.str (Str.ofString "rlp_decode") 1220), (.str (Str.ofString "rlp_decode") 1221), (.str (Str.ofString "/claim/cut.py") 1222), (.int (.ofNat 171) 0), (.int (.ofNat 1) 0), (.int (.ofNat 0) 0), (.int (.ofNat 0) 0), (.int (.ofNat 3) 0), (.ref 1463), (.bool true), (.int (.ofNat 181) 0), (.ref 1464), .none, (.ref 1465), (.ref 1466), (.ref 1467), (.int (.ofNat 1226) 0), (.int (.ofNat 171) 0), (.str (Str.ofString "/claim/cut.py") 1227)], #[]⟩
noncomputable def o1469 (_ : Params) : Obj := ⟨(.type "function"), none, .func { name := (Str.ofString "rlp_decode"), qualname := (Str.ofString "rlp_decode"), params := pOf fn28, body := .stmts (bOf fn28), scope := scOf fn28, globals := 3, closure := [], defaults := .none, kwdefaults := .none, doc := .none, pyModule := (.str (Str.ofString "trie.utils.nodes") 1163), annotations := none, code := (.ref 1468), closureTuple := .none, builtins := 0 }, #[]⟩
noncomputable def o1470 (_ : Params) : Obj := ⟨(.type "tuple"), none, .seq #[] 0, #[]⟩
noncomputable def o1471 (_ : Params) : Obj := ⟨.none, none, .fields #[], #[]⟩
noncomputable def o1472 (_ : Params) : Obj := ⟨(.type "tuple"), none, .seq #[(.str (Str.ofString "script") 1234), (.str (Str.ofString "k") 1235)] 0, #[]⟩
noncomputable def o1473 (_ : Params) : Obj := ⟨(.type "tuple"), none, .seq #[] 0, #[]⟩
noncomputable def o1474 (_ : Params) : Obj := ⟨.none, none, .func { name := (Str.ofString "_law_at"), qualname := (Str.ofString "_law_at"), params := pOf fn30, body := .stmts (bOf fn30), scope := scOf fn30, globals := 0, closure := [], defaults := .none, kwdefaults := .none, doc := .none, pyModule := .none, annotations := none, code := .none, closureTuple := .none, builtins := 0 }, #[]⟩
noncomputable def o1475 (_ : Params) : Obj := ⟨(.type "code"), none, .fields #[(.str (Str.ofString "_law_at") 1231), (.str (Str.ofString "_law_at") 1232), (.str (Str.ofString "/claim/cut.py") 1233), (.int (.ofNat 177) 0), (.int (.ofNat 2) 0), (.int (.ofNat 0) 0), (.int (.ofNat 0) 0), (.int (.ofNat 3) 0), (.ref 1470), (.bool true), (.int (.ofNat 181) 0), (.ref 1471), .none, (.ref 1472), (.ref 1473), (.ref 1474), (.int (.ofNat 1236) 0), (.int (.ofNat 177) 0), (.str (Str.ofString "/claim/cut.py") 1237)], #[]⟩
noncomputable def o1476 (_ : Params) : Obj := ⟨(.type "function"), none, .func { name := (Str.ofString "_law_at"), qualname := (Str.ofString "_law_at"), params := pOf fn30, body := .stmts (bOf fn30), scope := scOf fn30, globals := 3, closure := [], defaults := .none, kwdefaults := .none, doc := .none, pyModule := (.str (Str.ofString "law_jm0023_01") 1229), annotations := none, code := (.ref 1475), closureTuple := .none, builtins := 0 }, #[]⟩
noncomputable def o3_4 (P : Params) : Obj := ⟨(.type "dict"), none, .dict #[ent P "__name__" 165 (.str (Str.ofString "law_jm0023_01") 1229), ent P "__doc__" 166 .none, ent P "__package__" 167 .none, ent P "__loader__" 168 (.builtin "__main__.__loader__#opaque"), ent P "__spec__" 169 .none, ent P "__annotations__" 170 (.ref 6), ent P "__builtins__" 171 (.ref 4), ent P "__file__" 173 (.str (Str.ofString "/claim/cut.py") 172), ent P "__cached__" 174 .none, ent P "RLPException" 208 (.ref 24), ent P "EncodingError" 236 (.ref 46), ent P "DecodingError" 264 (.ref 1438), ent P "DecodingError_exceptions" 265 (.ref 67), ent P "ALL_BYTES" 1039 (.ref 1357), ent P "is_bytes" 1046 (.ref 1364), ent P "big_endian_to_int" 1053 (.ref 1371), ent P "int_to_big_endian" 1060 (.ref 1378), ent P "encode_raw" 1073 (.ref 1455), ent P "encode_raw_codec" 1074 (.ref 1385), ent P "decode_raw" 1087 (.ref 1392), ent P "LONG_LENGTH" 1091 (.int (.ofNat 18446744073709551616) 1090), ent P "length_prefix" 1100 (.ref 1399), ent P "SHORT_STRING" 1104 (.int (.ofNat 184) 1103), ent P "consume_length_prefix" 1116 (.ref 1406), ent P "consume_payload" 1138 (.ref 1413), ent P "consume_item" 1150 (.ref 1420), ent P "decode" 1162 (.ref 1428), ent P "DecodingError_nodes" 1185 (.ref 1438), ent P "_rlp_prefix" 1194 (.ref 1448), ent P "encode_raw_nodes" 1204 (.ref 1455), ent P "_rlp_item" 1219 (.ref 1462), ent P "rlp_decode" 1228 (.ref 1469), ent P "_law_at" 1238 (.ref 1476), ent P "_law_row" 1244 (.ref 1481), ent P "_law_item" 1250 (.ref 1486), ent P "_law_rlp" 1257 (.ref 1493), ent P "_law_node" 1264 (.ref 1500), ent P "_law_headed" 1270 (.ref 1505), ent P "law" 1276 (.ref 1510)] 39, #[]⟩
noncomputable def o12_3 (_ : Params) : Obj := ⟨.none, none, .fields #[(.int (.ofNat 2) 0), (.int (.ofNat 0) 0), (.ref 20), (.int (.ofNat 4) 0), (.int (.ofNat 0) 0), (.ref 34), (.int (.ofNat 9) 0), (.int (.ofNat 0) 0), (.ref 55), (.int (.ofNat 17) 0), (.int (.ofNat 0) 0), (.ref 1363), (.int (.ofNat 19) 0), (.int (.ofNat 0) 0), (.ref 1370), (.int (.ofNat 21) 0), (.int (.ofNat 0) 0), (.ref 1377), (.int (.ofNat 24) 0), (.int (.ofNat 0) 0), (.ref 1384), (.int (.ofNat 42) 0), (.int (.ofNat 0) 0), (.ref 1391), (.int (.ofNat 52) 0), (.int (.ofNat 0) 0), (.ref 1398), (.int (.ofNat 61) 0), (.int (.ofNat 0) 0), (.ref 1405), (.int (.ofNat 89) 0), (.int (.ofNat 0) 0), (.ref 1412), (.int (.ofNat 111) 0), (.int (.ofNat 0) 0), (.ref 1419), (.int (.ofNat 114) 0), (.int (.ofNat 0) 0), (.ref 1427), (.int (.ofNat 123) 0), (.int (.ofNat 0) 0), (.ref 1434), (.int (.ofNat 126) 0), (.int (.ofNat 0) 0), (.ref 1447), (.int (.ofNat 131) 0), (.int (.ofNat 0) 0), (.ref 1454), (.int (.ofNat 141) 0), (.int (.ofNat 0) 0), (.ref 1461), (.int (.ofNat 171) 0), (.int (.ofNat 0) 0), (.ref 1468), (.int (.ofNat 177) 0), (.int (.ofNat 0) 0), (.ref 1475), (.int (.ofNat 179) 0), (.int (.ofNat 0) 0), (.ref 1480), (.int (.ofNat 181) 0), (.int (.ofNat 0) 0), (.ref 1485), (.int (.ofNat 186) 0), (.int (.ofNat 0) 0), (.ref 1492), (.int (.ofNat 191) 0), (.int (.ofNat 0) 0), (.ref 1499), (.int (.ofNat 196) 0), (.int (.ofNat 0) 0), (.ref 1504), (.int (.ofNat 203) 0), (.int (.ofNat 0) 0), (.ref 1509)], #[]⟩
noncomputable def o1477 (_ : Params) : Obj := ⟨(.type "tuple"), none, .seq #[] 0, #[]⟩
noncomputable def o1478 (_ : Params) : Obj := ⟨.none, none, .fields #[], #[]⟩
noncomputable def o1479 (_ : Params) : Obj := ⟨.none, none, .func { name := (Str.ofString "_law_row"), qualname := (Str.ofString "_law_row"), params := pOf fn31, body := .stmts (bOf fn31), scope := scOf fn31, globals := 0, closure := [], defaults := .none, kwdefaults := .none, doc := .none, pyModule := .none, annotations := none, code := .none, closureTuple := .none, builtins := 0 }, #[]⟩
noncomputable def o1480 (_ : Params) : Obj := ⟨(.type "code"), none, .fields #[(.str (Str.ofString "_law_row") 1239), (.str (Str.ofString "_law_row") 1240), (.str (Str.ofString "/claim/cut.py") 1241), (.int (.ofNat 179) 0), (.int (.ofNat 3) 0), (.int (.ofNat 0) 0), (.int (.ofNat 0) 0), (.int (.ofNat 3) 0), (.ref 1477), (.bool true), (.int (.ofNat 181) 0), (.ref 1478), .none, .none, .none, (.ref 1479), (.int (.ofNat 1242) 0), (.int (.ofNat 179) 0), (.str (Str.ofString "/claim/cut.py") 1243)], #[]⟩
noncomputable def o1481 (_ : Params) : Obj := ⟨(.type "function"), none, .func { name := (Str.ofString "_law_row"), qualname := (Str.ofString "_law_row"), params := pOf fn31, body := .stmts (bOf fn31), scope := scOf fn31, globals := 3, closure := [], defaults := .none, kwdefaults := .none, doc := .none, pyModule := (.str (Str.ofString "law_jm0023_01") 1229), annotations := none, code := (.ref 1480), closureTuple := .none, builtins := 0 }, #[]⟩
noncomputable def o1482 (_ : Params) : Obj := ⟨(.type "tuple"), none, .seq #[] 0, #[]⟩
noncomputable def o1483 (_ : Params) : Obj := ⟨.none, none, .fields #[], #[]⟩
noncomputable def o1484 (_ : Params) : Obj := ⟨.none, none, .func { name := (Str.ofString "_law_item"), qualname := (Str.ofString "_law_item"), params := pOf fn32, body := .stmts (bOf fn32), scope := scOf fn32, globals := 0, closure := [], defaults := .none, kwdefaults := .none, doc := .none, pyModule := .none, annotations := none, code := .none, closureTuple := .none, builtins := 0 }, #[]⟩
noncomputable def o1485 (_ : Params) : Obj := ⟨(.type "code"), none, .fields #[(.str (Str.ofString "_law_item") 1245), (.str (Str.ofString "_law_item") 1246), (.str (Str.ofString "/claim/cut.py") 1247), (.int (.ofNat 181) 0), (.int (.ofNat 3) 0), (.int (.ofNat 0) 0), (.int (.ofNat 0) 0), (.int (.ofNat 3) 0), (.ref 1482), (.bool true), (.int (.ofNat 181) 0), (.ref 1483), .none, .none, .none, (.ref 1484), (.int (.ofNat 1248) 0), (.int (.ofNat 181) 0), (.str (Str.ofString "/claim/cut.py") 1249)], #[]⟩
noncomputable def o1486 (_ : Params) : Obj := ⟨(.type "function"), none, .func { name := (Str.ofString "_law_item"), qualname := (Str.ofString "_law_item"), params := pOf fn32, body := .stmts (bOf fn32), scope := scOf fn32, globals := 3, closure := [], defaults := .none, kwdefaults := .none, doc := .none, pyModule := (.str (Str.ofString "law_jm0023_01") 1229), annotations := none, code := (.ref 1485), closureTuple := .none, builtins := 0 }, #[]⟩
noncomputable def o1487 (_ : Params) : Obj := ⟨(.type "tuple"), none, .seq #[] 0, #[]⟩
noncomputable def o1488 (_ : Params) : Obj := ⟨.none, none, .fields #[], #[]⟩
noncomputable def o1489 (_ : Params) : Obj := ⟨(.type "tuple"), none, .seq #[(.str (Str.ofString "octets") 1254)] 0, #[]⟩
noncomputable def o1490 (_ : Params) : Obj := ⟨(.type "tuple"), none, .seq #[] 0, #[]⟩
noncomputable def o1491 (_ : Params) : Obj := ⟨.none, none, .func { name := (Str.ofString "_law_rlp"), qualname := (Str.ofString "_law_rlp"), params := pOf fn33, body := .stmts (bOf fn33), scope := scOf fn33, globals := 0, closure := [], defaults := .none, kwdefaults := .none, doc := .none, pyModule := .none, annotations := none, code := .none, closureTuple := .none, builtins := 0 }, #[]⟩
noncomputable def o1492 (_ : Params) : Obj := ⟨(.type "code"), none, .fields #[(.str (Str.ofString "_law_rlp") 1251), (.str (Str.ofString "_law_rlp") 1252), (.str (Str.ofString "/claim/cut.py") 1253), (.int (.ofNat 186) 0), (.int (.ofNat 1) 0), (.int (.ofNat 0) 0), (.int (.ofNat 0) 0), (.int (.ofNat 3) 0), (.ref 1487), (.bool true), (.int (.ofNat 181) 0), (.ref 1488), .none, (.ref 1489), (.ref 1490), (.ref 1491), (.int (.ofNat 1255) 0), (.int (.ofNat 186) 0), (.str (Str.ofString "/claim/cut.py") 1256)], #[]⟩
noncomputable def o1493 (_ : Params) : Obj := ⟨(.type "function"), none, .func { name := (Str.ofString "_law_rlp"), qualname := (Str.ofString "_law_rlp"), params := pOf fn33, body := .stmts (bOf fn33), scope := scOf fn33, globals := 3, closure := [], defaults := .none, kwdefaults := .none, doc := .none, pyModule := (.str (Str.ofString "law_jm0023_01") 1229), annotations := none, code := (.ref 1492), closureTuple := .none, builtins := 0 }, #[]⟩
noncomputable def o1494 (_ : Params) : Obj := ⟨(.type "tuple"), none, .seq #[] 0, #[]⟩
noncomputable def o1495 (_ : Params) : Obj := ⟨.none, none, .fields #[], #[]⟩
noncomputable def o1496 (_ : Params) : Obj := ⟨(.type "tuple"), none, .seq #[(.str (Str.ofString "octets") 1261)] 0, #[]⟩
noncomputable def o1497 (_ : Params) : Obj := ⟨(.type "tuple"), none, .seq #[] 0, #[]⟩
noncomputable def o1498 (_ : Params) : Obj := ⟨.none, none, .func { name := (Str.ofString "_law_node"), qualname := (Str.ofString "_law_node"), params := pOf fn34, body := .stmts (bOf fn34), scope := scOf fn34, globals := 0, closure := [], defaults := .none, kwdefaults := .none, doc := .none, pyModule := .none, annotations := none, code := .none, closureTuple := .none, builtins := 0 }, #[]⟩
noncomputable def o1499 (_ : Params) : Obj := ⟨(.type "code"), none, .fields #[(.str (Str.ofString "_law_node") 1258), (.str (Str.ofString "_law_node") 1259), (.str (Str.ofString "/claim/cut.py") 1260), (.int (.ofNat 191) 0), (.int (.ofNat 1) 0), (.int (.ofNat 0) 0), (.int (.ofNat 0) 0), (.int (.ofNat 3) 0), (.ref 1494), (.bool true), (.int (.ofNat 181) 0), (.ref 1495), .none, (.ref 1496), (.ref 1497), (.ref 1498), (.int (.ofNat 1262) 0), (.int (.ofNat 191) 0), (.str (Str.ofString "/claim/cut.py") 1263)], #[]⟩
noncomputable def o1500 (_ : Params) : Obj := ⟨(.type "function"), none, .func { name := (Str.ofString "_law_node"), qualname := (Str.ofString "_law_node"), params := pOf fn34, body := .stmts (bOf fn34), scope := scOf fn34, globals := 3, closure := [], defaults := .none, kwdefaults := .none, doc := .none, pyModule := (.str (Str.ofString "law_jm0023_01") 1229), annotations := none, code := (.ref 1499), closureTuple := .none, builtins := 0 }, #[]⟩
noncomputable def o1501 (_ : Params) : Obj := ⟨(.type "tuple"), none, .seq #[] 0, #[]⟩
noncomputable def o1502 (_ : Params) : Obj := ⟨.none, none, .fields #[], #[]⟩
noncomputable def o1503 (_ : Params) : Obj := ⟨.none, none, .func { name := (Str.ofString "_law_headed"), qualname := (Str.ofString "_law_headed"), params := pOf fn35, body := .stmts (bOf fn35), scope := scOf fn35, globals := 0, closure := [], defaults := .none, kwdefaults := .none, doc := .none, pyModule := .none, annotations := none, code := .none, closureTuple := .none, builtins := 0 }, #[]⟩
noncomputable def o1504 (_ : Params) : Obj := ⟨(.type "code"), none, .fields #[(.str (Str.ofString "_law_headed") 1265), (.str (Str.ofString "_law_headed") 1266), (.str (Str.ofString "/claim/cut.py") 1267), (.int (.ofNat 196) 0), (.int (.ofNat 1) 0), (.int (.ofNat 0) 0), (.int (.ofNat 0) 0), (.int (.ofNat 3) 0), (.ref 1501), (.bool true), (.int (.ofNat 181) 0), (.ref 1502), .none, .none, .none, (.ref 1503), (.int (.ofNat 1268) 0), (.int (.ofNat 196) 0), (.str (Str.ofString "/claim/cut.py") 1269)], #[]⟩
noncomputable def o1505 (_ : Params) : Obj := ⟨(.type "function"), none, .func { name := (Str.ofString "_law_headed"), qualname := (Str.ofString "_law_headed"), params := pOf fn35, body := .stmts (bOf fn35), scope := scOf fn35, globals := 3, closure := [], defaults := .none, kwdefaults := .none, doc := .none, pyModule := (.str (Str.ofString "law_jm0023_01") 1229), annotations := none, code := (.ref 1504), closureTuple := .none, builtins := 0 }, #[]⟩
noncomputable def o1506 (_ : Params) : Obj := ⟨(.type "tuple"), none, .seq #[] 0, #[]⟩
noncomputable def o1507 (_ : Params) : Obj := ⟨.none, none, .fields #[], #[]⟩
noncomputable def o1508 (_ : Params) : Obj := ⟨.none, none, .func { name := (Str.ofString "law"), qualname := (Str.ofString "law"), params := pOf fn36, body := .stmts (bOf fn36), scope := scOf fn36, globals := 0, closure := [], defaults := .none, kwdefaults := .none, doc := .none, pyModule := .none, annotations := none, code := .none, closureTuple := .none, builtins := 0 }, #[]⟩
noncomputable def o1509 (_ : Params) : Obj := ⟨(.type "code"), none, .fields #[(.str (Str.ofString "law") 1271), (.str (Str.ofString "law") 1272), (.str (Str.ofString "/claim/cut.py") 1273), (.int (.ofNat 203) 0), (.int (.ofNat 1) 0), (.int (.ofNat 0) 0), (.int (.ofNat 0) 0), (.int (.ofNat 3) 0), (.ref 1506), (.bool true), (.int (.ofNat 181) 0), (.ref 1507), .none, .none, .none, (.ref 1508), (.int (.ofNat 1274) 0), (.int (.ofNat 203) 0), (.str (Str.ofString "/claim/cut.py") 1275)], #[]⟩
noncomputable def o1510 (_ : Params) : Obj := ⟨(.type "function"), none, .func { name := (Str.ofString "law"), qualname := (Str.ofString "law"), params := pOf fn36, body := .stmts (bOf fn36), scope := scOf fn36, globals := 3, closure := [], defaults := .none, kwdefaults := .none, doc := .none, pyModule := (.str (Str.ofString "law_jm0023_01") 1229), annotations := none, code := (.ref 1509), closureTuple := .none, builtins := 0 }, #[]⟩
noncomputable def ov_p5 (P : Params) : List (Nat × Obj) := [(3, o3 P), (12, o12 P), (0, boot_o_0 P), (2, o2 P), (4, boot_o_4 P), (13, o13 P), (1, boot_o_1 P), (5, boot_o_5 P), (6, boot_o_6 P), (7, boot_o_7 P), (8, boot_o_8 P), (9, boot_o_9 P), (10, boot_o_10 P), (11, o11 P), (14, o14 P), (15, o15 P), (16, o16 P), (17, o17 P), (18, o18 P), (19, o19 P), (20, o20 P), (21, o21 P), (22, o22 P), (23, o23 P), (24, o24 P), (25, o25 P), (26, o26 P), (27, o27 P), (28, o28 P), (29, o29 P), (30, o30 P), (31, o31 P), (32, o32 P), (33, o33 P), (34, o34 P), (35, o35 P), (36, o36 P), (37, o37 P), (38, o38 P), (39, o39 P), (40, o40 P), (41, o41 P), (42, o42 P), (43, o43 P), (44, o44 P), (45, o45 P), (46, o46 P), (47, o47 P), (48, o48 P), (49, o49 P), (50, o50 P), (51, o51 P), (52, o52 P), (53, o53 P), (54, o54 P), (55, o55 P), (56, o56 P), (57, o57 P), (58, o58 P), (59, o59 P), (60, o60 P), (61, o61 P), (62, o62 P), (63, o63 P), (64, o64 P), (65, o65 P), (66, o66 P), (67, o67 P), (68, o68 P), (69, o69 P)]
noncomputable def ov_p6 (P : Params) : List (Nat × Obj) := [(3, o3_1 P), (12, o12 P), (0, boot_o_0 P), (2, o2 P), (4, boot_o_4 P), (13, o13 P), (1, boot_o_1 P), (5, boot_o_5 P), (6, boot_o_6 P), (7, boot_o_7 P), (8, boot_o_8 P), (9, boot_o_9 P), (10, boot_o_10 P), (11, o11 P), (14, o14 P), (15, o15 P), (16, o16 P), (17, o17 P), (18, o18 P), (19, o19 P), (20, o20 P), (21, o21 P), (22, o22 P), (23, o23 P), (24, o24 P), (25, o25 P), (26, o26 P), (27, o27 P), (28, o28 P), (29, o29 P), (30, o30 P), (31, o31 P), (32, o32 P), (33, o33 P), (34, o34 P), (35, o35 P), (36, o36 P), (37, o37 P), (38, o38 P), (39, o39 P), (40, o40 P), (41, o41 P), (42, o42 P), (43, o43 P), (44, o44 P), (45, o45 P), (46, o46 P), (47, o47 P), (48, o48 P), (49, o49 P), (50, o50 P), (51, o51 P), (52, o52 P), (53, o53 P), (54, o54 P), (55, o55 P), (56, o56 P), (57, o57 P), (58, o58 P), (59, o59 P), (60, o60 P), (61, o61 P), (62, o62 P), (63, o63 P), (64, o64 P), (65, o65 P), (66, o66 P), (67, o67 P), (68, o68 P), (69, o69 P), (70, o70 P), (71, o71 P), (72, o72 P), (73, o73 P), (1354, o1354 P), (1355, o1355 P), (1356, o1356 P), (1357, o1357 P)]
noncomputable def ov_p21 (P : Params) : List (Nat × Obj) := [(3, o3_2 P), (12, o12_1 P), (0, boot_o_0 P), (2, o2 P), (4, boot_o_4 P), (13, o13 P), (1, boot_o_1 P), (5, boot_o_5 P), (6, boot_o_6 P), (7, boot_o_7 P), (8, boot_o_8 P), (9, boot_o_9 P), (10, boot_o_10 P), (11, o11 P), (14, o14 P), (15, o15 P), (16, o16 P), (17, o17 P), (18, o18 P), (19, o19 P), (20, o20 P), (21, o21 P), (22, o22 P), (23, o23 P), (24, o24 P), (25, o25 P), (26, o26 P), (27, o27 P), (28, o28 P), (29, o29 P), (30, o30 P), (31, o31 P), (32, o32 P), (33, o33 P), (34, o34 P), (35, o35 P), (36, o36 P), (37, o37 P), (38, o38 P), (39, o39 P), (40, o40 P), (41, o41 P), (42, o42 P), (43, o43 P), (44, o44 P), (45, o45 P), (46, o46 P), (47, o47 P), (48, o48 P), (49, o49 P), (50, o50 P), (51, o51 P), (52, o52 P), (53, o53 P), (54, o54 P), (55, o55 P), (56, o56 P), (57, o57 P), (58, o58 P), (59, o59 P), (60, o60 P), (61, o61 P), (62, o62 P), (63, o63 P), (64, o64 P), (65, o65 P), (66, o66 P), (67, o67 P), (68, o68 P), (69, o69 P), (70, o70 P), (71, o71 P), (72, o72 P), (73, o73 P), (1354, o1354 P), (1355, o1355 P), (1356, o1356 P), (1357, o1357 P), (1358, o1358 P), (1359, o1359 P), (1360, o1360 P), (1361, o1361 P), (1362, o1362 P), (1363, o1363 P), (1364, o1364 P), (1365, o1365 P), (1366, o1366 P), (1367, o1367 P), (1368, o1368 P), (1369, o1369 P), (1370, o1370 P), (1371, o1371 P), (1372, o1372 P), (1373, o1373 P), (1374, o1374 P), (1375, o1375 P), (1376, o1376 P), (1377, o1377 P), (1378, o1378 P), (1379, o1379 P), (1380, o1380 P), (1381, o1381 P), (1382, o1382 P), (1383, o1383 P), (1384, o1384 P), (1385, o1385 P), (1386, o1386 P), (1387, o1387 P), (1388, o1388 P), (1389, o1389 P), (1390, o1390 P), (1391, o1391 P), (1392, o1392 P), (1393, o1393 P), (1394, o1394 P), (1395, o1395 P), (1396, o1396 P), (1397, o1397 P), (1398, o1398 P), (1399, o1399 P), (1400, o1400 P), (1401, o1401 P), (1402, o1402 P), (1403, o1403 P), (1404, o1404 P), (1405, o1405 P), (1406, o1406 P), (1407, o1407 P), (1408, o1408 P), (1409, o1409 P), (1410, o1410 P), (1411, o1411 P), (1412, o1412 P), (1413, o1413 P), (1414, o1414 P), (1415, o1415 P), (1416, o1416 P), (1417, o1417 P), (1418, o1418 P), (1419, o1419 P), (1420, o1420 P), (1421, o1421 P), (1422, o1422 P), (1423, o1423 P), (1424, o1424 P), (1425, o1425 P), (1426, o1426 P), (1427, o1427 P), (1428, o1428 P)]
noncomputable def ov_p30 (P : Params) : List (Nat × Obj) := [(3, o3_3 P), (12, o12_2 P), (0, boot_o_0 P), (2, o2_1 P), (4, boot_o_4 P), (13, o13 P), (1, boot_o_1 P), (5, boot_o_5 P), (6, boot_o_6 P), (7, boot_o_7 P), (8, boot_o_8 P), (9, boot_o_9 P), (10, boot_o_10 P), (11, o11 P), (14, o14 P), (15, o15 P), (16, o16 P), (17, o17 P), (18, o18 P), (19, o19 P), (20, o20 P), (21, o21 P), (22, o22 P), (23, o23 P), (24, o24 P), (25, o25 P), (26, o26 P), (27, o27 P), (28, o28 P), (29, o29 P), (30, o30 P), (31, o31 P), (32, o32 P), (33, o33 P), (34, o34 P), (35, o35 P), (36, o36 P), (37, o37 P), (38, o38 P), (39, o39 P), (40, o40 P), (41, o41 P), (42, o42 P), (43, o43 P), (44, o44 P), (45, o45 P), (46, o46 P), (47, o47 P), (48, o48 P), (49, o49 P), (50, o50 P), (51, o51 P), (52, o52 P), (53, o53 P), (54, o54 P), (55, o55 P), (56, o56 P), (57, o57 P), (58, o58 P), (59, o59 P), (60, o60 P), (61, o61 P), (62, o62 P), (63, o63 P), (64, o64 P), (65, o65 P), (66, o66 P), (67, o67 P), (68, o68 P), (69, o69 P), (70, o70 P), (71, o71 P), (72, o72 P), (73, o73 P), (1354, o1354 P), (1355, o1355 P), (1356, o1356 P), (1357, o1357 P), (1358, o1358 P), (1359, o1359 P), (1360, o1360 P), (1361, o1361 P), (1362, o1362 P), (1363, o1363 P), (1364, o1364 P), (1365, o1365 P), (1366, o1366 P), (1367, o1367 P), (1368, o1368 P), (1369, o1369 P), (1370, o1370 P), (1371, o1371 P), (1372, o1372 P), (1373, o1373 P), (1374, o1374 P), (1375, o1375 P), (1376, o1376 P), (1377, o1377 P), (1378, o1378 P), (1379, o1379 P), (1380, o1380 P), (1381, o1381 P), (1382, o1382 P), (1383, o1383 P), (1384, o1384 P), (1385, o1385 P), (1386, o1386 P), (1387, o1387 P), (1388, o1388 P), (1389, o1389 P), (1390, o1390 P), (1391, o1391 P), (1392, o1392 P), (1393, o1393 P), (1394, o1394 P), (1395, o1395 P), (1396, o1396 P), (1397, o1397 P), (1398, o1398 P), (1399, o1399 P), (1400, o1400 P), (1401, o1401 P), (1402, o1402 P), (1403, o1403 P), (1404, o1404 P), (1405, o1405 P), (1406, o1406 P), (1407, o1407 P), (1408, o1408 P), (1409, o1409 P), (1410, o1410 P), (1411, o1411 P), (1412, o1412 P), (1413, o1413 P), (1414, o1414 P), (1415, o1415 P), (1416, o1416 P), (1417, o1417 P), (1418, o1418 P), (1419, o1419 P), (1420, o1420 P), (1421, o1421 P), (1422, o1422 P), (1423, o1423 P), (1424, o1424 P), (1425, o1425 P), (1426, o1426 P), (1427, o1427 P), (1428, o1428 P), (1429, o1429 P), (1430, o1430 P), (1431, o1431 P), (1432, o1432 P), (1433, o1433 P), (1434, o1434 P), (1435, o1435 P), (1436, o1436 P), (1437, o1437 P), (1438, o1438 P), (1439, o1439 P), (1440, o1440 P), (1441, o1441 P), (1442, o1442 P), (1443, o1443 P), (1444, o1444 P), (1445, o1445 P), (1446, o1446 P), (1447, o1447 P), (1448, o1448 P), (1449, o1449 P), (1450, o1450 P), (1451, o1451 P), (1452, o1452 P), (1453, o1453 P), (1454, o1454 P), (1455, o1455 P), (1456, o1456 P), (1457, o1457 P), (1458, o1458 P), (1459, o1459 P), (1460, o1460 P), (1461, o1461 P), (1462, o1462 P), (1463, o1463 P), (1464, o1464 P), (1465, o1465 P), (1466, o1466 P), (1467, o1467 P), (1468, o1468 P), (1469, o1469 P), (1470, o1470 P), (1471, o1471 P), (1472, o1472 P), (1473, o1473 P), (1474, o1474 P), (1475, o1475 P), (1476, o1476 P)]
noncomputable def ov_fin (P : Params) : List (Nat × Obj) := [(3, o3_4 P), (12, o12_3 P), (0, boot_o_0 P), (2, o2_1 P), (4, boot_o_4 P), (13, o13 P), (1, boot_o_1 P), (5, boot_o_5 P), (6, boot_o_6 P), (7, boot_o_7 P), (8, boot_o_8 P), (9, boot_o_9 P), (10, boot_o_10 P), (11, o11 P), (14, o14 P), (15, o15 P), (16, o16 P), (17, o17 P), (18, o18 P), (19, o19 P), (20, o20 P), (21, o21 P), (22, o22 P), (23, o23 P), (24, o24 P), (25, o25 P), (26, o26 P), (27, o27 P), (28, o28 P), (29, o29 P), (30, o30 P), (31, o31 P), (32, o32 P), (33, o33 P), (34, o34 P), (35, o35 P), (36, o36 P), (37, o37 P), (38, o38 P), (39, o39 P), (40, o40 P), (41, o41 P), (42, o42 P), (43, o43 P), (44, o44 P), (45, o45 P), (46, o46 P), (47, o47 P), (48, o48 P), (49, o49 P), (50, o50 P), (51, o51 P), (52, o52 P), (53, o53 P), (54, o54 P), (55, o55 P), (56, o56 P), (57, o57 P), (58, o58 P), (59, o59 P), (60, o60 P), (61, o61 P), (62, o62 P), (63, o63 P), (64, o64 P), (65, o65 P), (66, o66 P), (67, o67 P), (68, o68 P), (69, o69 P), (70, o70 P), (71, o71 P), (72, o72 P), (73, o73 P), (1354, o1354 P), (1355, o1355 P), (1356, o1356 P), (1357, o1357 P), (1358, o1358 P), (1359, o1359 P), (1360, o1360 P), (1361, o1361 P), (1362, o1362 P), (1363, o1363 P), (1364, o1364 P), (1365, o1365 P), (1366, o1366 P), (1367, o1367 P), (1368, o1368 P), (1369, o1369 P), (1370, o1370 P), (1371, o1371 P), (1372, o1372 P), (1373, o1373 P), (1374, o1374 P), (1375, o1375 P), (1376, o1376 P), (1377, o1377 P), (1378, o1378 P), (1379, o1379 P), (1380, o1380 P), (1381, o1381 P), (1382, o1382 P), (1383, o1383 P), (1384, o1384 P), (1385, o1385 P), (1386, o1386 P), (1387, o1387 P), (1388, o1388 P), (1389, o1389 P), (1390, o1390 P), (1391, o1391 P), (1392, o1392 P), (1393, o1393 P), (1394, o1394 P), (1395, o1395 P), (1396, o1396 P), (1397, o1397 P), (1398, o1398 P), (1399, o1399 P), (1400, o1400 P), (1401, o1401 P), (1402, o1402 P), (1403, o1403 P), (1404, o1404 P), (1405, o1405 P), (1406, o1406 P), (1407, o1407 P), (1408, o1408 P), (1409, o1409 P), (1410, o1410 P), (1411, o1411 P), (1412, o1412 P), (1413, o1413 P), (1414, o1414 P), (1415, o1415 P), (1416, o1416 P), (1417, o1417 P), (1418, o1418 P), (1419, o1419 P), (1420, o1420 P), (1421, o1421 P), (1422, o1422 P), (1423, o1423 P), (1424, o1424 P), (1425, o1425 P), (1426, o1426 P), (1427, o1427 P), (1428, o1428 P), (1429, o1429 P), (1430, o1430 P), (1431, o1431 P), (1432, o1432 P), (1433, o1433 P), (1434, o1434 P), (1435, o1435 P), (1436, o1436 P), (1437, o1437 P), (1438, o1438 P), (1439, o1439 P), (1440, o1440 P), (1441, o1441 P), (1442, o1442 P), (1443, o1443 P), (1444, o1444 P), (1445, o1445 P), (1446, o1446 P), (1447, o1447 P), (1448, o1448 P), (1449, o1449 P), (1450, o1450 P), (1451, o1451 P), (1452, o1452 P), (1453, o1453 P), (1454, o1454 P), (1455, o1455 P), (1456, o1456 P), (1457, o1457 P), (1458, o1458 P), (1459, o1459 P), (1460, o1460 P), (1461, o1461 P), (1462, o1462 P), (1463, o1463 P), (1464, o1464 P), (1465, o1465 P), (1466, o1466 P), (1467, o1467 P), (1468, o1468 P), (1469, o1469 P), (1470, o1470 P), (1471, o1471 P), (1472, o1472 P), (1473, o1473 P), (1474, o1474 P), (1475, o1475 P), (1476, o1476 P), (1477, o1477 P), (1478, o1478 P), (1479, o1479 P), (1480, o1480 P), (1481, o1481 P), (1482, o1482 P), (1483, o1483 P), (1484, o1484 P), (1485, o1485 P), (1486, o1486 P), (1487, o1487 P), (1488, o1488 P), (1489, o1489 P), (1490, o1490 P), (1491, o1491 P), (1492, o1492 P), (1493, o1493 P), (1494, o1494 P), (1495, o1495 P), (1496, o1496 P), (1497, o1497 P), (1498, o1498 P), (1499, o1499 P), (1500, o1500 P), (1501, o1501 P), (1502, o1502 P), (1503, o1503 P), (1504, o1504 P), (1505, o1505 P), (1506, o1506 P), (1507, o1507 P), (1508, o1508 P), (1509, o1509 P), (1510, o1510 P)]

noncomputable abbrev execsF := PySem.W.Fast.tw12563942051412417395
theorem execsF_eq : @execs = @execsF := PySem.W.Fast.te12563942051412417395
noncomputable abbrev env0 : Env := { scope := PW.main.scope, locals := mainNs, globals := mainNs, cells := [], code := .ref 13, frame := some 14 }
noncomputable abbrev cd0 : Code := .body (behindTheImports PW) env0
noncomputable abbrev q0 : Pos := ⟨0, 0, 0, 0⟩
noncomputable def piecesF (l : List Stmt) (p : Pos) : Thread := ⟨(execsF l env0).wrap doneF deadEnd id id, cd0, p, [topFrame q0]⟩
theorem piecesF_eq (l : List Stmt) (p : Pos) : piecesOf l env0 cd0 p [topFrame q0] = piecesF l p := by
  show (⟨(execs l env0).wrap doneF deadEnd id id, cd0, p, [topFrame q0]⟩ : Thread) = _
  rw [execsF_eq]; rfl
noncomputable def grA : List Stmt := (behindTheImports PW).take 6
noncomputable def grB : List Stmt := [stAB]
noncomputable def grC : List Stmt := ((behindTheImports PW).drop 7).take 15
noncomputable def grD : List Stmt := ((behindTheImports PW).drop 22).take 9
noncomputable def grE : List Stmt := (behindTheImports PW).drop 31
theorem groups : behindTheImports PW = grA ++ (grB ++ (grC ++ (grD ++ (grE ++ [])))) := by kernel_rfl
noncomputable def d0 : Nat → Obj := fun _ => { cls := .none }
noncomputable def memN (a : Nat) : List Nat → Bool
  | [] => false
  | b :: r => match Nat.beq b a with | true => true | false => memN a r
noncomputable def inK (ks : List Nat) : List (Nat × Obj) → Bool
  | [] => true
  | e :: r => match memN e.1 ks with | true => inK ks r | false => false
noncomputable def looks (ov : List (Nat × Obj)) (b : Nat → Obj) : List Nat → List Obj
  | [] => []
  | k :: r => look ov b k :: looks ov b r
/-- what is looked at behind a run -/
noncomputable def seenU (ks : List Nat) (s : SU) := (inK ks s.ov, looks s.ov s.base ks, s.n, s.life, s.gens, s.drawn, s.toks, s.os)
noncomputable def chkR (ks : List Nat) (x : Option (Flow × SU × Code × Pos)) := x.map fun y => (y.1, seenU ks y.2.1, y.2.2)
noncomputable def chkG (ks : List Nat) (x : Option (SU × Thread)) := x.map fun y => (seenU ks y.1, y.2)
theorem memN_of {a : Nat} : ∀ {l : List Nat}, memN a l = true → a ∈ l
  | [], h => by cases h
  | b :: r, h => by
    unfold memN at h
    rw [beqN] at h
    by_cases e : b = a
    · subst e; exact .head _
    · simp only [e, decide_false] at h; exact .tail _ (memN_of h)
theorem look_out : ∀ {ov : List (Nat × Obj)} {b : Nat → Obj} {a : Nat}, (∀ e ∈ ov, e.1 ≠ a) → look ov b a = b a
  | [], _, _, _ => rfl
  | (k, o) :: r, b, a, h => by
    rw [look_cons, if_neg (fun q => h _ (.head _) q.symm)]
    exact look_out fun e he => h e (.tail _ he)
theorem inK_of {ks : List Nat} : ∀ {ov : List (Nat × Obj)}, inK ks ov = true → ∀ e ∈ ov, e.1 ∈ ks
  | [], _, _, he => nomatch he
  | x :: r, h, e, he => by
    unfold inK at h
    cases q : memN x.1 ks with
    | false => rw [q] at h; cases h
    | true =>
      rw [q] at h
      rcases List.mem_cons.mp he with rfl | he
      · exact memN_of q
      · exact inK_of h e he
/-- the overlay may be laid anew: all its keys are the new one's, and at them it says the same -/
theorem look_anew {ov : List (Nat × Obj)} {b : Nat → Obj} : ∀ {ov' : List (Nat × Obj)}, (∀ e ∈ ov, e.1 ∈ ov'.map (·.1)) → looks ov b (ov'.map (·.1)) = ov'.map (·.2) → ∀ a, look ov b a = look ov' b a := by
  have all : ∀ {ov' : List (Nat × Obj)}, looks ov b (ov'.map (·.1)) = ov'.map (·.2) → ∀ a, a ∈ ov'.map (·.1) → look ov b a = look ov' b a := by
    intro ov'
    induction ov' with
    | nil => intro _ a ha; nomatch ha
    | cons x r ih =>
      intro h a ha
      obtain ⟨k, o⟩ := x
      simp only [List.map_cons, looks, List.cons.injEq] at h
      rw [look_cons]
      by_cases e : a = k
      · subst e; rw [if_pos rfl]; exact h.1
      · rw [if_neg e]
        refine ih h.2 a ?_
        rcases List.mem_cons.mp ha with q | q
        · exact absurd q e
        · exact q
  intro ov' h1 h2 a
  by_cases ha : a ∈ ov'.map (·.1)
  · exact all h2 a ha
  · rw [look_out (fun e he (q : e.1 = a) => ha (by rw [← q]; exact h1 e he)), look_out (fun e he (q : e.1 = a) => ha (by rw [← q]; exact List.mem_map_of_mem he))]
theorem chkR_of {ks : List Nat} {x : Option (Flow × SU × Code × Pos)} {fl : Flow} {ov' : List (Nat × Obj)} {b : Nat → Obj} {n : Nat} {gens : Array GenState} {toks : Nat} {os : OsState} {c : Code} {q : Pos}
    (hb : ∀ y, x = some y → y.2.1.base = b) (hk : ks = ov'.map (·.1)) (h : chkR ks x = some (fl, (true, ov'.map (·.2), n, {}, gens, dr0, toks, os), c, q)) :
    ∃ s, x = some (fl, s, c, q) ∧ s.abs = SU.abs ⟨ov', b, n, {}, gens, dr0, toks, os⟩ := by
  subst hk
  cases x with
  | none => cases h
  | some y =>
    obtain ⟨f, s, c', q'⟩ := y
    obtain ⟨ov, b', n', life, g, d, t, o⟩ := s
    have hb' : b' = b := hb _ rfl
    subst hb'
    simp only [chkR, seenU, Option.map_some, Option.some.injEq, Prod.mk.injEq] at h
    obtain ⟨rfl, ⟨h1, h2, rfl, rfl, rfl, rfl, rfl, rfl⟩, rfl, rfl⟩ := h
    refine ⟨_, rfl, ?_⟩
    unfold SU.abs
    rw [heapU_congr fun a _ => look_anew (inK_of h1) h2 a]
theorem stepU_base {den : Code → Sem Fin} {p : Program} {w : World} {s s' : SU} {t t' : Thread} (h : stepU den p w s t = some (s', t')) : s'.base = s.base := by
  obtain ⟨ov, b, n, life, gens, drawn, toks, os⟩ := s
  obtain ⟨cur, code, pos, stack⟩ := t
  cases cur with
  | load a q k =>
    cases e : Nat.blt a n with
    | false => simp only [stepU, e] at h; cases h
    | true => cases al : alive (look ov b a) with
      | none => simp only [stepU, e, al] at h; cases h
      | some o' => simp only [stepU, e, al] at h; cases h; rfl
  | update a q f k =>
    cases e : Nat.blt a n with
    | false => simp only [stepU, e] at h; cases h
    | true => cases al : alive (look ov b a) with
      | none => simp only [stepU, e, al] at h; cases h
      | some o' => simp only [stepU, e, al] at h; cases h; rfl
  | alloc o k => simp only [stepU] at h; cases h; rfl
  | loadIfAlive a k => simp only [stepU] at h; repeat' split at h; all_goals first | (cases h; rfl) | cases h
  | _ => simp only [stepU] at h; split at h <;> first | (cases h; rfl) | cases h
theorem goU_base {p : Program} {w : World} {n₀ : Nat} {ann : Option Value} {b : Nat} : ∀ {n : Nat} {s s' : SU} {t t' : Thread}, goU p w n₀ ann b n s t = some (s', t') → s'.base = s.base
  | 0, s, s', t, t', h => by
    obtain ⟨rfl, rfl⟩ : s = s' ∧ t = t' := by simpa [goU] using h
    rfl
  | n + 1, s, s', t, t', h => by
    unfold goU at h
    cases he : endAt b t with
    | some f => rw [he] at h; cases h
    | none =>
      rw [he] at h
      cases hk : okF n₀ ann t with
      | false => rw [hk] at h; cases h
      | true =>
        rw [hk] at h
        cases hs : stepU (denF tabF) p w s t with
        | none => rw [hs] at h; cases h
        | some x =>
          obtain ⟨s₂, t₂⟩ := x
          rw [hs] at h
          exact (goU_base h).trans (stepU_base hs)
theorem runU_base {p : Program} {w : World} {n₀ : Nat} {ann : Option Value} {b : Nat} : ∀ {n : Nat} {s : SU} {t : Thread} {y : Flow × SU × Code × Pos}, runU p w n₀ ann b n s t = some y → y.2.1.base = s.base
  | 0, _, _, _, h => by cases h
  | n + 1, s, t, y, h => by
    unfold runU at h
    cases he : endAt b t with
    | some f' => rw [he] at h; cases h; rfl
    | none =>
      rw [he] at h
      cases hk : okF n₀ ann t with
      | false => rw [hk] at h; cases h
      | true =>
        rw [hk] at h
        cases hs : stepU (denF tabF) p w s t with
        | none => rw [hs] at h; cases h
        | some x =>
          obtain ⟨s₂, t₂⟩ := x
          rw [hs] at h
          exact (runU_base h).trans (stepU_base hs)
noncomputable abbrev annA : Option Value := some (.ref 6)
/-- a state by its overlay -/
noncomputable abbrev stU (ov : List (Nat × Obj)) (b : Nat → Obj) (n toks : Nat) (os : OsState) : SU := ⟨ov, b, n, {}, #[], dr0, toks, os⟩
theorem seg_of_chk {p : Program} {w : World} {n : Nat} {ov ov' : List (Nat × Obj)} {b : Nat → Obj} {n₀ n₁ k₀ k₁ : Nat} {os : OsState} {l : List Stmt} {p₀ p₁ : Pos}
    (h : chkR (ov'.map (·.1)) (runU p w 11 annA 1 n (stU ov b n₀ k₀ os) (piecesF l p₀)) = some (.next, (true, ov'.map (·.2), n₁, {}, #[], dr0, k₁, os), cd0, p₁)) :
    segRun treeTable p w 11 annA 1 n (stU ov b n₀ k₀ os).abs (piecesOf l env0 cd0 p₀ [topFrame q0]) = some (.next, (stU ov' b n₁ k₁ os).abs, cd0, p₁) := by
  obtain ⟨s, e, ha⟩ := chkR_of (b := b) (fun y hy => runU_base hy) rfl h
  rw [piecesF_eq, ← ha]
  exact runU_spec e
noncomputable def oPre11 (_ : Params) : Obj := ⟨(.type "tuple"), none, .seq #[] 0, #[]⟩
noncomputable def oPre12 (_ : Params) : Obj := ⟨.none, none, .fields #[], #[]⟩
noncomputable def oPre13 (_ : Params) : Obj := ⟨(.type "code"), none, .fields #[(.str (Str.ofString "<module>") 182), (.str (Str.ofString "<module>") 183), (.str (Str.ofString "/claim/cut.py") 184), (.int (.ofNat 1) 0), (.int (.ofNat 0) 0), (.int (.ofNat 0) 0), (.int (.ofNat 0) 0), (.int (.ofNat 0) 0), (.ref 11), (.bool false), (.int (.ofNat 181) 0), (.ref 12), .none, .none, .none, .none, (.int (.ofNat 185) 0), (.int (.ofNat 1) 0), (.str (Str.ofString "/claim/cut.py") 186)], #[]⟩
noncomputable def oPre14 (_ : Params) : Obj := ⟨(.type "frame"), none, .plain, #[some (.ref 13), some (.ref 3), some (.ref 3), none, some (.str (Str.ofString "__main__") 164), none, some (.ref 0)]⟩
noncomputable def ovPre (P : Params) : List (Nat × Obj) := [(0, boot_o_0 P), (1, boot_o_1 P), (2, boot_o_2 P), (3, boot_o_3 P), (4, boot_o_4 P), (5, boot_o_5 P), (6, boot_o_6 P), (7, boot_o_7 P), (8, boot_o_8 P), (9, boot_o_9 P), (10, boot_o_10 P), (11, oPre11 P), (12, oPre12 P), (13, oPre13 P), (14, oPre14 P)]
end
end Mine
end
section
open PySem PySem.W PySem.Calls PyProof.Rows
namespace Mine
section
noncomputable abbrev kA (P : Params) : List Nat := (ov_p5 P).map (·.1)
theorem pieceA (w : World) (os : OsState) :
    segRun treeTable PW w 11 annA 1 800 (stU (ovPre w.params) d0 15 187 os).abs (piecesOf grA env0 cd0 ⟨0, 0, 0, 0⟩ [topFrame q0]) = some (.next, (stU (ov_p5 w.params) d0 70 268 os).abs, cd0, ⟨15, 0, 15, 8⟩) :=
  seg_of_chk (by kernel_rfl)
theorem pieceC (w : World) (os : OsState) (f : Nat → Obj) :
    segRun treeTable PW w 11 annA 1 500 (stU (ov_p6 w.params) f 1358 1040 os).abs (piecesOf grC env0 cd0 ⟨16, 0, 16, 9⟩ [topFrame q0]) = some (.next, (stU (ov_p21 w.params) f 1429 1165 os).abs, cd0, ⟨122, 0, 122, 8⟩) :=
  seg_of_chk (by kernel_rfl)
end
end Mine
end
section
open PySem PySem.W PySem.Calls PyProof.Rows
namespace Mine
section
theorem pieceD (w : World) (os : OsState) (f : Nat → Obj) :
    segRun treeTable PW w 11 annA 1 500 (stU (ov_p21 w.params) f 1429 1165 os).abs (piecesOf grD env0 cd0 ⟨122, 0, 122, 8⟩ [topFrame q0]) = some (.next, (stU (ov_p30 w.params) f 1477 1239 os).abs, cd0, ⟨177, 0, 178, 55⟩) :=
  seg_of_chk (by kernel_rfl)
theorem pieceE (w : World) (os : OsState) (f : Nat → Obj) :
    segRun treeTable PW w 11 annA 1 300 (stU (ov_p30 w.params) f 1477 1239 os).abs (piecesOf grE env0 cd0 ⟨177, 0, 178, 55⟩ [topFrame q0]) = some (.next, (stU (ov_fin w.params) f 1511 1277 os).abs, cd0, ⟨203, 0, 231, 98⟩) :=
  seg_of_chk (by kernel_rfl)

/-! the comprehension -/
noncomputable def thrP (k : Result → Sem Fin) (p : Pos) : Thread :=
  ⟨denF tabF cl, cl, p, [.ret k none true [.ref 73, .ref 72] cd0 ⟨16, 39, 16, 49⟩ [], topFrame q0]⟩
noncomputable abbrev pT0 : Pos := ⟨16, 39, 16, 49⟩
noncomputable abbrev pT : Pos := ⟨16, 19, 16, 29⟩
noncomputable def oD' (P : Params) : Nat → Obj
  | 0 => { cls := .type "dict", data := .dict #[] }
  | i + 1 => oD P (i + 1)
noncomputable def ovT (P : Params) (i : Nat) : List (Nat × Obj) := [(71, oR i), (72, oA i), (73, oD' P i), (3, o3 P), (0, boot_o_0 P)]
noncomputable def stT (P : Params) (f : Nat → Obj) (os : OsState) (i : Nat) : SU := stU (ovT P i) f (74 + 5 * i) (271 + 3 * i) os
/-- the keys that a batch's overlay may have: the five, or new ones -/
noncomputable def inT (n : Nat) : List (Nat × Obj) → Bool
  | [] => true
  | e :: r => match Nat.ble n e.1 with
    | true => inT n r
    | false => match memN e.1 [71, 72, 73, 3, 0] with | true => inT n r | false => false
noncomputable def chkT (n : Nat) (x : Option (SU × Thread)) := x.map fun y => (inT n y.1.ov, looks y.1.ov y.1.base [71, 72, 73, 3, 0], y.1.n, y.1.life, y.1.gens, y.1.drawn, y.1.toks, y.1.os, y.2)
noncomputable abbrev withR (w : World) (b : Bool) : World := w.withFollow "special-get-raises" b
noncomputable def batch (w : World) (b : Bool) (f : Nat → Obj) (os : OsState) (k : Result → Sem Fin) (p : Pos) (i m : Nat) :=
  chkT (74 + 5 * i) (goU PW (withR w b) 11 annA 1 (97 * m) (stT (withR w b).params f os i) (thrP k p))
noncomputable def batchEnd (w : World) (b : Bool) (os : OsState) (k : Result → Sem Fin) (j : Nat) :=
  some (true, (ovT (withR w b).params j).map (·.2), 74 + 5 * j, ({} : Life), (#[] : Array GenState), dr0, 271 + 3 * j, os, thrP k pT)
theorem b0f (w : World) (f : Nat → Obj) (os : OsState) (k : Result → Sem Fin) : batch w false f os k pT0 0 16 = batchEnd w false os k 16 := by kernel_rfl
theorem b1f (w : World) (f : Nat → Obj) (os : OsState) (k : Result → Sem Fin) : batch w false f os k pT 16 16 = batchEnd w false os k 32 := by kernel_rfl
theorem b2f (w : World) (f : Nat → Obj) (os : OsState) (k : Result → Sem Fin) : batch w false f os k pT 32 16 = batchEnd w false os k 48 := by kernel_rfl
theorem b3f (w : World) (f : Nat → Obj) (os : OsState) (k : Result → Sem Fin) : batch w false f os k pT 48 16 = batchEnd w false os k 64 := by kernel_rfl
theorem b4f (w : World) (f : Nat → Obj) (os : OsState) (k : Result → Sem Fin) : batch w false f os k pT 64 16 = batchEnd w false os k 80 := by kernel_rfl
theorem b5f (w : World) (f : Nat → Obj) (os : OsState) (k : Result → Sem Fin) : batch w false f os k pT 80 16 = batchEnd w false os k 96 := by kernel_rfl
theorem b6f (w : World) (f : Nat → Obj) (os : OsState) (k : Result → Sem Fin) : batch w false f os k pT 96 16 = batchEnd w false os k 112 := by kernel_rfl
theorem b7f (w : World) (f : Nat → Obj) (os : OsState) (k : Result → Sem Fin) : batch w false f os k pT 112 16 = batchEnd w false os k 128 := by kernel_rfl
theorem b8f (w : World) (f : Nat → Obj) (os : OsState) (k : Result → Sem Fin) : batch w false f os k pT 128 16 = batchEnd w false os k 144 := by kernel_rfl
theorem b9f (w : World) (f : Nat → Obj) (os : OsState) (k : Result → Sem Fin) : batch w false f os k pT 144 16 = batchEnd w false os k 160 := by kernel_rfl
theorem b10f (w : World) (f : Nat → Obj) (os : OsState) (k : Result → Sem Fin) : batch w false f os k pT 160 16 = batchEnd w false os k 176 := by kernel_rfl
theorem b11f (w : World) (f : Nat → Obj) (os : OsState) (k : Result → Sem Fin) : batch w false f os k pT 176 16 = batchEnd w false os k 192 := by kernel_rfl
theorem b12f (w : World) (f : Nat → Obj) (os : OsState) (k : Result → Sem Fin) : batch w false f os k pT 192 16 = batchEnd w false os k 208 := by kernel_rfl
theorem b13f (w : World) (f : Nat → Obj) (os : OsState) (k : Result → Sem Fin) : batch w false f os k pT 208 16 = batchEnd w false os k 224 := by kernel_rfl
theorem b14f (w : World) (f : Nat → Obj) (os : OsState) (k : Result → Sem Fin) : batch w false f os k pT 224 16 = batchEnd w false os k 240 := by kernel_rfl
theorem b15f (w : World) (f : Nat → Obj) (os : OsState) (k : Result → Sem Fin) : batch w false f os k pT 240 16 = batchEnd w false os k 256 := by kernel_rfl
theorem b0t (w : World) (f : Nat → Obj) (os : OsState) (k : Result → Sem Fin) : batch w true f os k pT0 0 16 = batchEnd w true os k 16 := by kernel_rfl
theorem b1t (w : World) (f : Nat → Obj) (os : OsState) (k : Result → Sem Fin) : batch w true f os k pT 16 16 = batchEnd w true os k 32 := by kernel_rfl
theorem b2t (w : World) (f : Nat → Obj) (os : OsState) (k : Result → Sem Fin) : batch w true f os k pT 32 16 = batchEnd w true os k 48 := by kernel_rfl
theorem b3t (w : World) (f : Nat → Obj) (os : OsState) (k : Result → Sem Fin) : batch w true f os k pT 48 16 = batchEnd w true os k 64 := by kernel_rfl
theorem b4t (w : World) (f : Nat → Obj) (os : OsState) (k : Result → Sem Fin) : batch w true f os k pT 64 16 = batchEnd w true os k 80 := by kernel_rfl
theorem b5t (w : World) (f : Nat → Obj) (os : OsState) (k : Result → Sem Fin) : batch w true f os k pT 80 16 = batchEnd w true os k 96 := by kernel_rfl
theorem b6t (w : World) (f : Nat → Obj) (os : OsState) (k : Result → Sem Fin) : batch w true f os k pT 96 16 = batchEnd w true os k 112 := by kernel_rfl
theorem b7t (w : World) (f : Nat → Obj) (os : OsState) (k : Result → Sem Fin) : batch w true f os k pT 112 16 = batchEnd w true os k 128 := by kernel_rfl
theorem b8t (w : World) (f : Nat → Obj) (os : OsState) (k : Result → Sem Fin) : batch w true f os k pT 128 16 = batchEnd w true os k 144 := by kernel_rfl
theorem b9t (w : World) (f : Nat → Obj) (os : OsState) (k : Result → Sem Fin) : batch w true f os k pT 144 16 = batchEnd w true os k 160 := by kernel_rfl
theorem b10t (w : World) (f : Nat → Obj) (os : OsState) (k : Result → Sem Fin) : batch w true f os k pT 160 16 = batchEnd w true os k 176 := by kernel_rfl
theorem b11t (w : World) (f : Nat → Obj) (os : OsState) (k : Result → Sem Fin) : batch w true f os k pT 176 16 = batchEnd w true os k 192 := by kernel_rfl
theorem b12t (w : World) (f : Nat → Obj) (os : OsState) (k : Result → Sem Fin) : batch w true f os k pT 192 16 = batchEnd w true os k 208 := by kernel_rfl
theorem b13t (w : World) (f : Nat → Obj) (os : OsState) (k : Result → Sem Fin) : batch w true f os k pT 208 16 = batchEnd w true os k 224 := by kernel_rfl
theorem b14t (w : World) (f : Nat → Obj) (os : OsState) (k : Result → Sem Fin) : batch w true f os k pT 224 16 = batchEnd w true os k 240 := by kernel_rfl
theorem b15t (w : World) (f : Nat → Obj) (os : OsState) (k : Result → Sem Fin) : batch w true f os k pT 240 16 = batchEnd w true os k 256 := by kernel_rfl
end
end Mine
end
section
open PySem PySem.W PySem.Calls PyProof.Rows
namespace Mine
section
theorem look_front : ∀ {ov' : List (Nat × Obj)} {g : Nat → Obj}, (∀ e ∈ ov', g e.1 = e.2) → ∀ a, look ov' g a = g a
  | [], _, _, _ => rfl
  | (k, o) :: r, g, h, a => by
    rw [look_cons]
    by_cases e : a = k
    · subst e; rw [if_pos rfl]; exact (h _ (.head _)).symm
    · rw [if_neg e]; exact look_front (fun e he => h e (.tail _ he)) a
theorem looks_at {ov : List (Nat × Obj)} {b : Nat → Obj} : ∀ {ov' : List (Nat × Obj)}, looks ov b (ov'.map (·.1)) = ov'.map (·.2) → ∀ e ∈ ov', look ov b e.1 = e.2
  | [], _, _, he => nomatch he
  | x :: r, h, e, he => by
    simp only [List.map_cons, looks, List.cons.injEq] at h
    rcases List.mem_cons.mp he with rfl | he
    · exact h.1
    · exact looks_at h.2 e he
noncomputable def Agree (f f' : Nat → Obj) : Prop := ∀ a, a < 74 → memN a [71, 72, 73, 3, 0] = false → f' a = f a
theorem Agree.trans {f g h : Nat → Obj} (x : Agree f g) (y : Agree g h) : Agree f h := fun a l m => (y a l m).trans (x a l m)
theorem memN_not {a : Nat} : ∀ {l : List Nat}, memN a l = false → a ∉ l
  | [], _, h => nomatch h
  | b :: r, h, hm => by
    unfold memN at h
    rw [beqN] at h
    by_cases e : b = a
    · subst e; simp at h
    · simp only [e, decide_false] at h
      rcases List.mem_cons.mp hm with q | q
      · exact e q.symm
      · exact memN_not h q
theorem inT_of {n : Nat} : ∀ {ov : List (Nat × Obj)}, inT n ov = true → ∀ e ∈ ov, n ≤ e.1 ∨ e.1 ∈ [71, 72, 73, 3, 0]
  | [], _, _, he => nomatch he
  | x :: r, h, e, he => by
    unfold inT at h
    cases q : Nat.ble n x.1 with
    | true =>
      rw [q] at h
      rcases List.mem_cons.mp he with rfl | he
      · exact .inl (Nat.le_of_ble_eq_true q)
      · exact inT_of h e he
    | false =>
      rw [q] at h
      cases z : memN x.1 [71, 72, 73, 3, 0] with
      | false => rw [z] at h; cases h
      | true =>
        rw [z] at h
        rcases List.mem_cons.mp he with rfl | he
        · exact .inr (memN_of z)
        · exact inT_of h e he
theorem batch_step {w : World} {b : Bool} {f : Nat → Obj} {os : OsState} {k : Result → Sem Fin} {p : Pos} {i m j : Nat} (h : batch w b f os k p i m = batchEnd w b os k j) :
    ∃ f', Agree f f' ∧ ∀ {N r}, segRun treeTable PW (withR w b) 11 annA 1 N (stT (withR w b).params f' os j).abs (thrP k pT) = some r →
      segRun treeTable PW (withR w b) 11 annA 1 (97 * m + N) (stT (withR w b).params f os i).abs (thrP k p) = some r := by
  unfold batch chkT batchEnd at h
  obtain ⟨⟨s, t⟩, e, hs⟩ := Option.map_eq_some_iff.mp h
  obtain ⟨ov, bs, n, life, gens, drawn, toks, os'⟩ := s
  simp only [Prod.mk.injEq] at hs
  obtain ⟨h1, h2, rfl, rfl, rfl, rfl, rfl, rfl, rfl⟩ := hs
  have hb : bs = f := goU_base e
  subst hb
  refine ⟨look ov bs, fun a l hm => look_out fun e' he q => ?_, fun {N r} hr => ?_⟩
  · rcases inT_of h1 e' he with z | z
    · exact absurd (q ▸ z) (by omega)
    · exact memN_not hm (q ▸ z)
  · refine seg_go (goU_spec e) ?_
    have ha : SU.abs ⟨ov, bs, 74 + 5 * j, {}, #[], dr0, 271 + 3 * j, os'⟩ = (stT (withR w b).params (look ov bs) os' j).abs := by
      show (⟨heapU (look ov bs) _ _, _, _, _, _⟩ : Shared) = ⟨heapU (look (ovT (withR w b).params j) (look ov bs)) _ _, _, _, _, _⟩
      rw [heapU_congr fun a _ => (look_front (ov' := ovT (withR w b).params j) (looks_at (ov' := ovT (withR w b).params j) h2) a).symm]
      rfl
    rw [ha]
    exact hr
/-- all the turns -/
theorem all_turns (w : World) (b : Bool) (f : Nat → Obj) (os : OsState) (k : Result → Sem Fin) :
    ∃ f', Agree f f' ∧ ∀ {N r}, segRun treeTable PW (withR w b) 11 annA 1 N (stT (withR w b).params f' os 256).abs (thrP k pT) = some r →
      segRun treeTable PW (withR w b) 11 annA 1 (24832 + N) (stT (withR w b).params f os 0).abs (thrP k pT0) = some r := by
  cases b with
  | false =>
    obtain ⟨f1, a1, s1⟩ := batch_step (b0f w f os k)
    obtain ⟨f2, a2, s2⟩ := batch_step (b1f w f1 os k)
    obtain ⟨f3, a3, s3⟩ := batch_step (b2f w f2 os k)
    obtain ⟨f4, a4, s4⟩ := batch_step (b3f w f3 os k)
    obtain ⟨f5, a5, s5⟩ := batch_step (b4f w f4 os k)
    obtain ⟨f6, a6, s6⟩ := batch_step (b5f w f5 os k)
    obtain ⟨f7, a7, s7⟩ := batch_step (b6f w f6 os k)
    obtain ⟨f8, a8, s8⟩ := batch_step (b7f w f7 os k)
    obtain ⟨f9, a9, s9⟩ := batch_step (b8f w f8 os k)
    obtain ⟨f10, a10, s10⟩ := batch_step (b9f w f9 os k)
    obtain ⟨f11, a11, s11⟩ := batch_step (b10f w f10 os k)
    obtain ⟨f12, a12, s12⟩ := batch_step (b11f w f11 os k)
    obtain ⟨f13, a13, s13⟩ := batch_step (b12f w f12 os k)
    obtain ⟨f14, a14, s14⟩ := batch_step (b13f w f13 os k)
    obtain ⟨f15, a15, s15⟩ := batch_step (b14f w f14 os k)
    obtain ⟨f16, a16, s16⟩ := batch_step (b15f w f15 os k)
    refine ⟨f16, (((((((((((((((a1).trans a2).trans a3).trans a4).trans a5).trans a6).trans a7).trans a8).trans a9).trans a10).trans a11).trans a12).trans a13).trans a14).trans a15).trans a16, fun {N r} hr => ?_⟩
    have z := s1 (s2 (s3 (s4 (s5 (s6 (s7 (s8 (s9 (s10 (s11 (s12 (s13 (s14 (s15 (s16 (hr))))))))))))))))
    rw [show 24832 + N = 97 * 16 + (97 * 16 + (97 * 16 + (97 * 16 + (97 * 16 + (97 * 16 + (97 * 16 + (97 * 16 + (97 * 16 + (97 * 16 + (97 * 16 + (97 * 16 + (97 * 16 + (97 * 16 + (97 * 16 + (97 * 16 + (N)))))))))))))))) by omega]
    exact z
  | true =>
    obtain ⟨f1, a1, s1⟩ := batch_step (b0t w f os k)
    obtain ⟨f2, a2, s2⟩ := batch_step (b1t w f1 os k)
    obtain ⟨f3, a3, s3⟩ := batch_step (b2t w f2 os k)
    obtain ⟨f4, a4, s4⟩ := batch_step (b3t w f3 os k)
    obtain ⟨f5, a5, s5⟩ := batch_step (b4t w f4 os k)
    obtain ⟨f6, a6, s6⟩ := batch_step (b5t w f5 os k)
    obtain ⟨f7, a7, s7⟩ := batch_step (b6t w f6 os k)
    obtain ⟨f8, a8, s8⟩ := batch_step (b7t w f7 os k)
    obtain ⟨f9, a9, s9⟩ := batch_step (b8t w f8 os k)
    obtain ⟨f10, a10, s10⟩ := batch_step (b9t w f9 os k)
    obtain ⟨f11, a11, s11⟩ := batch_step (b10t w f10 os k)
    obtain ⟨f12, a12, s12⟩ := batch_step (b11t w f11 os k)
    obtain ⟨f13, a13, s13⟩ := batch_step (b12t w f12 os k)
    obtain ⟨f14, a14, s14⟩ := batch_step (b13t w f13 os k)
    obtain ⟨f15, a15, s15⟩ := batch_step (b14t w f14 os k)
    obtain ⟨f16, a16, s16⟩ := batch_step (b15t w f15 os k)
    refine ⟨f16, (((((((((((((((a1).trans a2).trans a3).trans a4).trans a5).trans a6).trans a7).trans a8).trans a9).trans a10).trans a11).trans a12).trans a13).trans a14).trans a15).trans a16, fun {N r} hr => ?_⟩
    have z := s1 (s2 (s3 (s4 (s5 (s6 (s7 (s8 (s9 (s10 (s11 (s12 (s13 (s14 (s15 (s16 (hr))))))))))))))))
    rw [show 24832 + N = 97 * 16 + (97 * 16 + (97 * 16 + (97 * 16 + (97 * 16 + (97 * 16 + (97 * 16 + (97 * 16 + (97 * 16 + (97 * 16 + (97 * 16 + (97 * 16 + (97 * 16 + (97 * 16 + (97 * 16 + (97 * 16 + (N)))))))))))))))) by omega]
    exact z
end
end Mine
end
section
open PySem PySem.W PySem.Calls PyProof.Rows
namespace Mine
section
noncomputable def ovOld (P : Params) : List (Nat × Obj) := [(70, o70 P), (12, o12 P), (2, o2 P), (4, boot_o_4 P), (13, o13 P), (1, boot_o_1 P), (5, boot_o_5 P), (6, boot_o_6 P), (7, boot_o_7 P), (8, boot_o_8 P), (9, boot_o_9 P), (10, boot_o_10 P), (11, o11 P), (14, o14 P), (15, o15 P), (16, o16 P), (17, o17 P), (18, o18 P), (19, o19 P), (20, o20 P), (21, o21 P), (22, o22 P), (23, o23 P), (24, o24 P), (25, o25 P), (26, o26 P), (27, o27 P), (28, o28 P), (29, o29 P), (30, o30 P), (31, o31 P), (32, o32 P), (33, o33 P), (34, o34 P), (35, o35 P), (36, o36 P), (37, o37 P), (38, o38 P), (39, o39 P), (40, o40 P), (41, o41 P), (42, o42 P), (43, o43 P), (44, o44 P), (45, o45 P), (46, o46 P), (47, o47 P), (48, o48 P), (49, o49 P), (50, o50 P), (51, o51 P), (52, o52 P), (53, o53 P), (54, o54 P), (55, o55 P), (56, o56 P), (57, o57 P), (58, o58 P), (59, o59 P), (60, o60 P), (61, o61 P), (62, o62 P), (63, o63 P), (64, o64 P), (65, o65 P), (66, o66 P), (67, o67 P), (68, o68 P), (69, o69 P)]
noncomputable def kOf (x : Option (SU × Thread)) : Result → Sem Fin := match x with
  | some (_, ⟨_, _, _, .ret k _ _ _ _ _ _ :: _⟩) => k
  | _ => fun _ => .unsupported ""
noncomputable def preRun (W : World) (os : OsState) (n : Nat) := goU PW W 11 annA 1 n (stU (ov_p5 W.params) d0 70 268 os) (piecesF grB ⟨15, 0, 15, 8⟩)
noncomputable def KK (W : World) (os : OsState) (n : Nat) : Result → Sem Fin := kOf (preRun W os n)
noncomputable def ovT0 (P : Params) : List (Nat × Obj) := (71, oR 0) :: (72, oA 0) :: (73, oD' P 0) :: (70, o70 P) :: ov_p5 P
noncomputable def ovP (P : Params) : List (Nat × Obj) := (71, oR 256) :: (72, oA 256) :: (73, oD' P 256) :: (3, o3 P) :: (0, boot_o_0 P) :: ovOld P
noncomputable abbrev withC (w : World) (c : Bool) : World := w.withFollow "comprehension-iter-twice" c
noncomputable def preEnd (W : World) (os : OsState) (n : Nat) := some ((true, (ovT0 W.params).map (·.2), 74, ({} : Life), (#[] : Array GenState), dr0, 271, os), thrP (KK W os n) pT0)
noncomputable def preChk (W : World) (os : OsState) (n : Nat) := chkG ((ovT0 W.params).map (·.1)) (preRun W os n)
theorem preTT (w : World) (os : OsState) : preChk (withR (withC w true) true) os 45 = preEnd (withR (withC w true) true) os 45 := by kernel_rfl
theorem preTF (w : World) (os : OsState) : preChk (withR (withC w true) false) os 45 = preEnd (withR (withC w true) false) os 45 := by kernel_rfl
theorem preFT (w : World) (os : OsState) : preChk (withR (withC w false) true) os 55 = preEnd (withR (withC w false) true) os 55 := by kernel_rfl
theorem preFF (w : World) (os : OsState) : preChk (withR (withC w false) false) os 55 = preEnd (withR (withC w false) false) os 55 := by kernel_rfl
noncomputable def postChk (W : World) (os : OsState) (f : Nat → Obj) (n : Nat) := chkR ((ov_p6 W.params).map (·.1)) (runU PW W 11 annA 1 200 (stU (ovP W.params) f 1354 1039 os) (thrP (KK W os n) pT))
noncomputable def postEnd (W : World) (os : OsState) := some (Flow.next, (true, (ov_p6 W.params).map (·.2), 1358, ({} : Life), (#[] : Array GenState), dr0, 1040, os), cd0, (⟨16, 0, 16, 9⟩ : Pos))
theorem postTT (w : World) (os : OsState) (f : Nat → Obj) : postChk (withR (withC w true) true) os f 45 = postEnd (withR (withC w true) true) os := by kernel_rfl
theorem postTF (w : World) (os : OsState) (f : Nat → Obj) : postChk (withR (withC w true) false) os f 45 = postEnd (withR (withC w true) false) os := by kernel_rfl
theorem postFT (w : World) (os : OsState) (f : Nat → Obj) : postChk (withR (withC w false) true) os f 55 = postEnd (withR (withC w false) true) os := by kernel_rfl
theorem postFF (w : World) (os : OsState) (f : Nat → Obj) : postChk (withR (withC w false) false) os f 55 = postEnd (withR (withC w false) false) os := by kernel_rfl
theorem oldIs (P : Params) : looks (ovT0 P) d0 ((ovOld P).map (·.1)) = (ovOld P).map (·.2) := by kernel_rfl
noncomputable def oldKey : List Nat → Bool
  | [] => true
  | a :: r => match Nat.blt a 74 with
    | true => match memN a [71, 72, 73, 3, 0] with | true => false | false => oldKey r
    | false => false
theorem oldKeys (P : Params) : oldKey ((ovOld P).map (·.1)) = true := by kernel_rfl
theorem ovT_front (P : Params) (b : Nat → Obj) : looks (ovT0 P) b [71, 72, 73, 3, 0] = (ovT P 0).map (·.2) := by kernel_rfl
theorem oldKey_of : ∀ {l : List Nat}, oldKey l = true → ∀ a ∈ l, a < 74 ∧ memN a [71, 72, 73, 3, 0] = false
  | [], _, _, ha => nomatch ha
  | b :: r, h, a, ha => by
    unfold oldKey at h
    cases q : Nat.blt b 74 with
    | false => rw [q] at h; cases h
    | true =>
      rw [q] at h
      cases z : memN b [71, 72, 73, 3, 0] with
      | true => rw [z] at h; cases h
      | false =>
        rw [z] at h
        rcases List.mem_cons.mp ha with rfl | ha
        · exact ⟨Nat.le_of_ble_eq_true q, z⟩
        · exact oldKey_of h a ha
theorem chkG_of {ks : List Nat} {x : Option (SU × Thread)} {ov' : List (Nat × Obj)} {b : Nat → Obj} {n : Nat} {gens : Array GenState} {toks : Nat} {os : OsState} {t : Thread}
    (hb : ∀ y, x = some y → y.1.base = b) (hk : ks = ov'.map (·.1)) (h : chkG ks x = some ((true, ov'.map (·.2), n, {}, gens, dr0, toks, os), t)) :
    ∃ s, x = some (s, t) ∧ s.abs = SU.abs ⟨ov', b, n, {}, gens, dr0, toks, os⟩ := by
  subst hk
  cases x with
  | none => cases h
  | some y =>
    obtain ⟨s, t'⟩ := y
    obtain ⟨ov, b', n', life, g, d, tk, o⟩ := s
    have hb' : b' = b := hb _ rfl
    subst hb'
    simp only [chkG, seenU, Option.map_some, Option.some.injEq, Prod.mk.injEq] at h
    obtain ⟨⟨h1, h2, rfl, rfl, rfl, rfl, rfl, rfl⟩, rfl⟩ := h
    refine ⟨_, rfl, ?_⟩
    unfold SU.abs
    rw [heapU_congr fun a _ => look_anew (inK_of h1) h2 a]
theorem stAB_run {w : World} {c b : Bool} {os : OsState} {n : Nat} (pre : preChk (withR (withC w c) b) os n = preEnd (withR (withC w c) b) os n)
    (post : ∀ f, postChk (withR (withC w c) b) os f n = postEnd (withR (withC w c) b) os) :
    ∃ f, segRun treeTable PW (withR (withC w c) b) 11 annA 1 (n + (24832 + 200)) (stU (ov_p5 (withR (withC w c) b).params) d0 70 268 os).abs (piecesOf grB env0 cd0 ⟨15, 0, 15, 8⟩ [topFrame q0]) =
      some (.next, (stU (ov_p6 (withR (withC w c) b).params) f 1358 1040 os).abs, cd0, ⟨16, 0, 16, 9⟩) := by
  generalize hW : withR (withC w c) b = W at *
  have P := W.params
  obtain ⟨s, e, ha⟩ := chkG_of (b := d0) (fun y hy => goU_base hy) rfl pre
  have hb0 : SU.abs ⟨ovT0 W.params, d0, 74, {}, #[], dr0, 271, os⟩ = (stT W.params (look (ovT0 W.params) d0) os 0).abs := by
    show (⟨heapU (look (ovT0 W.params) d0) _ _, _, _, _, _⟩ : Shared) = ⟨heapU (look (ovT W.params 0) (look (ovT0 W.params) d0)) _ _, _, _, _, _⟩
    rw [heapU_congr fun a _ => (look_front (ov' := ovT W.params 0) (looks_at (ov' := ovT W.params 0) (ovT_front W.params d0)) a).symm]
    rfl
  subst hW
  obtain ⟨f', ag, turn⟩ := all_turns (withC w c) b (look (ovT0 (withR (withC w c) b).params) d0) os (KK (withR (withC w c) b) os n)
  refine ⟨f', ?_⟩
  rw [piecesF_eq]
  refine seg_go (goU_spec e) ?_
  rw [ha, hb0]
  refine turn ?_
  have h1 : (stT (withR (withC w c) b).params f' os 256).abs = (stU (ovP (withR (withC w c) b).params) f' 1354 1039 os).abs := by
    have hold : ∀ e ∈ ovOld (withR (withC w c) b).params, f' e.1 = e.2 := fun e he => by
      obtain ⟨l, m⟩ := oldKey_of (oldKeys (withR (withC w c) b).params) e.1 (List.mem_map_of_mem he)
      rw [ag e.1 l m]
      exact looks_at (oldIs (withR (withC w c) b).params) e he
    show (⟨heapU (look (ovT (withR (withC w c) b).params 256) f') _ _, _, _, _, _⟩ : Shared) = ⟨heapU (look (ovP (withR (withC w c) b).params) f') _ _, _, _, _, _⟩
    rw [heapU_congr (f := look (ovT (withR (withC w c) b).params 256) f') (g := look (ovP (withR (withC w c) b).params) f') fun a _ => by
      unfold ovT ovP
      simp only [look_cons]
      rw [look_front hold a]
      rfl]
    rfl
  rw [h1]
  obtain ⟨s', e', ha'⟩ := chkR_of (b := f') (fun y hy => runU_base hy) rfl (post f')
  rw [← ha']
  exact runU_spec e'
end
end Mine
end
section
open PySem PySem.W PySem.Calls PyProof.Rows
namespace Mine
section
theorem topGoF_eq : @topGo = @PySem.W.Fast.tw15667345088766844465 := PySem.W.Fast.te15667345088766844465
theorem pre12F (w : World) (os : OsState) : PySem.W.Fast.tw15667345088766844465 tabF PW w 11 annA 12 ⟨boot_heap w.params, #[], boot_drawn, boot_toks, os⟩ (topStub PW) =
    some ((stU (ovPre w.params) d0 15 187 os).abs, ⟨denF tabF cd0, cd0, q0, [topFrame q0]⟩) := by kernel_rfl
theorem pre12 (w : World) (os : OsState) : topGo treeTable PW w 11 annA 12 ⟨boot_heap w.params, #[], boot_drawn, boot_toks, os⟩ (topStub PW) =
    some ((stU (ovPre w.params) d0 15 187 os).abs, ⟨denote treeTable cd0, cd0, q0, [topFrame q0]⟩) := by
  rw [topGoF_eq, denF_eq, tabF_eq]; exact pre12F w os
theorem block0 (w : World) (S : Shared) : segRun treeTable PW w 11 annA 1 1 S (blockOf (behindTheImports PW) env0 cd0 q0 [topFrame q0]) = some (.next, S, cd0, q0) := by kernel_rfl
theorem fin2 (w : World) (S : Shared) : topRun treeTable PW w 11 annA 2 S ⟨doneF .next, cd0, ⟨203, 0, 231, 98⟩, [topFrame q0]⟩ = some S := by kernel_rfl
theorem run_of {w : World} {os : OsState} {n : Nat} {f : Nat → Obj}
    (h : segRun treeTable PW w 11 annA 1 n (stU (ov_p5 w.params) d0 70 268 os).abs (piecesOf grB env0 cd0 ⟨15, 0, 15, 8⟩ [topFrame q0]) =
      some (.next, (stU (ov_p6 w.params) f 1358 1040 os).abs, cd0, ⟨16, 0, 16, 9⟩)) :
    topRun treeTable PW w 11 annA (12 + (1 + (800 + (n + (500 + (500 + (300 + 2))))))) ⟨boot_heap w.params, #[], boot_drawn, boot_toks, os⟩ (topStub PW) = some (stU (ov_fin w.params) f 1511 1277 os).abs := by
  refine go_top (pre12 w os) (piece_block (block0 w _) ?_)
  have z := piece_app (env := env0) (q := q0) (c := cd0) (pieceA w os) (piece_app (env := env0) (q := q0) (c := cd0) h (piece_app (env := env0) (q := q0) (c := cd0) (pieceC w os f) (piece_app (env := env0) (q := q0) (c := cd0) (pieceD w os f)
    (piece_app (env := env0) (q := q0) (c := cd0) (pieceE w os f) (piece_nil (fin2 w _))))))
  rw [← groups] at z
  exact z
theorem topRun_le {w : World} {n N : Nat} {s r : Shared} {t : Thread} (h : topRun treeTable PW w 11 annA n s t = some r) (le : n ≤ N) : topRun treeTable PW w 11 annA N s t = some r := by
  have z := topRun_mono (N - n) _ _ _ _ h
  rwa [Nat.add_sub_cancel' le] at z
noncomputable def RunsTo (os : OsState) (w : World) : Prop := ∃ f, topRun treeTable PW w 11 annA 30000 ⟨boot_heap w.params, #[], boot_drawn, boot_toks, os⟩ (topStub PW) = some (stU (ov_fin w.params) f 1511 1277 os).abs
theorem run_ex (w : World) (os : OsState) : RunsTo os w := by
  have all : ∀ c b : Bool, RunsTo os ((w.withFollow "comprehension-iter-twice" c).withFollow "special-get-raises" b) := by
    intro c b
    cases c <;> cases b
    · obtain ⟨f, h⟩ := stAB_run (preFF w os) (postFF w os)
      exact ⟨f, topRun_le (run_of h) (by decide)⟩
    · obtain ⟨f, h⟩ := stAB_run (preFT w os) (postFT w os)
      exact ⟨f, topRun_le (run_of h) (by decide)⟩
    · obtain ⟨f, h⟩ := stAB_run (preTF w os) (postTF w os)
      exact ⟨f, topRun_le (run_of h) (by decide)⟩
    · obtain ⟨f, h⟩ := stAB_run (preTT w os) (postTT w os)
      exact ⟨f, topRun_le (run_of h) (by decide)⟩
  have h1 := all (w.params.followText "comprehension-iter-twice") ((w.withFollow "comprehension-iter-twice" (w.params.followText "comprehension-iter-twice")).params.followText "special-get-raises")
  rw [World.withFollow_self] at h1
  rwa [World.withFollow_self] at h1
end
end Mine
end
section
open PySem PySem.W PySem.Calls PyProof.Rows
namespace Mine
section
/-- the written part of the heap: what the walk looks at -/
noncomputable def K (P : Params) : Frag := (nat_lit 0, boot_o_0 P) :: (nat_lit 2, o2_1 P) :: (nat_lit 3, o3_4 P) :: (nat_lit 15, o15 P) :: (nat_lit 22, o22 P) :: (nat_lit 23, o23 P) :: (nat_lit 24, o24 P) :: (nat_lit 25, o25 P) :: (nat_lit 28, o28 P) :: (nat_lit 31, o31 P) :: (nat_lit 36, o36 P) :: (nat_lit 37, o37 P) :: (nat_lit 39, o39 P) :: (nat_lit 40, o40 P) :: (nat_lit 42, o42 P) :: (nat_lit 43, o43 P) :: (nat_lit 44, o44 P) :: (nat_lit 45, o45 P) :: (nat_lit 46, o46 P) :: (nat_lit 49, o49 P) :: (nat_lit 52, o52 P) :: (nat_lit 57, o57 P) :: (nat_lit 58, o58 P) :: (nat_lit 60, o60 P) :: (nat_lit 61, o61 P) :: (nat_lit 63, o63 P) :: (nat_lit 64, o64 P) :: (nat_lit 65, o65 P) :: (nat_lit 66, o66 P) :: (nat_lit 67, o67 P) :: (nat_lit 1357, o1357 P) :: (nat_lit 1358, o1358 P) :: (nat_lit 1360, o1360 P) :: (nat_lit 1361, o1361 P) :: (nat_lit 1363, o1363 P) :: (nat_lit 1364, o1364 P) :: (nat_lit 1365, o1365 P) :: (nat_lit 1367, o1367 P) :: (nat_lit 1368, o1368 P) :: (nat_lit 1370, o1370 P) :: (nat_lit 1371, o1371 P) :: (nat_lit 1372, o1372 P) :: (nat_lit 1374, o1374 P) :: (nat_lit 1375, o1375 P) :: (nat_lit 1377, o1377 P) :: (nat_lit 1378, o1378 P) :: (nat_lit 1379, o1379 P) :: (nat_lit 1381, o1381 P) :: (nat_lit 1382, o1382 P) :: (nat_lit 1384, o1384 P) :: (nat_lit 1385, o1385 P) :: (nat_lit 1386, o1386 P) :: (nat_lit 1388, o1388 P) :: (nat_lit 1389, o1389 P) :: (nat_lit 1391, o1391 P) :: (nat_lit 1392, o1392 P) :: (nat_lit 1393, o1393 P) :: (nat_lit 1395, o1395 P) :: (nat_lit 1396, o1396 P) :: (nat_lit 1398, o1398 P) :: (nat_lit 1399, o1399 P) :: (nat_lit 1400, o1400 P) :: (nat_lit 1402, o1402 P) :: (nat_lit 1403, o1403 P) :: (nat_lit 1405, o1405 P) :: (nat_lit 1406, o1406 P) :: (nat_lit 1407, o1407 P) :: (nat_lit 1409, o1409 P) :: (nat_lit 1410, o1410 P) :: (nat_lit 1412, o1412 P) :: (nat_lit 1413, o1413 P) :: (nat_lit 1414, o1414 P) :: (nat_lit 1416, o1416 P) :: (nat_lit 1417, o1417 P) :: (nat_lit 1419, o1419 P) :: (nat_lit 1420, o1420 P) :: (nat_lit 1421, o1421 P) :: (nat_lit 1422, o1422 P) :: (nat_lit 1424, o1424 P) :: (nat_lit 1425, o1425 P) :: (nat_lit 1427, o1427 P) :: (nat_lit 1428, o1428 P) :: (nat_lit 1429, o1429 P) :: (nat_lit 1436, o1436 P) :: (nat_lit 1437, o1437 P) :: (nat_lit 1438, o1438 P) :: (nat_lit 1439, o1439 P) :: (nat_lit 1442, o1442 P) :: (nat_lit 1444, o1444 P) :: (nat_lit 1445, o1445 P) :: (nat_lit 1447, o1447 P) :: (nat_lit 1448, o1448 P) :: (nat_lit 1449, o1449 P) :: (nat_lit 1451, o1451 P) :: (nat_lit 1452, o1452 P) :: (nat_lit 1454, o1454 P) :: (nat_lit 1455, o1455 P) :: (nat_lit 1456, o1456 P) :: (nat_lit 1458, o1458 P) :: (nat_lit 1459, o1459 P) :: (nat_lit 1461, o1461 P) :: (nat_lit 1462, o1462 P) :: (nat_lit 1463, o1463 P) :: (nat_lit 1465, o1465 P) :: (nat_lit 1466, o1466 P) :: (nat_lit 1468, o1468 P) :: (nat_lit 1469, o1469 P) :: (nat_lit 1470, o1470 P) :: (nat_lit 1472, o1472 P) :: (nat_lit 1473, o1473 P) :: (nat_lit 1475, o1475 P) :: (nat_lit 1476, o1476 P) :: (nat_lit 1477, o1477 P) :: (nat_lit 1480, o1480 P) :: (nat_lit 1481, o1481 P) :: (nat_lit 1482, o1482 P) :: (nat_lit 1485, o1485 P) :: (nat_lit 1486, o1486 P) :: (nat_lit 1487, o1487 P) :: (nat_lit 1489, o1489 P) :: (nat_lit 1490, o1490 P) :: (nat_lit 1492, o1492 P) :: (nat_lit 1493, o1493 P) :: (nat_lit 1494, o1494 P) :: (nat_lit 1496, o1496 P) :: (nat_lit 1497, o1497 P) :: (nat_lit 1499, o1499 P) :: (nat_lit 1500, o1500 P) :: (nat_lit 1501, o1501 P) :: (nat_lit 1504, o1504 P) :: (nat_lit 1505, o1505 P) :: (nat_lit 1506, o1506 P) :: (nat_lit 1509, o1509 P) :: (nat_lit 1510, o1510 P) :: []
noncomputable def kAs : List Addr := [0, 2, 3, 15, 22, 23, 24, 25, 28, 31, 36, 37, 39, 40, 42, 43, 44, 45, 46, 49, 52, 57, 58, 60, 61, 63, 64, 65, 66, 67, 1357, 1358, 1360, 1361, 1363, 1364, 1365, 1367, 1368, 1370, 1371, 1372, 1374, 1375, 1377, 1378, 1379, 1381, 1382, 1384, 1385, 1386, 1388, 1389, 1391, 1392, 1393, 1395, 1396, 1398, 1399, 1400, 1402, 1403, 1405, 1406, 1407, 1409, 1410, 1412, 1413, 1414, 1416, 1417, 1419, 1420, 1421, 1422, 1424, 1425, 1427, 1428, 1429, 1436, 1437, 1438, 1439, 1442, 1444, 1445, 1447, 1448, 1449, 1451, 1452, 1454, 1455, 1456, 1458, 1459, 1461, 1462, 1463, 1465, 1466, 1468, 1469, 1470, 1472, 1473, 1475, 1476, 1477, 1480, 1481, 1482, 1485, 1486, 1487, 1489, 1490, 1492, 1493, 1494, 1496, 1497, 1499, 1500, 1501, 1504, 1505, 1506, 1509, 1510]
theorem kAs_eq (P : Params) : kAs = (K P).map (·.1) := by kernel_rfl
noncomputable abbrev kH : Hook := kHook K kAs kAs_eq
noncomputable def vq : Program := { PW with main := { PW.main with body := [stOf 1, stOf 2, stOf 3, stOf 4, stOf 6, stOf 7, stOf 8, stOf 9, stOf 12, stOf 13, stOf 14, stOf 15, stOf 16, stOf 17, stOf 18, stOf 19, stOf 23, stOf 24, stOf 25, stOf 26, stOf 27, stOf 28, stOf 30, stOf 31, stOf 32, stOf 33, stOf 34, stOf 35, stOf 36] } }
noncomputable def loos : List Str := [Str.ofString "DecodingError_exceptions", Str.ofString "ALL_BYTES", Str.ofString "encode_raw_codec", Str.ofString "LONG_LENGTH", Str.ofString "SHORT_STRING", Str.ofString "decode", Str.ofString "DecodingError_nodes", Str.ofString "encode_raw_nodes"]
noncomputable def lvs : List (Str × WData) := [(Str.ofString "ALL_BYTES", .tuple [.bytes [0], .bytes [1], .bytes [2], .bytes [3], .bytes [4], .bytes [5], .bytes [6], .bytes [7], .bytes [8], .bytes [9], .bytes [10], .bytes [11], .bytes [12], .bytes [13], .bytes [14], .bytes [15], .bytes [16], .bytes [17], .bytes [18], .bytes [19], .bytes [20], .bytes [21], .bytes [22], .bytes [23], .bytes [24], .bytes [25], .bytes [26], .bytes [27], .bytes [28], .bytes [29], .bytes [30], .bytes [31], .bytes [32], .bytes [33], .bytes [34], .bytes [35], .bytes [36], .bytes [37], .bytes [38], .bytes [39], .bytes [40], .bytes [41], .bytes [42], .bytes [43], .bytes [44], .bytes [45], .bytes [46], .bytes [47], .bytes [48], .bytes [49], .bytes [50], .bytes [51], .bytes [52], .bytes [53], .bytes [54], .bytes [55], .bytes [56], .bytes [57], .bytes [58], .bytes [59], .bytes [60], .bytes [61], .bytes [62], .bytes [63], .bytes [64], .bytes [65], .bytes [66], .bytes [67], .bytes [68], .bytes [69], .bytes [70], .bytes [71], .bytes [72], .bytes [73], .bytes [74], .bytes [75], .bytes [76], .bytes [77], .bytes [78], .bytes [79], .bytes [80], .bytes [81], .bytes [82], .bytes [83], .bytes [84], .bytes [85], .bytes [86], .bytes [87], .bytes [88], .bytes [89], .bytes [90], .bytes [91], .bytes [92], .bytes [93], .bytes [94], .bytes [95], .bytes [96], .bytes [97], .bytes [98], .bytes [99], .bytes [100], .bytes [101], .bytes [102], .bytes [103], .bytes [104], .bytes [105], .bytes [106], .bytes [107], .bytes [108], .bytes [109], .bytes [110], .bytes [111], .bytes [112], .bytes [113], .bytes [114], .bytes [115], .bytes [116], .bytes [117], .bytes [118], .bytes [119], .bytes [120], .bytes [121], .bytes [122], .bytes [123], .bytes [124], .bytes [125], .bytes [126], .bytes [127], .bytes [128], .bytes [129], .bytes [130], .bytes [131], .bytes [132], .bytes [133], .bytes [134], .bytes [135], .bytes [136], .bytes [137], .bytes [138], .bytes [139], .bytes [140], .bytes [141], .bytes [142], .bytes [143], .bytes [144], .bytes [145], .bytes [146], .bytes [147], .bytes [148], .bytes [149], .bytes [150], .bytes [151], .bytes [152], .bytes [153], .bytes [154], .bytes [155], .bytes [156], .bytes [157], .bytes [158], .bytes [159], .bytes [160], .bytes [161], .bytes [162], .bytes [163], .bytes [164], .bytes [165], .bytes [166], .bytes [167], .bytes [168], .bytes [169], .bytes [170], .bytes [171], .bytes [172], .bytes [173], .bytes [174], .bytes [175], .bytes [176], .bytes [177], .bytes [178], .bytes [179], .bytes [180], .bytes [181], .bytes [182], .bytes [183], .bytes [184], .bytes [185], .bytes [186], .bytes [187], .bytes [188], .bytes [189], .bytes [190], .bytes [191], .bytes [192], .bytes [193], .bytes [194], .bytes [195], .bytes [196], .bytes [197], .bytes [198], .bytes [199], .bytes [200], .bytes [201], .bytes [202], .bytes [203], .bytes [204], .bytes [205], .bytes [206], .bytes [207], .bytes [208], .bytes [209], .bytes [210], .bytes [211], .bytes [212], .bytes [213], .bytes [214], .bytes [215], .bytes [216], .bytes [217], .bytes [218], .bytes [219], .bytes [220], .bytes [221], .bytes [222], .bytes [223], .bytes [224], .bytes [225], .bytes [226], .bytes [227], .bytes [228], .bytes [229], .bytes [230], .bytes [231], .bytes [232], .bytes [233], .bytes [234], .bytes [235], .bytes [236], .bytes [237], .bytes [238], .bytes [239], .bytes [240], .bytes [241], .bytes [242], .bytes [243], .bytes [244], .bytes [245], .bytes [246], .bytes [247], .bytes [248], .bytes [249], .bytes [250], .bytes [251], .bytes [252], .bytes [253], .bytes [254], .bytes [255]]), (Str.ofString "LONG_LENGTH", .int 18446744073709551616), (Str.ofString "SHORT_STRING", .int 184)]
noncomputable def heapL (P : Params) (f : Nat → Obj) : Heap := ⟨⟨[boot_o_0 P, boot_o_1 P, o2_1 P, o3_4 P, boot_o_4 P, boot_o_5 P, boot_o_6 P, boot_o_7 P, boot_o_8 P, boot_o_9 P, boot_o_10 P, o11 P, o12_3 P, o13 P, o14 P, o15 P, o16 P, o17 P, o18 P, o19 P, o20 P, o21 P, o22 P, o23 P, o24 P, o25 P, o26 P, o27 P, o28 P, o29 P, o30 P, o31 P, o32 P, o33 P, o34 P, o35 P, o36 P, o37 P, o38 P, o39 P, o40 P, o41 P, o42 P, o43 P, o44 P, o45 P, o46 P, o47 P, o48 P, o49 P, o50 P, o51 P, o52 P, o53 P, o54 P, o55 P, o56 P, o57 P, o58 P, o59 P, o60 P, o61 P, o62 P, o63 P, o64 P, o65 P, o66 P, o67 P, o68 P, o69 P, o70 P, o71 P, o72 P, o73 P, f 74, f 75, f 76, f 77, f 78, f 79, f 80, f 81, f 82, f 83, f 84, f 85, f 86, f 87, f 88, f 89, f 90, f 91, f 92, f 93, f 94, f 95, f 96, f 97, f 98, f 99, f 100, f 101, f 102, f 103, f 104, f 105, f 106, f 107, f 108, f 109, f 110, f 111, f 112, f 113, f 114, f 115, f 116, f 117, f 118, f 119, f 120, f 121, f 122, f 123, f 124, f 125, f 126, f 127, f 128, f 129, f 130, f 131, f 132, f 133, f 134, f 135, f 136, f 137, f 138, f 139, f 140, f 141, f 142, f 143, f 144, f 145, f 146, f 147, f 148, f 149, f 150, f 151, f 152, f 153, f 154, f 155, f 156, f 157, f 158, f 159, f 160, f 161, f 162, f 163, f 164, f 165, f 166, f 167, f 168, f 169, f 170, f 171, f 172, f 173, f 174, f 175, f 176, f 177, f 178, f 179, f 180, f 181, f 182, f 183, f 184, f 185, f 186, f 187, f 188, f 189, f 190, f 191, f 192, f 193, f 194, f 195, f 196, f 197, f 198, f 199, f 200, f 201, f 202, f 203, f 204, f 205, f 206, f 207, f 208, f 209, f 210, f 211, f 212, f 213, f 214, f 215, f 216, f 217, f 218, f 219, f 220, f 221, f 222, f 223, f 224, f 225, f 226, f 227, f 228, f 229, f 230, f 231, f 232, f 233, f 234, f 235, f 236, f 237, f 238, f 239, f 240, f 241, f 242, f 243, f 244, f 245, f 246, f 247, f 248, f 249, f 250, f 251, f 252, f 253, f 254, f 255, f 256, f 257, f 258, f 259, f 260, f 261, f 262, f 263, f 264, f 265, f 266, f 267, f 268, f 269, f 270, f 271, f 272, f 273, f 274, f 275, f 276, f 277, f 278, f 279, f 280, f 281, f 282, f 283, f 284, f 285, f 286, f 287, f 288, f 289, f 290, f 291, f 292, f 293, f 294, f 295, f 296, f 297, f 298, f 299, f 300, f 301, f 302, f 303, f 304, f 305, f 306, f 307, f 308, f 309, f 310, f 311, f 312, f 313, f 314, f 315, f 316, f 317, f 318, f 319, f 320, f 321, f 322, f 323, f 324, f 325, f 326, f 327, f 328, f 329, f 330, f 331, f 332, f 333, f 334, f 335, f 336, f 337, f 338, f 339, f 340, f 341, f 342, f 343, f 344, f 345, f 346, f 347, f 348, f 349, f 350, f 351, f 352, f 353, f 354, f 355, f 356, f 357, f 358, f 359, f 360, f 361, f 362, f 363, f 364, f 365, f 366, f 367, f 368, f 369, f 370, f 371, f 372, f 373, f 374, f 375, f 376, f 377, f 378, f 379, f 380, f 381, f 382, f 383, f 384, f 385, f 386, f 387, f 388, f 389, f 390, f 391, f 392, f 393, f 394, f 395, f 396, f 397, f 398, f 399, f 400, f 401, f 402, f 403, f 404, f 405, f 406, f 407, f 408, f 409, f 410, f 411, f 412, f 413, f 414, f 415, f 416, f 417, f 418, f 419, f 420, f 421, f 422, f 423, f 424, f 425, f 426, f 427, f 428, f 429, f 430, f 431, f 432, f 433, f 434, f 435, f 436, f 437, f 438, f 439, f 440, f 441, f 442, f 443, f 444, f 445, f 446, f 447, f 448, f 449, f 450, f 451, f 452, f 453, f 454, f 455, f 456, f 457, f 458, f 459, f 460, f 461, f 462, f 463, f 464, f 465, f 466, f 467, f 468, f 469, f 470, f 471, f 472, f 473, f 474, f 475, f 476, f 477, f 478, f 479, f 480, f 481, f 482, f 483, f 484, f 485, f 486, f 487, f 488, f 489, f 490, f 491, f 492, f 493, f 494, f 495, f 496, f 497, f 498, f 499, f 500, f 501, f 502, f 503, f 504, f 505, f 506, f 507, f 508, f 509, f 510, f 511, f 512, f 513, f 514, f 515, f 516, f 517, f 518, f 519, f 520, f 521, f 522, f 523, f 524, f 525, f 526, f 527, f 528, f 529, f 530, f 531, f 532, f 533, f 534, f 535, f 536, f 537, f 538, f 539, f 540, f 541, f 542, f 543, f 544, f 545, f 546, f 547, f 548, f 549, f 550, f 551, f 552, f 553, f 554, f 555, f 556, f 557, f 558, f 559, f 560, f 561, f 562, f 563, f 564, f 565, f 566, f 567, f 568, f 569, f 570, f 571, f 572, f 573, f 574, f 575, f 576, f 577, f 578, f 579, f 580, f 581, f 582, f 583, f 584, f 585, f 586, f 587, f 588, f 589, f 590, f 591, f 592, f 593, f 594, f 595, f 596, f 597, f 598, f 599, f 600, f 601, f 602, f 603, f 604, f 605, f 606, f 607, f 608, f 609, f 610, f 611, f 612, f 613, f 614, f 615, f 616, f 617, f 618, f 619, f 620, f 621, f 622, f 623, f 624, f 625, f 626, f 627, f 628, f 629, f 630, f 631, f 632, f 633, f 634, f 635, f 636, f 637, f 638, f 639, f 640, f 641, f 642, f 643, f 644, f 645, f 646, f 647, f 648, f 649, f 650, f 651, f 652, f 653, f 654, f 655, f 656, f 657, f 658, f 659, f 660, f 661, f 662, f 663, f 664, f 665, f 666, f 667, f 668, f 669, f 670, f 671, f 672, f 673, f 674, f 675, f 676, f 677, f 678, f 679, f 680, f 681, f 682, f 683, f 684, f 685, f 686, f 687, f 688, f 689, f 690, f 691, f 692, f 693, f 694, f 695, f 696, f 697, f 698, f 699, f 700, f 701, f 702, f 703, f 704, f 705, f 706, f 707, f 708, f 709, f 710, f 711, f 712, f 713, f 714, f 715, f 716, f 717, f 718, f 719, f 720, f 721, f 722, f 723, f 724, f 725, f 726, f 727, f 728, f 729, f 730, f 731, f 732, f 733, f 734, f 735, f 736, f 737, f 738, f 739, f 740, f 741, f 742, f 743, f 744, f 745, f 746, f 747, f 748, f 749, f 750, f 751, f 752, f 753, f 754, f 755, f 756, f 757, f 758, f 759, f 760, f 761, f 762, f 763, f 764, f 765, f 766, f 767, f 768, f 769, f 770, f 771, f 772, f 773, f 774, f 775, f 776, f 777, f 778, f 779, f 780, f 781, f 782, f 783, f 784, f 785, f 786, f 787, f 788, f 789, f 790, f 791, f 792, f 793, f 794, f 795, f 796, f 797, f 798, f 799, f 800, f 801, f 802, f 803, f 804, f 805, f 806, f 807, f 808, f 809, f 810, f 811, f 812, f 813, f 814, f 815, f 816, f 817, f 818, f 819, f 820, f 821, f 822, f 823, f 824, f 825, f 826, f 827, f 828, f 829, f 830, f 831, f 832, f 833, f 834, f 835, f 836, f 837, f 838, f 839, f 840, f 841, f 842, f 843, f 844, f 845, f 846, f 847, f 848, f 849, f 850, f 851, f 852, f 853, f 854, f 855, f 856, f 857, f 858, f 859, f 860, f 861, f 862, f 863, f 864, f 865, f 866, f 867, f 868, f 869, f 870, f 871, f 872, f 873, f 874, f 875, f 876, f 877, f 878, f 879, f 880, f 881, f 882, f 883, f 884, f 885, f 886, f 887, f 888, f 889, f 890, f 891, f 892, f 893, f 894, f 895, f 896, f 897, f 898, f 899, f 900, f 901, f 902, f 903, f 904, f 905, f 906, f 907, f 908, f 909, f 910, f 911, f 912, f 913, f 914, f 915, f 916, f 917, f 918, f 919, f 920, f 921, f 922, f 923, f 924, f 925, f 926, f 927, f 928, f 929, f 930, f 931, f 932, f 933, f 934, f 935, f 936, f 937, f 938, f 939, f 940, f 941, f 942, f 943, f 944, f 945, f 946, f 947, f 948, f 949, f 950, f 951, f 952, f 953, f 954, f 955, f 956, f 957, f 958, f 959, f 960, f 961, f 962, f 963, f 964, f 965, f 966, f 967, f 968, f 969, f 970, f 971, f 972, f 973, f 974, f 975, f 976, f 977, f 978, f 979, f 980, f 981, f 982, f 983, f 984, f 985, f 986, f 987, f 988, f 989, f 990, f 991, f 992, f 993, f 994, f 995, f 996, f 997, f 998, f 999, f 1000, f 1001, f 1002, f 1003, f 1004, f 1005, f 1006, f 1007, f 1008, f 1009, f 1010, f 1011, f 1012, f 1013, f 1014, f 1015, f 1016, f 1017, f 1018, f 1019, f 1020, f 1021, f 1022, f 1023, f 1024, f 1025, f 1026, f 1027, f 1028, f 1029, f 1030, f 1031, f 1032, f 1033, f 1034, f 1035, f 1036, f 1037, f 1038, f 1039, f 1040, f 1041, f 1042, f 1043, f 1044, f 1045, f 1046, f 1047, f 1048, f 1049, f 1050, f 1051, f 1052, f 1053, f 1054, f 1055, f 1056, f 1057, f 1058, f 1059, f 1060, f 1061, f 1062, f 1063, f 1064, f 1065, f 1066, f 1067, f 1068, f 1069, f 1070, f 1071, f 1072, f 1073, f 1074, f 1075, f 1076, f 1077, f 1078, f 1079, f 1080, f 1081, f 1082, f 1083, f 1084, f 1085, f 1086, f 1087, f 1088, f 1089, f 1090, f 1091, f 1092, f 1093, f 1094, f 1095, f 1096, f 1097, f 1098, f 1099, f 1100, f 1101, f 1102, f 1103, f 1104, f 1105, f 1106, f 1107, f 1108, f 1109, f 1110, f 1111, f 1112, f 1113, f 1114, f 1115, f 1116, f 1117, f 1118, f 1119, f 1120, f 1121, f 1122, f 1123, f 1124, f 1125, f 1126, f 1127, f 1128, f 1129, f 1130, f 1131, f 1132, f 1133, f 1134, f 1135, f 1136, f 1137, f 1138, f 1139, f 1140, f 1141, f 1142, f 1143, f 1144, f 1145, f 1146, f 1147, f 1148, f 1149, f 1150, f 1151, f 1152, f 1153, f 1154, f 1155, f 1156, f 1157, f 1158, f 1159, f 1160, f 1161, f 1162, f 1163, f 1164, f 1165, f 1166, f 1167, f 1168, f 1169, f 1170, f 1171, f 1172, f 1173, f 1174, f 1175, f 1176, f 1177, f 1178, f 1179, f 1180, f 1181, f 1182, f 1183, f 1184, f 1185, f 1186, f 1187, f 1188, f 1189, f 1190, f 1191, f 1192, f 1193, f 1194, f 1195, f 1196, f 1197, f 1198, f 1199, f 1200, f 1201, f 1202, f 1203, f 1204, f 1205, f 1206, f 1207, f 1208, f 1209, f 1210, f 1211, f 1212, f 1213, f 1214, f 1215, f 1216, f 1217, f 1218, f 1219, f 1220, f 1221, f 1222, f 1223, f 1224, f 1225, f 1226, f 1227, f 1228, f 1229, f 1230, f 1231, f 1232, f 1233, f 1234, f 1235, f 1236, f 1237, f 1238, f 1239, f 1240, f 1241, f 1242, f 1243, f 1244, f 1245, f 1246, f 1247, f 1248, f 1249, f 1250, f 1251, f 1252, f 1253, f 1254, f 1255, f 1256, f 1257, f 1258, f 1259, f 1260, f 1261, f 1262, f 1263, f 1264, f 1265, f 1266, f 1267, f 1268, f 1269, f 1270, f 1271, f 1272, f 1273, f 1274, f 1275, f 1276, f 1277, f 1278, f 1279, f 1280, f 1281, f 1282, f 1283, f 1284, f 1285, f 1286, f 1287, f 1288, f 1289, f 1290, f 1291, f 1292, f 1293, f 1294, f 1295, f 1296, f 1297, f 1298, f 1299, f 1300, f 1301, f 1302, f 1303, f 1304, f 1305, f 1306, f 1307, f 1308, f 1309, f 1310, f 1311, f 1312, f 1313, f 1314, f 1315, f 1316, f 1317, f 1318, f 1319, f 1320, f 1321, f 1322, f 1323, f 1324, f 1325, f 1326, f 1327, f 1328, f 1329, f 1330, f 1331, f 1332, f 1333, f 1334, f 1335, f 1336, f 1337, f 1338, f 1339, f 1340, f 1341, f 1342, f 1343, f 1344, f 1345, f 1346, f 1347, f 1348, f 1349, f 1350, f 1351, f 1352, f 1353, o1354 P, o1355 P, o1356 P, o1357 P, o1358 P, o1359 P, o1360 P, o1361 P, o1362 P, o1363 P, o1364 P, o1365 P, o1366 P, o1367 P, o1368 P, o1369 P, o1370 P, o1371 P, o1372 P, o1373 P, o1374 P, o1375 P, o1376 P, o1377 P, o1378 P, o1379 P, o1380 P, o1381 P, o1382 P, o1383 P, o1384 P, o1385 P, o1386 P, o1387 P, o1388 P, o1389 P, o1390 P, o1391 P, o1392 P, o1393 P, o1394 P, o1395 P, o1396 P, o1397 P, o1398 P, o1399 P, o1400 P, o1401 P, o1402 P, o1403 P, o1404 P, o1405 P, o1406 P, o1407 P, o1408 P, o1409 P, o1410 P, o1411 P, o1412 P, o1413 P, o1414 P, o1415 P, o1416 P, o1417 P, o1418 P, o1419 P, o1420 P, o1421 P, o1422 P, o1423 P, o1424 P, o1425 P, o1426 P, o1427 P, o1428 P, o1429 P, o1430 P, o1431 P, o1432 P, o1433 P, o1434 P, o1435 P, o1436 P, o1437 P, o1438 P, o1439 P, o1440 P, o1441 P, o1442 P, o1443 P, o1444 P, o1445 P, o1446 P, o1447 P, o1448 P, o1449 P, o1450 P, o1451 P, o1452 P, o1453 P, o1454 P, o1455 P, o1456 P, o1457 P, o1458 P, o1459 P, o1460 P, o1461 P, o1462 P, o1463 P, o1464 P, o1465 P, o1466 P, o1467 P, o1468 P, o1469 P, o1470 P, o1471 P, o1472 P, o1473 P, o1474 P, o1475 P, o1476 P, o1477 P, o1478 P, o1479 P, o1480 P, o1481 P, o1482 P, o1483 P, o1484 P, o1485 P, o1486 P, o1487 P, o1488 P, o1489 P, o1490 P, o1491 P, o1492 P, o1493 P, o1494 P, o1495 P, o1496 P, o1497 P, o1498 P, o1499 P, o1500 P, o1501 P, o1502 P, o1503 P, o1504 P, o1505 P, o1506 P, o1507 P, o1508 P, o1509 P, o1510 P]⟩, {}⟩
theorem heapL_eq (P : Params) (f : Nat → Obj) : heapU (look (ov_fin P) f) 1511 {} = heapL P f := by kernel_rfl
end
end Mine
end
section
open PySem PySem.W PySem.Calls PyProof.Rows
namespace Mine
section
noncomputable abbrev rR : RowW := PySem.Challenge.rw_jm0023_01.row.toRowW
noncomputable abbrev xT : Shared → Bool := fun s => xlAt vq lvs s && recOk (RowW.records rR) s
noncomputable abbrev sF (P : Params) (f : Nat → Obj) (os : OsState) : Shared := ⟨heapL P f, #[], dr0, 1277, os⟩
noncomputable abbrev kH2 : Hook := kmHook K kAs kAs_eq [nat_lit 1380]
theorem looksK (w : World) (f : Nat → Obj) (os : OsState) : kH2.obs (sF w.params f os) = kH2.val w := by kernel_rfl
theorem looksA (w : World) (f : Nat → Obj) (os : OsState) :
    (staticsOk (importedModules PW.main.body) (boot_heap w.params) (heapL w.params f) && namesBound PW (heapL w.params f) && gensDone (sF w.params f os) && laidKept (boot_heap w.params) (heapL w.params f)) = true := by kernel_rfl
end
end Mine
end
section
open PySem PySem.W PySem.Calls PyProof.Rows
namespace Mine
section
theorem openSeenF_eq : @openSeen = @PySem.W.Fast.tw4187177175401517315 := PySem.W.Fast.te4187177175401517315
theorem looksS (w : World) (f : Nat → Obj) (os : OsState) : PySem.W.Fast.tw4187177175401517315 vq loos (importedModules PW.main.body) xT true (sF w.params f os) = openGood vq loos := by kernel_rfl
end
end Mine
end
section
open PySem PySem.W PySem.Calls PyProof.Rows
namespace Mine
section
theorem sizeA (w : World) : ((boot_heap w.params).isNs mainGlobals && (Array.mk [] : Array GenState).size == 0, (boot_heap w.params).objs.size, (boot_heap w.params).nsMap mainGlobals "__annotations__") = (true, 11, annA) := by kernel_rfl
theorem bootR (w : World) : (importEnds treeTable (opening PW) w 600 (start (opening PW)).1 (start (opening PW)).2).map (fun s => (s.heap, s.gens, s.drawn, s.toks)) = some (boot_heap w.params, Array.mk [], boot_drawn, boot_toks) := by kernel_rfl
theorem fenced (s : Shared) : fenceModules? PW s = some s := by kernel_rfl
theorem opens (w : World) : (fencedOpening treeTable PW w 60000).map (fun s => (s.heap, s.gens, s.drawn, s.toks)) = some (boot_heap w.params, Array.mk [], boot_drawn, boot_toks) := by
  obtain ⟨s, hs, hv⟩ := Option.map_eq_some_iff.mp (bootR w)
  have m := importEnds_mono 59400 _ _ _ _ hs
  unfold fencedOpening
  rw [show (60000 : Nat) = 600 + 59400 from rfl, m]
  show ((fenceModules? PW s)).map _ = _
  rw [fenced s]
  exact congrArg some hv
theorem left : LeftO rR.prog vq loos xT kH2.obs kH2.val 60000 := fun w => by
  obtain ⟨⟨h, gs, d, k, os⟩, e, e'⟩ := Option.map_eq_some_iff.mp (opens w)
  obtain ⟨rfl, rfl, rfl, rfl⟩ : h = boot_heap w.params ∧ gs = Array.mk [] ∧ d = boot_drawn ∧ k = boot_toks := by simpa using e'
  obtain ⟨z1, z2, z3⟩ : _ ∧ _ ∧ _ := by simpa only [Prod.mk.injEq] using sizeA w
  obtain ⟨f, r⟩ := run_ex w os
  have hs : (stU (ov_fin w.params) f 1511 1277 os).abs = sF w.params f os := by
    show (⟨heapU (look (ov_fin w.params) f) 1511 {}, _, _, _, _⟩ : Shared) = _
    rw [heapL_eq]
  rw [hs] at r
  have r := topRun_le r (show 30000 ≤ 60000 by decide)
  have t : topFrom treeTable PW w 60000 ⟨boot_heap w.params, Array.mk [], boot_drawn, boot_toks, os⟩ = some (sF w.params f os) := by
    unfold topFrom
    dsimp only
    rw [z1, z2, z3]
    show ((topRun treeTable PW w 11 annA 60000 ⟨boot_heap w.params, Array.mk [], boot_drawn, boot_toks, os⟩ (topStub PW)).bind _) = _
    rw [show (⟨boot_heap w.params, Array.mk [], boot_drawn, boot_toks, os⟩ : Shared) = ⟨boot_heap w.params, #[], boot_drawn, boot_toks, os⟩ from rfl, r]
    show (match staticsOk (importedModules PW.main.body) (boot_heap w.params) (heapL w.params f) && namesBound PW (heapL w.params f) && gensDone (sF w.params f os) && laidKept (boot_heap w.params) (heapL w.params f) with | true => _ | false => _) = _
    rw [looksA]
  unfold openEnds
  have e2 : fencedOpening treeTable rR.prog w 60000 = some ⟨boot_heap w.params, Array.mk [], boot_drawn, boot_toks, os⟩ := e
  rw [e2]
  show (topFrom treeTable PW w 60000 _).map _ = _
  rw [t]
  have l2 : openSeen vq loos (importedModules PW.main.body) xT true (sF w.params f os) = openGood vq loos := by rw [openSeenF_eq]; exact looksS w f os
  exact congrArg some (Prod.ext l2 (looksK w f os))
end
end Mine
end
section
open PySem PySem.W PySem.Calls PyProof.Rows
namespace Mine
section
noncomputable def dL : DefRec := { name := Str.ofString "law", params := pOf fn36, body := bOf fn36, scope := scOf fn36, pos := ⟨203, 0, 231, 98⟩ }
set_option maxHeartbeats 4000000 in
theorem hdM (call : WalkO vq loos (XL vq lvs) kH2.says rR dL [] (fun f vs => PySem.call f vs)) : PySem.Challenge.rw_jm0023_01.Holds := by
  refine holds_law (by kernel_rfl) fun said => ?_
  refine holds_open (r := PySem.Challenge.rw_jm0023_01.row) (q := vq) (loose := loos) (Xt := xT) (XP := XL vq lvs) (Yf := kH2.obs) (Ya := kH2.val) (YP := kH2.says) (d := dL) (kwd := []) (N := 60000) left (Hook.of kH2) (Hook.keeps kH2) (fun s e => xl_of s (Bool.and_eq_true_iff.mp e).1) XL.keeps (by kernel_rfl) (by kernel_rfl) (by kernel_rfl) (fun s e => recFacts_of (Bool.and_eq_true_iff.mp e).2) (by rfl) (by assumption) (by decide +kernel) ⟨rfl, rfl, rfl, rfl, rfl, by decide +kernel⟩ ?hw call
  exact ⟨[.list []], by decide +kernel, by decide +kernel⟩
end
end Mine
end
section
open PySem PySem.W PySem.Calls PyProof.Rows
namespace Mine
open PySem.Builtin.Int (intBits)
/-- what stands ahead of n octets -/
noncomputable def pfx (n o : Int) : List Int := if n < 56 then [o + n] else if n < 256 then [o + 56, n] else [o + 57, n / 256, n % 256]
theorem bits_of {n : Int} {k : Nat} (h0 : 0 ≤ n) (h : n < 2 ^ k) : intBits n ≤ k := intBits_le_iff.mpr (by
  have : ((n.natAbs : Nat) : Int) < ((2 ^ k : Nat) : Int) := by
    rw [Int.natCast_pow]
    have : ((n.natAbs : Nat) : Int) = n := by omega
    rw [this]; exact h
  omega)
theorem bits_gt {n : Int} {k : Nat} (h : 2 ^ k ≤ n) : k < intBits n := by
  refine Nat.lt_of_not_le fun q => ?_
  have z := intBits_le_iff.mp q
  have : ((2 ^ k : Nat) : Int) ≤ n := by rw [Int.natCast_pow]; exact h
  omega
theorem to_big1 {prog : Program} {w : World} {A : Around} {E : Value → Shared → Prop} {s : Shared} {x e : Int} {t u v : Tok} {Q : Value → Shared → Prop} (he : e = 1) (h0 : 0 ≤ x) (h1 : x < 256) (h : ∀ (b : Array UInt8) t' k', KBw.bInts b = [x] → Q (.bytes b t') { s with toks := k' }) :
    wpAny (model prog w) A (call (.builtin "int.to_bytes") [.int x t, .int e u, .str (PySem.Str.ofString "big") v]) Q E s := by
  subst he
  refine KTBy.to_big (k := 1) (B := 256) (by decide) (by decide) h0 h1 fun b t' k' hb _ => h b t' k' (hb.trans ?_)
  show [x % 256] = [x]
  rw [Int.emod_eq_of_lt h0 h1]
theorem to_big2 {prog : Program} {w : World} {A : Around} {E : Value → Shared → Prop} {s : Shared} {x e : Int} {t u v : Tok} {Q : Value → Shared → Prop} (he : e = 2) (h0 : 256 ≤ x) (h1 : x < 65536) (h : ∀ (b : Array UInt8) t' k', KBw.bInts b = [x / 256, x % 256] → Q (.bytes b t') { s with toks := k' }) :
    wpAny (model prog w) A (call (.builtin "int.to_bytes") [.int x t, .int e u, .str (PySem.Str.ofString "big") v]) Q E s := by
  subst he
  refine KTBy.to_big (k := 2) (B := 65536) (by decide) (by decide) (by omega) h1 fun b t' k' hb _ => h b t' k' (hb.trans ?_)
  show [x / 256 % 256, x % 256] = [x / 256, x % 256]
  rw [Int.emod_eq_of_lt (a := x / 256) (by omega) (by omega)]
end Mine
end
section
open PySem PySem.W PySem.Calls PyProof.Rows
namespace Mine
/-- what is around a call: no handler at work, the frames, room -/
noncomputable abbrev kT (dp un : Nat) (gd : Option (List Code)) (env : Env) (outer : List Env) : Around := { handled := none, depth := dp, frames := some (env :: outer), guards := gd, units := un }
/-- the same, an exception at work -/
noncomputable abbrev kE (hd : Option Value) (dp un : Nat) (gd : Option (List Code)) (env : Env) (outer : List Env) : Around := { handled := hd, depth := dp, frames := some (env :: outer), guards := gd, units := un }
/-- what is known where a call is made -/
structure Cx (w : World) (loose : List Str) (mean : ExcName → Option Value) (mg mb : Str → Option Value) (env : Env) (outer : List Env) (A₀ : Around) (base h₀ : Heap) (L : Addr) (m : Str → Option Value) (news : List (Addr × Obj)) (h : Heap) : Prop where
  B : Below A₀ base outer h₀
  F : Fr h₀ L h m
  X : (K w.params).In h₀
  N : News h₀ L h news
  T : Top vq loose mean mg mb h₀
  hf : env.frame = some L
  hk : env.scope.kind = .function
/-- what is known again behind a call that came back: the ledger may be longer -/
noncomputable def Back (h₀ : Heap) (L : Addr) (m : Str → Option Value) (news tl : List (Addr × Obj)) (h' : Heap) : Prop :=
  Fr h₀ L h' m ∧ News h₀ L h' (news ++ tl) ∧ ∀ q ∈ news, ∀ p ∈ tl, q.1 < p.1
theorem Back.nil {h₀ : Heap} {L : Addr} {m : Str → Option Value} {news : List (Addr × Obj)} {h' : Heap} (F : Fr h₀ L h' m) (N : News h₀ L h' news) : Back h₀ L m news [] h' :=
  ⟨F, by rw [List.append_nil]; exact N, fun _ _ _ hp => nomatch hp⟩
theorem Back.sub {h₀ : Heap} {L : Addr} {m : Str → Option Value} {news news' : List (Addr × Obj)} {h' : Heap} (F : Fr h₀ L h' m) (N : News h₀ L h' news') (hs : ∀ p ∈ news, p ∈ news') : Back h₀ L m news [] h' :=
  Back.nil F fun p hp => N p (hs p hp)
theorem fdiv8 {x e : Int} (h : x / 8 = e) : x.fdiv 8 = e := by rw [Int.fdiv_eq_ediv_of_nonneg _ (by decide)]; exact h
theorem bytes1 {x : Int} (h0 : 0 ≤ x) (h1 : x < 256) : KBw.bInts #[x.toNat.toUInt8] = [x] := by
  show [((x.toNat.toUInt8.toNat : Nat) : Int)] = [x]
  rw [byte_back h0 h1]
end Mine
end
section
open PySem PySem.W PySem.Calls PyProof.Rows PySem.W.X PySem.W.XRun
namespace Mine
/-- an exception has been made: with a dict of its own or without -/
structure MadeW (h h' : Heap) (e : Addr) (cls : Value) (args : List Value) : Prop where
  keeps : ∀ b o, h.get? b = some o → h'.get? b = some o
  new : h.get? e = none
  there : ∃ t d, h'.get? e = some { cls := cls, dict := d, data := .fields #[.ref t, .none, .none, .none, .bool false, .none] } ∧ h.get? t = none ∧ h'.get? t = some { cls := .type "tuple", data := .seq args.toArray }
theorem made_of {h h' : Heap} {news : List (Addr × Obj)} {e t : Addr} {d : Option Addr} {cls : Value} {args : List Value} (D : Mem h h' [] news)
    (he : (e, ({ cls := cls, dict := d, data := .fields #[.ref t, .none, .none, .none, .bool false, .none] } : Obj)) ∈ news) (ht : (t, ({ cls := .type "tuple", data := .seq args.toArray } : Obj)) ∈ news) : MadeW h h' e cls args :=
  ⟨fun b o e => D.keep b o e (by rw [Bool.or_eq_true]; exact .inr rfl), (D.nw _ he).2, t, d, (D.nw _ he).1, (D.nw _ ht).2, (D.nw _ ht).1⟩
theorem away_nil (b : Addr) : away [] b = true := rfl
section
variable {M : Model} {A : Around} {E : Value → Shared → Prop} {s' : Shared} {base g g₂ h : Heap} {outer : List Env} {L a e t : Addr} {m : Str → Option Value} {name : Str} {scope : Scope} {cd : Value} {Q : Unit → Shared → Prop} {news : List (Addr × Obj)}
theorem leave_raiseD {cls : Value} {vs : List Value} (K : Below A base outer g) (hx : MadeW h s'.heap e cls vs) (F : Fr g L h m) (N : News g L h news)
    (hQ : ∀ h' t, RaisedS base g outer e cls t vs news h' → RaisedK base outer e cls t vs news h' → g.UpToSlots h' → Q () { s' with heap := h' }) (hk : scope.kind = .function := by rfl) :
    wpAny M (A.deeper (envOf name scope L a cd)) (leaving (envOf name scope L a cd) (.ref e)) Q E s' := by
  have K' := K.push (name := name) (a := a) (cd := cd) F hk
  have hin : ∀ env ∈ (envOf name scope L a cd :: outer), ∀ b, env.frame = some b → b ∈ (envOf name scope L a cd :: outer).filterMap (·.frame) := fun env he b hb => List.mem_filterMap.mpr ⟨env, he, hb⟩
  have st : base.StaysIn (hideAll h ((envOf name scope L a cd :: outer).filterMap (·.frame))) := fun b o q => hideAll_get _ (K'.stays b o q) fun hm => by
    rw [(K'.frames.mem hm).1] at q; cases q
  have sg : ∀ b o, g.get? b = some o → b ∉ outer.filterMap (·.frame) → (hideAll h ((envOf name scope L a cd :: outer).filterMap (·.frame))).get? b = some o := fun b o q nm => hideAll_get _ (F.keep b o q) fun hm => by
    rcases kts_mem hm with z | z
    · rw [z, kts_self F] at q
      cases q
    · exact nm z
  have hl : ∀ q ∈ news, (hideAll h ((envOf name scope L a cd :: outer).filterMap (·.frame))).get? q.1 = some q.2 ∧ g.get? q.1 = none ∧ base.get? q.1 = none := fun q hq => by
    refine ⟨hideAll_get _ (N q hq).1 fun hm => ?_, (N q hq).2.2, fresh_of_stays K.stays (N q hq).2.2⟩
    obtain ⟨env, he, hf⟩ := List.mem_filterMap.mp hm
    rcases List.mem_cons.mp he with rfl | he
    · exact (N q hq).2.1 (Option.some.inj hf).symm
    · obtain ⟨o, ho, _⟩ := (K.frames.mem (List.mem_filterMap.mpr ⟨env, he, hf⟩)).2
      rw [(N q hq).2.2] at ho; cases ho
  obtain ⟨t, dd, he, htn, ht⟩ := hx.there
  have fresh : ∀ b, h.get? b = none → (hideAll h ((envOf name scope L a cd :: outer).filterMap (·.frame))).get? b = none := fun b hb => by
    cases q : (hideAll h ((envOf name scope L a cd :: outer).filterMap (·.frame))).get? b with
    | none => rfl
    | some o => have := of_hideAll _ q; rw [hb] at this; cases this
  refine wpAny_leaving_firstW (a0 := .ref t) K'.stack ((funFrames_hide K'.frames hin).of_keeps fun b o hb _ => ⟨o, hx.keeps b o hb, rfl⟩) rfl he (fun b o hb => hx.keeps b o (of_hideAll _ hb)) (fresh e hx.new) rfl rfl rfl fun h' hL => ?_
  obtain ⟨k1, ⟨_, _, k2⟩, k3, k4⟩ := hL
  have R : RaisedS base g outer e cls t vs news h' := ⟨⟨_, st, sg, hl, ⟨k1, fresh e hx.new, k2, k3⟩, fresh t htn⟩, Heap.TupAt.of_slots ⟨_, _, ht, rfl, rfl⟩ k4⟩
  exact hQ h' t R R.toK (((Heap.UpToSlots.of_keeps F.keep).trans (Heap.UpToSlots.of_keeps hx.keeps)).trans k4)
end
end Mine
end
namespace Mine
theorem pad1 {prog : PySem.Program} {w : PySem.World} {A : PySem.Around} {E : PySem.Value → PySem.Shared → Prop} {s : PySem.Shared} {env : PySem.Env} {Q : PySem.Flow → PySem.Shared → Prop} (h : Q .next s) : PySem.wpAny (PySem.model prog w) A (PySem.execs [] env) Q E s := by
  walk1
  exact h
end Mine
section
open PySem PySem.W PySem.Calls PyProof.Rows PySem.W.X PySem.W.XRun
namespace Mine
theorem xcl {h₀ h : Heap} {q : Addr} {o : Obj} {n : List (Addr × Obj)} (D : Mem h₀ h [] ((q, o) :: n)) : (∀ b o, h₀.get? b = some o → h.get? b = some o) ∧ h.get? q = some o ∧ h₀.get? q = none :=
  ⟨fun b o e => D.keep b o e (by rw [Bool.or_eq_true]; exact .inr rfl), (D.nw _ (List.Mem.head _)).1, (D.nw _ (List.Mem.head _)).2⟩
local macro_rules | `(tactic| x_close) => `(tactic| exact ⟨_, _, _, rfl, xcl ‹_›, rfl⟩)
noncomputable abbrev mwObj (e : Addr) : Obj := { cls := .type "method-wrapper", data := .fields #[.builtin "Exception.__init__", .ref e] }
set_option maxHeartbeats 8000000 in
theorem wd_get {w : World} {A : Around} {h : Heap} {g : Array GenState} {d : Drawn} {t : Nat} {os : OsState} {E : Value → Shared → Prop} {e tt : Addr}
    (X : (K w.params).In h) (he : h.get? e = some { cls := .ref 67, data := .fields #[.ref tt, .none, .none, .none, .bool false, .none] }) :
    wpAny (model PySem.Challenge.rw_jm0023_01.prog w) A (call (.builtin "wrapper_descriptor.__get__") [.builtin "Exception.__init__", .ref e, .ref 67])
      (fun v s' => ∃ h' q tk', v = .ref q ∧ ((∀ b o, h.get? b = some o → h'.get? b = some o) ∧ h'.get? q = some (mwObj e) ∧ h.get? q = none) ∧ s' = ⟨h', g, d, tk', os⟩) E ⟨h, g, d, t, os⟩ := by
  revert X; k_fill; intro X
  x_run
theorem wd_lookup : typeLookup (.type "wrapper_descriptor") "__get__" = pure (some (.builtin "wrapper_descriptor.__get__")) := by rw [typeLookup_type, builtinLookup_eq_fast]; kernel_rfl
theorem wd_type : typeOf (.builtin "Exception.__init__") = pure (.type "wrapper_descriptor") := by kernel_rfl
theorem super_ga_b {prog : Program} {w : World} {A : Around} {E : Value → Shared → Prop} {h : Heap} {g : Array GenState} {d : Drawn} {t : Nat} {os : OsState} {so D x C : Addr} {l₀ l : List Value} {KF : Frag} {name : Str} {tk : Tok} {Q : Fin → Shared → Prop}
    (hso : h.get? so = some { cls := .type "super", dict := none, data := .fields #[.ref D, .ref x, .ref C], slots := #[] }) (hno : Looks (model prog w) h (opaqueClassAbove (.ref C)) none)
    (hC : Looks (model prog w) h (mroOf (.ref C)) l₀) (hl : (l₀.dropWhile (· != .ref D)).drop 1 = l) (X : KF.In h)
    (hf : alongIn KF name l = some (some (.builtin "Exception.__init__"))) (hxC : x ≠ C) (hn : (name == ("__class__" : Str)) = false)
    (hq : wpAny (model prog w) A (call (.builtin "wrapper_descriptor.__get__") [.builtin "Exception.__init__", .ref x, .ref C]) (fun v s' => Q (.done (.ret v)) s') E ⟨h, g, d, t, os⟩) :
    wpAny (model prog w) A (Builtin.«super.__getattribute__» ⟨[.ref so, .str name tk], []⟩) Q E ⟨h, g, d, t, os⟩ := by
  have hlk := wd_lookup
  have hty := wd_type
  have hne : (Value.ref x == Value.ref C) = false := by simp [hxC]
  have hdt : ({ cls := .type "super", dict := none, data := .fields #[.ref D, .ref x, .ref C], slots := #[] } : Obj).data = .fields #[.ref D, .ref x, .ref C] := rfl
  have f0 : (#[.ref D, .ref x, .ref C] : Array Value)[0]? = some (.ref D) := rfl
  have f1 : (#[.ref D, .ref x, .ref C] : Array Value)[1]? = some (.ref x) := rfl
  have f2 : (#[.ref D, .ref x, .ref C] : Array Value)[2]? = some (.ref C) := rfl
  unfold Builtin.«super.__getattribute__»
  repeat (first
    | (with_reducible refine wpAny_field hso hdt f0 ?_) | (with_reducible refine wpAny_field hso hdt f1 ?_) | (with_reducible refine wpAny_field hso hdt f2 ?_)
    | (with_reducible refine ks_wpAny_notOpaque hno ?_)
    | (with_reducible refine Looks.at hC ?_; rw [hl])
    | (refine ks_forIn_along X (fun _ _ => rfl) rfl ?_ hf)
    | (with_reducible refine wpAny_of_eq hty ?_)
    | (with_reducible refine wpAny_of_eq hlk ?_)
    | (refine wpAny_mono hq (fun v s' hv => ?_) fun _ _ z => z)
    | (simp only [hn, hne, Bool.or_false, Bool.false_eq_true, if_false])
    | wp_step
    | dsimp only)
  all_goals exact hv
theorem getMethod_super_b {prog : Program} {w : World} {A : Around} {E : Value → Shared → Prop} {h : Heap} {g : Array GenState} {d : Drawn} {t : Nat} {os : OsState} {so D x C : Addr} {l₀ l : List Value} {KF : Frag} {name : Str} {pl : Sem Bool} {Q : Value × List Value → Shared → Prop} {Q1 : Value → Shared → Prop}
    (hso : h.get? so = some { cls := .type "super", dict := none, data := .fields #[.ref D, .ref x, .ref C], slots := #[] }) (hno : Looks (model prog w) h (opaqueClassAbove (.ref C)) none)
    (hC : Looks (model prog w) h (mroOf (.ref C)) l₀) (hl : (l₀.dropWhile (· != .ref D)).drop 1 = l) (X : KF.In h)
    (hf : alongIn KF name l = some (some (.builtin "Exception.__init__"))) (hxC : x ≠ C) (hn : (name == ("__class__" : Str)) = false)
    (hw : ∀ A', wpAny (model prog w) A' (call (.builtin "wrapper_descriptor.__get__") [.builtin "Exception.__init__", .ref x, .ref C]) Q1 (fun _ _ => False) ⟨h, g, d, t + 1, os⟩)
    (hq : ∀ v s', Q1 v s' → ∃ q, v = .ref q ∧ Q (v, []) s') :
    wpAny (model prog w) A (getMethod (.ref so) name pl) Q E ⟨h, g, d, t, os⟩ := by
  have hlk := F.ks_slot_super_ga.lookup
  have hcan := F.ks_canon_super_ga
  have hT : ∀ t', (⟨h, g, d, t', os⟩ : Shared).TypeIs (.ref so) "super" := fun _ => ⟨_, hso, rfl⟩
  unfold getMethod
  refine wpAny_bind (wpAny_specialOf (hT _) hlk ?_)
  show wpAny _ _ (if (Manifest.canonical "super.__getattribute__" != "object.__getattribute__") = true then _ else _) _ _ _
  rw [if_pos hcan]
  unfold getAttr getAttrBy
  refine wpAny_bind (wpAny_bind (wpAny_mkText (wpAny_holding (wpAny_bind (wpAny_typeOf (hT _) (wpAny_bind (wpAny_of_eq hlk ?_)))))))
  show wpAny _ _ (getAttrByItsOwn (.ref so) (.str name t) (.type "super") (.builtin "super.__getattribute__") true false) _ _ _
  unfold getAttrByItsOwn hookBefore callGetattribute boundAndCalled
  refine wpAny_bind (wpAny_of_eq (show (if onTheHeap (.type "super") then typeLookup (.type "super") "__getattr__" else pure none) = pure none from rfl) ?_)
  refine wpAny_bind (wpAny_attempt (wpAny_holding ?_))
  show wpAny _ _ (bindSpecial (.builtin "super.__getattribute__") (.ref so) >>= _) _ _ _
  refine wpAny_bind (wpAny_of_eq (F.ks_slot_super_ga.bind _) ?_)
  refine wpAny_mono (Q := Q1) (E := fun _ _ => False)
    (wpAny_call_entry F.ks_slot_super_ga (hT _) F.ks_entry_super_ga (super_ga_b hso hno hC hl X hf hxC hn (wpAny_mono (hw _) (fun v s' hv => ⟨_, rfl, hv⟩) fun _ _ z => z)) (F.ks_gaArgs_super _ _)) (fun v s' hv => ?_) fun _ _ z => z.elim
  obtain ⟨qv, rfl, hv⟩ := hq _ _ hv
  exact wpAny_pure (wpAny_pure hv)
theorem check_exc {M : Model} {A : Around} {E : Value → Shared → Prop} {h : Heap} {g : Array GenState} {d : Drawn} {t : Nat} {os : OsState} {nm q : Str} {C N : Addr} {bs bm bmB : List Value} {hdct : Bool} {sn : List Str} {sub : List Value} {ab : Bool} {col : Option Bool} {dd : Option Addr} {k0 k1 k2 k3 k5 : Option Value} {nid newId : String} (F : ExcBaseFacts "Exception" nid "Exception.__init__" bmB) {e tt : Addr} {v : Value} {Q : Unit → Shared → Prop}
    (hC : h.get? C = some (excClassObj nm q C N bs bm hdct sn sub ab col dd k0 k1 k2 k3 k5 newId))
    (he : h.get? e = some { cls := .ref C, data := .fields #[.ref tt, .none, .none, .none, .bool false, .none] })
    (hq : Q () ⟨h, g, d, t, os⟩) : wpAny M A (checkBoundCall "Exception.__init__" ⟨[.ref e, v], []⟩) Q E ⟨h, g, d, t, os⟩ := by
  simp only [checkBoundCall, F.initKind, F.initRow]
  repeat (first | (with_reducible refine wpAny_loadPart_at he ?_) | with_reducible refine wpAny_loadPart_at hC ?_ | wp_step)
  exact hq
theorem codeAny_call_mw {prog : Program} {w : World} {A : Around} {b e : Addr} {v : Value} {R : PySem.Result → Shared → Prop} {s : Shared} (hb : s.heap.get? b = some (mwObj e))
    (hc : ∀ (A : Around) (Q : Unit → Shared → Prop) (E : Value → Shared → Prop), Q () s → wpAny (model prog w) A (checkBoundCall "Exception.__init__" ⟨[.ref e, v], []⟩) Q E s)
    (hq : codeAny (model prog w) A (.builtin "Exception.__init__" ⟨[.ref e, v], []⟩) R s) : codeAny (model prog w) A (.call (.ref b) ⟨[v], []⟩) R s := by
  refine codeAny_of_tree ?_
  show wpAny _ A.in1 (callAny (.ref b) ⟨[v], []⟩) _ _ _
  unfold callAny
  refine wpAny_bind (wpAny_load hb ?_)
  show wpAny _ _ (do checkBoundCall "Exception.__init__" ⟨[.ref e, v], []⟩; again (.builtin "Exception.__init__" ⟨[.ref e, v], []⟩)) _ _ _
  refine wpAny_bind (hc _ _ _ (wpAny_pure ⟨Code.quiet_builtin _ (by decide +kernel), hq⟩))
theorem mw_call {prog : Program} {w : World} {A : Around} {E : Value → Shared → Prop} {h : Heap} {g : Array GenState} {d : Drawn} {t : Nat} {os : OsState} {nm q : Str} {C N : Addr} {bs bm bmB : List Value} {hdct : Bool} {sn : List Str} {sub : List Value} {ab : Bool} {col : Option Bool} {dd : Option Addr} {k0 k1 k2 k3 k5 : Option Value} {nid newId : String}
    (F : ExcBaseFacts "Exception" nid "Exception.__init__" bmB) {e tt qa : Addr} {v : Value} {Q : Value → Shared → Prop}
    (hC : h.get? C = some (excClassObj nm q C N bs bm hdct sn sub ab col dd k0 k1 k2 k3 k5 newId))
    (he : h.get? e = some { cls := .ref C, data := .fields #[.ref tt, .none, .none, .none, .bool false, .none] }) (hqa : h.get? qa = some (mwObj e))
    (hq : Q .none ⟨(h.push { cls := .type "tuple", data := .seq [v].toArray }).update e (Obj.mapFields (·.setIfInBounds 0 (.ref h.objs.size))), g, d, t, os⟩) :
    wpAny (model prog w) A (call (.ref qa) [v]) Q E ⟨h, g, d, t, os⟩ := by
  refine wpAny_call (codeAny_call_mw hqa (fun _ _ _ => check_exc F hC he) ?_)
  refine codeAny_builtin F.initEntry ?_
  rw [Around.under_plainId F.init.plain _]
  wp_walk
  exact hq
end Mine
end
section
open PySem PySem.W PySem.Calls PyProof.Rows
open PySem.Builtin PySem.Builtin.ObjectAttr
namespace Mine
theorem osa_exc {prog : Program} {w : World} {A : Around} {h : Heap} {g : Array GenState} {d : Drawn} {t : Nat} {os : OsState} {R : PySem.Result → Shared → Prop} {KF : Frag} {x C : Addr} {vs : Array Value} {cd : ClassData} {name : Str} {tk : Tok} {v : Value} (X : KF.In h)
    (hx : h.get? x = some { cls := .ref C, data := .fields vs }) (hc : clsIn KF C = some cd) (hm : mroIn KF C (.type "object") = some true) (hf : findIn KF (.ref C) name = some none)
    (hp : refuseLoop (.ref x) "__setattr__" cd.mro = pure ()) (hd : cd.hasDict = true)
    (hq : ∀ h' dd tk', (∀ b o, b ≠ x → h.get? b = some o → h'.get? b = some o) → h'.get? x = some { cls := .ref C, dict := some dd, data := .fields vs } → R (.ok (.ret .none)) ⟨h', g, d, tk', os⟩) :
    codeAny (model prog w) A (.call (.builtin "object.__setattr__") ⟨[.ref x, .str name tk, v], []⟩) R ⟨h, g, d, t, os⟩ := by
  have SF := PySem.F.store_object
  have I : PySem.W.InstAt h x { cls := .ref C, data := .fields vs } C none := ⟨hx, rfl, rfl, trivial⟩
  have sub : Looks (model prog w) h (isInstance (.ref x) (.type "object")) true := I.type.andThen (looks_mroIn X hm)
  refine codeAny_call_builtin SF.slot.plain SF.entry (@check_slot (model prog w) _ _ ⟨h, g, d, t, os⟩ "object.__setattr__" "object" "__setattr__" (.ref x) [.str name tk, v] [] _ SF.kind SF.split sub (SF.args (.ref x) (.str name tk) v) ?_)
  have hmr : Looks (model prog w) h (mroOf (.ref C)) cd.mro := (looks_clsIn X hc).andThen .now
  rw [osa_eq, refuse_eq]
  refine wpAny_bind (wpAny_bind (I.type.here (wpAny_bind (hmr.here ?_))))
  rw [hp]
  refine wpAny_pure (wpAny_bind (I.type.here (wpAny_bind ((looks_findIn X hf).here ?_))))
  refine wpAny_bind (wpAny_pure ?_)
  show wpAny _ _ (storeInOwnDict (.ref x) (.ref C) (.str name tk) name v false) _ _ _
  refine wpAny_bind (wpAny_pure (wpAny_bind (wpAny_bind (wpAny_loadPart hx (wpAny_bind ((looks_clsIn X hc).here ?_))))))
  rw [hd]
  rw [if_neg (by decide)]
  dsimp only
  rw [if_neg (by simp [typeHasDict])]
  have hx₁ : (h.push { cls := .type "dict", data := .dict #[] }).get? x = some { cls := .ref C, data := .fields vs } := Heap.get?_push_of_some _ hx
  have hxs : x ≠ h.objs.size := Nat.ne_of_lt (Heap.lt_size hx)
  refine wpAny_bind (wpAny_alloc' ?_)
  refine wpAny_bind (wpAny_update' hx₁ ?_)
  refine wpAny_pure ?_
  have hgd : ((h.push { cls := .type "dict", data := .dict #[] }).update x fun o => { cls := o.cls, dict := some h.objs.size, data := o.data, slots := o.slots }).get? h.objs.size
      = some { cls := .type "dict", data := .dict #[] } :=
    (Heap.get?_update_ne _ _ _ _ hxs.symm).trans (Heap.get?_push_at rfl rfl)
  have hnd : ((h.push { cls := .type "dict", data := .dict #[] }).update x fun o => { cls := o.cls, dict := some h.objs.size, data := o.data, slots := o.slots }).Ns h.objs.size (fun _ => none) :=
    ⟨_, #[], _, hgd, rfl, fun e he => absurd he (by simp), fun _ => rfl⟩
  show wpAny _ _ (storeInDict h.objs.size (.str name tk) name v) _ _ _
  unfold storeInDict newKeyGuard
  refine wpAny_bind (wpAny_pure (wpAny_bind (wpAny_nsSet1 (Heap.Ns1.of_empty hnd) fun h' hn' hs => ?_)))
  obtain ⟨oD, esD, epD, hoD, hdD, hcD⟩ := hn'.count (Within.cons name v Within.nil)
  refine wpAny_bind (wpAny_lookBehind hoD (by rw [hdD]; exact pastItsLine_dict (Nat.le_trans hcD (by rw [List.length_cons, List.length_nil, sizeLine_eq]; omega))) ?_)
  refine wpAny_pure ?_
  refine hq h' h.objs.size _ (fun b ob hbx hb => ?_) ?_
  · exact (hs.2 b (Nat.ne_of_lt (Heap.lt_size hb))).trans ((Heap.get?_update_ne _ _ _ _ hbx).trans (Heap.get?_push_of_some _ hb))
  · exact (hs.2 x hxs).trans (Heap.get?_update_self _ hx₁ rfl)
theorem set_exc {prog : Program} {w : World} {A : Around} {E : Value → Shared → Prop} {h : Heap} {g : Array GenState} {d : Drawn} {t : Nat} {os : OsState} {Q : Unit → Shared → Prop} {KF : Frag} {x C : Addr} {vs : Array Value} {cd : ClassData} {name : Str} {v : Value} (X : KF.In h)
    (hx : h.get? x = some { cls := .ref C, data := .fields vs }) (hs : findIn KF (.ref C) "__setattr__" = some (some (.builtin "object.__setattr__"))) (hc : clsIn KF C = some cd) (hm : mroIn KF C (.type "object") = some true) (hf : findIn KF (.ref C) name = some none)
    (hp : refuseLoop (.ref x) "__setattr__" cd.mro = pure ()) (hd : cd.hasDict = true)
    (hq : ∀ h' dd tk', (∀ b o, b ≠ x → h.get? b = some o → h'.get? b = some o) → h'.get? x = some { cls := .ref C, dict := some dd, data := .fields vs } → Q () ⟨h', g, d, tk', os⟩) :
    wpAny (model prog w) A (setAttr (.ref x) name v) Q E ⟨h, g, d, t, os⟩ :=
  set_plain (od := none) X ⟨hx, rfl, rfl, trivial⟩ hs (osa_exc X hx hc hm hf hp hd hq)
end Mine
end
namespace Mine
theorem pad2 {prog : PySem.Program} {w : PySem.World} {A : PySem.Around} {E : PySem.Value → PySem.Shared → Prop} {s : PySem.Shared} {env : PySem.Env} {Q : PySem.Flow → PySem.Shared → Prop} (h : Q .next s) : PySem.wpAny (PySem.model prog w) A (PySem.execs [] env) Q E s := by
  walk1
  exact h
end Mine
section
open PySem PySem.W PySem.Calls PyProof.Rows
open PySem.Builtin.ObjectAttr (refuseIfOverridden)
namespace Mine
theorem fr_step {g h h' : Heap} {L x : Addr} {m : Str → Option Value} (F : Fr g L h m) (hx : g.get? x = none) (hL : x ≠ L) (k : ∀ b o, b ≠ x → h.get? b = some o → h'.get? b = some o) : Fr g L h' m := by
  obtain ⟨⟨oL, es, ep, hL', r⟩, kp, ab⟩ := F
  exact ⟨⟨oL, es, ep, k _ _ (Ne.symm hL) hL', r⟩, fun b o e => k b o (fun q => by rw [q, hx] at e; cases e) (kp b o e), ab⟩
theorem fr_keep {g h h' : Heap} {L : Addr} {m : Str → Option Value} (F : Fr g L h m) (k : ∀ b o, h.get? b = some o → h'.get? b = some o) : Fr g L h' m := by
  obtain ⟨⟨oL, es, ep, hL', r⟩, kp, ab⟩ := F
  exact ⟨⟨oL, es, ep, k _ _ hL', r⟩, fun b o e => k b o (kp b o e), ab⟩
theorem news_keep {g h h' : Heap} {L : Addr} {news : List (Addr × Obj)} (N : News g L h news) (k : ∀ b o, h.get? b = some o → h'.get? b = some o) : News g L h' news :=
  fun p hp => ⟨k _ _ (N p hp).1, (N p hp).2⟩
theorem news_new {g h h' : Heap} {L q : Addr} {o : Obj} {m : Str → Option Value} {news : List (Addr × Obj)} (F : Fr g L h m) (N : News g L h news) (k : ∀ b o, h.get? b = some o → h'.get? b = some o) (hq : h'.get? q = some o) (hn : h.get? q = none) : News g L h' ((q, o) :: news) := fun p hp => by
  rcases List.mem_cons.mp hp with rfl | hp
  · obtain ⟨oL, es, ep, hL', r⟩ := F.ns
    refine ⟨hq, ⟨?_, ?_⟩⟩
    · intro e
      dsimp only at e
      rw [e, hL'] at hn
      cases hn
    show g.get? q = none
    cases z : g.get? q with
    | none => rfl
    | some o => have := F.keep _ _ z; rw [hn] at this; cases this
  · exact news_keep N k p hp
theorem news_step {g h h' : Heap} {L x : Addr} {o : Obj} {news news' : List (Addr × Obj)} (N : News g L h news) (k : ∀ b o, b ≠ x → h.get? b = some o → h'.get? b = some o) (hx : h'.get? x = some o) (hL : x ≠ L) (hg : g.get? x = none) (hs : ∀ p ∈ news', p ∈ news ∧ p.1 ≠ x) : News g L h' ((x, o) :: news') := fun p hp => by
  rcases List.mem_cons.mp hp with rfl | hp
  · exact ⟨hx, hL, hg⟩
  · exact ⟨k _ _ (hs p hp).2 (N p (hs p hp).1).1, (N p (hs p hp).1).2⟩
theorem callWith_mws {M : Model} {A : Around} {E : Value → Shared → Prop} {s : Shared} {env : Env} {pos : Pos} {qa e : Addr} {e0 : PySem.Expr} {rest : List PySem.Expr} {Q : Value → Shared → Prop}
    (h : wpAny M A (spliced (backTo pos (starEach (e0 :: rest) env))) (fun vs s₁ => s₁.heap.get? qa = some (mwObj e) ∧ wpAny M A (call (.ref qa) vs) Q E s₁) E s)
    (he : starEach (e0 :: rest) env = (false, eval e0 env) :: starEach rest env := by rfl)
    (hplain : (backTo pos (starEach rest env)).any (·.1) = false := by rfl) :
    wpAny M A (callWith pos (.ref qa) [] (backTo pos (starEach (e0 :: rest) env)) []) Q E s := by
  have hp2 : (backTo pos (starEach (e0 :: rest) env)).any (·.1) = false := by
    rw [he]
    show (false || (backTo pos (starEach rest env)).any (·.1)) = false
    rw [hplain]; rfl
  unfold callWith
  refine wpAny_bind (wpAny_holding ?_)
  rw [he] at h hp2 ⊢
  refine Calls.evalArgs_plain (wpAny_mono h (fun vs s₁ h₁ => ?_) fun _ _ e => e)
  obtain ⟨hq, h₁⟩ := h₁
  refine wpAny_bind (wpAny_standAt ?_)
  obtain ⟨hp, g, d, tk, os⟩ := s₁
  refine wpAny_bind ?_
  unfold keeperOf
  refine wpAny_bind (wpAny_load hq ?_)
  show wpAny M A (pure Keeper.machine) _ _ _
  refine wpAny_pure ?_
  rw [show ((backTo pos ((false, eval e0 env) :: starEach rest env)).any (·.1) || ([] : List (Option PySem.Str × Sem Value)).any (·.1.isNone)) = false from by rw [hp2]; rfl]
  show wpAny M A ((call (.ref qa) vs) >>= _) _ _ _
  refine wpAny_bind (wpAny_mono h₁ (fun r s₂ h₂ => ?_) fun _ _ e => e)
  exact wpAny_bind (wpAny_holding (wpAny_point (wpAny_pure h₂)))
noncomputable def cd67 : ClassData := { name := (Str.ofString "DecodingError"), bases := [(.ref 24)], mro := [(.ref 67), (.ref 24), (.type "Exception"), (.type "BaseException"), (.type "object")], ns := 66, qualname := (Str.ofString "DecodingError"), hasDict := true, slotNames := [], subclasses := [], abstract := false, collection := none, hasDel := false }
set_option maxHeartbeats 8000000 in
theorem t_init {w : World} {hx : Option Value} {loose : List Str} {mean : ExcName → Option Value} {mg mb : Str → Option Value} {dp un : Nat} {gd : Option (List Code)} {env : Env} {outer : List Env} {A₀ : Around} {base h₀ : Heap} {L : Addr} {m : Str → Option Value} {news : List (Addr × Obj)} {s : Shared} {Q E : Value → Shared → Prop} {e t : Addr} {vs : List Value}
    (C : Cx w loose mean mg mb env outer A₀ base h₀ L m ((e, { cls := .ref 67, data := .fields #[.ref t, .none, .none, .none, .bool false, .none] }) :: (t, { cls := .type "tuple", data := .seq vs.toArray }) :: news) s.heap) (hroom : dp + 3 < recursionLimit) (hun : un + 50 < cLine)
    (hd : ∀ p ∈ news, p.1 ≠ e) (b : Array UInt8) (t1 t2 : Tok) (msg : Str)
    (hret : ∀ h' dd tt tk', (∀ p ∈ news, p.1 ≠ tt) → e ≠ tt → Fr h₀ L h' m → News h₀ L h' ((e, { cls := .ref 67, dict := some dd, data := .fields #[.ref tt, .none, .none, .none, .bool false, .none] }) :: (tt, { cls := .type "tuple", data := .seq [Value.str msg t1].toArray }) :: news) → Q .none { s with heap := h', toks := tk' }) :
    wpAny (model PySem.Challenge.rw_jm0023_01.prog w) (kE hx dp un gd env outer) (call (.ref 64) [.ref e, .str msg t1, .bytes b t2]) Q E s := by
  obtain ⟨B, F, X, N, T, hf, hk⟩ := C
  revert X; k_fill; intro X
  refine wpAny_call ?_
  (refine' ks_code_super ?k1 ?k2 ?k3 ?k4 ?k5 ?kA ?kF ?kK ?k6 ?k7 ?k8 ?k9 ?kB ?_ ?c1 ?c2 ?c3 ?c4; (case kA => exact rfl); (case kF => assumption); (case kK => assumption); (case k1 => k_asm); (case k2 => k_asm); (case k3 => k_asm); (case k4 => k_asm); (case k5 => k_asm); (case k6 => k_is); (case k7 => k_is); (case k8 => (simp only [recursionLimit] at *; (try dsimp only); omega)); (case k9 => exact BindsTo.of_eq rfl); (case kB => exact locs rfl); (case c1 => decide); (case c2 => exact rfl); (case c3 => exact rfl); (case c4 => exact rfl))
  intro g' L' h' FG' F' N' B' X' T' l1
  try dsimp only
  k_steps
  refine ks_node (x := e) (C := 67) (odx := none) (by k_asm) (by k_asm) (by k_asm) (by k_asm) (by k_is) (by rfl) (by rfl) ⟨(N' _ (List.Mem.head _)).1, rfl, rfl, trivial⟩ (by k_is) (by rfl) (by first | rfl | decide +kernel) (by k_is) (by k_is) (by k_is) (by k_is) (by decide) (by rfl) (by rfl) (by rfl) (by rfl) (by decide +kernel) (by first | boot_by_name | rfl | kernel_rfl) ?_
  intro so' h2 F2 N2 l2
  have he2 := (N2 _ (.tail _ (.head _))).1
  have X2 := X'.keeps F2.keep
  refine getMethod_super_b (N2 _ (.head _)).1 (looks_opaque X2 (by k_is)) ((looks_clsIn X2 (C := 67) (by k_is)).andThen .now) rfl X2 (by kernel_rfl) (fun q => ?_) (by decide) (fun A' => wd_get X2 he2) ?_
  · have z := X2 67 (o67 w.params) (by kernel_rfl)
    rw [← q, he2] at z
    exact nomatch (congrArg Obj.cls (Option.some.inj z))
  rintro v s3 ⟨h3, q3, tk3, rfl, ⟨k3, m3, n3⟩, rfl⟩
  refine ⟨_, rfl, ?_⟩
  have F3 := fr_keep F2 k3
  have N3 := news_new F2 N2 k3 m3 n3
  dsimp only
  refine callWith_mws (e := e) ?_
  k_steps
  have he3 := k3 _ _ he2
  have X3 := X'.keeps F3.keep
  have hC3 := X3 67 (o67 w.params) (by kernel_rfl)
  refine mw_call (C := 67) PySem.F.excBase_Exception hC3 he3 m3 ?_
  obtain ⟨h4, r4⟩ : ∃ h4, h4 = (h3.push { cls := .type "tuple", data := .seq [Value.str msg t1].toArray }).update e (Obj.mapFields (·.setIfInBounds 0 (.ref h3.objs.size))) := ⟨_, rfl⟩
  rw [← r4]
  have he3' := Heap.get?_push_of_some { cls := .type "tuple", data := .seq [Value.str msg t1].toArray } he3
  have hne : e ≠ h3.objs.size := Nat.ne_of_lt (Heap.lt_size he3)
  have k4 : ∀ b o, b ≠ e → h3.get? b = some o → h4.get? b = some o := fun b o hb hh => by
    rw [r4]
    exact (Heap.get?_update_ne _ _ _ _ hb).trans (Heap.get?_push_of_some _ hh)
  have e4 : h4.get? e = some { cls := .ref 67, data := .fields #[.ref h3.objs.size, .none, .none, .none, .bool false, .none] } := by
    rw [r4, Heap.get?_update_self _ he3' rfl]
    rfl
  have t4 : h4.get? h3.objs.size = some { cls := .type "tuple", data := .seq [Value.str msg t1].toArray } := by
    rw [r4]
    exact (Heap.get?_update_ne _ _ _ _ hne.symm).trans (Heap.get?_push_at rfl rfl)
  have hgE : g'.get? e = none := (N' _ (.head _)).2.2
  have heL : e ≠ L' := (N' _ (.head _)).2.1
  have nt : h3.get? h3.objs.size = none := Heap.get?_none_of_le (Nat.le_refl _)
  have ntg : g'.get? h3.objs.size = none := by
    cases z : g'.get? h3.objs.size with
    | none => rfl
    | some o => have := F3.keep _ _ z; rw [nt] at this; cases this
  have ntL : h3.objs.size ≠ L' := fun q => by
    obtain ⟨oL, es, ep, hL', r⟩ := F3.ns
    rw [← q, nt] at hL'; cases hL'
  have hpt : ∀ p ∈ news, p.1 ≠ h3.objs.size := fun p hp q => by
    have z := (N3 p (List.mem_cons_of_mem _ (List.mem_cons_of_mem _ (List.mem_cons_of_mem _ (List.mem_cons_of_mem _ hp))))).1
    rw [q, nt] at z; cases z
  generalize h3.objs.size = tt at e4 t4 hne ntg ntL hpt
  clear r4
  have F4 := fr_step F3 hgE heL k4
  have N4 : News g' L' h4 ((e, { cls := .ref 67, data := .fields #[.ref tt, .none, .none, .none, .bool false, .none] }) :: (tt, { cls := .type "tuple", data := .seq [Value.str msg t1].toArray }) :: news) := fun p hp => by
    rcases List.mem_cons.mp hp with rfl | hp
    · exact ⟨e4, heL, hgE⟩
    rcases List.mem_cons.mp hp with rfl | hp
    · exact ⟨t4, ntL, ntg⟩
    · have z := N3 p (List.mem_cons_of_mem _ (List.mem_cons_of_mem _ (List.mem_cons_of_mem _ (List.mem_cons_of_mem _ hp))))
      exact ⟨k4 _ _ (hd p hp) z.1, z.2⟩
  have X4 := X'.keeps F4.keep
  clear F3 N3 F2 N2 F' N' X3 X2 hC3 he3 he2 m3 n3 k3 k4 he3' l1 l2 nt
  k_steps
  refine set_exc (cd := cd67) X4 e4 (by kernel_rfl) (by kernel_rfl) (by kernel_rfl) (by kernel_rfl) ?_ rfl ?_
  · show PySem.refuseLoop (.ref e) "__setattr__" (.ref 67 :: .ref 24 :: _) = pure ()
    rw [refuseLoop_ref, refuseLoop_ref]
    exact PySem.F.store_Exception.passes _
  intro h5 dd tk5 k5 e5
  have F5 := fr_step F4 hgE heL k5
  have N5 : News g' L' h5 ((e, { cls := .ref 67, dict := some dd, data := .fields #[.ref tt, .none, .none, .none, .bool false, .none] }) :: (tt, { cls := .type "tuple", data := .seq [Value.str msg t1].toArray }) :: news) := fun p hp => by
    rcases List.mem_cons.mp hp with rfl | hp
    · exact ⟨e5, heL, hgE⟩
    rcases List.mem_cons.mp hp with rfl | hp
    · have z := N4 (tt, { cls := .type "tuple", data := .seq [Value.str msg t1].toArray }) (.tail _ (.head _))
      exact ⟨k5 _ _ hne.symm z.1, z.2⟩
    · have z := N4 p (List.mem_cons_of_mem _ (List.mem_cons_of_mem _ hp))
      exact ⟨k5 _ _ (hd p hp) z.1, z.2⟩
  clear F4 N4 X4 e4 t4 k5
  dsimp only
  k_steps
  exact hret _ _ _ _ hpt hne (by assumption) (by assumption)
end Mine
end
section
open PySem PySem.W PySem.Calls PyProof.Rows
open Sem (wp)
namespace Mine
section
variable {prog : Program} {w : World} {A : Around} {E : Value → Shared → Prop} {h : Heap} {g : Array GenState} {d : Drawn} {t : Nat} {os : OsState}
variable {nm q : Str} {C N : Addr} {bs bm bmB : List Value} {hdct : Bool} {sn : List Str} {sub : List Value} {ab : Bool} {col : Option Bool} {dd : Option Addr} {k0 k1 k2 k3 k5 : Option Value} {B Bn newId nid initId inN : String} {bmN : List Value}
theorem type_call_exc_initU (Fn : ExcBaseFacts Bn newId inN bmN) (hBn : bmB.contains (.type Bn) = true) (F : ExcBaseFacts B nid initId bmB) (T : OwnTail h bmB bm) {mN : Str → Option Value} {rest : List Value} {fI : Addr} {oI : Obj} {Q : Fin → Shared → Prop}
    (hC : h.get? C = some (excClassObj nm q C N bs bm hdct sn sub ab col dd k0 k1 k2 k3 k5 newId)) (hn : h.Ns N mN) (hi : mN "__init__" = some (.ref fI))
    (hfI : h.get? fI = some oI) (hfc : oI.cls = .type "function")
    (hq : ∀ h' e, Heap.MadeExcOf h h' e (.ref C) rest →
      wpAny (model prog w) (A.under (.builtin "type.__call__" ⟨.ref C :: rest, []⟩)) (call (.ref fI) (.ref e :: rest)) (fun r s' => r = .none ∧ Q (.done (.ret (.ref e))) s') E ⟨h', g, d, t, os⟩) (hrest : rest.length ≤ sizeLine := by size_fits) :
    wpAny (model prog w) (A.under (.builtin "type.__call__" ⟨.ref C :: rest, []⟩)) (Builtin.«type.__call__» ⟨.ref C :: rest, []⟩) Q E ⟨h, g, d, t, os⟩ := by
  repeat (first | with_reducible refine wpAny_loadPart_at hC ?_ | with_reducible refine wpAny_madeBy_exc hC ?_ | wp_step)
  refine codeAny_call_builtin_code (Code.quiet_builtin _ Fn.quiet) (wpAny_check_new_subU Fn hBn T hC ?_)
  refine codeAny_exc_new_subU Fn hBn F T hC ?_ hrest
  show wpAny _ _ _ _ _ _
  have hC₁ := Heap.get?_push_of_some { cls := .ref C, data := .fields #[.ref h.objs.size, .none, .none, .none, .bool false, .none] }
    (Heap.get?_push_of_some { cls := .type "tuple", data := .seq rest.toArray } hC)
  have hfI₁ := Heap.get?_push_of_some { cls := .ref C, data := .fields #[.ref h.objs.size, .none, .none, .none, .bool false, .none] }
    (Heap.get?_push_of_some { cls := .type "tuple", data := .seq rest.toArray } hfI)
  have hn₁ : ((h.push { cls := .type "tuple", data := .seq rest.toArray }).push { cls := .ref C, data := .fields #[.ref h.objs.size, .none, .none, .none, .bool false, .none] }).Ns N mN :=
    let ⟨o, es, ep, e, r⟩ := hn; ⟨o, es, ep, Heap.get?_push_of_some _ (Heap.get?_push_of_some _ e), r⟩
  have hget : ((h.push { cls := .type "tuple", data := .seq rest.toArray }).push
      { cls := .ref C, data := .fields #[.ref h.objs.size, .none, .none, .none, .bool false, .none] }).get? (h.objs.size + 1) = some
      { cls := .ref C, data := .fields #[.ref h.objs.size, .none, .none, .none, .bool false, .none] } := by heap_get
  have hcC : (Value.ref C :: bm).contains (.ref C) = true := by simp
  have T₁ := T.keeps (h' := (h.push { cls := .type "tuple", data := .seq rest.toArray }).push { cls := .ref C, data := .fields #[.ref h.objs.size, .none, .none, .none, .bool false, .none] })
    fun b o e => Heap.get?_push_of_some _ (Heap.get?_push_of_some _ e)
  unfold isInstance
  repeat (first | with_reducible refine wpAny_loadPart_at hget ?_ | (with_reducible refine wpAny_isSubtype_exc hC₁ ?_; rw [hcC]) | wp_step)
  show wpAny _ _ (typeLookup (.ref C) _) _ _ _
  refine wpAny_typeLookup_tail hC₁ hn₁ T₁ F.mroIs F.init.lookup ?_
  rw [hi]
  refine wpAny_holding (wpAny_bind ?_)
  unfold bindSpecial
  refine wpAny_bind (wpAny_typeOf (T := "function") ⟨_, hfI₁, hfc⟩ ?_)
  rw [if_pos (by decide)]
  refine wpAny_pure (wpAny_bind (wpAny_mono (hq _ (h.objs.size + 1) ⟨fun b o hb => Heap.get?_push_of_some _ (Heap.get?_push_of_some _ hb), Heap.get?_none_of_le (Nat.le_succ _), h.objs.size, hget, Heap.get?_none_of_le (Nat.le_refl _), ?_⟩) (fun r s' hr => ?_) fun _ _ x => x))
  · exact Heap.get?_push_of_some _ (Heap.get?_push_at rfl rfl)
  · obtain ⟨rfl, hQ⟩ := hr
    wp_walk
    exact hQ
theorem call_exc_initU (Fn : ExcBaseFacts Bn newId inN bmN) (hBn : bmB.contains (.type Bn) = true) (F : ExcBaseFacts B nid initId bmB) (T : OwnTail h bmB bm) {mN : Str → Option Value} {rest : List Value} {fI : Addr} {oI : Obj} {Q : Value → Shared → Prop}
    (hC : h.get? C = some (excClassObj nm q C N bs bm hdct sn sub ab col dd k0 k1 k2 k3 k5 newId)) (hn : h.Ns N mN) (hi : mN "__init__" = some (.ref fI))
    (hfI : h.get? fI = some oI) (hfc : oI.cls = .type "function")
    (hq : ∀ h' e, Heap.MadeExcOf h h' e (.ref C) rest →
      wpAny (model prog w) (A.under (.builtin "type.__call__" ⟨.ref C :: rest, []⟩)) (call (.ref fI) (.ref e :: rest)) (fun r s' => r = .none ∧ Q (.ref e) s') E ⟨h', g, d, t, os⟩) (hrest : rest.length ≤ sizeLine := by size_fits) :
    wpAny (model prog w) A (call (.ref C) rest) Q E ⟨h, g, d, t, os⟩ := by
  have f1 := tc_lookup
  have f2 := tc_bind (.ref C)
  have hT : (⟨h, g, d, t, os⟩ : Shared).TypeIs (.ref C) "type" := ⟨_, hC, rfl⟩
  refine wpAny_call (codeAny_of_tree ?_)
  show wpAny _ _ (callAny (.ref C) _) _ _ _
  repeat (any_goals (first | assumption | with_reducible refine wpAny_loadPart_at hC ?_ | wp_step))
  refine ⟨rfl, ?_⟩
  refine codeAny_call_builtin_at (Code.quiet_builtin _ (by decide +kernel)) entry_typeCall (wpAny_check_type_call_sub hC (type_call_exc_initU (hrest := hrest) Fn hBn F T hC hn hi hfI hfc fun h' e hm => ?_))
  exact hq h' e hm
end
end Mine
end
section
open PySem PySem.W PySem.Calls PyProof.Rows
namespace Mine
theorem ns_some_in {KF : Frag} {h : Heap} {N : Addr} {mg : Str → Option Value} {n : Str} {v : Value} (X : KF.In h) (G : h.Ns N mg) (e : nsIn KF N n = some (some v)) : mg n = some v := by
  obtain ⟨o, es, ep, ho, hd, _, hf⟩ := G
  unfold nsIn at e
  split at e
  · rename_i c d es' n' sl q
    have := X _ _ q
    rw [ho] at this
    cases this
    cases hd
    split at e
    · rename_i en he
      rw [← hf]
      unfold nsFind findBy
      rw [← Array.find?_toList, he]
      simpa using e
    · split at e <;> cases e
  · cases e
theorem tc_w {a : Addr} {rest : List Value} : (Code.builtin "type.__call__" ⟨.ref a :: rest, []⟩).weight = 1 := by kernel_rfl
theorem tc_u {a : Addr} {rest : List Value} : (Code.builtin "type.__call__" ⟨.ref a :: rest, []⟩).cUnits = 1 := by kernel_rfl
theorem tc_e {a : Addr} {rest : List Value} : (Code.builtin "type.__call__" ⟨.ref a :: rest, []⟩).envs = [] := by kernel_rfl
theorem under_tc {hx : Option Value} {dp un : Nat} {gd : Option (List Code)} {env : Env} {outer : List Env} {a : Addr} {rest : List Value} : (kE hx dp un gd env outer).under (.builtin "type.__call__" ⟨.ref a :: rest, []⟩) = kE hx (dp + 1) (un + 1) (pushGuards (Code.builtin "type.__call__" ⟨.ref a :: rest, []⟩).guards gd) env outer := by
  simp only [Around.under, tc_w, tc_u, tc_e]
  rfl
theorem c_err {w : World} {hx : Option Value} {loose : List Str} {mean : ExcName → Option Value} {mg mb : Str → Option Value} {dp un : Nat} {gd : Option (List Code)} {env : Env} {outer : List Env} {A₀ : Around} {base h₀ : Heap} {L : Addr} {m : Str → Option Value} {news : List (Addr × Obj)} {s : Shared} {Q E : Value → Shared → Prop}
    (C : Cx w loose mean mg mb env outer A₀ base h₀ L m news s.heap) (hroom : dp + 8 < recursionLimit) (hun : un + 60 < cLine)
    (b : Array UInt8) (t1 t2 : Tok) (msg : Str)
    (hret : ∀ h' e dd tt tk', (∀ p ∈ news, p.1 ≠ e ∧ p.1 ≠ tt) → e ≠ tt → Fr h₀ L h' m → News h₀ L h' ((e, { cls := .ref 67, dict := some dd, data := .fields #[.ref tt, .none, .none, .none, .bool false, .none] }) :: (tt, { cls := .type "tuple", data := .seq [Value.str msg t1].toArray }) :: news) → Q (.ref e) { s with heap := h', toks := tk' }) :
    wpAny (model PySem.Challenge.rw_jm0023_01.prog w) (kE hx dp un gd env outer) (call (.ref 67) [.str msg t1, .bytes b t2]) Q E s := by
  obtain ⟨h, g, d, t, os⟩ := s
  obtain ⟨B, F, X₀, N, T, hf, hk⟩ := C
  have X := X₀.keeps F.keep
  have hC : h.get? 67 = some (o67 w.params) := X 67 (o67 w.params) (by kernel_rfl)
  have hn : h.Ns 66 (h.nsMap 66) := .of_isNs (isNs_of_in X (by kernel_rfl))
  refine call_exc_initU (C := 67) (N := 66) (mN := h.nsMap 66) (fI := 64) PySem.F.excBase_Exception (by decide) PySem.F.excBase_Exception (tail_of_in X (by kernel_rfl)) hC hn (ns_some_in X hn (by kernel_rfl)) (X 64 (o64 w.params) (by kernel_rfl)) rfl (fun h1 e hm => ?_)
  obtain ⟨tt, he, htn, ht⟩ := hm.there
  rw [under_tc]
  have F1 := fr_keep F hm.keeps
  have N1 := news_new F N hm.keeps he hm.new
  have N2 := news_new F N hm.keeps ht htn
  have hne : e ≠ tt := fun q => by rw [q, ht] at he; cases he
  refine t_init (t := tt) (vs := [.str msg t1, .bytes b t2]) (news := news) ⟨B, F1, X₀, fun p hp => ?_, T, hf, hk⟩ (by omega) (by omega) (fun p hp q => ?_) b t1 t2 msg (fun h' dd tt' tk' z1 z2 F' N' => ⟨rfl, hret h' e dd tt' tk' (fun p hp => ⟨fun q => ?_, z1 p hp⟩) z2 F' N'⟩)
  · rcases List.mem_cons.mp hp with rfl | hp
    · exact N1 _ (.head _)
    · exact N2 _ hp
  · have z := (N p hp).1
    rw [q, hm.new] at z; cases z
  · have z := (N p hp).1
    rw [q, hm.new] at z; cases z
end Mine
end
section
open PySem PySem.W PySem.Calls PyProof.Rows
namespace Mine
section
variable {M : Model} {A : Around} {E : Value → Shared → Prop} {s' : Shared} {base g h : Heap} {outer : List Env} {L a e tt : Addr} {m : Str → Option Value} {name : Str} {scope : Scope} {cd : Value} {Q : Unit → Shared → Prop} {news : List (Addr × Obj)}
theorem leave_led {c2 : Value} {cls : Value} {vs : List Value} {dd : Option Addr} (K : Below A base outer g) (F : Fr g L s'.heap m)
    (N : News g L s'.heap ((e, { cls := cls, dict := dd, data := .fields #[.ref tt, .none, c2, .none, .bool false, .none] }) :: (tt, { cls := .type "tuple", data := .seq vs.toArray }) :: news))
    (hd : ∀ p ∈ news, p.1 ≠ e ∧ p.1 ≠ tt)
    (hQ : ∀ h' t, RaisedS base g outer e cls t vs news h' → RaisedK base outer e cls t vs news h' → g.UpToSlots h' → Q () { s' with heap := h' }) (hk : scope.kind = .function := by rfl) :
    wpAny M (A.deeper (envOf name scope L a cd)) (leaving (envOf name scope L a cd) (.ref e)) Q E s' := by
  obtain ⟨h, gg, d, t, os⟩ := s'
  have K' := K.push (name := name) (a := a) (cd := cd) F hk
  have he := (N _ (.head _))
  have ht := (N _ (.tail _ (.head _)))
  have hfresh : ∀ b, g.get? b = none → b ≠ L → b ∉ (envOf name scope L a cd :: outer).filterMap (·.frame) := fun b hb hbL hm => by
    obtain ⟨env, he', hf⟩ := List.mem_filterMap.mp hm
    rcases List.mem_cons.mp he' with rfl | he'
    · exact hbL (Option.some.inj hf).symm
    · obtain ⟨o, ho, _⟩ := (K.frames.mem (List.mem_filterMap.mpr ⟨env, he', hf⟩)).2
      rw [hb] at ho; cases ho
  have hin : ∀ env ∈ (envOf name scope L a cd :: outer), ∀ b, env.frame = some b → b ∈ e :: tt :: (envOf name scope L a cd :: outer).filterMap (·.frame) := fun env he b hb => List.mem_cons_of_mem _ (List.mem_cons_of_mem _ (List.mem_filterMap.mpr ⟨env, he, hb⟩))
  have hout : ∀ b o, h.get? b = some o → b ≠ e → b ≠ tt → b ∉ (envOf name scope L a cd :: outer).filterMap (·.frame) → (hideAll h (e :: tt :: (envOf name scope L a cd :: outer).filterMap (·.frame))).get? b = some o := fun b o q h1 h2 h3 =>
    hideAll_get _ q fun hm => by
      rcases List.mem_cons.mp hm with z | hm
      · exact h1 z
      rcases List.mem_cons.mp hm with z | hm
      · exact h2 z
      · exact h3 hm
  have bg : ∀ b, g.get? b = none → base.get? b = none := fun b hb => fresh_of_stays K.stays hb
  have st : base.StaysIn (hideAll h (e :: tt :: (envOf name scope L a cd :: outer).filterMap (·.frame))) := fun b o q =>
    hout b o (K'.stays b o q) (fun z => by rw [z, bg _ he.2.2] at q; cases q) (fun z => by rw [z, bg _ ht.2.2] at q; cases q) fun hm => by
      rw [(K'.frames.mem hm).1] at q; cases q
  have sg : ∀ b o, g.get? b = some o → b ∉ outer.filterMap (·.frame) → (hideAll h (e :: tt :: (envOf name scope L a cd :: outer).filterMap (·.frame))).get? b = some o := fun b o q nm =>
    hout b o (F.keep b o q) (fun z => by rw [z, he.2.2] at q; cases q) (fun z => by rw [z, ht.2.2] at q; cases q) fun hm => by
      rcases kts_mem hm with z | z
      · rw [z, kts_self F] at q
        cases q
      · exact nm z
  have hl : ∀ q ∈ news, (hideAll h (e :: tt :: (envOf name scope L a cd :: outer).filterMap (·.frame))).get? q.1 = some q.2 ∧ g.get? q.1 = none ∧ base.get? q.1 = none := fun q hq => by
    have z := N q (.tail _ (.tail _ hq))
    exact ⟨hout _ _ z.1 (hd q hq).1 (hd q hq).2 (hfresh _ z.2.2 z.2.1), z.2.2, bg _ z.2.2⟩
  have hne : (hideAll h (e :: tt :: (envOf name scope L a cd :: outer).filterMap (·.frame))).get? e = none := hideAll_none _ (.head _)
  have hnt : (hideAll h (e :: tt :: (envOf name scope L a cd :: outer).filterMap (·.frame))).get? tt = none := hideAll_none _ (.tail _ (.head _))
  refine wpAny_leaving_firstW (a0 := .ref tt) K'.stack (funFrames_hide K'.frames hin) rfl he.1 (fun b o hb => of_hideAll _ hb) hne rfl rfl rfl fun h' hL => ?_
  obtain ⟨k1, ⟨_, _, k2⟩, k3, k4⟩ := hL
  have R : RaisedS base g outer e cls tt vs news h' := ⟨⟨_, st, sg, hl, ⟨k1, hne, k2, k3⟩, hnt⟩, Heap.TupAt.of_slots ⟨_, _, ht.1, rfl, rfl⟩ k4⟩
  exact hQ h' tt R R.toK ((Heap.UpToSlots.of_keeps F.keep).trans k4)
end
end Mine
end
section
open PySem PySem.W PySem.Calls PyProof.Rows
namespace Mine
section
variable {M : Model} {A : Around} {E : Value → Shared → Prop} {env : Env}
variable {nm q : Str} {C N : Addr} {bs bm : List Value} {hdct : Bool} {sn : List Str} {sub : List Value} {ab : Bool} {col : Option Bool} {dd : Option Addr} {k0 k1 k2 k3 k5 : Option Value} {newId : String}
theorem raiseStmt_madeD {s : Shared} {x : Sem Value} {Q : Flow → Shared → Prop} (hbase : bm.contains (.type "BaseException") = true) (hh : A.handled = none)
    (h : wpAny M A x (fun v s₁ => ∃ e t de, v = .ref e ∧ s₁.heap.get? C = some (excClassObj nm q C N bs bm hdct sn sub ab col dd k0 k1 k2 k3 k5 newId) ∧
      s₁.heap.get? e = some { cls := .ref C, dict := de, data := .fields #[.ref t, .none, .none, .none, .bool false, .none] } ∧ E (.ref e) s₁) E s) :
    wpAny M A (raiseStmt env (some x) none) Q E s := by
  have hcB : (Value.ref C :: bm).contains (.type "BaseException") = true := by rw [List.contains_cons, hbase, Bool.or_true]
  unfold raiseStmt
  refine wpAny_bind (wpAny_mono h (fun v s₁ h₁ => ?_) fun _ _ x => x)
  obtain ⟨e, t, de, rfl, hC, he, hE⟩ := h₁
  obtain ⟨hp, g, d, tk, os⟩ := s₁
  repeat (first | with_reducible refine wpAny_loadPart_at he ?_ | with_reducible refine wpAny_loadPart_at hC ?_ | (with_reducible refine wpAny_isSubtype_exc hC ?_; rw [hcB]) | wp_step)
  exact wpAny_raiseNew_none hh hE
end
section
variable {prog : Program} {w : World} {A : Around} {E : Value → Shared → Prop} {s : Shared} {env : Env}
variable {nm q : Str} {C N : Addr} {bs bm : List Value} {hdct : Bool} {sn : List Str} {sub : List Value} {ab : Bool} {col : Option Bool} {dd : Option Addr} {k0 k1 k2 k3 k5 : Option Value} {newId : String}
theorem Raise_callD {x : Str} {np cpos pos : Pos} {args : List PySem.Expr} {Q : Flow → Shared → Prop}
    (hbase : bm.contains (.type "BaseException") = true) (hh : A.handled = none) (hplain : (backTo cpos (starEach args env)).any (·.1) = false)
    (h : wpAny (model prog w) A (eval (.Name x np) env) (fun f s₁ => f = .ref C ∧ wpAny (model prog w) A (evalArgs (.ref C) true (backTo cpos (starEach args env)) [])
      (fun a s₂ => a.kw = [] ∧ s₂.heap.get? C = some (excClassObj nm q C N bs bm hdct sn sub ab col dd k0 k1 k2 k3 k5 newId) ∧
        wpAny (model prog w) A (call (.ref C) a.pos) (fun v s₃ => ∃ e t de, v = .ref e ∧ s₃.heap.get? C = some (excClassObj nm q C N bs bm hdct sn sub ab col dd k0 k1 k2 k3 k5 newId) ∧
          s₃.heap.get? e = some { cls := .ref C, dict := de, data := .fields #[.ref t, .none, .none, .none, .bool false, .none] } ∧ E (.ref e) s₃) E s₂) E s₁) E s) :
    wpAny (model prog w) A (exec (.Raise (some (.Call (.Name x np) args [] cpos)) none pos) env) Q E s := by
  rw [arm_exec_Raise]
  refine wpAny_bind (wpAny_standAt (raiseStmt_madeD (C := C) (nm := nm) (q := q) (N := N) (bs := bs) (bm := bm) (hdct := hdct) (sn := sn) (sub := sub) (ab := ab) (col := col) (dd := dd) (k0 := k0) (k1 := k1) (k2 := k2) (k3 := k3) (k5 := k5) (newId := newId) hbase hh (wpAny_bind (wpAny_mono (wpAny_Call_ofName (wpAny_mono h (fun f s₁ h₁ => ?_) fun _ _ x => x)) (fun v s₃ h₃ => wpAny_bind (wpAny_standAt (wpAny_pure h₃))) fun _ _ x => x))))
  obtain ⟨rfl, h₁⟩ := h₁
  unfold callWith
  refine wpAny_bind (wpAny_holding (wpAny_mono h₁ (fun a s₂ h₂ => wpAny_bind (wpAny_standAt ?_)) fun _ _ x => x))
  obtain ⟨apos, akw⟩ := a
  obtain ⟨hkw, hC, h₂⟩ := h₂
  obtain rfl : akw = [] := hkw
  obtain ⟨hp, g, d, tk, os⟩ := s₂
  simp only [hplain]
  refine wpAny_bind (wpAny_keeperOf_exc hC ?_)
  exact wpAny_bind (wpAny_mono h₂ (fun v s₃ h₃ => wpAny_bind (wpAny_holding (wpAny_point (wpAny_pure h₃)))) fun _ _ x => x)
end
end Mine
end
section
open PySem PySem.W PySem.Calls PyProof.Rows
namespace Mine
/-- `raise DecodingError_exceptions(msg, octets)`: the name, the args, then c_err -/
theorem raise_67 {w : World} {loose : List Str} {mean : ExcName → Option Value} {mg mb : Str → Option Value} {dp un : Nat} {gd : Option (List Code)} {env : Env} {outer : List Env} {A₀ : Around} {base h₀ : Heap} {L : Addr} {m : Str → Option Value} {news : List (Addr × Obj)} {s : Shared} {E : Value → Shared → Prop}
    {x : Str} {np cpos pos : Pos} {args : List PySem.Expr} {Q : Flow → Shared → Prop}
    (hroom : dp + 8 < recursionLimit) (hun : un + 60 < cLine) (hplain : (backTo cpos (starEach args env)).any (·.1) = false)
    (h : wpAny (model PySem.Challenge.rw_jm0023_01.prog w) (kT dp un gd env outer) (eval (.Name x np) env) (fun f s₁ => f = .ref 67 ∧ wpAny (model PySem.Challenge.rw_jm0023_01.prog w) (kT dp un gd env outer) (evalArgs (.ref 67) true (backTo cpos (starEach args env)) [])
      (fun a s₂ => ∃ msg t1 b t2, a = ⟨[.str msg t1, .bytes b t2], []⟩ ∧ Cx w loose mean mg mb env outer A₀ base h₀ L m news s₂.heap ∧
        ∀ h' e dd tt tk', (∀ p ∈ news, p.1 ≠ e ∧ p.1 ≠ tt) → e ≠ tt → Fr h₀ L h' m → News h₀ L h' ((e, { cls := .ref 67, dict := some dd, data := .fields #[.ref tt, .none, .none, .none, .bool false, .none] }) :: (tt, { cls := .type "tuple", data := .seq [Value.str msg t1].toArray }) :: news) → E (.ref e) { s₂ with heap := h', toks := tk' }) E s₁) E s) :
    wpAny (model PySem.Challenge.rw_jm0023_01.prog w) (kT dp un gd env outer) (exec (.Raise (some (.Call (.Name x np) args [] cpos)) none pos) env) Q E s := by
  refine Raise_callD (C := 67) (bm := [(.ref 24), (.type "Exception"), (.type "BaseException"), (.type "object")]) (nm := Str.ofString "DecodingError") (q := Str.ofString "DecodingError") (N := 66) (bs := [.ref 24]) (hdct := true) (sn := []) (sub := []) (ab := false) (col := none) (dd := none)
    (k0 := some (.ref 49)) (k1 := none) (k2 := some (.str (Str.ofString "DecodingError") 237)) (k3 := some (.str (Str.ofString "DecodingError") 245)) (k5 := some (.bool true)) (newId := "Exception.__new__") (by decide) rfl hplain
    (wpAny_mono h (fun f s₁ h₁ => ⟨h₁.1, wpAny_mono h₁.2 (fun a s₂ h₂ => ?_) fun _ _ z => z⟩) fun _ _ z => z)
  obtain ⟨msg, t1, b, t2, rfl, C, hE⟩ := h₂
  have X := C.X.keeps C.F.keep
  refine ⟨rfl, X 67 (o67 w.params) (by kernel_rfl), ?_⟩
  refine c_err C hroom hun b t1 t2 msg fun h' e dd tt tk' z1 z2 F' N' => ?_
  exact ⟨e, tt, some dd, rfl, C.X.keeps F'.keep 67 (o67 w.params) (by kernel_rfl), (N' _ (.head _)).1, hE h' e dd tt tk' z1 z2 F' N'⟩
end Mine
end
section
open PySem PySem.W PySem.Calls PyProof.Rows
namespace Mine
/-- a goal that the walk leaves alone -/
structure Stop (P : Prop) : Prop where
  go : P
/-- e stands in h with a traceback of its own and without a context -/
noncomputable def Tr (h base : Heap) (e : Addr) (cls fl : Value) : Prop :=
  ∃ oe vs T oT ts a0, h.get? e = some oe ∧ oe.cls = cls ∧ oe.data = .fields vs ∧ vs[0]? = some a0 ∧ vs[1]? = some (.ref T) ∧ vs[2]? = some .none ∧ base.get? T = none ∧ T ≠ e ∧ h.get? T = some oT ∧ oT.data = .fields ts ∧ ts[3]? = some fl
noncomputable def FlyM (base : Heap) (l : List Env) (e : Addr) (cls fl : Value) (h : Heap) : Prop :=
  base.StaysIn h ∧ base.get? e = none ∧ h.FunFrames base l ∧ Tr h base e cls fl
theorem FlyM.toW {base h : Heap} {l : List Env} {e : Addr} {cls : Value} (x : FlyM base l e cls .none h) : ∃ a0, Heap.FlyingW base l e cls a0 h := by
  obtain ⟨x1, x2, x3, oe, vs, T, oT, ts, a0, h1, h2, h3, h4, h5, h6, h7, h8, h9, h10, h11⟩ := x
  exact ⟨a0, x1, x2, x3, oe, vs, T, oT, ts, h1, ⟨h2, h4⟩, h3, h5, h7, h8, h9, h10, h11⟩
section
variable {M : Model} {A : Around} {E : Value → Shared → Prop} {s : Shared}
/-- a new entry ahead of e's traceback -/
theorem entryM {base : Heap} {env : Env} {outer : List Env} {L e : Addr} {oe : Obj} {vs : Array Value} {head a0 : Value} {hadNext : Bool} {Q : Unit → Shared → Prop}
    (hfr : A.frames = some (env :: outer)) (hl : s.heap.FunFrames base (env :: outer)) (hf : env.frame = some L)
    (he : s.heap.get? e = some oe) (hkb : base.StaysIn s.heap) (hen : base.get? e = none) (hd : oe.data = .fields vs) (h0 : vs[0]? = some a0) (h2 : vs[2]? = some .none)
    (h : ∀ h', FlyM base (env :: outer) e oe.cls (rawInt L) h' → s.heap.UpToSlots h' → Q () { s with heap := h' }) :
    wpAny M A (do let a ← frameOf env; let pl ← entryPlaceOf L hadNext; let b ← EntryCells.newEntry head a .none (rawInt L) .none pl; setField (.ref e) 1 b) Q E s := by
  have hsz : 2 < vs.size := (Array.getElem?_eq_some_iff.mp h2).1
  have off : e ∉ (env :: outer).filterMap (·.frame) := fun hm => by
    obtain ⟨_, o, ho, hnf⟩ := hl.mem hm
    rw [he] at ho; cases ho; exact hnf vs hd
  refine wpAny_bind (wpAny_frameOf_fun hfr hl hf fun h₁ S => wpAny_bind (wpAny_entryPlaceOf fun pl hpl => ?_))
  unfold EntryCells.newEntry newFields
  refine wpAny_bind (wpAny_newObj_type ?_ (hpl.sizeOk5 _ _ _ _ _))
  obtain ⟨tb, etb⟩ : ∃ tb : Obj, tb = { cls := .type "traceback", dict := none, data := .fields ([head, .ref L, .none, rawInt L, .none] ++ (if pl.isEmpty then List.replicate 6 Value.none else pl)).toArray } := ⟨_, rfl⟩
  rw [← etb]
  have e₁ : h₁.get? e = some oe := (S.2.1 e off).trans he
  have e₂ := Heap.get?_push_of_some tb e₁
  have ne : h₁.objs.size ≠ e := Nat.ne_of_gt (Heap.lt_size e₁)
  have B₁ : base.StaysIn h₁ := fun b o hb => (S.2.1 b fun hm => by rw [(hl.mem hm).1] at hb; cases hb).trans (hkb b o hb)
  refine wpAny_setField e₂ hd (Nat.lt_of_succ_lt hsz) (h _ ?_ ?_)
  · have keep : ∀ b o, b ≠ e → h₁.get? b = some o → ((h₁.push tb).update e (Obj.mapFields (·.setIfInBounds 1 (.ref h₁.objs.size)))).get? b = some o := fun b o q hb =>
      (Heap.get?_update_other _ _ (Ne.symm q)).trans (Heap.get?_push_of_some _ hb)
    refine ⟨fun b o hb => keep b o (fun q => by rw [q, hen] at hb; cases hb) (B₁ b o hb), hen, hl.of_keeps fun b o hb hn => ?_, ?_⟩
    · obtain ⟨sl, hs⟩ := S.2.2 b o hb
      exact ⟨_, keep b _ (fun q => by rw [q, he] at hb; cases hb; exact hn vs hd) hs, rfl⟩
    · have d₃ := Obj.data_mapFields hd (·.setIfInBounds 1 (Value.ref h₁.objs.size))
      refine ⟨_, _, h₁.objs.size, tb, _, a0, Heap.get?_update_self _ e₂ (Obj.isFreed_of_fields d₃), Obj.cls_mapFields _ _, d₃, ?_, ?_, ?_, B₁.fresh, ne, (Heap.get?_update_other _ _ (Ne.symm ne)).trans (Heap.get?_push_size h₁ (by rw [etb]; rfl)), by rw [etb], by simp⟩
      · rw [Array.getElem?_setIfInBounds_ne (by decide)]; exact h0
      · simp only [Array.getElem?_setIfInBounds_self]; rw [if_pos (Nat.lt_of_succ_lt hsz)]
      · rw [Array.getElem?_setIfInBounds_ne (by decide)]; exact h2
  · intro b o hb hn
    obtain ⟨sl, hs⟩ := S.2.2 b o hb
    exact ⟨sl, (Heap.get?_update_other _ _ (fun q => by rw [← q, he] at hb; cases hb; exact hn vs hd)).trans (Heap.get?_push_of_some _ hs)⟩
theorem noteM1 {base : Heap} {env : Env} {outer : List Env} {L e : Addr} {oe : Obj} {vs : Array Value} {a0 : Value} {Q : Unit → Shared → Prop}
    (hfr : A.frames = some (env :: outer)) (hl : s.heap.FunFrames base (env :: outer)) (hf : env.frame = some L)
    (he : s.heap.get? e = some oe) (hkb : base.StaysIn s.heap) (hen : base.get? e = none) (hd : oe.data = .fields vs) (h0 : vs[0]? = some a0) (h1 : vs[1]? = some .none) (h2 : vs[2]? = some .none)
    (h : ∀ h', FlyM base (env :: outer) e oe.cls (rawInt L) h' → s.heap.UpToSlots h' → Q () { s with heap := h' }) : wpAny M A (noteFrame (.ref e) env) Q E s := by
  unfold noteFrame
  simp only [hf]
  refine wpAny_bind (wpAny_field he hd h1 ?_)
  rw [if_neg (by decide)]
  exact entryM hfr hl hf he hkb hen hd h0 h2 h
/-- an update of e's traceback alone -/
theorem tb_step {base : Heap} {l : List Env} {e : Addr} {cls fl : Value} {k : Nat} {x : Value} {h : Heap} (F : FlyM base l e cls fl h) :
    ∃ oe vs T oT ts a0, h.get? e = some oe ∧ oe.cls = cls ∧ oe.data = .fields vs ∧ vs[0]? = some a0 ∧ vs[1]? = some (.ref T) ∧ vs[2]? = some .none ∧ base.get? T = none ∧ T ≠ e ∧ h.get? T = some oT ∧ oT.data = .fields ts ∧ ts[3]? = some fl ∧
      FlyM base l e cls x (h.update T (Obj.mapFields (·.setIfInBounds 3 x))) ∧ h.UpToSlots (h.update T (Obj.mapFields (·.setIfInBounds 3 x))) ∧ (h.update T (Obj.mapFields (·.setIfInBounds 3 x))).get? e = some oe := by
  obtain ⟨x1, x2, x3, oe, vs, T, oT, ts, a0, h1, h2, h3, h4, h5, h6, h7, h8, h9, h10, h11⟩ := F
  have hs3 : 3 < ts.size := (Array.getElem?_eq_some_iff.mp h11).1
  have other : ∀ b, b ≠ T → (h.update T (Obj.mapFields (·.setIfInBounds 3 x))).get? b = h.get? b := fun b hb => Heap.get?_update_other _ _ (Ne.symm hb)
  have nr : ∀ b o, h.get? b = some o → (∀ vs, o.data ≠ .fields vs) → b ≠ T := fun b o hb hn q => by rw [q, h9] at hb; cases hb; exact hn ts h10
  have d₃ := Obj.data_mapFields h10 (·.setIfInBounds 3 x)
  refine ⟨oe, vs, T, oT, ts, a0, h1, h2, h3, h4, h5, h6, h7, h8, h9, h10, h11, ⟨fun b o hb => (other b fun q => by rw [q, h7] at hb; cases hb).trans (x1 b o hb), x2, x3.of_keeps fun b o hb hn => ⟨o, (other b (nr b o hb hn)).trans hb, rfl⟩,
    oe, vs, T, _, _, a0, (other e (Ne.symm h8)).trans h1, h2, h3, h4, h5, h6, h7, h8, Heap.get?_update_self _ h9 (Obj.isFreed_of_fields d₃), d₃, by simp [hs3]⟩, fun b o hb hn => ⟨o.slots, (other b (nr b o hb hn)).trans hb⟩, (other e (Ne.symm h8)).trans h1⟩
theorem noteM {base : Heap} {env : Env} {outer : List Env} {L e : Addr} {cls : Value} {Q : Unit → Shared → Prop}
    (hfr : A.frames = some (env :: outer)) (hf : env.frame = some L) (F : FlyM base (env :: outer) e cls .none s.heap)
    (h : ∀ h', FlyM base (env :: outer) e cls (rawInt L) h' → s.heap.UpToSlots h' → Q () { s with heap := h' }) : wpAny M A (noteFrame (.ref e) env) Q E s := by
  obtain ⟨oe, vs, T, oT, ts, a0, h1, h2, h3, h4, h5, h6, h7, h8, h9, h10, h11, F', U', e'⟩ := tb_step (k := 3) (x := .none) F
  unfold noteFrame
  simp only [hf]
  refine wpAny_bind (wpAny_field h1 h3 h5 ?_)
  rw [if_pos (show (Value.ref T != Value.none) = true from by simp)]
  refine wpAny_bind (wpAny_field h9 h10 h11 ?_)
  rw [if_neg (show ¬ ((Value.none == rawInt L) = true) from by simp [rawInt])]
  refine wpAny_bind (wpAny_setField h9 h10 (Array.getElem?_eq_some_iff.mp h11).1 ?_)
  subst h2
  exact entryM hfr F'.2.2.1 hf e' F'.1 F'.2.1 h3 h4 h6 fun h' x y => h h' x (U'.trans y)
theorem flightM {base : Heap} {l : List Env} {e : Addr} {cls fl : Value} {Q : Unit → Shared → Prop} (F : FlyM base l e cls fl s.heap)
    (h : ∀ h', FlyM base l e cls .none h' → s.heap.UpToSlots h' → Q () { s with heap := h' }) : wpAny M A (setFlight (.ref e) none) Q E s := by
  obtain ⟨oe, vs, T, oT, ts, a0, h1, h2, h3, h4, h5, h6, h7, h8, h9, h10, h11, F', U', e'⟩ := tb_step (k := 3) (x := .none) F
  unfold setFlight
  refine wpAny_bind (wpAny_field h1 h3 h5 ?_)
  rw [if_pos (show (Value.ref T != Value.none) = true from by simp)]
  exact wpAny_setField h9 h10 (Array.getElem?_eq_some_iff.mp h11).1 (h _ F' U')
end
/-- an IndexError in flight, above the frames l: the ground's objects stand, its context is none -/
noncomputable def Fly (base G : Heap) (l : List Env) (e : Addr) (h : Heap) : Prop :=
  ∃ B, base.StaysIn B ∧ (∀ b o, G.get? b = some o → b ∉ l.filterMap (·.frame) → B.get? b = some o) ∧ FlyM B l e (.type "IndexError") .none h
theorem Fly.toSN {base G h : Heap} {l : List Env} {e : Addr} (x : Fly base G l e h) : RaisedSN base G l e (.type "IndexError") [] h := by
  obtain ⟨B, x1, x2, x3⟩ := x
  obtain ⟨a0, x4⟩ := x3.toW
  exact ⟨B, a0, x1, x2, (fun _ hq => nomatch hq), x4⟩
section
variable {M : Model} {A : Around} {E : Value → Shared → Prop} {s' : Shared} {base g g₂ h : Heap} {outer : List Env} {L a e : Addr} {m : Str → Option Value} {name : Str} {scope : Scope} {cd : Value} {Q : Unit → Shared → Prop}
theorem fly_new (K : Below A base outer g) (hx : Heap.NewExc h s'.heap e "IndexError") (F : Fr g L h m)
    (hQ : ∀ h', Fly base g outer e h' → g.UpToSlots h' → Q () { s' with heap := h' }) (hk : scope.kind = .function := by rfl) :
    wpAny M (A.deeper (envOf name scope L a cd)) (leaving (envOf name scope L a cd) (.ref e)) Q E s' := by
  have K' := K.push (name := name) (a := a) (cd := cd) F hk
  have hin : ∀ env ∈ (envOf name scope L a cd :: outer), ∀ b, env.frame = some b → b ∈ (envOf name scope L a cd :: outer).filterMap (·.frame) := fun env he b hb => List.mem_filterMap.mpr ⟨env, he, hb⟩
  have st : base.StaysIn (hideAll h ((envOf name scope L a cd :: outer).filterMap (·.frame))) := fun b o q => hideAll_get _ (K'.stays b o q) fun hm => by
    rw [(K'.frames.mem hm).1] at q; cases q
  have sg : ∀ b o, g.get? b = some o → b ∉ outer.filterMap (·.frame) → (hideAll h ((envOf name scope L a cd :: outer).filterMap (·.frame))).get? b = some o := fun b o q nm => hideAll_get _ (F.keep b o q) fun hm => by
    rcases kts_mem hm with z | z
    · rw [z, kts_self F] at q
      cases q
    · exact nm z
  obtain ⟨ob, tp, he, hcls, hd⟩ := hx.there
  have hen : (hideAll h ((envOf name scope L a cd :: outer).filterMap (·.frame))).get? e = none := by
    cases q : (hideAll h ((envOf name scope L a cd :: outer).filterMap (·.frame))).get? e with
    | none => rfl
    | some o => have := of_hideAll _ q; rw [hx.new] at this; cases this
  unfold leaving
  refine wpAny_bind (noteM1 (a0 := tp) K'.stack ((funFrames_hide K'.frames hin).of_keeps fun b o hb _ => ⟨o, hx.keeps b o hb, rfl⟩) rfl he (fun b o hb => hx.keeps b o (of_hideAll _ hb)) hen hd rfl rfl rfl fun h1 F1 U1 => ?_)
  refine flightM (base := hideAll h ((envOf name scope L a cd :: outer).filterMap (·.frame))) F1 fun h2 F2 U2 => ?_
  obtain ⟨k1, k0, ⟨_, _, k2⟩, k3⟩ := F2
  rw [hcls] at k3
  exact hQ h2 ⟨_, st, sg, k1, k0, k2, k3⟩ ((Heap.UpToSlots.of_keeps F.keep).trans ((Heap.UpToSlots.of_keeps hx.keeps).trans (U1.trans U2)))
theorem fly_on (K : Below A base outer g) (F : Fr g L g₂ m) (R : Fly base g₂ (envOf name scope L a cd :: outer) e s'.heap) (hsm : g₂.UpToSlots s'.heap)
    (hQ : ∀ h', Fly base g outer e h' → g.UpToSlots h' → Q () { s' with heap := h' }) :
    wpAny M (A.deeper (envOf name scope L a cd)) (leaving (envOf name scope L a cd) (.ref e)) Q E s' := by
  obtain ⟨B, hB, hBG, hfl⟩ := R
  unfold leaving
  refine wpAny_bind (noteM (Around.frames_deeper K.stack) rfl hfl fun h1 F1 U1 => ?_)
  refine flightM F1 fun h2 F2 U2 => ?_
  obtain ⟨k1, k0, ⟨_, _, k2⟩, k3⟩ := F2
  exact hQ h2 ⟨B, hB, fun b o q nm => hBG b o (F.keep b o q) (fun hm => by
      rcases kts_mem hm with z | z
      · rw [z, kts_self F] at q
        cases q
      · exact nm z), k1, k0, k2, k3⟩ ((Heap.UpToSlots.of_keeps F.keep).trans (hsm.trans (U1.trans U2)))
end
end Mine
end
section
open PySem PySem.W PySem.Calls PyProof.Rows
namespace Mine
theorem entry_unchain : entryFor table "proto.unchain" = some Builtin.«proto.unchain» := entryFor_of_tree (by kernel_rfl)
theorem plain_unchain : plainId "proto.unchain" = true := by decide +kernel
section
variable {prog : Program} {w : World} {A : Around} {E : Value → Shared → Prop} {s : Shared}
/-- a new exception raised where another, x, without a context, is at work -/
theorem raiseNew_in {α : Type} {e x : Addr} {oe ox : Obj} {vs xs : Array Value} {Q : α → Shared → Prop} (hh : A.handled = some (.ref x)) (hne : x ≠ e) (hx : s.heap.get? x = some ox) (hxd : ox.data = .fields xs) (hx2 : xs[2]? = some .none)
    (he : s.heap.get? e = some oe) (hed : oe.data = .fields vs) (hsz : 2 < vs.size) (h : E (.ref e) { s with heap := s.heap.update e (Obj.mapFields (·.setIfInBounds 2 (.ref x))) }) : wpAny (model prog w) A (raiseNew (.ref e) : Sem α) Q E s := by
  unfold raiseNew
  refine wpAny_bind (wpAny_handled ?_)
  rw [hh]
  dsimp only
  rw [if_pos (show (Value.ref x != Value.ref e) = true by simp [hne])]
  refine wpAny_bind (wpAny_holding (wpAny_runValue (codeAny_builtin entry_unchain ?_)))
  rw [Around.under_plainId plain_unchain]
  unfold Builtin.«proto.unchain»
  dsimp only
  refine wpAny_bind (wpAny_field hx hxd hx2 ?_)
  refine wpAny_ite (KBc.ite_yes (by decide) ?_)
  refine wpAny_pure ?_
  show wpAny _ _ (updateField e 2 (.ref x) >>= fun _ => throw (Value.ref e)) _ _ _
  unfold updateField
  refine wpAny_bind (wpAny_bind (wpAny_load he ?_))
  rw [hed]
  dsimp only
  rw [if_pos hsz]
  exact wpAny_update he (wpAny_throw h)
end
section
variable {M : Model} {A : Around} {E : Value → Shared → Prop} {env : Env}
variable {nm q : Str} {C N : Addr} {bs bm : List Value} {hdct : Bool} {sn : List Str} {sub : List Value} {ab : Bool} {col : Option Bool} {dd : Option Addr} {k0 k1 k2 k3 k5 : Option Value} {newId : String}
end
end Mine
end
section
open PySem PySem.W PySem.Calls PyProof.Rows
namespace Mine
section
variable {M : Model} {A : Around} {E : Value → Shared → Prop} {env : Env}
variable {nm q : Str} {C N : Addr} {bs bm : List Value} {hdct : Bool} {sn : List Str} {sub : List Value} {ab : Bool} {col : Option Bool} {dd : Option Addr} {k0 k1 k2 k3 k5 : Option Value} {newId : String}
/-- raise of an exception just made, whatever is at work -/
theorem raiseStmt_madeG {s : Shared} {x : Sem Value} {Q : Flow → Shared → Prop} (hbase : bm.contains (.type "BaseException") = true)
    (h : wpAny M A x (fun v s₁ => ∃ e t de, v = .ref e ∧ s₁.heap.get? C = some (excClassObj nm q C N bs bm hdct sn sub ab col dd k0 k1 k2 k3 k5 newId) ∧
      s₁.heap.get? e = some { cls := .ref C, dict := de, data := .fields #[.ref t, .none, .none, .none, .bool false, .none] } ∧ wpAny M A (raiseNew (.ref e) : Sem Flow) Q E s₁) E s) :
    wpAny M A (raiseStmt env (some x) none) Q E s := by
  have hcB : (Value.ref C :: bm).contains (.type "BaseException") = true := by rw [List.contains_cons, hbase, Bool.or_true]
  unfold raiseStmt
  refine wpAny_bind (wpAny_mono h (fun v s₁ h₁ => ?_) fun _ _ x => x)
  obtain ⟨e, t, de, rfl, hC, he, hE⟩ := h₁
  obtain ⟨hp, g, d, tk, os⟩ := s₁
  repeat (first | with_reducible refine wpAny_loadPart_at he ?_ | with_reducible refine wpAny_loadPart_at hC ?_ | (with_reducible refine wpAny_isSubtype_exc hC ?_; rw [hcB]) | wp_step)
  exact hE
end
section
variable {prog : Program} {w : World} {A : Around} {E : Value → Shared → Prop} {s : Shared} {env : Env}
variable {nm q : Str} {C N : Addr} {bs bm : List Value} {hdct : Bool} {sn : List Str} {sub : List Value} {ab : Bool} {col : Option Bool} {dd : Option Addr} {k0 k1 k2 k3 k5 : Option Value} {newId : String}
theorem Raise_callG {x : Str} {np cpos pos : Pos} {args : List PySem.Expr} {Q : Flow → Shared → Prop}
    (hbase : bm.contains (.type "BaseException") = true) (hplain : (backTo cpos (starEach args env)).any (·.1) = false)
    (h : wpAny (model prog w) A (eval (.Name x np) env) (fun f s₁ => f = .ref C ∧ wpAny (model prog w) A (evalArgs (.ref C) true (backTo cpos (starEach args env)) [])
      (fun a s₂ => a.kw = [] ∧ s₂.heap.get? C = some (excClassObj nm q C N bs bm hdct sn sub ab col dd k0 k1 k2 k3 k5 newId) ∧
        wpAny (model prog w) A (call (.ref C) a.pos) (fun v s₃ => ∃ e t de, v = .ref e ∧ s₃.heap.get? C = some (excClassObj nm q C N bs bm hdct sn sub ab col dd k0 k1 k2 k3 k5 newId) ∧
          s₃.heap.get? e = some { cls := .ref C, dict := de, data := .fields #[.ref t, .none, .none, .none, .bool false, .none] } ∧ wpAny (model prog w) A (raiseNew (.ref e) : Sem Flow) Q E s₃) E s₂) E s₁) E s) :
    wpAny (model prog w) A (exec (.Raise (some (.Call (.Name x np) args [] cpos)) none pos) env) Q E s := by
  rw [arm_exec_Raise]
  refine wpAny_bind (wpAny_standAt (raiseStmt_madeG (C := C) (nm := nm) (q := q) (N := N) (bs := bs) (bm := bm) (hdct := hdct) (sn := sn) (sub := sub) (ab := ab) (col := col) (dd := dd) (k0 := k0) (k1 := k1) (k2 := k2) (k3 := k3) (k5 := k5) (newId := newId) hbase (wpAny_bind (wpAny_mono (wpAny_Call_ofName (wpAny_mono h (fun f s₁ h₁ => ?_) fun _ _ x => x)) (fun v s₃ h₃ => wpAny_bind (wpAny_standAt (wpAny_pure h₃))) fun _ _ x => x))))
  obtain ⟨rfl, h₁⟩ := h₁
  unfold callWith
  refine wpAny_bind (wpAny_holding (wpAny_mono h₁ (fun a s₂ h₂ => wpAny_bind (wpAny_standAt ?_)) fun _ _ x => x))
  obtain ⟨apos, akw⟩ := a
  obtain ⟨hkw, hC, h₂⟩ := h₂
  obtain rfl : akw = [] := hkw
  obtain ⟨hp, g, d, tk, os⟩ := s₂
  simp only [hplain]
  refine wpAny_bind (wpAny_keeperOf_exc hC ?_)
  exact wpAny_bind (wpAny_mono h₂ (fun v s₃ h₃ => wpAny_bind (wpAny_holding (wpAny_point (wpAny_pure h₃)))) fun _ _ x => x)
end
/-- `raise DecodingError_exceptions(msg, octets)` in a handler of its def, an IndexError at work -/
theorem raise67H {w : World} {loose : List Str} {mean : ExcName → Option Value} {mg mb : Str → Option Value} {dp un : Nat} {gd : Option (List Code)} {env : Env} {outer : List Env} {base g : Heap} {L a x₀ : Addr} {m : Str → Option Value} {s : Shared} {E : Value → Shared → Prop}
    {nm x : Str} {cs : Scope} {cd : Value} {np cpos pos : Pos} {e₀ : PySem.Expr} {args : List PySem.Expr} {Q : Flow → Shared → Prop} {ox : Obj} {xs : Array Value}
    (hroom : dp + 9 < recursionLimit) (hun : un + 63 < cLine) (hck : cs.kind = .function) (hplain : (backTo cpos (starEach (e₀ :: args) (envOf nm cs L a cd))).any (·.1) = false)
    (hx : (envOf nm cs L a cd).kindOf x = some .globalImplicit) (hdb : (x == ("__debug__" : Str)) = false) (hns : nsIn (K w.params) mainGlobals x = some (some (.ref 67)))
    (hse : starEach (e₀ :: args) (envOf nm cs L a cd) = (false, eval e₀ (envOf nm cs L a cd)) :: starEach args (envOf nm cs L a cd))
    (B : Below (kT dp un gd env outer) base (env :: outer) g) (X : (K w.params).In g) (T : Top vq loose mean mg mb g)
    (F : Fr g L s.heap m) (hxd : ox.data = .fields xs) (hx2 : xs[2]? = some .none)
    (h : wpAny (model PySem.Challenge.rw_jm0023_01.prog w) (((kT dp un gd env outer).deeper (envOf nm cs L a cd)).mark (some (.ref x₀))) (spliced (backTo cpos (starEach (e₀ :: args) (envOf nm cs L a cd))))
      (fun vs s₂ => ∃ msg t1 b t2, vs = [.str msg t1, .bytes b t2] ∧ Fr g L s₂.heap m ∧ News g L s₂.heap [(x₀, ox)] ∧
        ∀ h' e tk', RaisedSN base g (env :: outer) e (.ref 67) [] h' → g.UpToSlots h' → E (.ref e) { s₂ with heap := h', toks := tk' }) (fun e s' => wpAny (model PySem.Challenge.rw_jm0023_01.prog w) ((kT dp un gd env outer).deeper (envOf nm cs L a cd)) (leaving (envOf nm cs L a cd) e) (fun _ s'' => E e s'') (fun e' s'' => E e' s'') s') s) :
    wpAny (model PySem.Challenge.rw_jm0023_01.prog w) (((kT dp un gd env outer).deeper (envOf nm cs L a cd)).mark (some (.ref x₀))) (exec (.Raise (some (.Call (.Name x np) (e₀ :: args) [] cpos)) none pos) (envOf nm cs L a cd)) Q (fun e s' => wpAny (model PySem.Challenge.rw_jm0023_01.prog w) ((kT dp un gd env outer).deeper (envOf nm cs L a cd)) (leaving (envOf nm cs L a cd) e) (fun _ s'' => E e s'') (fun e' s'' => E e' s'') s') s := by
  refine Raise_callG (C := 67) (bm := [(.ref 24), (.type "Exception"), (.type "BaseException"), (.type "object")]) (nm := Str.ofString "DecodingError") (q := Str.ofString "DecodingError") (N := 66) (bs := [.ref 24]) (hdct := true) (sn := []) (sub := []) (ab := false) (col := none) (dd := none)
    (k0 := some (.ref 49)) (k1 := none) (k2 := some (.str (Str.ofString "DecodingError") 237)) (k3 := some (.str (Str.ofString "DecodingError") 245)) (k5 := some (.bool true)) (newId := "Exception.__new__") (by decide) hplain
    (name_K F X (topRead_of T) hns ⟨rfl, ?_⟩ hck hx hdb)
  rw [hse] at h ⊢
  refine Calls.evalArgs_plain (wpAny_mono h (fun vs s₂ h₂ => ?_) fun _ _ z => z)
  obtain ⟨msg, t1, b, t2, rfl, F', N', k⟩ := h₂
  refine ⟨rfl, X.keeps F'.keep 67 (o67 w.params) (by kernel_rfl), ?_⟩
  refine c_err (hx := some (.ref x₀)) (dp := dp + 1) (un := un + 3) (gd := gd) (env := envOf nm cs L a cd) (outer := env :: outer) (A₀ := kT dp un gd env outer) (base := base) (h₀ := g) (L := L) (m := m) (news := [(x₀, ox)]) ⟨B, F', X, N', T, rfl, hck⟩ (by omega) (by omega) b t1 t2 msg fun h' e dd tt tk' z1 hne F2 N2 => ?_
  have he := N2 _ (.head _)
  have ht := N2 _ (.tail _ (.head _))
  have hx0 := N2 _ (.tail _ (.tail _ (.head _)))
  have hz := z1 _ (.head _)
  refine ⟨e, tt, some dd, rfl, X.keeps F2.keep 67 (o67 w.params) (by kernel_rfl), he.1, ?_⟩
  refine raiseNew_in (x := x₀) rfl hz.1 hx0.1 hxd hx2 he.1 rfl (by show 2 < 6; decide) ?_
  have hu : ∀ p o, p ≠ e → h'.get? p = some o → (h'.update e (Obj.mapFields (·.setIfInBounds 2 (.ref x₀)))).get? p = some o := fun p o q hp => (Heap.get?_update_other _ _ (Ne.symm q)).trans hp
  have F3 : Fr g L (h'.update e (Obj.mapFields (·.setIfInBounds 2 (.ref x₀)))) m := fr_step F2 he.2.2 he.2.1 hu
  have N3 : News g L (h'.update e (Obj.mapFields (·.setIfInBounds 2 (.ref x₀)))) [(e, { cls := .ref 67, dict := some dd, data := .fields #[.ref tt, .none, .ref x₀, .none, .bool false, .none] }), (tt, { cls := .type "tuple", data := .seq [Value.str msg t1].toArray })] := fun p hp => by
    rcases List.mem_cons.mp hp with rfl | hp
    · exact ⟨Heap.get?_update_self _ he.1 rfl, he.2⟩
    rcases List.mem_cons.mp hp with rfl | hp
    · exact ⟨hu _ _ (Ne.symm hne) ht.1, ht.2⟩
    · nomatch hp
  exact leave_led (s' := { s₂ with heap := h'.update e (Obj.mapFields (·.setIfInBounds 2 (.ref x₀))), toks := tk' }) B F3 N3 (fun _ hp => nomatch hp) (fun h' t R _ U => k _ _ _ R.toSN U) hck
end Mine
end
section
open PySem PySem.W
namespace Mine
mutual
/-- what is written: a row of octets, or a list -/
inductive Rlp where
  | str (ks : List Int)
  | list (ds : Rlps)
inductive Rlps where
  | nil
  | cons (d : Rlp) (ds : Rlps)
end
noncomputable def Rlps.snoc : Rlps → Rlp → Rlps
  | .nil, d => .cons d .nil
  | .cons x r, d => .cons x (r.snoc d)
noncomputable def Rlps.app : Rlps → Rlps → Rlps
  | .nil, r => r
  | .cons x l, r => .cons x (l.app r)
theorem Rlps.snoc_app : ∀ (l : Rlps) (d : Rlp) (r : Rlps), (l.snoc d).app r = l.app (.cons d r)
  | .nil, _, _ => rfl
  | .cons x l, d, r => by simp only [Rlps.snoc, Rlps.app, Rlps.snoc_app l d r]
theorem Rlps.app_nil : ∀ l : Rlps, l.app .nil = l
  | .nil => rfl
  | .cons x l => by simp only [Rlps.app, Rlps.app_nil l]
noncomputable def Rlps.len : Rlps → Nat
  | .nil => 0
  | .cons _ r => r.len + 1
theorem Rlps.len_snoc : ∀ (l : Rlps) (d : Rlp), (l.snoc d).len = l.len + 1
  | .nil, _ => rfl
  | .cons _ l, d => by simp only [Rlps.snoc, Rlps.len, Rlps.len_snoc l d]
mutual
noncomputable def enc : Rlp → List Int
  | .str ks => if ks.length = 1 ∧ ks.getD 0 0 < 128 then ks else pfx ks.length 128 ++ ks
  | .list ds => pfx (encs ds).length 192 ++ encs ds
noncomputable def encs : Rlps → List Int
  | .nil => []
  | .cons d ds => enc d ++ encs ds
end
mutual
noncomputable def dep : Rlp → Nat
  | .str _ => 0
  | .list ds => deps ds + 1
noncomputable def deps : Rlps → Nat
  | .nil => 0
  | .cons d ds => max (dep d) (deps ds)
end
/-- a head at i: (a list?, how long, where it begins) -/
noncomputable def hdLong (ks : List Int) (i : Int) (l : Bool) (ll : Int) : Option (Bool × Int × Int) :=
  if (((ks.drop (i + 1).toNat).take ll.toNat).take 1) = [0] then none
  else if KFB.value ((ks.drop (i + 1).toNat).take ll.toNat) < 56 then none
  else some (l, KFB.value ((ks.drop (i + 1).toNat).take ll.toNat), i + 1 + ll)
noncomputable def hd (ks : List Int) (i : Int) : Option (Bool × Int × Int) :=
  if (ks.length : Int) ≤ i then none
  else if ks.getD i.toNat 0 < 128 then some (false, 1, i)
  else if ks.getD i.toNat 0 < 184 then
    (if ks.getD i.toNat 0 = 129 ∧ ((ks.length : Int) ≤ i + 1 ∨ ks.getD (i + 1).toNat 0 < 128) then none else some (false, ks.getD i.toNat 0 - 128, i + 1))
  else if ks.getD i.toNat 0 < 192 then hdLong ks i false (ks.getD i.toNat 0 - 183)
  else if ks.getD i.toNat 0 < 248 then some (true, ks.getD i.toNat 0 - 192, i + 1)
  else hdLong ks i true (ks.getD i.toNat 0 - 247)
mutual
noncomputable def rdItem (ks : List Int) : Nat → Int → Option (Rlp × Int)
  | 0, _ => none
  | F + 1, i => match hd ks i with
    | none => none
    | some (false, n, st) => if st + n ≤ (ks.length : Int) then some (.str ((ks.drop st.toNat).take n.toNat), st + n) else none
    | some (true, n, st) => match rdMany ks F st (st + n) with
      | none => none
      | some (ds, j) => if j = st + n then some (.list ds, j) else none
noncomputable def rdMany (ks : List Int) : Nat → Int → Int → Option (Rlps × Int)
  | 0, _, _ => none
  | F + 1, i, e => if i < e then (match rdItem ks F i with
      | none => none
      | some (d, j) => match rdMany ks F j e with
        | none => none
        | some (ds, j') => some (.cons d ds, j')) else some (.nil, i)
end
/-- what a reader tells of octets, or that it refuses -/
noncomputable def rd (ks : List Int) : Option Rlp := match rdItem ks (2 * ks.length + 3) 0 with
  | none => none
  | some (d, j) => if j = (ks.length : Int) then some d else none
/-- what a payload tells -/
noncomputable def rdPay (ks : List Int) (F : Nat) (l : Bool) (n st : Int) : Option (Rlp × Int) := match l with
  | false => if st + n ≤ (ks.length : Int) then some (.str ((ks.drop st.toNat).take n.toNat), st + n) else none
  | true => match rdMany ks F st (st + n) with
    | none => none
    | some (ds, j) => if j = st + n then some (.list ds, j) else none
theorem rdItem_eq (ks : List Int) (F : Nat) (i : Int) : rdItem ks (F + 1) i = match hd ks i with
    | none => none
    | some (l, n, st) => rdPay ks F l n st := by
  rw [rdItem]
  split <;> rename_i h <;> rw [h] <;> rfl
end Mine
end
section
open PySem PySem.W PySem.Calls PyProof.Rows
open PySem.Builtin
namespace Mine
theorem meets_out (b : Array UInt8) (i : Int) (t u : Tok) (hr : Bytes.fitsIndex i = true) (h : (seqIndex? i b.size).bind (b[·]?) = none) :
    Meets («bytes.__getitem__» ⟨[.bytes b t, .int i u], []⟩) (raisesNew "IndexError") := by
  refine .of_wp fun prog w A R s hS => ?_
  show wpAny (model prog w) _ (Bytes.subscript? (.int i u) >>= fun r => _) _ _ s
  refine wpAny_bind ?_
  unfold Bytes.subscript?
  refine wpAny_bind (wpAny_specialOf (typeIs_int s i u) F.slot_int_index.lookup ?_)
  show wpAny _ _ (if (!Bytes.fitsIndex i) = true then _ else pure (some i)) _ _ s
  rw [hr]
  refine wpAny_pure ?_
  show wpAny _ _ (match (seqIndex? i b.size).bind (b[·]?) with | some x => retInt x.toNat | none => _) _ _ s
  rw [h]
  first
    | exact wpAny_bind (wpAny_rule (by exact_raiseError plainExc_IndexError hS.1 hS.2))
    | exact wpAny_bind (wpAny_rule (wpAny_bind (by exact_raiseError plainExc_IndexError hS.1 hS.2)))
    | exact wpAny_bind (wpAny_bind (wpAny_rule (by exact_raiseError plainExc_IndexError hS.1 hS.2)))
theorem seq_out {b : Array UInt8} {ks : List Int} {i : Int} (hk : KBw.bInts b = ks) (h1 : (ks.length : Int) ≤ i) : (seqIndex? i b.size).bind (b[·]?) = none := by
  have e : (b.size : Int) ≤ i := by rw [← KBw.ints_length, hk]; exact h1
  have h0 : ¬ i < 0 := by omega
  have h2 : ¬ i < (b.size : Int) := by omega
  simp [seqIndex?, h0, h2]
section
variable {prog : Program} {w : World} {A : Around} {E : Value → Shared → Prop} {s : Shared} {value slice : PySem.Expr} {b : Array UInt8} {t u : Tok} {Q : Value → Shared → Prop} {ks : List Int} {i : Int}
theorem item_out (hA : A.handled = none) (hk : KBw.bInts b = ks) (h1 : (ks.length : Int) ≤ i) (h2 : i < 2 ^ 62)
    (h : ∀ h' tk e, Heap.NewExc s.heap h' e "IndexError" → E (.ref e) { s with heap := h', toks := tk })
    (hs : subscripted slice false (.bytes b t) (.int i u) = operate [.bytes b t, .int i u] (getItem (.bytes b t) (.int i u)) := by with_unfolding_all rfl)
    (ht : ∀ r, letTemporaryGo value (.bytes b t) r = pure () := by intro _; with_unfolding_all rfl) :
    wpAny (model prog w) A (subscriptTail value slice (.bytes b t) (.int i u)) Q E s :=
  tail_of_ItemOn ⟨"bytes", _, FB.slot_bytes_getitem.lookup, typeIs_bytes _ _ _, getItem_meets (typeIs_bytes s _ t) (by decide) FB.slot_bytes_getitem FB.entry_bytes_getitem (FB.args_bytes_getitem_2 _ _)
    (meets_out b i t u (by simp only [Bytes.fitsIndex, Bool.and_eq_true, decide_eq_true_eq]; omega) (seq_out hk h1)) ⟨hA, fun h' tk e hx => h h' tk e hx⟩⟩ hs ht
end
theorem kT_deeper {dp un : Nat} {gd : Option (List Code)} {env env' : Env} {outer : List Env} : (kT dp un gd env outer).deeper env' = kT (dp + 1) (un + 3) gd env' (env :: outer) := rfl
end Mine
end
section
open PySem PySem.W PySem.Calls PyProof.Rows
open PySem.Builtin
namespace Mine
theorem tn_int (i : Int) (u : Tok) : typeNameOf (.int i u) = pure "int" := by first | rfl | kernel_rfl
theorem meets_big (b : Array UInt8) (i : Int) (t u : Tok) (hr : Bytes.fitsIndex i = false) :
    Meets («bytes.__getitem__» ⟨[.bytes b t, .int i u], []⟩) (raisesNew "IndexError") := by
  refine .of_wp fun prog w A R s hS => ?_
  show wpAny (model prog w) _ (Bytes.subscript? (.int i u) >>= fun r => _) _ _ s
  refine wpAny_bind ?_
  unfold Bytes.subscript?
  refine wpAny_bind (wpAny_specialOf (typeIs_int s i u) F.slot_int_index.lookup ?_)
  show wpAny _ _ (if (!Bytes.fitsIndex i) = true then _ else pure (some i)) _ _ s
  rw [hr]
  show wpAny _ _ (rule _ >>= fun _ => _) _ _ s
  refine wpAny_bind (wpAny_rule ?_)
  rw [tn_int]
  have go : ∀ {β : Type} {Q' : β → Shared → Prop}, wpAny (model prog w) A.in1 (raiseErrorMade "IndexError" (toString "cannot fit '" ++ toString "int" ++ toString "' into an index-sized integer") : Sem β) Q' (fun e s' => R (.error e) s') s := fun {β} {Q'} =>
    wpAny_raiseErrorMade plainExc_IndexError hS.1 hS.2 (by decide +kernel)
  first
    | exact wpAny_bind (wpAny_pure go)
    | exact wpAny_bind (wpAny_bind go)
    | exact wpAny_bind (wpAny_pure (wpAny_bind go))
    | exact wpAny_bind go
    | exact go
    
section
variable {prog : Program} {w : World} {A : Around} {E : Value → Shared → Prop} {s : Shared} {value slice : PySem.Expr} {b : Array UInt8} {t u : Tok} {Q : Value → Shared → Prop} {ks : List Int} {i : Int}
theorem item_outB (hA : A.handled = none) (hk : KBw.bInts b = ks) (h1 : (ks.length : Int) ≤ i)
    (h : ∀ h' tk e, Heap.NewExc s.heap h' e "IndexError" → E (.ref e) { s with heap := h', toks := tk })
    (hs : subscripted slice false (.bytes b t) (.int i u) = operate [.bytes b t, .int i u] (getItem (.bytes b t) (.int i u)) := by with_unfolding_all rfl)
    (ht : ∀ r, letTemporaryGo value (.bytes b t) r = pure () := by intro _; with_unfolding_all rfl) :
    wpAny (model prog w) A (subscriptTail value slice (.bytes b t) (.int i u)) Q E s := by
  refine tail_of_ItemOn ⟨"bytes", _, FB.slot_bytes_getitem.lookup, typeIs_bytes _ _ _, ?_⟩ hs ht
  cases hr : Bytes.fitsIndex i with
  | true => exact getItem_meets (typeIs_bytes s _ t) (by decide) FB.slot_bytes_getitem FB.entry_bytes_getitem (FB.args_bytes_getitem_2 _ _) (meets_out b i t u hr (seq_out hk h1)) ⟨hA, fun h' tk e hx => h h' tk e hx⟩
  | false => exact getItem_meets (typeIs_bytes s _ t) (by decide) FB.slot_bytes_getitem FB.entry_bytes_getitem (FB.args_bytes_getitem_2 _ _) (meets_big b i t u hr) ⟨hA, fun h' tk e hx => h h' tk e hx⟩
end
end Mine
end
section
open PySem PySem.W PySem.Calls PyProof.Rows
namespace Mine
theorem clip_pos {n : Nat} {x : Int} (h : 0 ≤ x) : clipAt n x = min x.toNat n := by
  have e : x = ((x.toNat : Nat) : Int) := by omega
  rw [e, clipAt_nat]; rfl
theorem add_can (a d : Nat) : ((a : Int) + d - a) = d := by rw [Int.add_comm, Int.add_sub_cancel]
theorem clip_nat (n k : Nat) : clipAt n (k : Int) = min k n := clip_pos (Int.natCast_nonneg k)
theorem cut_eq {ks : List Int} {a c : Int} (h0 : 0 ≤ a) (h1 : a ≤ c) : List.take (clipAt ks.length c - clipAt ks.length a) (List.drop (clipAt ks.length a) ks) = (ks.drop a.toNat).take (c - a).toNat := by
  obtain ⟨a, rfl⟩ := Int.eq_ofNat_of_zero_le h0
  obtain ⟨d, rfl⟩ := Int.le.dest h1
  rw [add_can, show clipAt ks.length ((a : Int) + d) = min (a + d) ks.length from clip_nat _ (a + d), clip_nat]
  show List.take (min (a + d) ks.length - min a ks.length) (List.drop (min a ks.length) ks) = (ks.drop a).take d
  rcases Nat.le_total a ks.length with q | q
  · obtain ⟨r, e⟩ := Nat.exists_eq_add_of_le q
    have hl : (ks.drop a).length = r := by rw [List.length_drop, e, Nat.add_sub_cancel_left]
    rw [e, Nat.add_min_add_left, Nat.min_eq_left (Nat.le_add_right a r), Nat.add_sub_cancel_left]
    rcases Nat.le_total d r with w | w
    · rw [Nat.min_eq_left w]
    · rw [Nat.min_eq_right w, List.take_of_length_le (Nat.le_of_eq hl), List.take_of_length_le (hl ▸ w)]
  · rw [Nat.min_eq_right q, List.drop_length, List.drop_eq_nil_of_le q, List.take_nil, List.take_nil]
theorem ints_inj {p q : Array UInt8} (h : KBw.bInts p = KBw.bInts q) : p = q := by
  have : p.toList = q.toList := by
    have h' : p.toList.map (fun c => ((c.toNat : Nat) : Int)) = q.toList.map (fun c => ((c.toNat : Nat) : Int)) := h
    exact List.map_inj_right (fun a b e => UInt8.toNat_inj.mp (Int.ofNat.inj e)) |>.mp h'
  exact Array.toList_inj.mp this
theorem zero_iff {p : Array UInt8} {xs : List Int} (h : KBw.bInts p = xs) : (p.toList == #[0].toList) = decide (xs = [0]) := by
  have h0 : KBw.bInts #[0] = [0] := rfl
  by_cases q : xs = [0]
  · have : p = #[0] := ints_inj (by rw [h, q, h0])
    subst this; simp [q]
  · have : p.toList ≠ #[0].toList := fun e => q (by rw [← h, ← h0]; rw [Array.toList_inj.mp e])
    simp only [q, decide_false]
    exact beq_eq_false_iff_ne.mpr this
theorem take1 {xs : List Int} {n : Nat} (h : 1 ≤ n) : (xs.take n).take 1 = xs.take 1 := by rw [List.take_take, Nat.min_eq_left h]
/-- an exception of the reader's in flight -/
noncomputable def Rz (base g : Heap) (l : List Env) (e : Addr) (h : Heap) : Prop := RaisedSN base g l e (.ref 67) [] h ∨ Fly base g l e h
section
variable {M : Model} {A : Around} {E : Value → Shared → Prop} {s' : Shared} {base g g₂ h : Heap} {outer : List Env} {L a e : Addr} {m : Str → Option Value} {name : Str} {scope : Scope} {cd : Value} {Q : Unit → Shared → Prop}
theorem rz_on (K : Below A base outer g) (F : Fr g L g₂ m) (R : Rz base g₂ (envOf name scope L a cd :: outer) e s'.heap) (hsm : g₂.UpToSlots s'.heap)
    (hQ : ∀ h', Rz base g outer e h' → g.UpToSlots h' → Q () { s' with heap := h' }) :
    wpAny M (A.deeper (envOf name scope L a cd)) (leaving (envOf name scope L a cd) (.ref e)) Q E s' := by
  rcases R with R | R
  · exact leave_onSN K F R hsm fun h' x _ y => hQ h' (.inl x) y
  · exact fly_on K F R hsm fun h' x y => hQ h' (.inr x) y
end
/-- `raise DecodingError_exceptions(msg, octets)` in a def that was called -/
theorem raise67 {w : World} {loose : List Str} {mean : ExcName → Option Value} {mg mb : Str → Option Value} {dp un : Nat} {gd : Option (List Code)} {env : Env} {outer : List Env} {base g : Heap} {L a : Addr} {m : Str → Option Value} {s : Shared} {E : Value → Shared → Prop}
    {nm x : Str} {cs : Scope} {cd : Value} {np cpos pos : Pos} {e₀ : PySem.Expr} {args : List PySem.Expr} {Q : Flow → Shared → Prop}
    (hroom : dp + 9 < recursionLimit) (hun : un + 63 < cLine) (hck : cs.kind = .function) (hplain : (backTo cpos (starEach (e₀ :: args) (envOf nm cs L a cd))).any (·.1) = false)
    (hx : (envOf nm cs L a cd).kindOf x = some .globalImplicit) (hdb : (x == ("__debug__" : Str)) = false) (hns : nsIn (K w.params) mainGlobals x = some (some (.ref 67)))
    (hse : starEach (e₀ :: args) (envOf nm cs L a cd) = (false, eval e₀ (envOf nm cs L a cd)) :: starEach args (envOf nm cs L a cd))
    (B : Below (kT dp un gd env outer) base (env :: outer) g) (X : (K w.params).In g) (T : Top vq loose mean mg mb g)
    (F : Fr g L s.heap m)
    (h : wpAny (model PySem.Challenge.rw_jm0023_01.prog w) ((kT dp un gd env outer).deeper (envOf nm cs L a cd)) (spliced (backTo cpos (starEach (e₀ :: args) (envOf nm cs L a cd))))
      (fun vs s₂ => ∃ msg t1 b t2, vs = [.str msg t1, .bytes b t2] ∧ Fr g L s₂.heap m ∧
        ∀ h' e tk', RaisedSN base g (env :: outer) e (.ref 67) [] h' → g.UpToSlots h' → E (.ref e) { s₂ with heap := h', toks := tk' }) (fun e s' => wpAny (model PySem.Challenge.rw_jm0023_01.prog w) ((kT dp un gd env outer).deeper (envOf nm cs L a cd)) (leaving (envOf nm cs L a cd) e) (fun _ s'' => E e s'') (fun e' s'' => E e' s'') s') s) :
    wpAny (model PySem.Challenge.rw_jm0023_01.prog w) ((kT dp un gd env outer).deeper (envOf nm cs L a cd)) (exec (.Raise (some (.Call (.Name x np) (e₀ :: args) [] cpos)) none pos) (envOf nm cs L a cd)) Q (fun e s' => wpAny (model PySem.Challenge.rw_jm0023_01.prog w) ((kT dp un gd env outer).deeper (envOf nm cs L a cd)) (leaving (envOf nm cs L a cd) e) (fun _ s'' => E e s'') (fun e' s'' => E e' s'') s') s := by
  rw [kT_deeper] at *
  refine raise_67 (loose := loose) (mean := mean) (mg := mg) (mb := mb) (A₀ := kT dp un gd env outer) (base := base) (h₀ := g) (L := L) (m := m) (news := []) (by omega) (by omega) hplain (name_K F X (topRead_of T) hns ⟨rfl, ?_⟩ hck hx hdb)
  rw [hse] at h ⊢
  refine Calls.evalArgs_plain (wpAny_mono h (fun vs s₂ h₂ => ?_) fun _ _ z => z)
  obtain ⟨msg, t1, b, t2, rfl, F', k⟩ := h₂
  refine ⟨msg, t1, b, t2, rfl, ⟨B, F', X, (fun _ hp => nomatch hp), T, rfl, hck⟩, fun h' e dd tt tk' _ hne F' N' => ?_⟩
  rw [← kT_deeper]
  exact leave_led (s' := { s₂ with heap := h', toks := tk' }) B F' N' (fun _ hp => nomatch hp) (fun h' t R _ U => k _ _ _ R.toSN U) hck
end Mine
end
section
open PySem PySem.W PySem.Calls PyProof.Rows PySem.Spec
namespace Mine
section
variable {prog : Program} {w : World} {A₀ : Around} {E : Value → Shared → Prop} {s' : Shared} {base g G : Heap} {outer : List Env} {L a e : Addr} {m : Str → Option Value} {name : Str} {scope : Scope} {cd : Value}
  {b₀ : Stmt} {suite : List Stmt} {pos np : Pos} {rest : List ExceptHandler} {Q : Flow → Shared → Prop} {KF : Frag} {p : Program} {loose : List Str} {mean : ExcName → Option Value} {mg mb : Str → Option Value} {x : Str}
theorem fly_hit (R : Fly base G (envOf name scope L a cd :: outer) e s'.heap) (F : Fr g L G m) (K : Below A₀ base outer g) (hsm : G.UpToSlots s'.heap) (XB : KF.In base) (TB : Top p loose mean mg mb base)
    (ex : nsIn KF mainGlobals x = some none) (hv : bootBuiltins x = some (.type "IndexError")) (hn' : x ≠ "__name__")
    (k : ∀ h' g' ox xs, KtsTurn (outer.filterMap (·.frame)) g g' → Fr g' L h' m → News g' L h' [(e, ox)] → ox.data = .fields xs → xs[2]? = some .none → Below A₀ base outer g' → KF.In g' → Top p loose mean mg mb g' →
      wpAny (model prog w) ((A₀.deeper (envOf name scope L a cd)).mark (some (.ref e))) (execs (b₀ :: suite) (envOf name scope L a cd)) Q E { s' with heap := h' })
    (hk : scope.kind = .function := by rfl) (hx : (envOf name scope L a cd).kindOf x = some .globalImplicit := by rfl) (hd : (x == ("__debug__" : Str)) = false := by decide)
    (hE : PassesOwnAt (model prog w) ((A₀.deeper (envOf name scope L a cd)).mark (some (.ref e))) (A₀.deeper (envOf name scope L a cd)) (envOf name scope L a cd) E := by passes_own) :
    wpAny (model prog w) (A₀.deeper (envOf name scope L a cd)) (noteFrame (.ref e) (envOf name scope L a cd))
      (fun _ s₂ => wpAny (model prog w) (A₀.deeper (envOf name scope L a cd)) (setFlight (.ref e) none) (fun _ s₃ =>
        wpAny (model prog w) (A₀.deeper (envOf name scope L a cd)) (handleBy (.ref e) (envOf name scope L a cd) (.ExceptHandler (some (.Name x np)) none (b₀ :: suite) pos :: rest)) Q E s₃) E s₂) E s' := by
  obtain ⟨B, hB, hBG, hfl⟩ := R
  have hL : B.get? L = none := by
    obtain ⟨_, ⟨L', _, hf, hn', _⟩, _⟩ := hfl.2.2.1
    obtain rfl : L = L' := Option.some.inj hf
    exact hn'
  refine noteM (Around.frames_deeper K.stack) rfl hfl fun h₄ held U₄ => ?_
  refine flightM held fun h₅ f₅ U₅ => ?_
  have hsm₅ := hsm.trans (U₄.trans U₅)
  obtain ⟨g₅, T₅, F₅, K₅⟩ := kts_ground K F hBG f₅.1 hsm₅
  have X₅ : KF.In g₅ := XB.keeps K₅.stays
  have P₅ : TopRead p loose mg mb g₅ := topRead_of (TB.keeps K₅.stays)
  obtain ⟨oe, vs, T, oT, ts, a0, h1, h2, h3, h4, h5, h6, h7, h8, h9, h10, h11⟩ := f₅.2.2.2
  refine wpAny_handleBy_builtin (X := "IndexError") (T := "IndexError") (b := true) (by first | rfl | kernel_rfl) (by first | rfl | kernel_rfl) (by first | rfl | kernel_rfl) (name_B F₅ X₅ P₅ ex hv hn' ⟨rfl, ⟨oe, h1, h2⟩, ?_⟩ hk hx hd)
  refine flightM f₅ fun h₆ f₆ U₆ => ?_
  obtain ⟨g₆, T₆, F₆, K₆⟩ := kts_ground K F hBG f₆.1 (hsm₅.trans U₆)
  obtain ⟨oe, vs, T, oT, ts, a0, h1, h2, h3, h4, h5, h6, h7, h8, h9, h10, h11⟩ := f₆.2.2.2
  have ne₆ : g₆.get? e = none := T₆.none_ _ (kts_fresh F hBG f₆.2.1 fun o ho m => by
    obtain ⟨_, o', ho', hd⟩ := K.frames.mem m
    rw [ho] at ho'
    cases ho'
    obtain ⟨sl, hs⟩ := (hsm₅.trans U₆) _ _ (F.keep _ _ ho) hd
    rw [h1] at hs
    cases hs
    exact hd _ h3)
  have N₆ := News.more F₆ News.nil h1 (fun es n q => by rw [h3] at q; cases q) ne₆
  exact wpAny_passesOwnAt hE (k h₆ g₆ oe vs T₆ F₆ N₆ h3 h6 K₆ (XB.keeps K₆.stays) (TB.keeps K₆.stays))
end
/-- after a catch the frames' slots may be others: what was raised above the one ground was raised above the other -/
theorem sn_turn {base g g' h : Heap} {l : List Env} {e : Addr} {cls : Value} (T : KtsTurn (l.filterMap (·.frame)) g g') (R : RaisedSN base g' l e cls [] h) : RaisedSN base g l e cls [] h := by
  obtain ⟨B, a0, x1, x2, x3, x4⟩ := R
  exact ⟨B, a0, x1, fun b o hb hn => x2 b o (T.other b o hb hn) hn, (fun _ hq => nomatch hq), x4⟩
theorem up_turn {g g' h : Heap} {fs : List Addr} (T : KtsTurn fs g g') (U : g'.UpToSlots h) : g.UpToSlots h := fun b o hb hn => by
  obtain ⟨sl, hs⟩ := T.up hb
  obtain ⟨sl', hs'⟩ := U b _ hs hn
  exact ⟨sl', hs'⟩
theorem kts_push {h₀ g : Heap} {env : Env} {outer : List Env} {L : Addr} {m : Str → Option Value} (D : KtsDicts (outer.filterMap (·.frame)) h₀) (st : h₀.StaysIn g) (F : Fr h₀ L g m) (hf : env.frame = some L) : KtsDicts ((env :: outer).filterMap (·.frame)) g := fun b hb => by
  obtain ⟨env', he, hf'⟩ := List.mem_filterMap.mp hb
  rcases List.mem_cons.mp he with rfl | he
  · rw [hf] at hf'
    cases hf'
    obtain ⟨o, es, ep, ho, hd, _⟩ := F.ns
    exact ⟨o, es, ep, ho, hd⟩
  · obtain ⟨o, es, n, ho, hd⟩ := D b (List.mem_filterMap.mpr ⟨env', he, hf'⟩)
    exact ⟨o, es, n, st b o ho, hd⟩
end Mine
end
section
open PySem PySem.W PySem.Calls PyProof.Rows PySem.Spec
namespace Mine
section
variable {prog : Program} {w : World} {A₀ A : Around} {s : Shared} {base h₀ g₀ : Heap} {outer : List Env} {L a : Addr} {m : Str → Option Value} {env : Env} {news : List (Addr × Obj)} {K : Frag} {p : Program} {loose : List Str} {mean : ExcName → Option Value} {mg mb : Str → Option Value}
    {R : Result → Shared → Prop} {name qual : Str} {params : Arguments} {body : List Stmt} {scope : Scope} {dV kV doc pm cdv ct oc : Value} {an od : Option Addr} {osl : Array (Option Value)} {f : Addr} {args : Args} {binds : List (Str × Value)}
/-- a def with a try of its own, called by a frame of any kind that stands lowest -/
theorem code_defSX (B : Below A₀ base [] h₀) (F : Fr h₀ L s.heap m) (X₀ : K.In h₀) (N : News h₀ L s.heap news) (T : Top p loose mean mg mb h₀) (hA : A.frames = some [env]) (hf : env.frame = some L) (hke : env.scope.kind = .function)
    (ho : K.lookup f = some ⟨oc, od, .func (fnOf name qual params body scope dV kV doc pm an cdv ct), osl⟩) (hcd : codeIn K cdv qual = true) (hroom : A.depth < recursionLimit)
    (hbind : BindsTo s (fnOf name qual params body scope dV kV doc pm an cdv ct) args binds) (hloc : ∀ y ∈ binds, scope.names.lookup y.1 = some .local)
    (h : ∀ g L' h₁, Fr h₀ L g m → Fr g L' h₁ (fun y => binds.reverse.lookup y) → News g L' h₁ news → Below A base [env] g → K.In g → Top p loose mean mg mb g → KtsDicts ([env].filterMap (·.frame)) g →
      wpAny (model prog w) (A.deeper (envOf qual scope L' f cdv)) (execs body (envOf qual scope L' f cdv))
        (fun fl s' => LeaveS0 ([env].filterMap (·.frame)) h₀ L m g R (match fl with | .ret v => v | _ => .none) s')
        (fun e s' => wpAny (model prog w) (A.deeper (envOf qual scope L' f cdv)) (leaving (envOf qual scope L' f cdv) e) (fun _ s'' => R (.error e) s'') (fun e' s'' => R (.error e') s'') s')
        { s with heap := h₁, toks := s.toks + binds.length })
    (hco : scope.isCoroutine = false) (hgen : scope.isGenerator = false) (hk : scope.kind = .function)
    (hcell : ∀ x ∈ scope.names, x.2 ≠ .cell) : codeAny (model prog w) A (.call (.ref f) args) R s := by
  have X := X₀.keeps F.keep
  have hfm : [env].filterMap (·.frame) = [L] := by simp [hf]
  refine codeAny_call_def (fd := fnOf name qual params body scope dV kV doc pm an cdv ct) (body := body) (binds := binds) hroom (X _ _ ho) rfl (T.nolimit.keeps F.keep) (codeRec_of X hcd) rfl hbind hcell hloc (fun h₁ hns hk₁ => ?_) hco hgen hk
  obtain ⟨FG, BG, st, _⟩ := groundX (R := R) B F N hA hf hke
  obtain ⟨oL, es, ep, hLg, hLd, hLk, hLf⟩ := FG.ns
  have hNs : ∀ (sl : Array (Option Value)) h', h'.get? L = some { oL with slots := sl } → Heap.Ns h' L m := fun sl h' e => ⟨_, es, ep, e, hLd, hLk, hLf⟩
  refine wpAny_mono (h _ s.heap.objs.size h₁ FG ⟨hns, fun b o e => hk₁ b o (of_hideAll _ e), Nat.le_of_eq (hideAll_size _ _)⟩
    (fun p hp => ⟨hk₁ _ _ (N p hp).1, Nat.ne_of_lt (Heap.lt_size (N p hp).1), hideAll_none _ (List.mem_map_of_mem hp)⟩) BG (X₀.keeps st) (T.keeps st) (fun b hb => by
      rw [hfm] at hb
      rw [List.mem_singleton.mp hb]
      exact ⟨oL, es, ep, hLg, hLd⟩)) (fun fl s' hl => ?_) fun _ _ y => y
  obtain ⟨g', L', m', news', T', F', N', k⟩ := hl
  have nL₀ : h₀.get? L = none := kts_self F
  obtain ⟨sl, hs⟩ := T'.up hLg
  refine k ⟨hNs sl _ (F'.keep _ _ hs), fun b o e => F'.keep b o (T'.other b o (st b o e) (fun q => by
    rw [hfm] at q
    rw [List.mem_singleton.mp q, nL₀] at e
    cases e)), F.above⟩ fun p hp => ⟨(N' p hp).1, fun q => ?_, ?_⟩
  · have := (N' p hp).2.2; rw [q, hs] at this; cases this
  · cases q : h₀.get? p.1 with
    | none => rfl
    | some o =>
      obtain ⟨sl', hs'⟩ := T'.up (st _ _ q)
      have := (N' p hp).2.2
      rw [hs'] at this
      cases this
end
end Mine
end
section
open PySem PySem.W PySem.Calls PyProof.Rows
open PySem.Builtin PySem.W.KBy
namespace Mine
theorem noI_bytes_add : typeLookup (.type "bytes") (dunderI "add") = pure none := by rw [typeLookup_type, builtinLookup_eq_fast]; kernel_rfl
theorem iadd_K {prog : Program} {w : World} {A : Around} {E : Value → Shared → Prop} {s : Shared} {b c : Array UInt8} {t u : Tok} {Q : Value → Shared → Prop} {ks ls : List Int}
    (hb : KBw.bInts b = ks) (hc : KBw.bInts c = ls) (hsz : ks.length + ls.length ≤ 16777216) (h : ∀ t' k, KBw.bInts (b ++ c) = ks ++ ls → Q (.bytes (b ++ c) t') { s with toks := k }) :
    wpAny (model prog w) A (inplaceOp .Add (.bytes b t) (.bytes c u)) Q E s := by
  have hz : b.size + c.size ≤ 16777216 := by rw [← KBw.ints_length b, ← KBw.ints_length c, hb, hc]; exact hsz
  have h2 := fun t' k => h t' k (KBw.ints_app hb hc)
  refine iconcat_gives (typeIs_bytes s b t) (typeIs_bytes s c u) noI_bytes_add noFill_bytes_add seq_bytes_add FB.slot_bytes_add FB.entry_bytes_add (FB.args_bytes_add_2 _ _) (gives_bytes_add (tooLong_not hz)) ?_
  cases hbe : b.isEmpty with
  | true =>
    have e : b = #[] := Array.isEmpty_iff.1 hbe
    subst e
    have := h2 u s.toks
    rw [Array.empty_append] at this
    exact this
  | false =>
    cases hce : c.isEmpty with
    | true =>
      have e : c = #[] := Array.isEmpty_iff.1 hce
      subst e
      have := h2 t s.toks
      rw [Array.append_empty] at this
      exact this
    | false => exact ⟨by rw [Array.size_append, sizeLine_eq]; exact hz, h2 s.toks (s.toks + 1)⟩
end Mine
end
section
open PySem PySem.W PySem.Calls PyProof.Rows
namespace Mine
mutual
/-- the ledger bears the datum at v -/
inductive RlpIn (news : List (Addr × Obj)) : Value → Rlp → Prop where
  | str {b : Array UInt8} {t : Tok} {ks : List Int} : KBw.bInts b = ks → RlpIn news (.bytes b t) (.str ks)
  | list {a : Addr} {vs : List Value} {n : Nat} {ds : Rlps} : (a, listOf vs.toArray n) ∈ news → RlpsIn news vs ds → RlpIn news (.ref a) (.list ds)
inductive RlpsIn (news : List (Addr × Obj)) : List Value → Rlps → Prop where
  | nil : RlpsIn news [] .nil
  | cons {v : Value} {vs : List Value} {d : Rlp} {ds : Rlps} : RlpIn news v d → RlpsIn news vs ds → RlpsIn news (v :: vs) (.cons d ds)
end
section
variable {news news' : List (Addr × Obj)}
mutual
theorem RlpIn.mono' (hs : ∀ p ∈ news, p ∈ news') : ∀ (d : Rlp) (v : Value), RlpIn news v d → RlpIn news' v d
  | .str _ => by
    intro v x
    cases x with
    | str h => exact .str h
  | .list ds => by
    intro v x
    cases x with
    | list h hr => exact .list (hs _ h) (RlpsIn.mono' hs ds _ hr)
theorem RlpsIn.mono' (hs : ∀ p ∈ news, p ∈ news') : ∀ (ds : Rlps) (vs : List Value), RlpsIn news vs ds → RlpsIn news' vs ds
  | .nil => by
    intro vs x
    cases x
    exact .nil
  | .cons d ds => by
    intro vs x
    cases x with
    | cons h hr => exact .cons (RlpIn.mono' hs d _ h) (RlpsIn.mono' hs ds _ hr)
end
theorem RlpIn.mono (hs : ∀ p ∈ news, p ∈ news') {v : Value} {d : Rlp} (x : RlpIn news v d) : RlpIn news' v d := RlpIn.mono' hs d v x
theorem RlpsIn.mono (hs : ∀ p ∈ news, p ∈ news') {vs : List Value} {ds : Rlps} (x : RlpsIn news vs ds) : RlpsIn news' vs ds := RlpsIn.mono' hs ds vs x
theorem RlpsIn.snoc {v : Value} {d : Rlp} {vs : List Value} : ∀ {ds : Rlps}, RlpsIn news vs ds → RlpIn news v d → RlpsIn news (vs ++ [v]) (ds.snoc d) := by
  induction vs with
  | nil => intro ds x h; cases x; exact .cons h .nil
  | cons y ys ih =>
    intro ds x h
    cases x with
    | cons h1 hr => exact .cons h1 (ih hr h)
theorem RlpsIn.length {vs : List Value} : ∀ {ds : Rlps}, RlpsIn news vs ds → vs.length = ds.len := by
  induction vs with
  | nil => intro ds x; cases x; rfl
  | cons y ys ih =>
    intro ds x
    cases x with
    | cons h1 hr => exact congrArg Nat.succ (ih hr)
end
theorem rdMany_step {ks : List Int} {F Fk : Nat} {st e i : Int} {ds : Rlps} (h : rdMany ks F st e = (rdMany ks (Fk + 1) i e).map (fun p => (ds.app p.1, p.2))) (hi : i < e) :
    (∀ d j, rdItem ks Fk i = some (d, j) → rdMany ks F st e = (rdMany ks Fk j e).map (fun p => ((ds.snoc d).app p.1, p.2))) ∧ (rdItem ks Fk i = none → rdMany ks F st e = none) := by
  rw [rdMany, if_pos hi] at h
  refine ⟨fun d j hd => ?_, fun hd => ?_⟩
  · rw [h, hd]
    dsimp only
    cases rdMany ks Fk j e with
    | none => rfl
    | some p => dsimp only [Option.map_some]; rw [Rlps.snoc_app]
  · rw [h, hd]; rfl
theorem rdMany_end {ks : List Int} {F Fk : Nat} {st e i : Int} {ds : Rlps} (h : rdMany ks F st e = (rdMany ks (Fk + 1) i e).map (fun p => (ds.app p.1, p.2))) (hi : ¬ i < e) :
    rdMany ks F st e = some (ds, i) := by
  rw [rdMany, if_neg hi] at h
  rw [h]; dsimp only [Option.map_some]; rw [Rlps.app_nil]
theorem rdMany_off {ks : List Int} {i e : Int} (h : (ks.length : Int) ≤ i) (hi : i < e) : ∀ F, rdMany ks F i e = none
  | 0 => rfl
  | F + 1 => by
    have z : rdItem ks F i = none := by
      cases F with
      | zero => rfl
      | succ F =>
        have : hd ks i = none := by unfold hd; rw [if_pos h]
        rw [rdItem_eq, this]
    rw [rdMany, if_pos hi, z]
/-- what is known again behind a call that came back: the ledger may be longer -/
noncomputable def Bk (h₀ : Heap) (L : Addr) (m : Str → Option Value) (news tl : List (Addr × Obj)) (h' : Heap) : Prop :=
  Fr h₀ L h' m ∧ News h₀ L h' (tl ++ news) ∧ ∀ q ∈ news, ∀ p ∈ tl, q.1 < p.1
theorem kst_self {m : Str → Option Value} {ps : List (Str × Value)} (h : ∀ p ∈ ps, m p.1 = some p.2) : kstB m ps = m := by
  funext y
  exact kstB_eq h fun _ => rfl
theorem allLt_mem {d : Addr} : ∀ {l : List (Addr × Obj)}, AllLt d l → ∀ p ∈ l, @LT.lt Nat _ p.1 d
  | [], _, _, hp => nomatch hp
  | q :: r, h, p, hp => by
    rcases List.mem_cons.mp hp with rfl | hp
    · exact h.1
    · exact allLt_mem h.2 p hp
/-- the loop of consume_payload, between two turns -/
noncomputable def PJ (ks : List Int) (b : Array UInt8) (F : Nat) (st e : Int) (aI aP : Addr) (te tb : Tok) (p0 : Nat) (news : List (Addr × Obj)) (k : Nat) (m : Str → Option Value) (nx : List (Addr × Obj)) : Prop :=
  ∃ (nxt : Int) (tn : Tok) (ds : Rlps) (vsI : List Value) (nI : Nat) (vsP : List Value) (nP : Nat) (c : Array UInt8) (tc : Tok) (tl : List (Addr × Obj)),
    nx = (aP, listOf vsP.toArray nP) :: (aI, listOf vsI.toArray nI) :: (tl ++ news) ∧ k = (e - nxt).toNat ∧
    (∀ p ∈ [(Str.ofString "rlp", Value.bytes b tb), (Str.ofString "items", .ref aI), (Str.ofString "per_item_rlp", .ref aP), (Str.ofString "list_rlp", .bytes c tc), (Str.ofString "next_item_start", .int nxt tn), (Str.ofString "end", .int e te)], m p.1 = some p.2) ∧
    (∀ p ∈ tl, p.1 ≠ aI ∧ p.1 ≠ aP) ∧ (∀ q ∈ news, ∀ p ∈ tl, q.1 < p.1) ∧ RlpsIn tl vsI ds ∧ vsI.length ≤ 304 ∧ (vsI.length : Int) ≤ nxt - st ∧ vsP.length = vsI.length ∧
    ((KBw.bInts c).length : Int) ≤ p0 + (min nxt ks.length - min st ks.length) ∧ st ≤ nxt ∧
    (nxt ≤ ks.length → ∃ Fk : Nat, 2 * ((ks.length : Int) + 1 - nxt) ≤ Fk ∧ Fk ≤ F ∧ rdMany ks F st e = (rdMany ks Fk nxt e).map (fun p => (ds.app p.1, p.2))) ∧ ((ks.length : Int) < nxt → rdMany ks F st e = none)
end Mine
end
section
open PySem PySem.W PySem.Calls PyProof.Rows
namespace Mine
section
variable {M : Model} {A : Around} {E Q : Value → Shared → Prop} {s : Shared}
theorem Stop.c2 {f : Addr} {b : Array UInt8} {t : Tok} {v : Value} (h : Stop (wpAny M A (call (.ref f) [.bytes b t, v]) Q E s)) : wpAny M A (call (.ref f) [.bytes b t, v]) Q E s := h.go
theorem Stop.r {e1 e2 : PySem.Expr} {a : Addr} {k : Int} {t : Tok} (h : Stop (wpAny M A (subscriptTail e1 e2 (.ref a) (.int k t)) Q E s)) : wpAny M A (subscriptTail e1 e2 (.ref a) (.int k t)) Q E s := h.go
theorem Stop.j {o : Str} {env : Env} (h : Stop (wpAny M A (joinParts o (evalEach [] env)) Q E s)) : wpAny M A (joinParts o (evalEach [] env)) Q E s := h.go
theorem Stop.xi {Q : Flow → Shared → Prop} {a b g h i j k : _} {l r : _} {e : _} {p : _} {env : Env} (H : Stop (wpAny M A (execs (Stmt.If (Expr.Compare (Expr.Call a b g h) i j k) l r p :: e) env) Q E s)) : wpAny M A (execs (Stmt.If (Expr.Compare (Expr.Call a b g h) i j k) l r p :: e) env) Q E s := H.go
theorem Stop.xa {Q : Flow → Shared → Prop} {a b c d : _} {env : Env} (H : Stop (wpAny M A (execs (Stmt.Assign [Expr.Name (Str.ofString "at") a] b c :: d) env) Q E s)) : wpAny M A (execs (Stmt.Assign [Expr.Name (Str.ofString "at") a] b c :: d) env) Q E s := H.go
end
end Mine
end
section
open PySem PySem.W PySem.Calls PyProof.Rows PySem.Spec
namespace Mine
section
variable {prog : Program} {w : World} {A : Around} {E : Value → Shared → Prop} {s : Shared} {env : Env} {h₀ : Heap} {x : Str} {body : List Stmt} {Q : Flow → Shared → Prop}
noncomputable def VPost (s : Shared) (h₀ : Heap) (L : Addr) (J : (Str → Option Value) → Prop) (led : List (Addr × Obj)) (Q : Flow → Shared → Prop) (f : Flow) (s₂ : Shared) : Prop := match f with
  | .ret v => Q (.ret v) s₂
  | .brk => Q .next s₂
  | _ => ∃ h' tk' m', s₂ = { s with heap := h', toks := tk' } ∧ Fr h₀ L h' m' ∧ News h₀ L h' led ∧ J m'
/-- a loop over a list of the ledger that leaves the ledger as it stands -/
theorem iter_V {l : Addr} {vs : List Value} {nn : Nat} {m₀ : Str → Option Value} {news : List (Addr × Obj)} (J : Nat → (Str → Option Value) → Prop)
    (hh : A.handled = none) (hl : (l, listOf vs.toArray nn) ∈ news) (F : Fr h₀ env.locals s.heap m₀) (N : News h₀ env.locals s.heap news) (hj : J 0 m₀)
    (turn : ∀ i v m₁ h tk own, vs[i]? = some v → J i m₁ → Fr h₀ env.locals h (fun y => if y = x then some v else m₁ y) → News h₀ env.locals h (own ++ news) →
      wpAny (model prog w) A (execs body env) (VPost s h₀ env.locals (J (i + 1)) (own ++ news) Q) E { s with heap := h, toks := tk })
    (done : ∀ m₁ h tk, J vs.length m₁ → Fr h₀ env.locals h m₁ → News h₀ env.locals h news → Q .next { s with heap := h, toks := tk }) :
    wpAny (model prog w) A (pyIter (.ref l)) (fun it s₂ => LoopAtV prog w A h₀ env x body Q E it s₂) E s := by
  have hol : s.heap.get? l = some (listOf vs.toArray nn) := (N _ hl).1
  have hls : s.heap.IsList l vs.toArray := ⟨_, hol, rfl, nn, rfl⟩
  have hne : l ≠ s.heap.objs.size := Nat.ne_of_lt (Heap.lt_size hol)
  refine wpAny_pyIter_list hls ?_
  have W := Walks.list (prog := prog) (w := w) hh s.heap.objs.size l hne vs.toArray
  have off : ∀ p ∈ news, p.1 ∉ [s.heap.objs.size] := fun p hp hI => absurd (Heap.lt_size (N p hp).1) ((List.mem_singleton.mp hI) ▸ Nat.lt_irrefl _)
  refine ⟨_, _, _, _, _, _, m₀, news, (fun i m nx => nx = news ∧ J i m), rfl, W, ?_, ?_, off, ⟨⟨_, Heap.get?_push_size _ rfl, rfl, rfl⟩, hls.at fun o e => Heap.get?_push_of_some _ e⟩, F.push _, (fun p hp => ⟨Heap.get?_push_of_some _ (N p hp).1, (N p hp).2⟩), ⟨rfl, hj⟩, ?_, ?_⟩
  · intro hm
    rcases List.mem_cons.mp hm with e | hm
    · exact absurd F.ns.lt (e ▸ Nat.lt_irrefl _)
    · exact (N _ hl).2.1 ((List.mem_singleton.mp hm).symm)
  · intro b hb
    rw [List.mem_singleton.mp hb]
    exact next_is_new F
  · rintro i v m₁ news₁ s₁ own ⟨hh', tk', rfl⟩ hin hP ⟨rfl, hJ⟩ _ _ _ _ _ F₁ N₁
    have hv : vs[i]? = some v := by simpa using hP
    refine wpAny_mono (turn i v m₁ hh' tk' own hv hJ F₁ N₁) (fun f s₂ p => ?_) fun _ _ e => e
    cases f with
    | ret v => exact .ret p
    | brk => exact .brk p
    | next =>
      obtain ⟨h', tk, m', rfl, F', N', hJ'⟩ := p
      exact .next ⟨rfl, h', tk, m', news₁, rfl, F', N', off, rfl, hJ'⟩
    | cont =>
      obtain ⟨h', tk, m', rfl, F', N', hJ'⟩ := p
      exact .cont ⟨rfl, h', tk, m', news₁, rfl, F', N', off, rfl, hJ'⟩
  · rintro h' tk m' news' F' N' _ ⟨rfl, hJ⟩
    have e : vs.toArray.size = vs.length := by simp
    rw [e] at hJ
    exact done m' h' tk hJ F' N'
end
theorem pfx_len (n o : Int) : (pfx n o).length ≤ 3 := by
  unfold pfx; repeat' split
  all_goals simp
theorem For_W {prog : Program} {w : World} {A : Around} {s : Shared} {env : Env} {g hh : Heap} {L : Addr} {m : Str → Option Value} {E : Value → Shared → Prop} {Q : Flow → Shared → Prop} {x : Str} {px pos : Pos} {iter : PySem.Expr} {body : List Stmt} (_F : Fr g L hh m) (hx : env.kindOf x = some .local)
    (hp : (env.scope.kind == .class || (env.scope.kind == .module && env.locals != env.globals)) = false)
    (h : wpAny (model prog w) A (eval iter env) (fun xv s₁ => wpAny (model prog w) A (pyIter xv) (fun it s₂ => LoopAtV prog w A g env x body Q E it s₂) E s₁) E s)
    (hs : ∀ x, foldedSetIterable iter env x = pure x := by intro _; rfl)
    (hE : PassesOwn (model prog w) A env E := by passes_own) :
    wpAny (model prog w) A (exec (.For (.Name x px) iter body [] pos) env) Q E s := For_invV g hx hp h hs hE
theorem RlpsIn.drop {news : List (Addr × Obj)} {vs : List Value} {ds : Rlps} {v : Value} {i : Nat} (h : RlpsIn news (vs.drop i) ds) (hi : vs[i]? = some v) : ∃ d rest, ds = .cons d rest ∧ RlpIn news v d ∧ RlpsIn news (vs.drop (i + 1)) rest := by
  have hlt : i < vs.length := (List.getElem?_eq_some_iff.mp hi).1
  have e : vs.drop i = v :: vs.drop (i + 1) := by
    rw [List.drop_eq_getElem_cons hlt]
    congr 1
    exact (List.getElem?_eq_some_iff.mp hi).2
  rw [e] at h
  cases h with
  | cons h1 h2 => exact ⟨_, _, rfl, h1, h2⟩
end Mine
end
namespace Mine
theorem pad3 {prog : PySem.Program} {w : PySem.World} {A : PySem.Around} {E : PySem.Value → PySem.Shared → Prop} {s : PySem.Shared} {env : PySem.Env} {Q : PySem.Flow → PySem.Shared → Prop} (h : Q .next s) : PySem.wpAny (PySem.model prog w) A (PySem.execs [] env) Q E s := by
  walk1
  exact h
end Mine
section
open PySem PySem.W PySem.Calls PyProof.Rows
namespace Mine
local macro_rules | `(tactic| walk_at "call builtin:int.to_bytes") => `(tactic| refine Stop.go ?_)
local macro_rules | `(tactic| walk_at "call builtin:len") => `(tactic| refine Stop.go ?_)
set_option maxHeartbeats 8000000 in
theorem c_prefix {w : World} {loose : List Str} {mean : ExcName → Option Value} {mg mb : Str → Option Value} {dp un : Nat} {gd : Option (List Code)} {env : Env} {outer : List Env} {A₀ : Around} {base h₀ : Heap} {L : Addr} {m : Str → Option Value} {news : List (Addr × Obj)} {s : Shared} {Q E : Value → Shared → Prop}
    (C : Cx w loose mean mg mb env outer A₀ base h₀ L m news s.heap) (hroom : dp + 3 < recursionLimit) (hun : un + 50 < cLine)
    (n o : Int) (t1 t2 : Tok) (hn : 0 ≤ n) (hn2 : n < 65536) (ho : o = 128 ∨ o = 192)
    (hret : ∀ b t' h' tk', KBw.bInts b = pfx n o → Back h₀ L m news [] h' → Q (.bytes b t') { s with heap := h', toks := tk' }) :
    wpAny (model PySem.Challenge.rw_jm0023_01.prog w) (kT dp un gd env outer) (call (.ref 1448) [.int n t1, .int o t2]) Q E s := by
  obtain ⟨B, F, X, N, T, hf, hk⟩ := C
  revert X; k_fill; intro X
  refine wpAny_call ?_
  by_cases h1 : n < 56
  · (k_dflt (refine' code_def ?k1 ?k2 ?k3 ?k4 ?k5 ?kA ?kF ?kK ?k6 ?k7 ?k8 ?k9 ?kB ?_ ?c2 ?c3 ?c4 ?c5; (case kA => exact rfl); (case kF => assumption); (case kK => assumption); (case k1 => k_asm); (case k2 => k_asm); (case k3 => k_asm); (case k4 => k_asm); (case k5 => k_asm); (case k6 => k_is); (case k7 => k_is); (case k8 => (simp only [recursionLimit] at *; (try dsimp only); lia)); (case k9 => exact BindsTo.of_eq rfl); (case c5 => decide); (case kB => exact locs rfl); (case c2 => exact rfl); (case c3 => exact rfl); (case c4 => exact rfl); k_whole; intro _ _ _ _ _ _ _ _ _; (try dsimp only); (try k_fold)))
    (k_steps; repeat' ((with_reducible refine Stop.mk ?_); first | ((with_unfolding_all first | (refine to_big1 (fdiv8 (by lia)) (by lia) (by lia) ?_; intro bT tT kT hT) | (refine to_big2 (fdiv8 (by lia)) (by lia) (by lia) ?_; intro bT tT kT hT)); k_steps) | (((with_reducible show wpAny _ _ (call (Value.builtin "len") [Value.bytes _ _]) _ _ _); (refine KBw.len_K (by assumption) (by kba_size) ?_); (simp only [List.length_cons, List.length_nil])); k_steps) | fail))
    exact hret _ _ _ _ ((bytes1 (by lia) (by lia)).trans (by rw [pfx, if_pos h1])) (Back.sub (by assumption) (by assumption) (by intro p hp; simp [hp]))
  · by_cases h2 : n < 256
    · have hb1 := bits_gt (n := n) (k := 5) (by lia)
      have hb2 := bits_of (n := n) (k := 8) (by lia) (by lia)
      (k_dflt (refine' code_def ?k1 ?k2 ?k3 ?k4 ?k5 ?kA ?kF ?kK ?k6 ?k7 ?k8 ?k9 ?kB ?_ ?c2 ?c3 ?c4 ?c5; (case kA => exact rfl); (case kF => assumption); (case kK => assumption); (case k1 => k_asm); (case k2 => k_asm); (case k3 => k_asm); (case k4 => k_asm); (case k5 => k_asm); (case k6 => k_is); (case k7 => k_is); (case k8 => (simp only [recursionLimit] at *; (try dsimp only); lia)); (case k9 => exact BindsTo.of_eq rfl); (case c5 => decide); (case kB => exact locs rfl); (case c2 => exact rfl); (case c3 => exact rfl); (case c4 => exact rfl); k_whole; intro _ _ _ _ _ _ _ _ _; (try dsimp only); (try k_fold)))
      (k_steps; repeat' ((with_reducible refine Stop.mk ?_); first | ((with_unfolding_all first | (refine to_big1 (fdiv8 (by lia)) (by lia) (by lia) ?_; intro bT tT kT hT) | (refine to_big2 (fdiv8 (by lia)) (by lia) (by lia) ?_; intro bT tT kT hT)); k_steps) | (((with_reducible show wpAny _ _ (call (Value.builtin "len") [Value.bytes _ _]) _ _ _); (refine KBw.len_K (by assumption) (by kba_size) ?_); (simp only [List.length_cons, List.length_nil])); k_steps) | fail))
      refine hret _ _ _ _ ?_ (Back.sub (by assumption) (by assumption) (by intro p hp; simp [hp]))
      rename KBw.bInts (_ ++ _) = _ => hA
      rw [hA, List.map_cons, List.map_nil, byte_back (by lia) (by lia), pfx, if_neg h1, if_pos h2]
      simp; lia
    · have hb1 := bits_gt (n := n) (k := 8) (by lia)
      have hb2 := bits_of (n := n) (k := 16) (by lia) (by lia)
      (k_dflt (refine' code_def ?k1 ?k2 ?k3 ?k4 ?k5 ?kA ?kF ?kK ?k6 ?k7 ?k8 ?k9 ?kB ?_ ?c2 ?c3 ?c4 ?c5; (case kA => exact rfl); (case kF => assumption); (case kK => assumption); (case k1 => k_asm); (case k2 => k_asm); (case k3 => k_asm); (case k4 => k_asm); (case k5 => k_asm); (case k6 => k_is); (case k7 => k_is); (case k8 => (simp only [recursionLimit] at *; (try dsimp only); lia)); (case k9 => exact BindsTo.of_eq rfl); (case c5 => decide); (case kB => exact locs rfl); (case c2 => exact rfl); (case c3 => exact rfl); (case c4 => exact rfl); k_whole; intro _ _ _ _ _ _ _ _ _; (try dsimp only); (try k_fold)))
      (k_steps; repeat' ((with_reducible refine Stop.mk ?_); first | ((with_unfolding_all first | (refine to_big1 (fdiv8 (by lia)) (by lia) (by lia) ?_; intro bT tT kT hT) | (refine to_big2 (fdiv8 (by lia)) (by lia) (by lia) ?_; intro bT tT kT hT)); k_steps) | (((with_reducible show wpAny _ _ (call (Value.builtin "len") [Value.bytes _ _]) _ _ _); (refine KBw.len_K (by assumption) (by kba_size) ?_); (simp only [List.length_cons, List.length_nil])); k_steps) | fail))
      refine hret _ _ _ _ ?_ (Back.sub (by assumption) (by assumption) (by intro p hp; simp [hp]))
      rename KBw.bInts (_ ++ _) = _ => hA
      rw [hA, List.map_cons, List.map_nil, byte_back (by lia) (by lia), pfx, if_neg h1, if_neg h2]
      simp; lia
end Mine
end
namespace Mine
theorem pad4 {prog : PySem.Program} {w : PySem.World} {A : PySem.Around} {E : PySem.Value → PySem.Shared → Prop} {s : PySem.Shared} {env : PySem.Env} {Q : PySem.Flow → PySem.Shared → Prop} (h : Q .next s) : PySem.wpAny (PySem.model prog w) A (PySem.execs [] env) Q E s := by
  walk1
  exact h
end Mine
section
open PySem PySem.W PySem.Calls PyProof.Rows PySem.Spec
namespace Mine
noncomputable def allB (P : Params) : List Value := match (o1357 P).data with
  | .seq items _ => items.toList
  | _ => []
theorem o1357_is (P : Params) : o1357 P = { cls := .type "tuple", data := .seq (allB P).toArray 0 } := by kernel_rfl
theorem allB_len (P : Params) : (allB P).length = 256 := by kernel_rfl
theorem allB_all (P : Params) : ((List.range 256).all fun i => match (allB P)[i]? with | some (.bytes b _) => b == #[UInt8.ofNat i] | _ => false) = true := by kernel_rfl
theorem allB_at (P : Params) {i : Int} (h0 : 0 ≤ i) (h1 : i < 256) : ∃ b t, (allB P)[i.toNat]? = some (.bytes b t) ∧ KBw.bInts b = [i] := by
  have z := List.all_eq_true.mp (allB_all P) i.toNat (List.mem_range.mpr (by lia))
  split at z
  · rename_i b t e
    refine ⟨b, t, e, ?_⟩
    have := beq_iff_eq.mp z
    subst this
    show [(((UInt8.ofNat i.toNat).toNat : Nat) : Int)] = [i]
    rw [UInt8.toNat_ofNat']
    congr 1
    lia
  · cases z
theorem item_all {prog : Program} {w : World} {A : Around} {E : Value → Shared → Prop} {s : Shared} {value slice : PySem.Expr} {i : Int} {u : Tok} {Q : Value → Shared → Prop} (X : (K w.params).In s.heap) (h0 : 0 ≤ i) (h1 : i < 256)
    (h : ∀ b t, KBw.bInts b = [i] → Q (.bytes b t) s)
    (hs : subscripted slice false (.ref 1357) (.int i u) = operate [.ref 1357, .int i u] (getItem (.ref 1357) (.int i u)) := by with_unfolding_all rfl) :
    wpAny (model prog w) A (subscriptTail value slice (.ref 1357) (.int i u)) Q E s := by
  obtain ⟨b, t, e, hb⟩ := allB_at w.params h0 h1
  have ht : IsTup s.heap 1357 (allB w.params).toArray := ⟨_, X 1357 (o1357 w.params) (by kernel_rfl), by rw [o1357_is], 0, by rw [o1357_is]⟩
  refine item_tupleT (j := i.toNat) ht (by lia) (by lia) ?_ e (h b t hb) hs
  have e0 : ¬ i < 0 := by lia
  have e1 : i < (256 : Nat) := by lia
  rw [allB_len]
  simp [seqIndex?, e0]
  lia
local macro_rules | `(tactic| walk_at "call ref") => `(tactic| refine Stop.go ?_)
local macro_rules | `(tactic| walk_at "call builtin:int.to_bytes") => `(tactic| refine Stop.go ?_)
local macro_rules | `(tactic| walk_at "call builtin:len") => `(tactic| refine Stop.go ?_)
local macro_rules | `(tactic| walk_at "subscriptTail") => `(tactic| with_reducible refine Stop.r ?_)
set_option maxHeartbeats 4000000 in
theorem c_lp {w : World} {loose : List Str} {mean : ExcName → Option Value} {mg mb : Str → Option Value} {dp un : Nat} {gd : Option (List Code)} {env : Env} {outer : List Env} {A₀ : Around} {base h₀ : Heap} {L : Addr} {m : Str → Option Value} {news : List (Addr × Obj)} {s : Shared} {Q E : Value → Shared → Prop}
    (C : Cx w loose mean mg mb env outer A₀ base h₀ L m news s.heap) (hroom : dp + 10 < 1000) (hun : un + 100 < 9900)
    (n o : Int) (t1 t2 : Tok) (hn : 0 ≤ n) (hn2 : n < 65536) (ho : o = 128 ∨ o = 192)
    (hret : ∀ b t' h' tk', KBw.bInts b = pfx n o → Fr h₀ L h' m → News h₀ L h' news → Q (.bytes b t') { s with heap := h', toks := tk' }) :
    wpAny (model PySem.Challenge.rw_jm0023_01.prog w) (kT dp un gd env outer) (call (.ref 1399) [.int n t1, .int o t2]) Q E s := by
  obtain ⟨B, F, X, N, T, hf, hk⟩ := C
  have hr : recursionLimit = 1000 := rfl
  have hc : cLine = 9900 := rfl
  revert X; k_fill; intro X
  refine wpAny_call ?_
  by_cases h1 : n < 56
  · (k_dflt (refine' code_def ?k1 ?k2 ?k3 ?k4 ?k5 ?kA ?kF ?kK ?k6 ?k7 ?k8 ?k9 ?kB ?_ ?c2 ?c3 ?c4 ?c5; (case kA => exact rfl); (case kF => first | assumption | exact rfl); (case kK => first | assumption | exact rfl); (case k1 => k_asm); (case k2 => k_asm); (case k3 => k_asm); (case k4 => k_asm); (case k5 => k_asm); (case k6 => k_is); (case k7 => k_is); (case k8 => ((try dsimp only [Around.deeper]); lia)); (case k9 => first | exact BindsTo.of_eq rfl | exact binds_K (by k_in) rfl (by k_is) rfl rfl rfl); (case c5 => decide); (case kB => exact locs rfl); (case c2 => exact rfl); (case c3 => exact rfl); (case c4 => exact rfl); k_whole; intro _ _ _ _ _ _ _ _ _; (try dsimp only); (try k_fold)))
    (k_steps; repeat' ((with_reducible refine Stop.mk ?_); first | (exfalso; rename (_ : Int).fdiv 8 = 0 => zz; rw [Int.fdiv_eq_ediv_of_nonneg _ (by decide)] at zz; lia) | ((with_unfolding_all first | (refine to_big1 (fdiv8 (by lia)) (by lia) (by lia) ?_; intro bT tT kT hT) | (refine to_big2 (fdiv8 (by lia)) (by lia) (by lia) ?_; intro bT tT kT hT)); k_steps) | (((with_reducible show wpAny _ _ (call (Value.builtin "len") [Value.bytes _ _]) _ _ _); (refine KBw.len_K (by assumption) (by kba_size) ?_); (simp only [List.length_cons, List.length_nil])); k_steps) | (((with_reducible show wpAny _ _ (subscriptTail _ _ (Value.ref _) (Value.int _ _)) _ _ _); k_dflt (refine item_all (by k_in) (by lia) (by lia) ?_); intro bA tA hA); k_steps) | fail))
    all_goals (try (refine ⟨wpAny_call ?_⟩; (k_dflt (refine' code_def ?k1 ?k2 ?k3 ?k4 ?k5 ?kA ?kF ?kK ?k6 ?k7 ?k8 ?k9 ?kB ?_ ?c2 ?c3 ?c4 ?c5; (case kA => exact rfl); (case kF => first | assumption | exact rfl); (case kK => first | assumption | exact rfl); (case k1 => k_asm); (case k2 => k_asm); (case k3 => k_asm); (case k4 => k_asm); (case k5 => k_asm); (case k6 => k_is); (case k7 => k_is); (case k8 => ((try dsimp only [Around.deeper]); lia)); (case k9 => first | exact BindsTo.of_eq rfl | exact binds_K (by k_in) rfl (by k_is) rfl rfl rfl); (case c5 => decide); (case kB => exact locs rfl); (case c2 => exact rfl); (case c3 => exact rfl); (case c4 => exact rfl); k_whole; intro _ _ _ _ _ _ _ _ _; (try dsimp only); (try k_fold))); (k_steps; repeat' ((with_reducible refine Stop.mk ?_); first | (exfalso; rename (_ : Int).fdiv 8 = 0 => zz; rw [Int.fdiv_eq_ediv_of_nonneg _ (by decide)] at zz; lia) | ((with_unfolding_all first | (refine to_big1 (fdiv8 (by lia)) (by lia) (by lia) ?_; intro bT tT kT hT) | (refine to_big2 (fdiv8 (by lia)) (by lia) (by lia) ?_; intro bT tT kT hT)); k_steps) | (((with_reducible show wpAny _ _ (call (Value.builtin "len") [Value.bytes _ _]) _ _ _); (refine KBw.len_K (by assumption) (by kba_size) ?_); (simp only [List.length_cons, List.length_nil])); k_steps) | (((with_reducible show wpAny _ _ (subscriptTail _ _ (Value.ref _) (Value.int _ _)) _ _ _); k_dflt (refine item_all (by k_in) (by lia) (by lia) ?_); intro bA tA hA); k_steps) | fail))))
    all_goals exact hret _ _ _ _ ((by assumption : KBw.bInts _ = [o + n]).trans (by rw [pfx, if_pos h1])) (by assumption) (by assumption)
  · by_cases h2 : n < 256
    · have hb1 := bits_gt (n := n) (k := 5) (by lia)
      have hb2 := bits_of (n := n) (k := 8) (by lia) (by lia)
      (k_dflt (refine' code_def ?k1 ?k2 ?k3 ?k4 ?k5 ?kA ?kF ?kK ?k6 ?k7 ?k8 ?k9 ?kB ?_ ?c2 ?c3 ?c4 ?c5; (case kA => exact rfl); (case kF => first | assumption | exact rfl); (case kK => first | assumption | exact rfl); (case k1 => k_asm); (case k2 => k_asm); (case k3 => k_asm); (case k4 => k_asm); (case k5 => k_asm); (case k6 => k_is); (case k7 => k_is); (case k8 => ((try dsimp only [Around.deeper]); lia)); (case k9 => first | exact BindsTo.of_eq rfl | exact binds_K (by k_in) rfl (by k_is) rfl rfl rfl); (case c5 => decide); (case kB => exact locs rfl); (case c2 => exact rfl); (case c3 => exact rfl); (case c4 => exact rfl); k_whole; intro _ _ _ _ _ _ _ _ _; (try dsimp only); (try k_fold)))
      (k_steps; repeat' ((with_reducible refine Stop.mk ?_); first | (exfalso; rename (_ : Int).fdiv 8 = 0 => zz; rw [Int.fdiv_eq_ediv_of_nonneg _ (by decide)] at zz; lia) | ((with_unfolding_all first | (refine to_big1 (fdiv8 (by lia)) (by lia) (by lia) ?_; intro bT tT kT hT) | (refine to_big2 (fdiv8 (by lia)) (by lia) (by lia) ?_; intro bT tT kT hT)); k_steps) | (((with_reducible show wpAny _ _ (call (Value.builtin "len") [Value.bytes _ _]) _ _ _); (refine KBw.len_K (by assumption) (by kba_size) ?_); (simp only [List.length_cons, List.length_nil])); k_steps) | (((with_reducible show wpAny _ _ (subscriptTail _ _ (Value.ref _) (Value.int _ _)) _ _ _); k_dflt (refine item_all (by k_in) (by lia) (by lia) ?_); intro bA tA hA); k_steps) | fail))
      all_goals (try (refine ⟨wpAny_call ?_⟩; (k_dflt (refine' code_def ?k1 ?k2 ?k3 ?k4 ?k5 ?kA ?kF ?kK ?k6 ?k7 ?k8 ?k9 ?kB ?_ ?c2 ?c3 ?c4 ?c5; (case kA => exact rfl); (case kF => first | assumption | exact rfl); (case kK => first | assumption | exact rfl); (case k1 => k_asm); (case k2 => k_asm); (case k3 => k_asm); (case k4 => k_asm); (case k5 => k_asm); (case k6 => k_is); (case k7 => k_is); (case k8 => ((try dsimp only [Around.deeper]); lia)); (case k9 => first | exact BindsTo.of_eq rfl | exact binds_K (by k_in) rfl (by k_is) rfl rfl rfl); (case c5 => decide); (case kB => exact locs rfl); (case c2 => exact rfl); (case c3 => exact rfl); (case c4 => exact rfl); k_whole; intro _ _ _ _ _ _ _ _ _; (try dsimp only); (try k_fold))); (k_steps; repeat' ((with_reducible refine Stop.mk ?_); first | (exfalso; rename (_ : Int).fdiv 8 = 0 => zz; rw [Int.fdiv_eq_ediv_of_nonneg _ (by decide)] at zz; lia) | ((with_unfolding_all first | (refine to_big1 (fdiv8 (by lia)) (by lia) (by lia) ?_; intro bT tT kT hT) | (refine to_big2 (fdiv8 (by lia)) (by lia) (by lia) ?_; intro bT tT kT hT)); k_steps) | (((with_reducible show wpAny _ _ (call (Value.builtin "len") [Value.bytes _ _]) _ _ _); (refine KBw.len_K (by assumption) (by kba_size) ?_); (simp only [List.length_cons, List.length_nil])); k_steps) | (((with_reducible show wpAny _ _ (subscriptTail _ _ (Value.ref _) (Value.int _ _)) _ _ _); k_dflt (refine item_all (by k_in) (by lia) (by lia) ?_); intro bA tA hA); k_steps) | fail))))
      all_goals refine hret _ _ _ _ ?_ (by assumption) (by assumption)
      all_goals rename KBw.bInts (_ ++ _) = _ => hA
      all_goals rw [hA, pfx, if_neg h1, if_pos h2]
      all_goals simp
      all_goals first | lia | (exfalso; rename (_ : Int).fdiv 8 = 0 => zz; rw [Int.fdiv_eq_ediv_of_nonneg _ (by decide)] at zz; lia)
    · have hb1 := bits_gt (n := n) (k := 8) (by lia)
      have hb2 := bits_of (n := n) (k := 16) (by lia) (by lia)
      (k_dflt (refine' code_def ?k1 ?k2 ?k3 ?k4 ?k5 ?kA ?kF ?kK ?k6 ?k7 ?k8 ?k9 ?kB ?_ ?c2 ?c3 ?c4 ?c5; (case kA => exact rfl); (case kF => first | assumption | exact rfl); (case kK => first | assumption | exact rfl); (case k1 => k_asm); (case k2 => k_asm); (case k3 => k_asm); (case k4 => k_asm); (case k5 => k_asm); (case k6 => k_is); (case k7 => k_is); (case k8 => ((try dsimp only [Around.deeper]); lia)); (case k9 => first | exact BindsTo.of_eq rfl | exact binds_K (by k_in) rfl (by k_is) rfl rfl rfl); (case c5 => decide); (case kB => exact locs rfl); (case c2 => exact rfl); (case c3 => exact rfl); (case c4 => exact rfl); k_whole; intro _ _ _ _ _ _ _ _ _; (try dsimp only); (try k_fold)))
      (k_steps; repeat' ((with_reducible refine Stop.mk ?_); first | (exfalso; rename (_ : Int).fdiv 8 = 0 => zz; rw [Int.fdiv_eq_ediv_of_nonneg _ (by decide)] at zz; lia) | ((with_unfolding_all first | (refine to_big1 (fdiv8 (by lia)) (by lia) (by lia) ?_; intro bT tT kT hT) | (refine to_big2 (fdiv8 (by lia)) (by lia) (by lia) ?_; intro bT tT kT hT)); k_steps) | (((with_reducible show wpAny _ _ (call (Value.builtin "len") [Value.bytes _ _]) _ _ _); (refine KBw.len_K (by assumption) (by kba_size) ?_); (simp only [List.length_cons, List.length_nil])); k_steps) | (((with_reducible show wpAny _ _ (subscriptTail _ _ (Value.ref _) (Value.int _ _)) _ _ _); k_dflt (refine item_all (by k_in) (by lia) (by lia) ?_); intro bA tA hA); k_steps) | fail))
      all_goals (try (refine ⟨wpAny_call ?_⟩; (k_dflt (refine' code_def ?k1 ?k2 ?k3 ?k4 ?k5 ?kA ?kF ?kK ?k6 ?k7 ?k8 ?k9 ?kB ?_ ?c2 ?c3 ?c4 ?c5; (case kA => exact rfl); (case kF => first | assumption | exact rfl); (case kK => first | assumption | exact rfl); (case k1 => k_asm); (case k2 => k_asm); (case k3 => k_asm); (case k4 => k_asm); (case k5 => k_asm); (case k6 => k_is); (case k7 => k_is); (case k8 => ((try dsimp only [Around.deeper]); lia)); (case k9 => first | exact BindsTo.of_eq rfl | exact binds_K (by k_in) rfl (by k_is) rfl rfl rfl); (case c5 => decide); (case kB => exact locs rfl); (case c2 => exact rfl); (case c3 => exact rfl); (case c4 => exact rfl); k_whole; intro _ _ _ _ _ _ _ _ _; (try dsimp only); (try k_fold))); (k_steps; repeat' ((with_reducible refine Stop.mk ?_); first | (exfalso; rename (_ : Int).fdiv 8 = 0 => zz; rw [Int.fdiv_eq_ediv_of_nonneg _ (by decide)] at zz; lia) | ((with_unfolding_all first | (refine to_big1 (fdiv8 (by lia)) (by lia) (by lia) ?_; intro bT tT kT hT) | (refine to_big2 (fdiv8 (by lia)) (by lia) (by lia) ?_; intro bT tT kT hT)); k_steps) | (((with_reducible show wpAny _ _ (call (Value.builtin "len") [Value.bytes _ _]) _ _ _); (refine KBw.len_K (by assumption) (by kba_size) ?_); (simp only [List.length_cons, List.length_nil])); k_steps) | (((with_reducible show wpAny _ _ (subscriptTail _ _ (Value.ref _) (Value.int _ _)) _ _ _); k_dflt (refine item_all (by k_in) (by lia) (by lia) ?_); intro bA tA hA); k_steps) | fail))))
      all_goals refine hret _ _ _ _ ?_ (by assumption) (by assumption)
      all_goals rename KBw.bInts (_ ++ _) = _ => hA
      all_goals rw [hA, pfx, if_neg h1, if_neg h2]
      all_goals simp
      all_goals first | lia | (exfalso; rename (_ : Int).fdiv 8 = 0 => zz; rw [Int.fdiv_eq_ediv_of_nonneg _ (by decide)] at zz; lia)
end Mine
end
section
open PySem PySem.W PySem.Calls PyProof.Rows PySem.Spec
namespace Mine
/-! A generator expression over a list whose element calls back: other generators may be made meanwhile. -/
noncomputable def GK (a b : Array GenState) : Prop := a.size ≤ b.size ∧ (∀ k, k < a.size → b[k]? = a[k]?) ∧ (AllBare a → AllBare b)
theorem GK.refl (a : Array GenState) : GK a a := ⟨Nat.le_refl _, fun _ _ => rfl, id⟩
theorem GK.trans {a b c : Array GenState} (x : GK a b) (y : GK b c) : GK a c := ⟨Nat.le_trans x.1 y.1, fun k hk => (y.2.1 k (Nat.lt_of_lt_of_le hk x.1)).trans (x.2.1 k hk), fun z => y.2.2 (x.2.2 z)⟩
noncomputable def GKb (g : Nat) (a b : Array GenState) : Prop := a.size ≤ b.size ∧ (∀ k, k < a.size → k ≠ g → b[k]? = a[k]?) ∧ (AllBare a → AllBare b)
theorem GKb.refl (g : Nat) (a : Array GenState) : GKb g a a := ⟨Nat.le_refl _, fun _ _ _ => rfl, id⟩
theorem GKb.trans {g : Nat} {a b c : Array GenState} (x : GKb g a b) (y : GKb g b c) : GKb g a c := ⟨Nat.le_trans x.1 y.1, fun k hk hn => (y.2.1 k (Nat.lt_of_lt_of_le hk x.1) hn).trans (x.2.1 k hk hn), fun z => y.2.2 (x.2.2 z)⟩
theorem GK.but {g : Nat} {a b : Array GenState} (x : GK a b) : GKb g a b := ⟨x.1, fun k hk _ => x.2.1 k hk, x.2.2⟩
theorem GKb.setGen (s : Shared) (g : Nat) (x : GenState) (hx : x.bare = true) : GKb g s.gens (s.setGen g x).gens :=
  ⟨by simp [Shared.setGen], fun k _ hk => by simp [Shared.setGen, Ne.symm hk], fun z y hy => by
    rcases Array.mem_or_eq_of_mem_setIfInBounds hy with h | h
    · exact z y h
    · rw [h]; exact hx⟩

noncomputable def Snc (C : Addr) (wr : List Addr) (s₀ s : Shared) : Prop :=
  ∃ h' tk gs, s = { s₀ with heap := h', toks := tk, gens := gs } ∧ GK s₀.gens gs ∧ ∀ b o, b ≠ C → b ∉ wr → s₀.heap.get? b = some o → h'.get? b = some o
theorem Snc.refl (C : Addr) (wr : List Addr) (s : Shared) : Snc C wr s s := ⟨s.heap, s.toks, s.gens, rfl, GK.refl _, fun _ _ _ _ e => e⟩
theorem Snc.step {C : Addr} {wr : List Addr} {s₀ s : Shared} (x : Snc C wr s₀ s) {h' : Heap} {tk : Nat} {gs : Array GenState} (hg : GK s.gens gs) (hk : ∀ b o, b ≠ C → b ∉ wr → s.heap.get? b = some o → h'.get? b = some o) :
    Snc C wr s₀ { s with heap := h', toks := tk, gens := gs } := by
  obtain ⟨h₁, tk₁, gs₁, rfl, hg₁, hk₁⟩ := x
  exact ⟨h', tk, gs, rfl, hg₁.trans hg, fun b o hC hw e => hk b o hC hw (hk₁ b o hC hw e)⟩

noncomputable def protoE (C : Addr) (fp wr : List Addr) (n₀ : Nat) (F : Nat → Value → Prop) : Protocol := fun m s₀ v s kap =>
  F (n₀ - 1 - m) v ∧ Snc C wr s₀ s ∧ ∀ s'' : Shared, (∀ b ∈ C :: fp, ∀ o, s.heap.get? b = some o → s''.heap.get? b = some o) → kap (.send .none) s''
noncomputable abbrev endE (C : Addr) (wr : List Addr) : GenEnd := fun n s₀ r s₁ => r = .ok .next ∧ (n = 0 ∧ Snc C wr s₀ s₁)

section
variable {prog : Program} {w : World} {A : Around}
/-- the element: under the very frames that the generator runs in -/
noncomputable def EltE (prog : Program) (w : World) (A' : Around) (cenv : Env) (x : Str) (elt : PySem.Expr) (fp wr : List Addr) (P : Nat → Value → Prop) (St : Nat → Heap → Prop) (F : Nat → Value → Prop) (href : Heap) : Prop :=
  ∀ E' Q i v (s₂ : Shared) m₂, P i v → St (i + 1) s₂.heap → s₂.heap.Ns cenv.locals m₂ → m₂ x = some v → (∀ b ∈ fp, b ∉ wr → ∀ o, href.get? b = some o → s₂.heap.get? b = some o) →
    (∀ y h' tk gs, F i y → St (i + 1) h' → h'.Ns cenv.locals m₂ → GK s₂.gens gs → (∀ b o, b ≠ cenv.locals → b ∉ wr → s₂.heap.get? b = some o → h'.get? b = some o) → Q y { s₂ with heap := h', toks := tk, gens := gs }) →
    wpAny (model prog w) A' (eval elt cenv) Q E' s₂

theorem seg_loopE {elt iter : PySem.Expr} {x : Str} {px : Pos} {scope : Scope} {pos : Pos} {I : Addr} {fp wr : List Addr} {n₀ : Nat} {P : Nat → Value → Prop} {St₀ : Nat → Heap → Prop} {cenv : Env}
    (hh : A.handled = none) (W₀ : ∀ A' : Around, A'.handled = none → Walks prog w A' I fp wr n₀ P St₀) (F : Nat → Value → Prop) (href : Heap)
    (hx : cenv.kindOf x = some .local) (hp : (cenv.scope.kind == .class || (cenv.scope.kind == .module && cenv.locals != cenv.globals)) = false)
    (hco : cenv.scope.isCoroutine = false) (hCf : cenv.locals ∉ fp)
    (hq : EltE prog w (A.over (.compLoop (.GeneratorExp elt [⟨.Name x px, iter, [], 0⟩] scope pos) 0 (.ref I) .none cenv) []) cenv x elt fp wr P St₀ F href) :
    ∀ (k i : Nat) (s₀ s : Shared) (m : Str → Option Value), n₀ - i = k → i ≤ n₀ → St₀ i s.heap → s.heap.Ns cenv.locals m → Snc cenv.locals wr s₀ s →
      (∀ b ∈ fp, b ∉ wr → ∀ o, href.get? b = some o → s.heap.get? b = some o) →
      Seg (model prog w) A (endE cenv.locals wr) (protoE cenv.locals fp wr n₀ F) k s₀
        (.compLoop (.GeneratorExp elt [⟨.Name x px, iter, [], 0⟩] scope pos) 0 (.ref I) .none cenv)
        ((model prog w).den (.compLoop (.GeneratorExp elt [⟨.Name x px, iter, [], 0⟩] scope pos) 0 (.ref I) .none cenv)) [] s := by
  have hh' : (A.over (.compLoop (.GeneratorExp elt [⟨.Name x px, iter, [], 0⟩] scope pos) 0 (.ref I) .none cenv) []).handled = none := hh
  have hCw : cenv.locals ∉ wr := fun h => hCf ((W₀ A hh).sub _ h)
  intro k
  induction k with
  | zero =>
    intro i s₀ s m hk hi hst hn hsince hkp
    have hin : i = n₀ := by lia
    subst hin
    show Seg _ A _ _ _ s₀ _ ((compTurn (.GeneratorExp elt [⟨.Name x px, iter, [], 0⟩] scope pos) 0 (.ref I) .none cenv).onRaise (leaving cenv)) [] s
    rw [compTurn_gen, Sem.onRaise_eq_wrap]
    refine seg_bind_wrap (wpAny_standAt ?_)
    refine seg_bind_wrap ((W₀ _ hh').done s _ _ hst fun h' tk hk' => ?_)
    exact seg_end (.ok .next) ⟨rfl, rfl, hsince.step (gs := s.gens) (GK.refl _) fun b o _ hw e => hk' b o hw e⟩
  | succ k ih =>
    intro i s₀ s m hk hi hst hn hsince hkp
    have hlt : i < n₀ := by lia
    show Seg _ A _ _ _ s₀ _ ((compTurn (.GeneratorExp elt [⟨.Name x px, iter, [], 0⟩] scope pos) 0 (.ref I) .none cenv).onRaise (leaving cenv)) [] s
    rw [compTurn_gen, Sem.onRaise_eq_wrap]
    refine seg_bind_wrap (wpAny_standAt ?_)
    refine seg_bind_wrap ((W₀ _ hh').item i s _ _ hlt hst fun v h₁ tk₁ hPv hst₁ hk₁ => ?_)
    refine seg_bind_wrap (wpAny_of_eq (rfl : letOwnedTupleGo (.Name x px) (.ref I) v = pure ()) ?_)
    refine seg_bind_wrap (wpAny_assign_Name (wpAny_storeName_local hx (hn.at' fun o e => hk₁ _ o hCw e) (fun h₂ hn₂ hs₂ => ?_) hp))
    have up₂ : ∀ b o, b ≠ cenv.locals → b ∉ wr → s.heap.get? b = some o → h₂.get? b = some o := fun b o hbC hbw e => hs₂.extBut b o hbC (hk₁ b o hbw e)
    have hst₂ : St₀ (i + 1) h₂ := (W₀ A hh).frame _ _ _ hst₁ fun b hb o e => hs₂.extBut b o (fun h => hCf (h ▸ hb)) e
    have hkp₂ : ∀ b ∈ fp, b ∉ wr → ∀ o, href.get? b = some o → h₂.get? b = some o := fun b hb hbw o e => up₂ b o (fun h => hCf (h ▸ hb)) hbw (hkp b hb hbw o e)
    refine seg_bind_wrap (wpAny_of_eq (a := true) rfl ?_)
    simp only [if_true]
    have hy : ∀ v, yieldOut cenv v = yieldValue v := fun v => by simp only [yieldOut, hco, Bool.false_eq_true, if_false]
    simp only [hy]
    rw [Sem.bind_eq_wrap', Sem.bind_eq_wrap', Sem.wrap_wrap, Sem.wrap_wrap]
    refine seg_wrap (hq _ _ i v _ _ hPv hst₂ hn₂ (by simp) hkp₂ fun y h₄ tk₄ gs₄ hFy hst₄ hn₄ hg₄ hk₄ => ?_)
    refine seg_at (seg_yield rfl rfl rfl ⟨?_, hsince.step (gs := gs₄) hg₄ fun b o hbC hbw e => hk₄ b o hbC hbw (up₂ b o hbC hbw e), fun s'' hal => ?_⟩)
    · have : n₀ - 1 - k = i := by lia
      rw [this]; exact hFy
    · refine seg_again rfl (ih (i + 1) s'' s'' _ (by lia) hlt ((W₀ A hh).frame _ _ _ hst₄ fun b hb o e => hal b (List.mem_cons_of_mem _ hb) o e)
        (hn₄.at' fun o e => hal _ (List.mem_cons_self ..) o e) (Snc.refl _ _ _) fun b hb hbw o e => hal b (List.mem_cons_of_mem _ hb) o (hk₄ b o (fun h => hCf (h ▸ hb)) hbw (hkp₂ b hb hbw o e)))

theorem seg_startE {elt iter : PySem.Expr} {x : Str} {px : Pos} {scope : Scope} {pos : Pos} {I : Addr} {fp wr : List Addr} {n₀ : Nat} {P : Nat → Value → Prop} {St₀ : Nat → Heap → Prop} {cenv : Env}
    (hh : A.handled = none) (W₀ : ∀ A' : Around, A'.handled = none → Walks prog w A' I fp wr n₀ P St₀) (F : Nat → Value → Prop) (href : Heap)
    (hx : cenv.kindOf x = some .local) (hp : (cenv.scope.kind == .class || (cenv.scope.kind == .module && cenv.locals != cenv.globals)) = false)
    (hco : cenv.scope.isCoroutine = false) (hCf : cenv.locals ∉ fp)
    (hq : EltE prog w (A.over (.compLoop (.GeneratorExp elt [⟨.Name x px, iter, [], 0⟩] scope pos) 0 (.ref I) .none cenv) []) cenv x elt fp wr P St₀ F href)
    (s₀ s : Shared) (m : Str → Option Value) (hst : St₀ 0 s.heap) (hn : s.heap.Ns cenv.locals m) (hsince : Snc cenv.locals wr s₀ s)
    (hkp : ∀ b ∈ fp, b ∉ wr → ∀ o, href.get? b = some o → s.heap.get? b = some o) :
    Seg (model prog w) A (endE cenv.locals wr) (protoE cenv.locals fp wr n₀ F) n₀ s₀
      (.compStart (.GeneratorExp elt [⟨.Name x px, iter, [], 0⟩] scope pos) 0 (.ref I) .none cenv)
      ((model prog w).den (.compStart (.GeneratorExp elt [⟨.Name x px, iter, [], 0⟩] scope pos) 0 (.ref I) .none cenv)) [] s := by
  have hh' : (A.over (.compStart (.GeneratorExp elt [⟨.Name x px, iter, [], 0⟩] scope pos) 0 (.ref I) .none cenv) []).handled = none := hh
  have loop := seg_loopE (iter := iter) (px := px) (scope := scope) (pos := pos) hh W₀ F href hx hp hco hCf hq n₀ 0 s₀ s m (Nat.sub_zero _) (Nat.zero_le _) hst hn hsince hkp
  show Seg _ A _ _ _ s₀ _ ((compStart (.GeneratorExp elt [⟨.Name x px, iter, [], 0⟩] scope pos) 0 (.ref I) .none cenv).onRaise (leaving cenv)) [] s
  unfold compStart
  rw [Sem.onRaise_eq_wrap]
  show Seg _ A _ _ _ s₀ _ ((ask >>= _).wrap _ _ _ _) [] s
  refine seg_bind_wrap (wpAny_askSetting ?_)
  split
  · exact seg_again rfl loop
  · first
      | exact seg_bind_wrap (wpAny_rule (seg_bind_wrap (wpAny_standAt (seg_bind_wrap ((W₀ _ hh').self 0 s _ _ hst (seg_again rfl loop))))))
      | (refine seg_bind_wrap (wpAny_rule ?_); show Seg _ A _ _ _ s₀ _ ((standAt iter.pos >>= _).wrap _ _ _ _) [] s; exact seg_bind_wrap (wpAny_standAt (seg_bind_wrap ((W₀ _ hh').self 0 s _ _ hst (seg_again rfl loop)))))

noncomputable def GenAtE (prog : Program) (w : World) (A : Around) (a : Addr) (g : Nat) (C : Addr) (fp wr : List Addr) (n₀ : Nat) (F : Nat → Value → Prop) (j : Nat) (s : Shared) : Prop :=
  s.heap.IsGen a g ∧ s.heap.NoLimit ∧ ∃ gs, s.gens[g]? = some gs ∧ ∀ s'' : Shared, (∀ b ∈ C :: fp, ∀ o, s.heap.get? b = some o → s''.heap.get? b = some o) →
    gs.Goes (model prog w) A.in1 (endE C wr) (protoE C fp wr n₀ F) (n₀ - j) (.send .none) s''

theorem walks_genE (hh : A.handled = none) (a : Addr) (g : Nat) (C : Addr) (fp wr : List Addr) (n₀ : Nat) (F : Nat → Value → Prop) (haC : a ≠ C) (haf : a ∉ fp) (hsub : ∀ b ∈ wr, b ∈ fp)
    (hroom : A.depth < recursionLimit) (hcs : cStatics ∈ fp) (hcC : cStatics ≠ C) (hcw : cStatics ∉ wr) :
    WalksS prog w A a (a :: C :: fp) (C :: wr) (GKb g) n₀ F (GenAtE prog w A a g C fp wr n₀ F) where
  sub := fun b hb => by
    rcases List.mem_cons.mp hb with rfl | hb
    · simp
    · exact List.mem_cons_of_mem _ (List.mem_cons_of_mem _ (hsub b hb))
  grefl := fun _ => GKb.refl _ _
  gtrans := fun _ _ _ x y => x.trans y
  frame := fun j s h' tk st _ hk =>
    ⟨let ⟨o, nm, qn, ho, r⟩ := st.1; ⟨o, nm, qn, hk a (List.mem_cons_self ..) o ho, r⟩,
     (let ⟨mc, hns, hnn⟩ := st.2.1; ⟨mc, hns.at' fun o e => hk cStatics (List.mem_cons_of_mem _ (List.mem_cons_of_mem _ hcs)) o e, hnn⟩),
     let ⟨gs, hgs, hgo⟩ := st.2.2; ⟨gs, hgs, fun s'' hal => hgo s'' fun b hb o e => hal b hb o (hk b (List.mem_cons_of_mem _ hb) o e)⟩⟩
  item := fun j s Q E hj st hQ => by
    obtain ⟨hg, hl, gs, hgs, hgo⟩ := st
    obtain ⟨m, hm⟩ : ∃ m, n₀ - j = m + 1 := ⟨n₀ - j - 1, by lia⟩
    rw [hm] at hgo
    refine wpAny_with_toks (Nat.le_refl s.toks) ?_
    refine wpAny_pyNext_genexpQ (P := fun n s₀ s₁ => n = 0 ∧ Snc C wr s₀ s₁) hh hl hroom hg hgs (hgo _ fun _ _ _ e => e) (fun v s₁ gs' hbare hv => ?_) (fun s₁ hp h' hk => ?_)
    · obtain ⟨hF, ⟨h₁, tk₁, gs₁, rfl, hg₁, hk₁⟩, hkap⟩ := hv
      have hidx : n₀ - 1 - (m + 1 - 1) = j := by lia
      rw [hidx] at hF
      have haw : a ∉ wr := fun h => haf (hsub a h)
      intro htk
      have hlt : g < s.gens.size := by
        rcases Nat.lt_or_ge g s.gens.size with h' | h'
        · exact h'
        · rw [Array.getElem?_eq_none h'] at hgs; cases hgs
      have hlt' : g < (s.setGen g .running).gens.size := by simpa [Shared.setGen] using hlt
      have hg₂ : gs₁[g]? = some .running := (hg₁.2.1 g hlt').trans (setGen_self hgs)
      refine hQ v _ hF ⟨let ⟨o, nm, qn, ho, r⟩ := hg; ⟨o, nm, qn, hk₁ a o haC haw ho, r⟩, (let ⟨mc, hns, hnn⟩ := hl; ⟨mc, hns.at' fun o e => hk₁ cStatics o hcC hcw e, hnn⟩), gs', setGen_self (gs := .running) hg₂, fun s'' hal => ?_⟩
        ⟨fun b o hb e => hk₁ b o (fun h => hb (h ▸ List.mem_cons_self ..)) (fun h => hb (List.mem_cons_of_mem _ h)) e, ((GKb.setGen s g .running rfl).trans (GK.but hg₁)).trans (GKb.setGen { s with heap := h₁, toks := tk₁, gens := gs₁ } g gs' hbare), rfl, rfl, htk⟩
      have e : n₀ - (j + 1) = m := by lia
      rw [e]
      exact hkap s'' hal
    · exact absurd hp.1 (Nat.succ_ne_zero m)
  done := fun s Q E st hQ => by
    obtain ⟨hg, hl, gs, hgs, hgo⟩ := st
    rw [Nat.sub_self] at hgo
    refine wpAny_with_toks (Nat.le_refl s.toks) ?_
    refine wpAny_pyNext_genexpQ (P := fun n s₀ s₁ => n = 0 ∧ Snc C wr s₀ s₁) hh hl hroom hg hgs (hgo _ fun _ _ _ e => e) (fun v s₁ gs' hbare hv => ?_) (fun s₁ hp h' hk => ?_)
    · obtain ⟨_, _, hkap⟩ := hv
      exact False.elim (hkap s₁ fun _ _ _ e => e)
    · obtain ⟨_, h₁, tk₁, gs₁, rfl, hg₁, hk₁⟩ := hp
      intro htk
      exact hQ _ ⟨fun b o hb e => hk b o (hk₁ b o (fun h => hb (h ▸ List.mem_cons_self ..)) (fun h => hb (List.mem_cons_of_mem _ h)) e), ((GKb.setGen s g .running rfl).trans (GK.but hg₁)).trans (GKb.setGen { s with heap := h₁, toks := tk₁, gens := gs₁ } g .finished rfl), rfl, rfl, htk⟩
  self := fun _ _ _ _ st hQ => wpAny_pyIter_gen st.1 hQ

theorem genAtE_fresh {elt iter : PySem.Expr} {x : Str} {px : Pos} {scope : Scope} {pos : Pos} {I a : Addr} {g : Nat} {fp wr : List Addr} {n₀ : Nat} {P : Nat → Value → Prop} {St₀ : Nat → Heap → Prop} {cenv : Env}
    (hh : A.handled = none) (W₀ : ∀ A' : Around, A'.handled = none → Walks prog w A' I fp wr n₀ P St₀) (F : Nat → Value → Prop)
    (hx : cenv.kindOf x = some .local) (hp : (cenv.scope.kind == .class || (cenv.scope.kind == .module && cenv.locals != cenv.globals)) = false)
    (hco : cenv.scope.isCoroutine = false) (hCf : cenv.locals ∉ fp) {s : Shared} {m : Str → Option Value}
    (hq : EltE prog w (A.in1.over (.compLoop (.GeneratorExp elt [⟨.Name x px, iter, [], 0⟩] scope pos) 0 (.ref I) .none cenv) []) cenv x elt fp wr P St₀ F s.heap)
    (hg : s.heap.IsGen a g) (hgs : s.gens[g]? = some (.fresh (.compStart (.GeneratorExp elt [⟨.Name x px, iter, [], 0⟩] scope pos) 0 (.ref I) .none cenv)))
    (hst : St₀ 0 s.heap) (hn : s.heap.Ns cenv.locals m) (hl : s.heap.NoLimit) : GenAtE prog w A a g cenv.locals fp wr n₀ F 0 s :=
  ⟨hg, hl, _, hgs, fun s'' hal => ⟨rfl, seg_startE (A := A.in1) hh W₀ F s.heap hx hp hco hCf hq s'' s'' m ((W₀ A hh).frame _ _ _ hst fun b hb o e => hal b (List.mem_cons_of_mem _ hb) o e)
    (hn.at' fun o e => hal _ (List.mem_cons_self ..) o e) (Snc.refl _ _ _) fun b hb _ o e => hal b (List.mem_cons_of_mem _ hb) o e⟩⟩
end
end Mine
end
section
open PySem PySem.W PySem.Calls PyProof.Rows PySem.Spec
namespace Mine
namespace JB
theorem slot_join : Slot "bytes" "join" "bytes.join" :=
  .of (owner := "bytes") (n := "join") (by rw [typeLookup_type, builtinLookup_eq_fast]; kernel_rfl) (by decide +kernel) (by decide +kernel) (by decide +kernel)
    (by first | exact .inl (by decide +kernel) | exact .inr (by decide +kernel)) (by rw [isSubtype_type]; kernel_rfl)
theorem type_join : typeOf (.builtin "bytes.join") = pure (.type "method_descriptor") := by show builtinType _ = _; rw [builtinType_eq_fast]; kernel_rfl
theorem entry_join : entryFor table "bytes.join" = some Builtin.«bytes.join» := entryFor_of_tree (by kernel_rfl)
theorem args_join (a b : Value) : argsOk "bytes.join" ⟨[a, b], []⟩ := by
  unfold argsOk; rw [signature?_of (id := "bytes.join") (n := ['n', 'i', 'o', 'j']) (o := ['s', 'e', 't', 'y', 'b']) (by kernel_rfl) FB.owner_bytes]; kernel_rfl
theorem method {M : Model} {A : Around} {E : Value → Shared → Prop} {s : Shared} {b : Array UInt8} {t : Tok} {pl : Sem Bool} {Q : Value × List Value → Shared → Prop} (h : Q (.builtin "bytes.join", [.bytes b t]) s) : wpAny M A (getMethod (.bytes b t) (Str.ofString "join") pl) Q E s := by
  with_reducible exact getMethod_builtin (typeIs_bytes _ _ _) FB.plainAttrs_bytes slot_join type_join (fun _ e => nomatch e) h
theorem take_eq {id : String} {b : Array UInt8} {t : Tok} : Builtin.Bytes.takeBuffer? id (.bytes b t) 0 = pure (some (b, none)) := by
  unfold Builtin.Bytes.takeBuffer?
  have e : ((0 : Int) == Builtin.Bytes.fullReadOnly) = false := by decide +kernel
  rw [KBy.special_eq KBy.look_buffer, KBy.own_buffer, e, KBy.buffer_eq]
  kernel_rfl
theorem takeQ_eq {id : String} {b : Array UInt8} {t : Tok} : Builtin.Bytes.takeBufferQuiet? id (.bytes b t) 0 = pure (some (b, none)) := by
  unfold Builtin.Bytes.takeBufferQuiet?
  rw [take_eq]
  rfl
/-- the octets of the parts, laid one behind the other -/
noncomputable def cat (l : List (Array UInt8 × Tok)) : Array UInt8 := l.foldl (fun a p => a ++ p.1) #[]
theorem foldl_cat (l : List (Array UInt8 × Tok)) (a : Array UInt8) : l.foldl (fun a p => a ++ p.1) a = a ++ cat l := by
  induction l generalizing a with
  | nil => simp [cat]
  | cons p r ih => simp only [cat, List.foldl_cons]; rw [ih, ih (#[] ++ p.1)]; simp [Array.append_assoc]
theorem zip_fold (l : List (Array UInt8)) (k : Nat) (a : Array UInt8) : (l.zipIdx k).foldl (fun out (p, i) => (if i > 0 then out ++ (#[] : Array UInt8) else out) ++ p) a = l.foldl (fun a p => a ++ p) a := by
  induction l generalizing k a with
  | nil => rfl
  | cons p r ih =>
    simp only [List.zipIdx_cons, List.foldl_cons]
    rw [ih]
    congr 1
    split <;> simp
theorem joined_nil (l : List (Array UInt8 × Tok)) : Builtin.Bytes.joined #[] (l.map (·.1)) = cat l := by
  unfold Builtin.Bytes.joined
  rw [zip_fold, List.foldl_map]
  rfl
theorem fold_size (l : List (Array UInt8 × Tok)) (k : Nat) : (l.map (·.1)).foldl (fun n b => n + b.size) k = k + (cat l).size := by
  induction l generalizing k with
  | nil => simp [cat]
  | cons p r ih =>
    simp only [List.map_cons, List.foldl_cons]
    rw [ih]
    have : cat (p :: r) = p.1 ++ cat r := by
      rw [cat, List.foldl_cons, foldl_cat]; simp
    rw [this, Array.size_append]; omega
theorem letGo_none {prog : Program} {w : World} {A : Around} {E : Value → Shared → Prop} {s : Shared} {keep : List Value} {Q : Unit → Shared → Prop} (l : List (Array UInt8 × Tok)) (h : Q () s) :
    wpAny (model prog w) A (Builtin.Bytes.joinLetGo (l.map fun p => (Value.bytes p.1 p.2, (none : Option Value))) keep) Q E s := by
  induction l with
  | nil => exact wpAny_pure h
  | cons p r ih =>
    rw [List.map_cons]
    unfold Builtin.Bytes.joinLetGo
    exact wpAny_bind (wpAny_letGo ih)
/-- the loop over the list and what comes behind it -/
noncomputable def Joined (Q : Fin → Shared → Prop) (v : Value) (s' : Shared) : Prop :=
  ∃ S l items c, v = .ref S ∧ s'.heap.get? S = some { cls := .type "list", dict := none, data := .seq items c, slots := #[] } ∧ items = (l.map fun (p : Array UInt8 × Tok) => Value.bytes p.1 p.2).toArray ∧ (cat l).size ≤ 60000 ∧
    ∀ t' k, Q (.done (.ret (.bytes (cat l) t'))) { s' with toks := k }
theorem join_list {prog : Program} {w : World} {A : Around} {E : Value → Shared → Prop} {s : Shared} {t : Tok} {I : Addr} {Q : Fin → Shared → Prop}
    (hJ : wpAny (model prog w) A (Builtin.Bytes.joinItems (.ref I)) (Joined Q) E s) :
    wpAny (model prog w) A (Builtin.Bytes.joinM .bytes ⟨[.bytes #[] t, .ref I], []⟩) Q E s := by
  unfold Builtin.Bytes.joinM
  refine wpAny_bind (wpAny_of_eq (a := (Value.bytes #[] t, Value.ref I)) rfl ?_)
  show wpAny _ _ (Builtin.Bytes.joinItems (.ref I) >>= _) _ _ _
  refine wpAny_bind (wpAny_mono hJ ?_ fun _ _ e => e)
  rintro _ s ⟨S, l, items, c, rfl, hS, hit, hsz, h⟩
  refine wpAny_bind (wpAny_seqItems hS rfl ?_)
  dsimp only
  rw [if_pos (by rfl)]
  refine (fun (key : l.length ≠ 1 → (?P : Prop)) => ?mm) ?pf
  case mm =>
    rcases hcase : l with _ | ⟨p, _ | ⟨q, r⟩⟩
    · have hi : items = ([] : List Value).toArray := by rw [hit, hcase]; rfl
      rw [hi]
      show wpAny _ _ (forIn _ _ _ >>= _) _ _ _
      rw [← hi]
      exact key (by rw [hcase]; decide)
    · have hi : items = [Value.bytes p.1 p.2].toArray := by rw [hit, hcase]; rfl
      rw [hi]
      show wpAny _ _ (typeOf (Value.bytes p.1 p.2) >>= _) _ _ _
      refine wpAny_bind (wpAny_typeOf (typeIs_bytes _ _ _) ?_)
      rw [if_pos (by rfl)]
      refine wpAny_bind (wpAny_rule (wpAny_pure ?_))
      have := h p.2 s.toks
      rw [hcase, show cat [p] = p.1 by simp [cat]] at this
      exact this
    · have hi : items = (Value.bytes p.1 p.2 :: Value.bytes q.1 q.2 :: r.map fun p => Value.bytes p.1 p.2).toArray := by rw [hit, hcase]; rfl
      rw [hi]
      show wpAny _ _ (forIn _ _ _ >>= _) _ _ _
      rw [← hi]
      exact key (by rw [hcase]; exact fun q => nomatch q)
  case pf =>
    intro _
    have hlen : items.size = l.length := by rw [hit]; simp
    refine wpAny_bind ?_
    rw [Std.Legacy.Range.forIn_eq_forIn_range']
    simp only [Std.Legacy.Range.size, Nat.sub_zero, Nat.add_sub_cancel, Nat.div_one, hlen]
    refine wpAny_forIn_list _ (fun rest r s' => ∃ i, rest = List.range' i (l.length - i) ∧ i ≤ l.length ∧ r = (((l.take i).map (·.1)).toArray, (l.take i).map fun p => (Value.bytes p.1 p.2, (none : Option Value))) ∧ s' = s)
      _ ?_ ?_ _ _ ⟨0, by simp, Nat.zero_le _, by simp, rfl⟩
    · rintro x rest b s' ⟨i, hr, hi, rfl, rfl⟩
      have hlt : i < l.length := by
        rcases Nat.lt_or_ge i l.length with h | h
        · exact h
        · rw [Nat.sub_eq_zero_of_le h] at hr; simp at hr
      obtain ⟨rfl, hrest⟩ : x = i ∧ rest = List.range' (i + 1) (l.length - (i + 1)) := by
        have e : l.length - i = (l.length - (i + 1)) + 1 := by omega
        rw [e, List.range'_succ] at hr
        injection hr with h1 h2
        exact ⟨h1, h2⟩
      refine wpAny_bind (wpAny_seqItems hS rfl ?_)
      dsimp only
      have hany : ((l.take x).map fun p => (Value.bytes p.1 p.2, (none : Option Value))).any (fun x => x.1.onHeap) = false := by
        rw [List.any_eq_false]
        intro y hy
        obtain ⟨p, _, rfl⟩ := List.mem_map.mp hy
        simp [Value.onHeap]
      rw [hany, if_neg (by decide)]
      have hget : items.getD x .none = Value.bytes l[x].1 l[x].2 := by
        rw [hit]; simp [Array.getD, hlt]
      rw [hget]
      refine wpAny_bind (wpAny_holding (wpAny_of_eq takeQ_eq ?_))
      dsimp only
      refine wpAny_bind (wpAny_seqItems hS rfl ?_)
      dsimp only
      rw [if_neg (by simp [hlen])]
      refine wpAny_pure ⟨x + 1, hrest, hlt, ?_, rfl⟩
      rw [List.take_succ_eq_append_getElem hlt, List.map_append, List.map_append]
      simp [-List.map_take]
    · rintro b s' ⟨i, hr, hi, rfl, rfl⟩
      have hi2 : i = l.length := by
        rcases Nat.lt_or_ge i l.length with h | h
        · have e : l.length - i = (l.length - i - 1) + 1 := by omega
          rw [e, List.range'_succ] at hr; cases hr
        · omega
      subst hi2
      rw [List.take_length]
      refine wpAny_bind (wpAny_of_eq (a := (#[] : Array UInt8)) rfl ?_)
      dsimp only
      have htl : Builtin.Bytes.tooLong (Array.foldl (fun x1 x2 => x1 + x2.size) ((#[] : Array UInt8).size * ((l.map (·.1)).toArray.size - 1)) (l.map (·.1)).toArray) = false := by
        rw [List.foldl_toArray, fold_size]
        exact KBy.tooLong_not (by simp; omega)
      rw [htl, if_neg (by decide), joined_nil]
      show wpAny _ _ (mkBytes (cat l) >>= _) _ _ _
      refine wpAny_bind (wpAny_mkBytes ?_ (by rw [sizeLine_eq]; omega))
      refine wpAny_bind (wpAny_holding (wpAny_point ?_))
      refine wpAny_bind (letGo_none l (wpAny_pure ?_))
      exact h _ _
theorem join_gen {prog : Program} {w : World} {A : Around} {E : Value → Shared → Prop} {s : Shared} {t : Tok} {Q : Value → Shared → Prop}
    {I : Addr} {fp wr : List Addr} {G : Array GenState → Array GenState → Prop} {n : Nat} {P : Nat → Value → Prop} {St : Nat → Shared → Prop}
    (W : WalksS prog w A.in1.in1.in1 I fp wr G n P St) (hT : ∀ i s, St i s → s.TypeIs (.ref I) "generator") (hst : St 0 s) (hfp : ∀ b ∈ fp, b < s.heap.objs.size) (hI : I ∈ fp)
    (hQ : ∀ s' (l : List (Array UInt8 × Tok)), Moved (s.heap.objs.size :: wr) G { s with heap := s.heap.push { cls := .type "list", data := .seq #[] } } s' → l.length = n → (∀ j p, l[j]? = some p → P j (.bytes p.1 p.2)) →
      (cat l).size ≤ 60000 ∧ ∀ t' k, Q (.bytes (cat l) t') { s' with toks := k })
    (hby : ∀ i v, P i v → ∃ b t, v = Value.bytes b t) (hn : n ≤ 60000) :
    wpAny (model prog w) A (call (.builtin "bytes.join") [.bytes #[] t, .ref I]) Q E s := by
  refine wpAny_call (codeAny_call_builtin slot_join.plain entry_join (slot_join.check _ _ _ _ _ _ _ _ (typeIs_bytes _ _ _) (args_join _ _) ?_))
  refine join_list ?_
  unfold Builtin.Bytes.joinItems
  refine wpAny_bind (wpAny_typeOf (hT 0 s hst) ?_)
  rw [if_neg (by decide)]
  refine wpAny_bind (wpAny_tryCatch (WalksS.self (A := A.in1) (WalksS.of_in1 (A := A.in1) (WalksS.of_in1 (A := A.in1.in1) W)) 0 s _ _ hst ?_))
  refine call_list_gen W hT hst hfp hI (fun s' acc' c' hm hS' hacc => ?_) (Nat.le_trans hn (by rw [sizeLine_eq]; decide))
  obtain ⟨l, hl⟩ : ∃ l : List (Array UInt8 × Tok), acc' = (l.map fun p => Value.bytes p.1 p.2).toArray := by
    have key : ∀ vs : List Value, (∀ v ∈ vs, ∃ b t, v = Value.bytes b t) → ∃ l : List (Array UInt8 × Tok), (l.map fun p => Value.bytes p.1 p.2) = vs := by
      intro vs
      induction vs with
      | nil => exact fun _ => ⟨[], rfl⟩
      | cons v vs ih =>
        intro h
        obtain ⟨b, t, rfl⟩ := h v (.head _)
        obtain ⟨l, rfl⟩ := ih fun v hv => h v (.tail _ hv)
        exact ⟨(b, t) :: l, rfl⟩
    obtain ⟨l, hl⟩ := key acc'.toList fun v hv => by
      obtain ⟨j, hj, rfl⟩ := Array.mem_iff_getElem.mp (Array.mem_toList_iff.mp hv)
      exact hby j _ (hacc.2 j _ (Array.getElem?_eq_getElem hj))
    exact ⟨l, by rw [hl]⟩
  have hlen : l.length = n := by
    have := hacc.1
    rw [hl] at this; simpa using this
  obtain ⟨hz, hq⟩ := hQ s' l hm hlen fun j p hp => hacc.2 j _ (by rw [hl]; simp [hp])
  exact ⟨_, l, acc', c', rfl, hS', hl, hz, hq⟩
end JB
end Mine
end
section
open PySem PySem.W PySem.Calls PyProof.Rows PySem.Spec
namespace Mine
/-- the table of codes of the codec's encode_raw (object 1380) -/
noncomputable def cT (ps : Array Value) : Obj := { cls := .none, data := .fields ps }
noncomputable def gpos : Pos := { line := 31, col := 27, endLine := 31, endCol := 62 }
/-- the table once it is there stays; it only grows -/
noncomputable def Sm (ps ps' : Array Value) : Prop := (∀ cv, codeAmong gpos ps.toList = some cv → ps' = ps) ∧ ∃ more, ps' = ps ++ more
theorem Sm.refl (ps : Array Value) : Sm ps ps := ⟨fun _ _ => rfl, #[], by simp⟩
noncomputable def EncC (D : Nat) : Prop := ∀ {w : World} {loose : List Str} {mean : ExcName → Option Value} {mg mb : Str → Option Value} {dp un : Nat} {gd : Option (List Code)} {env : Env} {outer : List Env} {A₀ : Around} {base h₀ : Heap} {L : Addr} {m : Str → Option Value} {news : List (Addr × Obj)} {ps : Array Value} {s : Shared} {Q E : Value → Shared → Prop},
    Cx w loose mean mg mb env outer A₀ base h₀ L m ((1380, cT ps) :: news) s.heap → TriplesOk ps.toList → (∀ p ∈ news, p.1 ≠ 1380) → dp + 2 * D + 30 < 1000 → un + 12 * D + 200 < 9900 → ∀ (v : Value) (d : Rlp), RlpIn news v d → dep d < D → (enc d).length ≤ 60000 →
    (∀ c t' h' tk' gs' ps', KBw.bInts c = enc d → TriplesOk ps'.toList → Sm ps ps' → Fr h₀ L h' m → News h₀ L h' ((1380, cT ps') :: news) → GK s.gens gs' → Q (.bytes c t') { s with heap := h', toks := tk', gens := gs' }) →
    wpAny (model PySem.Challenge.rw_jm0023_01.prog w) (kT dp un gd env outer) (call (.ref 1385) [v]) Q E s
noncomputable def nth : Rlps → Nat → Option Rlp
  | .nil, _ => none
  | .cons d _, 0 => some d
  | .cons _ r, i + 1 => nth r i
theorem nth_in {news : List (Addr × Obj)} {vs : List Value} : ∀ {ds : Rlps}, RlpsIn news vs ds → ∀ {i : Nat} {v : Value}, vs[i]? = some v →
    ∃ d, nth ds i = some d ∧ RlpIn news v d ∧ dep d ≤ deps ds ∧ (enc d).length ≤ (encs ds).length := by
  induction vs with
  | nil => intro ds _ i v h; cases h
  | cons x xs ih =>
    intro ds hR i v h
    cases hR with
    | cons h1 h2 =>
      cases i with
      | zero =>
        cases h
        exact ⟨_, rfl, h1, by rw [deps]; exact Nat.le_max_left _ _, by rw [encs, List.length_append]; exact Nat.le_add_right _ _⟩
      | succ i =>
        obtain ⟨d', e1, e2, e3, e4⟩ := ih h2 (i := i) (v := v) h
        exact ⟨d', e1, e2, by rw [deps]; exact Nat.le_trans e3 (Nat.le_max_right _ _), by rw [encs, List.length_append]; exact Nat.le_trans e4 (Nat.le_add_left _ _)⟩
/-- every object that is neither of the ground, nor the frame's dict, nor the code's table -/
noncomputable def full (g h : Heap) (C : Addr) : List (Addr × Obj) := (List.range h.objs.size).filterMap fun b => if b = C ∨ b = 1380 ∨ (g.get? b).isSome = true then none else (h.get? b).map (b, ·)
theorem full_mem {g h : Heap} {C b : Addr} {o : Obj} : (b, o) ∈ full g h C ↔ b ≠ C ∧ b ≠ 1380 ∧ g.get? b = none ∧ h.get? b = some o := by
  unfold full
  rw [List.mem_filterMap]
  constructor
  · rintro ⟨x, _, h2⟩
    split at h2
    · cases h2
    · rename_i hn
      simp only [not_or, Bool.not_eq_true, Option.isSome_eq_false_iff, Option.isNone_iff_eq_none] at hn
      obtain ⟨o', ho, e⟩ := Option.map_eq_some_iff.mp h2
      cases e
      exact ⟨hn.1, hn.2.1, hn.2.2, ho⟩
  · rintro ⟨h1, h2, h3, h4⟩
    exact ⟨b, List.mem_range.mpr (Heap.lt_size h4), by rw [if_neg (by simp [h1, h2, h3]), h4]; rfl⟩
noncomputable def StC (I a : Addr) (vs : List Value) (i : Nat) (h : Heap) : Prop := h.IsListIter I a i ∧ h.IsList a vs.toArray
noncomputable def FC (ds : Rlps) (i : Nat) (y : Value) : Prop := ∃ b t d, y = .bytes b t ∧ nth ds i = some d ∧ KBw.bInts b = enc d
theorem elt_C {D : Nat} (ih : EncC D) {w : World} {loose : List Str} {mean : ExcName → Option Value} {mg mb : Str → Option Value} {dp un : Nat} {gd : Option (List Code)} {cenv : Env} {outer : List Env} {A₀ : Around} {base g₂ href : Heap} {C I a : Addr} {vs : List Value} {ds : Rlps} {news : List (Addr × Obj)} {fp : List Addr} {p1 p2 p3 : Pos} {ps : Array Value} {cv : Value}
    (hC : cenv.locals = C) (hfr : cenv.frame = some C) (hkd : cenv.scope.kind = .function) (hgl : cenv.globals = mainGlobals) (hk1 : cenv.kindOf (Str.ofString "encode_raw_codec") = some .globalImplicit) (hk2 : cenv.kindOf (Str.ofString "x") = some .local)
    (B : Below A₀ base outer g₂) (X : (K w.params).In g₂) (T : Top vq loose mean mg mb g₂) (hz : g₂.objs.size ≤ C)
    (hg₂ : ∀ b o, g₂.get? b = some o → b ∈ fp ∧ b ∉ [I] ∧ href.get? b = some o) (h13 : g₂.get? 1380 = none) (hC13 : C ≠ 1380)
    (hps : 1380 ∈ fp ∧ 1380 ∉ [I] ∧ href.get? 1380 = some (cT ps)) (htr : TriplesOk ps.toList) (hhit : codeAmong gpos ps.toList = some cv)
    (hnews : ∀ p ∈ news, p.1 ∈ fp ∧ p.1 ∉ [I] ∧ href.get? p.1 = some p.2 ∧ g₂.get? p.1 = none ∧ p.1 ≠ C ∧ p.1 ≠ 1380)
    (hIC : I ≠ C) (haC : a ≠ C)
    (hR : RlpsIn news vs ds) (hde : deps ds < D) (hlen : (encs ds).length ≤ 60000) (hroom : dp + 2 * D + 30 < 1000) (hun : un + 12 * D + 200 < 9900) :
    EltE PySem.Challenge.rw_jm0023_01.prog w (kT dp un gd cenv outer) cenv (Str.ofString "x") (.Call (.Name (Str.ofString "encode_raw_codec") p1) [.Name (Str.ofString "x") p2] [] p3) fp [I] (fun i v => vs.toArray[i]? = some v) (StC I a vs) (FC ds) href := by
  intro E' Q i v s₂ m₂ hv hst hn hx hkeep hQ
  subst hC
  have hv' : vs[i]? = some v := by simpa using hv
  obtain ⟨d, hd, hRv, hdep, hle⟩ := nth_in hR hv'
  have FF : Fr g₂ cenv.locals s₂.heap m₂ := ⟨hn, fun b o e => let ⟨x1, x2, x3⟩ := hg₂ b o e; hkeep b x1 x2 o x3, hz⟩
  have NN : News g₂ cenv.locals s₂.heap ((1380, cT ps) :: full g₂ s₂.heap cenv.locals) := fun p hp => by
    rcases List.mem_cons.mp hp with rfl | hp
    · exact ⟨hkeep _ hps.1 hps.2.1 _ hps.2.2, fun e => hC13 e.symm, h13⟩
    · obtain ⟨b, o⟩ := p
      obtain ⟨e1, e2, e3, e4⟩ := full_mem.mp hp
      exact ⟨e4, e1, e3⟩
  refine wpAny_Call_NameR ?_
  refine nameG_K FF X (topRead_of T) (v := .ref 1385) (by kernel_rfl) ?_ hgl hkd hk1 (by decide)
  refine callWith_K X (by kernel_rfl) ?_
  refine spliced_cons ?_
  refine wpAny_Name (wpAny_loadName_local hkd hk2 hn hx ?_)
  refine spliced_nil ⟨X.keeps FF.keep, ?_⟩
  refine ih ⟨B, FF, X, NN, T, hfr, hkd⟩ htr (fun p hp => (full_mem.mp hp).2.1) hroom hun v d (RlpIn.mono (fun p hp => full_mem.mpr ?_) hRv) (by omega) (by omega) ?_
  · obtain ⟨y1, y2, y3, y4, y5, y6⟩ := hnews p hp
    exact ⟨y5, y6, y4, hkeep _ y1 y2 _ y3⟩
  · intro c t' h' tk' gs' ps' hc htr' hsame F' N' hG
    obtain rfl := hsame.1 cv hhit
    have kept : ∀ b o, b ≠ cenv.locals → s₂.heap.get? b = some o → h'.get? b = some o := fun b o e1 e => by
      by_cases e2 : b = 1380
      · subst e2
        have := (NN _ (.head _)).1
        rw [e] at this; cases this
        exact (N' _ (.head _)).1
      · cases q : g₂.get? b with
        | some o2 =>
          have := FF.keep b o2 q
          rw [e] at this; cases this
          exact F'.keep b o q
        | none => exact (N' _ (.tail _ (full_mem.mpr ⟨e1, e2, q, e⟩))).1
    exact hQ _ h' tk' gs' ⟨c, t', d, rfl, hd, hc⟩ ⟨hst.1.at fun o e => kept _ o hIC e, hst.2.at fun o e => kept _ o haC e⟩ F'.ns hG fun b o e1 _ e => kept b o e1 e
end Mine
end
section
open PySem PySem.W PySem.Calls PyProof.Rows PySem.Spec
namespace Mine
noncomputable def gScope : Scope := { kind := .function, names := [(Str.ofString ".0", .local), (Str.ofString "x", .local), (Str.ofString "encode_raw_codec", .globalImplicit)], isGenerator := true, isCoroutine := false }
/-- the code of the generator expression: found in the table, or made and put there -/
theorem gcode {prog : Program} {w : World} {A : Around} {E : Value → Shared → Prop} {s : Shared} {ps : Array Value} {L : Addr} {h₀ : Heap} {m : Str → Option Value} {news : List (Addr × Obj)} {Q : Value → Shared → Prop} {qn : Str} {sc : Scope}
    (X : (K w.params).In h₀) (F : Fr h₀ L s.heap m) (N : News h₀ L s.heap ((1380, cT ps) :: news)) (hnp : ∀ p ∈ news, p.1 ≠ 1380) (htr : TriplesOk ps.toList)
    (hQ : ∀ v h' tk ps' cv, TriplesOk ps'.toList → Sm ps ps' → codeAmong gpos ps'.toList = some cv → Fr h₀ L h' m → News h₀ L h' ((1380, cT ps') :: news) → s.heap.objs.size ≤ h'.objs.size → (∀ b o, b ≠ 1380 → s.heap.get? b = some o → h'.get? b = some o) → Q v { s with heap := h', toks := tk }) :
    wpAny (model prog w) A (genexprCode (envOf (Str.ofString "encode_raw") (scOf fn11) L 1385 (.ref 1384)) gpos qn sc) Q E s := by
  have ho : s.heap.get? 1380 = some (cT ps) := (N _ (.head _)).1
  have h13 : h₀.get? 1380 = none := (N _ (.head _)).2.2
  have hL13 : (1380 : Addr) ≠ L := (N _ (.head _)).2.1
  have hc : s.heap.get? 1384 = some (o1384 w.params) := F.keep _ _ (X 1384 _ (by kernel_rfl))
  have hcode : s.heap.IsCode 1384 1380 ps := ⟨_, _, _, _, _, _, _, _, _, _, hc, rfl, rfl, rfl, rfl, rfl, rfl, ho, rfl, htr, by decide⟩
  have htab : s.heap.TableAt 1384 1380 ps := ⟨⟨_, _, hc, rfl, rfl, rfl⟩, ho⟩
  cases hq : codeAmong gpos ps.toList with
  | some cv =>
    refine wpAny_genexprCode_hit rfl hcode hq ?_
    exact hQ cv s.heap s.toks ps cv htr (Sm.refl _) hq F N (Nat.le_refl _) fun _ _ _ e => e
  | none =>
    refine wpAny_genexprCodeX rfl hcode htab hq fun c' h' tk hk hc1 hc2 hcode' hrec htab' _ => ?_
    have e : (ps ++ #[rawInt gpos.line, rawInt gpos.col, Value.ref c']).toList = ps.toList ++ [rawInt gpos.line, rawInt gpos.col, .ref c'] := by simp
    refine hQ _ h' tk (ps ++ #[rawInt gpos.line, rawInt gpos.col, .ref c']) (.ref c') (by rw [e]; exact TriplesOk_snoc _ _ _ _ htr) ⟨fun _ q => absurd (hq.symm.trans q) (by simp), _, rfl⟩ (by rw [e]; exact codeAmong_snoc _ htr hq)
      ⟨F.ns.at' fun o e => hk _ _ (Ne.symm hL13) e, fun b o e => hk _ _ (fun q => by rw [q, h13] at e; cases e) (F.keep b o e), F.above⟩ (fun p hp => ?_) (by omega) fun b o hb e => hk _ _ hb e
    rcases List.mem_cons.mp hp with rfl | hp
    · exact ⟨htab'.2, hL13, h13⟩
    · obtain ⟨x1, x2, x3⟩ := N p (.tail _ hp)
      exact ⟨hk _ _ (hnp p hp) x1, x2, x3⟩
/-- what stands when the generator is made -/
noncomputable def Ready (w : World) (s : Shared) (h₀ : Heap) (L a : Addr) (vs : List Value) (m : Str → Option Value) (news : List (Addr × Obj)) (ps : Array Value) (e : PySem.Expr) (v : Value) (s' : Shared) : Prop :=
  ∃ hm h₅ C I oI ga code bi ps' cv tk, v = .ref ga ∧ s' = { s with gens := s.gens.push (.fresh (.compStart e 0 (.ref I) .none (genEnv gScope [] C code bi (envOf (Str.ofString "encode_raw") (scOf fn11) L 1385 (.ref 1384))))), toks := tk, heap := h₅ } ∧
    TriplesOk ps'.toList ∧ Sm ps ps' ∧ codeAmong gpos ps'.toList = some cv ∧ Fr h₀ L hm m ∧ News h₀ L hm ((I, oI) :: (1380, cT ps') :: news) ∧ hm.objs.size = C ∧ (∀ b o, hm.get? b = some o → h₅.get? b = some o) ∧
    h₅.Ns C (fun y => if y = ".0" then some (.ref I) else none) ∧ h₅.IsGen ga s.gens.size ∧ C < ga ∧ h₅.objs.size = ga + 1 ∧ hm.IsListIter I a 0 ∧ hm.IsList a vs.toArray ∧ (∀ p ∈ (1380, cT ps') :: news, p.1 ≠ I)
theorem gen_made {w : World} {A : Around} {E : Value → Shared → Prop} {s : Shared} {ps : Array Value} {L a : Addr} {vs : List Value} {n : Nat} {h₀ : Heap} {loose : List Str} {mean : ExcName → Option Value} {mg mb : Str → Option Value} {m : Str → Option Value} {news : List (Addr × Obj)} {Q : Value → Shared → Prop} {elt : PySem.Expr} {px pi : Pos}
    (X : (K w.params).In h₀) (T : Top vq loose mean mg mb h₀) (F : Fr h₀ L s.heap m) (N : News h₀ L s.heap ((1380, cT ps) :: news)) (hnp : ∀ p ∈ news, p.1 ≠ 1380) (htr : TriplesOk ps.toList)
    (hm : m (Str.ofString "item") = some (.ref a)) (hl : (a, listOf vs.toArray n) ∈ news) (hroom : A.depth < recursionLimit)
    (hQ : ∀ v s', Ready w s h₀ L a vs m news ps (.GeneratorExp elt [⟨.Name (Str.ofString "x") px, .Name (Str.ofString "item") pi, [], 0⟩] gScope gpos) v s' → Q v s') :
    wpAny (model PySem.Challenge.rw_jm0023_01.prog w) A (eval (.GeneratorExp elt [⟨.Name (Str.ofString "x") px, .Name (Str.ofString "item") pi, [], 0⟩] gScope gpos) (envOf (Str.ofString "encode_raw") (scOf fn11) L 1385 (.ref 1384))) Q E s := by
  have hol : s.heap.get? a = some (listOf vs.toArray n) := (N _ (.tail _ hl)).1
  have hls : s.heap.IsList a vs.toArray := ⟨_, hol, rfl, n, rfl⟩
  refine wpAny_GeneratorExp_make (cl := []) rfl (closureFor_none (by decide +kernel)) (by decide +kernel) (by rfl) rfl hroom ?_ (fun _ => rfl)
  refine wpAny_Name (wpAny_loadName_local rfl rfl F.ns hm ?_)
  refine wpAny_pyIter_list hls ?_
  have F1 : Fr h₀ L (s.heap.push { cls := .type "list_iterator", data := .fields #[.ref a, .int 0 0] }) m := F.keeps fun b o e => Heap.get?_push_of_some _ e
  have hI0 : h₀.get? s.heap.objs.size = none := next_is_new F
  have N1 : News h₀ L (s.heap.push { cls := .type "list_iterator", data := .fields #[.ref a, .int 0 0] }) ((1380, cT ps) :: (s.heap.objs.size, { cls := .type "list_iterator", data := .fields #[.ref a, .int 0 0] }) :: news) := fun p hp => by
    rcases List.mem_cons.mp hp with rfl | hp
    · obtain ⟨x1, x2⟩ := N _ (.head _)
      exact ⟨Heap.get?_push_of_some _ x1, x2⟩
    · rcases List.mem_cons.mp hp with rfl | hp
      · exact ⟨Heap.get?_push_size _ rfl, fun q => absurd F.ns.lt (q ▸ Nat.lt_irrefl _), hI0⟩
      · obtain ⟨x1, x2⟩ := N _ (.tail _ hp)
        exact ⟨Heap.get?_push_of_some _ x1, x2⟩
  have h13 : (1380 : Addr) < s.heap.objs.size := Heap.lt_size (N _ (.head _)).1
  refine ⟨T.nolimit.keeps F1.keep, ?_⟩
  refine gcode X F1 N1 (fun p hp => by
    rcases List.mem_cons.mp hp with rfl | hp
    · exact Nat.ne_of_gt h13
    · exact hnp p hp) htr fun code hm tk ps' cv htr' hsame hhit F2 N2 hz hk => ?_
  obtain ⟨bm, ob, hb1, hb2, hb3, hb4, hb5, hb6⟩ := T.bmain
  refine wpAny_builtinsFor (T.g.keeps F2.keep) hb1 hb2 (F2.keep _ _ hb3) hb4 hb5 hb6 ?_
  intro h' hn' hs'
  have hsz : h'.objs.size = hm.objs.size + 1 := by rw [hs'.1, Heap.size_push]
  have keep' : ∀ b o, hm.get? b = some o → h'.get? b = some o := fun b o e => hs'.extBut b o (Nat.ne_of_lt (Heap.lt_size e)) (Heap.get?_push_of_some _ e)
  refine hQ _ _ ⟨hm, _, hm.objs.size, s.heap.objs.size, { cls := .type "list_iterator", data := .fields #[.ref a, .int 0 0] }, h'.objs.size, code, builtinsNs, ps', cv, _, rfl, rfl, htr', hsame, hhit, F2, fun p hp => ?_, rfl, fun b o e => Heap.get?_push_of_some _ (keep' b o e), hn'.push _, ⟨_, _, _, Heap.get?_push_size _ rfl, rfl, rfl, rfl⟩, by rw [hsz]; exact Nat.lt_succ_self _, by rw [Heap.size_push], ?_, ?_, fun p hp => ?_⟩
  · rcases List.mem_cons.mp hp with rfl | hp
    · exact N2 _ (.tail _ (.head _))
    · rcases List.mem_cons.mp hp with rfl | hp
      · exact N2 _ (.head _)
      · exact N2 _ (.tail _ (.tail _ hp))
  · exact ⟨_, (N2 _ (.tail _ (.head _))).1, rfl, rfl⟩
  · exact ⟨_, (N2 _ (.tail _ (.tail _ hl))).1, rfl, n, rfl⟩
  · rcases List.mem_cons.mp hp with rfl | hp
    · exact Nat.ne_of_lt h13
    · exact Nat.ne_of_lt (Heap.lt_size (N _ (.tail _ hp)).1)
end Mine
end
section
open PySem PySem.W PySem.Calls PyProof.Rows PySem.Spec
namespace Mine
theorem bInts_len (b : Array UInt8) : (KBw.bInts b).length = b.size := by simp [KBw.bInts]
theorem cat_cons (p : Array UInt8 × Tok) (r : List (Array UInt8 × Tok)) : JB.cat (p :: r) = p.1 ++ JB.cat r := by
  rw [JB.cat, List.foldl_cons, JB.foldl_cat]; simp
theorem cat_enc (l : List (Array UInt8 × Tok)) {news : List (Addr × Obj)} : ∀ {vs : List Value} {ds : Rlps}, RlpsIn news vs ds → l.length = vs.length → (∀ j p, l[j]? = some p → FC ds j (.bytes p.1 p.2)) → KBw.bInts (JB.cat l) = encs ds := by
  induction l with
  | nil =>
    intro vs ds hR hl _
    cases hR with
    | nil => rfl
    | cons => cases hl
  | cons p r ih =>
    intro vs ds hR hl h
    cases hR with
    | nil => cases hl
    | cons h1 h2 =>
      rw [cat_cons, encs]
      obtain ⟨b, t, d', e1, e2, e3⟩ := h 0 p rfl
      cases e1; cases e2
      refine KBw.ints_app e3 (ih h2 (Nat.succ.inj hl) fun j q hq => ?_)
      obtain ⟨b, t, d', e1, e2, e3⟩ := h (j + 1) q hq
      exact ⟨b, t, d', e1, e2, e3⟩
theorem gen_joined {D : Nat} (ih : EncC D) {w : World} {dp un : Nat} {gd : Option (List Code)} {env : Env} {outer : List Env} {A₀ : Around} {base h₀ : Heap} {E : Value → Shared → Prop} {s s' : Shared} {ps : Array Value} {L a : Addr} {vs : List Value} {n : Nat} {ds : Rlps} {loose : List Str} {mean : ExcName → Option Value} {mg mb : Str → Option Value} {m : Str → Option Value} {news : List (Addr × Obj)} {Q : Value → Shared → Prop} {px pi p1 p2 p3 : Pos} {v : Value} {t : Tok}
    (B : Below A₀ base outer h₀) (X : (K w.params).In h₀) (T : Top vq loose mean mg mb h₀)
    (hl : (a, listOf vs.toArray n) ∈ news) (hnp : ∀ p ∈ news, p.1 ≠ 1380)
    (hR : RlpsIn news vs ds) (hde : deps ds < D) (hlen : (encs ds).length ≤ 60000) (hvs : vs.length ≤ 60000) (hroom : dp + 1 + 2 * D + 30 < 1000) (hun : un + 9 + 12 * D + 200 < 9900)
    (R : Ready w s h₀ L a vs m news ps (.GeneratorExp (.Call (.Name (Str.ofString "encode_raw_codec") p1) [.Name (Str.ofString "x") p2] [] p3) [⟨.Name (Str.ofString "x") px, .Name (Str.ofString "item") pi, [], 0⟩] gScope gpos) v s')
    (hQ : ∀ c t' h' tk' gs' ps', KBw.bInts c = encs ds → TriplesOk ps'.toList → Sm ps ps' → Fr h₀ L h' m → News h₀ L h' ((1380, cT ps') :: news) → GK s.gens gs' → Q (.bytes c t') { s with heap := h', toks := tk', gens := gs' }) :
    wpAny (model PySem.Challenge.rw_jm0023_01.prog w) (kT dp un gd (envOf (Str.ofString "encode_raw") (scOf fn11) L 1385 (.ref 1384)) outer) (call (.builtin "bytes.join") [.bytes #[] t, v]) Q E s' := by
  obtain ⟨hm, h₅, C, I, oI, ga, code, bi, ps', cv, tk, rfl, rfl, htr, hsame, hhit, F, N, rfl, hk₅, hC, hgen, hCga, hsz, hLI, hLa, hIp⟩ := R
  have eA : kT dp (un + 1 + 1 + 1) gd (envOf (Str.ofString "encode_raw") (scOf fn11) L 1385 (.ref 1384)) outer = (kT dp un gd (envOf (Str.ofString "encode_raw") (scOf fn11) L 1385 (.ref 1384)) outer).in1.in1.in1 := rfl
  obtain ⟨FG, BG, st, _⟩ := groundX (s := { s with heap := hm }) (A := kT dp un gd (envOf (Str.ofString "encode_raw") (scOf fn11) L 1385 (.ref 1384)) outer) (R := fun _ _ => True) B F N rfl rfl rfl
  have X₂ := X.keeps st
  have T₂ := T.keeps st
  have hol : hm.get? a = some (listOf vs.toArray n) := (N _ (.tail _ (.tail _ hl))).1
  have hIm : hm.get? I = some oI := (N _ (.head _)).1
  have h13 : hm.get? 1380 = some (cT ps') := (N _ (.tail _ (.head _))).1
  have haI : a ≠ I := hIp _ (.tail _ hl)
  have h13I : (1380 : Addr) ≠ I := hIp _ (.head _)
  obtain ⟨mc, hcs, _⟩ := T.nolimit
  have hc0 : ∃ o, h₀.get? cStatics = some o := let ⟨o, _, _, x, _⟩ := hcs; ⟨o, x⟩
  obtain ⟨oc, hoc⟩ := hc0
  have hclt : cStatics < hm.objs.size := Heap.lt_size (F.keep _ _ hoc)
  have hcI : cStatics ≠ I := fun q => by rw [q, (N _ (.head _)).2.2] at hoc; cases hoc
  have hlim₅ : h₅.NoLimit := T.nolimit.keeps fun b o e => hk₅ _ _ (F.keep b o e)
  have hq := elt_C (cenv := genEnv gScope [] hm.objs.size code bi (envOf (Str.ofString "encode_raw") (scOf fn11) L 1385 (.ref 1384))) (fp := List.range hm.objs.size) (href := h₅) (p1 := p1) (p2 := p2) (p3 := p3) (I := I) (a := a) (dp := dp + 1) (un := un + 1 + 1 + 1 + 1 + 3) (gd := gd) ih
    rfl rfl rfl rfl rfl rfl BG X₂ T₂ (Nat.le_of_eq (hideAll_size _ _))
    (fun b o e => ⟨List.mem_range.mpr (Heap.lt_size (of_hideAll _ e)), fun q => (by
      have q' := List.mem_singleton.mp q
      subst q'
      exact absurd (e.symm.trans (hideAll_none _ (.head _))) (by simp)), hk₅ _ _ (of_hideAll _ e)⟩)
    (hideAll_none _ (.tail _ (.head _))) (Nat.ne_of_gt (Heap.lt_size h13)) ⟨List.mem_range.mpr (Heap.lt_size h13), fun q => h13I (List.mem_singleton.mp q), hk₅ _ _ h13⟩ htr hhit
    (news := news) (fun p hp => ⟨List.mem_range.mpr (Heap.lt_size (N _ (.tail _ (.tail _ hp))).1), fun q => hIp _ (.tail _ hp) (List.mem_singleton.mp q), hk₅ _ _ (N _ (.tail _ (.tail _ hp))).1, hideAll_none _ (List.mem_map_of_mem (.tail _ (.tail _ hp))), Nat.ne_of_lt (Heap.lt_size (N _ (.tail _ (.tail _ hp))).1), hnp _ hp⟩)
    (Nat.ne_of_lt (Heap.lt_size hIm)) (Nat.ne_of_lt (Heap.lt_size hol)) hR hde hlen (by lia) (by lia)
  have hhA : (kT dp (un + 1 + 1 + 1) gd (envOf (Str.ofString "encode_raw") (scOf fn11) L 1385 (.ref 1384)) outer).handled = none := rfl
  have W₀ : ∀ A' : Around, A'.handled = none → Walks PySem.Challenge.rw_jm0023_01.prog w A' I (List.range hm.objs.size) [I] vs.toArray.size (fun i v => vs.toArray[i]? = some v) (StC I a vs) := fun A' hA => (Walks.list hA I a haI vs.toArray).mono_fp fun b hb => by
    rcases List.mem_cons.mp hb with rfl | hb
    · exact List.mem_range.mpr (Heap.lt_size hIm)
    · rw [List.mem_singleton.mp hb]; exact List.mem_range.mpr (Heap.lt_size hol)
  have hrl : recursionLimit = 1000 := rfl
  have W := walks_genE (prog := PySem.Challenge.rw_jm0023_01.prog) (w := w) hhA ga s.gens.size hm.objs.size (List.range hm.objs.size) [I] vs.toArray.size (FC ds) (Nat.ne_of_gt hCga) (fun q => absurd (List.mem_range.mp q) (Nat.not_lt.mpr (Nat.le_of_lt hCga))) (fun b hb => by
      rw [List.mem_singleton.mp hb]; exact List.mem_range.mpr (Heap.lt_size hIm)) (by show dp < recursionLimit; lia) (List.mem_range.mpr hclt) (Nat.ne_of_lt hclt) (fun q => hcI (List.mem_singleton.mp q))
  have hst := genAtE_fresh (elt := .Call (.Name (Str.ofString "encode_raw_codec") p1) [.Name (Str.ofString "x") p2] [] p3) (iter := .Name (Str.ofString "item") pi) (px := px) (scope := gScope) (pos := gpos) (prog := PySem.Challenge.rw_jm0023_01.prog) (w := w) hhA W₀ (FC ds) (cenv := genEnv gScope [] hm.objs.size code bi (envOf (Str.ofString "encode_raw") (scOf fn11) L 1385 (.ref 1384)))
    (s := { s with gens := s.gens.push (.fresh (.compStart (.GeneratorExp (.Call (.Name (Str.ofString "encode_raw_codec") p1) [.Name (Str.ofString "x") p2] [] p3) [⟨.Name (Str.ofString "x") px, .Name (Str.ofString "item") pi, [], 0⟩] gScope gpos) 0 (.ref I) .none (genEnv gScope [] hm.objs.size code bi (envOf (Str.ofString "encode_raw") (scOf fn11) L 1385 (.ref 1384))))), toks := tk, heap := h₅ })
    (a := ga) (g := s.gens.size) rfl rfl rfl (fun q => by have := List.mem_range.mp q; exact Nat.lt_irrefl _ this) hq hgen (Array.getElem?_push_size ..) ⟨hLI.at fun o e => hk₅ _ _ e, hLa.at fun o e => hk₅ _ _ e⟩ hC hlim₅
  rw [eA] at W hst
  refine JB.join_gen W (fun i s st => let ⟨o, _, _, x, y, _⟩ := st.1; ⟨o, x, y⟩) hst (fun b hb => ?_) (.head _) (fun s'' l hmv hll hit => ?_) (fun i v h => let ⟨b, t, _, e, _⟩ := h; ⟨b, t, e⟩) (by simpa using hvs)
  · show b < h₅.objs.size
    rw [hsz]
    rcases List.mem_cons.mp hb with rfl | hb
    · exact Nat.lt_succ_self _
    · rcases List.mem_cons.mp hb with rfl | hb
      · exact Nat.lt_succ_of_lt hCga
      · exact Nat.lt_succ_of_lt (Nat.lt_trans (List.mem_range.mp hb) hCga)
  · have hce := cat_enc l hR (by simpa using hll) hit
    have hcs2 : (JB.cat l).size = (encs ds).length := by rw [← bInts_len, hce]
    refine ⟨by lia, fun t' k => ?_⟩
    have hkeep : ∀ b o, b ≠ I → hm.get? b = some o → s''.heap.get? b = some o := fun b o hb e => by
      refine hmv.heap b o (fun q => ?_) (Heap.get?_push_of_some _ (hk₅ _ _ e))
      have hlt := Heap.lt_size e
      rcases List.mem_cons.mp q with q | q
      · have e : b = ga + 1 := q.trans hsz
        rw [e] at hlt
        exact absurd (Nat.lt_trans (Nat.lt_succ_of_lt hCga) hlt) (Nat.lt_irrefl _)
      · rcases List.mem_cons.mp q with q | q
        · have e : b = hm.objs.size := q
          rw [e] at hlt
          exact absurd hlt (Nat.lt_irrefl _)
        · exact hb (List.mem_singleton.mp q)
    have hLI' : L ≠ I := fun q => (N _ (.head _)).2.1 q.symm
    have e := hQ (JB.cat l) t' s''.heap k s''.gens ps' hce htr hsame ⟨F.ns.at' fun o e => hkeep _ _ hLI' e, fun b o e => hkeep _ _ (fun q => by rw [q, (N _ (.head _)).2.2] at e; cases e) (F.keep b o e), F.above⟩
      (fun p hp => ⟨hkeep _ _ (hIp p hp) (N p (.tail _ hp)).1, (N p (.tail _ hp)).2⟩) ⟨Nat.le_trans (by simp) hmv.gens.1, fun k' hk' => ?_, fun z => hmv.gens.2.2 (AllBare.push z rfl)⟩
    · have hd : s''.drawn = s.drawn := hmv.drawn
      have ho : s''.os = s.os := hmv.os
      have : ({ s'' with toks := k } : Shared) = { s with heap := s''.heap, toks := k, gens := s''.gens } := by
        obtain ⟨a1, a2, a3, a4, a5⟩ := s''
        cases hd; cases ho; rfl
      rw [this]; exact e
    · have := hmv.gens.2.1 k' (by show k' < (s.gens.push _).size; simp; lia) (Nat.ne_of_lt hk')
      rw [this]
      show (s.gens.push _)[k']? = _
      rw [Array.getElem?_push_lt hk']
      exact (Array.getElem?_eq_getElem hk').symm
end Mine
end
section
open PySem PySem.W PySem.Calls PyProof.Rows PySem.Spec
namespace Mine
/-- a list display of written ints, as one step -/
inductive CI : List PySem.Expr → List Int → Prop
  | nil : CI [] []
  | cons {n : Int} {k : Nat} {p : Pos} {r : List PySem.Expr} {ns : List Int} : CI r ns → CI (.Constant (.int n) k p :: r) (n :: ns)
section
variable {prog : Program} {w : World} {A : Around} {E : Value → Shared → Prop} {env : Env} {pos : Pos}
theorem spl_ints {items : List PySem.Expr} {ns : List Int} (c : CI items ns) : ∀ {s : Shared} {Q : List Value → Shared → Prop}, (∀ vs tk, IntsAre vs ns → Q vs { s with toks := tk }) → wpAny (model prog w) A (spliced (backTo pos (starEach items env))) Q E s := by
  induction c with
  | nil => intro s Q h; exact args_nil (h [] s.toks .nil)
  | cons _ ih => intro s Q h; exact args_cons (wpAny_Constant_int (ih fun vs tk hv => h (.int _ s.toks :: vs) tk (.cons _ _ hv)))
theorem list_ints {s : Shared} {h₀ : Heap} {L : Addr} {m : Str → Option Value} {news : List (Addr × Obj)} {items : List PySem.Expr} {ns : List Int} {Q : Value → Shared → Prop} (F : Fr h₀ L s.heap m) (N : News h₀ L s.heap news) (c : CI items ns) (hz : ns.length ≤ 1000)
    (h : ∀ l vs h' tk, Fr h₀ L h' m → News h₀ L h' ((l, listOf vs.toArray 0) :: news) → (∀ p ∈ news, p.1 < l) → IntsAre vs ns → Q (.ref l) { s with heap := h', toks := tk }) : wpAny (model prog w) A (eval (.List items pos) env) Q E s :=
  List_ (spl_ints c fun vs tk hv => newList_K F N (fun l h' F' N' ha => h l vs h' tk F' N' ha hv) (by rw [hv.length, sizeLine_eq]; exact Nat.le_trans hz (by decide)))
/-- a list display of displays of written ints -/
inductive CT : List PySem.Expr → List (List Int) → Prop
  | nil : CT [] []
  | cons {items : List PySem.Expr} {ns : List Int} {p : Pos} {r : List PySem.Expr} {tbl : List (List Int)} : CI items ns → CT r tbl → CT (.List items p :: r) (ns :: tbl)
/-- the rows of such a table -/
noncomputable def Tb (T : List (Addr × Obj)) (vs : List Value) (tbl : List (List Int)) : Prop := ∀ j, j < tbl.length → ∃ q us n, vs[j]? = some (.ref q) ∧ (q, listOf (List.toArray us) n) ∈ T ∧ IntsAre us (tbl.getD j [])
theorem spl_tbl {h₀ : Heap} {L : Addr} {m : Str → Option Value} {items : List PySem.Expr} {tbl : List (List Int)} (c : CT items tbl) : (∀ ns ∈ tbl, ns.length ≤ 1000) → ∀ {s : Shared} {news : List (Addr × Obj)} {Q : List Value → Shared → Prop}, Fr h₀ L s.heap m → News h₀ L s.heap news →
    (∀ vs T h' tk, Fr h₀ L h' m → News h₀ L h' (T ++ news) → vs.length = tbl.length → Tb T vs tbl → Q vs { s with heap := h', toks := tk }) → wpAny (model prog w) A (spliced (backTo pos (starEach items env))) Q E s := by
  induction c with
  | nil =>
    intro _ s news Q F N h
    exact args_nil (h [] [] s.heap s.toks F N rfl fun j hj => absurd hj (Nat.not_lt_zero j))
  | cons c _ ih =>
    intro hz s news Q F N h
    refine args_cons (list_ints F N c (hz _ (.head _)) fun l us h' tk F' N' _ hu => ih (fun x hx => hz x (.tail _ hx)) F' N' fun vs T h'' tk' F'' N'' hl hT =>
      h (.ref l :: vs) (T ++ [(l, listOf us.toArray 0)]) h'' tk' F'' (by rw [List.append_assoc]; exact N'') (congrArg Nat.succ hl) fun j hj => ?_)
    cases j with
    | zero => exact ⟨l, us, 0, rfl, List.mem_append_right _ (.head _), hu⟩
    | succ j =>
      obtain ⟨q, vs', n, e1, e2, e3⟩ := hT j (Nat.lt_of_succ_lt_succ hj)
      exact ⟨q, vs', n, e1, List.mem_append_left _ e2, e3⟩
theorem tbl_list {s : Shared} {h₀ : Heap} {L : Addr} {m : Str → Option Value} {news : List (Addr × Obj)} {items : List PySem.Expr} {tbl : List (List Int)} {Q : Value → Shared → Prop} (F : Fr h₀ L s.heap m) (N : News h₀ L s.heap news) (c : CT items tbl) (hz : ∀ ns ∈ tbl, ns.length ≤ 1000) (hz2 : tbl.length ≤ 1000)
    (h : ∀ l vs T h' tk, Fr h₀ L h' m → News h₀ L h' ((l, listOf vs.toArray 0) :: (T ++ news)) → vs.length = tbl.length → Tb T vs tbl → Q (.ref l) { s with heap := h', toks := tk }) : wpAny (model prog w) A (eval (.List items pos) env) Q E s :=
  List_ (spl_tbl c hz F N fun vs T h' tk F' N' hl hT => newList_K F' N' (fun l h'' F'' N'' _ => h l vs T h'' tk F'' N'' hl hT) (by rw [hl, sizeLine_eq]; exact Nat.le_trans hz2 (by decide)))
theorem tbl_item {s : Shared} {h₀ : Heap} {L l : Addr} {led T : List (Addr × Obj)} {vs : List Value} {tbl : List (List Int)} {n : Nat} {k : Int} {u : Tok} {value slice : PySem.Expr} {Q : Value → Shared → Prop}
    (N : News h₀ L s.heap ((l, listOf vs.toArray n) :: (T ++ led))) (hl : vs.length = tbl.length) (hT : Tb T vs tbl) (hk0 : 0 ≤ k) (hk : k < tbl.length) (hz2 : tbl.length ≤ 1000)
    (h : ∀ q us n, News h₀ L s.heap ((q, listOf (List.toArray us) n) :: led) → IntsAre us (tbl.getD k.toNat []) → Q (.ref q) s)
    (hs : subscripted slice false (.ref l) (.int k u) = operate [.ref l, .int k u] (getItem (.ref l) (.int k u)) := by with_unfolding_all rfl) (hg : ∀ r, letTemporaryGo value (.ref l) r = pure () := by intro _; with_unfolding_all rfl) :
    wpAny (model prog w) A (subscriptTail value slice (.ref l) (.int k u)) Q E s := by
  obtain ⟨q, us, j, e1, e2, e3⟩ := hT k.toNat (by omega)
  refine item_list ⟨_, (N _ (.head _)).1, rfl, _, rfl⟩ hk0 (by omega) (by simpa using e1) (h q us j (kst_newsOf N fun z hz => ?_) e3) hs hg
  rcases List.mem_cons.mp hz with rfl | hz
  · exact .tail _ (List.mem_append_left _ e2)
  · exact .tail _ (List.mem_append_right _ hz)
end
end Mine
end
section
open PySem PySem.W PySem.Calls PyProof.Rows PySem.Spec PySem.SeqAt
namespace Mine
theorem bInts_inj {b c : Array UInt8} (h : KBw.bInts b = KBw.bInts c) : b = c := by
  have key : ∀ l m : List UInt8, (l.map fun c => ((c.toNat : Nat) : Int)) = (m.map fun c => ((c.toNat : Nat) : Int)) → l = m := by
    intro l
    induction l with
    | nil => intro m h; cases m with
      | nil => rfl
      | cons => simp at h
    | cons x l ih => intro m h; cases m with
      | nil => simp at h
      | cons y m =>
        simp only [List.map_cons, List.cons.injEq] at h
        have e : x = y := UInt8.toNat_inj.mp (by omega)
        rw [e, ih m h.2]
  have := key b.toList c.toList h
  exact Array.toList_inj.mp this
theorem eqAt_bytes {A : Around} {s : Shared} {b : Array UInt8} {t u : Tok} : EqAt A s (.bytes b t) (.bytes b u) true := fun prog w E Q h => by
  unfold eqBool
  refine wpAny_holding ?_
  refine wpAny_ite_split (fun _ => wpAny_bind (wpAny_rule (wpAny_pure h))) (fun _ => ?_)
  refine wpAny_bind (show wpAny _ _ (compareOp .Eq (.bytes b t) (.bytes b u)) _ _ _ from eq_bytes ?_)
  rw [beq_self_eq_true]
  exact wpAny_truthy_bool h
mutual
theorem eq_rlp' {s : Shared} {n1 n2 : List (Addr × Obj)} (h1 : ∀ p ∈ n1, s.heap.get? p.1 = some p.2) (h2 : ∀ p ∈ n2, s.heap.get? p.1 = some p.2) : ∀ (d : Rlp) (A : Around) (a b : Value), RlpIn n1 a d → RlpIn n2 b d → A.units + dep d < cLine → EqAt A s a b true
  | .str _ => by
    intro A a b x y _
    cases x with
    | str e1 =>
      cases y with
      | str e2 =>
        have := bInts_inj (e1.trans e2.symm)
        subst this
        exact eqAt_bytes
  | .list ds => by
    intro A a b x y hu
    cases x with
    | @list a vs n _ m1 r1 =>
      cases y with
      | @list b ws k _ m2 r2 =>
        by_cases hab : a = b
        · subst hab; exact EqAt.same _
        · rw [dep] at hu
          have k := eq_rlps' h1 h2 ds A.in1 _ _ r1 r2 (by show A.units + 1 + _ < _; omega)
          have hl : s.heap.IsList a vs.toArray := ⟨_, h1 _ m1, rfl, _, rfl⟩
          have hb : s.heap.IsList b ws.toArray := ⟨_, h2 _ m2, rfl, _, rfl⟩
          have e : (List.range vs.toArray.size).all (fun _ => true) = true := List.all_eq_true.mpr fun _ _ => rfl
          have := RcAt.lists (A := A) (e := fun _ => true) hl hb k.1 (by omega) fun j j1 j2 => k.2 j j1 j2
          rw [e] at this
          exact EqAt.of_refs hab this
theorem eq_rlps' {s : Shared} {n1 n2 : List (Addr × Obj)} (h1 : ∀ p ∈ n1, s.heap.get? p.1 = some p.2) (h2 : ∀ p ∈ n2, s.heap.get? p.1 = some p.2) : ∀ (ds : Rlps) (A : Around) (vs ws : List Value), RlpsIn n1 vs ds → RlpsIn n2 ws ds → A.units + deps ds < cLine →
    vs.length = ws.length ∧ ∀ j (j1 : j < vs.length) (j2 : j < ws.length), EqAt A s vs[j] ws[j] true
  | .nil => by
    intro A vs ws x y _
    cases x
    cases y
    exact ⟨rfl, fun j j1 => absurd j1 (Nat.not_lt_zero j)⟩
  | .cons d ds => by
    intro A vs ws x y hu
    cases x with
    | cons x1 r1 =>
      cases y with
      | cons x2 r2 =>
        rw [deps] at hu
        have k := eq_rlps' h1 h2 ds A _ _ r1 r2 (by omega)
        have k0 := eq_rlp' h1 h2 d A _ _ x1 x2 (by omega)
        refine ⟨congrArg Nat.succ k.1, fun j j1 j2 => ?_⟩
        cases j with
        | zero => exact k0
        | succ j => exact k.2 j (Nat.lt_of_succ_lt_succ j1) (Nat.lt_of_succ_lt_succ j2)
end
theorem eq_rlp {A : Around} {s : Shared} {n1 n2 : List (Addr × Obj)} (h1 : ∀ p ∈ n1, s.heap.get? p.1 = some p.2) (h2 : ∀ p ∈ n2, s.heap.get? p.1 = some p.2) {d : Rlp} {a b : Value} (x : RlpIn n1 a d) (y : RlpIn n2 b d) (hu : A.units + dep d < cLine) : EqAt A s a b true := eq_rlp' h1 h2 d A a b x y hu
theorem eq_rlps {A : Around} {s : Shared} {n1 n2 : List (Addr × Obj)} (h1 : ∀ p ∈ n1, s.heap.get? p.1 = some p.2) (h2 : ∀ p ∈ n2, s.heap.get? p.1 = some p.2) {ds : Rlps} {vs ws : List Value} (x : RlpsIn n1 vs ds) (y : RlpsIn n2 ws ds) (hu : A.units + deps ds < cLine) :
    vs.length = ws.length ∧ ∀ j (j1 : j < vs.length) (j2 : j < ws.length), EqAt A s vs[j] ws[j] true := eq_rlps' h1 h2 ds A vs ws x y hu
theorem ne_rlp {prog : Program} {w : World} {A : Around} {E : Value → Shared → Prop} {s : Shared} {n1 n2 : List (Addr × Obj)} {Q : Value → Shared → Prop} (h1 : ∀ p ∈ n1, s.heap.get? p.1 = some p.2) (h2 : ∀ p ∈ n2, s.heap.get? p.1 = some p.2) {d : Rlp} {a b : Value} (ha : RlpIn n1 a d) (hb : RlpIn n2 b d) (hu : A.units + dep d < cLine) (hc : 0 < cLine)
    (h : Q (.bool false) s) : wpAny (model prog w) A (compareOp .NotEq a b) Q E s := by
  cases ha with
  | str e1 =>
    cases hb with
    | str e2 =>
      have := bInts_inj (e1.trans e2.symm)
      subst this
      refine ne_bytes ?_
      rw [show ∀ l : List UInt8, (l != l) = false from fun l => by simp]
      exact h
  | @list a vs n ds m1 r1 =>
    cases hb with
    | @list b ws n' _ m2 r2 =>
      have k := eq_rlps (A := A.in1) h1 h2 r1 r2 (by rw [dep] at hu; show A.units + 1 + _ < _; omega)
      have hl : s.heap.IsList a vs.toArray := ⟨_, h1 _ m1, rfl, _, rfl⟩
      have hb : s.heap.IsList b ws.toArray := ⟨_, h2 _ m2, rfl, _, rfl⟩
      have e : (!(List.range vs.toArray.size).all (fun _ => true)) = false := by simp
      have := RcNeAt.lists (A := A) (e := fun _ => true) hl hb (by simpa using k.1) (by omega) fun j j1 j2 => by
        have := k.2 j (by simpa using j1) (by simpa using j2)
        simpa using this
      rw [e] at this
      exact this prog w E Q h
end Mine
end
section
open PySem PySem.W
namespace Mine
noncomputable def hdL (r : List Int) (l : Bool) (ll : Int) : Option (Bool × Int × Int) :=
  if (r.take ll.toNat).take 1 = [0] then none else if KFB.value (r.take ll.toNat) < 56 then none else some (l, KFB.value (r.take ll.toNat), 1 + ll)
/-- a head, told from what lies behind -/
noncomputable def hdT : List Int → Option (Bool × Int × Int)
  | [] => none
  | k :: r =>
    if k < 128 then some (false, 1, 0)
    else if k < 184 then (if k = 129 ∧ (r.length < 1 ∨ r.getD 0 0 < 128) then none else some (false, k - 128, 1))
    else if k < 192 then hdL r false (k - 183)
    else if k < 248 then some (true, k - 192, 1)
    else hdL r true (k - 247)
theorem value1 (a : Int) : KFB.value [a] = a := by simp [KFB.value]
theorem value2 (a b : Int) : KFB.value [a, b] = a * 256 + b := by simp [KFB.value]
theorem hdT_cons (k : Int) (r : List Int) : hdT (k :: r) = if k < 128 then some (false, 1, 0)
    else if k < 184 then (if k = 129 ∧ (r.length < 1 ∨ r.getD 0 0 < 128) then none else some (false, k - 128, 1))
    else if k < 192 then hdL r false (k - 183)
    else if k < 248 then some (true, k - 192, 1)
    else hdL r true (k - 247) := rfl
theorem hdL1 (n : Int) (body : List Int) (l : Bool) (h : 56 ≤ n) : hdL (n :: body) l 1 = some (l, n, 2) := by
  unfold hdL
  rw [show List.take (1 : Int).toNat (n :: body) = [n] from rfl, value1, if_neg (by simp; lia), if_neg (by lia)]
  rfl
theorem hdL2 (a b : Int) (body : List Int) (l : Bool) (h0 : a ≠ 0) (h : 56 ≤ a * 256 + b) : hdL (a :: b :: body) l 2 = some (l, a * 256 + b, 3) := by
  unfold hdL
  rw [show List.take (2 : Int).toNat (a :: b :: body) = [a, b] from rfl, value2, if_neg (by simp [h0]), if_neg (by lia)]
  rfl
theorem drop_facts {ks r : List Int} {i : Int} {k : Int} (h0 : 0 ≤ i) (e : ks.drop i.toNat = k :: r) : i < ks.length ∧ ks.getD i.toNat 0 = k ∧ (ks.length : Int) = i + 1 + r.length ∧ ks.drop (i + 1).toNat = r ∧ ks.getD (i + 1).toNat 0 = r.getD 0 0 := by
  have hl := congrArg List.length e
  rw [List.length_drop, List.length_cons] at hl
  have h1 : (i + 1).toNat = i.toNat + 1 := by lia
  have hd : ks.drop (i + 1).toNat = r := by
    rw [h1, ← List.drop_drop, e]; rfl
  refine ⟨by lia, ?_, by lia, hd, ?_⟩
  · have := congrArg (fun l : List Int => l[0]?) e
    simp only [List.getElem?_drop, List.getElem?_cons_zero, Nat.add_zero] at this
    rw [List.getD_eq_getElem?_getD, this]; rfl
  · have : ks[(i + 1).toNat]? = r[0]? := by
      rw [← hd, List.getElem?_drop, Nat.add_zero]
    rw [List.getD_eq_getElem?_getD, List.getD_eq_getElem?_getD, this]
theorem hd_T {ks : List Int} {i : Int} (h0 : 0 ≤ i) : hd ks i = (hdT (ks.drop i.toNat)).map fun p => (p.1, p.2.1, i + p.2.2) := by
  cases e : ks.drop i.toNat with
  | nil =>
    have : ks.length ≤ i.toNat := by simpa using e
    rw [hd, if_pos (by lia)]; rfl
  | cons k r =>
    obtain ⟨g1, g2, g3, g4, g5⟩ := drop_facts h0 e
    rw [hd, if_neg (by lia), g2, g5]
    unfold hdT hdLong hdL
    rw [g4]
    have c : ((ks.length : Int) ≤ i + 1 ∨ r.getD 0 0 < 128) ↔ (r.length < 1 ∨ r.getD 0 0 < 128) := by
      constructor <;> rintro (h | h)
      · exact .inl (by lia)
      · exact .inr h
      · exact .inl (by lia)
      · exact .inr h
    simp only [c]
    repeat' split
    all_goals first | rfl | (simp only [Option.map_some, Option.map_none, Int.add_zero, Int.add_assoc])
theorem pfx_pos (n o : Int) : 1 ≤ (pfx n o).length := by
  unfold pfx
  repeat' split
  all_goals simp
theorem enc_pos1 : ∀ d : Rlp, 1 ≤ (enc d).length
  | .str ks => by
    rw [enc]; split
    · lia
    · rw [List.length_append]
      have : 1 ≤ (pfx (ks.length : Int) 128).length := pfx_pos _ _
      lia
  | .list ds => by
    rw [enc, List.length_append]
    have : 1 ≤ (pfx ((encs ds).length : Int) 192).length := pfx_pos _ _
    lia
/-- a written head is read as it was written -/
theorem hdT_pfx {n o : Int} {body : List Int} (h0 : 0 ≤ n) (h1 : n < 65536) (ho : o = 128 ∨ o = 192) (hb : ¬ (n = 1 ∧ o = 128 ∧ (body.length < 1 ∨ body.getD 0 0 < 128))) :
    hdT (pfx n o ++ body) = some (decide (o = 192), n, ((pfx n o).length : Int)) := by
  unfold pfx
  split
  · show hdT ((o + n) :: body) = _
    rw [hdT_cons]
    rcases ho with rfl | rfl
    · rw [if_neg (by lia), if_pos (by lia), if_neg (by rintro ⟨q1, q2⟩; exact hb ⟨by lia, rfl, q2⟩)]
      simp; lia
    · rw [if_neg (by lia), if_neg (by lia), if_neg (by lia), if_pos (by lia)]
      simp; lia
  · split
    · show hdT ((o + 56) :: n :: body) = _
      rw [hdT_cons]
      rcases ho with rfl | rfl
      · rw [if_neg (by lia), if_neg (by lia), if_pos (by lia)]
        exact hdL1 n body false (by lia)
      · rw [if_neg (by lia), if_neg (by lia), if_neg (by lia), if_neg (by lia)]
        exact hdL1 n body true (by lia)
    · show hdT ((o + 57) :: (n / 256) :: (n % 256) :: body) = _
      have hn : n / 256 * 256 + n % 256 = n := by lia
      rw [hdT_cons]
      rcases ho with rfl | rfl
      · rw [if_neg (by lia), if_neg (by lia), if_pos (by lia)]
        have := hdL2 (n / 256) (n % 256) body false (by lia) (by lia)
        rw [hn] at this; exact this
      · rw [if_neg (by lia), if_neg (by lia), if_neg (by lia), if_neg (by lia)]
        have := hdL2 (n / 256) (n % 256) body true (by lia) (by lia)
        rw [hn] at this; exact this
mutual
/-- what is written is read again -/
theorem rd_enc {ks : List Int} : ∀ (d : Rlp) (F : Nat) (i : Int) (post : List Int), 0 ≤ i → ks.drop i.toNat = enc d ++ post → (enc d).length < 65536 → 2 * (enc d).length ≤ F → rdItem ks F i = some (d, i + (enc d).length)
  | .str xs, F, i, post, h0, e, hl, hF => by
    rw [enc] at e hl hF ⊢
    split at e
    · rename_i hc
      rw [if_pos hc] at hl hF ⊢
      obtain ⟨x, rfl⟩ := List.length_eq_one_iff.mp hc.1
      obtain ⟨F, rfl⟩ : ∃ F', F = F' + 1 := ⟨F - 1, by simp at hF; lia⟩
      have hx : x < 128 := hc.2
      obtain ⟨g1, _⟩ := drop_facts h0 e
      rw [rdItem_eq, hd_T h0, e]
      show (match (hdT (x :: post)).map _ with | none => none | some (l, n, st) => rdPay ks F l n st) = _
      rw [hdT_cons, if_pos hx]
      show rdPay ks F false 1 (i + 0) = _
      rw [Int.add_zero]
      unfold rdPay
      dsimp only
      rw [if_pos (by lia), e]
      simp
    · rename_i hc
      rw [if_neg hc] at hl hF ⊢
      rw [List.length_append] at hl hF
      have hp : 1 ≤ (pfx (xs.length : Int) 128).length := pfx_pos _ _
      obtain ⟨F, rfl⟩ : ∃ F', F = F' + 1 := ⟨F - 1, by lia⟩
      have hle : i.toNat ≤ ks.length := by
        rcases Nat.lt_or_ge ks.length i.toNat with q | q
        · rw [List.drop_of_length_le (Nat.le_of_lt q)] at e
          have := congrArg List.length e
          simp at this; lia
        · exact q
      have hlen := congrArg List.length e
      rw [List.length_drop, List.length_append, List.length_append] at hlen
      rw [List.append_assoc] at e
      rw [rdItem_eq, hd_T h0, e, hdT_pfx (by lia) (by lia) (.inl rfl) (by
        rintro ⟨q1, _, q2⟩
        have q3 : xs.length = 1 := by lia
        obtain ⟨x, rfl⟩ := List.length_eq_one_iff.mp q3
        rcases q2 with q2 | q2
        · simp at q2
        · exact hc ⟨rfl, q2⟩)]
      show rdPay ks F false (xs.length : Int) (i + ((pfx (xs.length : Int) 128).length : Int)) = _
      unfold rdPay
      dsimp only
      rw [if_pos (by lia)]
      have e2 : ks.drop (i + ((pfx (xs.length : Int) 128).length : Int)).toNat = xs ++ post := by
        rw [show (i + ((pfx (xs.length : Int) 128).length : Int)).toNat = i.toNat + (pfx (xs.length : Int) 128).length by lia, ← List.drop_drop, e, List.drop_left]
      rw [e2, List.length_append]
      simp; lia
  | .list ds, F, i, post, h0, e, hl, hF => by
    rw [enc] at e hl hF ⊢
    rw [List.length_append] at hl hF
    have hp : 1 ≤ (pfx ((encs ds).length : Int) 192).length := pfx_pos _ _
    obtain ⟨F, rfl⟩ : ∃ F', F = F' + 1 := ⟨F - 1, by lia⟩
    have hlen := congrArg List.length e
    rw [List.length_drop, List.length_append, List.length_append] at hlen
    rw [List.append_assoc] at e
    rw [rdItem_eq, hd_T h0, e, hdT_pfx (by lia) (by lia) (.inr rfl) (by rintro ⟨_, q, _⟩; lia)]
    show rdPay ks F true ((encs ds).length : Int) (i + ((pfx ((encs ds).length : Int) 192).length : Int)) = _
    have e2 : ks.drop (i + ((pfx ((encs ds).length : Int) 192).length : Int)).toNat = encs ds ++ post := by
      rw [show (i + ((pfx ((encs ds).length : Int) 192).length : Int)).toNat = i.toNat + (pfx ((encs ds).length : Int) 192).length by lia, ← List.drop_drop, e, List.drop_left]
    unfold rdPay
    dsimp only
    rw [rd_encs ds F _ post (by lia) e2 (by lia) (by lia)]
    dsimp only
    rw [if_pos rfl, List.length_append]
    simp; lia
theorem rd_encs {ks : List Int} : ∀ (ds : Rlps) (F : Nat) (i : Int) (post : List Int), 0 ≤ i → ks.drop i.toNat = encs ds ++ post → (encs ds).length < 65536 → 2 * (encs ds).length + 1 ≤ F → rdMany ks F i (i + (encs ds).length) = some (ds, i + (encs ds).length)
  | .nil, F, i, post, h0, e, hl, hF => by
    obtain ⟨F, rfl⟩ : ∃ F', F = F' + 1 := ⟨F - 1, by lia⟩
    rw [rdMany, encs, if_neg (by simp)]
    simp
  | .cons d ds, F, i, post, h0, e, hl, hF => by
    rw [encs] at e hl hF ⊢
    rw [List.length_append] at hl hF ⊢
    have hp := enc_pos1 d
    obtain ⟨F, rfl⟩ : ∃ F', F = F' + 1 := ⟨F - 1, by lia⟩
    rw [List.append_assoc] at e
    rw [rdMany, if_pos (by lia), rd_enc d F i (encs ds ++ post) h0 e (by lia) (by lia)]
    dsimp only
    have e2 : ks.drop (i + ((enc d).length : Int)).toNat = encs ds ++ post := by
      rw [show (i + ((enc d).length : Int)).toNat = i.toNat + (enc d).length by lia, ← List.drop_drop, e, List.drop_left]
    have := rd_encs ds F (i + (enc d).length) post (by lia) e2 (by lia) (by lia)
    rw [show i + (((enc d).length + (encs ds).length : Nat) : Int) = i + (enc d).length + (encs ds).length by lia, this]
end
theorem rd_of_enc (d : Rlp) (h : (enc d).length < 65536) : rd (enc d) = some d := by
  unfold rd
  rw [rd_enc (ks := enc d) d _ 0 [] (by lia) (by simp) h (by lia)]
  dsimp only
  rw [if_pos (by lia)]
end Mine
end
section
open PySem PySem.W
namespace Mine
theorem fold_ge : ∀ (l : List Int) (x : Int), (∀ k ∈ l, 0 ≤ k ∧ k < 256) → 65536 ≤ x → 65536 ≤ l.foldl (fun a k => a * 256 + k) x
  | [], _, _, h => h
  | k :: r, x, hr, h => by
    rw [List.foldl_cons]
    exact fold_ge r _ (fun y hy => hr y (.tail _ hy)) (by have := hr k (.head _); lia)
theorem hdL_inv {r : List Int} {l l' : Bool} {ll n o : Int} (hr : ∀ k ∈ r, 0 ≤ k ∧ k < 256) (h1 : 1 ≤ ll) (h2 : ll ≤ r.length) (hn : n < 65536) (h : hdL r l ll = some (l', n, o)) :
    l' = l ∧ 56 ≤ n ∧ o = 1 + ll ∧ ((ll = 1 ∧ n < 256 ∧ r.take 1 = [n]) ∨ (ll = 2 ∧ 256 ≤ n ∧ r.take 2 = [n / 256, n % 256])) := by
  unfold hdL at h
  split at h
  · cases h
  · rename_i hz
    split at h
    · cases h
    · rename_i hv
      simp only [Option.some.injEq, Prod.mk.injEq] at h
      obtain ⟨rfl, hn2, rfl⟩ := h
      refine ⟨rfl, by lia, rfl, ?_⟩
      match r, hr, h2, hz, hv, hn2 with
      | [], _, h2, _, _, _ => simp at h2; lia
      | [a], hr, h2, hz, hv, hn2 =>
        have : ll = 1 := by simp at h2; lia
        subst this
        have ha := hr a (.head _)
        rw [show List.take (1 : Int).toNat [a] = [a] from rfl, value1] at hn2
        subst hn2
        exact .inl ⟨rfl, by lia, rfl⟩
      | a :: b :: q, hr, h2, hz, hv, hn2 =>
        have ha := hr a (.head _)
        have hb := hr b (.tail _ (.head _))
        by_cases e1 : ll = 1
        · subst e1
          rw [show List.take (1 : Int).toNat (a :: b :: q) = [a] from rfl, value1] at hn2
          subst hn2
          exact .inl ⟨rfl, by lia, rfl⟩
        · have ha0 : a ≠ 0 := by
            rintro rfl
            apply hz
            obtain ⟨m, hm⟩ : ∃ m, ll.toNat = m + 1 := ⟨ll.toNat - 1, by lia⟩
            rw [hm]; rfl
          by_cases e2 : ll = 2
          · subst e2
            rw [show List.take (2 : Int).toNat (a :: b :: q) = [a, b] from rfl, value2] at hn2
            subst hn2
            refine .inr ⟨rfl, by lia, ?_⟩
            show [a, b] = _
            rw [show (a * 256 + b) / 256 = a by lia, show (a * 256 + b) % 256 = b by lia]
          · exfalso
            match q, hr, h2, hn2 with
            | [], _, h2, _ => simp at h2; lia
            | c :: q, hr, h2, hn2 =>
              obtain ⟨m, hm⟩ : ∃ m, ll.toNat = m + 3 := ⟨ll.toNat - 3, by lia⟩
              rw [hm] at hn2
              have hc := hr c (.tail _ (.tail _ (.head _)))
              have e : KFB.value ((a :: b :: c :: q).take (m + 3)) = (q.take m).foldl (fun a k => a * 256 + k) (((0 * 256 + a) * 256 + b) * 256 + c) := rfl
              have := fold_ge (q.take m) (((0 * 256 + a) * 256 + b) * 256 + c) (fun y hy => hr y (.tail _ (.tail _ (.tail _ (List.mem_of_mem_take hy))))) (by lia)
              lia
/-- a head that is read is the one that would be written -/
theorem hdT_inv {t : List Int} {l : Bool} {n o : Int} (hr : ∀ k ∈ t, 0 ≤ k ∧ k < 256) (hn : n < 65536) (ho : o ≤ t.length) (h : hdT t = some (l, n, o)) :
    (l = false ∧ n = 1 ∧ o = 0 ∧ ∃ k r, t = k :: r ∧ k < 128) ∨
    (0 ≤ n ∧ t.take o.toNat = pfx n (if l then 192 else 128) ∧ 1 ≤ o ∧ (l = false → n = 1 → ¬ (t.drop o.toNat).getD 0 0 < 128)) := by
  cases t with
  | nil => cases h
  | cons k r =>
    have hk := hr k (.head _)
    have hr' : ∀ y ∈ r, 0 ≤ y ∧ y < 256 := fun y hy => hr y (.tail _ hy)
    rw [hdT_cons] at h
    rw [List.length_cons] at ho
    split at h
    · cases h
      exact .inl ⟨rfl, rfl, rfl, k, r, rfl, by assumption⟩
    · right
      split at h
      · split at h
        · cases h
        · rename_i hc
          cases h
          refine ⟨by lia, ?_, by lia, fun _ q => ?_⟩
          · show [k] = pfx (k - 128) 128
            rw [pfx, if_pos (by lia)]; congr 1; lia
          · show ¬ r.getD 0 0 < 128
            intro q2
            exact hc ⟨by lia, .inr q2⟩
      · split at h
        · have ho2 : o = 1 + (k - 183) := by
            unfold hdL at h
            split at h
            · cases h
            · split at h
              · cases h
              · simp only [Option.some.injEq, Prod.mk.injEq] at h; exact h.2.2.symm
          obtain ⟨rfl, g1, g2, g3⟩ := hdL_inv hr' (by lia) (by lia) hn h
          refine ⟨by lia, ?_, by lia, fun _ q => by lia⟩
          rcases g3 with ⟨e1, e2, e3⟩ | ⟨e1, e2, e3⟩
          · rw [show o.toNat = 1 + 1 by lia, List.take_succ_cons, e3, pfx, if_neg (by lia), if_pos e2]
            show [k, n] = [128 + 56, n]
            congr 1; lia
          · rw [show o.toNat = 2 + 1 by lia, List.take_succ_cons, e3, pfx, if_neg (by lia), if_neg (by lia)]
            show [k, n / 256, n % 256] = [128 + 57, n / 256, n % 256]
            congr 1; lia
        · split at h
          · cases h
            refine ⟨by lia, ?_, by lia, fun q => by cases q⟩
            show [k] = pfx (k - 192) 192
            rw [pfx, if_pos (by lia)]; congr 1; lia
          · have ho2 : o = 1 + (k - 247) := by
              unfold hdL at h
              split at h
              · cases h
              · split at h
                · cases h
                · simp only [Option.some.injEq, Prod.mk.injEq] at h; exact h.2.2.symm
            obtain ⟨rfl, g1, g2, g3⟩ := hdL_inv hr' (by lia) (by lia) hn h
            refine ⟨by lia, ?_, by lia, fun q => by cases q⟩
            rcases g3 with ⟨e1, e2, e3⟩ | ⟨e1, e2, e3⟩
            · rw [show o.toNat = 1 + 1 by lia, List.take_succ_cons, e3, pfx, if_neg (by lia), if_pos e2]
              show [k, n] = [192 + 56, n]
              congr 1; lia
            · rw [show o.toNat = 2 + 1 by lia, List.take_succ_cons, e3, pfx, if_neg (by lia), if_neg (by lia)]
              show [k, n / 256, n % 256] = [192 + 57, n / 256, n % 256]
              congr 1; lia
end Mine
end
namespace Mine
theorem pad5 {prog : PySem.Program} {w : PySem.World} {A : PySem.Around} {E : PySem.Value → PySem.Shared → Prop} {s : PySem.Shared} {env : PySem.Env} {Q : PySem.Flow → PySem.Shared → Prop} (h : Q .next s) : PySem.wpAny (PySem.model prog w) A (PySem.execs [] env) Q E s := by
  walk1
  exact h
end Mine
section
open PySem PySem.W PySem.Calls PyProof.Rows
namespace Mine
set_option maxHeartbeats 4000000 in
theorem c_bei {w : World} {loose : List Str} {mean : ExcName → Option Value} {mg mb : Str → Option Value} {dp un : Nat} {gd : Option (List Code)} {env : Env} {outer : List Env} {A₀ : Around} {base h₀ : Heap} {L : Addr} {m : Str → Option Value} {news : List (Addr × Obj)} {s : Shared} {Q E : Value → Shared → Prop}
    (C : Cx w loose mean mg mb env outer A₀ base h₀ L m news s.heap) (hroom : dp + 3 < recursionLimit) (hun : un + 50 < cLine)
    (b : Array UInt8) (ks : List Int) (hb : KBw.bInts b = ks) (t1 : Tok) (hlen : ks.length ≤ 8)
    (hret : ∀ t' h' tk', Fr h₀ L h' m → News h₀ L h' news → Q (.int (KFB.value ks) t') { s with heap := h', toks := tk' }) :
    wpAny (model PySem.Challenge.rw_jm0023_01.prog w) (kT dp un gd env outer) (call (.ref 1371) [.bytes b t1]) Q E s := by
  obtain ⟨B, F, X, N, T, hf, hk⟩ := C
  revert X; k_fill; intro X
  refine wpAny_call ?_
  (k_dflt (refine' code_def ?k1 ?k2 ?k3 ?k4 ?k5 ?kA ?kF ?kK ?k6 ?k7 ?k8 ?k9 ?kB ?_ ?c2 ?c3 ?c4 ?c5; (case kA => exact rfl); (case kF => assumption); (case kK => assumption); (case k1 => k_asm); (case k2 => k_asm); (case k3 => k_asm); (case k4 => k_asm); (case k5 => k_asm); (case k6 => k_is); (case k7 => k_is); (case k8 => (simp only [recursionLimit] at *; (try dsimp only); omega)); (case k9 => exact BindsTo.of_eq rfl); (case c5 => decide); (case kB => exact locs rfl); (case c2 => exact rfl); (case c3 => exact rfl); (case c4 => exact rfl); k_whole; intro _ _ _ _ _ _ _ _ _; (try dsimp only); (try k_fold)))
  k_steps
  exact hret _ _ _ (by assumption) (fun p hp => by rename News _ _ _ (_ :: _) => NN; exact NN p (List.mem_cons_of_mem _ hp))
end Mine
end
section
open PySem PySem.W PySem.Calls PyProof.Rows
namespace Mine
theorem cut_nat (n a d : Nat) : ((min d (n - a) : Nat) : Int) = min ((a : Int) + d) n - min (a : Int) n := by
  rw [← Int.natCast_add, ← Lean.Omega.Int.ofNat_min, ← Lean.Omega.Int.ofNat_min]
  rcases Nat.le_total a n with q | q
  · obtain ⟨r, rfl⟩ := Nat.exists_eq_add_of_le q
    rw [Nat.add_sub_cancel_left, Nat.add_min_add_left, Nat.min_eq_left q, Int.natCast_add, add_can]
  · rw [Nat.sub_eq_zero_of_le q, Nat.min_zero, Nat.min_eq_right q, Nat.min_eq_right (Nat.le_trans q (Nat.le_add_right _ _)), Int.sub_self]; rfl
theorem cut_len {ks : List Int} {a c : Int} (h0 : 0 ≤ a) (h1 : a ≤ c) : ((List.take (clipAt ks.length c - clipAt ks.length a) (List.drop (clipAt ks.length a) ks)).length : Int) = min c ks.length - min a ks.length := by
  rw [cut_eq h0 h1, List.length_take, List.length_drop]
  obtain ⟨a, rfl⟩ := Int.eq_ofNat_of_zero_le h0
  obtain ⟨d, rfl⟩ := Int.le.dest h1
  rw [add_can]
  exact cut_nat _ _ _
section
variable {ks : List Int} {start : Int} {p q : Array UInt8}
theorem zero_test {ll : Int} (h0 : 0 ≤ start) (hl : 1 ≤ ll) (hk : KBw.bInts p = List.take (clipAt ks.length (start + 2) - clipAt ks.length (start + 1)) (List.drop (clipAt ks.length (start + 1)) ks)) {c : Bool} (hz : (p.toList == #[0].toList) = c) :
    (((ks.drop (start + 1).toNat).take ll.toNat).take 1 = [0]) ↔ c = true := by
  rw [cut_eq (by lia) (by lia), show (start + 2 - (start + 1)).toNat = 1 by lia] at hk
  rw [take1 (by lia), ← hz, zero_iff hk]
  simp
theorem hd_zero (h0 : 0 ≤ start) (h1 : start < (ks.length : Int)) (ha : 184 ≤ ks.getD start.toNat 0) (hb : ks.getD start.toNat 0 < 192 ∨ 248 ≤ ks.getD start.toNat 0)
    (hk : KBw.bInts p = List.take (clipAt ks.length (start + 2) - clipAt ks.length (start + 1)) (List.drop (clipAt ks.length (start + 1)) ks)) (hz : (p.toList == #[0].toList) = true) : hd ks start = none := by
  unfold hd hdLong
  rw [if_neg (by lia), if_neg (by lia), if_neg (by lia)]
  by_cases g : ks.getD start.toNat 0 < 192
  · rw [if_pos g, if_pos ((zero_test h0 (by lia) hk hz).mpr rfl)]
  · rw [if_neg g, if_neg (by lia), if_pos ((zero_test h0 (by lia) hk hz).mpr rfl)]
theorem hd_long {l : Bool} {ll : Int} (h0 : 0 ≤ start) (h1 : start < (ks.length : Int)) (hl : (l = false ∧ 184 ≤ ks.getD start.toNat 0 ∧ ks.getD start.toNat 0 < 192 ∧ ll = ks.getD start.toNat 0 - 183) ∨ (l = true ∧ 248 ≤ ks.getD start.toNat 0 ∧ ll = ks.getD start.toNat 0 - 247))
    (hk : KBw.bInts p = List.take (clipAt ks.length (start + 2) - clipAt ks.length (start + 1)) (List.drop (clipAt ks.length (start + 1)) ks)) (hz : (p.toList == #[0].toList) = false) :
    hd ks start = if KFB.value (List.take (clipAt ks.length (start + 1 + ll) - clipAt ks.length (start + 1)) (List.drop (clipAt ks.length (start + 1)) ks)) < 56 then none
      else some (l, KFB.value (List.take (clipAt ks.length (start + 1 + ll) - clipAt ks.length (start + 1)) (List.drop (clipAt ks.length (start + 1)) ks)), start + 1 + ll) := by
  rw [cut_eq (by lia) (by lia), show (start + 1 + ll - (start + 1)).toNat = ll.toNat by lia]
  have z : ¬ ((((ks.drop (start + 1).toNat).take ll.toNat).take 1) = [0]) := fun g => Bool.false_ne_true ((zero_test (ll := ll) h0 (by lia) hk hz).mp g)
  unfold hd hdLong
  rw [if_neg (by lia), if_neg (by lia), if_neg (by lia)]
  rcases hl with ⟨rfl, g1, g2, rfl⟩ | ⟨rfl, g1, rfl⟩
  · rw [if_pos (by lia), if_neg z]
  · rw [if_neg (by lia), if_neg (by lia), if_neg z]
theorem hd_longA (h0 : 0 ≤ start) (h1 : start < (ks.length : Int)) (g1 : 184 ≤ ks.getD start.toNat 0) (g2 : ks.getD start.toNat 0 < 192)
    (hk : KBw.bInts p = List.take (clipAt ks.length (start + 2) - clipAt ks.length (start + 1)) (List.drop (clipAt ks.length (start + 1)) ks)) (hz : (p.toList == #[0].toList) = false) :
    hd ks start = if KFB.value (List.take (clipAt ks.length (start + 1 + (ks.getD start.toNat 0 - 183)) - clipAt ks.length (start + 1)) (List.drop (clipAt ks.length (start + 1)) ks)) < 56 then none
      else some (false, KFB.value (List.take (clipAt ks.length (start + 1 + (ks.getD start.toNat 0 - 183)) - clipAt ks.length (start + 1)) (List.drop (clipAt ks.length (start + 1)) ks)), start + 1 + (ks.getD start.toNat 0 - 183)) :=
  hd_long h0 h1 (.inl ⟨rfl, g1, g2, rfl⟩) hk hz
theorem hd_longB (h0 : 0 ≤ start) (h1 : start < (ks.length : Int)) (g1 : 248 ≤ ks.getD start.toNat 0)
    (hk : KBw.bInts p = List.take (clipAt ks.length (start + 2) - clipAt ks.length (start + 1)) (List.drop (clipAt ks.length (start + 1)) ks)) (hz : (p.toList == #[0].toList) = false) :
    hd ks start = if KFB.value (List.take (clipAt ks.length (start + 1 + (ks.getD start.toNat 0 - 192 - 56 + 1)) - clipAt ks.length (start + 1)) (List.drop (clipAt ks.length (start + 1)) ks)) < 56 then none
      else some (true, KFB.value (List.take (clipAt ks.length (start + 1 + (ks.getD start.toNat 0 - 192 - 56 + 1)) - clipAt ks.length (start + 1)) (List.drop (clipAt ks.length (start + 1)) ks)), start + 1 + (ks.getD start.toNat 0 - 192 - 56 + 1)) :=
  hd_long h0 h1 (.inr ⟨rfl, g1, by lia⟩) hk hz
theorem hd_in (hks : ∀ k ∈ ks, 0 ≤ k ∧ k < 256) {l : Bool} {n st : Int} (h0 : 0 ≤ start) (h : hd ks start = some (l, n, st)) : start < ks.length ∧ 0 ≤ n ∧ start ≤ st ∧ (l = true → start + 1 ≤ st) ∧ start + 1 ≤ st + n ∧ st ≤ start + 9 ∧ (st ≤ ks.length ∨ 1 ≤ n) := by
  have hg := KBw.getD_in (ks := ks) (j := start.toNat) hks
  have hv : ∀ xs : List Int, (∀ k ∈ xs, 0 ≤ k ∧ k < 256) → ∀ a : Int, 0 ≤ a → 0 ≤ xs.foldl (fun a k => a * 256 + k) a := by
    intro xs
    induction xs with
    | nil => intro _ a ha; exact ha
    | cons k r ih => intro hr a ha; rw [List.foldl_cons]; exact ih (fun j hj => hr j (List.mem_cons_of_mem _ hj)) _ (by have := (hr k (List.mem_cons_self ..)).1; lia)
  unfold hd hdLong at h
  repeat' split at h
  all_goals first
    | cases h; done
    | (cases h; refine ⟨by lia, by lia, by lia, (fun _ => by lia), by lia, by lia, by lia⟩)
    | (cases h; rename_i g; refine ⟨by lia, by lia, by lia, (fun q => by cases q), by lia, by lia, by lia⟩)
end
end Mine
end
section
open PySem PySem.W
namespace Mine
theorem take_len {t : List Int} {n : Nat} (h : n ≤ t.length) : (t.take n).length = n := by rw [List.length_take]; lia
section
variable {i o n : Int}
theorem tn_add (ho : 0 ≤ o) (hn : 0 ≤ n) : (i + o + n - i).toNat = o.toNat + n.toNat := by
  rw [show i + o + n - i = o + n by lia]; exact Int.toNat_add ho hn
theorem tn_sub : (i + o + n - (i + o)).toNat = n.toNat := by rw [show i + o + n - (i + o) = n by lia]
theorem tn_len {ks : List Int} (h0 : 0 ≤ i) (ho : 0 ≤ o) (hn : 0 ≤ n) (h : i + o + n ≤ ks.length) : (((ks.drop i.toNat).drop o.toNat).take n.toNat).length = n.toNat := by
  rw [List.drop_drop, ← Int.toNat_add h0 ho]
  exact take_len (by rw [List.length_drop]; refine Nat.le_sub_of_add_le ?_; rw [Nat.add_comm, ← Int.toNat_add (Int.add_nonneg h0 ho) hn]; exact Int.toNat_le.mpr h)
theorem tn_drop {ks : List Int} (h0 : 0 ≤ i) (ho : 0 ≤ o) : ks.drop (i + o).toNat = (ks.drop i.toNat).drop o.toNat := by
  rw [List.drop_drop, Int.toNat_add h0 ho]
theorem tn_cast (hn : 0 ≤ n) : ((n.toNat : Nat) : Int) = n := Int.toNat_of_nonneg hn
theorem tn_o {ks : List Int} (h0 : 0 ≤ i) (ho : 0 ≤ o) (h : i + o ≤ ks.length) : o ≤ ((ks.drop i.toNat).length : Nat) :=
  Int.toNat_le.mp (by rw [List.length_drop]; refine Nat.le_sub_of_add_le ?_; rw [Nat.add_comm, ← Int.toNat_add h0 ho]; exact Int.toNat_le.mpr h)
theorem tn_pos (h : i ≤ i + o) : 0 ≤ o := by lia
theorem tn_big {m : Nat} (h0 : 0 ≤ i + o) (hm : m < 65536) (h : i + o + n ≤ m) : n < 65536 := by lia
theorem tn_one (q : n.toNat = 1) : n = 1 := by lia
theorem tn_d1 {k : Nat} {m : Int} (b : (k : Int) ≤ m - o) (g : i + 1 ≤ o) : ((k + 1 : Nat) : Int) ≤ m - i := by lia
theorem tn_split {j k : Int} (h1 : i ≤ j) (h2 : j ≤ k) : (k - i).toNat = (j - i).toNat + (k - j).toNat := by
  rw [show k - i = (j - i) + (k - j) by lia, Int.toNat_add (Int.sub_nonneg_of_le h1) (Int.sub_nonneg_of_le h2)]
theorem tn_mid {j : Int} (h0 : 0 ≤ i) (h : i ≤ j) : i.toNat + (j - i).toNat = j.toNat := by
  rw [← Int.toNat_add h0 (Int.sub_nonneg_of_le h), show i + (j - i) = j by lia]
end
mutual
/-- what is read is what would be written -/
theorem enc_rd {ks : List Int} (hks : ∀ k ∈ ks, 0 ≤ k ∧ k < 256) (hlen : ks.length < 65536) : ∀ (F : Nat) (i : Int) (d : Rlp) (j : Int), 0 ≤ i → rdItem ks F i = some (d, j) →
    i < j ∧ j ≤ ks.length ∧ (ks.drop i.toNat).take (j - i).toNat = enc d ∧ (dep d : Int) ≤ j - i
  | 0, i, d, j, h0, h => by rw [rdItem] at h; cases h
  | F + 1, i, d, j, h0, h => by
    rw [rdItem_eq] at h
    cases hh : hd ks i with
    | none => rw [hh] at h; cases h
    | some p =>
      obtain ⟨l, n, st⟩ := p
      rw [hh] at h
      dsimp only at h
      obtain ⟨g1, g2, g3, g4, g5, g6, g7⟩ := hd_in hks h0 hh
      rw [hd_T h0] at hh
      cases ht : hdT (ks.drop i.toNat) with
      | none => rw [ht] at hh; cases hh
      | some p =>
        obtain ⟨l', n', o⟩ := p
        rw [ht] at hh
        simp only [Option.map_some, Option.some.injEq, Prod.mk.injEq] at hh
        obtain ⟨rfl, rfl, rfl⟩ := hh
        have hr : ∀ k ∈ ks.drop i.toNat, 0 ≤ k ∧ k < 256 := fun k hk => hks k (List.mem_of_mem_drop hk)
        have h0o : 0 ≤ o := tn_pos g3
        have h0s : 0 ≤ i + o := Int.add_nonneg h0 h0o
        unfold rdPay at h
        cases l' with
        | false =>
          dsimp only at h
          split at h
          · rename_i hc
            simp only [Option.some.injEq, Prod.mk.injEq] at h
            obtain ⟨rfl, rfl⟩ := h
            refine ⟨g5, hc, ?_, by rw [dep]; exact Int.sub_nonneg_of_le (Int.le_of_lt g5)⟩
            rw [tn_drop h0 h0o, tn_add h0o g2, List.take_add]
            have hxl := tn_len h0 h0o g2 hc
            rcases hdT_inv hr (tn_big h0s hlen hc) (tn_o h0 h0o (Int.le_trans (Int.le_add_of_nonneg_right g2) hc)) ht with ⟨_, rfl, rfl, k, r, hk, hk2⟩ | ⟨k1, k2, k3, k4⟩
            · rw [hk]
              show [k] = enc (.str [k])
              rw [enc, if_pos ⟨rfl, hk2⟩]
            · have key : ¬ ((((ks.drop i.toNat).drop o.toNat).take n'.toNat).length = 1 ∧ (((ks.drop i.toNat).drop o.toNat).take n'.toNat).getD 0 0 < 128) := by
                rintro ⟨q1, q2⟩
                rw [hxl] at q1
                refine k4 rfl (tn_one q1) ?_
                rw [q1] at q2
                cases hz : (ks.drop i.toNat).drop o.toNat with
                | nil => show (0 : Int) < 128; decide
                | cons x xs => rw [hz] at q2; exact q2
              rw [k2, enc, if_neg key, hxl, tn_cast g2]
              rfl
          · cases h
        | true =>
          dsimp only at h
          cases hm : rdMany ks F (i + o) (i + o + n') with
          | none => rw [hm] at h; cases h
          | some p =>
            obtain ⟨ds, j'⟩ := p
            rw [hm] at h
            dsimp only at h
            split at h
            · rename_i hj
              simp only [Option.some.injEq, Prod.mk.injEq] at h
              obtain ⟨rfl, rfl⟩ := h
              have hst : i + o ≤ ks.length := by
                rcases g7 with g7 | g7
                · exact g7
                · apply Decidable.byContradiction
                  intro hq
                  rw [rdMany_off (Int.le_of_lt (Int.not_le.mp hq)) (Int.lt_add_of_pos_right _ g7) F] at hm
                  cases hm
              subst hj
              obtain ⟨b1, b2, b3, b4⟩ := encs_rd hks hlen F (i + o) (i + o + n') ds _ h0s hst hm
              refine ⟨g5, b2, ?_, by rw [dep]; exact tn_d1 b4 (g4 rfl)⟩
              rw [tn_sub, tn_drop h0 h0o] at b3
              have hxl := tn_len h0 h0o g2 b2
              rw [b3] at hxl
              rw [tn_add h0o g2, List.take_add]
              rw [b3, enc, hxl]
              rcases hdT_inv hr (tn_big h0s hlen b2) (tn_o h0 h0o hst) ht with ⟨q, _⟩ | ⟨k1, k2, k3, k4⟩
              · cases q
              · rw [k2, tn_cast g2]; rfl
            · cases h
theorem encs_rd {ks : List Int} (hks : ∀ k ∈ ks, 0 ≤ k ∧ k < 256) (hlen : ks.length < 65536) : ∀ (F : Nat) (i e : Int) (ds : Rlps) (j : Int), 0 ≤ i → i ≤ ks.length → rdMany ks F i e = some (ds, j) →
    i ≤ j ∧ j ≤ ks.length ∧ (ks.drop i.toNat).take (j - i).toNat = encs ds ∧ (deps ds : Int) ≤ j - i
  | 0, i, e, ds, j, h0, hi, h => by rw [rdMany] at h; cases h
  | F + 1, i, e, ds, j, h0, hi, h => by
    rw [rdMany] at h
    split at h
    · cases ha : rdItem ks F i with
      | none => rw [ha] at h; cases h
      | some p =>
        obtain ⟨d, j1⟩ := p
        rw [ha] at h
        dsimp only at h
        cases hb : rdMany ks F j1 e with
        | none => rw [hb] at h; cases h
        | some q =>
          obtain ⟨ds', j2⟩ := q
          rw [hb] at h
          simp only [Option.some.injEq, Prod.mk.injEq] at h
          obtain ⟨rfl, rfl⟩ := h
          obtain ⟨a1, a2, a3, a4⟩ := enc_rd hks hlen F i d j1 h0 ha
          obtain ⟨b1, b2, b3, b4⟩ := encs_rd hks hlen F j1 e ds' j2 (Int.le_trans h0 (Int.le_of_lt a1)) a2 hb
          refine ⟨Int.le_trans (Int.le_of_lt a1) b1, b2, ?_, by rw [deps]; lia⟩
          rw [tn_split (Int.le_of_lt a1) b1, List.take_add, a3, List.drop_drop, tn_mid h0 (Int.le_of_lt a1), b3, encs]
    · simp only [Option.some.injEq, Prod.mk.injEq] at h
      obtain ⟨rfl, rfl⟩ := h
      refine ⟨by lia, hi, ?_, by rw [deps]; lia⟩
      rw [encs]; simp
end
theorem enc_of_rd {ks : List Int} (hks : ∀ k ∈ ks, 0 ≤ k ∧ k < 256) (hlen : ks.length < 65536) {d : Rlp} (h : rd ks = some d) : enc d = ks ∧ dep d ≤ ks.length := by
  unfold rd at h
  cases e : rdItem ks (2 * ks.length + 3) 0 with
  | none => rw [e] at h; cases h
  | some p =>
    obtain ⟨d', j⟩ := p
    rw [e] at h
    dsimp only at h
    split at h
    · rename_i hj
      cases h
      obtain ⟨a1, a2, a3, a4⟩ := enc_rd hks hlen _ 0 d j (by lia) e
      subst hj
      refine ⟨?_, by lia⟩
      rw [← a3]; simp
    · cases h
end Mine
end
section
open PySem PySem.W
namespace Mine
/-! the heads of kind 6 -/
noncomputable def sizeH (a : Nat) : Nat := [55, 56, 60, 256].getD a 0
noncomputable def lenH (b : Nat) : List Int := [[56], [60], [0, 56], [1, 0], [0, 60], [55], [1, 0, 0]].getD b []
noncomputable def headH (b : Nat) (w : Bool) (h : Nat) : Int := ([183, 247] : List Int).getD h 0 + (if w then ((lenH b).length : Int) else 1)
noncomputable def bodyH (a : Nat) : List Int := (List.range (sizeH a)).map fun k => ((k % 128 : Nat) : Int)
noncomputable def octH (a b : Nat) (w : Bool) (h : Nat) : List Int := headH b w h :: lenH b ++ bodyH a
/-- does the head stand -/
noncomputable def standsH (a b : Nat) (w : Bool) (h : Nat) : Bool :=
  (headH b w h == 183 + (lenH b).length || headH b w h == 247 + (lenH b).length) && decide (55 < sizeH a) && lenH b == (match a with | 1 => [56] | 2 => [60] | _ => [1, 0])
noncomputable def ones : List Int → Rlps
  | [] => .nil
  | k :: r => .cons (.str [k]) (ones r)
noncomputable def bodyD (a b : Nat) (w : Bool) (h : Nat) : Rlp := if 191 < headH b w h then .list (ones (bodyH a)) else .str (bodyH a)
noncomputable def checkH (a b : Nat) (w : Bool) (h : Nat) : Bool := if standsH a b w h then enc (bodyD a b w h) == octH a b w h else (rd (octH a b w h)).isNone
theorem checkH_all : ([0, 1, 2, 3].all fun a => [0, 1, 2, 3, 4, 5, 6].all fun b => [true, false].all fun w => [0, 1].all fun h => checkH a b w h) = true := by kernel_rfl
theorem rd_head {a b h : Nat} {w : Bool} (ha : a < 4) (hb : b < 7) (hh : h < 2) : rd (octH a b w h) = if standsH a b w h then some (bodyD a b w h) else none := by
  have z := checkH_all
  rw [List.all_eq_true] at z
  have z1 := z a (by simp; lia)
  rw [List.all_eq_true] at z1
  have z2 := z1 b (by simp; lia)
  rw [List.all_eq_true] at z2
  have z3 := z2 w (by cases w <;> simp)
  rw [List.all_eq_true] at z3
  have z4 := z3 h (by simp; lia)
  unfold checkH at z4
  split at z4
  · rename_i hs
    rw [if_pos hs]
    have e : enc (bodyD a b w h) = octH a b w h := eq_of_beq z4
    rw [← e]
    refine rd_of_enc _ ?_
    rw [e]
    have : (octH a b w h).length = 1 + (lenH b).length + sizeH a := by simp [octH, bodyH]; lia
    rw [this]
    have h1 : (lenH b).length ≤ 3 := (by decide : ∀ b < 7, (lenH b).length ≤ 3) b hb
    have h2 : sizeH a ≤ 256 := (by decide : ∀ a < 4, sizeH a ≤ 256) a ha
    lia
  · rename_i hs
    rw [if_neg hs]
    simpa using z4
end Mine
end
section
open PySem PySem.W PySem.Calls PyProof.Rows
namespace Mine
theorem cut8 {ks : List Int} {a c : Int} (h0 : 0 ≤ a) (h1 : a ≤ c) (h2 : c - a ≤ 8) : (List.take (clipAt ks.length c - clipAt ks.length a) (List.drop (clipAt ks.length a) ks)).length ≤ 8 := by
  have := cut_len (ks := ks) h0 h1; lia
section
variable {ks : List Int} {st : Int} {p : Array UInt8}
/-- the digits as the trie's reader cuts them -/
noncomputable abbrev dgN (ks : List Int) (st o : Int) : List Int := List.take (clipAt ks.length (st + 1 + (ks.getD st.toNat 0 - o) - 55) - clipAt ks.length (st + 1)) (List.drop (clipAt ks.length (st + 1)) ks)
theorem nz {dg : List Int} {c : Bool} (hk : KBw.bInts p = List.take (clipAt dg.length 1) dg) (hz : (p.toList == #[0].toList) = c) : (dg.take 1 = [0]) ↔ c = true := by
  have e : List.take (clipAt dg.length 1) dg = dg.take 1 := by
    rw [clip_pos (by decide)]
    show List.take (min 1 dg.length) dg = _
    by_cases q : dg.length = 0
    · have : dg = [] := List.length_eq_zero_iff.mp q
      subst this; rfl
    · rw [Nat.min_eq_left (by lia)]
  rw [e] at hk
  rw [← hz, zero_iff hk]
  simp
theorem hdN {o : Int} {l : Bool} (h0 : 0 ≤ st) (h1 : st < (ks.length : Int)) (hl : (l = false ∧ o = 128 ∧ 184 ≤ ks.getD st.toNat 0 ∧ ks.getD st.toNat 0 < 192) ∨ (l = true ∧ o = 192 ∧ 248 ≤ ks.getD st.toNat 0)) :
    hd ks st = if (dgN ks st o).take 1 = [0] then none else if KFB.value (dgN ks st o) < 56 then none else some (l, KFB.value (dgN ks st o), st + 1 + (ks.getD st.toNat 0 - o) - 55) := by
  have e : dgN ks st o = (ks.drop (st + 1).toNat).take (ks.getD st.toNat 0 - o - 55).toNat := by
    show List.take _ _ = _
    rw [cut_eq (by lia) (by lia), show (st + 1 + (ks.getD st.toNat 0 - o) - 55 - (st + 1)) = ks.getD st.toNat 0 - o - 55 by lia]
  rw [e]
  unfold hd hdLong
  rw [if_neg (by lia), if_neg (by lia), if_neg (by lia)]
  rcases hl with ⟨rfl, rfl, g1, g2⟩ | ⟨rfl, rfl, g1⟩
  · rw [if_pos (by lia), show ks.getD st.toNat 0 - 128 - 55 = ks.getD st.toNat 0 - 183 by lia, show st + 1 + (ks.getD st.toNat 0 - 128) - 55 = st + 1 + (ks.getD st.toNat 0 - 183) by lia]
  · rw [if_neg (by lia), if_neg (by lia), show ks.getD st.toNat 0 - 192 - 55 = ks.getD st.toNat 0 - 247 by lia, show st + 1 + (ks.getD st.toNat 0 - 192) - 55 = st + 1 + (ks.getD st.toNat 0 - 247) by lia]
theorem hdN_zero {o : Int} {l : Bool} (h0 : 0 ≤ st) (h1 : st < (ks.length : Int)) (hl : (l = false ∧ o = 128 ∧ 184 ≤ ks.getD st.toNat 0 ∧ ks.getD st.toNat 0 < 192) ∨ (l = true ∧ o = 192 ∧ 248 ≤ ks.getD st.toNat 0))
    (hk : KBw.bInts p = List.take (clipAt (dgN ks st o).length 1) (dgN ks st o)) (hz : (p.toList == #[0].toList) = true) : hd ks st = none := by
  rw [hdN h0 h1 hl, if_pos ((nz hk hz).mpr rfl)]
theorem hdN_small {o : Int} {l : Bool} (h0 : 0 ≤ st) (h1 : st < (ks.length : Int)) (hl : (l = false ∧ o = 128 ∧ 184 ≤ ks.getD st.toNat 0 ∧ ks.getD st.toNat 0 < 192) ∨ (l = true ∧ o = 192 ∧ 248 ≤ ks.getD st.toNat 0))
    (hv : KFB.value (dgN ks st o) < 56) : hd ks st = none := by
  rw [hdN h0 h1 hl, if_pos hv]
  split <;> rfl
theorem hdN_some {o : Int} {l : Bool} (h0 : 0 ≤ st) (h1 : st < (ks.length : Int)) (hl : (l = false ∧ o = 128 ∧ 184 ≤ ks.getD st.toNat 0 ∧ ks.getD st.toNat 0 < 192) ∨ (l = true ∧ o = 192 ∧ 248 ≤ ks.getD st.toNat 0))
    (hk : KBw.bInts p = List.take (clipAt (dgN ks st o).length 1) (dgN ks st o)) (hz : (p.toList == #[0].toList) = false) (hv : ¬ KFB.value (dgN ks st o) < 56) :
    hd ks st = some (l, KFB.value (dgN ks st o), st + 1 + (ks.getD st.toNat 0 - o) - 55) := by
  rw [hdN h0 h1 hl, if_neg (fun g => Bool.false_ne_true ((nz hk hz).mp g)), if_neg hv]
theorem rdItem_none {F : Nat} (h : hd ks st = none) : rdItem ks F st = none := by
  cases F with
  | zero => rfl
  | succ F => rw [rdItem_eq, h]
theorem fin_str {F : Nat} {n s0 : Int} (hF : 1 ≤ F) (hhd : hd ks st = some (false, n, s0)) (h0 : 0 ≤ s0) (hn : 0 ≤ n)
    (hk : KBw.bInts p = List.take (clipAt ks.length (s0 + n) - clipAt ks.length s0) (List.drop (clipAt ks.length s0) ks)) :
    KBw.bInts p = (ks.drop s0.toNat).take n.toNat ∧ (s0 + n ≤ ks.length → rdItem ks F st = some (.str ((ks.drop s0.toNat).take n.toNat), s0 + n)) ∧ (ks.length < s0 + n → rdItem ks F st = none) := by
  obtain ⟨F', rfl⟩ : ∃ F', F = F' + 1 := ⟨F - 1, by lia⟩
  refine ⟨?_, fun g => ?_, fun g => ?_⟩
  · rw [hk, cut_eq h0 (by lia), show (s0 + n - s0) = n by lia]
  · rw [rdItem_eq, hhd]; exact if_pos g
  · rw [rdItem_eq, hhd]; exact if_neg (by lia)
theorem value_nn {xs : List Int} (h : ∀ k ∈ xs, 0 ≤ k ∧ k < 256) : 0 ≤ KFB.value xs := by
  have : ∀ (xs : List Int), (∀ k ∈ xs, 0 ≤ k ∧ k < 256) → ∀ a : Int, 0 ≤ a → 0 ≤ xs.foldl (fun a k => a * 256 + k) a := by
    intro xs
    induction xs with
    | nil => intro _ a ha; exact ha
    | cons k r ih => intro hr a ha; rw [List.foldl_cons]; exact ih (fun j hj => hr j (List.mem_cons_of_mem _ hj)) _ (by have := (hr k (List.mem_cons_self ..)).1; lia)
  exact this xs h 0 (by decide)
theorem n129n {k n : Nat} (h : k < n) : ((min (min (k + 2) n - min (k + 1) n) (n - min (k + 1) n) : Nat) : Int) = 1 ↔ k + 1 < n := by
  rw [Nat.min_eq_left h]
  rcases Nat.lt_or_ge (k + 1) n with q | q
  · rw [Nat.min_eq_left q, Nat.add_sub_add_left k 2 1, Nat.min_eq_left (Nat.sub_pos_of_lt q)]
    exact ⟨fun _ => q, fun _ => rfl⟩
  · rw [Nat.sub_eq_zero_of_le q, Nat.min_zero]
    exact ⟨fun z => absurd z (by decide), fun z => absurd z (Nat.not_lt.mpr q)⟩
theorem n129a (h0 : 0 ≤ st) (h1 : st < (ks.length : Int)) (hg : ks.getD st.toNat 0 = 129) {c : Prop} [Decidable c] (hc : c ↔ ((min (clipAt ks.length (st + 1 + (ks.getD st.toNat 0 - 128)) - clipAt ks.length (st + 1)) (ks.length - clipAt ks.length (st + 1)) : Nat) : Int) = 1) : c ↔ st + 1 < ks.length := by
  rw [hc, hg]
  obtain ⟨k, rfl⟩ := Int.eq_ofNat_of_zero_le h0
  rw [show clipAt ks.length ((k : Int) + 1) = min (k + 1) ks.length from clip_nat _ (k + 1), show clipAt ks.length ((k : Int) + 1 + (129 - 128)) = min (k + 2) ks.length from clip_nat _ (k + 2)]
  exact (n129n (Int.ofNat_lt.mp h1)).trans Int.ofNat_lt.symm
theorem n129b (h0 : 0 ≤ st) (hg : ks.getD st.toNat 0 = 129) : (List.take (clipAt ks.length (st + 1 + (ks.getD st.toNat 0 - 128)) - clipAt ks.length (st + 1)) (List.drop (clipAt ks.length (st + 1)) ks)).getD (Int.toNat 0) 0 = ks.getD (st + 1).toNat 0 := by
  rw [cut_eq (by lia) (by lia), hg, show (st + 1 + (129 - 128) - (st + 1)).toNat = 1 by lia]
  show List.getD _ 0 0 = _
  simp [List.getD_eq_getElem?_getD, List.getElem?_take, List.getElem?_drop]
theorem hd129_no (h0 : 0 ≤ st) (h1 : st < (ks.length : Int)) (hg : ks.getD st.toNat 0 = 129)
    (hb : (List.take (clipAt ks.length (st + 1 + (ks.getD st.toNat 0 - 128)) - clipAt ks.length (st + 1)) (List.drop (clipAt ks.length (st + 1)) ks)).getD (Int.toNat 0) 0 < 128) : hd ks st = none := by
  rw [n129b h0 hg] at hb
  unfold hd
  rw [if_neg (by lia), if_neg (by lia), if_pos (by lia), if_pos ⟨hg, .inr hb⟩]
theorem hd129_off (h0 : 0 ≤ st) (h1 : st < (ks.length : Int)) (hg : ks.getD st.toNat 0 = 129)
    (hc : ((min (clipAt ks.length (st + 1 + (ks.getD st.toNat 0 - 128)) - clipAt ks.length (st + 1)) (ks.length - clipAt ks.length (st + 1)) : Nat) : Int) ≠ 1) : hd ks st = none ∧ (ks.length : Int) ≤ st + 1 := by
  have z := n129a h0 h1 hg (Iff.rfl (a := ((min (clipAt ks.length (st + 1 + (ks.getD st.toNat 0 - 128)) - clipAt ks.length (st + 1)) (ks.length - clipAt ks.length (st + 1)) : Nat) : Int) = 1))
  have y : (ks.length : Int) ≤ st + 1 := by
    have := fun q => hc (z.mpr q); lia
  refine ⟨?_, y⟩
  unfold hd
  rw [if_neg (by lia), if_neg (by lia), if_pos (by lia), if_pos ⟨hg, .inl y⟩]
theorem hd129_yes (h0 : 0 ≤ st) (h1 : st < (ks.length : Int)) (hg : ks.getD st.toNat 0 = 129)
    (hc : ((min (clipAt ks.length (st + 1 + (ks.getD st.toNat 0 - 128)) - clipAt ks.length (st + 1)) (ks.length - clipAt ks.length (st + 1)) : Nat) : Int) = 1)
    (hb : ¬ (List.take (clipAt ks.length (st + 1 + (ks.getD st.toNat 0 - 128)) - clipAt ks.length (st + 1)) (List.drop (clipAt ks.length (st + 1)) ks)).getD (Int.toNat 0) 0 < 128) : hd ks st = some (false, ks.getD st.toNat 0 - 128, st + 1) := by
  rw [n129b h0 hg] at hb
  have z := (n129a h0 h1 hg (Iff.rfl (a := ((min (clipAt ks.length (st + 1 + (ks.getD st.toNat 0 - 128)) - clipAt ks.length (st + 1)) (ks.length - clipAt ks.length (st + 1)) : Nat) : Int) = 1))).mp hc
  unfold hd
  rw [if_neg (by lia), if_neg (by lia), if_pos (by lia), if_neg (by rintro ⟨_, q | q⟩ <;> lia)]
theorem hd_short (h0 : 0 ≤ st) (h1 : st < (ks.length : Int)) (h2 : 128 ≤ ks.getD st.toNat 0) (h3 : ks.getD st.toNat 0 < 184) (hg : ks.getD st.toNat 0 ≠ 129) : hd ks st = some (false, ks.getD st.toNat 0 - 128, st + 1) := by
  unfold hd
  rw [if_neg (by lia), if_neg (by lia), if_pos (by lia), if_neg (by rintro ⟨q, _⟩; exact hg q)]
theorem hd_plain (h0 : 0 ≤ st) (h1 : st < (ks.length : Int)) (h2 : ks.getD st.toNat 0 < 128) : hd ks st = some (false, 1, st) := by
  unfold hd
  rw [if_neg (by lia), if_pos h2]
theorem hd_list (h0 : 0 ≤ st) (h1 : st < (ks.length : Int)) (h2 : 192 ≤ ks.getD st.toNat 0) (h3 : ks.getD st.toNat 0 < 248) : hd ks st = some (true, ks.getD st.toNat 0 - 192, st + 1) := by
  unfold hd
  rw [if_neg (by lia), if_neg (by lia), if_neg (by lia), if_neg (by lia), if_pos h3]
theorem ret1 {h₀ h' : Heap} {L D : Addr} {m : Str → Option Value} {news rest : List (Addr × Obj)} {o : Obj} (FN : Fr h₀ L h' m) (NN : News h₀ L h' ((D, o) :: rest)) (hs : ∀ p ∈ news, p ∈ rest) (hl : ∀ p ∈ news, p.1 < D) : Bk h₀ L m news [(D, o)] h' := by
  refine ⟨FN, kst_newsOf NN ?_, ?_⟩
  · intro p hp
    rcases List.mem_cons.mp hp with rfl | hp
    · exact .head _
    · exact .tail _ (hs p hp)
  · intro q hq p hp
    rcases List.mem_cons.mp hp with rfl | hp
    · exact hl q hq
    · nomatch hp
end
/-- the loop of _rlp_item, between two turns -/
noncomputable def NJ (ks : List Int) (b : Array UInt8) (F : Nat) (s0 e : Int) (aI : Addr) (te tb : Tok) (news : List (Addr × Obj)) (k : Nat) (m : Str → Option Value) (nx : List (Addr × Obj)) : Prop :=
  ∃ (nxt : Int) (tn : Tok) (ds : Rlps) (vsI : List Value) (nI : Nat) (tl : List (Addr × Obj)),
    nx = (aI, listOf vsI.toArray nI) :: (tl ++ news) ∧ k = (e - nxt).toNat ∧
    (∀ p ∈ [(Str.ofString "octets", Value.bytes b tb), (Str.ofString "items", .ref aI), (Str.ofString "start", .int nxt tn), (Str.ofString "end", .int e te)], m p.1 = some p.2) ∧
    (∀ p ∈ tl ++ news, p.1 ≠ aI) ∧ (∀ q ∈ news, ∀ p ∈ tl, q.1 < p.1) ∧ (∀ q ∈ news, q.1 < aI) ∧ RlpsIn tl vsI ds ∧ vsI.length ≤ 304 ∧ (vsI.length : Int) ≤ nxt - s0 ∧ s0 ≤ nxt ∧
    (nxt ≤ ks.length → ∃ Fk : Nat, 2 * ((ks.length : Int) + 1 - nxt) ≤ Fk ∧ Fk ≤ F ∧ rdMany ks F s0 e = (rdMany ks Fk nxt e).map (fun p => (ds.app p.1, p.2))) ∧ ((ks.length : Int) < nxt → rdMany ks F s0 e = none)
theorem fin_list_ok {ks : List Int} {st n s0 j : Int} {F : Nat} {ds : Rlps} (hF : 1 ≤ F) (hhd : hd ks st = some (true, n, s0)) (hm : rdMany ks (F - 1) s0 (s0 + n) = some (ds, j)) (hj : j = s0 + n) : rdItem ks F st = some (.list ds, s0 + n) := by
  obtain ⟨F', rfl⟩ : ∃ F', F = F' + 1 := ⟨F - 1, by lia⟩
  rw [rdItem_eq, hhd]
  show (match rdMany ks F' s0 (s0 + n) with | none => none | some (ds, j) => if j = s0 + n then some (Rlp.list ds, j) else none) = _
  rw [show rdMany ks F' s0 (s0 + n) = some (ds, j) from hm, hj]
  exact if_pos rfl
theorem fin_list_no {ks : List Int} {st n s0 : Int} {F : Nat} (hhd : hd ks st = some (true, n, s0)) (hm : rdMany ks (F - 1) s0 (s0 + n) = none) : rdItem ks F st = none := by
  cases F with
  | zero => rfl
  | succ F' =>
    rw [rdItem_eq, hhd]
    show (match rdMany ks F' s0 (s0 + n) with | none => none | some (ds, j) => if j = s0 + n then some (Rlp.list ds, j) else none) = _
    rw [show rdMany ks F' s0 (s0 + n) = none from hm]
theorem fin_list_over {ks : List Int} {st n s0 j : Int} {F : Nat} {ds : Rlps} (hhd : hd ks st = some (true, n, s0)) (hm : rdMany ks (F - 1) s0 (s0 + n) = some (ds, j)) (hj : j ≠ s0 + n) : rdItem ks F st = none := by
  cases F with
  | zero => rfl
  | succ F' =>
    rw [rdItem_eq, hhd]
    show (match rdMany ks F' s0 (s0 + n) with | none => none | some (ds, j) => if j = s0 + n then some (Rlp.list ds, j) else none) = _
    rw [show rdMany ks F' s0 (s0 + n) = some (ds, j) from hm]
    exact if_neg hj
theorem news_turn {g h : Heap} {L D : Addr} {o : Obj} {tl2 tl nw : List (Addr × Obj)} {X : Addr × Obj} (hD : (D, o) ∈ tl2) (N : News g L h (tl2 ++ (X :: (tl ++ nw)))) : News g L h ((D, o) :: X :: ((tl2 ++ tl) ++ nw)) := kst_newsOf N (by
  intro z hz
  simp only [List.mem_append, List.mem_cons] at hz ⊢
  rcases hz with rfl | rfl | (hz | hz) | hz
  · exact .inl hD
  · exact .inr (.inl rfl)
  · exact .inl hz
  · exact .inr (.inr (.inl hz))
  · exact .inr (.inr (.inr hz)))
theorem apart_turn {tl2 tl nw : List (Addr × Obj)} {X : Addr × Obj} (oo : ∀ q ∈ X :: (tl ++ nw), ∀ p ∈ tl2, q.1 < p.1) (ha : ∀ p ∈ tl ++ nw, p.1 ≠ X.1) : ∀ p ∈ (tl2 ++ tl) ++ nw, p.1 ≠ X.1 := by
  intro z hz
  simp only [List.mem_append] at hz
  rcases hz with (hz | hz) | hz
  · exact Nat.ne_of_gt (oo _ (.head _) z hz)
  · exact ha z (List.mem_append_left _ hz)
  · exact ha z (List.mem_append_right _ hz)
theorem order_turn {tl2 tl nw : List (Addr × Obj)} {X : Addr × Obj} (oo : ∀ q ∈ X :: (tl ++ nw), ∀ p ∈ tl2, q.1 < p.1) (ho : ∀ q ∈ nw, ∀ p ∈ tl, q.1 < p.1) : ∀ q ∈ nw, ∀ p ∈ tl2 ++ tl, q.1 < p.1 := by
  intro z hz y hy
  rcases List.mem_append.mp hy with hy | hy
  · exact oo z (.tail _ (List.mem_append_right _ hz)) y hy
  · exact ho z hz y hy
theorem ret2 {h₀ h' : Heap} {L D : Addr} {m : Str → Option Value} {news tl nw : List (Addr × Obj)} {o : Obj} {X : Addr × Obj} (FN : Fr h₀ L h' m) (NN : News h₀ L h' ((D, o) :: X :: (tl ++ nw))) (hs : ∀ p ∈ news, p ∈ nw) (hD : ∀ p ∈ nw, p.1 < D) (hX : ∀ p ∈ nw, p.1 < X.1) (ho : ∀ q ∈ nw, ∀ p ∈ tl, q.1 < p.1) : Bk h₀ L m news ((D, o) :: X :: tl) h' := by
  refine ⟨FN, kst_newsOf NN ?_, ?_⟩
  · intro p hp
    simp only [List.mem_append, List.mem_cons] at hp ⊢
    rcases hp with (rfl | rfl | hp) | hp
    · exact .inl rfl
    · exact .inr (.inl rfl)
    · exact .inr (.inr (.inl hp))
    · exact .inr (.inr (.inr (hs p hp)))
  · intro q hq p hp
    have hq' := hs q hq
    rcases List.mem_cons.mp hp with rfl | hp
    · exact hD q hq'
    rcases List.mem_cons.mp hp with rfl | hp
    · exact hX q hq'
    · exact ho q hq' p hp
theorem my4 {α : Type} {P : α → Prop} {a b c d : α} (h1 : P a) (h2 : P b) (h3 : P c) (h4 : P d) : ∀ p ∈ [a, b, c, d], P p := by
  intro p hp
  simp only [List.mem_cons, List.not_mem_nil, or_false] at hp
  rcases hp with rfl | rfl | rfl | rfl <;> assumption
theorem nloop {prog : Program} {w : World} {A : Around} {E : Value → Shared → Prop} {Q : Flow → Shared → Prop} {s : Shared} {env : Env} {g : Heap} {L aI : Addr} {m : Str → Option Value} {news : List (Addr × Obj)} {test : PySem.Expr} {body : List Stmt} {pos : Pos}
    (ks : List Int) {b : Array UInt8} (F : Nat) {s0 e : Int} {te tb tn : Tok} (Fr0 : Fr g L s.heap m) (N0 : News g L s.heap ((aI, listOf #[] 0) :: news)) (hn : ∀ q ∈ news, q.1 < aI)
    (m1 : m (Str.ofString "octets") = some (.bytes b tb)) (m2 : m (Str.ofString "items") = some (.ref aI)) (m3 : m (Str.ofString "start") = some (.int s0 tn)) (m4 : m (Str.ofString "end") = some (.int e te))
    (hF : 2 * ((ks.length : Int) + 1 - s0) ≤ F) (hs : s0 ≤ ks.length ∨ s0 < e)
    (turn : ∀ n m₁ news₁ h₁ tk₁, Fr g L h₁ m₁ → News g L h₁ news₁ → NJ ks b F s0 e aI te tb news n m₁ news₁ →
      wpAny (model prog w) A (isTrue test env (eval test env)) (fun b' s₂ =>
        if b' = true then wpAny (model prog w) A (execs body env) (WhileStep2 g L s (NJ ks b F s0 e aI te tb news) Q n) E s₂ else Q .next s₂) E { s with heap := h₁, toks := tk₁ })
    (hE : PassesOwn (model prog w) A env E := by passes_own) :
    wpAny (model prog w) A (exec (.While test body [] pos) env) Q E s := by
  refine While_inv2 (NJ ks b F s0 e aI te tb news) (n₀ := (e - s0).toNat) Fr0 N0 ?_ turn hE
  exact ⟨s0, tn, .nil, [], 0, [], rfl, rfl, my4 m1 m2 m3 m4, fun p hp => Nat.ne_of_lt (hn p hp), (fun _ _ _ hp => nomatch hp), hn, .nil, Nat.zero_le _, by simp, Int.le_refl _,
    fun _ => ⟨F, hF, Nat.le_refl _, by cases rdMany ks F s0 e <;> rfl⟩, fun q => rdMany_off (by lia) (by lia) F⟩
end Mine
end
section
open PySem PySem.W PySem.Calls PyProof.Rows PySem.Spec
namespace Mine
local macro_rules | `(tactic| walk_at "call ref") => `(tactic| refine Stop.go ?_)
theorem pad6 {prog : PySem.Program} {w : PySem.World} {A : PySem.Around} {E : PySem.Value → PySem.Shared → Prop} {s : PySem.Shared} {env : PySem.Env} {Q : PySem.Flow → PySem.Shared → Prop} (h : Q .next s) : PySem.wpAny (PySem.model prog w) A (PySem.execs [] env) Q E s := by
  walk1
  exact h
section
open PySem PySem.W PySem.Calls PyProof.Rows
theorem sz_td {ks : List Int} (h : ks.length ≤ 304) (a b c d : Nat) : (List.take b (List.drop a ks)).length + (List.take d (List.drop c ks)).length ≤ 16777216 := by
  have h1 : ∀ a b, (List.take b (List.drop a ks)).length ≤ ks.length := fun a b => by
    rw [List.length_take, List.length_drop]; exact Nat.le_trans (Nat.min_le_right _ _) (Nat.sub_le _ _)
  exact Nat.le_trans (Nat.add_le_add (Nat.le_trans (h1 a b) h) (Nat.le_trans (h1 c d) h)) (by decide)
local macro_rules | `(tactic| walk_at "binaryOp Add bytes bytes") => `(tactic| refine Stop.go ?_)
local macro_rules | `(tactic| walk_at "exec Raise some none") => `(tactic| refine Stop.go ?_)
local macro_rules | `(tactic| walk_at "subscriptTail") => `(tactic| refine item_outB rfl (by assumption) (by omega) (Stop.go ?_))
/-- the tuple that a head is told by -/
noncomputable abbrev tup4 (p : Array UInt8) (l : Bool) (n st : Int) (t1 t2 t3 t4 : Tok) : Obj := { cls := .type "tuple", data := .seq #[.bytes p t1, .str (cond l (Str.ofString "list") (Str.ofString "bytes")) t2, .int n t3, .int st t4] }
namespace c_clpE
noncomputable def P (w : World) (loose : List Str) (mean : ExcName → Option Value) (mg : Str → Option Value) (mb : Str → Option Value) (dp : Nat) (un : Nat) (gd : Option (List Code)) (env : Env) (outer : List Env) (A₀ : Around) (base : Heap) (h₀ : Heap) (L : Addr) (m : Str → Option Value) (news : List (Addr × Obj)) (s : Shared) (Q : Value → Shared → Prop) (E : Value → Shared → Prop) (b : Array UInt8) (ks : List Int) (start : Int) (t1 : Tok) (t2 : Tok) : Prop := ∀ (C : Cx w loose mean mg mb env outer A₀ base h₀ L m news s.heap) (hroom : dp + 12 < recursionLimit) (hun : un + 100 < cLine) (hb : KBw.bInts b = ks) (h0 : 0 ≤ start) (hlen : ks.length ≤ 304) (hret : ∀ D p l n st t1 t2 t3 t4 h' tk', hd ks start = some (l, n, st) → ((KBw.bInts p).length : Int) ≤ min st ks.length - start → Fr h₀ L h' m → News h₀ L h' ((D, tup4 p l n st t1 t2 t3 t4) :: news) → (∀ q ∈ news, q.1 < D) → Q (.ref D) { s with heap := h', toks := tk' }) (hraise : hd ks start = none → ∀ g h' e tk', Fr h₀ L g m → Rz base g (env :: outer) e h' → g.UpToSlots h' → E (.ref e) { s with heap := h', toks := tk' }), wpAny (model PySem.Challenge.rw_jm0023_01.prog w) (kT dp un gd env outer) (call (.ref 1406) [.bytes b t1, .int start t2]) Q E s
noncomputable def cc : World × (List Str) × (ExcName → Option Value) × (Str → Option Value) × (Str → Option Value) × Nat × Nat × (Option (List Code)) × Env × (List Env) × Around × Heap × Heap × Addr × (Str → Option Value) × (List (Addr × Obj)) × Shared × (Value → Shared → Prop) × (Value → Shared → Prop) × (Array UInt8) × (List Int) × Int × Tok × Tok := @Classical.epsilon (World × (List Str) × (ExcName → Option Value) × (Str → Option Value) × (Str → Option Value) × Nat × Nat × (Option (List Code)) × Env × (List Env) × Around × Heap × Heap × Addr × (Str → Option Value) × (List (Addr × Obj)) × Shared × (Value → Shared → Prop) × (Value → Shared → Prop) × (Array UInt8) × (List Int) × Int × Tok × Tok) ⟨(⟨fun _ _ => 0, { strHash := fun _ => 0, shareClass := fun _ => 0, mergeTok := fun t => t, idOf := fun _ => 0, idOfShared := fun _ _ => 0, followText := fun _ => false, idOfImm := fun _ => 0 }⟩, [], (fun _ => none), (fun _ => none), (fun _ => none), 0, 0, none, default, [], {}, {}, {}, (0 : Nat), (fun _ => none), [], {}, (fun _ _ => True), (fun _ _ => True), #[], [], 0, (0 : Nat), (0 : Nat))⟩ fun p => ¬ P p.1 p.2.1 p.2.2.1 p.2.2.2.1 p.2.2.2.2.1 p.2.2.2.2.2.1 p.2.2.2.2.2.2.1 p.2.2.2.2.2.2.2.1 p.2.2.2.2.2.2.2.2.1 p.2.2.2.2.2.2.2.2.2.1 p.2.2.2.2.2.2.2.2.2.2.1 p.2.2.2.2.2.2.2.2.2.2.2.1 p.2.2.2.2.2.2.2.2.2.2.2.2.1 p.2.2.2.2.2.2.2.2.2.2.2.2.2.1 p.2.2.2.2.2.2.2.2.2.2.2.2.2.2.1 p.2.2.2.2.2.2.2.2.2.2.2.2.2.2.2.1 p.2.2.2.2.2.2.2.2.2.2.2.2.2.2.2.2.1 p.2.2.2.2.2.2.2.2.2.2.2.2.2.2.2.2.2.1 p.2.2.2.2.2.2.2.2.2.2.2.2.2.2.2.2.2.2.1 p.2.2.2.2.2.2.2.2.2.2.2.2.2.2.2.2.2.2.2.1 p.2.2.2.2.2.2.2.2.2.2.2.2.2.2.2.2.2.2.2.2.1 p.2.2.2.2.2.2.2.2.2.2.2.2.2.2.2.2.2.2.2.2.2.1 p.2.2.2.2.2.2.2.2.2.2.2.2.2.2.2.2.2.2.2.2.2.2.1 p.2.2.2.2.2.2.2.2.2.2.2.2.2.2.2.2.2.2.2.2.2.2.2
@[irreducible] noncomputable def w : World := cc.1
@[irreducible] noncomputable def loose : List Str := cc.2.1
@[irreducible] noncomputable def mean : ExcName → Option Value := cc.2.2.1
@[irreducible] noncomputable def mg : Str → Option Value := cc.2.2.2.1
@[irreducible] noncomputable def mb : Str → Option Value := cc.2.2.2.2.1
@[irreducible] noncomputable def dp : Nat := cc.2.2.2.2.2.1
@[irreducible] noncomputable def un : Nat := cc.2.2.2.2.2.2.1
@[irreducible] noncomputable def gd : Option (List Code) := cc.2.2.2.2.2.2.2.1
@[irreducible] noncomputable def env : Env := cc.2.2.2.2.2.2.2.2.1
@[irreducible] noncomputable def outer : List Env := cc.2.2.2.2.2.2.2.2.2.1
@[irreducible] noncomputable def A₀ : Around := cc.2.2.2.2.2.2.2.2.2.2.1
@[irreducible] noncomputable def base : Heap := cc.2.2.2.2.2.2.2.2.2.2.2.1
@[irreducible] noncomputable def h₀ : Heap := cc.2.2.2.2.2.2.2.2.2.2.2.2.1
@[irreducible] noncomputable def L : Addr := cc.2.2.2.2.2.2.2.2.2.2.2.2.2.1
@[irreducible] noncomputable def m : Str → Option Value := cc.2.2.2.2.2.2.2.2.2.2.2.2.2.2.1
@[irreducible] noncomputable def news : List (Addr × Obj) := cc.2.2.2.2.2.2.2.2.2.2.2.2.2.2.2.1
@[irreducible] noncomputable def s : Shared := cc.2.2.2.2.2.2.2.2.2.2.2.2.2.2.2.2.1
@[irreducible] noncomputable def Q : Value → Shared → Prop := cc.2.2.2.2.2.2.2.2.2.2.2.2.2.2.2.2.2.1
@[irreducible] noncomputable def E : Value → Shared → Prop := cc.2.2.2.2.2.2.2.2.2.2.2.2.2.2.2.2.2.2.1
@[irreducible] noncomputable def b : Array UInt8 := cc.2.2.2.2.2.2.2.2.2.2.2.2.2.2.2.2.2.2.2.1
@[irreducible] noncomputable def ks : List Int := cc.2.2.2.2.2.2.2.2.2.2.2.2.2.2.2.2.2.2.2.2.1
@[irreducible] noncomputable def start : Int := cc.2.2.2.2.2.2.2.2.2.2.2.2.2.2.2.2.2.2.2.2.2.1
@[irreducible] noncomputable def t1 : Tok := cc.2.2.2.2.2.2.2.2.2.2.2.2.2.2.2.2.2.2.2.2.2.2.1
@[irreducible] noncomputable def t2 : Tok := cc.2.2.2.2.2.2.2.2.2.2.2.2.2.2.2.2.2.2.2.2.2.2.2
set_option maxHeartbeats 4000000 in
theorem main : P w loose mean mg mb dp un gd env outer A₀ base h₀ L m news s Q E b ks start t1 t2 := by
  intro C hroom hun hb h0 hlen hret hraise
  obtain ⟨B, F, X, N, T, hf, hk⟩ := C
  revert X; k_fill; intro X
  refine wpAny_call ?_
  have hgo : start < (ks.length : Int) ∨ ¬ start < (ks.length : Int) := Classical.em _
  have hgo2 : start + 1 < (ks.length : Int) ∨ ¬ start + 1 < (ks.length : Int) := Classical.em _
  rcases hgo with h1 | h1
  · rcases hgo2 with h3 | h3
    all_goals
      (k_dflt (refine' code_def ?k1 ?k2 ?k3 ?k4 ?k5 ?kA ?kF ?kK ?k6 ?k7 ?k8 ?k9 ?kB ?_ ?c2 ?c3 ?c4 ?c5; (case kA => exact rfl); (case kF => assumption); (case kK => assumption); (case k1 => k_asm); (case k2 => k_asm); (case k3 => k_asm); (case k4 => k_asm); (case k5 => k_asm); (case k6 => k_is); (case k7 => k_is); (case k8 => (simp only [recursionLimit] at *; (try dsimp only); omega)); (case k9 => exact BindsTo.of_eq rfl); (case c5 => decide); (case kB => exact locs rfl); (case c2 => exact rfl); (case c3 => exact rfl); (case c4 => exact rfl); k_whole; intro _ _ _ _ _ _ _ _ _; (try dsimp only); (try k_fold)))
      (k_steps; repeat' ((with_reducible refine Stop.mk ?_); first | (((with_reducible show wpAny _ _ (binaryOp Operator.Add (Value.bytes _ _) (Value.bytes _ _)) _ _ _); (first | refine KBa.add_K (by kba_ints) (by kba_ints2) (sz_td (by assumption) _ _ _ _) ?_ | refine KBa.add_K (by kba_ints2) (by kba_ints) (sz_td (by assumption) _ _ _ _) ?_); intro _ _ kbaApp); k_steps) | ((with_reducible show wpAny _ _ (exec (Stmt.Raise _ _ _) _) _ _ _); (k_dflt (refine' raise67 ?r1 ?r2 ?r3 ?r4 ?r5 ?r6 ?r7 ?r8 ?r9 ?r10 ?r11 ?r12 ?_; (case r1 => (simp only [recursionLimit] at *; omega)); (case r2 => omega); (case r3 => rfl); (case r4 => rfl); (case r5 => rfl); (case r6 => decide); (case r7 => k_is); (case r8 => rfl); (case r9 => k_asm); (case r10 => k_asm); (case r11 => k_asm); (case r12 => k_asm); k_whole)); k_steps) | fail))
      all_goals (try
        (refine ⟨c_bei (dp := dp + 1) (un := un + 3) (outer := env :: outer) (env := _) ⟨(by assumption), (by assumption), (by assumption), (by assumption), (by assumption), rfl, rfl⟩ (by omega) (by omega) _ _ (by assumption) _ (by have z := cut_len (ks := ks) (a := start + 1) (c := start + 1 + (ks.getD start.toNat 0 - 183)) (by omega) (by omega); omega) ?_⟩
         intro t' h' tk' F' N'; k_sweep; (k_steps; repeat' ((with_reducible refine Stop.mk ?_); first | (((with_reducible show wpAny _ _ (binaryOp Operator.Add (Value.bytes _ _) (Value.bytes _ _)) _ _ _); (first | refine KBa.add_K (by kba_ints) (by kba_ints2) (sz_td (by assumption) _ _ _ _) ?_ | refine KBa.add_K (by kba_ints2) (by kba_ints) (sz_td (by assumption) _ _ _ _) ?_); intro _ _ kbaApp); k_steps) | ((with_reducible show wpAny _ _ (exec (Stmt.Raise _ _ _) _) _ _ _); (k_dflt (refine' raise67 ?r1 ?r2 ?r3 ?r4 ?r5 ?r6 ?r7 ?r8 ?r9 ?r10 ?r11 ?r12 ?_; (case r1 => (simp only [recursionLimit] at *; omega)); (case r2 => omega); (case r3 => rfl); (case r4 => rfl); (case r5 => rfl); (case r6 => decide); (case r7 => k_is); (case r8 => rfl); (case r9 => k_asm); (case r10 => k_asm); (case r11 => k_asm); (case r12 => k_asm); k_whole)); k_steps) | fail))))
      all_goals (try
        (refine ⟨c_bei (dp := dp + 1) (un := un + 3) (outer := env :: outer) (env := _) ⟨(by assumption), (by assumption), (by assumption), (by assumption), (by assumption), rfl, rfl⟩ (by omega) (by omega) _ _ (by assumption) _ (by have z := cut_len (ks := ks) (a := start + 1) (c := start + 1 + (ks.getD start.toNat 0 - 192 - 56 + 1)) (by omega) (by omega); omega) ?_⟩
         intro t' h' tk' F' N'; k_sweep; (k_steps; repeat' ((with_reducible refine Stop.mk ?_); first | (((with_reducible show wpAny _ _ (binaryOp Operator.Add (Value.bytes _ _) (Value.bytes _ _)) _ _ _); (first | refine KBa.add_K (by kba_ints) (by kba_ints2) (sz_td (by assumption) _ _ _ _) ?_ | refine KBa.add_K (by kba_ints2) (by kba_ints) (sz_td (by assumption) _ _ _ _) ?_); intro _ _ kbaApp); k_steps) | ((with_reducible show wpAny _ _ (exec (Stmt.Raise _ _ _) _) _ _ _); (k_dflt (refine' raise67 ?r1 ?r2 ?r3 ?r4 ?r5 ?r6 ?r7 ?r8 ?r9 ?r10 ?r11 ?r12 ?_; (case r1 => (simp only [recursionLimit] at *; omega)); (case r2 => omega); (case r3 => rfl); (case r4 => rfl); (case r5 => rfl); (case r6 => decide); (case r7 => k_is); (case r8 => rfl); (case r9 => k_asm); (case r10 => k_asm); (case r11 => k_asm); (case r12 => k_asm); k_whole)); k_steps) | fail))))
      all_goals (try assumption)
      all_goals first
        | (refine' hret _ _ false _ _ _ _ _ _ _ _ ?z1 ?z2 ?z3 ?z4 ?z5; (case z4 => assumption); (case z3 => assumption); (case z5 => assumption); (case z1 => (first | (exact hd_zero (by assumption) (by assumption) (by omega) (by omega) (by assumption) (by assumption)) | (refine (hd_longA (by assumption) (by assumption) (by omega) (by omega) (by assumption) (by assumption)).trans ?_; first | exact if_pos (by assumption) | exact if_neg (by assumption)) | (refine (hd_longB (by assumption) (by assumption) (by omega) (by assumption) (by assumption)).trans ?_; first | exact if_pos (by assumption) | exact if_neg (by assumption)) | (unfold hd; (repeat (first | rw [if_pos (by omega)] | rw [if_neg (by omega)])); done))); (case z2 => (((try (rw [show KBw.bInts (_ ++ _) = _ from by assumption])); (try (rw [show KBw.bInts (KBy.picked _ _ _) = _ from by assumption])); (try simp only [List.length_append, List.length_nil, Int.natCast_add]); (try (rw [show KBw.bInts #[] = [] from rfl, List.length_nil])); (try rw [cut_len (by omega) (by omega)]); (try rw [cut_len (by omega) (by omega)]); omega))))
        | (refine' hret _ _ true _ _ _ _ _ _ _ _ ?z1 ?z2 ?z3 ?z4 ?z5; (case z4 => assumption); (case z3 => assumption); (case z5 => assumption); (case z1 => (first | (exact hd_zero (by assumption) (by assumption) (by omega) (by omega) (by assumption) (by assumption)) | (refine (hd_longA (by assumption) (by assumption) (by omega) (by omega) (by assumption) (by assumption)).trans ?_; first | exact if_pos (by assumption) | exact if_neg (by assumption)) | (refine (hd_longB (by assumption) (by assumption) (by omega) (by assumption) (by assumption)).trans ?_; first | exact if_pos (by assumption) | exact if_neg (by assumption)) | (unfold hd; (repeat (first | rw [if_pos (by omega)] | rw [if_neg (by omega)])); done))); (case z2 => (((try (rw [show KBw.bInts (_ ++ _) = _ from by assumption])); (try (rw [show KBw.bInts (KBy.picked _ _ _) = _ from by assumption])); (try simp only [List.length_append, List.length_nil, Int.natCast_add]); (try (rw [show KBw.bInts #[] = [] from rfl, List.length_nil])); (try rw [cut_len (by omega) (by omega)]); (try rw [cut_len (by omega) (by omega)]); omega))))
        | (refine ⟨?_⟩; intro h' tk' e' nX; k_unfold; dsimp only; refine fly_new (by assumption) (by assumption) (by assumption) (fun h' R U => hraise (by (first | (exact hd_zero (by assumption) (by assumption) (by omega) (by omega) (by assumption) (by assumption)) | (refine (hd_longA (by assumption) (by assumption) (by omega) (by omega) (by assumption) (by assumption)).trans ?_; first | exact if_pos (by assumption) | exact if_neg (by assumption)) | (refine (hd_longB (by assumption) (by assumption) (by omega) (by assumption) (by assumption)).trans ?_; first | exact if_pos (by assumption) | exact if_neg (by assumption)) | (unfold hd; (repeat (first | rw [if_pos (by omega)] | rw [if_neg (by omega)])); done))) _ _ _ _ (by assumption) (.inr R) U) rfl)
        | (refine hraise (by (first | (exact hd_zero (by assumption) (by assumption) (by omega) (by omega) (by assumption) (by assumption)) | (refine (hd_longA (by assumption) (by assumption) (by omega) (by omega) (by assumption) (by assumption)).trans ?_; first | exact if_pos (by assumption) | exact if_neg (by assumption)) | (refine (hd_longB (by assumption) (by assumption) (by omega) (by assumption) (by assumption)).trans ?_; first | exact if_pos (by assumption) | exact if_neg (by assumption)) | (unfold hd; (repeat (first | rw [if_pos (by omega)] | rw [if_neg (by omega)])); done))) _ _ _ _ (by assumption) (.inl (by assumption)) (by assumption))
        
  · (k_dflt (refine' code_def ?k1 ?k2 ?k3 ?k4 ?k5 ?kA ?kF ?kK ?k6 ?k7 ?k8 ?k9 ?kB ?_ ?c2 ?c3 ?c4 ?c5; (case kA => exact rfl); (case kF => assumption); (case kK => assumption); (case k1 => k_asm); (case k2 => k_asm); (case k3 => k_asm); (case k4 => k_asm); (case k5 => k_asm); (case k6 => k_is); (case k7 => k_is); (case k8 => (simp only [recursionLimit] at *; (try dsimp only); omega)); (case k9 => exact BindsTo.of_eq rfl); (case c5 => decide); (case kB => exact locs rfl); (case c2 => exact rfl); (case c3 => exact rfl); (case c4 => exact rfl); k_whole; intro _ _ _ _ _ _ _ _ _; (try dsimp only); (try k_fold)))
    (k_steps; repeat' ((with_reducible refine Stop.mk ?_); first | (((with_reducible show wpAny _ _ (binaryOp Operator.Add (Value.bytes _ _) (Value.bytes _ _)) _ _ _); (first | refine KBa.add_K (by kba_ints) (by kba_ints2) (sz_td (by assumption) _ _ _ _) ?_ | refine KBa.add_K (by kba_ints2) (by kba_ints) (sz_td (by assumption) _ _ _ _) ?_); intro _ _ kbaApp); k_steps) | ((with_reducible show wpAny _ _ (exec (Stmt.Raise _ _ _) _) _ _ _); (k_dflt (refine' raise67 ?r1 ?r2 ?r3 ?r4 ?r5 ?r6 ?r7 ?r8 ?r9 ?r10 ?r11 ?r12 ?_; (case r1 => (simp only [recursionLimit] at *; omega)); (case r2 => omega); (case r3 => rfl); (case r4 => rfl); (case r5 => rfl); (case r6 => decide); (case r7 => k_is); (case r8 => rfl); (case r9 => k_asm); (case r10 => k_asm); (case r11 => k_asm); (case r12 => k_asm); k_whole)); k_steps) | fail))
    all_goals first
      | (refine ⟨?_⟩; intro h' tk' e' nX; k_unfold; dsimp only; refine fly_new (by assumption) (by assumption) (by assumption) (fun h' R U => hraise (by (first | (exact hd_zero (by assumption) (by assumption) (by omega) (by omega) (by assumption) (by assumption)) | (refine (hd_longA (by assumption) (by assumption) (by omega) (by omega) (by assumption) (by assumption)).trans ?_; first | exact if_pos (by assumption) | exact if_neg (by assumption)) | (refine (hd_longB (by assumption) (by assumption) (by omega) (by assumption) (by assumption)).trans ?_; first | exact if_pos (by assumption) | exact if_neg (by assumption)) | (unfold hd; (repeat (first | rw [if_pos (by omega)] | rw [if_neg (by omega)])); done))) _ _ _ _ (by assumption) (.inr R) U) rfl)
      
theorem all (p : World × (List Str) × (ExcName → Option Value) × (Str → Option Value) × (Str → Option Value) × Nat × Nat × (Option (List Code)) × Env × (List Env) × Around × Heap × Heap × Addr × (Str → Option Value) × (List (Addr × Obj)) × Shared × (Value → Shared → Prop) × (Value → Shared → Prop) × (Array UInt8) × (List Int) × Int × Tok × Tok) : P p.1 p.2.1 p.2.2.1 p.2.2.2.1 p.2.2.2.2.1 p.2.2.2.2.2.1 p.2.2.2.2.2.2.1 p.2.2.2.2.2.2.2.1 p.2.2.2.2.2.2.2.2.1 p.2.2.2.2.2.2.2.2.2.1 p.2.2.2.2.2.2.2.2.2.2.1 p.2.2.2.2.2.2.2.2.2.2.2.1 p.2.2.2.2.2.2.2.2.2.2.2.2.1 p.2.2.2.2.2.2.2.2.2.2.2.2.2.1 p.2.2.2.2.2.2.2.2.2.2.2.2.2.2.1 p.2.2.2.2.2.2.2.2.2.2.2.2.2.2.2.1 p.2.2.2.2.2.2.2.2.2.2.2.2.2.2.2.2.1 p.2.2.2.2.2.2.2.2.2.2.2.2.2.2.2.2.2.1 p.2.2.2.2.2.2.2.2.2.2.2.2.2.2.2.2.2.2.1 p.2.2.2.2.2.2.2.2.2.2.2.2.2.2.2.2.2.2.2.1 p.2.2.2.2.2.2.2.2.2.2.2.2.2.2.2.2.2.2.2.2.1 p.2.2.2.2.2.2.2.2.2.2.2.2.2.2.2.2.2.2.2.2.2.1 p.2.2.2.2.2.2.2.2.2.2.2.2.2.2.2.2.2.2.2.2.2.2.1 p.2.2.2.2.2.2.2.2.2.2.2.2.2.2.2.2.2.2.2.2.2.2.2 := Classical.byContradiction fun n => Classical.epsilon_spec (p := fun p => ¬ P p.1 p.2.1 p.2.2.1 p.2.2.2.1 p.2.2.2.2.1 p.2.2.2.2.2.1 p.2.2.2.2.2.2.1 p.2.2.2.2.2.2.2.1 p.2.2.2.2.2.2.2.2.1 p.2.2.2.2.2.2.2.2.2.1 p.2.2.2.2.2.2.2.2.2.2.1 p.2.2.2.2.2.2.2.2.2.2.2.1 p.2.2.2.2.2.2.2.2.2.2.2.2.1 p.2.2.2.2.2.2.2.2.2.2.2.2.2.1 p.2.2.2.2.2.2.2.2.2.2.2.2.2.2.1 p.2.2.2.2.2.2.2.2.2.2.2.2.2.2.2.1 p.2.2.2.2.2.2.2.2.2.2.2.2.2.2.2.2.1 p.2.2.2.2.2.2.2.2.2.2.2.2.2.2.2.2.2.1 p.2.2.2.2.2.2.2.2.2.2.2.2.2.2.2.2.2.2.1 p.2.2.2.2.2.2.2.2.2.2.2.2.2.2.2.2.2.2.2.1 p.2.2.2.2.2.2.2.2.2.2.2.2.2.2.2.2.2.2.2.2.1 p.2.2.2.2.2.2.2.2.2.2.2.2.2.2.2.2.2.2.2.2.2.1 p.2.2.2.2.2.2.2.2.2.2.2.2.2.2.2.2.2.2.2.2.2.2.1 p.2.2.2.2.2.2.2.2.2.2.2.2.2.2.2.2.2.2.2.2.2.2.2) ⟨p, n⟩ (by with_unfolding_all exact main)
end c_clpE
theorem c_clp {w : World} {loose : List Str} {mean : ExcName → Option Value} {mg mb : Str → Option Value} {dp un : Nat} {gd : Option (List Code)} {env : Env} {outer : List Env} {A₀ : Around} {base h₀ : Heap} {L : Addr} {m : Str → Option Value} {news : List (Addr × Obj)} {s : Shared} {Q E : Value → Shared → Prop} (C : Cx w loose mean mg mb env outer A₀ base h₀ L m news s.heap) (hroom : dp + 12 < recursionLimit) (hun : un + 100 < cLine) (b : Array UInt8) (ks : List Int) (hb : KBw.bInts b = ks) (start : Int) (t1 t2 : Tok) (h0 : 0 ≤ start) (hlen : ks.length ≤ 304) (hret : ∀ D p l n st t1 t2 t3 t4 h' tk', hd ks start = some (l, n, st) → ((KBw.bInts p).length : Int) ≤ min st ks.length - start → Fr h₀ L h' m → News h₀ L h' ((D, tup4 p l n st t1 t2 t3 t4) :: news) → (∀ q ∈ news, q.1 < D) → Q (.ref D) { s with heap := h', toks := tk' }) (hraise : hd ks start = none → ∀ g h' e tk', Fr h₀ L g m → Rz base g (env :: outer) e h' → g.UpToSlots h' → E (.ref e) { s with heap := h', toks := tk' })
    :
    wpAny (model PySem.Challenge.rw_jm0023_01.prog w) (kT dp un gd env outer) (call (.ref 1406) [.bytes b t1, .int start t2]) Q E s := c_clpE.all (w, loose, mean, mg, mb, dp, un, gd, env, outer, A₀, base, h₀, L, m, news, s, Q, E, b, ks, start, t1, t2) C hroom hun hb h0 hlen hret hraise
end
theorem pad7 {prog : PySem.Program} {w : PySem.World} {A : PySem.Around} {E : PySem.Value → PySem.Shared → Prop} {s : PySem.Shared} {env : PySem.Env} {Q : PySem.Flow → PySem.Shared → Prop} (h : Q .next s) : PySem.wpAny (PySem.model prog w) A (PySem.execs [] env) Q E s := by
  walk1
  exact h
section
open PySem PySem.W PySem.Calls PyProof.Rows
local macro_rules | `(tactic| walk_at "exec Raise some none") => `(tactic| refine Stop.go ?_)
local macro_rules | `(tactic| walk_at "exec While Compare cons nil") => `(tactic| refine Stop.go ?_)
noncomputable abbrev tup3 (v : Value) (q : Addr) (e : Int) (te : Tok) : Obj := { cls := .type "tuple", data := .seq #[v, .ref q, .int e te] }
noncomputable def PayC (ks : List Int) (F : Nat) : Prop := ∀ {w : World} {loose : List Str} {mean : ExcName → Option Value} {mg mb : Str → Option Value} {dp un : Nat} {gd : Option (List Code)} {env : Env} {outer : List Env} {A₀ : Around} {base h₀ : Heap} {L : Addr} {m : Str → Option Value} {news : List (Addr × Obj)} {s : Shared} {Q E : Value → Shared → Prop},
    Cx w loose mean mg mb env outer A₀ base h₀ L m news s.heap → 2 * dp + F + 60 < 2000 → 2 * un + 3 * F + 400 < 19800 → ∀ (b : Array UInt8), KBw.bInts b = ks → ∀ (p : Array UInt8) (l : Bool) (n st : Int) (t1 t2 t3 t4 t5 : Tok), 0 ≤ n → 0 ≤ st → (KBw.bInts p).length ≤ 400 → (l = true → 2 * ((ks.length : Int) + 1 - st) ≤ F) → (st ≤ ks.length ∨ 1 ≤ n) →
    (∀ D q v c tc more nn te d tl h' tk', Bk h₀ L m news tl h' → (D, tup3 v q (st + n) te) ∈ tl → (q, listOf (.bytes c tc :: more).toArray nn) ∈ tl → RlpIn tl v d → ((KBw.bInts c).length : Int) ≤ (KBw.bInts p).length + (min (st + n) ks.length - min st ks.length) →
      (st + n ≤ ks.length → rdPay ks F l n st = some (d, st + n)) → (ks.length < st + n → rdPay ks F l n st = none) → Q (.ref D) { s with heap := h', toks := tk' }) →
    (rdPay ks F l n st = none → ∀ g h' e tk', Fr h₀ L g m → Rz base g (env :: outer) e h' → g.UpToSlots h' → E (.ref e) { s with heap := h', toks := tk' }) →
    wpAny (model PySem.Challenge.rw_jm0023_01.prog w) (kT dp un gd env outer) (call (.ref 1413) [.bytes b t1, .bytes p t2, .int st t3, .str (cond l (Str.ofString "list") (Str.ofString "bytes")) t4, .int n t5]) Q E s
theorem kl_ins0 (l : List Value) (y : Value) : kl_ins l.toArray.toList 0 y = y :: l := by simp [kl_ins]
local macro_rules | `(tactic| k_all) => `(tactic| assumption)
local macro_rules | `(tactic| walk_at "call builtin:list.insert") => `(tactic| refine Stop.go ?_)
local macro_rules | `(tactic| walk_at "call builtin:list.append") => `(tactic| refine Stop.go ?_)
local macro_rules | `(tactic| walk_at "inplaceOp") => `(tactic| refine Stop.go ?_)
theorem my6 {α : Type} {P : α → Prop} {a b c d e f : α} (h1 : P a) (h2 : P b) (h3 : P c) (h4 : P d) (h5 : P e) (h6 : P f) : ∀ p ∈ [a, b, c, d, e, f], P p := by
  intro p hp
  simp only [List.mem_cons, List.not_mem_nil, or_false] at hp
  rcases hp with rfl | rfl | rfl | rfl | rfl | rfl <;> assumption
namespace c_payxE
noncomputable def P (ks : List Int) (F : Nat) (w : World) (loose : List Str) (mean : ExcName → Option Value) (mg : Str → Option Value) (mb : Str → Option Value) (dp : Nat) (un : Nat) (gd : Option (List Code)) (env : Env) (outer : List Env) (A₀ : Around) (base : Heap) (h₀ : Heap) (L : Addr) (m : Str → Option Value) (news : List (Addr × Obj)) (s : Shared) (Q : Value → Shared → Prop) (E : Value → Shared → Prop) (b : Array UInt8) (n : Int) (st : Int) (t1 : Tok) (t2 : Tok) (t3 : Tok) (t4 : Tok) (t5 : Tok) : Prop := ∀ (hks : ∀ k ∈ ks, 0 ≤ k ∧ k < 256) (hlen : ks.length ≤ 304) (ih : ∀ F' < F, PayC ks F') (C : Cx w loose mean mg mb env outer A₀ base h₀ L m news s.heap) (hroom : 2 * dp + F + 60 < 2000) (hun : 2 * un + 3 * F + 400 < 19800) (hb : KBw.bInts b = ks) (p : Array UInt8) (l : Bool) (hn : 0 ≤ n) (hst : 0 ≤ st) (hp : (KBw.bInts p).length ≤ 400) (hF : (l = true → 2 * ((ks.length : Int) + 1 - st) ≤ F)) (hsn : (st ≤ ks.length ∨ 1 ≤ n)) (hret : (∀ D q v c tc more nn te d tl h' tk', Bk h₀ L m news tl h' → (D, tup3 v q (st + n) te) ∈ tl → (q, listOf (.bytes c tc :: more).toArray nn) ∈ tl → RlpIn tl v d → ((KBw.bInts c).length : Int) ≤ (KBw.bInts p).length + (min (st + n) ks.length - min st ks.length) →
      (st + n ≤ ks.length → rdPay ks F l n st = some (d, st + n)) → (ks.length < st + n → rdPay ks F l n st = none) → Q (.ref D) { s with heap := h', toks := tk' })) (hraise : (rdPay ks F l n st = none → ∀ g h' e tk', Fr h₀ L g m → Rz base g (env :: outer) e h' → g.UpToSlots h' → E (.ref e) { s with heap := h', toks := tk' })), wpAny (model PySem.Challenge.rw_jm0023_01.prog w) (kT dp un gd env outer) (call (.ref 1413) [.bytes b t1, .bytes p t2, .int st t3, .str (cond l (Str.ofString "list") (Str.ofString "bytes")) t4, .int n t5]) Q E s
noncomputable def epsC : (List Int) × Nat × World × (List Str) × (ExcName → Option Value) × (Str → Option Value) × (Str → Option Value) × Nat × Nat × (Option (List Code)) × Env × (List Env) × Around × Heap × Heap × Addr × (Str → Option Value) × (List (Addr × Obj)) × Shared × (Value → Shared → Prop) × (Value → Shared → Prop) × (Array UInt8) × Int × Int × Tok × Tok × Tok × Tok × Tok := @Classical.epsilon ((List Int) × Nat × World × (List Str) × (ExcName → Option Value) × (Str → Option Value) × (Str → Option Value) × Nat × Nat × (Option (List Code)) × Env × (List Env) × Around × Heap × Heap × Addr × (Str → Option Value) × (List (Addr × Obj)) × Shared × (Value → Shared → Prop) × (Value → Shared → Prop) × (Array UInt8) × Int × Int × Tok × Tok × Tok × Tok × Tok) ⟨([], 0, ⟨fun _ _ => 0, { strHash := fun _ => 0, shareClass := fun _ => 0, mergeTok := fun t => t, idOf := fun _ => 0, idOfShared := fun _ _ => 0, followText := fun _ => false, idOfImm := fun _ => 0 }⟩, [], (fun _ => none), (fun _ => none), (fun _ => none), 0, 0, none, default, [], {}, {}, {}, (0 : Nat), (fun _ => none), [], {}, (fun _ _ => True), (fun _ _ => True), #[], 0, 0, (0 : Nat), (0 : Nat), (0 : Nat), (0 : Nat), (0 : Nat))⟩ fun p => ¬ P p.1 p.2.1 p.2.2.1 p.2.2.2.1 p.2.2.2.2.1 p.2.2.2.2.2.1 p.2.2.2.2.2.2.1 p.2.2.2.2.2.2.2.1 p.2.2.2.2.2.2.2.2.1 p.2.2.2.2.2.2.2.2.2.1 p.2.2.2.2.2.2.2.2.2.2.1 p.2.2.2.2.2.2.2.2.2.2.2.1 p.2.2.2.2.2.2.2.2.2.2.2.2.1 p.2.2.2.2.2.2.2.2.2.2.2.2.2.1 p.2.2.2.2.2.2.2.2.2.2.2.2.2.2.1 p.2.2.2.2.2.2.2.2.2.2.2.2.2.2.2.1 p.2.2.2.2.2.2.2.2.2.2.2.2.2.2.2.2.1 p.2.2.2.2.2.2.2.2.2.2.2.2.2.2.2.2.2.1 p.2.2.2.2.2.2.2.2.2.2.2.2.2.2.2.2.2.2.1 p.2.2.2.2.2.2.2.2.2.2.2.2.2.2.2.2.2.2.2.1 p.2.2.2.2.2.2.2.2.2.2.2.2.2.2.2.2.2.2.2.2.1 p.2.2.2.2.2.2.2.2.2.2.2.2.2.2.2.2.2.2.2.2.2.1 p.2.2.2.2.2.2.2.2.2.2.2.2.2.2.2.2.2.2.2.2.2.2.1 p.2.2.2.2.2.2.2.2.2.2.2.2.2.2.2.2.2.2.2.2.2.2.2.1 p.2.2.2.2.2.2.2.2.2.2.2.2.2.2.2.2.2.2.2.2.2.2.2.2.1 p.2.2.2.2.2.2.2.2.2.2.2.2.2.2.2.2.2.2.2.2.2.2.2.2.2.1 p.2.2.2.2.2.2.2.2.2.2.2.2.2.2.2.2.2.2.2.2.2.2.2.2.2.2.1 p.2.2.2.2.2.2.2.2.2.2.2.2.2.2.2.2.2.2.2.2.2.2.2.2.2.2.2.1 p.2.2.2.2.2.2.2.2.2.2.2.2.2.2.2.2.2.2.2.2.2.2.2.2.2.2.2.2
@[irreducible] noncomputable def ks : List Int := epsC.1
@[irreducible] noncomputable def F : Nat := epsC.2.1
@[irreducible] noncomputable def w : World := epsC.2.2.1
@[irreducible] noncomputable def loose : List Str := epsC.2.2.2.1
@[irreducible] noncomputable def mean : ExcName → Option Value := epsC.2.2.2.2.1
@[irreducible] noncomputable def mg : Str → Option Value := epsC.2.2.2.2.2.1
@[irreducible] noncomputable def mb : Str → Option Value := epsC.2.2.2.2.2.2.1
@[irreducible] noncomputable def dp : Nat := epsC.2.2.2.2.2.2.2.1
@[irreducible] noncomputable def un : Nat := epsC.2.2.2.2.2.2.2.2.1
@[irreducible] noncomputable def gd : Option (List Code) := epsC.2.2.2.2.2.2.2.2.2.1
@[irreducible] noncomputable def env : Env := epsC.2.2.2.2.2.2.2.2.2.2.1
@[irreducible] noncomputable def outer : List Env := epsC.2.2.2.2.2.2.2.2.2.2.2.1
@[irreducible] noncomputable def A₀ : Around := epsC.2.2.2.2.2.2.2.2.2.2.2.2.1
@[irreducible] noncomputable def base : Heap := epsC.2.2.2.2.2.2.2.2.2.2.2.2.2.1
@[irreducible] noncomputable def h₀ : Heap := epsC.2.2.2.2.2.2.2.2.2.2.2.2.2.2.1
@[irreducible] noncomputable def L : Addr := epsC.2.2.2.2.2.2.2.2.2.2.2.2.2.2.2.1
@[irreducible] noncomputable def m : Str → Option Value := epsC.2.2.2.2.2.2.2.2.2.2.2.2.2.2.2.2.1
@[irreducible] noncomputable def news : List (Addr × Obj) := epsC.2.2.2.2.2.2.2.2.2.2.2.2.2.2.2.2.2.1
@[irreducible] noncomputable def s : Shared := epsC.2.2.2.2.2.2.2.2.2.2.2.2.2.2.2.2.2.2.1
@[irreducible] noncomputable def Q : Value → Shared → Prop := epsC.2.2.2.2.2.2.2.2.2.2.2.2.2.2.2.2.2.2.2.1
@[irreducible] noncomputable def E : Value → Shared → Prop := epsC.2.2.2.2.2.2.2.2.2.2.2.2.2.2.2.2.2.2.2.2.1
@[irreducible] noncomputable def b : Array UInt8 := epsC.2.2.2.2.2.2.2.2.2.2.2.2.2.2.2.2.2.2.2.2.2.1
@[irreducible] noncomputable def n : Int := epsC.2.2.2.2.2.2.2.2.2.2.2.2.2.2.2.2.2.2.2.2.2.2.1
@[irreducible] noncomputable def st : Int := epsC.2.2.2.2.2.2.2.2.2.2.2.2.2.2.2.2.2.2.2.2.2.2.2.1
@[irreducible] noncomputable def t1 : Tok := epsC.2.2.2.2.2.2.2.2.2.2.2.2.2.2.2.2.2.2.2.2.2.2.2.2.1
@[irreducible] noncomputable def t2 : Tok := epsC.2.2.2.2.2.2.2.2.2.2.2.2.2.2.2.2.2.2.2.2.2.2.2.2.2.1
@[irreducible] noncomputable def t3 : Tok := epsC.2.2.2.2.2.2.2.2.2.2.2.2.2.2.2.2.2.2.2.2.2.2.2.2.2.2.1
@[irreducible] noncomputable def t4 : Tok := epsC.2.2.2.2.2.2.2.2.2.2.2.2.2.2.2.2.2.2.2.2.2.2.2.2.2.2.2.1
@[irreducible] noncomputable def t5 : Tok := epsC.2.2.2.2.2.2.2.2.2.2.2.2.2.2.2.2.2.2.2.2.2.2.2.2.2.2.2.2
set_option maxHeartbeats 4000000 in
theorem main : P ks F w loose mean mg mb dp un gd env outer A₀ base h₀ L m news s Q E b n st t1 t2 t3 t4 t5 := by
  intro hks hlen ih C hroom hun hb p l hn hst hp hF hsn hret hraise
  obtain ⟨B, FF, X, N, T, hf, hk⟩ := C
  obtain ⟨ps, hps⟩ : ∃ ps, KBw.bInts p = ps := ⟨_, rfl⟩
  rw [hps] at hp
  simp only [hps] at hret
  have hr : recursionLimit = 1000 := rfl
  have hc : cLine = 9900 := rfl
  revert X; k_fill; intro X
  refine wpAny_call ?_
  cases l with
  | false =>
    dsimp only [cond]
    (k_dflt (refine' code_def ?k1 ?k2 ?k3 ?k4 ?k5 ?kA ?kF ?kK ?k6 ?k7 ?k8 ?k9 ?kB ?_ ?c2 ?c3 ?c4 ?c5; (case kA => exact rfl); (case kF => assumption); (case kK => assumption); (case k1 => k_asm); (case k2 => k_asm); (case k3 => k_asm); (case k4 => k_asm); (case k5 => k_asm); (case k6 => k_is); (case k7 => k_is); (case k8 => (simp only [recursionLimit] at *; (try dsimp only); lia)); (case k9 => exact BindsTo.of_eq rfl); (case c5 => decide); (case kB => exact locs rfl); (case c2 => exact rfl); (case c3 => exact rfl); (case c4 => exact rfl); k_whole; intro _ _ _ _ _ _ _ _ _; (try dsimp only); (try k_fold)))
    (k_steps; repeat' ((with_reducible refine Stop.mk ?_); first | ((with_reducible show wpAny _ _ (exec (Stmt.Raise _ _ _) _) _ _ _); (k_dflt (refine' raise67 ?r1 ?r2 ?r3 ?r4 ?r5 ?r6 ?r7 ?r8 ?r9 ?r10 ?r11 ?r12 ?_; (case r1 => (simp only [recursionLimit] at *; lia)); (case r2 => lia); (case r3 => rfl); (case r4 => rfl); (case r5 => rfl); (case r6 => decide); (case r7 => k_is); (case r8 => rfl); (case r9 => k_asm); (case r10 => k_asm); (case r11 => k_asm); (case r12 => k_asm); k_whole)); k_steps) | (((with_reducible show wpAny _ _ (call (Value.builtin _) [Value.ref _, Value.int _ _, _]) _ _ _); k_dflt (refine' kl_insert ?F ?N rfl (kl_ins0 _ _) ?U ?z ?_; (case F => k_asm); (case N => k_asm); (case U => k_upd); (case z => (rw [sizeLine_eq]; simp; lia))); intro h' F' N'; k_sweep); k_steps) | (((with_reducible show wpAny _ _ (call (Value.builtin _) [Value.ref _, _]) _ _ _); k_dflt (refine' append_K ?k1 ?k2 ?k3 ?_ ?z; (case k1 => k_asm); (case k2 => k_asm); (case k3 => k_upd); (case z => (rw [sizeLine_eq, List.size_toArray]; lia)); k_whole); intro h' F' N'; (try k_sweep)); k_steps) | ((k_dflt (refine iadd_K (by assumption) (by assumption) (by lia) ?_); intro t' k' hA; (try dsimp only)); k_steps) | fail))
    rename News h₀ L _ (_ :: _ :: news) => NN
    rename Fr h₀ L _ m => FN
    rename _ < _ ∧ AllLt _ _ => l2
    rename ∀ p ∈ news, p.1 < _ => l1
    rename KBw.bInts (KBy.picked _ _ _) = _ => e1
    rename KBw.bInts (_ ++ _) = _ => e2
    refine hret _ _ _ _ _ [] _ _ (.str ((ks.drop st.toNat).take n.toNat)) [_, _] _ _ ⟨FN, NN, ?_⟩ (.head _) (.tail _ (.head _)) (.str (e1.trans ?_)) ?_ ?_ ?_
    · intro q hq p hp
      have := l1 q hq
      rcases List.mem_cons.mp hp with rfl | hp
      · exact Nat.lt_trans this l2.1
      · rcases List.mem_cons.mp hp with rfl | hp
        · exact this
        · nomatch hp
    · rw [cut_eq hst (by lia), show (st + n - st).toNat = n.toNat by lia]
    · rw [e2, List.length_append, Int.natCast_add, cut_len hst (by lia)]; lia
    · intro g; exact if_pos g
    · intro g; exact if_neg (by lia)
  | true =>
    dsimp only [cond]
    (k_dflt (refine' code_def ?k1 ?k2 ?k3 ?k4 ?k5 ?kA ?kF ?kK ?k6 ?k7 ?k8 ?k9 ?kB ?_ ?c2 ?c3 ?c4 ?c5; (case kA => exact rfl); (case kF => assumption); (case kK => assumption); (case k1 => k_asm); (case k2 => k_asm); (case k3 => k_asm); (case k4 => k_asm); (case k5 => k_asm); (case k6 => k_is); (case k7 => k_is); (case k8 => (simp only [recursionLimit] at *; (try dsimp only); lia)); (case k9 => exact BindsTo.of_eq rfl); (case c5 => decide); (case kB => exact locs rfl); (case c2 => exact rfl); (case c3 => exact rfl); (case c4 => exact rfl); k_whole; intro _ _ _ _ _ _ _ _ _; (try dsimp only); (try k_fold)))
    (k_steps; repeat' ((with_reducible refine Stop.mk ?_); first | ((with_reducible show wpAny _ _ (exec (Stmt.Raise _ _ _) _) _ _ _); (k_dflt (refine' raise67 ?r1 ?r2 ?r3 ?r4 ?r5 ?r6 ?r7 ?r8 ?r9 ?r10 ?r11 ?r12 ?_; (case r1 => (simp only [recursionLimit] at *; lia)); (case r2 => lia); (case r3 => rfl); (case r4 => rfl); (case r5 => rfl); (case r6 => decide); (case r7 => k_is); (case r8 => rfl); (case r9 => k_asm); (case r10 => k_asm); (case r11 => k_asm); (case r12 => k_asm); k_whole)); k_steps) | (((with_reducible show wpAny _ _ (call (Value.builtin _) [Value.ref _, Value.int _ _, _]) _ _ _); k_dflt (refine' kl_insert ?F ?N rfl (kl_ins0 _ _) ?U ?z ?_; (case F => k_asm); (case N => k_asm); (case U => k_upd); (case z => (rw [sizeLine_eq]; simp; lia))); intro h' F' N'; k_sweep); k_steps) | (((with_reducible show wpAny _ _ (call (Value.builtin _) [Value.ref _, _]) _ _ _); k_dflt (refine' append_K ?k1 ?k2 ?k3 ?_ ?z; (case k1 => k_asm); (case k2 => k_asm); (case k3 => k_upd); (case z => (rw [sizeLine_eq, List.size_toArray]; lia)); k_whole); intro h' F' N'; (try k_sweep)); k_steps) | ((k_dflt (refine iadd_K (by assumption) (by assumption) (by lia) ?_); intro t' k' hA; (try dsimp only)); k_steps) | fail))
    refine ⟨?_⟩
    rename_i aI h6 l1a h5 tk0 aP h4 l1b h3 h2 h1 h0 F1 N1
    refine' While_inv2 (PJ ks b F st (st + n) aI aP (tk + 1 + 1) t1 ps.length news) (n₀ := (st + n - st).toNat) F1 N1 ?hJ ?turn
    case hJ => exact ⟨st, t3, .nil, [], 0, [], 0, p, t2, [], rfl, rfl, my6 rfl rfl rfl rfl rfl rfl, (fun _ hp => nomatch hp), (fun _ _ _ hp => nomatch hp), .nil, (Nat.zero_le _), (by simp), rfl, (by rw [hps]; lia), (Int.le_refl _), (fun _ => ⟨F, hF rfl, Nat.le_refl _, by cases rdMany ks F st (st + n) <;> rfl⟩), (fun g => rdMany_off (by lia) (by lia) F)⟩
    clear F1 N1
    rintro k m₁ nx h₁ tk₁ F₁ N₁ ⟨nxt, tn, ds, vsI, nI, vsP, nP, c, tc, tl, rfl, rfl, hm, ha, ho, hI, h304, hIn, hPl, hcl, hsn', hgood, hbad⟩
    rw [← kst_self hm] at F₁
    have lIP : @LT.lt Nat _ aI aP := l1b.1
    obtain ⟨cs, hcs⟩ : ∃ cs, KBw.bInts c = cs := ⟨_, rfl⟩
    rw [hcs] at hcl
    have hq1 : ∀ p ∈ tl ++ news, p.1 ≠ aP := fun p hp => by
      rcases List.mem_append.mp hp with hp | hp
      · exact (ha p hp).2
      · exact Nat.ne_of_lt (allLt_mem l1b.2 p hp)
    have hq2 : ∀ p ∈ tl ++ news, p.1 ≠ aI := fun p hp => by
      rcases List.mem_append.mp hp with hp | hp
      · exact (ha p hp).1
      · exact Nat.ne_of_lt (l1a p hp)
    show wpAny _ _ _ _ _ _
    k_fold
    (k_steps; repeat' ((with_reducible refine Stop.mk ?_); first | ((with_reducible show wpAny _ _ (exec (Stmt.Raise _ _ _) _) _ _ _); (k_dflt (refine' raise67 ?r1 ?r2 ?r3 ?r4 ?r5 ?r6 ?r7 ?r8 ?r9 ?r10 ?r11 ?r12 ?_; (case r1 => (simp only [recursionLimit] at *; lia)); (case r2 => lia); (case r3 => rfl); (case r4 => rfl); (case r5 => rfl); (case r6 => decide); (case r7 => k_is); (case r8 => rfl); (case r9 => k_asm); (case r10 => k_asm); (case r11 => k_asm); (case r12 => k_asm); k_whole)); k_steps) | (((with_reducible show wpAny _ _ (call (Value.builtin _) [Value.ref _, Value.int _ _, _]) _ _ _); k_dflt (refine' kl_insert ?F ?N rfl (kl_ins0 _ _) ?U ?z ?_; (case F => k_asm); (case N => k_asm); (case U => k_upd); (case z => (rw [sizeLine_eq]; simp; lia))); intro h' F' N'; k_sweep); k_steps) | (((with_reducible show wpAny _ _ (call (Value.builtin _) [Value.ref _, _]) _ _ _); k_dflt (refine' append_K ?k1 ?k2 ?k3 ?_ ?z; (case k1 => k_asm); (case k2 => k_asm); (case k3 => k_upd); (case z => (rw [sizeLine_eq, List.size_toArray]; lia)); k_whole); intro h' F' N'; (try k_sweep)); k_steps) | ((k_dflt (refine iadd_K (by assumption) (by assumption) (by lia) ?_); intro t' k' hA; (try dsimp only)); k_steps) | fail))
    · refine ⟨c_clp (dp := dp + 1) (un := un + 3) (outer := env :: outer) ⟨(by assumption), (by assumption), (by assumption), (by assumption), (by assumption), rfl, rfl⟩ (by lia) (by lia) b ks hb nxt _ _ (by lia) hlen ?_ ?_⟩
      · intro D p' l' n' st' ta tb' tc' td h2 tk2 hhd hpl FF2 NN2 lD
        obtain ⟨g1, g2, g3, g4, g5, g6, g7⟩ := hd_in hks (by lia) hhd
        obtain ⟨Fk, gf1, gf2, gf3⟩ := hgood (by lia)
        obtain ⟨Fk', rfl⟩ : ∃ F', Fk = F' + 2 := ⟨Fk - 2, by lia⟩
        obtain ⟨s1, s2⟩ := rdMany_step gf3 (by assumption)
        rw [rdItem_eq, hhd] at s1 s2
        dsimp only at s1 s2
        k_sweep
        (k_steps; repeat' ((with_reducible refine Stop.mk ?_); first | ((with_reducible show wpAny _ _ (exec (Stmt.Raise _ _ _) _) _ _ _); (k_dflt (refine' raise67 ?r1 ?r2 ?r3 ?r4 ?r5 ?r6 ?r7 ?r8 ?r9 ?r10 ?r11 ?r12 ?_; (case r1 => (simp only [recursionLimit] at *; lia)); (case r2 => lia); (case r3 => rfl); (case r4 => rfl); (case r5 => rfl); (case r6 => decide); (case r7 => k_is); (case r8 => rfl); (case r9 => k_asm); (case r10 => k_asm); (case r11 => k_asm); (case r12 => k_asm); k_whole)); k_steps) | (((with_reducible show wpAny _ _ (call (Value.builtin _) [Value.ref _, Value.int _ _, _]) _ _ _); k_dflt (refine' kl_insert ?F ?N rfl (kl_ins0 _ _) ?U ?z ?_; (case F => k_asm); (case N => k_asm); (case U => k_upd); (case z => (rw [sizeLine_eq]; simp; lia))); intro h' F' N'; k_sweep); k_steps) | (((with_reducible show wpAny _ _ (call (Value.builtin _) [Value.ref _, _]) _ _ _); k_dflt (refine' append_K ?k1 ?k2 ?k3 ?_ ?z; (case k1 => k_asm); (case k2 => k_asm); (case k3 => k_upd); (case z => (rw [sizeLine_eq, List.size_toArray]; lia)); k_whole); intro h' F' N'; (try k_sweep)); k_steps) | ((k_dflt (refine iadd_K (by assumption) (by assumption) (by lia) ?_); intro t' k' hA; (try dsimp only)); k_steps) | fail))
        refine ⟨ih Fk' (by lia) (dp := dp + 1) (un := un + 3) (outer := env :: outer) ⟨(by assumption), (by assumption), (by assumption), (by assumption), (by assumption), rfl, rfl⟩ (by lia) (by lia) b hb p' l' n' st' _ _ _ _ _ g2 (by lia) (by lia) (fun q => by have := g4 q; lia) g7 ?_ ?_⟩
        · intro D2 q v c2 tc2 more nn te2 d tl2 h3 tk3 hB hD hq hR hcz hgd hbd
          obtain ⟨FF3, NN3, oo⟩ := hB
          have NN4 := kst_newsOf (l' := (D2, tup3 v q (st' + n') te2) :: (q, listOf (.bytes c2 tc2 :: more).toArray nn) :: (aP, listOf vsP.toArray nP) :: (aI, listOf vsI.toArray nI) :: ((tl2 ++ (D, tup4 p' l' n' st' ta tb' tc' td) :: tl) ++ news)) NN3 (by
            intro z hz
            simp only [List.mem_append, List.mem_cons] at hz ⊢
            rcases hz with rfl | rfl | rfl | rfl | ((hz | rfl | hz) | hz)
            · exact .inl hD
            · exact .inl hq
            · exact .inr (.inr (.inl rfl))
            · exact .inr (.inr (.inr (.inl rfl)))
            · exact .inl hz
            · exact .inr (.inl rfl)
            · exact .inr (.inr (.inr (.inr (.inl hz))))
            · exact .inr (.inr (.inr (.inr (.inr hz)))))
          have hq3 : ∀ p ∈ (tl2 ++ (D, tup4 p' l' n' st' ta tb' tc' td) :: tl) ++ news, p.1 ≠ aP := fun z hz => by
            simp only [List.mem_append, List.mem_cons] at hz
            rcases hz with (hz | rfl | hz) | hz
            · exact Nat.ne_of_gt (oo _ (.tail _ (.head _)) z hz)
            · exact Nat.ne_of_gt (lD _ (.head _))
            · exact (ha z hz).2
            · exact Nat.ne_of_lt (allLt_mem l1b.2 z hz)
          have hq4 : ∀ p ∈ (tl2 ++ (D, tup4 p' l' n' st' ta tb' tc' td) :: tl) ++ news, p.1 ≠ aI := fun z hz => by
            simp only [List.mem_append, List.mem_cons] at hz
            rcases hz with (hz | rfl | hz) | hz
            · exact Nat.ne_of_gt (oo _ (.tail _ (.tail _ (.head _))) z hz)
            · exact Nat.ne_of_gt (lD _ (.tail _ (.head _)))
            · exact (ha z hz).1
            · exact Nat.ne_of_lt (l1a z hz)
          have o1 : @LT.lt Nat _ aP D2 := ltN (oo _ (.tail _ (.head _)) _ hD)
          have o2 : @LT.lt Nat _ aP q := ltN (oo _ (.tail _ (.head _)) _ hq)
          have o3 : @LT.lt Nat _ aI D2 := ltN (oo _ (.tail _ (.tail _ (.head _))) _ hD)
          have o4 : @LT.lt Nat _ aI q := ltN (oo _ (.tail _ (.tail _ (.head _))) _ hq)
          clear NN3
          obtain ⟨c2s, hc2⟩ : ∃ cs, KBw.bInts c2 = cs := ⟨_, rfl⟩
          rw [hc2] at hcz
          k_sweep
          (k_steps; repeat' ((with_reducible refine Stop.mk ?_); first | ((with_reducible show wpAny _ _ (exec (Stmt.Raise _ _ _) _) _ _ _); (k_dflt (refine' raise67 ?r1 ?r2 ?r3 ?r4 ?r5 ?r6 ?r7 ?r8 ?r9 ?r10 ?r11 ?r12 ?_; (case r1 => (simp only [recursionLimit] at *; lia)); (case r2 => lia); (case r3 => rfl); (case r4 => rfl); (case r5 => rfl); (case r6 => decide); (case r7 => k_is); (case r8 => rfl); (case r9 => k_asm); (case r10 => k_asm); (case r11 => k_asm); (case r12 => k_asm); k_whole)); k_steps) | (((with_reducible show wpAny _ _ (call (Value.builtin _) [Value.ref _, Value.int _ _, _]) _ _ _); k_dflt (refine' kl_insert ?F ?N rfl (kl_ins0 _ _) ?U ?z ?_; (case F => k_asm); (case N => k_asm); (case U => k_upd); (case z => (rw [sizeLine_eq]; simp; lia))); intro h' F' N'; k_sweep); k_steps) | (((with_reducible show wpAny _ _ (call (Value.builtin _) [Value.ref _, _]) _ _ _); k_dflt (refine' append_K ?k1 ?k2 ?k3 ?_ ?z; (case k1 => k_asm); (case k2 => k_asm); (case k3 => k_upd); (case z => (rw [sizeLine_eq, List.size_toArray]; lia)); k_whole); intro h' F' N'; (try k_sweep)); k_steps) | ((k_dflt (refine iadd_K (by assumption) (by assumption) (by lia) ?_); intro t' k' hA; (try dsimp only)); k_steps) | fail))
          rename News _ _ _ (_ :: _ :: (aP, _) :: _) => NE
          rename Fr _ _ _ _ => FE
          simp only [List.push_toArray] at NE
          refine ⟨_, _, _, _, (st + n - (st' + n')).toNat, rfl, FE, kst_newsOf NE (fun z hz => List.mem_cons_of_mem _ (List.mem_cons_of_mem _ hz)), by lia, st' + n', te2, ds.snoc d, vsI ++ [v], _, vsP ++ [.ref q], _, c ++ c2, _, tl2 ++ (D, tup4 p' l' n' st' ta tb' tc' td) :: tl, rfl, rfl, my6 rfl rfl rfl rfl rfl rfl, ?_, ?_, ?_, ?_, ?_, ?_, ?_, ?_, ?_, ?_⟩
          · exact fun z hz => ⟨hq4 z (List.mem_append_left _ hz), hq3 z (List.mem_append_left _ hz)⟩
          · intro z hz y hy
            simp only [List.mem_append, List.mem_cons] at hy
            rcases hy with hy | rfl | hy
            · exact oo z (List.mem_cons_of_mem _ (List.mem_cons_of_mem _ (List.mem_cons_of_mem _ (List.mem_append_right _ hz)))) y hy
            · exact lD z (List.mem_cons_of_mem _ (List.mem_cons_of_mem _ (List.mem_append_right _ hz)))
            · exact ho z hz y hy
          · exact RlpsIn.snoc (RlpsIn.mono (fun z hz => List.mem_append_right _ (List.mem_cons_of_mem _ hz)) hI) (RlpIn.mono (fun z hz => List.mem_append_left _ hz) hR)
          · rw [List.length_append, List.length_cons, List.length_nil]; lia
          · rw [List.length_append, List.length_cons, List.length_nil]; lia
          · rw [List.length_append, List.length_append, hPl]; rfl
          · rw [KBw.ints_app hcs hc2, List.length_append, Int.natCast_add]; lia
          · lia
          · exact fun g => ⟨Fk' + 1, by lia, by lia, s1 d _ (hgd g)⟩
          · exact fun g => s2 (hbd g)
        · intro hno g2 h3 e3 tk3 FF3 R3 U3
          k_unfold
          dsimp only
          refine rz_on (by assumption) FF3 R3 U3 (fun h4 R4 U4 => hraise ?_ _ _ _ _ (by assumption) R4 U4)
          show (match rdMany ks F st (st + n) with | none => none | some (ds, j) => if j = st + n then some (Rlp.list ds, j) else none) = none
          rw [s2 hno]
      · intro hno g2 h3 e3 tk3 FF3 R3 U3
        k_unfold
        dsimp only
        refine rz_on (by assumption) FF3 R3 U3 (fun h4 R4 U4 => hraise ?_ _ _ _ _ (by assumption) R4 U4)
        show (match rdMany ks F st (st + n) with | none => none | some (ds, j) => if j = st + n then some (Rlp.list ds, j) else none) = none
        by_cases gg : nxt ≤ (ks.length : Int)
        · obtain ⟨Fk, gf1, gf2, gf3⟩ := hgood gg
          obtain ⟨Fk', rfl⟩ : ∃ F', Fk = F' + 2 := ⟨Fk - 2, by lia⟩
          rw [(rdMany_step gf3 (by assumption)).2 (by rw [rdItem_eq, hno])]
        · rw [hbad (by lia)]
    all_goals (try assumption)
    · refine hraise ?_ _ _ _ _ (by assumption) (.inl (by assumption)) (by assumption)
      show (match rdMany ks F st (st + n) with | none => none | some (ds, j) => if j = st + n then some (Rlp.list ds, j) else none) = none
      by_cases gg : nxt ≤ (ks.length : Int)
      · obtain ⟨Fk, gf1, gf2, gf3⟩ := hgood gg
        obtain ⟨Fk', rfl⟩ : ∃ F', Fk = F' + 1 := ⟨Fk - 1, by lia⟩
        rw [rdMany_end gf3 (by assumption)]
        exact if_neg (by lia)
      · rw [hbad (by lia)]
    · rename News h₀ L _ (_ :: _ :: _ :: _) => NN
      rename Fr h₀ L _ m => FN
      rename _ ∧ _ ∧ AllLt _ _ => lZ
      have hne : nxt = st + n := by lia
      subst hne
      refine hret _ aP (.ref aI) c tc vsP _ tn (.list ds) ((_, _) :: (aP, _) :: (aI, listOf vsI.toArray nI) :: tl) _ _ ⟨FN, NN, ?_⟩ (.head _) (.tail _ (.head _)) (.list (.tail _ (.tail _ (.head _))) (RlpsIn.mono (fun z hz => .tail _ (.tail _ (.tail _ hz))) hI)) (by rw [hcs]; exact hcl) ?_ ?_
      · intro z hz y hy
        rcases List.mem_cons.mp hy with rfl | hy
        · exact allLt_mem lZ.2.2 z (List.mem_append_right _ hz)
        rcases List.mem_cons.mp hy with rfl | hy
        · exact allLt_mem l1b.2 z hz
        rcases List.mem_cons.mp hy with rfl | hy
        · exact l1a z hz
        · exact ho z hz y hy
      · intro gg
        show (match rdMany ks F st (st + n) with | none => none | some (ds, j) => if j = st + n then some (Rlp.list ds, j) else none) = _
        obtain ⟨Fk, gf1, gf2, gf3⟩ := hgood gg
        obtain ⟨Fk', rfl⟩ : ∃ F', Fk = F' + 1 := ⟨Fk - 1, by lia⟩
        rw [rdMany_end gf3 (by lia)]
        exact if_pos rfl
      · intro gg
        show (match rdMany ks F st (st + n) with | none => none | some (ds, j) => if j = st + n then some (Rlp.list ds, j) else none) = none
        rw [hbad gg]
theorem all (p : (List Int) × Nat × World × (List Str) × (ExcName → Option Value) × (Str → Option Value) × (Str → Option Value) × Nat × Nat × (Option (List Code)) × Env × (List Env) × Around × Heap × Heap × Addr × (Str → Option Value) × (List (Addr × Obj)) × Shared × (Value → Shared → Prop) × (Value → Shared → Prop) × (Array UInt8) × Int × Int × Tok × Tok × Tok × Tok × Tok) : P p.1 p.2.1 p.2.2.1 p.2.2.2.1 p.2.2.2.2.1 p.2.2.2.2.2.1 p.2.2.2.2.2.2.1 p.2.2.2.2.2.2.2.1 p.2.2.2.2.2.2.2.2.1 p.2.2.2.2.2.2.2.2.2.1 p.2.2.2.2.2.2.2.2.2.2.1 p.2.2.2.2.2.2.2.2.2.2.2.1 p.2.2.2.2.2.2.2.2.2.2.2.2.1 p.2.2.2.2.2.2.2.2.2.2.2.2.2.1 p.2.2.2.2.2.2.2.2.2.2.2.2.2.2.1 p.2.2.2.2.2.2.2.2.2.2.2.2.2.2.2.1 p.2.2.2.2.2.2.2.2.2.2.2.2.2.2.2.2.1 p.2.2.2.2.2.2.2.2.2.2.2.2.2.2.2.2.2.1 p.2.2.2.2.2.2.2.2.2.2.2.2.2.2.2.2.2.2.1 p.2.2.2.2.2.2.2.2.2.2.2.2.2.2.2.2.2.2.2.1 p.2.2.2.2.2.2.2.2.2.2.2.2.2.2.2.2.2.2.2.2.1 p.2.2.2.2.2.2.2.2.2.2.2.2.2.2.2.2.2.2.2.2.2.1 p.2.2.2.2.2.2.2.2.2.2.2.2.2.2.2.2.2.2.2.2.2.2.1 p.2.2.2.2.2.2.2.2.2.2.2.2.2.2.2.2.2.2.2.2.2.2.2.1 p.2.2.2.2.2.2.2.2.2.2.2.2.2.2.2.2.2.2.2.2.2.2.2.2.1 p.2.2.2.2.2.2.2.2.2.2.2.2.2.2.2.2.2.2.2.2.2.2.2.2.2.1 p.2.2.2.2.2.2.2.2.2.2.2.2.2.2.2.2.2.2.2.2.2.2.2.2.2.2.1 p.2.2.2.2.2.2.2.2.2.2.2.2.2.2.2.2.2.2.2.2.2.2.2.2.2.2.2.1 p.2.2.2.2.2.2.2.2.2.2.2.2.2.2.2.2.2.2.2.2.2.2.2.2.2.2.2.2 := Classical.byContradiction fun n => Classical.epsilon_spec (p := fun p => ¬ P p.1 p.2.1 p.2.2.1 p.2.2.2.1 p.2.2.2.2.1 p.2.2.2.2.2.1 p.2.2.2.2.2.2.1 p.2.2.2.2.2.2.2.1 p.2.2.2.2.2.2.2.2.1 p.2.2.2.2.2.2.2.2.2.1 p.2.2.2.2.2.2.2.2.2.2.1 p.2.2.2.2.2.2.2.2.2.2.2.1 p.2.2.2.2.2.2.2.2.2.2.2.2.1 p.2.2.2.2.2.2.2.2.2.2.2.2.2.1 p.2.2.2.2.2.2.2.2.2.2.2.2.2.2.1 p.2.2.2.2.2.2.2.2.2.2.2.2.2.2.2.1 p.2.2.2.2.2.2.2.2.2.2.2.2.2.2.2.2.1 p.2.2.2.2.2.2.2.2.2.2.2.2.2.2.2.2.2.1 p.2.2.2.2.2.2.2.2.2.2.2.2.2.2.2.2.2.2.1 p.2.2.2.2.2.2.2.2.2.2.2.2.2.2.2.2.2.2.2.1 p.2.2.2.2.2.2.2.2.2.2.2.2.2.2.2.2.2.2.2.2.1 p.2.2.2.2.2.2.2.2.2.2.2.2.2.2.2.2.2.2.2.2.2.1 p.2.2.2.2.2.2.2.2.2.2.2.2.2.2.2.2.2.2.2.2.2.2.1 p.2.2.2.2.2.2.2.2.2.2.2.2.2.2.2.2.2.2.2.2.2.2.2.1 p.2.2.2.2.2.2.2.2.2.2.2.2.2.2.2.2.2.2.2.2.2.2.2.2.1 p.2.2.2.2.2.2.2.2.2.2.2.2.2.2.2.2.2.2.2.2.2.2.2.2.2.1 p.2.2.2.2.2.2.2.2.2.2.2.2.2.2.2.2.2.2.2.2.2.2.2.2.2.2.1 p.2.2.2.2.2.2.2.2.2.2.2.2.2.2.2.2.2.2.2.2.2.2.2.2.2.2.2.1 p.2.2.2.2.2.2.2.2.2.2.2.2.2.2.2.2.2.2.2.2.2.2.2.2.2.2.2.2) ⟨p, n⟩ (by with_unfolding_all exact main)
end c_payxE
theorem c_payx (ks : List Int) (hks : ∀ k ∈ ks, 0 ≤ k ∧ k < 256) (hlen : ks.length ≤ 304) (F : Nat) (ih : ∀ F' < F, PayC ks F') {w : World} {loose : List Str} {mean : ExcName → Option Value} {mg mb : Str → Option Value} {dp un : Nat} {gd : Option (List Code)} {env : Env} {outer : List Env} {A₀ : Around} {base h₀ : Heap} {L : Addr} {m : Str → Option Value} {news : List (Addr × Obj)} {s : Shared} {Q E : Value → Shared → Prop} (C : Cx w loose mean mg mb env outer A₀ base h₀ L m news s.heap) (hroom : 2 * dp + F + 60 < 2000) (hun : 2 * un + 3 * F + 400 < 19800) (b : Array UInt8) (hb : KBw.bInts b = ks) (p : Array UInt8) (l : Bool) (n st : Int) (t1 t2 t3 t4 t5 : Tok) (hn : 0 ≤ n) (hst : 0 ≤ st) (hp : (KBw.bInts p).length ≤ 400) (hF : (l = true → 2 * ((ks.length : Int) + 1 - st) ≤ F)) (hsn : (st ≤ ks.length ∨ 1 ≤ n)) (hret : (∀ D q v c tc more nn te d tl h' tk', Bk h₀ L m news tl h' → (D, tup3 v q (st + n) te) ∈ tl → (q, listOf (.bytes c tc :: more).toArray nn) ∈ tl → RlpIn tl v d → ((KBw.bInts c).length : Int) ≤ (KBw.bInts p).length + (min (st + n) ks.length - min st ks.length) →
      (st + n ≤ ks.length → rdPay ks F l n st = some (d, st + n)) → (ks.length < st + n → rdPay ks F l n st = none) → Q (.ref D) { s with heap := h', toks := tk' })) (hraise : (rdPay ks F l n st = none → ∀ g h' e tk', Fr h₀ L g m → Rz base g (env :: outer) e h' → g.UpToSlots h' → E (.ref e) { s with heap := h', toks := tk' }))
    :
    wpAny (model PySem.Challenge.rw_jm0023_01.prog w) (kT dp un gd env outer) (call (.ref 1413) [.bytes b t1, .bytes p t2, .int st t3, .str (cond l (Str.ofString "list") (Str.ofString "bytes")) t4, .int n t5]) Q E s := c_payxE.all (ks, F, w, loose, mean, mg, mb, dp, un, gd, env, outer, A₀, base, h₀, L, m, news, s, Q, E, b, n, st, t1, t2, t3, t4, t5) hks hlen ih C hroom hun hb p l hn hst hp hF hsn hret hraise
theorem c_pay (ks : List Int) (hks : ∀ k ∈ ks, 0 ≤ k ∧ k < 256) (hlen : ks.length ≤ 304) (F : Nat) (ih : ∀ F' < F, PayC ks F') : PayC ks F := by
  intro w loose mean mg mb dp un gd env outer A₀ base h₀ L m news s Q E C hroom hun b hb p l n st t1 t2 t3 t4 t5 hn hst hp hF hsn hret hraise
  exact c_payx ks hks hlen F ih C hroom hun b hb p l n st t1 t2 t3 t4 t5 hn hst hp hF hsn hret hraise
theorem pay_all (ks : List Int) (hks : ∀ k ∈ ks, 0 ≤ k ∧ k < 256) (hlen : ks.length ≤ 304) (F : Nat) : PayC ks F := by
  induction F using Nat.strongRecOn with
  | ind F ih => exact c_pay ks hks hlen F ih
end
theorem pad8 {prog : PySem.Program} {w : PySem.World} {A : PySem.Around} {E : PySem.Value → PySem.Shared → Prop} {s : PySem.Shared} {env : PySem.Env} {Q : PySem.Flow → PySem.Shared → Prop} (h : Q .next s) : PySem.wpAny (PySem.model prog w) A (PySem.execs [] env) Q E s := by
  walk1
  exact h
section
open PySem PySem.W PySem.Calls PyProof.Rows
theorem val_lt : ∀ (xs : List Int), (∀ k ∈ xs, 0 ≤ k ∧ k < 256) → ∀ a : Int, 0 ≤ a → xs.foldl (fun a k => a * 256 + k) a + 1 ≤ (a + 1) * 256 ^ xs.length
  | [], _, a, _ => by simp
  | k :: r, h, a, ha => by
    have hk := h k (List.mem_cons_self ..)
    have z := val_lt r (fun j hj => h j (List.mem_cons_of_mem _ hj)) (a * 256 + k) (by lia)
    have y : (a * 256 + k + 1) * 256 ^ r.length ≤ ((a + 1) * 256) * 256 ^ r.length := Int.mul_le_mul_of_nonneg_right (by lia) (Int.le_of_lt (Int.pow_pos (by decide)))
    rw [List.foldl_cons, List.length_cons, Int.pow_succ, Int.mul_comm (256 ^ r.length) 256, ← Int.mul_assoc]
    exact Int.le_trans z y
theorem val_lt8 {xs : List Int} (h : ∀ k ∈ xs, 0 ≤ k ∧ k < 256) (hl : xs.length ≤ 8) : KFB.value xs < 2 ^ 64 := by
  have z := val_lt xs h 0 (by decide)
  rw [Int.zero_add, Int.one_mul] at z
  have y : (256 : Int) ^ xs.length ≤ 256 ^ 8 := by
    have := Nat.pow_le_pow_right (n := 256) (by decide) hl
    exact_mod_cast this
  show xs.foldl (fun a k => a * 256 + k) 0 < 2 ^ 64
  have e : (256 : Int) ^ 8 = 2 ^ 64 := by decide
  lia
theorem hd_up {ks : List Int} (hks : ∀ k ∈ ks, 0 ≤ k ∧ k < 256) {l : Bool} {n st start : Int} (h0 : 0 ≤ start) (h : hd ks start = some (l, n, st)) : n < 2 ^ 64 := by
  have hg := KBw.getD_in (ks := ks) (j := start.toNat) hks
  have hv : ∀ (a : Nat) (c : Nat), c ≤ 8 → KFB.value ((ks.drop a).take c) < 2 ^ 64 := fun a c hc => val_lt8 (fun k hk => hks k (List.mem_of_mem_drop (List.mem_of_mem_take hk))) (by rw [List.length_take]; lia)
  have p64 : (2 : Int) ^ 64 = 18446744073709551616 := by decide
  unfold hd hdLong at h
  repeat' split at h
  all_goals first
    | cases h; done
    | (cases h; lia)
    | (cases h; exact hv _ _ (by lia))
set_option maxHeartbeats 4000000 in
theorem c_item {w : World} {loose : List Str} {mean : ExcName → Option Value} {mg mb : Str → Option Value} {dp un : Nat} {gd : Option (List Code)} {env : Env} {outer : List Env} {A₀ : Around} {base h₀ : Heap} {L : Addr} {m : Str → Option Value} {news : List (Addr × Obj)} {s : Shared} {Q E : Value → Shared → Prop}
    (ks : List Int) (hks : ∀ k ∈ ks, 0 ≤ k ∧ k < 256) (hlen : ks.length ≤ 304)
    (C : Cx w loose mean mg mb env outer A₀ base h₀ L m news s.heap) (hroom : dp + 400 < 1000) (hun : un + 1500 < 9900)
    (b : Array UInt8) (hb : KBw.bInts b = ks) (t1 t2 : Tok)
    (hret : ∀ D q v c tc more nn e te d tl h' tk', Bk h₀ L m news tl h' → (D, tup3 v q e te) ∈ tl → (q, listOf (.bytes c tc :: more).toArray nn) ∈ tl → RlpIn tl v d → 0 ≤ e → e < 2 ^ 65 →
      (e ≤ ks.length → rdItem ks (2 * ks.length + 3) 0 = some (d, e)) → (ks.length < e → rdItem ks (2 * ks.length + 3) 0 = none) → Q (.ref D) { s with heap := h', toks := tk' })
    (hraise : rdItem ks (2 * ks.length + 3) 0 = none → ∀ g h' e tk', Fr h₀ L g m → Rz base g (env :: outer) e h' → g.UpToSlots h' → E (.ref e) { s with heap := h', toks := tk' }) :
    wpAny (model PySem.Challenge.rw_jm0023_01.prog w) (kT dp un gd env outer) (call (.ref 1420) [.bytes b t1, .int 0 t2]) Q E s := by
  obtain ⟨B, FF, X, N, T, hf, hk⟩ := C
  have hr : recursionLimit = 1000 := rfl
  have hc : cLine = 9900 := rfl
  revert X; k_fill; intro X
  refine wpAny_call ?_
  (k_dflt (refine' code_def ?k1 ?k2 ?k3 ?k4 ?k5 ?kA ?kF ?kK ?k6 ?k7 ?k8 ?k9 ?kB ?_ ?c2 ?c3 ?c4 ?c5; (case kA => exact rfl); (case kF => assumption); (case kK => assumption); (case k1 => k_asm); (case k2 => k_asm); (case k3 => k_asm); (case k4 => k_asm); (case k5 => k_asm); (case k6 => k_is); (case k7 => k_is); (case k8 => (simp only [recursionLimit] at *; (try dsimp only); lia)); (case k9 => exact BindsTo.of_eq rfl); (case c5 => decide); (case kB => exact locs rfl); (case c2 => exact rfl); (case c3 => exact rfl); (case c4 => exact rfl); k_whole; intro _ _ _ _ _ _ _ _ _; (try dsimp only); (try k_fold)))
  k_steps
  refine ⟨c_clp (dp := dp + 1) (un := un + 3) (outer := env :: outer) ⟨(by assumption), (by assumption), (by assumption), (by assumption), (by assumption), rfl, rfl⟩ (by lia) (by lia) b ks hb 0 _ _ (by lia) hlen ?_ ?_⟩
  · intro D p' l' n' st' ta tb' tc' td h2 tk2 hhd hpl FF2 NN2 lD
    obtain ⟨g1, g2, g3, g4, g5, g6, g7⟩ := hd_in hks (by lia) hhd
    rw [rdItem_eq, hhd] at hret hraise
    dsimp only at hret hraise
    k_sweep
    k_steps
    refine ⟨pay_all ks hks hlen (2 * ks.length + 2) (dp := dp + 1) (un := un + 3) (outer := env :: outer) ⟨(by assumption), (by assumption), (by assumption), (by assumption), (by assumption), rfl, rfl⟩ (by lia) (by lia) b hb p' l' n' st' _ _ _ _ _ g2 (by lia) (by lia) (fun _ => by lia) g7 ?_ ?_⟩
    · intro D2 q v c2 tc2 more nn te2 d tl2 h3 tk3 hB hD hq hR hcz hgd hbd
      obtain ⟨FF3, NN3, oo⟩ := hB
      k_sweep
      k_steps
      rename Fr h₀ L _ m => FN
      rename News h₀ L _ _ => NN
      refine hret _ _ _ _ _ _ _ _ _ _ tl2 _ _ ⟨FN, kst_newsOf NN (fun z hz => ?_), fun z hz y hy => oo z (List.mem_cons_of_mem _ hz) y hy⟩ hD hq hR (by lia) (by have := hd_up hks (by lia) hhd; lia) hgd hbd
      rcases List.mem_append.mp hz with hz | hz
      · exact List.mem_append_left _ hz
      · exact List.mem_append_right _ (List.mem_cons_of_mem _ hz)
    · intro hno g2 h3 e3 tk3 FF3 R3 U3
      k_unfold
      dsimp only
      exact rz_on (by assumption) FF3 R3 U3 (fun h4 R4 U4 => hraise hno _ _ _ _ (by assumption) R4 U4)
  · intro hno g2 h3 e3 tk3 FF3 R3 U3
    k_unfold
    dsimp only
    exact rz_on (by assumption) FF3 R3 U3 (fun h4 R4 U4 => hraise (by rw [rdItem_eq, hno]) _ _ _ _ (by assumption) R4 U4)
end
theorem pad9 {prog : PySem.Program} {w : PySem.World} {A : PySem.Around} {E : PySem.Value → PySem.Shared → Prop} {s : PySem.Shared} {env : PySem.Env} {Q : PySem.Flow → PySem.Shared → Prop} (h : Q .next s) : PySem.wpAny (PySem.model prog w) A (PySem.execs [] env) Q E s := by
  walk1
  exact h
section
open PySem PySem.W PySem.Calls PyProof.Rows
local macro_rules | `(tactic| walk_at "exec Raise some none") => `(tactic| refine Stop.go ?_)
theorem fmt_int {prog : Program} {w : World} {A : Around} {E : Value → Shared → Prop} {s : Shared} {a : Int} {t : Tok} {Q : Value → Shared → Prop} (h0 : -(10 ^ 25) < a) (h1 : a < 10 ^ 25)
    (h : ∀ y t' k, Str.length y ≤ 26 → Q (.str y t') { s with toks := k }) : wpAny (model prog w) A (formatField (.int a t) Str.empty) Q E s := by
  have hn : a.natAbs < 10 ^ 25 := by lia
  have hd : a.natAbs.log2 < 1920 := by
    by_cases hz : a.natAbs = 0
    · rw [hz]; decide
    · exact (Nat.log2_lt hz).mpr (Nat.lt_of_lt_of_le hn (Nat.le_trans (by decide : 10 ^ 25 ≤ 2 ^ 100) (Nat.pow_le_pow_right (by decide) (by decide))))
  refine wpAny_formatField_int hd (h _ _ _ ?_)
  rw [PySem.ofString_length]
  exact int_text_length_le10 (by decide) hn
theorem join_end {M : Model} {A : Around} {E : Value → Shared → Prop} {s : Shared} {env : Env} {out : Str} {Q : Value → Shared → Prop} (hz : out.length ≤ sizeLine) (h : Q (.str out s.toks) { s with toks := s.toks + 1 }) : wpAny M A (joinParts out (evalEach [] env)) Q E s := wpAny_mkStr h hz
theorem sz2 {y : Str} (h : Str.length y ≤ 26) : (Str.empty ++ Str.ofString "RLP string ends with " ++ y).length ≤ sizeLine := by
  rw [strLen_append, strLen_append, sizeLine_eq, PySem.ofString_length]
  have : Str.length Str.empty = 0 := rfl
  have : ("RLP string ends with ").length = 21 := by decide
  lia
theorem sz3 {y : Str} (h : Str.length y ≤ 26) : (Str.empty ++ Str.ofString "RLP string ends with " ++ y ++ Str.ofString " superfluous bytes").length ≤ sizeLine := by
  rw [strLen_append, strLen_append, strLen_append, sizeLine_eq, PySem.ofString_length, PySem.ofString_length]
  have : Str.length Str.empty = 0 := rfl
  have : ("RLP string ends with ").length = 21 := by decide
  have : (" superfluous bytes").length = 18 := by decide
  lia
local macro_rules | `(tactic| walk_at "formatField int") => `(tactic| refine Stop.go ?_)
local macro_rules | `(tactic| walk_at "joinParts") => `(tactic| with_reducible refine Stop.j ?_)
set_option maxHeartbeats 1000000 in
theorem c_raw {w : World} {loose : List Str} {mean : ExcName → Option Value} {mg mb : Str → Option Value} {dp un : Nat} {gd : Option (List Code)} {env : Env} {outer : List Env} {A₀ : Around} {base h₀ : Heap} {L : Addr} {m : Str → Option Value} {news : List (Addr × Obj)} {s : Shared} {Q E : Value → Shared → Prop}
    (ks : List Int) (hks : ∀ k ∈ ks, 0 ≤ k ∧ k < 256) (hlen : ks.length ≤ 304)
    (C : Cx w loose mean mg mb env outer A₀ base h₀ L m news s.heap) (hroom : dp + 410 < 1000) (hun : un + 1600 < 9900)
    (XB : (K w.params).In base) (TB : Top vq loose mean mg mb base) (KD : KtsDicts (outer.filterMap (·.frame)) h₀)
    (b : Array UInt8) (hb : KBw.bInts b = ks) (t1 : Tok)
    (hret : ∀ D v q d tl h' tk', Bk h₀ L m news tl h' → (D, ({ cls := .type "tuple", data := .seq #[v, .ref q] } : Obj)) ∈ tl → RlpIn tl v d → rd ks = some d → Q (.ref D) { s with heap := h', toks := tk' })
    (hraise : rd ks = none → ∀ g h' e tk', Fr h₀ L g m → RaisedSN base g (env :: outer) e (.ref 67) [] h' → g.UpToSlots h' → E (.ref e) { s with heap := h', toks := tk' }) :
    wpAny (model PySem.Challenge.rw_jm0023_01.prog w) (kT dp un gd env outer) (call (.ref 1392) [.bytes b t1, .bool true, .bool false]) Q E s := by
  obtain ⟨B, FF, X, N, T, hf, hk⟩ := C
  have hr : recursionLimit = 1000 := rfl
  have hc : cLine = 9900 := rfl
  revert X; k_fill; intro X
  refine wpAny_call ?_
  (k_dflt (refine' code_def ?k1 ?k2 ?k3 ?k4 ?k5 ?kA ?kF ?kK ?k6 ?k7 ?k8 ?k9 ?kB ?_ ?c2 ?c3 ?c4 ?c5; (case kA => exact rfl); (case kF => assumption); (case kK => assumption); (case k1 => k_asm); (case k2 => k_asm); (case k3 => k_asm); (case k4 => k_asm); (case k5 => k_asm); (case k6 => k_is); (case k7 => k_is); (case k8 => (simp only [recursionLimit] at *; (try dsimp only); lia)); (case k9 => exact BindsTo.of_eq rfl); (case c5 => decide); (case kB => exact locs rfl); (case c2 => exact rfl); (case c3 => exact rfl); (case c4 => exact rfl); k_whole; intro _ _ _ _ _ _ _ _ _; (try dsimp only); (try k_fold)))
  (k_steps; repeat' ((with_reducible refine Stop.mk ?_); first | ((with_reducible show wpAny _ _ (exec (Stmt.Raise _ _ _) _) _ _ _); (k_dflt (refine' raise67 ?r1 ?r2 ?r3 ?r4 ?r5 ?r6 ?r7 ?r8 ?r9 ?r10 ?r11 ?r12 ?_; (case r1 => (simp only [recursionLimit] at *; lia)); (case r2 => lia); (case r3 => rfl); (case r4 => rfl); (case r5 => rfl); (case r6 => decide); (case r7 => k_is); (case r8 => rfl); (case r9 => k_asm); (case r10 => k_asm); (case r11 => k_asm); (case r12 => k_asm); k_whole)); k_steps) | (((with_reducible show wpAny _ _ (formatField (Value.int _ _) _) _ _ _); (refine fmt_int (by lia) (by lia) ?_); intro y' t' k' hy'; have hz2 := sz2 hy'; have hz3 := sz3 hy'); k_steps) | (((with_reducible show wpAny _ _ (joinParts _ (evalEach [] _)) _ _ _); (with_reducible refine join_end (by assumption) ?_)); k_steps) | fail))
  refine ⟨c_item (dp := dp + 1) (un := un + 3) (outer := env :: outer) ks hks hlen ⟨(by assumption), (by assumption), (by assumption), (by assumption), (by assumption), rfl, rfl⟩ (by lia) (by lia) b hb _ _ ?_ ?_⟩
  · intro D q v c tc more nn e te d tl h2 tk2 hB hD hq hR he0 he1 hgd hbd
    obtain ⟨FF3, NN3, oo⟩ := hB
    have NN4 := kst_newsOf (l' := (D, tup3 v q e te) :: (tl ++ news)) NN3 (by
      intro z hz
      rcases List.mem_cons.mp hz with rfl | hz
      · exact List.mem_append_left _ hD
      · exact hz)
    clear NN3
    k_sweep
    (k_steps; repeat' ((with_reducible refine Stop.mk ?_); first | ((with_reducible show wpAny _ _ (exec (Stmt.Raise _ _ _) _) _ _ _); (k_dflt (refine' raise67 ?r1 ?r2 ?r3 ?r4 ?r5 ?r6 ?r7 ?r8 ?r9 ?r10 ?r11 ?r12 ?_; (case r1 => (simp only [recursionLimit] at *; lia)); (case r2 => lia); (case r3 => rfl); (case r4 => rfl); (case r5 => rfl); (case r6 => decide); (case r7 => k_is); (case r8 => rfl); (case r9 => k_asm); (case r10 => k_asm); (case r11 => k_asm); (case r12 => k_asm); k_whole)); k_steps) | (((with_reducible show wpAny _ _ (formatField (Value.int _ _) _) _ _ _); (refine fmt_int (by lia) (by lia) ?_); intro y' t' k' hy'; have hz2 := sz2 hy'; have hz3 := sz3 hy'); k_steps) | (((with_reducible show wpAny _ _ (joinParts _ (evalEach [] _)) _ _ _); (with_reducible refine join_end (by assumption) ?_)); k_steps) | fail))
    all_goals (try assumption)
    · refine hraise ?_ _ _ _ _ (by assumption) (by assumption) (by assumption)
      unfold rd
      by_cases ge : e ≤ (ks.length : Int)
      · rw [hgd ge]; exact if_neg (by lia)
      · rw [hbd (by lia)]
    · rename News h₀ L _ (_ :: _) => NN
      rename Fr h₀ L _ m => FN
      rename _ ∧ AllLt _ _ => lZ
      refine hret _ v q d ((_, _) :: tl) _ _ ⟨FN, kst_newsOf NN ?_, ?_⟩ (.head _) (RlpIn.mono (fun z hz => .tail _ hz) hR) ?_
      · intro z hz
        rcases List.mem_cons.mp hz with rfl | hz
        · exact .head _
        · exact .tail _ (.tail _ hz)
      · intro z hz y hy
        rcases List.mem_cons.mp hy with rfl | hy
        · exact allLt_mem lZ.2 z (List.mem_append_right _ hz)
        · exact oo z hz y hy
      · unfold rd
        have ge : e = (ks.length : Int) := by lia
        rw [hgd (by lia)]; exact if_pos ge
  · intro hno g2 h3 e3 tk3 FF3 R3 U3
    have hrd : rd ks = none := by unfold rd; rw [hno]
    rename Fr h₀ L _ m => FX
    have KD' := kts_push KD FX.keep FX hf
    rcases R3 with R3 | R3
    · refine kts_lookSN R3 FF3 (by assumption) U3 KD' fun h4 R4 U4 => ?_
      refine pass_SN R4 FF3 (by assumption) U4 XB TB KD' (test_name (c := .type "IndexError") (.inr ⟨by k_is, by boot_by_name, by decide⟩) (by first | rfl | kernel_rfl | decide +kernel) rfl rfl (by decide)) fun h5 R5 U5 => ?_
      refine on_SN R5 U5 fun h6 R6 U6 => ?_
      k_unfold
      dsimp only
      exact leave_heldSN R6 FF3 U6 fun h7 R7 _ U7 => hraise hrd _ _ _ _ FX R7 U7
    · refine fly_hit R3 FF3 (by assumption) U3 XB TB (by k_is) (by boot_by_name) (by decide) fun h4 g4 ox xs T4 F4 N4 hxd hx2 B4 X4 P4 => ?_
      (k_steps; repeat' ((with_reducible refine Stop.mk ?_); first | ((with_reducible show wpAny _ _ (exec (Stmt.Raise _ _ _) _) _ _ _); (k_dflt (refine' raise67 ?r1 ?r2 ?r3 ?r4 ?r5 ?r6 ?r7 ?r8 ?r9 ?r10 ?r11 ?r12 ?_; (case r1 => (simp only [recursionLimit] at *; lia)); (case r2 => lia); (case r3 => rfl); (case r4 => rfl); (case r5 => rfl); (case r6 => decide); (case r7 => k_is); (case r8 => rfl); (case r9 => k_asm); (case r10 => k_asm); (case r11 => k_asm); (case r12 => k_asm); k_whole)); k_steps) | (((with_reducible show wpAny _ _ (formatField (Value.int _ _) _) _ _ _); (refine fmt_int (by lia) (by lia) ?_); intro y' t' k' hy'; have hz2 := sz2 hy'; have hz3 := sz3 hy'); k_steps) | (((with_reducible show wpAny _ _ (joinParts _ (evalEach [] _)) _ _ _); (with_reducible refine join_end (by assumption) ?_)); k_steps) | fail))
      refine ⟨raise67H (ox := ox) (xs := xs) (by lia) (by lia) rfl rfl rfl (by decide) (by k_is) rfl B4 X4 P4 F4 hxd hx2 ?_⟩
      (k_steps; repeat' ((with_reducible refine Stop.mk ?_); first | ((with_reducible show wpAny _ _ (exec (Stmt.Raise _ _ _) _) _ _ _); (k_dflt (refine' raise67 ?r1 ?r2 ?r3 ?r4 ?r5 ?r6 ?r7 ?r8 ?r9 ?r10 ?r11 ?r12 ?_; (case r1 => (simp only [recursionLimit] at *; lia)); (case r2 => lia); (case r3 => rfl); (case r4 => rfl); (case r5 => rfl); (case r6 => decide); (case r7 => k_is); (case r8 => rfl); (case r9 => k_asm); (case r10 => k_asm); (case r11 => k_asm); (case r12 => k_asm); k_whole)); k_steps) | (((with_reducible show wpAny _ _ (formatField (Value.int _ _) _) _ _ _); (refine fmt_int (by lia) (by lia) ?_); intro y' t' k' hy'; have hz2 := sz2 hy'; have hz3 := sz3 hy'); k_steps) | (((with_reducible show wpAny _ _ (joinParts _ (evalEach [] _)) _ _ _); (with_reducible refine join_end (by assumption) ?_)); k_steps) | fail))
      · exact F4
      · exact N4
      · rename RaisedSN _ _ _ _ (.ref 67) _ _ => R9
        rename g4.UpToSlots _ => U9
        exact hraise hrd _ _ _ _ FX (sn_turn T4 R9) (up_turn T4 U9)
end
theorem pad10 {prog : PySem.Program} {w : PySem.World} {A : PySem.Around} {E : PySem.Value → PySem.Shared → Prop} {s : PySem.Shared} {env : PySem.Env} {Q : PySem.Flow → PySem.Shared → Prop} (h : Q .next s) : PySem.wpAny (PySem.model prog w) A (PySem.execs [] env) Q E s := by
  walk1
  exact h
section
open PySem PySem.W PySem.Calls PyProof.Rows
local macro_rules | `(tactic| walk_at "exec While Compare cons nil") => `(tactic| refine Stop.go ?_)
local macro_rules | `(tactic| walk_at "call ref") => `(tactic| with_reducible refine Stop.c2 ?_)
local macro_rules | `(tactic| walk_at "leaving ref") => `(tactic| refine Stop.go ?_)
local macro_rules | `(tactic| k_all) => `(tactic| assumption)
local macro_rules | `(tactic| walk_at "call builtin:list.append") => `(tactic| refine Stop.go ?_)
noncomputable abbrev tup2 (v : Value) (e : Int) (te : Tok) : Obj := { cls := .type "tuple", data := .seq #[v, .int e te] }
noncomputable def ItemC (ks : List Int) (F : Nat) : Prop := ∀ {w : World} {loose : List Str} {mean : ExcName → Option Value} {mg mb : Str → Option Value} {dp un : Nat} {gd : Option (List Code)} {env : Env} {outer : List Env} {A₀ : Around} {base h₀ : Heap} {L : Addr} {m : Str → Option Value} {news : List (Addr × Obj)} {s : Shared} {Q E : Value → Shared → Prop},
    Cx w loose mean mg mb env outer A₀ base h₀ L m news s.heap → 2 * dp + F + 60 < 2000 → 2 * un + 3 * F + 400 < 19800 → ∀ (b : Array UInt8), KBw.bInts b = ks → ∀ (st : Int) (t1 t2 : Tok), 0 ≤ st → 2 * ((ks.length : Int) + 1 - st) ≤ F + 1 →
    (∀ D v e te d tl h' tk', Bk h₀ L m news tl h' → (D, tup2 v e te) ∈ tl → RlpIn tl v d → st < e → st < ks.length → (e ≤ ks.length → rdItem ks F st = some (d, e)) → (ks.length < e → rdItem ks F st = none) → Q (.ref D) { s with heap := h', toks := tk' }) →
    (rdItem ks F st = none → ∀ g h' e tk', Fr h₀ L g m → RaisedSN base g (env :: outer) e (.ref 1438) [] h' → g.UpToSlots h' → E (.ref e) { s with heap := h', toks := tk' }) →
    wpAny (model PySem.Challenge.rw_jm0023_01.prog w) (kT dp un gd env outer) (call (.ref 1462) [.bytes b t1, .int st t2]) Q E s
theorem nm {α : Type} {x : Option (α × Int)} {e : Int} (h : x = none) : ∀ d, x ≠ some (d, e) := fun _ q => by rw [h] at q; nomatch q
theorem nj {α : Type} {x : Option (α × Int)} {a : α} {j e : Int} (h : x = some (a, j)) (hj : j ≠ e) : ∀ d, x ≠ some (d, e) := fun _ q => by rw [h] at q; exact hj (Prod.mk.inj (Option.some.inj q)).2
/-- what stands behind the head of a list -/
noncomputable def restL : List Stmt := (bOf fn27).drop ((bOf fn27).length - 4)
noncomputable abbrev evI (L : Addr) : Env := envOf (Str.ofString "_rlp_item") (scOf fn27) L 1462 (.ref 1461)
namespace c_nrestE
noncomputable def P (ks : List Int) (F : Nat) (w : World) (loose : List Str) (mean : ExcName → Option Value) (mg : Str → Option Value) (mb : Str → Option Value) (dp : Nat) (un : Nat) (gd : Option (List Code)) (env : Env) (outer : List Env) (base : Heap) (g : Heap) (L : Addr) (m : Str → Option Value) (news : List (Addr × Obj)) (s : Shared) (Q : Flow → Shared → Prop) (E : Value → Shared → Prop) (b : Array UInt8) (s0 : Int) (e : Int) (te : Tok) (tb : Tok) (tn : Tok) : Prop := ∀ (hlen : ks.length ≤ 304) (ih : ∀ F' < F, ItemC ks F') (B : Below (kT dp un gd env outer) base (env :: outer) g) (X : (K w.params).In g) (T : Top vq loose mean mg mb g) (hroom : 2 * dp + F + 60 < 2000) (hun : 2 * un + 3 * F + 400 < 19800) (hb : KBw.bInts b = ks) (h0 : 0 ≤ s0) (hF : 2 * ((ks.length : Int) + 1 - s0) ≤ ((F - 1 : Nat) : Int)) (hs : s0 ≤ ks.length ∨ s0 < e) (hF1 : 2 ≤ F) (F0 : Fr g L s.heap (kstB m [(Str.ofString "octets", .bytes b tb), (Str.ofString "start", .int s0 tn), (Str.ofString "end", .int e te)])) (N0 : News g L s.heap news) (hret : ∀ D aI vsI nI te' ds tl h' tk' m', Fr g L h' m' → News g L h' ((D, tup2 (.ref aI) e te') :: (aI, listOf vsI nI) :: (tl ++ news)) → (∀ p ∈ (aI, listOf vsI nI) :: (tl ++ news), p.1 < D) → (∀ q ∈ news, q.1 < aI) → (∀ q ∈ news, ∀ p ∈ tl, q.1 < p.1) → RlpIn ((aI, listOf vsI nI) :: tl) (.ref aI) (.list ds) → (e ≤ ks.length → rdMany ks (F - 1) s0 e = some (ds, e)) → (ks.length < e → ∀ d, rdMany ks (F - 1) s0 e ≠ some (d, e)) → Q (.ret (.ref D)) { s with heap := h', toks := tk' }) (hraise : (∀ d, rdMany ks (F - 1) s0 e ≠ some (d, e)) → ∀ h' ex tk', RaisedSN base g (env :: outer) ex (.ref 1438) [] h' → g.UpToSlots h' → E (.ref ex) { s with heap := h', toks := tk' }), wpAny (model PySem.Challenge.rw_jm0023_01.prog w) ((kT dp un gd env outer).deeper (evI L)) (execs restL (evI L)) Q (fun e s' => wpAny (model PySem.Challenge.rw_jm0023_01.prog w) ((kT dp un gd env outer).deeper (evI L)) (leaving (evI L) e) (fun _ s'' => E e s'') (fun e' s'' => E e' s'') s') s
noncomputable def epsC : (List Int) × Nat × World × (List Str) × (ExcName → Option Value) × (Str → Option Value) × (Str → Option Value) × Nat × Nat × (Option (List Code)) × Env × (List Env) × Heap × Heap × Addr × (Str → Option Value) × (List (Addr × Obj)) × Shared × (Flow → Shared → Prop) × (Value → Shared → Prop) × (Array UInt8) × Int × Int × Tok × Tok × Tok := @Classical.epsilon ((List Int) × Nat × World × (List Str) × (ExcName → Option Value) × (Str → Option Value) × (Str → Option Value) × Nat × Nat × (Option (List Code)) × Env × (List Env) × Heap × Heap × Addr × (Str → Option Value) × (List (Addr × Obj)) × Shared × (Flow → Shared → Prop) × (Value → Shared → Prop) × (Array UInt8) × Int × Int × Tok × Tok × Tok) ⟨([], 0, ⟨fun _ _ => 0, { strHash := fun _ => 0, shareClass := fun _ => 0, mergeTok := fun t => t, idOf := fun _ => 0, idOfShared := fun _ _ => 0, followText := fun _ => false, idOfImm := fun _ => 0 }⟩, [], (fun _ => none), (fun _ => none), (fun _ => none), 0, 0, none, default, [], {}, {}, (0 : Nat), (fun _ => none), [], {}, (fun _ _ => True), (fun _ _ => True), #[], 0, 0, (0 : Nat), (0 : Nat), (0 : Nat))⟩ fun p => ¬ P p.1 p.2.1 p.2.2.1 p.2.2.2.1 p.2.2.2.2.1 p.2.2.2.2.2.1 p.2.2.2.2.2.2.1 p.2.2.2.2.2.2.2.1 p.2.2.2.2.2.2.2.2.1 p.2.2.2.2.2.2.2.2.2.1 p.2.2.2.2.2.2.2.2.2.2.1 p.2.2.2.2.2.2.2.2.2.2.2.1 p.2.2.2.2.2.2.2.2.2.2.2.2.1 p.2.2.2.2.2.2.2.2.2.2.2.2.2.1 p.2.2.2.2.2.2.2.2.2.2.2.2.2.2.1 p.2.2.2.2.2.2.2.2.2.2.2.2.2.2.2.1 p.2.2.2.2.2.2.2.2.2.2.2.2.2.2.2.2.1 p.2.2.2.2.2.2.2.2.2.2.2.2.2.2.2.2.2.1 p.2.2.2.2.2.2.2.2.2.2.2.2.2.2.2.2.2.2.1 p.2.2.2.2.2.2.2.2.2.2.2.2.2.2.2.2.2.2.2.1 p.2.2.2.2.2.2.2.2.2.2.2.2.2.2.2.2.2.2.2.2.1 p.2.2.2.2.2.2.2.2.2.2.2.2.2.2.2.2.2.2.2.2.2.1 p.2.2.2.2.2.2.2.2.2.2.2.2.2.2.2.2.2.2.2.2.2.2.1 p.2.2.2.2.2.2.2.2.2.2.2.2.2.2.2.2.2.2.2.2.2.2.2.1 p.2.2.2.2.2.2.2.2.2.2.2.2.2.2.2.2.2.2.2.2.2.2.2.2.1 p.2.2.2.2.2.2.2.2.2.2.2.2.2.2.2.2.2.2.2.2.2.2.2.2.2
@[irreducible] noncomputable def ks : List Int := epsC.1
@[irreducible] noncomputable def F : Nat := epsC.2.1
@[irreducible] noncomputable def w : World := epsC.2.2.1
@[irreducible] noncomputable def loose : List Str := epsC.2.2.2.1
@[irreducible] noncomputable def mean : ExcName → Option Value := epsC.2.2.2.2.1
@[irreducible] noncomputable def mg : Str → Option Value := epsC.2.2.2.2.2.1
@[irreducible] noncomputable def mb : Str → Option Value := epsC.2.2.2.2.2.2.1
@[irreducible] noncomputable def dp : Nat := epsC.2.2.2.2.2.2.2.1
@[irreducible] noncomputable def un : Nat := epsC.2.2.2.2.2.2.2.2.1
@[irreducible] noncomputable def gd : Option (List Code) := epsC.2.2.2.2.2.2.2.2.2.1
@[irreducible] noncomputable def env : Env := epsC.2.2.2.2.2.2.2.2.2.2.1
@[irreducible] noncomputable def outer : List Env := epsC.2.2.2.2.2.2.2.2.2.2.2.1
@[irreducible] noncomputable def base : Heap := epsC.2.2.2.2.2.2.2.2.2.2.2.2.1
@[irreducible] noncomputable def g : Heap := epsC.2.2.2.2.2.2.2.2.2.2.2.2.2.1
@[irreducible] noncomputable def L : Addr := epsC.2.2.2.2.2.2.2.2.2.2.2.2.2.2.1
@[irreducible] noncomputable def m : Str → Option Value := epsC.2.2.2.2.2.2.2.2.2.2.2.2.2.2.2.1
@[irreducible] noncomputable def news : List (Addr × Obj) := epsC.2.2.2.2.2.2.2.2.2.2.2.2.2.2.2.2.1
@[irreducible] noncomputable def s : Shared := epsC.2.2.2.2.2.2.2.2.2.2.2.2.2.2.2.2.2.1
@[irreducible] noncomputable def Q : Flow → Shared → Prop := epsC.2.2.2.2.2.2.2.2.2.2.2.2.2.2.2.2.2.2.1
@[irreducible] noncomputable def E : Value → Shared → Prop := epsC.2.2.2.2.2.2.2.2.2.2.2.2.2.2.2.2.2.2.2.1
@[irreducible] noncomputable def b : Array UInt8 := epsC.2.2.2.2.2.2.2.2.2.2.2.2.2.2.2.2.2.2.2.2.1
@[irreducible] noncomputable def s0 : Int := epsC.2.2.2.2.2.2.2.2.2.2.2.2.2.2.2.2.2.2.2.2.2.1
@[irreducible] noncomputable def e : Int := epsC.2.2.2.2.2.2.2.2.2.2.2.2.2.2.2.2.2.2.2.2.2.2.1
@[irreducible] noncomputable def te : Tok := epsC.2.2.2.2.2.2.2.2.2.2.2.2.2.2.2.2.2.2.2.2.2.2.2.1
@[irreducible] noncomputable def tb : Tok := epsC.2.2.2.2.2.2.2.2.2.2.2.2.2.2.2.2.2.2.2.2.2.2.2.2.1
@[irreducible] noncomputable def tn : Tok := epsC.2.2.2.2.2.2.2.2.2.2.2.2.2.2.2.2.2.2.2.2.2.2.2.2.2
set_option maxHeartbeats 4000000 in
theorem main : P ks F w loose mean mg mb dp un gd env outer base g L m news s Q E b s0 e te tb tn := by
  intro hlen ih B X T hroom hun hb h0 hF hs hF1 F0 N0 hret hraise
  have hr : recursionLimit = 1000 := rfl
  have hc : cLine = 9900 := rfl
  revert X; k_fill; intro X
  unfold restL
  show wpAny _ _ (execs (_ :: _ :: _ :: _ :: []) _) _ _ _
  (k_steps; repeat' ((with_reducible refine Stop.mk ?_); first | (((with_reducible show wpAny _ _ (call (Value.ref _) [Value.bytes _ _, Value.str _ _]) _ _ _); kfb_any; k_dflt (refine KFB.call_big (by k_asm) (by k_mem) (by assumption) (by first | assumption | exact cut8 (by lia) (by lia) (by lia)) ?_); intro _ _; (try dsimp only)); k_steps) | (((with_reducible rename Heap.MadeExcOf _ _ _ _ _ => mX); k_dflt (refine leave_raiseS (by k_asm) mX (by k_asm) News.nil ?_); intro h' t' R' RK' U'; (try dsimp only at R' U' ⊢)); k_steps) | (((with_reducible show wpAny _ _ (call (Value.builtin _) [Value.ref _, _]) _ _ _); k_dflt (refine' append_K ?k1 ?k2 ?k3 ?_ ?z; (case k1 => k_asm); (case k2 => k_asm); (case k3 => k_upd); (case z => (rw [sizeLine_eq, List.size_toArray]; lia)); k_whole); intro h' F' N'; (try k_sweep)); k_steps) | fail))
  refine ⟨?_⟩
  rename News _ _ _ ((_, W.listOf #[] 0) :: _) => N1
  rename Fr _ _ _ _ => F1
  rename ∀ p ∈ news, p.1 < _ => hlt0
  refine nloop ks (F - 1) F1 N1 hlt0 rfl rfl rfl rfl hF hs ?_
  clear F1 N1 hlt0
  rintro k m₁ nx h₁ tk₁ F₁ N₁ ⟨nxt, tn, ds, vsI, nI, tl, rfl, rfl, hm, ha, ho, hlt, hI, h304, hIn, hsn, hgood, hbad⟩
  rw [← kst_self hm] at F₁
  show wpAny _ _ _ _ _ _
  (k_steps; repeat' ((with_reducible refine Stop.mk ?_); first | (((with_reducible show wpAny _ _ (call (Value.ref _) [Value.bytes _ _, Value.str _ _]) _ _ _); kfb_any; k_dflt (refine KFB.call_big (by k_asm) (by k_mem) (by assumption) (by first | assumption | exact cut8 (by lia) (by lia) (by lia)) ?_); intro _ _; (try dsimp only)); k_steps) | (((with_reducible rename Heap.MadeExcOf _ _ _ _ _ => mX); k_dflt (refine leave_raiseS (by k_asm) mX (by k_asm) News.nil ?_); intro h' t' R' RK' U'; (try dsimp only at R' U' ⊢)); k_steps) | (((with_reducible show wpAny _ _ (call (Value.builtin _) [Value.ref _, _]) _ _ _); k_dflt (refine' append_K ?k1 ?k2 ?k3 ?_ ?z; (case k1 => k_asm); (case k2 => k_asm); (case k3 => k_upd); (case z => (rw [sizeLine_eq, List.size_toArray]; lia)); k_whole); intro h' F' N'; (try k_sweep)); k_steps) | fail))
  · by_cases gg : nxt ≤ (ks.length : Int)
    · obtain ⟨Fk, gf1, gf2, gf3⟩ := hgood gg
      obtain ⟨Fk', rfl⟩ : ∃ F', Fk = F' + 1 := ⟨Fk - 1, by clear hgood hbad; lia⟩
      obtain ⟨s1, s2⟩ := rdMany_step gf3 (by assumption)
      refine ⟨ih Fk' (by clear hgood hbad; lia) (dp := dp + 1) (un := un + 3) (outer := env :: outer) ⟨(by assumption), (by assumption), (by assumption), (by assumption), (by assumption), rfl, rfl⟩ (by clear hgood hbad; lia) (by clear hgood hbad; lia) b hb nxt _ _ (by clear hgood hbad; lia) (by clear hgood hbad; lia) ?_ ?_⟩
      · intro D v e2 te2 d tl2 h3 tk3 hB hD hR hlt2 hN hgd hbd
        obtain ⟨FF3, NN3, oo⟩ := hB
        have NN4 := news_turn hD NN3
        have hq3 := apart_turn oo ha
        have ho3 := order_turn oo ho
        have o1 := ltN (oo _ (.head _) _ hD)
        dsimp only at hq3 o1
        clear NN3
        k_sweep
        (k_steps; repeat' ((with_reducible refine Stop.mk ?_); first | (((with_reducible show wpAny _ _ (call (Value.ref _) [Value.bytes _ _, Value.str _ _]) _ _ _); kfb_any; k_dflt (refine KFB.call_big (by k_asm) (by k_mem) (by assumption) (by first | assumption | exact cut8 (by lia) (by lia) (by lia)) ?_); intro _ _; (try dsimp only)); k_steps) | (((with_reducible rename Heap.MadeExcOf _ _ _ _ _ => mX); k_dflt (refine leave_raiseS (by k_asm) mX (by k_asm) News.nil ?_); intro h' t' R' RK' U'; (try dsimp only at R' U' ⊢)); k_steps) | (((with_reducible show wpAny _ _ (call (Value.builtin _) [Value.ref _, _]) _ _ _); k_dflt (refine' append_K ?k1 ?k2 ?k3 ?_ ?z; (case k1 => k_asm); (case k2 => k_asm); (case k3 => k_upd); (case z => (rw [sizeLine_eq, List.size_toArray]; lia)); k_whole); intro h' F' N'; (try k_sweep)); k_steps) | fail))
        rename News _ _ _ (_ :: _ :: _) => NE
        rename Fr _ _ _ _ => FE
        simp only [List.push_toArray] at NE
        refine ⟨_, _, _, _, _, rfl, FE, kst_newsOf NE (fun z hz => .tail _ hz), ?_, e2, te2, ds.snoc d, vsI ++ [v], _, tl2 ++ tl, rfl, rfl, my4 rfl rfl rfl rfl, hq3, ho3, hlt, ?_, ?_, ?_, ?_, ?_, ?_⟩
        · clear hgood hbad; lia
        · exact RlpsIn.snoc (RlpsIn.mono (fun z hz => List.mem_append_right _ hz) hI) (RlpIn.mono (fun z hz => List.mem_append_left _ hz) hR)
        · rw [List.length_append, List.length_cons, List.length_nil]; clear hgood hbad; lia
        · rw [List.length_append, List.length_cons, List.length_nil]; clear hgood hbad; lia
        · clear hgood hbad; lia
        · exact fun g => ⟨Fk', by clear hgood hbad; lia, by clear hgood hbad; lia, s1 d _ (hgd g)⟩
        · exact fun g => s2 (hbd g)
      · intro hno g2 h3 e3 tk3 FF3 R3 U3
        exact leave_onSN (by assumption) FF3 R3 U3 (fun h4 R4 _ U4 => hraise (nm (s2 hno)) _ _ _ R4 U4)
    · refine ⟨ih 0 (by clear hgood hbad; lia) (dp := dp + 1) (un := un + 3) (outer := env :: outer) ⟨(by assumption), (by assumption), (by assumption), (by assumption), (by assumption), rfl, rfl⟩ (by clear hgood hbad; lia) (by clear hgood hbad; lia) b hb nxt _ _ (by clear hgood hbad; lia) (by clear hgood hbad; lia) ?_ ?_⟩
      · intro D v e2 te2 d tl2 h3 tk3 hB hD hR hlt2 hN hgd hbd
        exact absurd (Int.le_of_lt hN) gg
      · intro hno g2 h3 e3 tk3 FF3 R3 U3
        exact leave_onSN (by assumption) FF3 R3 U3 (fun h4 R4 _ U4 => hraise (nm (hbad (Int.not_le.mp gg))) _ _ _ R4 U4)
  · refine hraise ?_ _ _ _ (RaisedS.toSN (by assumption)) (by assumption)
    by_cases gg : nxt ≤ (ks.length : Int)
    · obtain ⟨Fk, gf1, gf2, gf3⟩ := hgood gg
      obtain ⟨Fk', rfl⟩ : ∃ F', Fk = F' + 1 := ⟨Fk - 1, by clear hgood hbad; lia⟩
      exact nj (rdMany_end gf3 (by assumption)) (Int.ne_of_gt (by assumption))
    · exact nm (hbad (Int.not_le.mp gg))
  · rename News _ _ _ (_ :: _ :: _) => NN
    rename Fr _ _ _ _ => FN
    rename _ ∧ AllLt _ (tl ++ _) => lZ
    refine hret _ _ _ _ _ ds _ _ _ _ FN NN (allLt_mem lZ) hlt ho (.list (.head _) (RlpsIn.mono (fun z hz => .tail _ hz) hI)) (fun g => ?_) (fun g => ?_)
    · obtain ⟨Fk, gf1, gf2, gf3⟩ := hgood (by clear hgood hbad; lia)
      obtain ⟨Fk', rfl⟩ : ∃ F', Fk = F' + 1 := ⟨Fk - 1, by clear hgood hbad; lia⟩
      have he : nxt = e := Int.le_antisymm (Int.not_lt.mp (by assumption)) (Int.not_lt.mp (by assumption))
      have hz := rdMany_end gf3 (by assumption)
      rw [he] at hz
      exact hz
    · exact nm (hbad (by clear hgood hbad; lia))
theorem all (p : (List Int) × Nat × World × (List Str) × (ExcName → Option Value) × (Str → Option Value) × (Str → Option Value) × Nat × Nat × (Option (List Code)) × Env × (List Env) × Heap × Heap × Addr × (Str → Option Value) × (List (Addr × Obj)) × Shared × (Flow → Shared → Prop) × (Value → Shared → Prop) × (Array UInt8) × Int × Int × Tok × Tok × Tok) : P p.1 p.2.1 p.2.2.1 p.2.2.2.1 p.2.2.2.2.1 p.2.2.2.2.2.1 p.2.2.2.2.2.2.1 p.2.2.2.2.2.2.2.1 p.2.2.2.2.2.2.2.2.1 p.2.2.2.2.2.2.2.2.2.1 p.2.2.2.2.2.2.2.2.2.2.1 p.2.2.2.2.2.2.2.2.2.2.2.1 p.2.2.2.2.2.2.2.2.2.2.2.2.1 p.2.2.2.2.2.2.2.2.2.2.2.2.2.1 p.2.2.2.2.2.2.2.2.2.2.2.2.2.2.1 p.2.2.2.2.2.2.2.2.2.2.2.2.2.2.2.1 p.2.2.2.2.2.2.2.2.2.2.2.2.2.2.2.2.1 p.2.2.2.2.2.2.2.2.2.2.2.2.2.2.2.2.2.1 p.2.2.2.2.2.2.2.2.2.2.2.2.2.2.2.2.2.2.1 p.2.2.2.2.2.2.2.2.2.2.2.2.2.2.2.2.2.2.2.1 p.2.2.2.2.2.2.2.2.2.2.2.2.2.2.2.2.2.2.2.2.1 p.2.2.2.2.2.2.2.2.2.2.2.2.2.2.2.2.2.2.2.2.2.1 p.2.2.2.2.2.2.2.2.2.2.2.2.2.2.2.2.2.2.2.2.2.2.1 p.2.2.2.2.2.2.2.2.2.2.2.2.2.2.2.2.2.2.2.2.2.2.2.1 p.2.2.2.2.2.2.2.2.2.2.2.2.2.2.2.2.2.2.2.2.2.2.2.2.1 p.2.2.2.2.2.2.2.2.2.2.2.2.2.2.2.2.2.2.2.2.2.2.2.2.2 := Classical.byContradiction fun n => Classical.epsilon_spec (p := fun p => ¬ P p.1 p.2.1 p.2.2.1 p.2.2.2.1 p.2.2.2.2.1 p.2.2.2.2.2.1 p.2.2.2.2.2.2.1 p.2.2.2.2.2.2.2.1 p.2.2.2.2.2.2.2.2.1 p.2.2.2.2.2.2.2.2.2.1 p.2.2.2.2.2.2.2.2.2.2.1 p.2.2.2.2.2.2.2.2.2.2.2.1 p.2.2.2.2.2.2.2.2.2.2.2.2.1 p.2.2.2.2.2.2.2.2.2.2.2.2.2.1 p.2.2.2.2.2.2.2.2.2.2.2.2.2.2.1 p.2.2.2.2.2.2.2.2.2.2.2.2.2.2.2.1 p.2.2.2.2.2.2.2.2.2.2.2.2.2.2.2.2.1 p.2.2.2.2.2.2.2.2.2.2.2.2.2.2.2.2.2.1 p.2.2.2.2.2.2.2.2.2.2.2.2.2.2.2.2.2.2.1 p.2.2.2.2.2.2.2.2.2.2.2.2.2.2.2.2.2.2.2.1 p.2.2.2.2.2.2.2.2.2.2.2.2.2.2.2.2.2.2.2.2.1 p.2.2.2.2.2.2.2.2.2.2.2.2.2.2.2.2.2.2.2.2.2.1 p.2.2.2.2.2.2.2.2.2.2.2.2.2.2.2.2.2.2.2.2.2.2.1 p.2.2.2.2.2.2.2.2.2.2.2.2.2.2.2.2.2.2.2.2.2.2.2.1 p.2.2.2.2.2.2.2.2.2.2.2.2.2.2.2.2.2.2.2.2.2.2.2.2.1 p.2.2.2.2.2.2.2.2.2.2.2.2.2.2.2.2.2.2.2.2.2.2.2.2.2) ⟨p, n⟩ (by with_unfolding_all exact main)
end c_nrestE
theorem c_nrest {ks : List Int} {F : Nat} {w : World} {loose : List Str} {mean : ExcName → Option Value} {mg mb : Str → Option Value} {dp un : Nat} {gd : Option (List Code)} {env : Env} {outer : List Env} {base g : Heap} {L : Addr} {m : Str → Option Value} {news : List (Addr × Obj)} {s : Shared} {Q : Flow → Shared → Prop} {E : Value → Shared → Prop} {b : Array UInt8} {s0 e : Int} {te tb tn : Tok} (hlen : ks.length ≤ 304) (ih : ∀ F' < F, ItemC ks F') (B : Below (kT dp un gd env outer) base (env :: outer) g) (X : (K w.params).In g) (T : Top vq loose mean mg mb g) (hroom : 2 * dp + F + 60 < 2000) (hun : 2 * un + 3 * F + 400 < 19800) (hb : KBw.bInts b = ks) (h0 : 0 ≤ s0) (hF : 2 * ((ks.length : Int) + 1 - s0) ≤ ((F - 1 : Nat) : Int)) (hs : s0 ≤ ks.length ∨ s0 < e) (hF1 : 2 ≤ F) (F0 : Fr g L s.heap (kstB m [(Str.ofString "octets", .bytes b tb), (Str.ofString "start", .int s0 tn), (Str.ofString "end", .int e te)])) (N0 : News g L s.heap news) (hret : ∀ D aI vsI nI te' ds tl h' tk' m', Fr g L h' m' → News g L h' ((D, tup2 (.ref aI) e te') :: (aI, listOf vsI nI) :: (tl ++ news)) → (∀ p ∈ (aI, listOf vsI nI) :: (tl ++ news), p.1 < D) → (∀ q ∈ news, q.1 < aI) → (∀ q ∈ news, ∀ p ∈ tl, q.1 < p.1) → RlpIn ((aI, listOf vsI nI) :: tl) (.ref aI) (.list ds) → (e ≤ ks.length → rdMany ks (F - 1) s0 e = some (ds, e)) → (ks.length < e → ∀ d, rdMany ks (F - 1) s0 e ≠ some (d, e)) → Q (.ret (.ref D)) { s with heap := h', toks := tk' }) (hraise : (∀ d, rdMany ks (F - 1) s0 e ≠ some (d, e)) → ∀ h' ex tk', RaisedSN base g (env :: outer) ex (.ref 1438) [] h' → g.UpToSlots h' → E (.ref ex) { s with heap := h', toks := tk' })
    :
    wpAny (model PySem.Challenge.rw_jm0023_01.prog w) ((kT dp un gd env outer).deeper (evI L)) (execs restL (evI L)) Q (fun e s' => wpAny (model PySem.Challenge.rw_jm0023_01.prog w) ((kT dp un gd env outer).deeper (evI L)) (leaving (evI L) e) (fun _ s'' => E e s'') (fun e' s'' => E e' s'') s') s := c_nrestE.all (ks, F, w, loose, mean, mg, mb, dp, un, gd, env, outer, base, g, L, m, news, s, Q, E, b, s0, e, te, tb, tn) hlen ih B X T hroom hun hb h0 hF hs hF1 F0 N0 hret hraise
theorem Stop.xs {M : Model} {A : Around} {E : Value → Shared → Prop} {s : Shared} {Q : Flow → Shared → Prop} {a b c d : _} {env : Env} (H : Stop (wpAny M A (execs (Stmt.Assign [Expr.Name (Str.ofString "items") a] b c :: d) env) Q E s)) : wpAny M A (execs (Stmt.Assign [Expr.Name (Str.ofString "items") a] b c :: d) env) Q E s := H.go
theorem my3 {α : Type} {P : α → Prop} {a b c : α} (h1 : P a) (h2 : P b) (h3 : P c) : ∀ p ∈ [a, b, c], P p := by
  intro p hp
  rcases List.mem_cons.mp hp with rfl | hp
  · exact h1
  rcases List.mem_cons.mp hp with rfl | hp
  · exact h2
  rcases List.mem_cons.mp hp with rfl | hp
  · exact h3
  nomatch hp
theorem fr3 {g h : Heap} {L : Addr} {m : Str → Option Value} {x y z : Str} {u v w : Value} (F : Fr g L h m) (h1 : m x = some u) (h2 : m y = some v) (h3 : m z = some w) : Fr g L h (kstB m [(x, u), (y, v), (z, w)]) := by
  rw [kst_self (my3 h1 h2 h3)]; exact F
theorem fin_list_not {ks : List Int} {st n s0 : Int} {F : Nat} (hhd : hd ks st = some (true, n, s0)) (hm : ∀ d, rdMany ks (F - 1) s0 (s0 + n) ≠ some (d, s0 + n)) : rdItem ks F st = none := by
  cases F with
  | zero => rfl
  | succ F' =>
    rw [rdItem_eq, hhd]
    show (match rdMany ks F' s0 (s0 + n) with | none => none | some (ds, j) => if j = s0 + n then some (Rlp.list ds, j) else none) = _
    have hm' : ∀ d, rdMany ks F' s0 (s0 + n) ≠ some (d, s0 + n) := hm
    cases hx : rdMany ks F' s0 (s0 + n) with
    | none => rfl
    | some p => exact if_neg fun q => hm' p.1 (by rw [hx, ← q])
end
theorem pad11 {prog : PySem.Program} {w : PySem.World} {A : PySem.Around} {E : PySem.Value → PySem.Shared → Prop} {s : PySem.Shared} {env : PySem.Env} {Q : PySem.Flow → PySem.Shared → Prop} (h : Q .next s) : PySem.wpAny (PySem.model prog w) A (PySem.execs [] env) Q E s := by
  walk1
  exact h
section
open PySem PySem.W PySem.Calls PyProof.Rows
local macro_rules | `(tactic| walk_at "call ref") => `(tactic| with_reducible refine Stop.c2 ?_)
local macro_rules | `(tactic| walk_at "leaving ref") => `(tactic| refine Stop.go ?_)
local macro_rules | `(tactic| walk_at "execs cons") => `(tactic| with_reducible refine Stop.xs ?_)
namespace c_nitemxE
noncomputable def P (ks : List Int) (F : Nat) (w : World) (loose : List Str) (mean : ExcName → Option Value) (mg : Str → Option Value) (mb : Str → Option Value) (dp : Nat) (un : Nat) (gd : Option (List Code)) (env : Env) (outer : List Env) (A₀ : Around) (base : Heap) (h₀ : Heap) (L : Addr) (m : Str → Option Value) (news : List (Addr × Obj)) (s : Shared) (Q : Value → Shared → Prop) (E : Value → Shared → Prop) (b : Array UInt8) (t1 : Tok) (t2 : Tok) : Prop := ∀ (hks : ∀ k ∈ ks, 0 ≤ k ∧ k < 256) (hlen : ks.length ≤ 304) (ih : ∀ F' < F, ItemC ks F') (C : Cx w loose mean mg mb env outer A₀ base h₀ L m news s.heap) (hroom : 2 * dp + F + 60 < 2000) (hun : 2 * un + 3 * F + 400 < 19800) (hb : KBw.bInts b = ks) (st : Int) (hst : 0 ≤ st) (hF : 2 * ((ks.length : Int) + 1 - st) ≤ F + 1) (hret : (∀ D v e te d tl h' tk', Bk h₀ L m news tl h' → (D, tup2 v e te) ∈ tl → RlpIn tl v d → st < e → st < ks.length → (e ≤ ks.length → rdItem ks F st = some (d, e)) → (ks.length < e → rdItem ks F st = none) → Q (.ref D) { s with heap := h', toks := tk' })) (hraise : (rdItem ks F st = none → ∀ g h' e tk', Fr h₀ L g m → RaisedSN base g (env :: outer) e (.ref 1438) [] h' → g.UpToSlots h' → E (.ref e) { s with heap := h', toks := tk' })), wpAny (model PySem.Challenge.rw_jm0023_01.prog w) (kT dp un gd env outer) (call (.ref 1462) [.bytes b t1, .int st t2]) Q E s
noncomputable def epsC : (List Int) × Nat × World × (List Str) × (ExcName → Option Value) × (Str → Option Value) × (Str → Option Value) × Nat × Nat × (Option (List Code)) × Env × (List Env) × Around × Heap × Heap × Addr × (Str → Option Value) × (List (Addr × Obj)) × Shared × (Value → Shared → Prop) × (Value → Shared → Prop) × (Array UInt8) × Tok × Tok := @Classical.epsilon ((List Int) × Nat × World × (List Str) × (ExcName → Option Value) × (Str → Option Value) × (Str → Option Value) × Nat × Nat × (Option (List Code)) × Env × (List Env) × Around × Heap × Heap × Addr × (Str → Option Value) × (List (Addr × Obj)) × Shared × (Value → Shared → Prop) × (Value → Shared → Prop) × (Array UInt8) × Tok × Tok) ⟨([], 0, ⟨fun _ _ => 0, { strHash := fun _ => 0, shareClass := fun _ => 0, mergeTok := fun t => t, idOf := fun _ => 0, idOfShared := fun _ _ => 0, followText := fun _ => false, idOfImm := fun _ => 0 }⟩, [], (fun _ => none), (fun _ => none), (fun _ => none), 0, 0, none, default, [], {}, {}, {}, (0 : Nat), (fun _ => none), [], {}, (fun _ _ => True), (fun _ _ => True), #[], (0 : Nat), (0 : Nat))⟩ fun p => ¬ P p.1 p.2.1 p.2.2.1 p.2.2.2.1 p.2.2.2.2.1 p.2.2.2.2.2.1 p.2.2.2.2.2.2.1 p.2.2.2.2.2.2.2.1 p.2.2.2.2.2.2.2.2.1 p.2.2.2.2.2.2.2.2.2.1 p.2.2.2.2.2.2.2.2.2.2.1 p.2.2.2.2.2.2.2.2.2.2.2.1 p.2.2.2.2.2.2.2.2.2.2.2.2.1 p.2.2.2.2.2.2.2.2.2.2.2.2.2.1 p.2.2.2.2.2.2.2.2.2.2.2.2.2.2.1 p.2.2.2.2.2.2.2.2.2.2.2.2.2.2.2.1 p.2.2.2.2.2.2.2.2.2.2.2.2.2.2.2.2.1 p.2.2.2.2.2.2.2.2.2.2.2.2.2.2.2.2.2.1 p.2.2.2.2.2.2.2.2.2.2.2.2.2.2.2.2.2.2.1 p.2.2.2.2.2.2.2.2.2.2.2.2.2.2.2.2.2.2.2.1 p.2.2.2.2.2.2.2.2.2.2.2.2.2.2.2.2.2.2.2.2.1 p.2.2.2.2.2.2.2.2.2.2.2.2.2.2.2.2.2.2.2.2.2.1 p.2.2.2.2.2.2.2.2.2.2.2.2.2.2.2.2.2.2.2.2.2.2.1 p.2.2.2.2.2.2.2.2.2.2.2.2.2.2.2.2.2.2.2.2.2.2.2
@[irreducible] noncomputable def ks : List Int := epsC.1
@[irreducible] noncomputable def F : Nat := epsC.2.1
@[irreducible] noncomputable def w : World := epsC.2.2.1
@[irreducible] noncomputable def loose : List Str := epsC.2.2.2.1
@[irreducible] noncomputable def mean : ExcName → Option Value := epsC.2.2.2.2.1
@[irreducible] noncomputable def mg : Str → Option Value := epsC.2.2.2.2.2.1
@[irreducible] noncomputable def mb : Str → Option Value := epsC.2.2.2.2.2.2.1
@[irreducible] noncomputable def dp : Nat := epsC.2.2.2.2.2.2.2.1
@[irreducible] noncomputable def un : Nat := epsC.2.2.2.2.2.2.2.2.1
@[irreducible] noncomputable def gd : Option (List Code) := epsC.2.2.2.2.2.2.2.2.2.1
@[irreducible] noncomputable def env : Env := epsC.2.2.2.2.2.2.2.2.2.2.1
@[irreducible] noncomputable def outer : List Env := epsC.2.2.2.2.2.2.2.2.2.2.2.1
@[irreducible] noncomputable def A₀ : Around := epsC.2.2.2.2.2.2.2.2.2.2.2.2.1
@[irreducible] noncomputable def base : Heap := epsC.2.2.2.2.2.2.2.2.2.2.2.2.2.1
@[irreducible] noncomputable def h₀ : Heap := epsC.2.2.2.2.2.2.2.2.2.2.2.2.2.2.1
@[irreducible] noncomputable def L : Addr := epsC.2.2.2.2.2.2.2.2.2.2.2.2.2.2.2.1
@[irreducible] noncomputable def m : Str → Option Value := epsC.2.2.2.2.2.2.2.2.2.2.2.2.2.2.2.2.1
@[irreducible] noncomputable def news : List (Addr × Obj) := epsC.2.2.2.2.2.2.2.2.2.2.2.2.2.2.2.2.2.1
@[irreducible] noncomputable def s : Shared := epsC.2.2.2.2.2.2.2.2.2.2.2.2.2.2.2.2.2.2.1
@[irreducible] noncomputable def Q : Value → Shared → Prop := epsC.2.2.2.2.2.2.2.2.2.2.2.2.2.2.2.2.2.2.2.1
@[irreducible] noncomputable def E : Value → Shared → Prop := epsC.2.2.2.2.2.2.2.2.2.2.2.2.2.2.2.2.2.2.2.2.1
@[irreducible] noncomputable def b : Array UInt8 := epsC.2.2.2.2.2.2.2.2.2.2.2.2.2.2.2.2.2.2.2.2.2.1
@[irreducible] noncomputable def t1 : Tok := epsC.2.2.2.2.2.2.2.2.2.2.2.2.2.2.2.2.2.2.2.2.2.2.1
@[irreducible] noncomputable def t2 : Tok := epsC.2.2.2.2.2.2.2.2.2.2.2.2.2.2.2.2.2.2.2.2.2.2.2
set_option maxHeartbeats 4000000 in
theorem main : P ks F w loose mean mg mb dp un gd env outer A₀ base h₀ L m news s Q E b t1 t2 := by
  intro hks hlen ih C hroom hun hb st hst hF hret hraise
  obtain ⟨B, FF, X, N, T, hf, hk⟩ := C
  have hr : recursionLimit = 1000 := rfl
  have hc : cLine = 9900 := rfl
  revert X; k_fill; intro X
  refine wpAny_call ?_
  have h1 : (ks.length : Int) ≤ st ∨ st < ks.length := by lia
  rcases h1 with h1 | h1
  · (k_dflt (refine' code_def ?k1 ?k2 ?k3 ?k4 ?k5 ?kA ?kF ?kK ?k6 ?k7 ?k8 ?k9 ?kB ?_ ?c2 ?c3 ?c4 ?c5; (case kA => exact rfl); (case kF => first | assumption | exact rfl); (case kK => first | assumption | exact rfl); (case k1 => k_asm); (case k2 => k_asm); (case k3 => k_asm); (case k4 => k_asm); (case k5 => k_asm); (case k6 => k_is); (case k7 => k_is); (case k8 => ((try dsimp only [Around.deeper]); lia)); (case k9 => first | exact BindsTo.of_eq rfl | exact binds_K (by k_in) rfl (by k_is) rfl rfl rfl); (case c5 => decide); (case kB => exact locs rfl); (case c2 => exact rfl); (case c3 => exact rfl); (case c4 => exact rfl); k_whole; intro _ _ _ _ _ _ _ _ _; (try dsimp only); (try k_fold)))
    (k_steps; repeat' ((with_reducible refine Stop.mk ?_); first | (((with_reducible show wpAny _ _ (call (Value.ref _) [Value.bytes _ _, Value.str _ _]) _ _ _); kfb_any; k_dflt (refine KFB.call_big (by k_asm) (by k_mem) (by assumption) (by first | assumption | exact cut8 (by lia) (by lia) (by lia)) ?_); intro _ _; (try dsimp only)); k_steps) | (((with_reducible rename Heap.MadeExcOf _ _ _ _ _ => mX); k_dflt (refine leave_raiseS (by k_asm) mX (by k_asm) News.nil ?_); intro h' t' R' RK' U'; (try dsimp only at R' U' ⊢)); k_steps) | fail))
    refine hraise (rdItem_none (by unfold hd; exact if_pos h1)) _ _ _ _ (by assumption) (RaisedS.toSN (by assumption)) (by assumption)
  · have h2 : ks.getD st.toNat 0 < 128 ∨ (128 ≤ ks.getD st.toNat 0 ∧ ks.getD st.toNat 0 < 184) ∨ (184 ≤ ks.getD st.toNat 0 ∧ ks.getD st.toNat 0 < 192) ∨ (192 ≤ ks.getD st.toNat 0 ∧ ks.getD st.toNat 0 < 248) ∨ (248 ≤ ks.getD st.toNat 0) := by lia
    have hgi := KBw.getD_in (ks := ks) (j := st.toNat) hks
    rcases h2 with h2 | h2 | h2 | h2 | h2
    all_goals
      (k_dflt (refine' code_def ?k1 ?k2 ?k3 ?k4 ?k5 ?kA ?kF ?kK ?k6 ?k7 ?k8 ?k9 ?kB ?_ ?c2 ?c3 ?c4 ?c5; (case kA => exact rfl); (case kF => first | assumption | exact rfl); (case kK => first | assumption | exact rfl); (case k1 => k_asm); (case k2 => k_asm); (case k3 => k_asm); (case k4 => k_asm); (case k5 => k_asm); (case k6 => k_is); (case k7 => k_is); (case k8 => ((try dsimp only [Around.deeper]); lia)); (case k9 => first | exact BindsTo.of_eq rfl | exact binds_K (by k_in) rfl (by k_is) rfl rfl rfl); (case c5 => decide); (case kB => exact locs rfl); (case c2 => exact rfl); (case c3 => exact rfl); (case c4 => exact rfl); k_whole; intro _ _ _ _ _ _ _ _ _; (try dsimp only); (try k_fold)))
      (k_steps; repeat' ((with_reducible refine Stop.mk ?_); first | (((with_reducible show wpAny _ _ (call (Value.ref _) [Value.bytes _ _, Value.str _ _]) _ _ _); kfb_any; k_dflt (refine KFB.call_big (by k_asm) (by k_mem) (by assumption) (by first | assumption | exact cut8 (by lia) (by lia) (by lia)) ?_); intro _ _; (try dsimp only)); k_steps) | (((with_reducible rename Heap.MadeExcOf _ _ _ _ _ => mX); k_dflt (refine leave_raiseS (by k_asm) mX (by k_asm) News.nil ?_); intro h' t' R' RK' U'; (try dsimp only at R' U' ⊢)); k_steps) | fail))
    all_goals (try
      (refine hraise (rdItem_none ?_) _ _ _ _ (by assumption) (RaisedS.toSN (by assumption)) (by assumption)
       (first | exact hdN_zero (o := 128) (l := false) (by assumption) (by assumption) (.inl ⟨rfl, rfl, by lia, by lia⟩) (by assumption) (by assumption) | exact hdN_zero (o := 192) (l := true) (by assumption) (by assumption) (.inr ⟨rfl, rfl, by lia⟩) (by assumption) (by assumption) | exact hdN_small (o := 128) (l := false) (by assumption) (by assumption) (.inl ⟨rfl, rfl, by lia, by lia⟩) (by assumption) | exact hdN_small (o := 192) (l := true) (by assumption) (by assumption) (.inr ⟨rfl, rfl, by lia⟩) (by assumption) | exact hd129_no (by assumption) (by assumption) (by assumption) (by assumption))))
    all_goals (try
      (rename News h₀ L _ (_ :: _) => NN
       rename Fr h₀ L _ m => FN
       rename KBw.bInts _ = _ => hk
       have z := fin_str (F := F) (by lia) (hd_plain hst h1 (by lia)) hst (by decide) hk
       exact hret _ _ _ _ _ [_] _ _ (ret1 FN NN (by (first | exact (fun _ h => h) | exact (fun _ h => .tail _ h))) (by (first | assumption | exact allLt_mem (by assumption) | exact allLt_mem (And.right (by assumption))))) (.head _) (.str z.1) (by lia) h1 z.2.1 z.2.2))
    all_goals (try
      (rename News h₀ L _ (_ :: _) => NN
       rename Fr h₀ L _ m => FN
       rename KBw.bInts _ = _ => hk
       have z := fin_str (F := F) (by lia) (hd129_yes hst h1 (by assumption) (by assumption) (by assumption)) (by lia) (by lia) hk
       exact hret _ _ _ _ _ [_] _ _ (ret1 FN NN (by (first | exact (fun _ h => h) | exact (fun _ h => .tail _ h))) (by (first | assumption | exact allLt_mem (by assumption) | exact allLt_mem (And.right (by assumption))))) (.head _) (.str z.1) (by lia) h1 z.2.1 z.2.2))
    all_goals (try
      (rename News h₀ L _ (_ :: _) => NN
       rename Fr h₀ L _ m => FN
       rename KBw.bInts _ = _ => hk
       have z := fin_str (F := F) (by lia) (hd_short hst h1 (by lia) (by lia) (by assumption)) (by lia) (by lia) hk
       exact hret _ _ _ _ _ [_] _ _ (ret1 FN NN (by (first | exact (fun _ h => h) | exact (fun _ h => .tail _ h))) (by (first | assumption | exact allLt_mem (by assumption) | exact allLt_mem (And.right (by assumption))))) (.head _) (.str z.1) (by lia) h1 z.2.1 z.2.2))
    all_goals (try
      (rename News h₀ L _ (_ :: _) => NN
       rename Fr h₀ L _ m => FN
       rename KBw.bInts _ = _ => hk
       have z := hd129_off hst h1 (by assumption) (by assumption)
       exact hret _ _ _ _ (.str _) [_] _ _ (ret1 FN NN (by (first | exact (fun _ h => h) | exact (fun _ h => .tail _ h))) (by (first | assumption | exact allLt_mem (by assumption) | exact allLt_mem (And.right (by assumption))))) (.head _) (.str hk) (by lia) h1 (fun g => by lia) (fun _ => rdItem_none z.1)))
    all_goals (try (exfalso; lia))
    · rename News h₀ L _ (_ :: _) => NN
      rename Fr h₀ L _ m => FN
      have hnv : ¬ KFB.value (dgN ks st 128) < 56 := by assumption
      have z := fin_str (F := F) (by lia) (hdN_some (o := 128) (l := false) hst h1 (.inl ⟨rfl, rfl, by lia, by lia⟩) (by assumption) (by assumption) hnv) (by lia) (by lia) (by assumption)
      exact hret _ _ _ _ _ [_] _ _ (ret1 FN NN (by (first | exact (fun _ h => h) | exact (fun _ h => .tail _ h))) (by (first | assumption | exact allLt_mem (by assumption) | exact allLt_mem (And.right (by assumption))))) (.head _) (.str z.1) (by lia) h1 z.2.1 z.2.2
    all_goals
      first
        | (have hhd := hd_list hst h1 (by lia) (by lia))
        | (have hnv : ¬ KFB.value (dgN ks st 192) < 56 := by assumption
           have hhd := hdN_some (o := 192) (l := true) hst h1 (.inr ⟨rfl, rfl, by lia⟩) (by assumption) (by assumption) hnv)
      rename News _ _ _ _ => N1
      rename Fr _ _ _ _ => F1
      refine ⟨c_nrest hlen ih (by assumption) (by assumption) (by assumption) hroom hun hb (by lia) (by lia) (by first | exact .inl (by lia) | exact .inr (by show (_ : Int) < _ + KFB.value (dgN ks st 192); lia)) (by lia) (fr3 F1 rfl rfl rfl) N1 ?_ ?_⟩
      · intro D aI vsI nI te' ds tl h' tk' m' FN NN hl hlt ho hR hg1 hg2
        clear F1 N1
        k_steps
        rename News h₀ L _ (_ :: _ :: _) => N3
        rename Fr h₀ L _ m => F3
        exact hret _ _ _ _ (.list ds) _ _ _ (ret2 F3 N3 (by (first | exact (fun _ h => h) | exact (fun _ h => .tail _ h))) (fun p hp => hl p (.tail _ (List.mem_append_right _ hp))) hlt ho) (.head _) (RlpIn.mono (fun z hz => .tail _ hz) hR) (by lia) h1 (fun g => fin_list_ok (by lia) hhd (hg1 g) rfl) (fun g => fin_list_not hhd (hg2 g))
      · intro hno h' ex tk' R U
        exact hraise (fin_list_not hhd hno) _ _ _ _ (by assumption) R U
theorem all (p : (List Int) × Nat × World × (List Str) × (ExcName → Option Value) × (Str → Option Value) × (Str → Option Value) × Nat × Nat × (Option (List Code)) × Env × (List Env) × Around × Heap × Heap × Addr × (Str → Option Value) × (List (Addr × Obj)) × Shared × (Value → Shared → Prop) × (Value → Shared → Prop) × (Array UInt8) × Tok × Tok) : P p.1 p.2.1 p.2.2.1 p.2.2.2.1 p.2.2.2.2.1 p.2.2.2.2.2.1 p.2.2.2.2.2.2.1 p.2.2.2.2.2.2.2.1 p.2.2.2.2.2.2.2.2.1 p.2.2.2.2.2.2.2.2.2.1 p.2.2.2.2.2.2.2.2.2.2.1 p.2.2.2.2.2.2.2.2.2.2.2.1 p.2.2.2.2.2.2.2.2.2.2.2.2.1 p.2.2.2.2.2.2.2.2.2.2.2.2.2.1 p.2.2.2.2.2.2.2.2.2.2.2.2.2.2.1 p.2.2.2.2.2.2.2.2.2.2.2.2.2.2.2.1 p.2.2.2.2.2.2.2.2.2.2.2.2.2.2.2.2.1 p.2.2.2.2.2.2.2.2.2.2.2.2.2.2.2.2.2.1 p.2.2.2.2.2.2.2.2.2.2.2.2.2.2.2.2.2.2.1 p.2.2.2.2.2.2.2.2.2.2.2.2.2.2.2.2.2.2.2.1 p.2.2.2.2.2.2.2.2.2.2.2.2.2.2.2.2.2.2.2.2.1 p.2.2.2.2.2.2.2.2.2.2.2.2.2.2.2.2.2.2.2.2.2.1 p.2.2.2.2.2.2.2.2.2.2.2.2.2.2.2.2.2.2.2.2.2.2.1 p.2.2.2.2.2.2.2.2.2.2.2.2.2.2.2.2.2.2.2.2.2.2.2 := Classical.byContradiction fun n => Classical.epsilon_spec (p := fun p => ¬ P p.1 p.2.1 p.2.2.1 p.2.2.2.1 p.2.2.2.2.1 p.2.2.2.2.2.1 p.2.2.2.2.2.2.1 p.2.2.2.2.2.2.2.1 p.2.2.2.2.2.2.2.2.1 p.2.2.2.2.2.2.2.2.2.1 p.2.2.2.2.2.2.2.2.2.2.1 p.2.2.2.2.2.2.2.2.2.2.2.1 p.2.2.2.2.2.2.2.2.2.2.2.2.1 p.2.2.2.2.2.2.2.2.2.2.2.2.2.1 p.2.2.2.2.2.2.2.2.2.2.2.2.2.2.1 p.2.2.2.2.2.2.2.2.2.2.2.2.2.2.2.1 p.2.2.2.2.2.2.2.2.2.2.2.2.2.2.2.2.1 p.2.2.2.2.2.2.2.2.2.2.2.2.2.2.2.2.2.1 p.2.2.2.2.2.2.2.2.2.2.2.2.2.2.2.2.2.2.1 p.2.2.2.2.2.2.2.2.2.2.2.2.2.2.2.2.2.2.2.1 p.2.2.2.2.2.2.2.2.2.2.2.2.2.2.2.2.2.2.2.2.1 p.2.2.2.2.2.2.2.2.2.2.2.2.2.2.2.2.2.2.2.2.2.1 p.2.2.2.2.2.2.2.2.2.2.2.2.2.2.2.2.2.2.2.2.2.2.1 p.2.2.2.2.2.2.2.2.2.2.2.2.2.2.2.2.2.2.2.2.2.2.2) ⟨p, n⟩ (by with_unfolding_all exact main)
end c_nitemxE
theorem c_nitemx (ks : List Int) (hks : ∀ k ∈ ks, 0 ≤ k ∧ k < 256) (hlen : ks.length ≤ 304) (F : Nat) (ih : ∀ F' < F, ItemC ks F') {w : World} {loose : List Str} {mean : ExcName → Option Value} {mg mb : Str → Option Value} {dp un : Nat} {gd : Option (List Code)} {env : Env} {outer : List Env} {A₀ : Around} {base h₀ : Heap} {L : Addr} {m : Str → Option Value} {news : List (Addr × Obj)} {s : Shared} {Q E : Value → Shared → Prop} (C : Cx w loose mean mg mb env outer A₀ base h₀ L m news s.heap) (hroom : 2 * dp + F + 60 < 2000) (hun : 2 * un + 3 * F + 400 < 19800) (b : Array UInt8) (hb : KBw.bInts b = ks) (st : Int) (t1 t2 : Tok) (hst : 0 ≤ st) (hF : 2 * ((ks.length : Int) + 1 - st) ≤ F + 1) (hret : (∀ D v e te d tl h' tk', Bk h₀ L m news tl h' → (D, tup2 v e te) ∈ tl → RlpIn tl v d → st < e → st < ks.length → (e ≤ ks.length → rdItem ks F st = some (d, e)) → (ks.length < e → rdItem ks F st = none) → Q (.ref D) { s with heap := h', toks := tk' })) (hraise : (rdItem ks F st = none → ∀ g h' e tk', Fr h₀ L g m → RaisedSN base g (env :: outer) e (.ref 1438) [] h' → g.UpToSlots h' → E (.ref e) { s with heap := h', toks := tk' }))
    :
    wpAny (model PySem.Challenge.rw_jm0023_01.prog w) (kT dp un gd env outer) (call (.ref 1462) [.bytes b t1, .int st t2]) Q E s := c_nitemxE.all (ks, F, w, loose, mean, mg, mb, dp, un, gd, env, outer, A₀, base, h₀, L, m, news, s, Q, E, b, t1, t2) hks hlen ih C hroom hun hb st hst hF hret hraise
theorem c_nitem (ks : List Int) (hks : ∀ k ∈ ks, 0 ≤ k ∧ k < 256) (hlen : ks.length ≤ 304) (F : Nat) (ih : ∀ F' < F, ItemC ks F') : ItemC ks F := by
  intro w loose mean mg mb dp un gd env outer A₀ base h₀ L m news s Q E C hroom hun b hb st t1 t2 hst hF hret hraise
  exact c_nitemx ks hks hlen F ih C hroom hun b hb st t1 t2 hst hF hret hraise
theorem nitem_all (ks : List Int) (hks : ∀ k ∈ ks, 0 ≤ k ∧ k < 256) (hlen : ks.length ≤ 304) (F : Nat) : ItemC ks F := by
  induction F using Nat.strongRecOn with
  | ind F ih => exact c_nitem ks hks hlen F ih
end
theorem pad12 {prog : PySem.Program} {w : PySem.World} {A : PySem.Around} {E : PySem.Value → PySem.Shared → Prop} {s : PySem.Shared} {env : PySem.Env} {Q : PySem.Flow → PySem.Shared → Prop} (h : Q .next s) : PySem.wpAny (PySem.model prog w) A (PySem.execs [] env) Q E s := by
  walk1
  exact h
section
open PySem PySem.W PySem.Calls PyProof.Rows
local macro_rules | `(tactic| walk_at "leaving ref") => `(tactic| refine Stop.go ?_)
set_option maxHeartbeats 1000000 in
theorem c_rdec {w : World} {loose : List Str} {mean : ExcName → Option Value} {mg mb : Str → Option Value} {dp un : Nat} {gd : Option (List Code)} {env : Env} {outer : List Env} {A₀ : Around} {base h₀ : Heap} {L : Addr} {m : Str → Option Value} {news : List (Addr × Obj)} {s : Shared} {Q E : Value → Shared → Prop}
    (ks : List Int) (hks : ∀ k ∈ ks, 0 ≤ k ∧ k < 256) (hlen : ks.length ≤ 304)
    (C : Cx w loose mean mg mb env outer A₀ base h₀ L m news s.heap) (hroom : dp + 420 < 1000) (hun : un + 1700 < 9900)
    (b : Array UInt8) (hb : KBw.bInts b = ks) (t1 : Tok)
    (hret : ∀ v d tl h' tk', Bk h₀ L m news tl h' → RlpIn tl v d → rd ks = some d → Q v { s with heap := h', toks := tk' })
    (hraise : rd ks = none → ∀ g h' e tk', Fr h₀ L g m → RaisedSN base g (env :: outer) e (.ref 1438) [] h' → g.UpToSlots h' → E (.ref e) { s with heap := h', toks := tk' }) :
    wpAny (model PySem.Challenge.rw_jm0023_01.prog w) (kT dp un gd env outer) (call (.ref 1469) [.bytes b t1]) Q E s := by
  obtain ⟨B, FF, X, N, T, hf, hk⟩ := C
  have hr : recursionLimit = 1000 := rfl
  have hc : cLine = 9900 := rfl
  revert X; k_fill; intro X
  refine wpAny_call ?_
  (k_dflt (refine' code_def ?k1 ?k2 ?k3 ?k4 ?k5 ?kA ?kF ?kK ?k6 ?k7 ?k8 ?k9 ?kB ?_ ?c2 ?c3 ?c4 ?c5; (case kA => exact rfl); (case kF => first | assumption | exact rfl); (case kK => first | assumption | exact rfl); (case k1 => k_asm); (case k2 => k_asm); (case k3 => k_asm); (case k4 => k_asm); (case k5 => k_asm); (case k6 => k_is); (case k7 => k_is); (case k8 => ((try dsimp only [Around.deeper]); omega)); (case k9 => first | exact BindsTo.of_eq rfl | exact binds_K (by k_in) rfl (by k_is) rfl rfl rfl); (case c5 => decide); (case kB => exact locs rfl); (case c2 => exact rfl); (case c3 => exact rfl); (case c4 => exact rfl); k_whole; intro _ _ _ _ _ _ _ _ _; (try dsimp only); (try k_fold)))
  (k_steps; repeat' ((with_reducible refine Stop.mk ?_); first | (((with_reducible rename Heap.MadeExcOf _ _ _ _ _ => mX); k_dflt (refine leave_raiseS (by k_asm) mX (by k_asm) News.nil ?_); intro h' t' R' RK' U'; (try dsimp only at R' U' ⊢)); k_steps) | fail))
  rename Fr h₀ L _ m => FX
  refine ⟨nitem_all ks hks hlen (2 * ks.length + 3) (dp := dp + 1) (un := un + 3) (outer := env :: outer) ⟨(by assumption), (by assumption), (by assumption), (by assumption), (by assumption), rfl, rfl⟩ (by omega) (by omega) b hb 0 _ _ (by omega) (by omega) ?_ ?_⟩
  · intro D v e te d tl h2 tk2 hB hD hR he0 he1 hgd hbd
    obtain ⟨FF3, NN3, oo⟩ := hB
    have NN4 := kst_newsOf (l' := (D, tup2 v e te) :: (tl ++ news)) NN3 (by
      intro z hz
      rcases List.mem_cons.mp hz with rfl | hz
      · exact List.mem_append_left _ hD
      · exact hz)
    clear NN3
    k_sweep
    (k_steps; repeat' ((with_reducible refine Stop.mk ?_); first | (((with_reducible rename Heap.MadeExcOf _ _ _ _ _ => mX); k_dflt (refine leave_raiseS (by k_asm) mX (by k_asm) News.nil ?_); intro h' t' R' RK' U'; (try dsimp only at R' U' ⊢)); k_steps) | fail))
    · refine hraise ?_ _ _ _ _ (by assumption) (RaisedS.toSN (by assumption)) (by assumption)
      unfold rd
      by_cases ge : e ≤ (ks.length : Int)
      · rw [hgd ge]; exact if_neg (by omega)
      · rw [hbd (by omega)]
    · rename News h₀ L _ (_ :: _) => NN
      rename Fr h₀ L _ m => FN
      refine hret v d tl _ _ ⟨FN, kst_newsOf NN (fun z hz => .tail _ hz), oo⟩ hR ?_
      unfold rd
      have ge : e = (ks.length : Int) := by omega
      rw [hgd (by omega)]; exact if_pos ge
  · intro hno g2 h3 e3 tk3 FF3 R3 U3
    k_unfold
    dsimp only
    exact leave_onSN (by assumption) FF3 R3 U3 fun h4 R4 _ U4 => hraise (by unfold rd; rw [hno]) _ _ _ _ FX R4 U4
set_option maxHeartbeats 1000000 in
theorem c_lnode {w : World} {loose : List Str} {mean : ExcName → Option Value} {mg mb : Str → Option Value} {dp un : Nat} {gd : Option (List Code)} {env : Env} {A₀ : Around} {base h₀ : Heap} {L : Addr} {m : Str → Option Value} {news : List (Addr × Obj)} {s : Shared} {Q E : Value → Shared → Prop}
    (ks : List Int) (hks : ∀ k ∈ ks, 0 ≤ k ∧ k < 256) (hlen : ks.length ≤ 304)
    (C : Cx w loose mean mg mb env [] A₀ base h₀ L m news s.heap) (hroom : dp + 430 < 1000) (hun : un + 1800 < 9900)
    (XB : (K w.params).In base) (TB : Top vq loose mean mg mb base)
    (b : Array UInt8) (hb : KBw.bInts b = ks) (t1 : Tok)
    (hret : ∀ v d tl h' tk', Bk h₀ L m news tl h' → RlpIn tl v d → rd ks = some d → Q v { s with heap := h', toks := tk' })
    (hnone : rd ks = none → ∀ h' tk', Fr h₀ L h' m → Q .none { s with heap := h', toks := tk' }) :
    wpAny (model PySem.Challenge.rw_jm0023_01.prog w) (kT dp un gd env []) (call (.ref 1500) [.bytes b t1]) Q E s := by
  obtain ⟨B, FF, X, N, T, hf, hk⟩ := C
  have hr : recursionLimit = 1000 := rfl
  have hc : cLine = 9900 := rfl
  revert X; k_fill; intro X
  refine wpAny_call ?_
  k_dflt (refine' code_defSX ?k1 ?k2 ?k3 ?k4 ?k5 ?kA ?kF ?kK ?k6 ?k7 ?k8 ?k9 ?kB ?_ ?c2 ?c3 ?c4 ?c5; (case kA => exact rfl); (case kF => exact hf); (case kK => exact hk); (case k1 => k_asm); (case k2 => k_asm); (case k3 => k_asm); (case k4 => k_asm); (case k5 => k_asm); (case k6 => k_is); (case k7 => k_is); (case k8 => (dsimp only; omega)); (case k9 => exact BindsTo.of_eq rfl); (case kB => exact locs rfl); (case c2 => exact rfl); (case c3 => exact rfl); (case c4 => exact rfl); (case c5 => decide))
  intro g' L' h1 FG FF1 NN1 BB XX TT KD
  dsimp only
  k_fold
  (k_steps; repeat' ((with_reducible refine Stop.mk ?_); first | (((with_reducible rename Heap.MadeExcOf _ _ _ _ _ => mX); k_dflt (refine leave_raiseS (by k_asm) mX (by k_asm) News.nil ?_); intro h' t' R' RK' U'; (try dsimp only at R' U' ⊢)); k_steps) | fail))
  refine ⟨c_rdec (dp := dp + 1) (un := un + 3) (outer := [env]) ks hks hlen ⟨BB, FF1, XX, NN1, TT, rfl, rfl⟩ (by omega) (by omega) b hb _ ?_ ?_⟩
  · intro v d tl h2 tk2 hB hR hrd
    obtain ⟨FF3, NN3, oo⟩ := hB
    k_unfold
    dsimp only
    exact ⟨_, _, _, _, KtsTurn.refl, FF3, NN3, fun F9 N9 => hret v d tl _ _ ⟨F9, N9, oo⟩ hR hrd⟩
  · intro hno g2 h3 e3 tk3 FF3 R3 U3
    refine kts_lookSN R3 FF3 BB U3 KD fun h4 R4 U4 => ?_
    refine hit_SN0 R4 FF3 BB U4 XB TB KD KtsTurn.refl (test_name (c := .ref 1438) (.inl (by k_is)) (by first | rfl | kernel_rfl | decide +kernel) rfl rfl (by decide)) (fun h5 g5 T5 F5 N5 B5 X5 P5 D5 => ?_)
    (k_steps; repeat' ((with_reducible refine Stop.mk ?_); first | (((with_reducible rename Heap.MadeExcOf _ _ _ _ _ => mX); k_dflt (refine leave_raiseS (by k_asm) mX (by k_asm) News.nil ?_); intro h' t' R' RK' U'; (try dsimp only at R' U' ⊢)); k_steps) | fail))
    exact hnone hno _ _ (by assumption)
end
theorem pad13 {prog : PySem.Program} {w : PySem.World} {A : PySem.Around} {E : PySem.Value → PySem.Shared → Prop} {s : PySem.Shared} {env : PySem.Env} {Q : PySem.Flow → PySem.Shared → Prop} (h : Q .next s) : PySem.wpAny (PySem.model prog w) A (PySem.execs [] env) Q E s := by
  walk1
  exact h
section
open PySem PySem.W PySem.Calls PyProof.Rows
set_option maxHeartbeats 1000000 in
theorem c_decode {w : World} {loose : List Str} {mean : ExcName → Option Value} {mg mb : Str → Option Value} {dp un : Nat} {gd : Option (List Code)} {env : Env} {outer : List Env} {A₀ : Around} {base h₀ : Heap} {L : Addr} {m : Str → Option Value} {news : List (Addr × Obj)} {s : Shared} {Q E : Value → Shared → Prop}
    (ks : List Int) (hks : ∀ k ∈ ks, 0 ≤ k ∧ k < 256) (hlen : ks.length ≤ 304)
    (C : Cx w loose mean mg mb env outer A₀ base h₀ L m news s.heap) (hroom : dp + 420 < 1000) (hun : un + 1700 < 9900)
    (XB : (K w.params).In base) (TB : Top vq loose mean mg mb base) (KD : KtsDicts (outer.filterMap (·.frame)) h₀)
    (b : Array UInt8) (hb : KBw.bInts b = ks) (t1 : Tok)
    (hret : ∀ v d tl h' tk', Bk h₀ L m news tl h' → RlpIn tl v d → rd ks = some d → Q v { s with heap := h', toks := tk' })
    (hraise : rd ks = none → ∀ g h' e tk', Fr h₀ L g m → RaisedSN base g (env :: outer) e (.ref 67) [] h' → g.UpToSlots h' → E (.ref e) { s with heap := h', toks := tk' }) :
    wpAny (model PySem.Challenge.rw_jm0023_01.prog w) (kT dp un gd env outer) (call (.ref 1428) [.bytes b t1]) Q E s := by
  obtain ⟨B, FF, X, N, T, hf, hk⟩ := C
  have hr : recursionLimit = 1000 := rfl
  have hc : cLine = 9900 := rfl
  revert X; k_fill; intro X
  refine wpAny_call ?_
  (k_dflt (refine' code_def ?k1 ?k2 ?k3 ?k4 ?k5 ?kA ?kF ?kK ?k6 ?k7 ?k8 ?k9 ?kB ?_ ?c2 ?c3 ?c4 ?c5; (case kA => exact rfl); (case kF => first | assumption | exact rfl); (case kK => first | assumption | exact rfl); (case k1 => k_asm); (case k2 => k_asm); (case k3 => k_asm); (case k4 => k_asm); (case k5 => k_asm); (case k6 => k_is); (case k7 => k_is); (case k8 => ((try dsimp only [Around.deeper]); omega)); (case k9 => first | exact BindsTo.of_eq rfl | exact binds_K (by k_in) rfl (by k_is) rfl rfl rfl); (case c5 => decide); (case kB => exact locs rfl); (case c2 => exact rfl); (case c3 => exact rfl); (case c4 => exact rfl); k_whole; intro _ _ _ _ _ _ _ _ _; (try dsimp only); (try k_fold)))
  k_steps
  refine ⟨wpAny_call ?_⟩
  (k_dflt (refine' code_def ?k1 ?k2 ?k3 ?k4 ?k5 ?kA ?kF ?kK ?k6 ?k7 ?k8 ?k9 ?kB ?_ ?c2 ?c3 ?c4 ?c5; (case kA => exact rfl); (case kF => first | assumption | exact rfl); (case kK => first | assumption | exact rfl); (case k1 => k_asm); (case k2 => k_asm); (case k3 => k_asm); (case k4 => k_asm); (case k5 => k_asm); (case k6 => k_is); (case k7 => k_is); (case k8 => ((try dsimp only [Around.deeper]); omega)); (case k9 => first | exact BindsTo.of_eq rfl | exact binds_K (by k_in) rfl (by k_is) rfl rfl rfl); (case c5 => decide); (case kB => exact locs rfl); (case c2 => exact rfl); (case c3 => exact rfl); (case c4 => exact rfl); k_whole; intro _ _ _ _ _ _ _ _ _; (try dsimp only); (try k_fold)))
  k_steps
  rename Fr h₀ L _ m => FX
  have KD' := kts_push KD FX.keep FX hf
  refine ⟨c_raw (dp := dp + 1) (un := un + 3) (outer := env :: outer) ks hks hlen ⟨(by assumption), (by assumption), (by assumption), (by assumption), (by assumption), rfl, rfl⟩ (by omega) (by omega) XB TB KD' b hb _ ?_ ?_⟩
  · intro D v q d tl h2 tk2 hB hD hR hrd
    obtain ⟨FF3, NN3, oo⟩ := hB
    have NN4 := kst_newsOf (l' := (D, ({ cls := .type "tuple", data := .seq #[v, .ref q] } : Obj)) :: (tl ++ news)) NN3 (by
      intro z hz
      rcases List.mem_cons.mp hz with rfl | hz
      · exact List.mem_append_left _ hD
      · simp only [List.mem_append, List.mem_cons] at hz ⊢
        rcases hz with hz | hz
        · exact .inl hz
        · exact .inr (by first | exact hz | exact .inr hz))
    clear NN3
    k_sweep
    k_steps
    rename News h₀ L _ (_ :: _) => NN
    rename Fr h₀ L _ m => FN
    exact hret v d tl _ _ ⟨FN, kst_newsOf NN (fun z hz => .tail _ hz), fun z hz y hy => by first | exact oo z hz y hy | exact oo z (.tail _ hz) y hy⟩ hR hrd
  · intro hno g2 h3 e3 tk3 FF3 R3 U3
    k_unfold
    dsimp only
    exact leave_onSN (by assumption) FF3 R3 U3 fun h4 R4 _ U4 => hraise hno _ _ _ _ FX R4 U4
set_option maxHeartbeats 1000000 in
theorem c_lrlp {w : World} {loose : List Str} {mean : ExcName → Option Value} {mg mb : Str → Option Value} {dp un : Nat} {gd : Option (List Code)} {env : Env} {A₀ : Around} {base h₀ : Heap} {L : Addr} {m : Str → Option Value} {news : List (Addr × Obj)} {s : Shared} {Q E : Value → Shared → Prop}
    (ks : List Int) (hks : ∀ k ∈ ks, 0 ≤ k ∧ k < 256) (hlen : ks.length ≤ 304)
    (C : Cx w loose mean mg mb env [] A₀ base h₀ L m news s.heap) (hroom : dp + 430 < 1000) (hun : un + 1800 < 9900)
    (XB : (K w.params).In base) (TB : Top vq loose mean mg mb base)
    (b : Array UInt8) (hb : KBw.bInts b = ks) (t1 : Tok)
    (hret : ∀ v d tl h' tk', Bk h₀ L m news tl h' → RlpIn tl v d → rd ks = some d → Q v { s with heap := h', toks := tk' })
    (hnone : rd ks = none → ∀ h' tk', Fr h₀ L h' m → Q .none { s with heap := h', toks := tk' }) :
    wpAny (model PySem.Challenge.rw_jm0023_01.prog w) (kT dp un gd env []) (call (.ref 1493) [.bytes b t1]) Q E s := by
  obtain ⟨B, FF, X, N, T, hf, hk⟩ := C
  have hr : recursionLimit = 1000 := rfl
  have hc : cLine = 9900 := rfl
  revert X; k_fill; intro X
  refine wpAny_call ?_
  k_dflt (refine' code_defSX ?k1 ?k2 ?k3 ?k4 ?k5 ?kA ?kF ?kK ?k6 ?k7 ?k8 ?k9 ?kB ?_ ?c2 ?c3 ?c4 ?c5; (case kA => exact rfl); (case kF => exact hf); (case kK => exact hk); (case k1 => k_asm); (case k2 => k_asm); (case k3 => k_asm); (case k4 => k_asm); (case k5 => k_asm); (case k6 => k_is); (case k7 => k_is); (case k8 => (dsimp only; omega)); (case k9 => exact BindsTo.of_eq rfl); (case kB => exact locs rfl); (case c2 => exact rfl); (case c3 => exact rfl); (case c4 => exact rfl); (case c5 => decide))
  intro g' L' h1 FG FF1 NN1 BB XX TT KD
  dsimp only
  k_fold
  k_steps
  refine ⟨c_decode (dp := dp + 1) (un := un + 3) (outer := [env]) ks hks hlen ⟨BB, FF1, XX, NN1, TT, rfl, rfl⟩ (by omega) (by omega) XB TB KD b hb _ ?_ ?_⟩
  · intro v d tl h2 tk2 hB hR hrd
    obtain ⟨FF3, NN3, oo⟩ := hB
    k_unfold
    dsimp only
    exact ⟨_, _, _, _, KtsTurn.refl, FF3, NN3, fun F9 N9 => hret v d tl _ _ ⟨F9, N9, oo⟩ hR hrd⟩
  · intro hno g2 h3 e3 tk3 FF3 R3 U3
    refine kts_lookSN R3 FF3 BB U3 KD fun h4 R4 U4 => ?_
    refine hit_SN0 R4 FF3 BB U4 XB TB KD KtsTurn.refl (test_name (c := .ref 67) (.inl (by k_is)) (by first | rfl | kernel_rfl | decide +kernel) rfl rfl (by decide)) (fun h5 g5 T5 F5 N5 B5 X5 P5 D5 => ?_)
    k_steps
    exact hnone hno _ _ (by assumption)
end
theorem pad14 {prog : PySem.Program} {w : PySem.World} {A : PySem.Around} {E : PySem.Value → PySem.Shared → Prop} {s : PySem.Shared} {env : PySem.Env} {Q : PySem.Flow → PySem.Shared → Prop} (h : Q .next s) : PySem.wpAny (PySem.model prog w) A (PySem.execs [] env) Q E s := by
  walk1
  exact h
section
open PySem PySem.W PySem.Calls PyProof.Rows PySem.Spec
local macro_rules | `(tactic| walk_at "pyIter ref") => `(tactic| refine Stop.go ?_)
local macro_rules | `(tactic| walk_at "exec For Name Name cons nil") => `(tactic| refine Stop.go ?_)
noncomputable def EncN (D : Nat) : Prop := ∀ {w : World} {loose : List Str} {mean : ExcName → Option Value} {mg mb : Str → Option Value} {dp un : Nat} {gd : Option (List Code)} {env : Env} {outer : List Env} {A₀ : Around} {base h₀ : Heap} {L : Addr} {m : Str → Option Value} {news : List (Addr × Obj)} {s : Shared} {Q E : Value → Shared → Prop},
    Cx w loose mean mg mb env outer A₀ base h₀ L m news s.heap → dp + D + 20 < 1000 → un + 3 * D + 200 < 9900 → ∀ (v : Value) (d : Rlp), RlpIn news v d → dep d < D → (enc d).length ≤ 60000 →
    (∀ c t' h' tk', KBw.bInts c = enc d → Fr h₀ L h' m → News h₀ L h' news → Q (.bytes c t') { s with heap := h', toks := tk' }) →
    wpAny (model PySem.Challenge.rw_jm0023_01.prog w) (kT dp un gd env outer) (call (.ref 1455) [v]) Q E s
namespace c_encNxE
noncomputable def P (D : Nat) (w : World) (loose : List Str) (mean : ExcName → Option Value) (mg : Str → Option Value) (mb : Str → Option Value) (dp : Nat) (un : Nat) (gd : Option (List Code)) (env : Env) (outer : List Env) (A₀ : Around) (base : Heap) (h₀ : Heap) (L : Addr) (m : Str → Option Value) (news : List (Addr × Obj)) (s : Shared) (Q : Value → Shared → Prop) (E : Value → Shared → Prop) : Prop := ∀ (ih : ∀ D' < D, EncN D') (C : Cx w loose mean mg mb env outer A₀ base h₀ L m news s.heap) (hroom : dp + D + 20 < 1000) (hun : un + 3 * D + 200 < 9900) (v : Value) (d : Rlp) (hR : RlpIn news v d) (hdep : dep d < D) (hlen : (enc d).length ≤ 60000) (hret : (∀ c t' h' tk', KBw.bInts c = enc d → Fr h₀ L h' m → News h₀ L h' news → Q (.bytes c t') { s with heap := h', toks := tk' })), wpAny (model PySem.Challenge.rw_jm0023_01.prog w) (kT dp un gd env outer) (call (.ref 1455) [v]) Q E s
noncomputable def epsC : Nat × World × (List Str) × (ExcName → Option Value) × (Str → Option Value) × (Str → Option Value) × Nat × Nat × (Option (List Code)) × Env × (List Env) × Around × Heap × Heap × Addr × (Str → Option Value) × (List (Addr × Obj)) × Shared × (Value → Shared → Prop) × (Value → Shared → Prop) := @Classical.epsilon (Nat × World × (List Str) × (ExcName → Option Value) × (Str → Option Value) × (Str → Option Value) × Nat × Nat × (Option (List Code)) × Env × (List Env) × Around × Heap × Heap × Addr × (Str → Option Value) × (List (Addr × Obj)) × Shared × (Value → Shared → Prop) × (Value → Shared → Prop)) ⟨(0, ⟨fun _ _ => 0, { strHash := fun _ => 0, shareClass := fun _ => 0, mergeTok := fun t => t, idOf := fun _ => 0, idOfShared := fun _ _ => 0, followText := fun _ => false, idOfImm := fun _ => 0 }⟩, [], (fun _ => none), (fun _ => none), (fun _ => none), 0, 0, none, default, [], {}, {}, {}, (0 : Nat), (fun _ => none), [], {}, (fun _ _ => True), (fun _ _ => True))⟩ fun p => ¬ P p.1 p.2.1 p.2.2.1 p.2.2.2.1 p.2.2.2.2.1 p.2.2.2.2.2.1 p.2.2.2.2.2.2.1 p.2.2.2.2.2.2.2.1 p.2.2.2.2.2.2.2.2.1 p.2.2.2.2.2.2.2.2.2.1 p.2.2.2.2.2.2.2.2.2.2.1 p.2.2.2.2.2.2.2.2.2.2.2.1 p.2.2.2.2.2.2.2.2.2.2.2.2.1 p.2.2.2.2.2.2.2.2.2.2.2.2.2.1 p.2.2.2.2.2.2.2.2.2.2.2.2.2.2.1 p.2.2.2.2.2.2.2.2.2.2.2.2.2.2.2.1 p.2.2.2.2.2.2.2.2.2.2.2.2.2.2.2.2.1 p.2.2.2.2.2.2.2.2.2.2.2.2.2.2.2.2.2.1 p.2.2.2.2.2.2.2.2.2.2.2.2.2.2.2.2.2.2.1 p.2.2.2.2.2.2.2.2.2.2.2.2.2.2.2.2.2.2.2
@[irreducible] noncomputable def D : Nat := epsC.1
@[irreducible] noncomputable def w : World := epsC.2.1
@[irreducible] noncomputable def loose : List Str := epsC.2.2.1
@[irreducible] noncomputable def mean : ExcName → Option Value := epsC.2.2.2.1
@[irreducible] noncomputable def mg : Str → Option Value := epsC.2.2.2.2.1
@[irreducible] noncomputable def mb : Str → Option Value := epsC.2.2.2.2.2.1
@[irreducible] noncomputable def dp : Nat := epsC.2.2.2.2.2.2.1
@[irreducible] noncomputable def un : Nat := epsC.2.2.2.2.2.2.2.1
@[irreducible] noncomputable def gd : Option (List Code) := epsC.2.2.2.2.2.2.2.2.1
@[irreducible] noncomputable def env : Env := epsC.2.2.2.2.2.2.2.2.2.1
@[irreducible] noncomputable def outer : List Env := epsC.2.2.2.2.2.2.2.2.2.2.1
@[irreducible] noncomputable def A₀ : Around := epsC.2.2.2.2.2.2.2.2.2.2.2.1
@[irreducible] noncomputable def base : Heap := epsC.2.2.2.2.2.2.2.2.2.2.2.2.1
@[irreducible] noncomputable def h₀ : Heap := epsC.2.2.2.2.2.2.2.2.2.2.2.2.2.1
@[irreducible] noncomputable def L : Addr := epsC.2.2.2.2.2.2.2.2.2.2.2.2.2.2.1
@[irreducible] noncomputable def m : Str → Option Value := epsC.2.2.2.2.2.2.2.2.2.2.2.2.2.2.2.1
@[irreducible] noncomputable def news : List (Addr × Obj) := epsC.2.2.2.2.2.2.2.2.2.2.2.2.2.2.2.2.1
@[irreducible] noncomputable def s : Shared := epsC.2.2.2.2.2.2.2.2.2.2.2.2.2.2.2.2.2.1
@[irreducible] noncomputable def Q : Value → Shared → Prop := epsC.2.2.2.2.2.2.2.2.2.2.2.2.2.2.2.2.2.2.1
@[irreducible] noncomputable def E : Value → Shared → Prop := epsC.2.2.2.2.2.2.2.2.2.2.2.2.2.2.2.2.2.2.2
set_option maxHeartbeats 4000000 in
theorem main : P D w loose mean mg mb dp un gd env outer A₀ base h₀ L m news s Q E := by
  intro ih C hroom hun v d hR hdep hlen hret
  obtain ⟨B, FF, X, N, T, hf, hk⟩ := C
  have hr : recursionLimit = 1000 := rfl
  have hc : cLine = 9900 := rfl
  revert X; k_fill; intro X
  refine wpAny_call ?_
  cases hR with
  | @str b t ks hb =>
    have hl1 : ks.length ≤ (enc (.str ks)).length := by rw [enc]; split <;> simp
    (k_dflt (refine' code_def ?k1 ?k2 ?k3 ?k4 ?k5 ?kA ?kF ?kK ?k6 ?k7 ?k8 ?k9 ?kB ?_ ?c2 ?c3 ?c4 ?c5; (case kA => exact rfl); (case kF => first | assumption | exact rfl); (case kK => first | assumption | exact rfl); (case k1 => k_asm); (case k2 => k_asm); (case k3 => k_asm); (case k4 => k_asm); (case k5 => k_asm); (case k6 => k_is); (case k7 => k_is); (case k8 => ((try dsimp only [Around.deeper]); lia)); (case k9 => first | exact BindsTo.of_eq rfl | exact binds_K (by k_in) rfl (by k_is) rfl rfl rfl); (case c5 => decide); (case kB => exact locs rfl); (case c2 => exact rfl); (case c3 => exact rfl); (case c4 => exact rfl); k_whole; intro _ _ _ _ _ _ _ _ _; (try dsimp only); (try k_fold)))
    (k_steps; repeat' ((with_reducible refine Stop.mk ?_); first | (((with_reducible rename Fr _ _ _ _ => kF); k_dflt (refine For_W kF (by rfl) (by rfl) ?_)); k_steps) | fail))
    · rename Fr h₀ L _ m => FN
      rename News h₀ L _ (_ :: news) => NN
      refine hret _ _ _ _ (hb.trans ?_) FN (kst_newsOf NN fun z hz => .tail _ hz)
      rw [enc, if_pos ⟨by lia, by assumption⟩]
    all_goals
      refine ⟨c_prefix (dp := dp + 1) (un := un + 3) (outer := env :: outer) ⟨(by assumption), (by assumption), (by assumption), (by assumption), (by assumption), rfl, rfl⟩ (by lia) (by lia) _ _ _ _ (by lia) (by lia) (.inl rfl) ?_⟩
      intro c t' h' tk' hc2 hB
      have FX := hB.1
      have NX := hB.2.1
      rw [List.append_nil] at NX
      clear hB
      have hpl := pfx_len (ks.length : Int) 128
      k_sweep
      (k_steps; repeat' ((with_reducible refine Stop.mk ?_); first | (((with_reducible rename Fr _ _ _ _ => kF); k_dflt (refine For_W kF (by rfl) (by rfl) ?_)); k_steps) | fail))
      rename Fr h₀ L _ m => FN
      rename News h₀ L _ (_ :: news) => NN
      rename KBw.bInts (_ ++ _) = _ => hA
      refine hret _ _ _ _ (hA.trans ?_) FN (kst_newsOf NN fun z hz => .tail _ hz)
      rw [enc, if_neg (by rintro ⟨q1, q2⟩; first | (exact absurd q2 (by assumption)) | lia)]
  | @list a vs n ds hm hI =>
    have N2 := kst_newsOf (l' := (a, listOf vs.toArray n) :: news) N (by
      intro z hz
      rcases List.mem_cons.mp hz with rfl | hz
      · exact hm
      · exact hz)
    clear N
    (k_dflt (refine' code_def ?k1 ?k2 ?k3 ?k4 ?k5 ?kA ?kF ?kK ?k6 ?k7 ?k8 ?k9 ?kB ?_ ?c2 ?c3 ?c4 ?c5; (case kA => exact rfl); (case kF => first | assumption | exact rfl); (case kK => first | assumption | exact rfl); (case k1 => k_asm); (case k2 => k_asm); (case k3 => k_asm); (case k4 => k_asm); (case k5 => k_asm); (case k6 => k_is); (case k7 => k_is); (case k8 => ((try dsimp only [Around.deeper]); lia)); (case k9 => first | exact BindsTo.of_eq rfl | exact binds_K (by k_in) rfl (by k_is) rfl rfl rfl); (case c5 => decide); (case kB => exact locs rfl); (case c2 => exact rfl); (case c3 => exact rfl); (case c4 => exact rfl); k_whole; intro _ _ _ _ _ _ _ _ _; (try dsimp only); (try k_fold)))
    (k_steps; repeat' ((with_reducible refine Stop.mk ?_); first | (((with_reducible rename Fr _ _ _ _ => kF); k_dflt (refine For_W kF (by rfl) (by rfl) ?_)); k_steps) | fail))
    have hle : (encs ds).length ≤ 60000 := by
      have : (enc (.list ds)).length = (pfx (encs ds).length 192).length + (encs ds).length := by rw [enc, List.length_append]
      lia
    have hde : deps ds + 1 < D := by rw [dep] at hdep; exact hdep
    rename News _ _ _ _ => N1
    rename Fr _ _ _ _ => F1
    refine ⟨iter_V (fun i m => ∃ c t cs rest, KBw.bInts c = cs ∧ (∀ p ∈ [(Str.ofString "payload", Value.bytes c t)], m p.1 = some p.2) ∧ RlpsIn news (vs.drop i) rest ∧ encs ds = cs ++ encs rest ∧ deps rest ≤ deps ds) rfl (.tail _ (.head _)) F1 N1 ⟨#[], _, [], ds, rfl, (fun p hp => by rcases List.mem_cons.mp hp with rfl | hp; exact rfl; nomatch hp), by simpa using hI, rfl, Nat.le_refl _⟩ ?_ ?_⟩
    · rintro i v m₁ h tk own hv ⟨c, t, cs, rest, hcs, hmm, hIr, he, hdr⟩ F2 N2
      rw [← kst_self hmm] at F2
      obtain ⟨d', rest', rfl, hR', hIr'⟩ := RlpsIn.drop hIr hv
      rw [encs] at he
      rw [deps] at hdr
      have hlen2 : cs.length + (enc d').length + (encs rest').length ≤ 60000 := by
        rw [he] at hle; simp only [List.length_append] at hle; lia
      clear F1 N1
      show wpAny _ _ _ _ _ _
      k_fold
      (k_steps; repeat' ((with_reducible refine Stop.mk ?_); first | (((with_reducible rename Fr _ _ _ _ => kF); k_dflt (refine For_W kF (by rfl) (by rfl) ?_)); k_steps) | fail))
      refine ⟨ih (D - 1) (by lia) (dp := dp + 1) (un := un + 3) (outer := env :: outer) ⟨(by assumption), (by assumption), (by assumption), (by assumption), (by assumption), rfl, rfl⟩ (by lia) (by lia) v d' (RlpIn.mono (fun z hz => List.mem_append_right _ (.tail _ (.tail _ hz))) hR') (by lia) (by lia) ?_⟩
      intro c2 t2 h2 tk2 hc2 FF3 NN3
      k_sweep
      (k_steps; repeat' ((with_reducible refine Stop.mk ?_); first | (((with_reducible rename Fr _ _ _ _ => kF); k_dflt (refine For_W kF (by rfl) (by rfl) ?_)); k_steps) | fail))
      rename News _ _ _ _ => NE
      rename Fr _ _ _ _ => FE
      rename KBw.bInts (_ ++ _) = _ => hA
      refine ⟨_, _, _, rfl, FE, NE, _, _, _, rest', hA, (fun p hp => by rcases List.mem_cons.mp hp with rfl | hp; exact rfl; nomatch hp), hIr', ?_, by lia⟩
      rw [he, List.append_assoc]
    · rintro m₁ h tk ⟨c, t, cs, rest, hcs, hmm, hIr, he, hdr⟩ F2 N2
      rw [← kst_self hmm] at F2
      have hr0 : rest = .nil := by
        rw [List.drop_length] at hIr; cases hIr; rfl
      subst hr0
      rw [encs, List.append_nil] at he
      clear F1 N1
      have hcl : cs.length ≤ 60000 := by rw [← he]; exact hle
      show wpAny _ _ _ _ _ _
      (k_steps; repeat' ((with_reducible refine Stop.mk ?_); first | (((with_reducible rename Fr _ _ _ _ => kF); k_dflt (refine For_W kF (by rfl) (by rfl) ?_)); k_steps) | fail))
      refine ⟨c_prefix (dp := dp + 1) (un := un + 3) (outer := env :: outer) ⟨(by assumption), (by assumption), (by assumption), (by assumption), (by assumption), rfl, rfl⟩ (by lia) (by lia) _ _ _ _ (by lia) (by lia) (.inr rfl) ?_⟩
      intro c2 t' h' tk' hc2 hB
      have FX := hB.1
      have NX := hB.2.1
      rw [List.append_nil] at NX
      clear hB
      have hpl := pfx_len (cs.length : Int) 192
      k_sweep
      (k_steps; repeat' ((with_reducible refine Stop.mk ?_); first | (((with_reducible rename Fr _ _ _ _ => kF); k_dflt (refine For_W kF (by rfl) (by rfl) ?_)); k_steps) | fail))
      rename Fr h₀ L _ m => FN
      rename News h₀ L _ (_ :: _ :: news) => NN
      rename KBw.bInts (_ ++ _) = _ => hA
      refine hret _ _ _ _ (hA.trans ?_) FN (kst_newsOf NN fun z hz => .tail _ (.tail _ hz))
      rw [enc, he]
theorem all (p : Nat × World × (List Str) × (ExcName → Option Value) × (Str → Option Value) × (Str → Option Value) × Nat × Nat × (Option (List Code)) × Env × (List Env) × Around × Heap × Heap × Addr × (Str → Option Value) × (List (Addr × Obj)) × Shared × (Value → Shared → Prop) × (Value → Shared → Prop)) : P p.1 p.2.1 p.2.2.1 p.2.2.2.1 p.2.2.2.2.1 p.2.2.2.2.2.1 p.2.2.2.2.2.2.1 p.2.2.2.2.2.2.2.1 p.2.2.2.2.2.2.2.2.1 p.2.2.2.2.2.2.2.2.2.1 p.2.2.2.2.2.2.2.2.2.2.1 p.2.2.2.2.2.2.2.2.2.2.2.1 p.2.2.2.2.2.2.2.2.2.2.2.2.1 p.2.2.2.2.2.2.2.2.2.2.2.2.2.1 p.2.2.2.2.2.2.2.2.2.2.2.2.2.2.1 p.2.2.2.2.2.2.2.2.2.2.2.2.2.2.2.1 p.2.2.2.2.2.2.2.2.2.2.2.2.2.2.2.2.1 p.2.2.2.2.2.2.2.2.2.2.2.2.2.2.2.2.2.1 p.2.2.2.2.2.2.2.2.2.2.2.2.2.2.2.2.2.2.1 p.2.2.2.2.2.2.2.2.2.2.2.2.2.2.2.2.2.2.2 := Classical.byContradiction fun n => Classical.epsilon_spec (p := fun p => ¬ P p.1 p.2.1 p.2.2.1 p.2.2.2.1 p.2.2.2.2.1 p.2.2.2.2.2.1 p.2.2.2.2.2.2.1 p.2.2.2.2.2.2.2.1 p.2.2.2.2.2.2.2.2.1 p.2.2.2.2.2.2.2.2.2.1 p.2.2.2.2.2.2.2.2.2.2.1 p.2.2.2.2.2.2.2.2.2.2.2.1 p.2.2.2.2.2.2.2.2.2.2.2.2.1 p.2.2.2.2.2.2.2.2.2.2.2.2.2.1 p.2.2.2.2.2.2.2.2.2.2.2.2.2.2.1 p.2.2.2.2.2.2.2.2.2.2.2.2.2.2.2.1 p.2.2.2.2.2.2.2.2.2.2.2.2.2.2.2.2.1 p.2.2.2.2.2.2.2.2.2.2.2.2.2.2.2.2.2.1 p.2.2.2.2.2.2.2.2.2.2.2.2.2.2.2.2.2.2.1 p.2.2.2.2.2.2.2.2.2.2.2.2.2.2.2.2.2.2.2) ⟨p, n⟩ (by with_unfolding_all exact main)
end c_encNxE
theorem c_encNx (D : Nat) (ih : ∀ D' < D, EncN D') {w : World} {loose : List Str} {mean : ExcName → Option Value} {mg mb : Str → Option Value} {dp un : Nat} {gd : Option (List Code)} {env : Env} {outer : List Env} {A₀ : Around} {base h₀ : Heap} {L : Addr} {m : Str → Option Value} {news : List (Addr × Obj)} {s : Shared} {Q E : Value → Shared → Prop} (C : Cx w loose mean mg mb env outer A₀ base h₀ L m news s.heap) (hroom : dp + D + 20 < 1000) (hun : un + 3 * D + 200 < 9900) (v : Value) (d : Rlp) (hR : RlpIn news v d) (hdep : dep d < D) (hlen : (enc d).length ≤ 60000) (hret : (∀ c t' h' tk', KBw.bInts c = enc d → Fr h₀ L h' m → News h₀ L h' news → Q (.bytes c t') { s with heap := h', toks := tk' }))
    :
    wpAny (model PySem.Challenge.rw_jm0023_01.prog w) (kT dp un gd env outer) (call (.ref 1455) [v]) Q E s := c_encNxE.all (D, w, loose, mean, mg, mb, dp, un, gd, env, outer, A₀, base, h₀, L, m, news, s, Q, E) ih C hroom hun v d hR hdep hlen hret
theorem c_encN (D : Nat) (ih : ∀ D' < D, EncN D') : EncN D := by
  intro w loose mean mg mb dp un gd env outer A₀ base h₀ L m news s Q E C hroom hun v d hR hdep hlen hret
  exact c_encNx D ih C hroom hun v d hR hdep hlen hret
theorem encN_all (D : Nat) : EncN D := by
  induction D using Nat.strongRecOn with
  | ind D ih => exact c_encN D ih
end
theorem pad15 {prog : PySem.Program} {w : PySem.World} {A : PySem.Around} {E : PySem.Value → PySem.Shared → Prop} {s : PySem.Shared} {env : PySem.Env} {Q : PySem.Flow → PySem.Shared → Prop} (h : Q .next s) : PySem.wpAny (PySem.model prog w) A (PySem.execs [] env) Q E s := by
  walk1
  exact h
section
open PySem PySem.W PySem.Calls PyProof.Rows PySem.Spec
local macro_rules | `(tactic| walk_at "eval GeneratorExp") => `(tactic| refine Stop.go ?_)
local macro_rules | `(tactic| walk_at "call builtin:bytes.join") => `(tactic| refine Stop.go ?_)
local macro_rules | `(tactic| walk_at "getMethod bytes") => `(tactic| (with_reducible refine JB.method ?_))
theorem enc_pos : ∀ d : Rlp, 1 ≤ (enc d).length
  | .str ks => by
    rw [enc]; split
    · lia
    · rw [List.length_append]
      have : 1 ≤ (pfx (ks.length : Int) 128).length := by unfold pfx; repeat' split
                                                          all_goals simp
      lia
  | .list ds => by
    rw [enc, List.length_append]
    have : 1 ≤ (pfx ((encs ds).length : Int) 192).length := by unfold pfx; repeat' split
                                                               all_goals simp
    lia
theorem rlps_le {news : List (Addr × Obj)} : ∀ {vs : List Value} {ds : Rlps}, RlpsIn news vs ds → vs.length ≤ (encs ds).length
  | _, _, .nil => by simp
  | _, _, .cons (d := d) h1 h2 => by
    have := rlps_le h2
    have := enc_pos d
    rw [encs, List.length_append, List.length_cons]; lia
namespace c_encCxE
noncomputable def P (D : Nat) (w : World) (loose : List Str) (mean : ExcName → Option Value) (mg : Str → Option Value) (mb : Str → Option Value) (dp : Nat) (un : Nat) (gd : Option (List Code)) (env : Env) (outer : List Env) (A₀ : Around) (base : Heap) (h₀ : Heap) (L : Addr) (m : Str → Option Value) (news : List (Addr × Obj)) (ps : Array Value) (s : Shared) (Q : Value → Shared → Prop) (E : Value → Shared → Prop) : Prop := ∀ (ih : ∀ D' < D, EncC D') (C : Cx w loose mean mg mb env outer A₀ base h₀ L m ((1380, cT ps) :: news) s.heap) (htr : TriplesOk ps.toList) (hnp : (∀ p ∈ news, p.1 ≠ 1380)) (hroom : dp + 2 * D + 30 < 1000) (hun : un + 12 * D + 200 < 9900) (v : Value) (d : Rlp) (hR : RlpIn news v d) (hdep : dep d < D) (hlen : (enc d).length ≤ 60000) (hret : (∀ c t' h' tk' gs' ps', KBw.bInts c = enc d → TriplesOk ps'.toList → Sm ps ps' → Fr h₀ L h' m → News h₀ L h' ((1380, cT ps') :: news) → GK s.gens gs' → Q (.bytes c t') { s with heap := h', toks := tk', gens := gs' })), wpAny (model PySem.Challenge.rw_jm0023_01.prog w) (kT dp un gd env outer) (call (.ref 1385) [v]) Q E s
noncomputable def epsC : Nat × World × (List Str) × (ExcName → Option Value) × (Str → Option Value) × (Str → Option Value) × Nat × Nat × (Option (List Code)) × Env × (List Env) × Around × Heap × Heap × Addr × (Str → Option Value) × (List (Addr × Obj)) × (Array Value) × Shared × (Value → Shared → Prop) × (Value → Shared → Prop) := @Classical.epsilon (Nat × World × (List Str) × (ExcName → Option Value) × (Str → Option Value) × (Str → Option Value) × Nat × Nat × (Option (List Code)) × Env × (List Env) × Around × Heap × Heap × Addr × (Str → Option Value) × (List (Addr × Obj)) × (Array Value) × Shared × (Value → Shared → Prop) × (Value → Shared → Prop)) ⟨(0, ⟨fun _ _ => 0, { strHash := fun _ => 0, shareClass := fun _ => 0, mergeTok := fun t => t, idOf := fun _ => 0, idOfShared := fun _ _ => 0, followText := fun _ => false, idOfImm := fun _ => 0 }⟩, [], (fun _ => none), (fun _ => none), (fun _ => none), 0, 0, none, default, [], {}, {}, {}, (0 : Nat), (fun _ => none), [], #[], {}, (fun _ _ => True), (fun _ _ => True))⟩ fun p => ¬ P p.1 p.2.1 p.2.2.1 p.2.2.2.1 p.2.2.2.2.1 p.2.2.2.2.2.1 p.2.2.2.2.2.2.1 p.2.2.2.2.2.2.2.1 p.2.2.2.2.2.2.2.2.1 p.2.2.2.2.2.2.2.2.2.1 p.2.2.2.2.2.2.2.2.2.2.1 p.2.2.2.2.2.2.2.2.2.2.2.1 p.2.2.2.2.2.2.2.2.2.2.2.2.1 p.2.2.2.2.2.2.2.2.2.2.2.2.2.1 p.2.2.2.2.2.2.2.2.2.2.2.2.2.2.1 p.2.2.2.2.2.2.2.2.2.2.2.2.2.2.2.1 p.2.2.2.2.2.2.2.2.2.2.2.2.2.2.2.2.1 p.2.2.2.2.2.2.2.2.2.2.2.2.2.2.2.2.2.1 p.2.2.2.2.2.2.2.2.2.2.2.2.2.2.2.2.2.2.1 p.2.2.2.2.2.2.2.2.2.2.2.2.2.2.2.2.2.2.2.1 p.2.2.2.2.2.2.2.2.2.2.2.2.2.2.2.2.2.2.2.2
@[irreducible] noncomputable def D : Nat := epsC.1
@[irreducible] noncomputable def w : World := epsC.2.1
@[irreducible] noncomputable def loose : List Str := epsC.2.2.1
@[irreducible] noncomputable def mean : ExcName → Option Value := epsC.2.2.2.1
@[irreducible] noncomputable def mg : Str → Option Value := epsC.2.2.2.2.1
@[irreducible] noncomputable def mb : Str → Option Value := epsC.2.2.2.2.2.1
@[irreducible] noncomputable def dp : Nat := epsC.2.2.2.2.2.2.1
@[irreducible] noncomputable def un : Nat := epsC.2.2.2.2.2.2.2.1
@[irreducible] noncomputable def gd : Option (List Code) := epsC.2.2.2.2.2.2.2.2.1
@[irreducible] noncomputable def env : Env := epsC.2.2.2.2.2.2.2.2.2.1
@[irreducible] noncomputable def outer : List Env := epsC.2.2.2.2.2.2.2.2.2.2.1
@[irreducible] noncomputable def A₀ : Around := epsC.2.2.2.2.2.2.2.2.2.2.2.1
@[irreducible] noncomputable def base : Heap := epsC.2.2.2.2.2.2.2.2.2.2.2.2.1
@[irreducible] noncomputable def h₀ : Heap := epsC.2.2.2.2.2.2.2.2.2.2.2.2.2.1
@[irreducible] noncomputable def L : Addr := epsC.2.2.2.2.2.2.2.2.2.2.2.2.2.2.1
@[irreducible] noncomputable def m : Str → Option Value := epsC.2.2.2.2.2.2.2.2.2.2.2.2.2.2.2.1
@[irreducible] noncomputable def news : List (Addr × Obj) := epsC.2.2.2.2.2.2.2.2.2.2.2.2.2.2.2.2.1
@[irreducible] noncomputable def ps : Array Value := epsC.2.2.2.2.2.2.2.2.2.2.2.2.2.2.2.2.2.1
@[irreducible] noncomputable def s : Shared := epsC.2.2.2.2.2.2.2.2.2.2.2.2.2.2.2.2.2.2.1
@[irreducible] noncomputable def Q : Value → Shared → Prop := epsC.2.2.2.2.2.2.2.2.2.2.2.2.2.2.2.2.2.2.2.1
@[irreducible] noncomputable def E : Value → Shared → Prop := epsC.2.2.2.2.2.2.2.2.2.2.2.2.2.2.2.2.2.2.2.2
set_option maxHeartbeats 4000000 in
theorem main : P D w loose mean mg mb dp un gd env outer A₀ base h₀ L m news ps s Q E := by
  intro ih C htr hnp hroom hun v d hR hdep hlen hret
  obtain ⟨B, FF, X, N, T, hf, hk⟩ := C
  have hr : recursionLimit = 1000 := rfl
  have hc : cLine = 9900 := rfl
  revert X; k_fill; intro X
  refine wpAny_call ?_
  cases hR with
  | @str b t ks hb =>
    have hl1 : ks.length ≤ (enc (.str ks)).length := by rw [enc]; split <;> simp
    (k_dflt (refine' code_def ?k1 ?k2 ?k3 ?k4 ?k5 ?kA ?kF ?kK ?k6 ?k7 ?k8 ?k9 ?kB ?_ ?c2 ?c3 ?c4 ?c5; (case kA => exact rfl); (case kF => first | assumption | exact rfl); (case kK => first | assumption | exact rfl); (case k1 => k_asm); (case k2 => k_asm); (case k3 => k_asm); (case k4 => k_asm); (case k5 => k_asm); (case k6 => k_is); (case k7 => k_is); (case k8 => ((try dsimp only [Around.deeper]); lia)); (case k9 => first | exact BindsTo.of_eq rfl | exact binds_K (by k_in) rfl (by k_is) rfl rfl rfl); (case c5 => decide); (case kB => exact locs rfl); (case c2 => exact rfl); (case c3 => exact rfl); (case c4 => exact rfl); k_whole; intro _ _ _ _ _ _ _ _ _; (try dsimp only); (try k_fold)))
    k_steps
    · rename Fr h₀ L _ m => FN
      rename News h₀ L _ (_ :: _ :: news) => NN
      have e1 : ({ heap := s.heap, gens := s.gens, drawn := s.drawn, toks := s.toks, os := s.os } : Shared) = s := rfl
      refine hret _ _ _ _ s.gens ps (hb.trans ?_) htr (Sm.refl _) FN (kst_newsOf NN fun z hz => .tail _ hz) (GK.refl _)
      rw [enc, if_pos ⟨by lia, by assumption⟩]
    all_goals
      refine ⟨c_lp (dp := dp + 1) (un := un + 3) (outer := env :: outer) ⟨(by assumption), (by assumption), (by assumption), (by assumption), (by assumption), rfl, rfl⟩ (by lia) (by lia) _ _ _ _ (by lia) (by lia) (.inl rfl) ?_⟩
      intro c t' h' tk' hc2 FX NX
      have hpl := pfx_len (ks.length : Int) 128
      k_sweep
      k_steps
      rename Fr h₀ L _ m => FN
      rename News h₀ L _ (_ :: _ :: news) => NN
      rename KBw.bInts (_ ++ _) = _ => hA
      refine hret _ _ _ _ s.gens ps (hA.trans ?_) htr (Sm.refl _) FN (kst_newsOf NN fun z hz => .tail _ hz) (GK.refl _)
      rw [enc, if_neg (by rintro ⟨q1, q2⟩; first | (exact absurd q2 (by assumption)) | lia)]
  | @list a vs n ds hm hI =>
    have N2 := kst_newsOf (l' := (a, listOf vs.toArray n) :: (1380, cT ps) :: news) N (by
      intro z hz
      rcases List.mem_cons.mp hz with rfl | hz
      · exact .tail _ hm
      · exact hz)
    clear N
    have hle : (encs ds).length ≤ 60000 := by
      have : (enc (.list ds)).length = (pfx (encs ds).length 192).length + (encs ds).length := by rw [enc, List.length_append]
      lia
    have hde : deps ds + 1 < D := by rw [dep] at hdep; exact hdep
    (k_dflt (refine' code_def ?k1 ?k2 ?k3 ?k4 ?k5 ?kA ?kF ?kK ?k6 ?k7 ?k8 ?k9 ?kB ?_ ?c2 ?c3 ?c4 ?c5; (case kA => exact rfl); (case kF => first | assumption | exact rfl); (case kK => first | assumption | exact rfl); (case k1 => k_asm); (case k2 => k_asm); (case k3 => k_asm); (case k4 => k_asm); (case k5 => k_asm); (case k6 => k_is); (case k7 => k_is); (case k8 => ((try dsimp only [Around.deeper]); lia)); (case k9 => first | exact BindsTo.of_eq rfl | exact binds_K (by k_in) rfl (by k_is) rfl rfl rfl); (case c5 => decide); (case kB => exact locs rfl); (case c2 => exact rfl); (case c3 => exact rfl); (case c4 => exact rfl); k_whole; intro _ _ _ _ _ _ _ _ _; (try dsimp only); (try k_fold)))
    k_steps
    rename News _ _ _ _ => N1
    rename Fr _ _ _ _ => F1
    have N3 := kst_newsOf (l' := (1380, cT ps) :: news) N1 (by
      intro z hz
      rcases List.mem_cons.mp hz with rfl | hz
      · exact .tail _ (.tail _ (.tail _ (.head _)))
      · exact .tail _ (.tail _ (.tail _ (.tail _ hz))))
    refine ⟨gen_made (n := n) (vs := vs) (a := a) (by assumption) (by assumption) F1 N3 hnp htr rfl hm (by show dp + 1 < recursionLimit; lia) ?_⟩
    intro gv gs' hRdy
    k_steps
    have hvs : vs.length ≤ 60000 := Nat.le_trans (rlps_le hI) hle
    refine ⟨gen_joined (env := env) (dp := dp + 1) (un := un + 3) (outer := env :: outer) (ih (D - 1) (by lia)) (by assumption) (by assumption) (by assumption) hm hnp hI (by lia) hle hvs (by lia) (by lia) hRdy ?_⟩
    clear hRdy N1 N3 F1
    intro cc tt hh tk2 gs2 ps2 hcc htr2 hsame F2 N2 hG
    have hpl := pfx_len ((encs ds).length : Int) 192
    k_sweep
    k_steps
    refine ⟨c_lp (dp := dp + 1) (un := un + 3) (outer := env :: outer) ⟨(by assumption), (by assumption), (by assumption), (by assumption), (by assumption), rfl, rfl⟩ (by lia) (by lia) _ _ _ _ (by lia) (by lia) (.inr rfl) ?_⟩
    intro c t' h' tk' hc2 FX NX
    k_sweep
    k_steps
    rename Fr h₀ L _ m => FN
    rename News h₀ L _ (_ :: news) => NN
    rename KBw.bInts (_ ++ _) = _ => hA
    refine hret _ _ _ _ gs2 ps2 (hA.trans ?_) htr2 hsame FN NN hG
    rw [enc]
theorem all (p : Nat × World × (List Str) × (ExcName → Option Value) × (Str → Option Value) × (Str → Option Value) × Nat × Nat × (Option (List Code)) × Env × (List Env) × Around × Heap × Heap × Addr × (Str → Option Value) × (List (Addr × Obj)) × (Array Value) × Shared × (Value → Shared → Prop) × (Value → Shared → Prop)) : P p.1 p.2.1 p.2.2.1 p.2.2.2.1 p.2.2.2.2.1 p.2.2.2.2.2.1 p.2.2.2.2.2.2.1 p.2.2.2.2.2.2.2.1 p.2.2.2.2.2.2.2.2.1 p.2.2.2.2.2.2.2.2.2.1 p.2.2.2.2.2.2.2.2.2.2.1 p.2.2.2.2.2.2.2.2.2.2.2.1 p.2.2.2.2.2.2.2.2.2.2.2.2.1 p.2.2.2.2.2.2.2.2.2.2.2.2.2.1 p.2.2.2.2.2.2.2.2.2.2.2.2.2.2.1 p.2.2.2.2.2.2.2.2.2.2.2.2.2.2.2.1 p.2.2.2.2.2.2.2.2.2.2.2.2.2.2.2.2.1 p.2.2.2.2.2.2.2.2.2.2.2.2.2.2.2.2.2.1 p.2.2.2.2.2.2.2.2.2.2.2.2.2.2.2.2.2.2.1 p.2.2.2.2.2.2.2.2.2.2.2.2.2.2.2.2.2.2.2.1 p.2.2.2.2.2.2.2.2.2.2.2.2.2.2.2.2.2.2.2.2 := Classical.byContradiction fun n => Classical.epsilon_spec (p := fun p => ¬ P p.1 p.2.1 p.2.2.1 p.2.2.2.1 p.2.2.2.2.1 p.2.2.2.2.2.1 p.2.2.2.2.2.2.1 p.2.2.2.2.2.2.2.1 p.2.2.2.2.2.2.2.2.1 p.2.2.2.2.2.2.2.2.2.1 p.2.2.2.2.2.2.2.2.2.2.1 p.2.2.2.2.2.2.2.2.2.2.2.1 p.2.2.2.2.2.2.2.2.2.2.2.2.1 p.2.2.2.2.2.2.2.2.2.2.2.2.2.1 p.2.2.2.2.2.2.2.2.2.2.2.2.2.2.1 p.2.2.2.2.2.2.2.2.2.2.2.2.2.2.2.1 p.2.2.2.2.2.2.2.2.2.2.2.2.2.2.2.2.1 p.2.2.2.2.2.2.2.2.2.2.2.2.2.2.2.2.2.1 p.2.2.2.2.2.2.2.2.2.2.2.2.2.2.2.2.2.2.1 p.2.2.2.2.2.2.2.2.2.2.2.2.2.2.2.2.2.2.2.1 p.2.2.2.2.2.2.2.2.2.2.2.2.2.2.2.2.2.2.2.2) ⟨p, n⟩ (by with_unfolding_all exact main)
end c_encCxE
theorem c_encCx (D : Nat) (ih : ∀ D' < D, EncC D') {w : World} {loose : List Str} {mean : ExcName → Option Value} {mg mb : Str → Option Value} {dp un : Nat} {gd : Option (List Code)} {env : Env} {outer : List Env} {A₀ : Around} {base h₀ : Heap} {L : Addr} {m : Str → Option Value} {news : List (Addr × Obj)} {ps : Array Value} {s : Shared} {Q E : Value → Shared → Prop} (C : Cx w loose mean mg mb env outer A₀ base h₀ L m ((1380, cT ps) :: news) s.heap) (htr : TriplesOk ps.toList) (hnp : (∀ p ∈ news, p.1 ≠ 1380)) (hroom : dp + 2 * D + 30 < 1000) (hun : un + 12 * D + 200 < 9900) (v : Value) (d : Rlp) (hR : RlpIn news v d) (hdep : dep d < D) (hlen : (enc d).length ≤ 60000) (hret : (∀ c t' h' tk' gs' ps', KBw.bInts c = enc d → TriplesOk ps'.toList → Sm ps ps' → Fr h₀ L h' m → News h₀ L h' ((1380, cT ps') :: news) → GK s.gens gs' → Q (.bytes c t') { s with heap := h', toks := tk', gens := gs' }))
    :
    wpAny (model PySem.Challenge.rw_jm0023_01.prog w) (kT dp un gd env outer) (call (.ref 1385) [v]) Q E s := c_encCxE.all (D, w, loose, mean, mg, mb, dp, un, gd, env, outer, A₀, base, h₀, L, m, news, ps, s, Q, E) ih C htr hnp hroom hun v d hR hdep hlen hret
theorem c_encC (D : Nat) (ih : ∀ D' < D, EncC D') : EncC D := by
  intro w loose mean mg mb dp un gd env outer A₀ base h₀ L m news ps s Q E C htr hnp hroom hun v d hR hdep hlen hret
  exact c_encCx D ih C htr hnp hroom hun v d hR hdep hlen hret
theorem encC_all (D : Nat) : EncC D := by
  induction D using Nat.strongRecOn with
  | ind D ih => exact c_encC D ih
end
theorem pad16 {prog : PySem.Program} {w : PySem.World} {A : PySem.Around} {E : PySem.Value → PySem.Shared → Prop} {s : PySem.Shared} {env : PySem.Env} {Q : PySem.Flow → PySem.Shared → Prop} (h : Q .next s) : PySem.wpAny (PySem.model prog w) A (PySem.execs [] env) Q E s := by
  walk1
  exact h
section
open PySem PySem.W PySem.Calls PyProof.Rows PySem.Spec
/-- the script's number at k -/
noncomputable def atL (ns : List Int) (k : Int) : Int := if k < ns.length then ns.getD k.toNat 0 else 11 * k + 6
local macro_rules | `(tactic| walk_at "call builtin:len") => `(tactic| refine Stop.go ?_)
local macro_rules | `(tactic| walk_at "subscriptTail") => `(tactic| with_reducible refine Stop.r ?_)
set_option maxHeartbeats 4000000 in
theorem c_at {w : World} {loose : List Str} {mean : ExcName → Option Value} {mg mb : Str → Option Value} {dp un : Nat} {gd : Option (List Code)} {env : Env} {outer : List Env} {A₀ : Around} {base h₀ : Heap} {L : Addr} {m : Str → Option Value} {news : List (Addr × Obj)} {s : Shared} {Q E : Value → Shared → Prop}
    (C : Cx w loose mean mg mb env outer A₀ base h₀ L m news s.heap) (hroom : dp + 10 < 1000) (hun : un + 100 < 9900)
    (sc : Addr) (xs : List Value) (n : Nat) (hsc : (sc, listOf xs.toArray n) ∈ news) (ns : List Int) (hxs : IntsAre xs ns) (hxl : xs.length = ns.length) (hlen : ns.length ≤ 63) (k : Int) (t1 : Tok) (hk0 : 0 ≤ k) (hk1 : k < 1000)
    (hret : ∀ t' h' tk', Fr h₀ L h' m → News h₀ L h' news → Q (.int (atL ns k) t') { s with heap := h', toks := tk' }) :
    wpAny (model PySem.Challenge.rw_jm0023_01.prog w) (kT dp un gd env outer) (call (.ref 1476) [.ref sc, .int k t1]) Q E s := by
  obtain ⟨B, F, X, N, T, hf, hk⟩ := C
  have hr : recursionLimit = 1000 := rfl
  have hc : cLine = 9900 := rfl
  revert X; k_fill; intro X
  have N2 := kst_newsOf (l' := (sc, listOf xs.toArray n) :: news) N (by
    intro z hz
    rcases List.mem_cons.mp hz with rfl | hz
    · exact hsc
    · exact hz)
  clear N
  refine wpAny_call ?_
  (k_dflt (refine' code_def ?k1 ?k2 ?k3 ?k4 ?k5 ?kA ?kF ?kK ?k6 ?k7 ?k8 ?k9 ?kB ?_ ?c2 ?c3 ?c4 ?c5; (case kA => exact rfl); (case kF => first | assumption | exact rfl); (case kK => first | assumption | exact rfl); (case k1 => k_asm); (case k2 => k_asm); (case k3 => k_asm); (case k4 => k_asm); (case k5 => k_asm); (case k6 => k_is); (case k7 => k_is); (case k8 => ((try dsimp only [Around.deeper]); omega)); (case k9 => first | exact BindsTo.of_eq rfl | exact binds_K (by k_in) rfl (by k_is) rfl rfl rfl); (case c5 => decide); (case kB => exact locs rfl); (case c2 => exact rfl); (case c3 => exact rfl); (case c4 => exact rfl); k_whole; intro _ _ _ _ _ _ _ _ _; (try dsimp only); (try k_fold)))
  (k_steps; repeat' ((with_reducible refine Stop.mk ?_); first | (((with_reducible show wpAny _ _ (call (Value.builtin "len") [Value.ref _]) _ _ _); refine len_list (News.isList (by k_asm) (by k_mem)) (by rw [List.size_toArray]; omega) ?_; rw [List.size_toArray]); k_steps) | (((with_reducible show wpAny _ _ (subscriptTail _ _ (Value.ref _) (Value.int _ _)) _ _ _); k_dflt (refine item_list_ints (News.isList (by k_asm) (by k_mem)) (by assumption) (by omega) (by omega) (by omega) ?_); intro tA); k_steps) | fail))
  · rename Fr h₀ L _ m => FN
    rename News h₀ L _ _ => NN
    have e : atL ns k = ns.getD k.toNat 0 := by rw [atL, if_pos (by lia)]
    rw [← e]
    exact hret _ _ _ FN (kst_newsOf NN fun z hz => .tail _ hz)
  · rename Fr h₀ L _ m => FN
    rename News h₀ L _ _ => NN
    have e : atL ns k = 11 * k + 6 := by rw [atL, if_neg (by lia)]
    rw [← e]
    exact hret _ _ _ FN (kst_newsOf NN fun z hz => .tail _ hz)
end
section
local macro_rules | `(tactic| walk_at "eval ListComp") => `(tactic| refine Stop.go ?_)
local macro_rules | `(tactic| walk_at "CompSrc") => `(tactic| refine Stop.go ?_)
theorem pad17 {prog : PySem.Program} {w : PySem.World} {A : PySem.Around} {E : PySem.Value → PySem.Shared → Prop} {s : PySem.Shared} {env : PySem.Env} {Q : PySem.Flow → PySem.Shared → Prop} (h : Q .next s) : PySem.wpAny (PySem.model prog w) A (PySem.execs [] env) Q E s := by
  walk1
  exact h
section
open PySem PySem.W PySem.Calls PyProof.Rows PySem.Spec
section
variable {prog : Program} {w : World} {A : Around} {s : Shared} {h₀ : Heap} {L : Addr} {m : Str → Option Value} {env : Env}
/-- a list comprehension's turns, by a word over the number, the values so far and the ledger -/
theorem compRest_of {elt : PySem.Expr} {x : Str} {scope : Scope} {cl : List (Str × Addr)} {S : List (Addr × Obj) → Prop} {P : Nat → Value → Prop} {Fin : List Value → List (Addr × Obj) → Prop} {n : Nat} (J : Nat → List Value → List (Addr × Obj) → Prop)
    (turn : ∀ i ys news v I oI C oC D m₂ h tk (E' : Value → Shared → Prop), i < n → J i ys news → P i v → LCg.NsObj oC m₂ → m₂ x = some v → Fr h₀ L h m → News h₀ L h ((I, oI) :: (C, oC) :: (D, LCg.lst ys) :: news) → LCg.Off3 I C D news → ((@Ne Nat I C) ∧ (@Ne Nat I D) ∧ (@Ne Nat C D)) →
      wpAny (model prog w) A (eval elt (compEnvC scope cl C env)) (LCg.CompEnd h₀ L m { s with heap := h, toks := tk } I oI C oC D (LCg.lst ys) S (fun y news' => J (i + 1) (ys ++ [y]) news')) E' { s with heap := h, toks := tk })
    (fin : ∀ ys news, J n ys news → Fin ys news) : ∀ k i ys news, i + k = n → J i ys news → LCg.CompRest prog w A h₀ L m env elt x scope cl s S P Fin k i ys news := by
  intro k
  induction k with
  | zero =>
    intro i ys news hi hj
    have : i = n := by lia
    subst this
    exact fin ys news hj
  | succ k ih =>
    intro i ys news hi hj
    refine LCg.CompRest.succ fun v I oI C oC D m₂ h tk E' hP hC hx F N off ne => ?_
    refine wpAny_mono (turn i ys news v I oI C oC D m₂ h tk E' (by lia) hj hP hC hx F N off ne) (fun y s₂ hy => ?_) fun _ _ e => e
    obtain ⟨h', tk', news', e, F', N', off', hS, hj'⟩ := hy
    exact ⟨h', tk', news', e, F', N', off', hS, ih (i + 1) _ news' (by lia) hj'⟩
noncomputable def KeepE (h₀ : Heap) (L : Addr) (m : Str → Option Value) (s : Shared) (led : List (Addr × Obj)) (G : Value → Prop) (y : Value) (s₂ : Shared) : Prop :=
  ∃ h' tk', s₂ = { s with heap := h', toks := tk' } ∧ Fr h₀ L h' m ∧ News h₀ L h' led ∧ G y
theorem fmod_in (x : Int) : (0 ≤ x.fmod 128 ∧ x.fmod 128 < 256) ∧ (0 ≤ x.fmod 256 ∧ x.fmod 256 < 256) := by
  rw [Int.fmod_eq_emod_of_nonneg _ (by decide), Int.fmod_eq_emod_of_nonneg _ (by decide)]
  lia
/-- the same, the ledger as it stands -/
theorem compRest_keep {elt : PySem.Expr} {x : Str} {scope : Scope} {cl : List (Str × Addr)} {S : List (Addr × Obj) → Prop} {P : Nat → Value → Prop} {Fin : List Value → List (Addr × Obj) → Prop} {n : Nat} {news : List (Addr × Obj)} (G : Nat → List Value → Prop)
    (turn : ∀ i ys v I oI C oC D m₂ h tk (E' : Value → Shared → Prop), i < n → G i ys → P i v → LCg.NsObj oC m₂ → m₂ x = some v → Fr h₀ L h m → News h₀ L h ((I, oI) :: (C, oC) :: (D, LCg.lst ys) :: news) → LCg.Off3 I C D news → ((@Ne Nat I C) ∧ (@Ne Nat I D) ∧ (@Ne Nat C D)) →
      wpAny (model prog w) A (eval elt (compEnvC scope cl C env)) (KeepE h₀ L m s ((I, oI) :: (C, oC) :: (D, LCg.lst ys) :: news) fun y => G (i + 1) (ys ++ [y])) E' { s with heap := h, toks := tk })
    (hS : S news) (h0 : G 0 []) (fin : ∀ ys, G n ys → Fin ys news) : LCg.CompRest prog w A h₀ L m env elt x scope cl s S P Fin n 0 [] news :=
  compRest_of (n := n) (fun i ys nw => nw = news ∧ G i ys) (fun i ys nw v I oI C oC D m₂ h tk E' hi ⟨e, hg⟩ hP hC hx F N off ne => by
    subst e
    refine wpAny_mono (turn i ys v I oI C oC D m₂ h tk E' hi hg hP hC hx F N off ne) (fun y s₂ hy => ?_) fun _ _ e => e
    obtain ⟨h', tk', e, F', N', hg'⟩ := hy
    exact ⟨h', tk', _, e, F', N', off, hS, rfl, hg'⟩) (fun ys nw ⟨e, hg⟩ => by subst e; exact fin ys hg) n 0 [] news (by lia) ⟨rfl, h0⟩
end
namespace c_rowE
noncomputable def P (w : World) (loose : List Str) (mean : ExcName → Option Value) (mg : Str → Option Value) (mb : Str → Option Value) (dp : Nat) (un : Nat) (gd : Option (List Code)) (env : Env) (outer : List Env) (A₀ : Around) (base : Heap) (h₀ : Heap) (L : Addr) (m : Str → Option Value) (news : List (Addr × Obj)) (s : Shared) (Q : Value → Shared → Prop) (E : Value → Shared → Prop) (sc : Addr) (xs : List Value) (n : Nat) (ns : List Int) (k : Int) (z : Int) (t1 : Tok) (t2 : Tok) : Prop := ∀ (C : Cx w loose mean mg mb env outer A₀ base h₀ L m news s.heap) (hroom : dp + 20 < 1000) (hun : un + 200 < 9900) (hsc : (sc, listOf xs.toArray n) ∈ news) (hxs : IntsAre xs ns) (hxl : xs.length = ns.length) (hlen : ns.length ≤ 63) (hk0 : 0 ≤ k) (hk1 : k < 1000) (hz0 : 0 ≤ z) (hz1 : z ≤ 300) (hret : ∀ b t' h' tk', (KBw.bInts b).length = z.toNat → Fr h₀ L h' m → News h₀ L h' news → Q (.bytes b t') { s with heap := h', toks := tk' }), wpAny (model PySem.Challenge.rw_jm0023_01.prog w) (kT dp un gd env outer) (call (.ref 1481) [.ref sc, .int k t1, .int z t2]) Q E s
noncomputable def epsC : World × (List Str) × (ExcName → Option Value) × (Str → Option Value) × (Str → Option Value) × Nat × Nat × (Option (List Code)) × Env × (List Env) × Around × Heap × Heap × Addr × (Str → Option Value) × (List (Addr × Obj)) × Shared × (Value → Shared → Prop) × (Value → Shared → Prop) × Addr × (List Value) × Nat × (List Int) × Int × Int × Tok × Tok := @Classical.epsilon (World × (List Str) × (ExcName → Option Value) × (Str → Option Value) × (Str → Option Value) × Nat × Nat × (Option (List Code)) × Env × (List Env) × Around × Heap × Heap × Addr × (Str → Option Value) × (List (Addr × Obj)) × Shared × (Value → Shared → Prop) × (Value → Shared → Prop) × Addr × (List Value) × Nat × (List Int) × Int × Int × Tok × Tok) ⟨(⟨fun _ _ => 0, { strHash := fun _ => 0, shareClass := fun _ => 0, mergeTok := fun t => t, idOf := fun _ => 0, idOfShared := fun _ _ => 0, followText := fun _ => false, idOfImm := fun _ => 0 }⟩, [], (fun _ => none), (fun _ => none), (fun _ => none), 0, 0, none, default, [], {}, {}, {}, (0 : Nat), (fun _ => none), [], {}, (fun _ _ => True), (fun _ _ => True), (0 : Nat), [], 0, [], 0, 0, (0 : Nat), (0 : Nat))⟩ fun p => ¬ P p.1 p.2.1 p.2.2.1 p.2.2.2.1 p.2.2.2.2.1 p.2.2.2.2.2.1 p.2.2.2.2.2.2.1 p.2.2.2.2.2.2.2.1 p.2.2.2.2.2.2.2.2.1 p.2.2.2.2.2.2.2.2.2.1 p.2.2.2.2.2.2.2.2.2.2.1 p.2.2.2.2.2.2.2.2.2.2.2.1 p.2.2.2.2.2.2.2.2.2.2.2.2.1 p.2.2.2.2.2.2.2.2.2.2.2.2.2.1 p.2.2.2.2.2.2.2.2.2.2.2.2.2.2.1 p.2.2.2.2.2.2.2.2.2.2.2.2.2.2.2.1 p.2.2.2.2.2.2.2.2.2.2.2.2.2.2.2.2.1 p.2.2.2.2.2.2.2.2.2.2.2.2.2.2.2.2.2.1 p.2.2.2.2.2.2.2.2.2.2.2.2.2.2.2.2.2.2.1 p.2.2.2.2.2.2.2.2.2.2.2.2.2.2.2.2.2.2.2.1 p.2.2.2.2.2.2.2.2.2.2.2.2.2.2.2.2.2.2.2.2.1 p.2.2.2.2.2.2.2.2.2.2.2.2.2.2.2.2.2.2.2.2.2.1 p.2.2.2.2.2.2.2.2.2.2.2.2.2.2.2.2.2.2.2.2.2.2.1 p.2.2.2.2.2.2.2.2.2.2.2.2.2.2.2.2.2.2.2.2.2.2.2.1 p.2.2.2.2.2.2.2.2.2.2.2.2.2.2.2.2.2.2.2.2.2.2.2.2.1 p.2.2.2.2.2.2.2.2.2.2.2.2.2.2.2.2.2.2.2.2.2.2.2.2.2.1 p.2.2.2.2.2.2.2.2.2.2.2.2.2.2.2.2.2.2.2.2.2.2.2.2.2.2
@[irreducible] noncomputable def w : World := epsC.1
@[irreducible] noncomputable def loose : List Str := epsC.2.1
@[irreducible] noncomputable def mean : ExcName → Option Value := epsC.2.2.1
@[irreducible] noncomputable def mg : Str → Option Value := epsC.2.2.2.1
@[irreducible] noncomputable def mb : Str → Option Value := epsC.2.2.2.2.1
@[irreducible] noncomputable def dp : Nat := epsC.2.2.2.2.2.1
@[irreducible] noncomputable def un : Nat := epsC.2.2.2.2.2.2.1
@[irreducible] noncomputable def gd : Option (List Code) := epsC.2.2.2.2.2.2.2.1
@[irreducible] noncomputable def env : Env := epsC.2.2.2.2.2.2.2.2.1
@[irreducible] noncomputable def outer : List Env := epsC.2.2.2.2.2.2.2.2.2.1
@[irreducible] noncomputable def A₀ : Around := epsC.2.2.2.2.2.2.2.2.2.2.1
@[irreducible] noncomputable def base : Heap := epsC.2.2.2.2.2.2.2.2.2.2.2.1
@[irreducible] noncomputable def h₀ : Heap := epsC.2.2.2.2.2.2.2.2.2.2.2.2.1
@[irreducible] noncomputable def L : Addr := epsC.2.2.2.2.2.2.2.2.2.2.2.2.2.1
@[irreducible] noncomputable def m : Str → Option Value := epsC.2.2.2.2.2.2.2.2.2.2.2.2.2.2.1
@[irreducible] noncomputable def news : List (Addr × Obj) := epsC.2.2.2.2.2.2.2.2.2.2.2.2.2.2.2.1
@[irreducible] noncomputable def s : Shared := epsC.2.2.2.2.2.2.2.2.2.2.2.2.2.2.2.2.1
@[irreducible] noncomputable def Q : Value → Shared → Prop := epsC.2.2.2.2.2.2.2.2.2.2.2.2.2.2.2.2.2.1
@[irreducible] noncomputable def E : Value → Shared → Prop := epsC.2.2.2.2.2.2.2.2.2.2.2.2.2.2.2.2.2.2.1
@[irreducible] noncomputable def sc : Addr := epsC.2.2.2.2.2.2.2.2.2.2.2.2.2.2.2.2.2.2.2.1
@[irreducible] noncomputable def xs : List Value := epsC.2.2.2.2.2.2.2.2.2.2.2.2.2.2.2.2.2.2.2.2.1
@[irreducible] noncomputable def n : Nat := epsC.2.2.2.2.2.2.2.2.2.2.2.2.2.2.2.2.2.2.2.2.2.1
@[irreducible] noncomputable def ns : List Int := epsC.2.2.2.2.2.2.2.2.2.2.2.2.2.2.2.2.2.2.2.2.2.2.1
@[irreducible] noncomputable def k : Int := epsC.2.2.2.2.2.2.2.2.2.2.2.2.2.2.2.2.2.2.2.2.2.2.2.1
@[irreducible] noncomputable def z : Int := epsC.2.2.2.2.2.2.2.2.2.2.2.2.2.2.2.2.2.2.2.2.2.2.2.2.1
@[irreducible] noncomputable def t1 : Tok := epsC.2.2.2.2.2.2.2.2.2.2.2.2.2.2.2.2.2.2.2.2.2.2.2.2.2.1
@[irreducible] noncomputable def t2 : Tok := epsC.2.2.2.2.2.2.2.2.2.2.2.2.2.2.2.2.2.2.2.2.2.2.2.2.2.2
set_option maxHeartbeats 4000000 in
theorem main : P w loose mean mg mb dp un gd env outer A₀ base h₀ L m news s Q E sc xs n ns k z t1 t2 := by
  intro C hroom hun hsc hxs hxl hlen hk0 hk1 hz0 hz1 hret
  obtain ⟨B, F, X, N, T, hf, hk⟩ := C
  have hr : recursionLimit = 1000 := rfl
  have hc : cLine = 9900 := rfl
  revert X; k_fill; intro X
  have N2 := kst_newsOf (l' := (sc, listOf xs.toArray n) :: news) N (by
    intro z hz
    rcases List.mem_cons.mp hz with rfl | hz
    · exact hsc
    · exact hz)
  clear N
  refine wpAny_call ?_
  (k_dflt (refine' code_defC ?k1 ?k2 ?k3 ?k4 ?k5 ?kA ?kF ?kK ?k6 ?k7 ?k8 ?k9 ?kB ?kD ?_ ?c2 ?c3 ?c4; (case kA => exact rfl); (case kF => first | assumption | exact rfl); (case kK => first | assumption | exact rfl); (case k1 => k_asm); (case k2 => k_asm); (case k3 => k_asm); (case k4 => k_asm); (case k5 => k_asm); (case k6 => k_is); (case k7 => k_is); (case k8 => ((try dsimp only [Around.deeper]); lia)); (case k9 => first | exact BindsTo.of_eq rfl | exact binds_K (by k_in) rfl (by k_is) rfl rfl rfl); (case kB => exact rfl); (case kD => decide +kernel); (case c2 => exact rfl); (case c3 => exact rfl); (case c4 => exact rfl); k_whole; intro g' L' h' tk' cells' FG' F' N' Y' B' X' T' l1; k_cells Y'; (try simp only [List.cons_append, List.nil_append] at N'); (try dsimp only); (try k_fold)))
  k_steps
  refine ⟨LCg.ListComp_U (F₀ := by k_asm) (by with_unfolding_all rfl) (by decide) (by rfl) (by decide) (by rfl) ?_⟩
  k_steps
  rename IsRange _ _ _ _ _ _ _ _ => hRg
  rename ∀ (b : Addr) (o : Obj), _ → _ => hup
  refine ⟨LCg.CompSrc.range (n := z.toNat) (by rfl) (by assumption) (by assumption) hRg ?_ ?_ (Nat.le_trans (by lia : z.toNat ≤ 300) (by rw [sizeLine_eq]; decide)) ?_⟩
  · have hsz := rangeSize_nat 0 z
    unfold Builtin.Range.small
    rw [hsz]
    simp [Builtin.Range.rangeFitsLong]
    lia
  · rw [rangeSize_nat]; lia
  intro g9
  refine compRest_keep (fun i ys => ∃ ms, IntsAre ys ms ∧ ms.length = i ∧ ∀ y ∈ ms, 0 ≤ y ∧ y < 256) ?_ trivial ⟨[], .nil, rfl, by simp⟩ ?_
  · rintro i ys v I oI C oC D m₂ h tk E' hi ⟨ms, hms, hml, hmr⟩ ⟨tj, rfl⟩ hC hx F9 N9 off ne
    clear hup hRg
    k_steps
    refine ⟨c_at (dp := dp + 1) (un := un + 3) (outer := env :: outer) ⟨(by assumption), F9, (by assumption), N9, (by assumption), rfl, rfl⟩ (by lia) (by lia) sc xs n (.tail _ (.tail _ (.tail _ (.tail _ (.tail _ (.tail _ (.head _))))))) ns hxs hxl hlen k _ hk0 hk1 ?_⟩
    clear F9 N9
    intro t9 h9 tk9 F9 N9
    k_sweep
    k_steps
    all_goals (rename IntsAre _ ms => hms)
    · exact ⟨_, _, rfl, by assumption, by assumption, ms ++ [_], IntsAre.append hms (.cons _ _ .nil), by simp [hml], by
        intro y hy
        rcases List.mem_append.mp hy with hy | hy
        · exact hmr y hy
        · rw [List.mem_singleton.mp hy]; exact (fmod_in _).1⟩
    · exact ⟨_, _, rfl, by assumption, by assumption, ms ++ [_], IntsAre.append hms (.cons _ _ .nil), by simp [hml], by
        intro y hy
        rcases List.mem_append.mp hy with hy | hy
        · exact hmr y hy
        · rw [List.mem_singleton.mp hy]; exact (fmod_in _).2⟩
  · rintro ys ⟨ms, hms, hml, hmr⟩
    clear hup hRg
    unfold LCg.FinE
    intro D h9 tk9 F9 N9 o9
    k_steps
    rename Fr h₀ L _ m => FN
    rename News h₀ L _ _ => NN
    exact hret _ _ _ _ (by rw [KBa.ints_make hmr]; lia) FN (kst_newsOf NN fun z hz => .tail _ (.tail _ (.tail _ (.tail _ (.tail _ hz)))))
theorem all (p : World × (List Str) × (ExcName → Option Value) × (Str → Option Value) × (Str → Option Value) × Nat × Nat × (Option (List Code)) × Env × (List Env) × Around × Heap × Heap × Addr × (Str → Option Value) × (List (Addr × Obj)) × Shared × (Value → Shared → Prop) × (Value → Shared → Prop) × Addr × (List Value) × Nat × (List Int) × Int × Int × Tok × Tok) : P p.1 p.2.1 p.2.2.1 p.2.2.2.1 p.2.2.2.2.1 p.2.2.2.2.2.1 p.2.2.2.2.2.2.1 p.2.2.2.2.2.2.2.1 p.2.2.2.2.2.2.2.2.1 p.2.2.2.2.2.2.2.2.2.1 p.2.2.2.2.2.2.2.2.2.2.1 p.2.2.2.2.2.2.2.2.2.2.2.1 p.2.2.2.2.2.2.2.2.2.2.2.2.1 p.2.2.2.2.2.2.2.2.2.2.2.2.2.1 p.2.2.2.2.2.2.2.2.2.2.2.2.2.2.1 p.2.2.2.2.2.2.2.2.2.2.2.2.2.2.2.1 p.2.2.2.2.2.2.2.2.2.2.2.2.2.2.2.2.1 p.2.2.2.2.2.2.2.2.2.2.2.2.2.2.2.2.2.1 p.2.2.2.2.2.2.2.2.2.2.2.2.2.2.2.2.2.2.1 p.2.2.2.2.2.2.2.2.2.2.2.2.2.2.2.2.2.2.2.1 p.2.2.2.2.2.2.2.2.2.2.2.2.2.2.2.2.2.2.2.2.1 p.2.2.2.2.2.2.2.2.2.2.2.2.2.2.2.2.2.2.2.2.2.1 p.2.2.2.2.2.2.2.2.2.2.2.2.2.2.2.2.2.2.2.2.2.2.1 p.2.2.2.2.2.2.2.2.2.2.2.2.2.2.2.2.2.2.2.2.2.2.2.1 p.2.2.2.2.2.2.2.2.2.2.2.2.2.2.2.2.2.2.2.2.2.2.2.2.1 p.2.2.2.2.2.2.2.2.2.2.2.2.2.2.2.2.2.2.2.2.2.2.2.2.2.1 p.2.2.2.2.2.2.2.2.2.2.2.2.2.2.2.2.2.2.2.2.2.2.2.2.2.2 := Classical.byContradiction fun n => Classical.epsilon_spec (p := fun p => ¬ P p.1 p.2.1 p.2.2.1 p.2.2.2.1 p.2.2.2.2.1 p.2.2.2.2.2.1 p.2.2.2.2.2.2.1 p.2.2.2.2.2.2.2.1 p.2.2.2.2.2.2.2.2.1 p.2.2.2.2.2.2.2.2.2.1 p.2.2.2.2.2.2.2.2.2.2.1 p.2.2.2.2.2.2.2.2.2.2.2.1 p.2.2.2.2.2.2.2.2.2.2.2.2.1 p.2.2.2.2.2.2.2.2.2.2.2.2.2.1 p.2.2.2.2.2.2.2.2.2.2.2.2.2.2.1 p.2.2.2.2.2.2.2.2.2.2.2.2.2.2.2.1 p.2.2.2.2.2.2.2.2.2.2.2.2.2.2.2.2.1 p.2.2.2.2.2.2.2.2.2.2.2.2.2.2.2.2.2.1 p.2.2.2.2.2.2.2.2.2.2.2.2.2.2.2.2.2.2.1 p.2.2.2.2.2.2.2.2.2.2.2.2.2.2.2.2.2.2.2.1 p.2.2.2.2.2.2.2.2.2.2.2.2.2.2.2.2.2.2.2.2.1 p.2.2.2.2.2.2.2.2.2.2.2.2.2.2.2.2.2.2.2.2.2.1 p.2.2.2.2.2.2.2.2.2.2.2.2.2.2.2.2.2.2.2.2.2.2.1 p.2.2.2.2.2.2.2.2.2.2.2.2.2.2.2.2.2.2.2.2.2.2.2.1 p.2.2.2.2.2.2.2.2.2.2.2.2.2.2.2.2.2.2.2.2.2.2.2.2.1 p.2.2.2.2.2.2.2.2.2.2.2.2.2.2.2.2.2.2.2.2.2.2.2.2.2.1 p.2.2.2.2.2.2.2.2.2.2.2.2.2.2.2.2.2.2.2.2.2.2.2.2.2.2) ⟨p, n⟩ (by with_unfolding_all exact main)
end c_rowE
theorem c_row {w : World} {loose : List Str} {mean : ExcName → Option Value} {mg mb : Str → Option Value} {dp un : Nat} {gd : Option (List Code)} {env : Env} {outer : List Env} {A₀ : Around} {base h₀ : Heap} {L : Addr} {m : Str → Option Value} {news : List (Addr × Obj)} {s : Shared} {Q E : Value → Shared → Prop} (C : Cx w loose mean mg mb env outer A₀ base h₀ L m news s.heap) (hroom : dp + 20 < 1000) (hun : un + 200 < 9900) (sc : Addr) (xs : List Value) (n : Nat) (hsc : (sc, listOf xs.toArray n) ∈ news) (ns : List Int) (hxs : IntsAre xs ns) (hxl : xs.length = ns.length) (hlen : ns.length ≤ 63) (k z : Int) (t1 t2 : Tok) (hk0 : 0 ≤ k) (hk1 : k < 1000) (hz0 : 0 ≤ z) (hz1 : z ≤ 300) (hret : ∀ b t' h' tk', (KBw.bInts b).length = z.toNat → Fr h₀ L h' m → News h₀ L h' news → Q (.bytes b t') { s with heap := h', toks := tk' })
    :
    wpAny (model PySem.Challenge.rw_jm0023_01.prog w) (kT dp un gd env outer) (call (.ref 1481) [.ref sc, .int k t1, .int z t2]) Q E s := c_rowE.all (w, loose, mean, mg, mb, dp, un, gd, env, outer, A₀, base, h₀, L, m, news, s, Q, E, sc, xs, n, ns, k, z, t1, t2) C hroom hun hsc hxs hxl hlen hk0 hk1 hz0 hz1 hret
end
theorem pad18 {prog : PySem.Program} {w : PySem.World} {A : PySem.Around} {E : PySem.Value → PySem.Shared → Prop} {s : PySem.Shared} {env : PySem.Env} {Q : PySem.Flow → PySem.Shared → Prop} (h : Q .next s) : PySem.wpAny (PySem.model prog w) A (PySem.execs [] env) Q E s := by
  walk1
  exact h
section
open PySem PySem.W PySem.Calls PyProof.Rows PySem.Spec
local macro_rules | `(tactic| walk_at "subscriptTail") => `(tactic| with_reducible refine Stop.r ?_)
local macro_rules | `(tactic| walk_at "eval List") => `(tactic| refine Stop.go ?_)
noncomputable def Bn (h₀ : Heap) (L : Addr) (m : Str → Option Value) (news tl : List (Addr × Obj)) (h' : Heap) : Prop :=
  Fr h₀ L h' m ∧ News h₀ L h' (tl ++ news) ∧ ∀ q ∈ news, ∀ p ∈ tl, q.1 ≠ p.1
noncomputable def lim (e : Nat) : Nat := if e = 0 then 8 else if e = 1 then 59 else 303
noncomputable def ItemL (e : Nat) : Prop := ∀ {w : World} {loose : List Str} {mean : ExcName → Option Value} {mg mb : Str → Option Value} {dp un : Nat} {gd : Option (List Code)} {env : Env} {outer : List Env} {A₀ : Around} {base h₀ : Heap} {L : Addr} {m : Str → Option Value} {news : List (Addr × Obj)} {s : Shared} {Q E : Value → Shared → Prop}
    (C : Cx w loose mean mg mb env outer A₀ base h₀ L m news s.heap) (hroom : dp + 30 + e < 1000) (hun : un + 300 + 3 * e < 9900)
    (sc : Addr) (xs : List Value) (n : Nat) (hsc : (sc, listOf xs.toArray n) ∈ news) (ns : List Int) (hxs : IntsAre xs ns) (hxl : xs.length = ns.length) (hlen : ns.length ≤ 63) (k : Int) (t1 t2 : Tok) (hk0 : 0 ≤ k) (hk1 : k + 12 * (e : Int) < 900)
    (hret : ∀ v d tl h' tk', Bn h₀ L m news tl h' → RlpIn tl v d → dep d ≤ e → (enc d).length ≤ lim e → Q v { s with heap := h', toks := tk' }),
    wpAny (model PySem.Challenge.rw_jm0023_01.prog w) (kT dp un gd env outer) (call (.ref 1486) [.ref sc, .int k t1, .int (e : Int) t2]) Q E s
theorem getD_in (l : List Int) (b : Int) (hb : 0 ≤ b) (h : ∀ x ∈ l, 0 ≤ x ∧ x ≤ b) (i : Nat) : 0 ≤ l.getD i 0 ∧ l.getD i 0 ≤ b := by
  rw [List.getD_eq_getElem?_getD]
  cases e : l[i]? with
  | none => exact ⟨Int.le_refl _, hb⟩
  | some x => exact h x (List.mem_of_getElem? e)
theorem enc_str_le (ks : List Int) : (enc (.str ks)).length ≤ ks.length + 3 := by
  rw [enc]; split
  · lia
  · rw [List.length_append]
    have := pfx_len (ks.length : Int) 128
    lia
theorem enc_list_le (ds : Rlps) : (enc (.list ds)).length ≤ (encs ds).length + 3 := by
  rw [enc, List.length_append]
  have := pfx_len ((encs ds).length : Int) 192
  lia
theorem encs_snoc : ∀ (ds : Rlps) (d : Rlp), encs (ds.snoc d) = encs ds ++ enc d
  | .nil, d => by rw [Rlps.snoc, encs, encs, encs]; simp
  | .cons x r, d => by rw [Rlps.snoc, encs, encs, encs_snoc r d, List.append_assoc]
theorem deps_snoc : ∀ (ds : Rlps) (d : Rlp) (n : Nat), deps ds ≤ n → dep d ≤ n → deps (ds.snoc d) ≤ n
  | .nil, d, n, h1, h2 => by rw [Rlps.snoc, deps, deps]; lia
  | .cons x r, d, n, h1, h2 => by
    rw [deps] at h1
    rw [Rlps.snoc, deps]
    have := deps_snoc r d n (by lia) h2
    lia
theorem fmod4 (x : Int) : 0 ≤ x.fmod 4 ∧ x.fmod 4 < 4 := by
  rw [Int.fmod_eq_emod_of_nonneg _ (by decide)]; lia
theorem off3_app {I C D : Addr} : ∀ {l l' : List (Addr × Obj)}, (∀ p ∈ l, p.1 ≠ I ∧ p.1 ≠ C ∧ p.1 ≠ D) → LCg.Off3 I C D l' → LCg.Off3 I C D (l ++ l') := fun h h' => LCg.Off3.of fun p hp => by
  rcases List.mem_append.mp hp with hp | hp
  · exact h p hp
  · exact h'.mem p hp
theorem off1_mem {D : Addr} : ∀ {l : List (Addr × Obj)}, LCg.Off1 D l → ∀ p ∈ l, p.1 ≠ D
  | [], _, _, h => nomatch h
  | _ :: _, x, p, h => by
    rcases List.mem_cons.mp h with rfl | h
    · exact x.1
    · exact off1_mem x.2 p h
theorem range_small {z : Int} (h0 : 0 ≤ z) (h1 : z ≤ 1000) : Builtin.Range.small 0 z 1 = true := by
  have hsz := rangeSize_nat 0 z
  unfold Builtin.Range.small
  rw [hsz]
  simp [Builtin.Range.rangeFitsLong]
  lia
theorem fmod9 (x : Int) : 0 ≤ x.fmod 9 ∧ x.fmod 9 < 9 := by
  rw [Int.fmod_eq_emod_of_nonneg _ (by decide)]; lia
noncomputable def tblL : List (List Int) := [[0, 1, 2, 3, 5, 1, 2, 3, 5], [0, 1, 2, 3, 5, 1, 20, 56, 3], [0, 1, 2, 3, 5, 55, 56, 300, 1]]
theorem rowL {e : Nat} (he : e ≤ 2) : (tblL.getD e []).length = 9 ∧ (∀ x ∈ tblL.getD e [], 0 ≤ x ∧ x ≤ (lim e : Int) - 3) ∧ 8 ≤ lim e ∧ lim e ≤ 303 := by
  rcases Nat.le_iff_lt_or_eq.mp he with h | rfl
  · rcases Nat.le_iff_lt_or_eq.mp (Nat.le_of_lt_succ h) with h | rfl
    · rw [Nat.lt_one_iff.mp h]; decide
    · decide
  · decide
theorem limS {e : Nat} (he : e + 1 ≤ 2) : 3 * lim e + 3 ≤ lim (e + 1) := by
  rcases Nat.le_iff_lt_or_eq.mp (Nat.le_of_succ_le_succ he) with h | rfl
  · rw [Nat.lt_one_iff.mp h]; decide
  · decide
section
variable {α : Type} {I C D a b c s : α} {tl tl2 nw : List α}
theorem sbC {x : α} {l B : List α} (h : x ∈ B) (t : ∀ z ∈ l, z ∈ B) : ∀ z ∈ x :: l, z ∈ B := fun z hz => (List.mem_cons.mp hz).elim (fun e => e ▸ h) (t z)
theorem sbA {l l' B : List α} (h : ∀ z ∈ l, z ∈ B) (t : ∀ z ∈ l', z ∈ B) : ∀ z ∈ l ++ l', z ∈ B := fun z hz => (List.mem_append.mp hz).elim (h z) (t z)
theorem shuf1 : ∀ z ∈ I :: C :: D :: a :: b :: c :: s :: (tl ++ nw), z ∈ I :: C :: D :: (tl ++ (a :: b :: c :: s :: nw)) := sbC (.head _) (sbC (.tail _ (.head _)) (sbC (.tail _ (.tail _ (.head _))) (sbC (.tail _ (.tail _ (.tail _ (List.mem_append_right _ (.head _))))) (sbC (.tail _ (.tail _ (.tail _ (List.mem_append_right _ (.tail _ (.head _)))))) (sbC (.tail _ (.tail _ (.tail _ (List.mem_append_right _ (.tail _ (.tail _ (.head _))))))) (sbC (.tail _ (.tail _ (.tail _ (List.mem_append_right _ (.tail _ (.tail _ (.tail _ (.head _)))))))) (sbA (fun _ h => .tail _ (.tail _ (.tail _ (List.mem_append_left _ h)))) (fun _ h => .tail _ (.tail _ (.tail _ (List.mem_append_right _ (.tail _ (.tail _ (.tail _ (.tail _ (h))))))))))))))))
theorem shuf2 : ∀ z ∈ a :: b :: c :: s :: nw, z ∈ I :: C :: D :: a :: b :: c :: s :: (tl ++ nw) := sbC (.tail _ (.tail _ (.tail _ (.head _)))) (sbC (.tail _ (.tail _ (.tail _ (.tail _ (.head _))))) (sbC (.tail _ (.tail _ (.tail _ (.tail _ (.tail _ (.head _)))))) (sbC (.tail _ (.tail _ (.tail _ (.tail _ (.tail _ (.tail _ (.head _))))))) (fun _ h => .tail _ (.tail _ (.tail _ (.tail _ (.tail _ (.tail _ (.tail _ (List.mem_append_right _ h)))))))))))
theorem shuf3 : ∀ z ∈ I :: C :: D :: (tl2 ++ (tl ++ (a :: b :: c :: s :: nw))), z ∈ tl2 ++ (I :: C :: D :: a :: b :: c :: s :: (tl ++ nw)) := sbC (List.mem_append_right _ (.head _)) (sbC (List.mem_append_right _ (.tail _ (.head _))) (sbC (List.mem_append_right _ (.tail _ (.tail _ (.head _)))) (sbA (fun _ h => List.mem_append_left _ h) (sbA (fun _ h => List.mem_append_right _ (.tail _ (.tail _ (.tail _ (.tail _ (.tail _ (.tail _ (.tail _ (List.mem_append_left _ h))))))))) (sbC (List.mem_append_right _ (.tail _ (.tail _ (.tail _ (.head _))))) (sbC (List.mem_append_right _ (.tail _ (.tail _ (.tail _ (.tail _ (.head _)))))) (sbC (List.mem_append_right _ (.tail _ (.tail _ (.tail _ (.tail _ (.tail _ (.head _))))))) (sbC (List.mem_append_right _ (.tail _ (.tail _ (.tail _ (.tail _ (.tail _ (.tail _ (.head _)))))))) (fun _ h => List.mem_append_right _ (.tail _ (.tail _ (.tail _ (.tail _ (.tail _ (.tail _ (.tail _ (List.mem_append_right _ h)))))))))))))))))
theorem shuf5 : ∀ z ∈ I :: a :: b :: c :: s :: (tl ++ nw), z ∈ I :: (tl ++ (a :: b :: c :: s :: nw)) := sbC (.head _) (sbC (.tail _ (List.mem_append_right _ (.head _))) (sbC (.tail _ (List.mem_append_right _ (.tail _ (.head _)))) (sbC (.tail _ (List.mem_append_right _ (.tail _ (.tail _ (.head _))))) (sbC (.tail _ (List.mem_append_right _ (.tail _ (.tail _ (.tail _ (.head _)))))) (sbA (fun _ h => .tail _ (List.mem_append_left _ h)) (fun _ h => .tail _ (List.mem_append_right _ (.tail _ (.tail _ (.tail _ (.tail _ (h))))))))))))
theorem shuf6 : ∀ z ∈ I :: (tl ++ (a :: b :: c :: s :: nw)), z ∈ I :: a :: b :: c :: s :: (tl ++ nw) := sbC (.head _) (sbA (fun _ h => .tail _ (.tail _ (.tail _ (.tail _ (.tail _ (List.mem_append_left _ h)))))) (sbC (.tail _ (.head _)) (sbC (.tail _ (.tail _ (.head _))) (sbC (.tail _ (.tail _ (.tail _ (.head _)))) (sbC (.tail _ (.tail _ (.tail _ (.tail _ (.head _))))) (fun _ h => .tail _ (.tail _ (.tail _ (.tail _ (.tail _ (List.mem_append_right _ h)))))))))))
theorem shuf4 : ∀ z ∈ (D :: tl) ++ nw, z ∈ D :: (tl ++ (a :: b :: c :: s :: nw)) := sbA (sbC (.head _) (fun _ h => .tail _ (List.mem_append_left _ h))) (fun _ h => .tail _ (List.mem_append_right _ (.tail _ (.tail _ (.tail _ (.tail _ (h)))))))
end
set_option maxHeartbeats 1000000 in
theorem c_itemS (e : Nat) (he : e ≤ 2) (ih : ∀ e', e = e' + 1 → ItemL e') : ItemL e := by
  intro w loose mean mg mb dp un gd env outer A₀ base h₀ L m news s Q E C hroom hun sc xs n hsc ns hxs hxl hlen k t1 t2 hk0 hk1 hret
  obtain ⟨B, F, X, N, T, hf, hk⟩ := C
  have hr : recursionLimit = 1000 := rfl
  have hc : cLine = 9900 := rfl
  revert X; k_fill; intro X
  have N2 := kst_newsOf (l' := (sc, listOf xs.toArray n) :: news) N (by
    intro z hz
    rcases List.mem_cons.mp hz with rfl | hz
    · exact hsc
    · exact hz)
  clear N
  have hk9 := fmod9 (atL ns k)
  have hrow := rowL he
  refine wpAny_call ?_
  (k_dflt (refine' code_defC ?k1 ?k2 ?k3 ?k4 ?k5 ?kA ?kF ?kK ?k6 ?k7 ?k8 ?k9 ?kB ?kD ?_ ?c2 ?c3 ?c4; (case kA => exact rfl); (case kF => first | assumption | exact rfl); (case kK => first | assumption | exact rfl); (case k1 => k_asm); (case k2 => k_asm); (case k3 => k_asm); (case k4 => k_asm); (case k5 => k_asm); (case k6 => k_is); (case k7 => k_is); (case k8 => ((try dsimp only [Around.deeper]); lia)); (case k9 => first | exact BindsTo.of_eq rfl | exact binds_K (by k_in) rfl (by k_is) rfl rfl rfl); (case kB => exact rfl); (case kD => decide +kernel); (case c2 => exact rfl); (case c3 => exact rfl); (case c4 => exact rfl); k_whole; intro g1 L1 h1 tk1 cells1 FG1 F1 N1 Y1 B1 X1 T1 l1; (have hY := CellsAre.three Y1; obtain ⟨o1, o2, o3, hE, d1, d2, d3⟩ := hY; subst hE; clear Y1); (try simp only [List.cons_append, List.nil_append] at N1); (try dsimp only); (try k_fold)))
  k_steps
  refine ⟨c_at (dp := dp + 1) (un := un + 3) (outer := env :: outer) ⟨(by assumption), (by assumption), (by assumption), (by assumption), (by assumption), rfl, rfl⟩ (by lia) (by lia) sc xs n (by k_mem) ns hxs hxl hlen k _ hk0 (by lia) ?_⟩
  intro t9 h9 tk9 F9 N9
  k_sweep
  k_steps
  · refine ⟨?_⟩
    refine' tbl_list (tbl := tblL) ?a1_1 ?a2_1 ?a3_1 ?a4_1 ?a5_1 ?_
    case a1_1 => assumption
    case a2_1 => assumption
    case a3_1 => unfold tblL; repeat constructor
    case a4_1 => decide
    case a5_1 => decide
    intro l4 v4 T4 h4 tk4 F4 N4 e4 T4'
    have N4' := kst_newsOf N4 shuf5
    clear N4
    k_sweep
    k_steps
    refine ⟨?_⟩
    k_dflt (refine kba_turn (value' := PySem.Expr.Name (PySem.Str.ofString "_") ⟨0, 0, 0, 0⟩) (fun _ => rfl) ?_)
    refine tbl_item (kst_newsOf N4' shuf6) e4 T4' (Int.natCast_nonneg e) (by show (e : Int) < ((3 : Nat) : Int); lia) (by decide) ?_
    intro q us nq N5 iq0
    have iq : IntsAre us (tblL.getD e []) := iq0
    dsimp only at N5
    clear N4' e4 T4' iq0
    k_sweep
    k_steps
    have hz := getD_in (tblL.getD e []) ((lim e : Int) - 3) (by lia) hrow.2.1 ((atL ns k).fmod 9).toNat
    refine ⟨item_list_intsT (News.isList (by k_asm) (by k_mem)) iq hk9.1 (by rw [hrow.1]; exact hk9.2) (by lia) ?_⟩
    intro t7
    k_steps
    refine ⟨c_row (dp := dp + 1) (un := un + 3) (outer := env :: outer) ⟨(by assumption), (by assumption), (by assumption), (by assumption), (by assumption), rfl, rfl⟩ (by lia) (by lia) sc xs n (by k_mem) ns hxs hxl hlen (k + 1) _ _ _ (by lia) (by lia) hz.1 (by lia) ?_⟩
    intro b9 t8 h8 tk8 hbl F8 N8
    k_sweep
    k_steps
    rename Fr h₀ L _ m => FN
    rename News h₀ L _ _ => NN
    have hel := enc_str_le (KBw.bInts b9)
    exact hret _ (.str (KBw.bInts b9)) [] _ _ ⟨FN, kst_newsOf NN (fun z hz => by repeat (first | exact hz | apply List.mem_cons_of_mem)), fun _ _ _ hp => nomatch hp⟩ (.str rfl) (by rw [dep]; lia) (by lia)
  · refine ⟨?_⟩
    refine' tbl_list (tbl := tblL) ?a1_2 ?a2_2 ?a3_2 ?a4_2 ?a5_2 ?_
    case a1_2 => assumption
    case a2_2 => assumption
    case a3_2 => unfold tblL; repeat constructor
    case a4_2 => decide
    case a5_2 => decide
    intro l4 v4 T4 h4 tk4 F4 N4 e4 T4'
    have N4' := kst_newsOf N4 shuf5
    clear N4
    k_sweep
    k_steps
    refine ⟨?_⟩
    k_dflt (refine kba_turn (value' := PySem.Expr.Name (PySem.Str.ofString "_") ⟨0, 0, 0, 0⟩) (fun _ => rfl) ?_)
    refine tbl_item (kst_newsOf N4' shuf6) e4 T4' (Int.natCast_nonneg e) (by show (e : Int) < ((3 : Nat) : Int); lia) (by decide) ?_
    intro q us nq N5 iq0
    have iq : IntsAre us (tblL.getD e []) := iq0
    dsimp only at N5
    clear N4' e4 T4' iq0
    k_sweep
    k_steps
    have hz := getD_in (tblL.getD e []) ((lim e : Int) - 3) (by lia) hrow.2.1 ((atL ns k).fmod 9).toNat
    refine ⟨item_list_intsT (News.isList (by k_asm) (by k_mem)) iq hk9.1 (by rw [hrow.1]; exact hk9.2) (by lia) ?_⟩
    intro t7
    k_steps
    refine ⟨c_row (dp := dp + 1) (un := un + 3) (outer := env :: outer) ⟨(by assumption), (by assumption), (by assumption), (by assumption), (by assumption), rfl, rfl⟩ (by lia) (by lia) sc xs n (by k_mem) ns hxs hxl hlen (k + 1) _ _ _ (by lia) (by lia) hz.1 (by lia) ?_⟩
    intro b9 t8 h8 tk8 hbl F8 N8
    k_sweep
    k_steps
    rename Fr h₀ L _ m => FN
    rename News h₀ L _ _ => NN
    have hel := enc_str_le (KBw.bInts b9)
    exact hret _ (.str (KBw.bInts b9)) [] _ _ ⟨FN, kst_newsOf NN (fun z hz => by repeat (first | exact hz | apply List.mem_cons_of_mem)), fun _ _ _ hp => nomatch hp⟩ (.str rfl) (by rw [dep]; lia) (by lia)
  · obtain ⟨e', he'⟩ : ∃ e', e = e' + 1 := ⟨e - 1, by lia⟩
    have hcast : (e : Int) - 1 = (e' : Int) := by lia
    have hls := limS (he' ▸ he)
    have hn4 := fmod4 ((atL ns k).fmod 9)
    refine ⟨LCg.ListComp_U (F₀ := by k_asm) (by with_unfolding_all rfl) (by decide) (by rfl) (by decide) (by rfl) ?_⟩
    k_steps
    rename IsRange _ _ _ _ _ _ _ _ => hRg
    rename ∀ (b : Addr) (o : Obj), _ → _ => hup
    refine ⟨LCg.CompSrc.range (n := (((atL ns k).fmod 9).fmod 4).toNat) (by rfl) (by assumption) (by assumption) hRg (range_small hn4.1 (by lia)) (by rw [rangeSize_nat]; lia) (Nat.le_trans (by lia : (((atL ns k).fmod 9).fmod 4).toNat ≤ 300) (by rw [sizeLine_eq]; decide)) ?_⟩
    intro g9
    refine compRest_of (n := (((atL ns k).fmod 9).fmod 4).toNat) (fun i ys nw => ∃ tl ds, nw = tl ++ ((L1 + 1 + 1 + 1, o1) :: (L1 + 1 + 1, o2) :: (L1 + 1, o3) :: (sc, listOf xs.toArray n) :: news) ∧ RlpsIn tl ys ds ∧ deps ds ≤ e' ∧ (encs ds).length ≤ i * lim e' ∧ ∀ q ∈ (L1 + 1 + 1 + 1, o1) :: (L1 + 1 + 1, o2) :: (L1 + 1, o3) :: (sc, listOf xs.toArray n) :: news, ∀ p ∈ tl, q.1 ≠ p.1) ?_ ?_ _ 0 [] _ (by lia) ⟨[], .nil, rfl, .nil, by rw [deps]; lia, by rw [encs]; simp, fun _ _ _ hp => nomatch hp⟩
    · rintro i ys nw v I oI C oC D m₂ h tk E' hi ⟨tl, ds, rfl, hRs, hdp, hen, hne⟩ ⟨tj, rfl⟩ hC hx F8 N8 off ne
      clear hup hRg
      have N7 := kst_newsOf N8 shuf1
      clear N8
      k_steps
      have hii : (i : Int) < 4 := by lia
      rw [hcast]
      refine ⟨ih e' he' (dp := dp + 1) (un := un + 3) (outer := env :: outer) ⟨(by assumption), (by assumption), (by assumption), (by assumption), (by assumption), rfl, rfl⟩ (by lia) (by lia) sc xs n (by k_mem) ns hxs hxl hlen _ _ _ (by lia) (by lia) ?_⟩
      rintro v d tl2 h' tk' ⟨F7, N7, ne2⟩ hRd hdd hed
      refine LCg.CompEnd.intro F7 N7 (tl2 ++ (tl ++ ((L1 + 1 + 1 + 1, o1) :: (L1 + 1 + 1, o2) :: (L1 + 1, o3) :: (sc, listOf xs.toArray n) :: news))) shuf3 (off3_app (fun p hp => ⟨(ne2 _ (.head _) p hp).symm, (ne2 _ (.tail _ (.head _)) p hp).symm, (ne2 _ (.tail _ (.tail _ (.head _))) p hp).symm⟩) off) trivial ⟨tl2 ++ tl, ds.snoc d, by rw [List.append_assoc], RlpsIn.snoc (RlpsIn.mono (fun z hz => List.mem_append_right _ hz) hRs) (RlpIn.mono (fun z hz => List.mem_append_left _ hz) hRd), deps_snoc ds d _ hdp hdd, ?_, ?_⟩
      · rw [encs_snoc, List.length_append, Nat.add_mul, Nat.one_mul]
        exact Nat.add_le_add hen hed
      · intro q hq p hp
        rcases List.mem_append.mp hp with hp | hp
        · exact ne2 q (shuf2 q hq) p hp
        · exact hne q hq p hp
    · rintro ys nw ⟨tl, ds, rfl, hRs, hdp, hen, hne⟩
      clear hup hRg
      unfold LCg.FinE
      intro D h9 tk9 F9 N9 o9
      k_steps
      rename Fr h₀ L _ m => FN
      rename News h₀ L _ _ => NN
      have hle := enc_list_le ds
      have hen3 := Nat.le_trans hen (Nat.mul_le_mul_right (lim e') (show (((atL ns k).fmod 9).fmod 4).toNat ≤ 3 by lia))
      refine hret _ (.list ds) ((D, LCg.lst ys) :: tl) _ _ ⟨FN, kst_newsOf NN shuf4, fun q hq p hp => ?_⟩ (.list (n := ys.length) (.head _) (RlpsIn.mono (fun z hz => .tail _ hz) hRs)) (by rw [dep]; lia) (by rw [he']; lia)
      rcases List.mem_cons.mp hp with rfl | hp
      · exact off1_mem o9 q (List.mem_append_right _ (.tail _ (.tail _ (.tail _ (.tail _ hq)))))
      · exact hne q (.tail _ (.tail _ (.tail _ (.tail _ hq)))) p hp
theorem ihOf {e : Nat} (h : ItemL e) : ∀ e', e + 1 = e' + 1 → ItemL e' := by
  intro e' q
  cases q
  exact @h
theorem item2_all : ItemL 2 := @c_itemS 2 (by decide) (ihOf (@c_itemS 1 (by decide) (ihOf (@c_itemS 0 (by decide) (fun _ h => nomatch h)))))
end
theorem pad19 {prog : PySem.Program} {w : PySem.World} {A : PySem.Around} {E : PySem.Value → PySem.Shared → Prop} {s : PySem.Shared} {env : PySem.Env} {Q : PySem.Flow → PySem.Shared → Prop} (h : Q .next s) : PySem.wpAny (PySem.model prog w) A (PySem.execs [] env) Q E s := by
  walk1
  exact h
section
open PySem PySem.W PySem.Calls PyProof.Rows PySem.Spec

theorem lenH_le (b : Nat) : (lenH b).length ≤ 3 := by
  rcases Nat.lt_or_ge b 7 with h | h
  · exact (by decide : ∀ b < 7, (lenH b).length ≤ 3) b h
  · obtain ⟨c, rfl⟩ := Nat.exists_eq_add_of_le' h
    exact Nat.zero_le 3
theorem lenH_fit (b : Nat) : ((lenH b).length : Int) < 2 ^ 63 := by have := lenH_le b; lia
theorem size_in {i : Nat} (h : 55 < ([55, 56, 60, 256] : List Int).getD i 0) : ([55, 56, 60, 256] : List Int).getD i 0 ∈ ([0, 56, 60, 256] : List Int) ∧ 1 ≤ ([0, 56, 60, 256] : List Int).idxOf (([55, 56, 60, 256] : List Int).getD i 0) ∧ ([0, 56, 60, 256] : List Int).idxOf (([55, 56, 60, 256] : List Int).getD i 0) ≤ 3 := by
  match i, h with
  | 0, h => exact absurd h (by decide)
  | 1, _ => decide
  | 2, _ => decide
  | 3, _ => decide
  | i + 4, h => exact absurd h (by simp)
noncomputable def lenI (j : Nat) : List Int := [[56], [60], [1, 0]].getD j []
theorem head_eq (b h : Nat) (p : Prop) [Decidable p] : headH b (decide p) h = ([183, 247] : List Int).getD h 0 + (if p then ((lenH b).length : Int) else 1) := by
  by_cases hp : p <;> simp [headH, hp]
theorem any_eq (b h : Nat) (p : Prop) [Decidable p] : (headH b (decide p) h == 183 + ((lenH b).length : Int) || headH b (decide p) h == 247 + ((lenH b).length : Int)) = (([183 + ((lenH b).length : Int), 247 + ((lenH b).length : Int)] : List Int).any fun x => x == ([183, 247] : List Int).getD h 0 + (if p then ((lenH b).length : Int) else 1)) := by
  rw [head_eq]
  simp only [List.any_cons, List.any_nil, Bool.or_false]
  rw [Bool.beq_comm (a := 183 + ((lenH b).length : Int)), Bool.beq_comm (a := 247 + ((lenH b).length : Int))]
theorem size_eq {a : Nat} (h : a < 4) : ([55, 56, 60, 256] : List Int).getD a 0 = (sizeH a : Int) :=
  (by decide : ∀ a < 4, ([55, 56, 60, 256] : List Int).getD a 0 = (sizeH a : Int)) a h
theorem st_no1 {a b h : Nat} {p : Prop} [Decidable p] (e : (([183 + ((lenH b).length : Int), 247 + ((lenH b).length : Int)] : List Int).any fun x => x == ([183, 247] : List Int).getD h 0 + (if p then ((lenH b).length : Int) else 1)) = false) : false = standsH a b (decide p) h := by
  unfold standsH; rw [any_eq, e]; rfl
theorem st_no2 {a b h : Nat} {p : Prop} [Decidable p] (ha : a < 4) (e : ¬ 55 < ([55, 56, 60, 256] : List Int).getD a 0) : false = standsH a b (decide p) h := by
  rw [size_eq ha] at e
  have : decide (55 < sizeH a) = false := decide_eq_false (by lia)
  unfold standsH; rw [this, Bool.and_false, Bool.false_and]
theorem st_yes {a b h : Nat} {p : Prop} [Decidable p] (ha : a < 4) (e : (([183 + ((lenH b).length : Int), 247 + ((lenH b).length : Int)] : List Int).any fun x => x == ([183, 247] : List Int).getD h 0 + (if p then ((lenH b).length : Int) else 1)) = true) (e2 : 55 < ([55, 56, 60, 256] : List Int).getD a 0) :
    decide (lenH b = lenI ((([0, 56, 60, 256] : List Int).idxOf (([55, 56, 60, 256] : List Int).getD a 0) : Nat) - 1 : Int).toNat) = standsH a b (decide p) h := by
  have e3 := e2
  rw [size_eq ha] at e3
  have : decide (55 < sizeH a) = true := decide_eq_true (by lia)
  have hb : ∀ x y : List Int, decide (x = y) = (x == y) := fun x y => by by_cases h : x = y <;> simp [h]
  unfold standsH; rw [any_eq, e, this, Bool.and_self, Bool.true_and, hb]
  exact (by decide : ∀ a < 4, 55 < ([55, 56, 60, 256] : List Int).getD a 0 → lenI ((([0, 56, 60, 256] : List Int).idxOf (([55, 56, 60, 256] : List Int).getD a 0) : Nat) - 1 : Int).toNat = (match a with | 1 => [56] | 2 => [60] | _ => [1, 0])) a ha e2 ▸ rfl
theorem a4 (x : Int) : (x.fmod 4).toNat < 4 := by
  rw [Int.fmod_eq_emod_of_nonneg _ (by decide)]; lia
theorem b7 (x : Int) : (x.fmod 7).toNat < 7 := by
  rw [Int.fmod_eq_emod_of_nonneg _ (by decide)]; lia
theorem h2 (x : Int) : (x.fmod 2).toNat < 2 := by
  rw [Int.fmod_eq_emod_of_nonneg _ (by decide)]; lia
theorem st_n1 {a b h : Nat} {p : Prop} [Decidable p] (e : (([183 + ((lenH b).length : Int), 247 + ((lenH b).length : Int)] : List Int).any fun x => x == ([183, 247] : List Int).getD h 0 + (if p then ((lenH b).length : Int) else 1)) = false) :
    (([183 + ((lenH b).length : Int), 247 + ((lenH b).length : Int)] : List Int).any fun x => x == ([183, 247] : List Int).getD h 0 + (if p then ((lenH b).length : Int) else 1)) = standsH a b (decide p) h := e.trans (st_no1 e)
theorem st_n2 {a b h : Nat} {p : Prop} [Decidable p] (ha : a < 4) (e : ¬ 55 < ([55, 56, 60, 256] : List Int).getD a 0) : decide (55 < ([55, 56, 60, 256] : List Int).getD a 0) = standsH a b (decide p) h := (decide_eq_false e).trans (st_no2 ha e)
theorem head_in {b h : Nat} {p : Prop} [Decidable p] (hh : h < 2) : 0 ≤ ([183, 247] : List Int).getD h 0 + (if p then ((lenH b).length : Int) else 1) ∧ ([183, 247] : List Int).getD h 0 + (if p then ((lenH b).length : Int) else 1) < 256 := by
  have h1 := lenH_le b
  have hg := (by decide : ∀ h < 2, 183 ≤ ([183, 247] : List Int).getD h 0 ∧ ([183, 247] : List Int).getD h 0 ≤ 247) h hh
  have hi : 0 ≤ (if p then ((lenH b).length : Int) else 1) ∧ (if p then ((lenH b).length : Int) else 1) ≤ 3 := by split <;> lia
  clear h1
  exact ⟨Int.add_nonneg (Int.le_trans (by decide) hg.1) hi.1, Int.lt_of_le_of_lt (Int.add_le_add hg.2 hi.2) (by decide)⟩
theorem lenH_in (b : Nat) : ∀ x ∈ lenH b, 0 ≤ x ∧ x < 256 := by
  rcases Nat.lt_or_ge b 7 with h | h
  · exact (by decide : ∀ b < 7, ∀ x ∈ lenH b, 0 ≤ x ∧ x < 256) b h
  · obtain ⟨c, rfl⟩ := Nat.exists_eq_add_of_le' h
    exact fun x hx => nomatch hx
theorem size_le {a : Nat} (h : a < 4) : 0 ≤ ([55, 56, 60, 256] : List Int).getD a 0 ∧ ([55, 56, 60, 256] : List Int).getD a 0 ≤ 256 := by
  exact (by decide : ∀ a < 4, 0 ≤ ([55, 56, 60, 256] : List Int).getD a 0 ∧ ([55, 56, 60, 256] : List Int).getD a 0 ≤ 256) a h
theorem oct_eq {a b h : Nat} {p : Prop} [Decidable p] (ha : a < 4) : ([([183, 247] : List Int).getD h 0 + (if p then ((lenH b).length : Int) else 1)] ++ lenH b) ++ (List.range (([55, 56, 60, 256] : List Int).getD a 0).toNat).map (fun k => ((k : Nat) : Int).fmod 128) = octH a b (decide p) h := by
  rw [size_eq ha, Int.toNat_natCast]
  unfold octH bodyH
  rw [head_eq]
  have : ∀ k : Nat, ((k : Nat) : Int).fmod 128 = ((k % 128 : Nat) : Int) := fun k => by rw [Int.fmod_eq_emod_of_nonneg _ (by decide)]; rfl
  simp only [this]
  rfl
noncomputable def ValP (h₀ : Heap) (L : Addr) (m : Str → Option Value) (s : Shared) (led : List (Addr × Obj)) (P : Value → Prop) (v : Value) (s₂ : Shared) : Prop :=
  ∃ h' tk', s₂ = { s with heap := h', toks := tk' } ∧ Fr h₀ L h' m ∧ News h₀ L h' led ∧ P v
/-- forks that meet again in one value -/
theorem meet_val {prog : Program} {w : World} {A : Around} {E : Value → Shared → Prop} {s : Shared} {h₀ : Heap} {L : Addr} {m : Str → Option Value} {led : List (Addr × Obj)} {e : Sem Value} {Q : Value → Shared → Prop} (F : Fr h₀ L s.heap m) (N : News h₀ L s.heap led) (P : Value → Prop)
    (h1 : ∀ E', wpAny (model prog w) A e (ValP h₀ L m s led P) E' s) (h2 : ∀ v h' tk', P v → Fr h₀ L h' m → News h₀ L h' led → Q v { s with heap := h', toks := tk' }) : wpAny (model prog w) A e Q E s :=
  wpAny_mono (h1 E) (fun v s₂ ⟨h', tk', e, F', N', p⟩ => e ▸ h2 v h' tk' p F' N') fun _ _ e => e
local macro_rules | `(tactic| walk_at "subscriptTail") => `(tactic| with_reducible refine Stop.r ?_)
local macro_rules | `(tactic| walk_at "call builtin:list.index") => `(tactic| refine Stop.go ?_)
local macro_rules | `(tactic| walk_at "binaryOp Add ref ref") => `(tactic| refine Stop.go ?_)
local macro_rules | `(tactic| walk_at "call builtin:len") => `(tactic| refine Stop.go ?_)
local macro_rules | `(tactic| walk_at "eval List") => `(tactic| refine Stop.go ?_)
local macro_rules | `(tactic| walk_at "eval BoolOp") => `(tactic| refine Stop.go ?_)
local macro_rules | `(tactic| walk_at "eval IfExp") => `(tactic| refine Stop.go ?_)
namespace c_headedEE
noncomputable def P (w : World) (loose : List Str) (mean : ExcName → Option Value) (mg : Str → Option Value) (mb : Str → Option Value) (dp : Nat) (un : Nat) (gd : Option (List Code)) (env : Env) (outer : List Env) (A₀ : Around) (base : Heap) (h₀ : Heap) (L : Addr) (m : Str → Option Value) (news : List (Addr × Obj)) (s : Shared) (Q : Value → Shared → Prop) (E : Value → Shared → Prop) (sc : Addr) (xs : List Value) (n : Nat) (ns : List Int) : Prop := ∀ (C : Cx w loose mean mg mb env outer A₀ base h₀ L m news s.heap) (hroom : dp + 30 < 1000) (hun : un + 300 < 9900) (hsc : (sc, listOf xs.toArray n) ∈ news) (hxs : IntsAre xs ns) (hxl : xs.length = ns.length) (hlen : ns.length ≤ 63) (hret : ∀ D b t n h' tk', KBw.bInts b = octH ((atL ns 1).fmod 4).toNat ((atL ns 2).fmod 7).toNat (decide (0 < (atL ns 3).fmod 5)) ((atL ns 3).fmod 2).toNat → Fr h₀ L h' m → News h₀ L h' ((D, listOf #[.bytes b t, .bool (standsH ((atL ns 1).fmod 4).toNat ((atL ns 2).fmod 7).toNat (decide (0 < (atL ns 3).fmod 5)) ((atL ns 3).fmod 2).toNat)] n) :: news) → Q (.ref D) { s with heap := h', toks := tk' }), wpAny (model PySem.Challenge.rw_jm0023_01.prog w) (kT dp un gd env outer) (call (.ref 1505) [.ref sc]) Q E s
noncomputable def cc : World × (List Str) × (ExcName → Option Value) × (Str → Option Value) × (Str → Option Value) × Nat × Nat × (Option (List Code)) × Env × (List Env) × Around × Heap × Heap × Addr × (Str → Option Value) × (List (Addr × Obj)) × Shared × (Value → Shared → Prop) × (Value → Shared → Prop) × Addr × (List Value) × Nat × (List Int) := @Classical.epsilon (World × (List Str) × (ExcName → Option Value) × (Str → Option Value) × (Str → Option Value) × Nat × Nat × (Option (List Code)) × Env × (List Env) × Around × Heap × Heap × Addr × (Str → Option Value) × (List (Addr × Obj)) × Shared × (Value → Shared → Prop) × (Value → Shared → Prop) × Addr × (List Value) × Nat × (List Int)) ⟨(⟨fun _ _ => 0, { strHash := fun _ => 0, shareClass := fun _ => 0, mergeTok := fun t => t, idOf := fun _ => 0, idOfShared := fun _ _ => 0, followText := fun _ => false, idOfImm := fun _ => 0 }⟩, [], (fun _ => none), (fun _ => none), (fun _ => none), 0, 0, none, default, [], {}, {}, {}, (0 : Nat), (fun _ => none), [], {}, (fun _ _ => True), (fun _ _ => True), (0 : Nat), [], 0, [])⟩ fun p => ¬ P p.1 p.2.1 p.2.2.1 p.2.2.2.1 p.2.2.2.2.1 p.2.2.2.2.2.1 p.2.2.2.2.2.2.1 p.2.2.2.2.2.2.2.1 p.2.2.2.2.2.2.2.2.1 p.2.2.2.2.2.2.2.2.2.1 p.2.2.2.2.2.2.2.2.2.2.1 p.2.2.2.2.2.2.2.2.2.2.2.1 p.2.2.2.2.2.2.2.2.2.2.2.2.1 p.2.2.2.2.2.2.2.2.2.2.2.2.2.1 p.2.2.2.2.2.2.2.2.2.2.2.2.2.2.1 p.2.2.2.2.2.2.2.2.2.2.2.2.2.2.2.1 p.2.2.2.2.2.2.2.2.2.2.2.2.2.2.2.2.1 p.2.2.2.2.2.2.2.2.2.2.2.2.2.2.2.2.2.1 p.2.2.2.2.2.2.2.2.2.2.2.2.2.2.2.2.2.2.1 p.2.2.2.2.2.2.2.2.2.2.2.2.2.2.2.2.2.2.2.1 p.2.2.2.2.2.2.2.2.2.2.2.2.2.2.2.2.2.2.2.2.1 p.2.2.2.2.2.2.2.2.2.2.2.2.2.2.2.2.2.2.2.2.2.1 p.2.2.2.2.2.2.2.2.2.2.2.2.2.2.2.2.2.2.2.2.2.2
@[irreducible] noncomputable def w : World := cc.1
@[irreducible] noncomputable def loose : List Str := cc.2.1
@[irreducible] noncomputable def mean : ExcName → Option Value := cc.2.2.1
@[irreducible] noncomputable def mg : Str → Option Value := cc.2.2.2.1
@[irreducible] noncomputable def mb : Str → Option Value := cc.2.2.2.2.1
@[irreducible] noncomputable def dp : Nat := cc.2.2.2.2.2.1
@[irreducible] noncomputable def un : Nat := cc.2.2.2.2.2.2.1
@[irreducible] noncomputable def gd : Option (List Code) := cc.2.2.2.2.2.2.2.1
@[irreducible] noncomputable def env : Env := cc.2.2.2.2.2.2.2.2.1
@[irreducible] noncomputable def outer : List Env := cc.2.2.2.2.2.2.2.2.2.1
@[irreducible] noncomputable def A₀ : Around := cc.2.2.2.2.2.2.2.2.2.2.1
@[irreducible] noncomputable def base : Heap := cc.2.2.2.2.2.2.2.2.2.2.2.1
@[irreducible] noncomputable def h₀ : Heap := cc.2.2.2.2.2.2.2.2.2.2.2.2.1
@[irreducible] noncomputable def L : Addr := cc.2.2.2.2.2.2.2.2.2.2.2.2.2.1
@[irreducible] noncomputable def m : Str → Option Value := cc.2.2.2.2.2.2.2.2.2.2.2.2.2.2.1
@[irreducible] noncomputable def news : List (Addr × Obj) := cc.2.2.2.2.2.2.2.2.2.2.2.2.2.2.2.1
@[irreducible] noncomputable def s : Shared := cc.2.2.2.2.2.2.2.2.2.2.2.2.2.2.2.2.1
@[irreducible] noncomputable def Q : Value → Shared → Prop := cc.2.2.2.2.2.2.2.2.2.2.2.2.2.2.2.2.2.1
@[irreducible] noncomputable def E : Value → Shared → Prop := cc.2.2.2.2.2.2.2.2.2.2.2.2.2.2.2.2.2.2.1
@[irreducible] noncomputable def sc : Addr := cc.2.2.2.2.2.2.2.2.2.2.2.2.2.2.2.2.2.2.2.1
@[irreducible] noncomputable def xs : List Value := cc.2.2.2.2.2.2.2.2.2.2.2.2.2.2.2.2.2.2.2.2.1
@[irreducible] noncomputable def n : Nat := cc.2.2.2.2.2.2.2.2.2.2.2.2.2.2.2.2.2.2.2.2.2.1
@[irreducible] noncomputable def ns : List Int := cc.2.2.2.2.2.2.2.2.2.2.2.2.2.2.2.2.2.2.2.2.2.2
set_option maxHeartbeats 4000000 in
theorem main : P w loose mean mg mb dp un gd env outer A₀ base h₀ L m news s Q E sc xs n ns := by
  intro C hroom hun hsc hxs hxl hlen hret
  obtain ⟨B, F, X, N, T, hf, hk⟩ := C
  have hr : recursionLimit = 1000 := rfl
  have hc : cLine = 9900 := rfl
  revert X; k_fill; intro X
  have N2 := kst_newsOf (l' := (sc, listOf xs.toArray n) :: news) N (by
    intro z hz
    rcases List.mem_cons.mp hz with rfl | hz
    · exact hsc
    · exact hz)
  clear N
  have h4 : 0 ≤ (atL ns 1).fmod 4 ∧ (atL ns 1).fmod 4 < 4 := by rw [Int.fmod_eq_emod_of_nonneg _ (by decide)]; lia
  have h7 : 0 ≤ (atL ns 2).fmod 7 ∧ (atL ns 2).fmod 7 < 7 := by rw [Int.fmod_eq_emod_of_nonneg _ (by decide)]; lia
  refine wpAny_call ?_
  first | (k_dflt (refine' code_def ?k1 ?k2 ?k3 ?k4 ?k5 ?kA ?kF ?kK ?k6 ?k7 ?k8 ?k9 ?kB ?_ ?c2 ?c3 ?c4 ?c5; (case kA => exact rfl); (case kF => first | assumption | exact rfl); (case kK => first | assumption | exact rfl); (case k1 => k_asm); (case k2 => k_asm); (case k3 => k_asm); (case k4 => k_asm); (case k5 => k_asm); (case k6 => k_is); (case k7 => k_is); (case k8 => ((try dsimp only [Around.deeper]); lia)); (case k9 => first | exact BindsTo.of_eq rfl | exact binds_K (by k_in) rfl (by k_is) rfl rfl rfl); (case c5 => decide); (case kB => exact locs rfl); (case c2 => exact rfl); (case c3 => exact rfl); (case c4 => exact rfl); k_whole; intro _ _ _ _ _ _ _ _ _; (try dsimp only); (try k_fold))) | (k_dflt (refine' code_defC ?k1 ?k2 ?k3 ?k4 ?k5 ?kA ?kF ?kK ?k6 ?k7 ?k8 ?k9 ?kB ?kD ?_ ?c2 ?c3 ?c4; (case kA => exact rfl); (case kF => first | assumption | exact rfl); (case kK => first | assumption | exact rfl); (case k1 => k_asm); (case k2 => k_asm); (case k3 => k_asm); (case k4 => k_asm); (case k5 => k_asm); (case k6 => k_is); (case k7 => k_is); (case k8 => ((try dsimp only [Around.deeper]); lia)); (case k9 => first | exact BindsTo.of_eq rfl | exact binds_K (by k_in) rfl (by k_is) rfl rfl rfl); (case kB => exact rfl); (case kD => decide +kernel); (case c2 => exact rfl); (case c3 => exact rfl); (case c4 => exact rfl); k_whole; intro g' L' h' tk' cells' FG' F' N' Y' B' X' T' l1; k_cells Y'; (try simp only [List.cons_append, List.nil_append] at N'); (try dsimp only); (try k_fold)))
  k_steps
  refine ⟨?_⟩
  refine' list_ints (ns := [55, 56, 60, 256]) ?a1_1 ?a2_1 ?a3_1 ?a4_1 ?_
  case a1_1 => assumption
  case a2_1 => assumption
  case a3_1 => repeat constructor
  case a4_1 => decide
  intro l1 v1 h1 t1 F1 N1 _ i1
  k_sweep
  k_steps
  refine ⟨c_at (dp := dp + 1) (un := un + 3) (outer := env :: outer) ⟨(by assumption), (by assumption), (by assumption), (by assumption), (by assumption), rfl, rfl⟩ (by lia) (by lia) sc xs n (by k_mem) ns hxs hxl hlen 1 _ (by lia) (by lia) ?_⟩
  intro t2 h2' tk2 F2 N2
  k_sweep
  k_steps
  refine ⟨item_list_intsT (ns := [55, 56, 60, 256]) (News.isList (by k_asm) (by k_mem)) i1 h4.1 (by show (_ : Int) < ((4 : Nat) : Int); lia) (by lia) ?_⟩
  intro t3
  have N3 := kst_newsOf (l' := (sc, listOf xs.toArray n) :: news) N2 (fun z hz => .tail _ hz)
  clear N2 i1
  k_sweep
  k_steps
  refine ⟨?_⟩
  refine' tbl_list (tbl := [[56], [60], [0, 56], [1, 0], [0, 60], [55], [1, 0, 0]]) ?a1_2 ?a2_2 ?a3_2 ?a4_2 ?a5_2 ?_
  case a1_2 => assumption
  case a2_2 => assumption
  case a3_2 => repeat constructor
  case a4_2 => decide
  case a5_2 => decide
  intro l4 v4 T4 h4' tk4 F4 N4 e4 T4'
  k_sweep
  k_steps
  refine ⟨c_at (dp := dp + 1) (un := un + 3) (outer := env :: outer) ⟨(by assumption), (by assumption), (by assumption), (by assumption), (by assumption), rfl, rfl⟩ (by lia) (by lia) sc xs n (.tail _ (List.mem_append_right _ (.head _))) ns hxs hxl hlen 2 _ (by lia) (by lia) ?_⟩
  intro t5 h5 tk5 F5 N5
  k_sweep
  k_steps
  refine ⟨?_⟩
  k_dflt (refine kba_turn (value' := PySem.Expr.Name (PySem.Str.ofString "_") ⟨0, 0, 0, 0⟩) (fun _ => rfl) ?_)
  refine tbl_item N5 e4 T4' h7.1 (by show (_ : Int) < ((7 : Nat) : Int); lia) (by decide) ?_
  intro qL uL nL N6 iL0
  dsimp only at N6
  have iL : IntsAre uL (lenH ((atL ns 2).fmod 7).toNat) := iL0
  clear N5 iL0 e4 T4'
  k_sweep
  k_steps
  refine ⟨c_at (dp := dp + 1) (un := un + 3) (outer := env :: outer) ⟨(by assumption), (by assumption), (by assumption), (by assumption), (by assumption), rfl, rfl⟩ (by lia) (by lia) sc xs n (by k_mem) ns hxs hxl hlen 3 _ (by lia) (by lia) ?_⟩
  intro t9 h9 tk9 F9 N9
  k_sweep
  k_steps
  refine ⟨?_⟩
  refine' list_ints (ns := [183, 247]) ?a1_3 ?a2_3 ?a3_3 ?a4_3 ?_
  case a1_3 => assumption
  case a2_3 => assumption
  case a3_3 => repeat constructor
  case a4_3 => decide
  intro l8 v8 h8 t8 F8 N8 _ i8
  k_sweep
  k_steps
  refine ⟨c_at (dp := dp + 1) (un := un + 3) (outer := env :: outer) ⟨(by assumption), (by assumption), (by assumption), (by assumption), (by assumption), rfl, rfl⟩ (by lia) (by lia) sc xs n (by k_mem) ns hxs hxl hlen 3 _ (by lia) (by lia) ?_⟩
  intro t9 h9 tk9 F9 N9
  k_sweep
  k_steps
  refine ⟨item_list_intsT (ns := [183, 247]) (News.isList (by k_asm) (by k_mem)) i8 (Int.fmod_nonneg_of_pos _ (by decide)) (by show (_ : Int) < ((2 : Nat) : Int); exact Int.fmod_lt_of_pos _ (by decide)) (by have := Int.fmod_lt_of_pos (atL ns 3) (show (0 : Int) < 2 by decide); lia) ?_⟩
  intro t10
  have N10 := kst_newsOf (l' := (qL, listOf uL.toArray nL) :: (sc, listOf xs.toArray n) :: news) N9 (fun z hz => .tail _ hz)
  clear N9 i8
  k_sweep
  k_steps
  refine ⟨meet_val (by assumption) (by assumption) (fun v => ∃ t, v = .int (if (0 : Int) < (atL ns 3).fmod 5 then ((lenH ((atL ns 2).fmod 7).toNat).length : Int) else 1) t) (fun E' => ?_) (fun v h' tk' hv FV NV => ?_)⟩
  · refine wpAny_IfExp ?_
    k_steps
    · refine ⟨len_list (News.isList (by k_asm) (by k_mem)) (by rw [List.size_toArray, IntsAre.length iL]; exact lenH_fit _) ?_⟩; rw [List.size_toArray, IntsAre.length iL]; k_steps
      rename Fr _ _ _ _ => FE; rename News _ _ _ _ => NE
      exact ⟨_, _, rfl, FE, NE, _, by rw [if_pos (by assumption)]⟩
    · rename Fr _ _ _ _ => FE; rename News _ _ _ _ => NE
      exact ⟨_, _, rfl, FE, NE, _, by rw [if_neg (by assumption)]⟩
  · obtain ⟨tv, rfl⟩ := hv
    k_sweep
    k_steps
    refine ⟨meet_val (by assumption) (by assumption) (fun v => v = .bool (standsH ((atL ns 1).fmod 4).toNat ((atL ns 2).fmod 7).toNat (decide (0 < (atL ns 3).fmod 5)) ((atL ns 3).fmod 2).toNat)) (fun E' => ?_) (fun v h' tk' hv FV NV => ?_)⟩
    · refine BoolOp_and ?_
      k_steps
      refine ⟨len_list (News.isList (by k_asm) (by k_mem)) (by rw [List.size_toArray, IntsAre.length iL]; exact lenH_fit _) ?_⟩; rw [List.size_toArray, IntsAre.length iL]; k_steps
      refine ⟨len_list (News.isList (by k_asm) (by k_mem)) (by rw [List.size_toArray, IntsAre.length iL]; exact lenH_fit _) ?_⟩; rw [List.size_toArray, IntsAre.length iL]; k_steps
      · refine ⟨BoolOp_and ?_⟩
        k_steps
        · refine ⟨BoolOp_one ?_⟩
          k_steps
          have hix := size_in (by assumption : 55 < ([55, 56, 60, 256] : List Int).getD ((atL ns 1).fmod 4).toNat 0)
          have hix1 := hix.2.1
          have hix2 := hix.2.2
          refine ⟨?_⟩
          refine' tbl_list (tbl := [[56], [60], [1, 0]]) ?a1_4 ?a2_4 ?a3_4 ?a4_4 ?a5_4 ?_
          case a1_4 => assumption
          case a2_4 => assumption
          case a3_4 => repeat constructor
          case a4_4 => decide
          case a5_4 => decide
          intro l11 v11 T11 h11 tk11 F11 N11 e11 T11'
          k_sweep
          k_steps
          refine ⟨?_⟩
          refine' list_ints (ns := [0, 56, 60, 256]) ?a1_5 ?a2_5 ?a3_5 ?a4_5 ?_
          case a1_5 => assumption
          case a2_5 => assumption
          case a3_5 => repeat constructor
          case a4_5 => decide
          intro l12 v12 h12 t12 F12 N12 _ i12
          k_sweep
          k_steps
          refine ⟨?_⟩
          k_dflt (refine index_list_ints (ns := [0, 56, 60, 256]) (News.isList (by k_asm) (by k_mem)) i12 (by decide) hix.1 ?_)
          k_steps
          refine ⟨?_⟩
          k_dflt (refine kba_turn (value' := PySem.Expr.Name (PySem.Str.ofString "_") ⟨0, 0, 0, 0⟩) (fun _ => rfl) ?_)
          refine tbl_item (kst_newsOf N12 (fun z hz => .tail _ hz)) e11 T11' (by lia) (by show (_ : Int) < ((3 : Nat) : Int); lia) (by decide) ?_
          intro qI uI nI N13 iI
          dsimp only at N13
          clear N12 e11 T11' i12
          k_sweep
          k_steps
          rename Fr _ _ _ _ => FE
          exact ⟨_, _, rfl, FE, kst_newsOf N13 (fun z hz => by repeat (first | exact hz | apply List.mem_cons_of_mem)), congrArg Value.bool (st_yes (p := 0 < (atL ns 3).fmod 5) (a4 _) (by assumption) (by assumption))⟩
        · rename Fr _ _ _ _ => FE
          rename News _ _ _ _ => NE
          exact ⟨_, _, rfl, FE, kst_newsOf NE (fun z hz => by repeat (first | exact hz | apply List.mem_cons_of_mem)), congrArg Value.bool (st_n2 (p := 0 < (atL ns 3).fmod 5) (a4 _) (by assumption))⟩
      · rename Fr _ _ _ _ => FE
        rename News _ _ _ _ => NE
        exact ⟨_, _, rfl, FE, kst_newsOf NE (fun z hz => by repeat (first | exact hz | apply List.mem_cons_of_mem)), congrArg Value.bool (st_n1 (p := 0 < (atL ns 3).fmod 5) (by assumption))⟩
    · subst hv
      k_sweep
      k_steps
      refine ⟨List_ ?_⟩
      k_steps
      refine ⟨List_ ?_⟩
      k_steps
      refine ⟨?_⟩
      k_dflt (refine kmk_add_ints (ms := lenH ((atL ns 2).fmod 7).toNat) (by k_asm) (by k_asm) (News.isList (by k_asm) (by k_mem)) (News.isList (by k_asm) (by k_mem)) (by repeat constructor) iL ?_ (Nat.le_trans (by have := lenH_le ((atL ns 2).fmod 7).toNat; simp; lia : _ ≤ 100) (by rw [sizeLine_eq]; decide)))
      intro DL wL hL FL NL l1L iW
      (try k_lt l1L)
      (try k_sweep)
      k_steps
      k_dflt (refine KBa.make_K (by k_asm) (by k_asm) rfl (News.isList (by k_asm) (by k_mem)) iW ?_ ?_ ?_)
      · intro x hx
        rcases List.mem_append.mp hx with hx | hx
        · rw [List.mem_singleton.mp hx]; exact head_in (h2 _)
        · exact lenH_in _ x hx
      · have := lenH_le ((atL ns 2).fmod 7).toNat
        simp only [List.length_append, List.length_cons, List.length_nil]
        lia
      intro h9 t9 tk9 F9 N9 hIn
      k_sweep
      k_steps
      refine ⟨LCg.ListComp_U (F₀ := by k_asm) (by with_unfolding_all rfl) (by decide) (by rfl) (by decide) (by rfl) ?_⟩
      k_steps
      rename IsRange _ _ _ _ _ _ _ _ => hRg
      rename ∀ (b : Addr) (o : Obj), _ → _ => hup
      have hz := size_le (a4 (atL ns 1))
      refine ⟨LCg.CompSrc.range (n := (([55, 56, 60, 256] : List Int).getD ((atL ns 1).fmod 4).toNat 0).toNat) (by rfl) (by assumption) (by assumption) hRg (range_small hz.1 (by lia)) (by rw [rangeSize_nat]; lia) (Nat.le_trans (by lia : _ ≤ 300) (by rw [sizeLine_eq]; decide)) ?_⟩
      intro g9
      refine compRest_keep (fun i ys => IntsAre ys ((List.range i).map fun k => ((k : Nat) : Int).fmod 128)) ?_ trivial .nil ?_
      · rintro i ys v I oI C oC D m₂ h tk E' hi hms ⟨tj, rfl⟩ hC hx F9 N9 off ne
        clear hup hRg
        k_steps
        exact ⟨_, _, rfl, by assumption, by assumption, by
          rw [List.range_succ, List.map_append]
          exact IntsAre.append hms (by rw [Int.zero_add]; exact .cons _ _ .nil)⟩
      · intro ys hms
        clear hup hRg
        unfold LCg.FinE
        intro D h9 tk9 F9 N9 o9
        k_steps
        k_dflt (refine KBa.make_K (by k_asm) (by k_asm) rfl (News.isList (by k_asm) (by k_mem)) hms ?_ ?_ ?_)
        · intro x hx
          obtain ⟨k, _, rfl⟩ := List.mem_map.mp hx
          exact (fmod_in _).1
        · simp only [List.length_map, List.length_range]
          lia
        intro hA tA kA FA NA hIn2
        have hb1 := KBa.ints_make hIn
        have hb2 := KBa.ints_make hIn2
        have hlh := lenH_le ((atL ns 2).fmod 7).toNat
        refine KBa.add_K hb1 hb2 (by simp only [List.length_map, List.length_range, List.length_append, List.length_cons, List.length_nil]; lia) ?_
        intro tB kB hBB
        clear F9 N9
        k_steps
        rename Fr h₀ L _ m => FN
        rename News h₀ L _ (_ :: _) => NN
        refine hret _ _ tB 0 _ _ (hBB.trans (oct_eq (a4 _))) FN ?_
        refine kst_newsOf NN fun z hz => ?_
        rcases List.mem_cons.mp hz with rfl | hz
        · exact .head _
        · repeat (first | exact hz | apply List.mem_cons_of_mem)
theorem all (p : World × (List Str) × (ExcName → Option Value) × (Str → Option Value) × (Str → Option Value) × Nat × Nat × (Option (List Code)) × Env × (List Env) × Around × Heap × Heap × Addr × (Str → Option Value) × (List (Addr × Obj)) × Shared × (Value → Shared → Prop) × (Value → Shared → Prop) × Addr × (List Value) × Nat × (List Int)) : P p.1 p.2.1 p.2.2.1 p.2.2.2.1 p.2.2.2.2.1 p.2.2.2.2.2.1 p.2.2.2.2.2.2.1 p.2.2.2.2.2.2.2.1 p.2.2.2.2.2.2.2.2.1 p.2.2.2.2.2.2.2.2.2.1 p.2.2.2.2.2.2.2.2.2.2.1 p.2.2.2.2.2.2.2.2.2.2.2.1 p.2.2.2.2.2.2.2.2.2.2.2.2.1 p.2.2.2.2.2.2.2.2.2.2.2.2.2.1 p.2.2.2.2.2.2.2.2.2.2.2.2.2.2.1 p.2.2.2.2.2.2.2.2.2.2.2.2.2.2.2.1 p.2.2.2.2.2.2.2.2.2.2.2.2.2.2.2.2.1 p.2.2.2.2.2.2.2.2.2.2.2.2.2.2.2.2.2.1 p.2.2.2.2.2.2.2.2.2.2.2.2.2.2.2.2.2.2.1 p.2.2.2.2.2.2.2.2.2.2.2.2.2.2.2.2.2.2.2.1 p.2.2.2.2.2.2.2.2.2.2.2.2.2.2.2.2.2.2.2.2.1 p.2.2.2.2.2.2.2.2.2.2.2.2.2.2.2.2.2.2.2.2.2.1 p.2.2.2.2.2.2.2.2.2.2.2.2.2.2.2.2.2.2.2.2.2.2 := Classical.byContradiction fun n => Classical.epsilon_spec (p := fun p => ¬ P p.1 p.2.1 p.2.2.1 p.2.2.2.1 p.2.2.2.2.1 p.2.2.2.2.2.1 p.2.2.2.2.2.2.1 p.2.2.2.2.2.2.2.1 p.2.2.2.2.2.2.2.2.1 p.2.2.2.2.2.2.2.2.2.1 p.2.2.2.2.2.2.2.2.2.2.1 p.2.2.2.2.2.2.2.2.2.2.2.1 p.2.2.2.2.2.2.2.2.2.2.2.2.1 p.2.2.2.2.2.2.2.2.2.2.2.2.2.1 p.2.2.2.2.2.2.2.2.2.2.2.2.2.2.1 p.2.2.2.2.2.2.2.2.2.2.2.2.2.2.2.1 p.2.2.2.2.2.2.2.2.2.2.2.2.2.2.2.2.1 p.2.2.2.2.2.2.2.2.2.2.2.2.2.2.2.2.2.1 p.2.2.2.2.2.2.2.2.2.2.2.2.2.2.2.2.2.2.1 p.2.2.2.2.2.2.2.2.2.2.2.2.2.2.2.2.2.2.2.1 p.2.2.2.2.2.2.2.2.2.2.2.2.2.2.2.2.2.2.2.2.1 p.2.2.2.2.2.2.2.2.2.2.2.2.2.2.2.2.2.2.2.2.2.1 p.2.2.2.2.2.2.2.2.2.2.2.2.2.2.2.2.2.2.2.2.2.2) ⟨p, n⟩ (by with_unfolding_all exact main)
end c_headedEE
theorem c_headedE {w : World} {loose : List Str} {mean : ExcName → Option Value} {mg mb : Str → Option Value} {dp un : Nat} {gd : Option (List Code)} {env : Env} {outer : List Env} {A₀ : Around} {base h₀ : Heap} {L : Addr} {m : Str → Option Value} {news : List (Addr × Obj)} {s : Shared} {Q E : Value → Shared → Prop} (C : Cx w loose mean mg mb env outer A₀ base h₀ L m news s.heap) (hroom : dp + 30 < 1000) (hun : un + 300 < 9900) (sc : Addr) (xs : List Value) (n : Nat) (hsc : (sc, listOf xs.toArray n) ∈ news) (ns : List Int) (hxs : IntsAre xs ns) (hxl : xs.length = ns.length) (hlen : ns.length ≤ 63) (hret : ∀ D b t n h' tk', KBw.bInts b = octH ((atL ns 1).fmod 4).toNat ((atL ns 2).fmod 7).toNat (decide (0 < (atL ns 3).fmod 5)) ((atL ns 3).fmod 2).toNat → Fr h₀ L h' m → News h₀ L h' ((D, listOf #[.bytes b t, .bool (standsH ((atL ns 1).fmod 4).toNat ((atL ns 2).fmod 7).toNat (decide (0 < (atL ns 3).fmod 5)) ((atL ns 3).fmod 2).toNat)] n) :: news) → Q (.ref D) { s with heap := h', toks := tk' })
    :
    wpAny (model PySem.Challenge.rw_jm0023_01.prog w) (kT dp un gd env outer) (call (.ref 1505) [.ref sc]) Q E s := c_headedEE.all (w, loose, mean, mg, mb, dp, un, gd, env, outer, A₀, base, h₀, L, m, news, s, Q, E, sc, xs, n, ns) C hroom hun hsc hxs hxl hlen hret
end
section
open PySem PySem.W PySem.Calls PyProof.Rows PySem.Spec
/-! The script and the one table that grows are taken out of the ground at law's entry, and put back under it for a reader that may refuse. -/
/-- what may be taken out of the ground -/
noncomputable def Dull (o : Obj) : Prop := (o.cls = .type "list" ∧ ∃ it n, o.data = .seq it n) ∨ (o.cls = .none ∧ o.data = .fields #[])
section
variable {h : Heap} {S : List Addr}
theorem hide_keep (hS : ∀ a ∈ S, ∃ o, h.get? a = some o ∧ Dull o) {b : Addr} {o : Obj} (e : h.get? b = some o) (hd : ¬ Dull o) : (hideAll h S).get? b = some o :=
  hideAll_get S e fun hm => by
    obtain ⟨o', e', hd'⟩ := hS b hm
    rw [e] at e'
    cases e'
    exact hd hd'
theorem hide_ns (hS : ∀ a ∈ S, ∃ o, h.get? a = some o ∧ Dull o) {a : Addr} {m : Str → Option Value} (x : h.Ns a m) : (hideAll h S).Ns a m := by
  obtain ⟨o, es, ep, e, hd, r⟩ := x
  exact ⟨o, es, ep, hide_keep hS e (by rintro (⟨_, _, _, q⟩ | ⟨_, q⟩) <;> rw [hd] at q <;> cases q), hd, r⟩
theorem hide_code (hS : ∀ a ∈ S, ∃ o, h.get? a = some o ∧ Dull o) {cd : Value} {q : Str} (x : h.CodeRec cd q) : (hideAll h S).CodeRec cd q := by
  obtain ⟨c, o, vs, t, e, g, d, r⟩ := x
  refine ⟨c, o, vs, t, e, hide_keep hS g ?_, d, r⟩
  rintro (⟨_, _, _, q⟩ | ⟨_, q⟩) <;> rw [d] at q <;> cases q
  simp at r
theorem hide_tail (hS : ∀ a ∈ S, ∃ o, h.get? a = some o ∧ Dull o) {bmB tl : List Value} (x : OwnTailQ h bmB tl) : OwnTailQ (hideAll h S) bmB tl := by
  induction x with
  | base => exact .base
  | own hg hn hq _ ih => exact .own (hide_keep hS hg (by rintro (⟨_, _, _, q⟩ | ⟨_, q⟩) <;> cases q)) (hide_ns hS hn) hq ih
theorem hide_table (hS : ∀ a ∈ S, ∃ o, h.get? a = some o ∧ Dull o) {c P : Addr} (x : h.TableAt c P #[]) (hP : P ∉ S) : (hideAll h S).TableAt c P #[] := by
  obtain ⟨⟨o, vs, e1, e2, e3, e4⟩, e5⟩ := x
  exact ⟨⟨o, vs, hide_keep hS e1 (by rintro (⟨q, _⟩ | ⟨q, _⟩) <;> rw [e2] at q <;> simp at q), e2, e3, e4⟩, hideAll_get S e5 hP⟩
theorem hide_isCode (hS : ∀ a ∈ S, ∃ o, h.get? a = some o ∧ Dull o) {c P : Addr} (x : h.IsCode c P #[]) (t : h.TableAt c P #[]) (hP : P ∉ S) : (hideAll h S).IsCode c P #[] := by
  obtain ⟨o, vs, file, tf, flags, tg, inF, text, tt, op, a, r1, r2, r3, r4, r5, r6, b, r⟩ := x
  obtain ⟨⟨o', vs', e1, e2, e3, e4⟩, e5⟩ := t
  rw [a] at e1
  cases e1
  exact ⟨o, vs, file, tf, flags, tg, inF, text, tt, op, hide_keep hS a (by rintro (⟨q, _⟩ | ⟨q, _⟩) <;> rw [e2] at q <;> simp at q), r1, r2, r3, r4, r5, r6, hideAll_get S b hP, r⟩
theorem hide_seer (hS : ∀ a ∈ S, ∃ o, h.get? a = some o ∧ Dull o) (x : h.NoSeer) : (hideAll h S).NoSeer where
  statics := let ⟨mc, a, b⟩ := x.statics; ⟨mc, hide_ns hS a, b⟩
  mods := let ⟨mc, a, b⟩ := x.mods; ⟨mc, hide_ns hS a, b⟩
  imp := let ⟨mc, a, b⟩ := x.imp; ⟨mc, hide_ns hS a, b⟩
  main := let ⟨mg, bm, ob, a, b, c, d, e⟩ := x.main; ⟨mg, bm, ob, hide_ns hS a, b, hide_keep hS c (by rintro (⟨q, _⟩ | ⟨q, _⟩) <;> rw [d] at q <;> simp at q), d, e⟩
theorem top_hide {KF : Frag} {p : Program} {loose : List Str} {mean : ExcName → Option Value} {mg mb : Str → Option Value} (T : Top p loose mean mg mb h) (X : KF.In h) (hS : ∀ a ∈ S, ∃ o, h.get? a = some o ∧ Dull o)
    (hT : ∀ d ∈ recsOf p, ∃ c P, tabIn KF d.name = some (c, P) ∧ (P ∈ S → ∃ o, h.get? P = some o ∧ o.cls ≠ .none)) : Top p loose mean mg mb (hideAll h S) where
  g := hide_ns hS T.g
  b := hide_ns hS T.b
  nolimit := let ⟨mc, a, b⟩ := T.nolimit; ⟨mc, hide_ns hS a, b⟩
  nodigits := let ⟨mc, h1, h2⟩ := T.nodigits; ⟨mc, hide_ns hS h1, h2⟩
  fn := fun d hd => let ⟨a, o, pm, code, doc, h1, h2, h3, h4⟩ := T.fn d hd; ⟨a, o, pm, code, doc, h1, hide_keep hS h2 (by rintro (⟨_, _, _, q⟩ | ⟨_, q⟩) <;> rw [h3] at q <;> cases q), h3, hide_code hS h4⟩
  own := fun o ho => by
    obtain ⟨C, O, hm⟩ := T.own o ho
    obtain ⟨bm, N, nm, q, bs, hdct, sn, sub, ab, col, dd, k0, k1, k2, k3, k5, mN, hC, hN, hq, hT⟩ := O.obj
    exact ⟨C, ⟨O.bound, bm, N, nm, q, bs, hdct, sn, sub, ab, col, dd, k0, k1, k2, k3, k5, mN, hide_keep hS hC (by rintro (⟨_, _, _, q⟩ | ⟨_, q⟩) <;> cases q), hide_ns hS hN, hq, hide_tail hS hT⟩, hm⟩
  const := T.const
  free := T.free
  builtins := T.builtins
  tab := fun d hd => by
    obtain ⟨a, o, fd, c, P, h1, h2, h3, h4, h5, h6⟩ := T.tab d hd
    have hP : P ∉ S := by
      obtain ⟨c', P', ht, hn⟩ := hT d hd
      unfold tabIn at ht
      split at ht
      · rename_i f hf
        have e1 := mg_of X T.g hf
        rw [h1] at e1
        cases e1
        split at ht
        · rename_i hfo
          have e2 := X _ _ hfo
          rw [h2] at e2
          cases e2
          cases h3
          split at ht
          · rename_i c₂ hc
            rw [h4] at hc
            cases hc
            split at ht
            · rename_i hco
              have e3 := X _ _ hco
              obtain ⟨⟨oc, vs, g1, g2, g3, g4⟩, g5⟩ := h6
              rw [e3] at g1
              cases g1
              cases g3
              split at ht
              · rename_i P₂ hv
                rw [g4] at hv
                cases hv
                cases ht
                exact fun hm => by
                  obtain ⟨o, e, hc⟩ := hn hm
                  rw [g5] at e
                  cases e
                  exact hc rfl
              · cases ht
            · cases ht
          · cases ht
        · cases ht
      · cases ht
    exact ⟨a, o, fd, c, P, h1, hide_keep hS h2 (by rintro (⟨_, _, _, q⟩ | ⟨_, q⟩) <;> rw [h3] at q <;> cases q), h3, h4, hide_isCode hS h5 h6 hP, hide_table hS h6 hP⟩
  bmain := let ⟨bm, ob, h1, h2, h3, h4, r⟩ := T.bmain; ⟨bm, ob, h1, h2, hide_keep hS h3 (by rintro (⟨q, _⟩ | ⟨q, _⟩) <;> rw [h4] at q <;> simp at q), h4, r⟩
  seer := fun hi => hide_seer hS (T.seer hi)
end
theorem upd_self {h : Heap} {a : Addr} {o : Obj} (ha : a < h.objs.size) (hf : ∀ h', h' = h → Heap.get? { objs := #[o] } 0 = some o) : (h.update a fun _ => o).get? a = some o := by
  obtain ⟨objs, l⟩ := h
  show Heap.get? ⟨objs.modify a _, l⟩ a = _
  have h0 := hf _ rfl
  unfold Heap.get? at h0 ⊢
  have hs : a < (objs.modify a fun _ => o).size := by simpa using ha
  rw [Array.getElem?_eq_getElem hs, Array.getElem_modify_self]
  exact h0
/-- the script and the table put back under the ground -/
noncomputable def fillG (h₀ : Heap) (sc : Addr) (osc ot : Obj) : Heap := (h₀.update sc fun _ => osc).update 1380 fun _ => ot
section
variable {h₀ : Heap} {sc : Addr} {vs : Array Value} {n : Nat} {ps : Array Value}
theorem fillG_t (h2 : 1380 < h₀.objs.size) : (fillG h₀ sc (listOf vs n) (cT ps)).get? 1380 = some (cT ps) :=
  upd_self (by rw [Heap.size_after_update]; exact h2) fun _ _ => rfl
theorem fillG_s (h1 : sc < h₀.objs.size) (hne : sc ≠ 1380) : (fillG h₀ sc (listOf vs n) (cT ps)).get? sc = some (listOf vs n) := by
  unfold fillG
  rw [Heap.get?_update_other _ _ (fun q => hne q.symm)]
  exact upd_self h1 fun _ _ => rfl
theorem fillG_o {b : Addr} (h1 : b ≠ sc) (h2 : b ≠ 1380) : (fillG h₀ sc (listOf vs n) (cT ps)).get? b = h₀.get? b := by
  unfold fillG
  rw [Heap.get?_update_other _ _ h2.symm, Heap.get?_update_other _ _ h1.symm]
theorem fillG_size : (fillG h₀ sc (listOf vs n) (cT ps)).objs.size = h₀.objs.size := by
  unfold fillG
  rw [Heap.size_after_update, Heap.size_after_update]
end
end
section
open PySem PySem.W PySem.Calls PyProof.Rows PySem.Spec
section
variable {w : World} {loose : List Str} {mean : ExcName → Option Value} {mg mb : Str → Option Value} {dp un : Nat} {gd : Option (List Code)} {env : Env} {A₀ : Around} {base h₀ h : Heap} {L : Addr} {m : Str → Option Value} {news : List (Addr × Obj)} {ps vs : Array Value} {sc : Addr} {n : Nat} {s : Shared} {Q E : Value → Shared → Prop}
theorem reground (C : Cx w loose mean mg mb env [] A₀ base h₀ L m ((1380, cT ps) :: (sc, listOf vs n) :: news) h) (h1 : sc < h₀.objs.size) (h2 : 1380 < h₀.objs.size) (hne : sc ≠ 1380) (hnw : ∀ p ∈ news, p.1 ≠ 1380 ∧ p.1 ≠ sc) :
    Cx w loose mean mg mb env [] A₀ base (fillG h₀ sc (listOf vs n) (cT ps)) L m news h ∧
    (∀ h' m', Fr (fillG h₀ sc (listOf vs n) (cT ps)) L h' m' → Fr h₀ L h' m' ∧ News h₀ L h' [(1380, cT ps), (sc, listOf vs n)]) ∧
    (∀ b, (fillG h₀ sc (listOf vs n) (cT ps)).get? b = none → h₀.get? b = none ∧ b ≠ 1380 ∧ b ≠ sc) := by
  obtain ⟨B, F, X, N, T, hf, hk⟩ := C
  obtain ⟨t1, t2, t3⟩ := N _ (.head _)
  obtain ⟨s1, s2, s3⟩ := N _ (.tail _ (.head _))
  have gt : (fillG h₀ sc (listOf vs n) (cT ps)).get? 1380 = some (cT ps) := fillG_t h2
  have gs : (fillG h₀ sc (listOf vs n) (cT ps)).get? sc = some (listOf vs n) := fillG_s h1 hne
  have st : h₀.StaysIn (fillG h₀ sc (listOf vs n) (cT ps)) := fun b o e => by
    rw [fillG_o (fun q => by rw [q] at e; rw [s3] at e; cases e) (fun q => by rw [q] at e; rw [t3] at e; cases e)]
    exact e
  have kp : ∀ b o, (fillG h₀ sc (listOf vs n) (cT ps)).get? b = some o → h.get? b = some o := fun b o e => by
    by_cases e1 : b = 1380
    · rw [e1] at e ⊢; rw [gt] at e; cases e; exact t1
    · by_cases e2 : b = sc
      · rw [e2] at e ⊢; rw [gs] at e; cases e; exact s1
      · rw [fillG_o e2 e1] at e; exact F.keep b o e
  refine ⟨⟨⟨B.stack, fun b o e => st b o (B.stays b o e), trivial⟩, ⟨F.ns, kp, by rw [fillG_size]; exact F.above⟩, X.keeps st, fun p hp => ?_, T.keeps st, hf, hk⟩, fun h' m' F' => ⟨⟨F'.ns, fun b o e => F'.keep b o (st b o e), by have := F'.above; rw [fillG_size] at this; exact this⟩, fun p hp => ?_⟩, fun b e => ?_⟩
  · obtain ⟨p1, p2, p3⟩ := N p (.tail _ (.tail _ hp))
    exact ⟨p1, p2, by rw [fillG_o (hnw p hp).2 (hnw p hp).1]; exact p3⟩
  · rcases List.mem_cons.mp hp with rfl | hp
    · exact ⟨F'.keep _ _ gt, t2, t3⟩
    · rw [List.mem_singleton.mp hp]
      exact ⟨F'.keep _ _ gs, s2, s3⟩
  · have e1 : b ≠ 1380 := fun q => by rw [q, gt] at e; cases e
    have e2 : b ≠ sc := fun q => by rw [q, gs] at e; cases e
    rw [fillG_o e2 e1] at e
    exact ⟨e, e1, e2⟩
/-- the ledger behind a reader that came back with a datum -/
noncomputable def Bl (h₀ : Heap) (L : Addr) (m : Str → Option Value) (ps vs : Array Value) (sc : Addr) (n : Nat) (news tl : List (Addr × Obj)) (h' : Heap) : Prop :=
  Fr h₀ L h' m ∧ News h₀ L h' ((1380, cT ps) :: (sc, listOf vs n) :: (tl ++ news)) ∧ ∀ p ∈ tl, p.1 ≠ 1380 ∧ p.1 ≠ sc
theorem bl_of (R1 : ∀ h' m', Fr (fillG h₀ sc (listOf vs n) (cT ps)) L h' m' → Fr h₀ L h' m' ∧ News h₀ L h' [(1380, cT ps), (sc, listOf vs n)])
    (R2 : ∀ b, (fillG h₀ sc (listOf vs n) (cT ps)).get? b = none → h₀.get? b = none ∧ b ≠ 1380 ∧ b ≠ sc) {tl : List (Addr × Obj)} {h' : Heap} (b : Bk (fillG h₀ sc (listOf vs n) (cT ps)) L m news tl h') : Bl h₀ L m ps vs sc n news tl h' := by
  obtain ⟨F, N, _⟩ := b
  obtain ⟨F', N'⟩ := R1 _ _ F
  refine ⟨F', fun p hp => ?_, fun p hp => (R2 _ (N p (List.mem_append_left _ hp)).2.2).2⟩
  rcases List.mem_cons.mp hp with rfl | hp
  · exact N' _ (.head _)
  · rcases List.mem_cons.mp hp with rfl | hp
    · exact N' _ (.tail _ (.head _))
    · obtain ⟨p1, p2, p3⟩ := N p hp
      exact ⟨p1, p2, (R2 _ p3).1⟩
theorem bytes_in (b : Array UInt8) : ∀ k ∈ KBw.bInts b, 0 ≤ k ∧ k < 256 := by
  intro k hk
  obtain ⟨c, _, rfl⟩ := List.mem_map.mp hk
  have := c.toNat_lt
  omega
theorem r_lrlp (C : Cx w loose mean mg mb env [] A₀ base h₀ L m ((1380, cT ps) :: (sc, listOf vs n) :: news) s.heap) (h1 : sc < h₀.objs.size) (h2 : 1380 < h₀.objs.size) (hne : sc ≠ 1380) (hnw : ∀ p ∈ news, p.1 ≠ 1380 ∧ p.1 ≠ sc)
    (hroom : dp + 430 < 1000) (hun : un + 1800 < 9900) (XB : (K w.params).In base) (TB : Top vq loose mean mg mb base)
    (b : Array UInt8) (hlen : (KBw.bInts b).length ≤ 304) (t1 : Tok)
    (hret : ∀ v d tl h' tk', Bl h₀ L m ps vs sc n news tl h' → RlpIn tl v d → rd (KBw.bInts b) = some d → Q v { s with heap := h', toks := tk' })
    (hnone : rd (KBw.bInts b) = none → ∀ h' tk', Fr h₀ L h' m → News h₀ L h' [(1380, cT ps), (sc, listOf vs n)] → Q .none { s with heap := h', toks := tk' }) :
    wpAny (model PySem.Challenge.rw_jm0023_01.prog w) (kT dp un gd env []) (call (.ref 1493) [.bytes b t1]) Q E s := by
  obtain ⟨CG, R1, R2⟩ := reground C h1 h2 hne hnw
  exact c_lrlp _ (bytes_in b) hlen CG hroom hun XB TB b rfl t1 (fun v d tl h' tk' hB hR hrd => hret v d tl h' tk' (bl_of R1 R2 hB) hR hrd) fun hno h' tk' F => hnone hno h' tk' (R1 _ _ F).1 (R1 _ _ F).2
theorem r_lnode (C : Cx w loose mean mg mb env [] A₀ base h₀ L m ((1380, cT ps) :: (sc, listOf vs n) :: news) s.heap) (h1 : sc < h₀.objs.size) (h2 : 1380 < h₀.objs.size) (hne : sc ≠ 1380) (hnw : ∀ p ∈ news, p.1 ≠ 1380 ∧ p.1 ≠ sc)
    (hroom : dp + 430 < 1000) (hun : un + 1800 < 9900) (XB : (K w.params).In base) (TB : Top vq loose mean mg mb base)
    (b : Array UInt8) (hlen : (KBw.bInts b).length ≤ 304) (t1 : Tok)
    (hret : ∀ v d tl h' tk', Bl h₀ L m ps vs sc n news tl h' → RlpIn tl v d → rd (KBw.bInts b) = some d → Q v { s with heap := h', toks := tk' })
    (hnone : rd (KBw.bInts b) = none → ∀ h' tk', Fr h₀ L h' m → News h₀ L h' [(1380, cT ps), (sc, listOf vs n)] → Q .none { s with heap := h', toks := tk' }) :
    wpAny (model PySem.Challenge.rw_jm0023_01.prog w) (kT dp un gd env []) (call (.ref 1500) [.bytes b t1]) Q E s := by
  obtain ⟨CG, R1, R2⟩ := reground C h1 h2 hne hnw
  exact c_lnode _ (bytes_in b) hlen CG hroom hun XB TB b rfl t1 (fun v d tl h' tk' hB hR hrd => hret v d tl h' tk' (bl_of R1 R2 hB) hR hrd) fun hno h' tk' F => hnone hno h' tk' (R1 _ _ F).1 (R1 _ _ F).2
end
end
section
local macro_rules | `(tactic| walk_at "compareOp NotEq") => `(tactic| refine Stop.go ?_)
theorem pad20 {prog : PySem.Program} {w : PySem.World} {A : PySem.Around} {E : PySem.Value → PySem.Shared → Prop} {s : PySem.Shared} {env : PySem.Env} {Q : PySem.Flow → PySem.Shared → Prop} (h : Q .next s) : PySem.wpAny (PySem.model prog w) A (PySem.execs [] env) Q E s := by
  walk1
  exact h
section
open PySem PySem.W PySem.Calls PyProof.Rows PySem.Spec
noncomputable def lawTail : List Stmt := (bOf fn36).drop 2
noncomputable abbrev lawEnv (L : Addr) : Env := envOfC (Str.ofString "law") (scOf fn36) L 1510 (.ref 1509)
namespace c_tailE
noncomputable def P (w : World) (loose : List Str) (mean : ExcName → Option Value) (mg : Str → Option Value) (mb : Str → Option Value) (gd : Option (List Code)) (A₀ : Around) (base : Heap) (h₀ : Heap) (L : Addr) (m : Str → Option Value) (news : List (Addr × Obj)) (ps : Array Value) (vs : Array Value) (sc : Addr) (n : Nat) (s : Shared) (E : Value → Shared → Prop) (Q : Flow → Shared → Prop) (t : Tok) : Prop := ∀ (C : Cx w loose mean mg mb (lawEnv L) [] A₀ base h₀ L m ((1380, cT ps) :: (sc, listOf vs n) :: news) s.heap) (h1 : sc < h₀.objs.size) (h2 : 1380 < h₀.objs.size) (hne : sc ≠ 1380) (htr : TriplesOk ps.toList) (XB : (K w.params).In base) (TB : Top vq loose mean mg mb base) (b : Array UInt8) (hm : m (Str.ofString "octets") = some (.bytes b t)) (hlen : (KBw.bInts b).length ≤ 304) (hend : ∀ h' tk' gs' ps' m', Fr h₀ L h' m' → News h₀ L h' [(1380, cT ps'), (sc, listOf vs n)] → GK s.gens gs' → Q (.ret (.bool true)) { s with heap := h', toks := tk', gens := gs' }), wpAny (model PySem.Challenge.rw_jm0023_01.prog w) (kT 302 7 gd (lawEnv L) []) (execs lawTail (lawEnv L)) Q E s
noncomputable def epsC : World × (List Str) × (ExcName → Option Value) × (Str → Option Value) × (Str → Option Value) × (Option (List Code)) × Around × Heap × Heap × Addr × (Str → Option Value) × (List (Addr × Obj)) × (Array Value) × (Array Value) × Addr × Nat × Shared × (Value → Shared → Prop) × (Flow → Shared → Prop) × Tok := @Classical.epsilon (World × (List Str) × (ExcName → Option Value) × (Str → Option Value) × (Str → Option Value) × (Option (List Code)) × Around × Heap × Heap × Addr × (Str → Option Value) × (List (Addr × Obj)) × (Array Value) × (Array Value) × Addr × Nat × Shared × (Value → Shared → Prop) × (Flow → Shared → Prop) × Tok) ⟨(⟨fun _ _ => 0, { strHash := fun _ => 0, shareClass := fun _ => 0, mergeTok := fun t => t, idOf := fun _ => 0, idOfShared := fun _ _ => 0, followText := fun _ => false, idOfImm := fun _ => 0 }⟩, [], (fun _ => none), (fun _ => none), (fun _ => none), none, {}, {}, {}, (0 : Nat), (fun _ => none), [], #[], #[], (0 : Nat), 0, {}, (fun _ _ => True), (fun _ _ => True), (0 : Nat))⟩ fun p => ¬ P p.1 p.2.1 p.2.2.1 p.2.2.2.1 p.2.2.2.2.1 p.2.2.2.2.2.1 p.2.2.2.2.2.2.1 p.2.2.2.2.2.2.2.1 p.2.2.2.2.2.2.2.2.1 p.2.2.2.2.2.2.2.2.2.1 p.2.2.2.2.2.2.2.2.2.2.1 p.2.2.2.2.2.2.2.2.2.2.2.1 p.2.2.2.2.2.2.2.2.2.2.2.2.1 p.2.2.2.2.2.2.2.2.2.2.2.2.2.1 p.2.2.2.2.2.2.2.2.2.2.2.2.2.2.1 p.2.2.2.2.2.2.2.2.2.2.2.2.2.2.2.1 p.2.2.2.2.2.2.2.2.2.2.2.2.2.2.2.2.1 p.2.2.2.2.2.2.2.2.2.2.2.2.2.2.2.2.2.1 p.2.2.2.2.2.2.2.2.2.2.2.2.2.2.2.2.2.2.1 p.2.2.2.2.2.2.2.2.2.2.2.2.2.2.2.2.2.2.2
@[irreducible] noncomputable def w : World := epsC.1
@[irreducible] noncomputable def loose : List Str := epsC.2.1
@[irreducible] noncomputable def mean : ExcName → Option Value := epsC.2.2.1
@[irreducible] noncomputable def mg : Str → Option Value := epsC.2.2.2.1
@[irreducible] noncomputable def mb : Str → Option Value := epsC.2.2.2.2.1
@[irreducible] noncomputable def gd : Option (List Code) := epsC.2.2.2.2.2.1
@[irreducible] noncomputable def A₀ : Around := epsC.2.2.2.2.2.2.1
@[irreducible] noncomputable def base : Heap := epsC.2.2.2.2.2.2.2.1
@[irreducible] noncomputable def h₀ : Heap := epsC.2.2.2.2.2.2.2.2.1
@[irreducible] noncomputable def L : Addr := epsC.2.2.2.2.2.2.2.2.2.1
@[irreducible] noncomputable def m : Str → Option Value := epsC.2.2.2.2.2.2.2.2.2.2.1
@[irreducible] noncomputable def news : List (Addr × Obj) := epsC.2.2.2.2.2.2.2.2.2.2.2.1
@[irreducible] noncomputable def ps : Array Value := epsC.2.2.2.2.2.2.2.2.2.2.2.2.1
@[irreducible] noncomputable def vs : Array Value := epsC.2.2.2.2.2.2.2.2.2.2.2.2.2.1
@[irreducible] noncomputable def sc : Addr := epsC.2.2.2.2.2.2.2.2.2.2.2.2.2.2.1
@[irreducible] noncomputable def n : Nat := epsC.2.2.2.2.2.2.2.2.2.2.2.2.2.2.2.1
@[irreducible] noncomputable def s : Shared := epsC.2.2.2.2.2.2.2.2.2.2.2.2.2.2.2.2.1
@[irreducible] noncomputable def E : Value → Shared → Prop := epsC.2.2.2.2.2.2.2.2.2.2.2.2.2.2.2.2.2.1
@[irreducible] noncomputable def Q : Flow → Shared → Prop := epsC.2.2.2.2.2.2.2.2.2.2.2.2.2.2.2.2.2.2.1
@[irreducible] noncomputable def t : Tok := epsC.2.2.2.2.2.2.2.2.2.2.2.2.2.2.2.2.2.2.2
set_option maxHeartbeats 4000000 in
theorem main : P w loose mean mg mb gd A₀ base h₀ L m news ps vs sc n s E Q t := by
  intro C h1 h2 hne htr XB TB b hm hlen hend
  obtain ⟨B, F, X, N, T, hf, hk⟩ := C
  have hr : recursionLimit = 1000 := rfl
  have hc : cLine = 9900 := rfl
  revert X; k_fill; intro X
  have N2 := kst_newsOf (l' := (1380, cT ps) :: (sc, listOf vs n) :: []) N (by
    intro z hz
    rcases List.mem_cons.mp hz with rfl | hz
    · exact .head _
    · rw [List.mem_singleton.mp hz]; exact .tail _ (.head _))
  clear N
  have F2 : Fr h₀ L s.heap (kstB m [(Str.ofString "octets", .bytes b t)]) := by
    rw [kst_self (by intro p hp; rw [List.mem_singleton.mp hp]; exact hm)]; exact F
  clear F
  unfold lawTail
  show wpAny _ _ (execs (_ :: _ :: _ :: []) _) _ _ _
  k_steps
  refine ⟨r_lrlp (n := n) (vs := vs) (sc := sc) (ps := ps) (news := []) ⟨(by assumption), (by assumption), (by assumption), (by assumption), (by assumption), rfl, rfl⟩ h1 h2 hne (fun _ q => nomatch q) (by lia) (by lia) XB TB b hlen _ ?_ ?_⟩
  · intro v d tl h' tk' hB hR hrd
    obtain ⟨hed, hdd⟩ := enc_of_rd (bytes_in b) (by lia) hrd
    obtain ⟨F3, N3, hne3⟩ := hB
    rw [List.append_nil] at N3
    clear N2 F2
    have hR0 := hR
    have step : ∀ (s3 : Shared) (Q' : Value → Shared → Prop) (E' : Value → Shared → Prop) (F4 : Fr h₀ L s3.heap (kstB m [(Str.ofString "told", v), (Str.ofString "octets", .bytes b t)])) (N4 : News h₀ L s3.heap ((1380, cT ps) :: (sc, listOf vs n) :: tl)),
        (∀ h5 tk5 tl5 v5, Fr h₀ L h5 (kstB m [(Str.ofString "told", v), (Str.ofString "octets", .bytes b t)]) → News h₀ L h5 ((1380, cT ps) :: (sc, listOf vs n) :: (tl5 ++ tl)) → RlpIn tl5 v5 d → (∀ p ∈ tl5, p.1 ≠ 1380 ∧ p.1 ≠ sc) → Q' v5 { s3 with heap := h5, toks := tk5 }) →
        wpAny (model PySem.Challenge.rw_jm0023_01.prog w) (kT 302 7 gd (lawEnv L) []) (call (.ref 1500) [.bytes b t]) Q' E' s3 := fun s3 Q' E' F4 N4 k => by
      refine r_lnode ⟨B, F4, X, N4, T, rfl, rfl⟩ h1 h2 hne hne3 (by lia) (by lia) XB TB b hlen _ (fun v5 d5 tl5 h5 tk5 hB5 hR5 hrd5 => ?_) (fun hno5 => absurd (hrd.symm.trans hno5) (by simp))
      obtain rfl : d = d5 := Option.some.inj (hrd.symm.trans hrd5)
      exact k h5 tk5 tl5 v5 hB5.1 hB5.2.1 hR5 hB5.2.2
    cases hR with
    | @str b' t' ks hb =>
      k_sweep
      k_steps
      refine ⟨step _ _ _ (by rename Fr _ _ _ _ => FZ; exact FZ) (by assumption) (fun h5 tk5 tl5 v5 F5 N5 hR5 hne5 => ?_)⟩
      refine ne_rlp (n1 := tl) (n2 := tl5) (fun p hp => (N5 p (.tail _ (.tail _ (List.mem_append_right _ hp)))).1) (fun p hp => (N5 p (.tail _ (.tail _ (List.mem_append_left _ hp)))).1) hR0 hR5 (show 7 + dep _ < cLine from by lia) (by lia) ?_
      refine wpAny_truthy_bool ?_
      rw [if_neg (by decide)]
      k_sweep
      k_steps
      have hnp : ∀ p ∈ (sc, listOf vs n) :: (tl5 ++ tl), p.1 ≠ 1380 := fun p hp => by
        rcases List.mem_cons.mp hp with rfl | hp
        · exact hne
        · rcases List.mem_append.mp hp with hp | hp
          · exact (hne5 p hp).1
          · exact (hne3 p hp).1
      refine ⟨encC_all 305 ⟨(by assumption), (by assumption), (by assumption), (by assumption), (by assumption), rfl, rfl⟩ htr hnp (by lia) (by lia) _ _ (RlpIn.mono (fun z hz => .tail _ (List.mem_append_right _ hz)) hR0) (by lia) (by rw [hed]; lia) ?_⟩
      intro cc tc hc tkc gs' ps' hcd htr' hsm FC NC hG
      obtain rfl : cc = b := bInts_inj (hcd.trans hed)
      k_sweep
      k_steps
      · refine ⟨encN_all 305 ⟨(by assumption), (by assumption), (by assumption), (by assumption), (by assumption), rfl, rfl⟩ (by lia) (by lia) _ _ (RlpIn.mono (fun z hz => .tail _ (.tail _ (List.mem_append_right _ hz))) hR0) (by lia) (by rw [hed]; lia) ?_⟩
        intro cd td hd tkd hdd2 FD ND
        obtain rfl : cd = cc := bInts_inj (hdd2.trans hed)
        k_sweep
        k_steps
        rename Fr _ _ _ _ => FE
        rename News _ _ _ _ => NE
        rw [beq_self_eq_true]
        exact hend _ _ _ _ _ FE (kst_newsOf NE fun z hz => by
          rcases List.mem_cons.mp hz with rfl | hz
          · exact .head _
          · rw [List.mem_singleton.mp hz]; exact .tail _ (.head _)) hG
      · rename (_ == _) = false => hff
        rw [beq_self_eq_true] at hff
        cases hff
    | @list a ws k ds hm' hI =>
      k_sweep
      k_steps
      refine ⟨step _ _ _ (by rename Fr _ _ _ _ => FZ; exact FZ) (by assumption) (fun h5 tk5 tl5 v5 F5 N5 hR5 hne5 => ?_)⟩
      refine ne_rlp (n1 := tl) (n2 := tl5) (fun p hp => (N5 p (.tail _ (.tail _ (List.mem_append_right _ hp)))).1) (fun p hp => (N5 p (.tail _ (.tail _ (List.mem_append_left _ hp)))).1) hR0 hR5 (show 7 + dep _ < cLine from by lia) (by lia) ?_
      refine wpAny_truthy_bool ?_
      rw [if_neg (by decide)]
      k_sweep
      k_steps
      have hnp : ∀ p ∈ (sc, listOf vs n) :: (tl5 ++ tl), p.1 ≠ 1380 := fun p hp => by
        rcases List.mem_cons.mp hp with rfl | hp
        · exact hne
        · rcases List.mem_append.mp hp with hp | hp
          · exact (hne5 p hp).1
          · exact (hne3 p hp).1
      refine ⟨encC_all 305 ⟨(by assumption), (by assumption), (by assumption), (by assumption), (by assumption), rfl, rfl⟩ htr hnp (by lia) (by lia) _ _ (RlpIn.mono (fun z hz => .tail _ (List.mem_append_right _ hz)) hR0) (by lia) (by rw [hed]; lia) ?_⟩
      intro cc tc hc tkc gs' ps' hcd htr' hsm FC NC hG
      obtain rfl : cc = b := bInts_inj (hcd.trans hed)
      k_sweep
      k_steps
      · refine ⟨encN_all 305 ⟨(by assumption), (by assumption), (by assumption), (by assumption), (by assumption), rfl, rfl⟩ (by lia) (by lia) _ _ (RlpIn.mono (fun z hz => .tail _ (.tail _ (List.mem_append_right _ hz))) hR0) (by lia) (by rw [hed]; lia) ?_⟩
        intro cd td hd tkd hdd2 FD ND
        obtain rfl : cd = cc := bInts_inj (hdd2.trans hed)
        k_sweep
        k_steps
        rename Fr _ _ _ _ => FE
        rename News _ _ _ _ => NE
        rw [beq_self_eq_true]
        exact hend _ _ _ _ _ FE (kst_newsOf NE fun z hz => by
          rcases List.mem_cons.mp hz with rfl | hz
          · exact .head _
          · rw [List.mem_singleton.mp hz]; exact .tail _ (.head _)) hG
      · rename (_ == _) = false => hff
        rw [beq_self_eq_true] at hff
        cases hff
  · intro hno h' tk' F3 N3
    clear N2 F2
    k_sweep
    k_steps
    refine ⟨r_lnode (news := []) ⟨(by assumption), (by assumption), (by assumption), (by assumption), (by assumption), rfl, rfl⟩ h1 h2 hne (fun _ q => nomatch q) (by lia) (by lia) XB TB b hlen _ (fun v5 d5 tl5 h5 tk5 hB5 hR5 hrd5 => absurd (hno.symm.trans hrd5) (by simp)) (fun _ h5 tk5 F5 N5 => ?_)⟩
    k_sweep
    k_steps
    rename Fr _ _ _ _ => FE
    rename News _ _ _ _ => NE
    exact hend _ _ _ _ _ FE NE (GK.refl _)
theorem all (p : World × (List Str) × (ExcName → Option Value) × (Str → Option Value) × (Str → Option Value) × (Option (List Code)) × Around × Heap × Heap × Addr × (Str → Option Value) × (List (Addr × Obj)) × (Array Value) × (Array Value) × Addr × Nat × Shared × (Value → Shared → Prop) × (Flow → Shared → Prop) × Tok) : P p.1 p.2.1 p.2.2.1 p.2.2.2.1 p.2.2.2.2.1 p.2.2.2.2.2.1 p.2.2.2.2.2.2.1 p.2.2.2.2.2.2.2.1 p.2.2.2.2.2.2.2.2.1 p.2.2.2.2.2.2.2.2.2.1 p.2.2.2.2.2.2.2.2.2.2.1 p.2.2.2.2.2.2.2.2.2.2.2.1 p.2.2.2.2.2.2.2.2.2.2.2.2.1 p.2.2.2.2.2.2.2.2.2.2.2.2.2.1 p.2.2.2.2.2.2.2.2.2.2.2.2.2.2.1 p.2.2.2.2.2.2.2.2.2.2.2.2.2.2.2.1 p.2.2.2.2.2.2.2.2.2.2.2.2.2.2.2.2.1 p.2.2.2.2.2.2.2.2.2.2.2.2.2.2.2.2.2.1 p.2.2.2.2.2.2.2.2.2.2.2.2.2.2.2.2.2.2.1 p.2.2.2.2.2.2.2.2.2.2.2.2.2.2.2.2.2.2.2 := Classical.byContradiction fun n => Classical.epsilon_spec (p := fun p => ¬ P p.1 p.2.1 p.2.2.1 p.2.2.2.1 p.2.2.2.2.1 p.2.2.2.2.2.1 p.2.2.2.2.2.2.1 p.2.2.2.2.2.2.2.1 p.2.2.2.2.2.2.2.2.1 p.2.2.2.2.2.2.2.2.2.1 p.2.2.2.2.2.2.2.2.2.2.1 p.2.2.2.2.2.2.2.2.2.2.2.1 p.2.2.2.2.2.2.2.2.2.2.2.2.1 p.2.2.2.2.2.2.2.2.2.2.2.2.2.1 p.2.2.2.2.2.2.2.2.2.2.2.2.2.2.1 p.2.2.2.2.2.2.2.2.2.2.2.2.2.2.2.1 p.2.2.2.2.2.2.2.2.2.2.2.2.2.2.2.2.1 p.2.2.2.2.2.2.2.2.2.2.2.2.2.2.2.2.2.1 p.2.2.2.2.2.2.2.2.2.2.2.2.2.2.2.2.2.2.1 p.2.2.2.2.2.2.2.2.2.2.2.2.2.2.2.2.2.2.2) ⟨p, n⟩ (by with_unfolding_all exact main)
end c_tailE
theorem c_tail {w : World} {loose : List Str} {mean : ExcName → Option Value} {mg mb : Str → Option Value} {gd : Option (List Code)} {A₀ : Around} {base h₀ : Heap} {L : Addr} {m : Str → Option Value} {news : List (Addr × Obj)} {ps vs : Array Value} {sc : Addr} {n : Nat} {s : Shared} {E : Value → Shared → Prop} {Q : Flow → Shared → Prop} (C : Cx w loose mean mg mb (lawEnv L) [] A₀ base h₀ L m ((1380, cT ps) :: (sc, listOf vs n) :: news) s.heap) (h1 : sc < h₀.objs.size) (h2 : 1380 < h₀.objs.size) (hne : sc ≠ 1380) (htr : TriplesOk ps.toList) (XB : (K w.params).In base) (TB : Top vq loose mean mg mb base) (b : Array UInt8) (t : Tok) (hm : m (Str.ofString "octets") = some (.bytes b t)) (hlen : (KBw.bInts b).length ≤ 304) (hend : ∀ h' tk' gs' ps' m', Fr h₀ L h' m' → News h₀ L h' [(1380, cT ps'), (sc, listOf vs n)] → GK s.gens gs' → Q (.ret (.bool true)) { s with heap := h', toks := tk', gens := gs' })
    :
    wpAny (model PySem.Challenge.rw_jm0023_01.prog w) (kT 302 7 gd (lawEnv L) []) (execs lawTail (lawEnv L)) Q E s := c_tailE.all (w, loose, mean, mg, mb, gd, A₀, base, h₀, L, m, news, ps, vs, sc, n, s, E, Q, t) C h1 h2 hne htr XB TB b hm hlen hend
end
section
open PySem PySem.W PySem.Calls PyProof.Rows PySem.Spec
/-! the branches of law's one If -/
noncomputable def ifBody : Stmt → List Stmt | .If _ b _ _ => b | _ => []
noncomputable def ifElse : Stmt → List Stmt | .If _ _ o _ => o | _ => []
noncomputable def snd : List Stmt → List Stmt | _ :: s :: _ => ifBody s | _ => []
noncomputable def sndE : List Stmt → List Stmt | _ :: s :: _ => ifElse s | _ => []
noncomputable def fstB : List Stmt → List Stmt | s :: _ => ifBody s | _ => []
noncomputable def fstE : List Stmt → List Stmt | s :: _ => ifElse s | _ => []
noncomputable def body6 : List Stmt := snd (bOf fn36)
noncomputable def body2 : List Stmt := fstB (sndE (bOf fn36))
noncomputable def body0 : List Stmt := fstE (sndE (bOf fn36))
/-- what stands in law's frame where the kinds part -/
structure Lx (w : World) (loose : List Str) (mean : ExcName → Option Value) (mg mb : Str → Option Value) (A₀ : Around) (base h₀ : Heap) (L sc : Addr) (xs : List Value) (n : Nat) (ns : List Int) (k : Int) (t : Tok) (oc : Obj) (h : Heap) : Prop where
  B : Below A₀ base [] h₀
  X : (K w.params).In h₀
  T : Top vq loose mean mg mb h₀
  XB : (K w.params).In base
  TB : Top vq loose mean mg mb base
  F : Fr h₀ L h (kstB (fun _ => none) [(Str.ofString "kind", .int k t)])
  N : News h₀ L h [(L + 1, oc), (1380, cT #[]), (sc, listOf xs.toArray n)]
  hoc : oc.data = .cell (some (.ref sc))
  h1 : sc < h₀.objs.size
  h2 : 1380 < h₀.objs.size
  hne : sc ≠ 1380
  hL1 : (1380 : Addr) ≠ L + 1
  hL2 : sc ≠ L + 1
  hxs : IntsAre xs ns
  hxl : xs.length = ns.length
  hlen : ns.length ≤ 63
/-- where a branch ends: octets, at most 304 -/
noncomputable def Lend (h₀ : Heap) (L sc : Addr) (xs : List Value) (n : Nat) (s : Shared) (Q : Flow → Shared → Prop) : Prop :=
  ∀ b t h' tk' gs' ps' m', (KBw.bInts b).length ≤ 304 → TriplesOk ps'.toList → m' (Str.ofString "octets") = some (.bytes b t) → Fr h₀ L h' m' → News h₀ L h' [(1380, cT ps'), (sc, listOf xs.toArray n)] → GK s.gens gs' → Q .next { s with heap := h', toks := tk', gens := gs' }
end
section
open PySem PySem.W PySem.Calls PyProof.Rows PySem.Spec
/-- the source of a list comprehension that goes over octets, and what its turns do -/
noncomputable def SrcB (prog : Program) (w : World) (A : Around) (h₀ : Heap) (L : Addr) (m : Str → Option Value) (env : Env) (elt : PySem.Expr) (x y : Str) (scope : Scope) (cl : List (Str × Addr)) (Q : Flow → Shared → Prop) (xv : Value) (s₁ : Shared) : Prop :=
  ∃ b t news, xv = .bytes b t ∧ Fr h₀ L s₁.heap m ∧ News h₀ L s₁.heap news ∧ b.size ≤ sizeLine ∧
    ∀ g, LCg.CompRest prog w A h₀ L m env elt x scope cl { s₁ with heap := g } (fun _ => True) (fun i v => ∃ c u, b[i]? = some c ∧ v = .int (c.toNat : Int) u) (LCg.FinA h₀ L m { s₁ with heap := g } y Q) b.size 0 [] news
theorem assign_comp_bytes {prog : Program} {w : World} {A : Around} {E : Value → Shared → Prop} {s : Shared} {h₀ : Heap} {L : Addr} {m : Str → Option Value} {env : Env} {elt iter : PySem.Expr} {x y : Str} {px py : Pos} {scope : Scope} {cl : List (Str × Addr)} {pos spos : Pos} {Q : Flow → Shared → Prop}
    (_F₀ : Fr h₀ L s.heap m) (hLe : env.locals = L) (hh : A.handled = none)
    (hsw : swapsWith (.ListComp elt [⟨.Name x px, iter, [], 0⟩] scope pos) (some (.Name y py)) spos.line env = pure true)
    (hclos : closureFor scope env = pure cl) (hcell : ∀ z ∈ scope.names, z.2 ≠ .cell) (hkind : scope.kind = .function)
    (hnames : ∀ z ∈ scope.names, z.2 = .local → scope.names.lookup z.1 = some .local) (hx : scope.names.lookup x = some .local)
    (hy : env.kindOf y = some .local) (hp : (env.scope.kind == .class || (env.scope.kind == .module && env.locals != env.globals)) = false)
    (h : wpAny (model prog w) A (eval iter env) (SrcB prog w A h₀ L m env elt x y scope cl Q) E s)
    (hs : ∀ x, foldedSetIterable iter env x = pure x := by intro _; rfl) :
    wpAny (model prog w) A (exec (.Assign [.Name y py] (.ListComp elt [⟨.Name x px, iter, [], 0⟩] scope pos) spos) env) Q E s := by
  subst hLe
  rw [exec_Assign_Name_used _ _ _ _ hsw]
  refine wpAny_bind (wpAny_standAt (wpAny_bind ?_))
  show wpAny _ A (do let _ ← comprehension (.ListComp elt [⟨.Name x px, iter, [], 0⟩] scope pos) scope env _ (newList []) false (eval iter env) (some (assign (.Name y py) env))) _ _ s
  refine wpAny_bind (wpAny_mono (wpAny_comprehension_free (use := some (assign (.Name y py) env)) (Q := fun _ s' => Q .next s') rfl hs hclos hkind hnames
    (wpAny_mono h (fun xv s₁ h₁ => ?_) fun _ _ e => e)) (fun _ s' hq => wpAny_pure (wpAny_pure hq)) fun _ _ e => e)
  obtain ⟨b, t, news, rfl, F, N, hsz, R⟩ := h₁
  refine KBw.pyIter_bytes ?_
  refine LCg.block_U (S := fun _ => True) (KBw.walks hh s₁.heap.objs.size b t) hsz (fun i h st => let ⟨o, e, _⟩ := st; ⟨o, e⟩)
    (fun i h h' o nw st e e' _ _ _ => let ⟨o', q, r⟩ := st; ⟨o, e', by rw [e] at q; cases q; exact r⟩) hcell hkind hx ⟨_, Heap.get?_push_size _ rfl, rfl, rfl⟩ (fun z hz => ?_)
    (F.keeps fun _ _ e => Heap.get?_push_of_some _ e) (N.grown fun _ _ e => Heap.get?_push_of_some _ e) (Nat.ne_of_lt F.ns.lt) (next_is_new F) (fun p hp => Nat.ne_of_lt (Heap.lt_size (N p hp).1)) trivial (R _) ?_
  · rw [List.mem_singleton.mp hz]
    show s₁.heap.objs.size < (s₁.heap.push _).objs.size
    rw [Heap.size_push]; exact Nat.lt_succ_self _
  · intro D C h' tk m' ys news' F' N' o1 hn hC₀ hD₀ hCL hDL hCD offC fin
    show wpAny _ A (assign (.Name y py) env (.ref D)) _ _ _
    refine wpAny_assign_Name (wpAny_storeName_local hy F'.ns (fun h₂ hn₂ hs₂ => ?_) hp)
    have hL₀ : h₀.get? env.locals = none := Heap.get?_none_of_le F'.above
    have F₂ : Fr h₀ env.locals h₂ (fun z => if z = y then some (.ref D) else m z) := ⟨hn₂, fun b o e => hs₂.extBut b o (fun q => by rw [q, hL₀] at e; cases e) (F'.keep b o e), F'.above⟩
    refine ⟨m', hn.sameBut hs₂ hCL, fun h'' hs'' => fin D h'' _ (F₂.change hs'' hCL hC₀) (fun p hp => ?_) o1⟩
    refine ⟨hs''.extBut _ _ ?_ (hs₂.extBut _ _ (N' p hp).2.1 (N' p hp).1), (N' p hp).2⟩
    rcases List.mem_cons.mp hp with rfl | hp
    · exact Ne.symm hCD
    · exact offC p hp
end
theorem pad21 {prog : PySem.Program} {w : PySem.World} {A : PySem.Around} {E : PySem.Value → PySem.Shared → Prop} {s : PySem.Shared} {env : PySem.Env} {Q : PySem.Flow → PySem.Shared → Prop} (h : Q .next s) : PySem.wpAny (PySem.model prog w) A (PySem.execs [] env) Q E s := by
  walk1
  exact h
section
open PySem PySem.W PySem.Calls PyProof.Rows PySem.Spec
local macro_rules | `(tactic| walk_at "eval BoolOp") => `(tactic| refine Stop.go ?_)
local macro_rules | `(tactic| walk_at "eval IfExp") => `(tactic| refine Stop.go ?_)
local macro_rules | `(tactic| walk_at "subscriptTail") => `(tactic| with_reducible refine Stop.r ?_)
theorem fm_in (x : Int) {n : Nat} (h : 0 < n) : 0 ≤ x.fmod (n : Int) ∧ x.fmod (n : Int) < n := by
  rw [Int.fmod_eq_emod_of_nonneg _ (by omega)]
  exact ⟨Int.emod_nonneg _ (by omega), Int.emod_lt_of_pos _ (by omega)⟩
theorem fmod8 (x : Int) : 0 ≤ x.fmod 8 ∧ x.fmod 8 < 8 := by
  rw [Int.fmod_eq_emod_of_nonneg _ (by decide)]; omega
theorem len_one {ks x : List Int} {a c : Int} (h0 : 0 ≤ a) (h1 : a < ks.length) (hc : c = a ∨ c = a + 1) (hx : x.length = 1) (hb : ks.length ≤ 303) :
    (ks.take (clipAt ks.length a) ++ x ++ (ks.drop (clipAt ks.length c)).take (ks.length - clipAt ks.length c)).length ≤ 304 := by
  obtain ⟨a, rfl⟩ := Int.eq_ofNat_of_zero_le h0
  have h1' : a < ks.length := Int.ofNat_lt.mp h1
  have key : ∀ j, a ≤ j → (ks.take a ++ x ++ (ks.drop j).take (ks.length - j)).length ≤ 304 := fun j hj => by
    rw [List.length_append, List.length_append, List.length_take, List.length_take, hx]
    refine Nat.le_trans (Nat.add_le_add (Nat.add_le_add_right (Nat.min_le_left a _) 1) (Nat.le_trans (Nat.min_le_left _ _) (Nat.sub_le_sub_left hj ks.length))) ?_
    rw [Nat.add_right_comm, Nat.add_sub_cancel' (Nat.le_of_lt h1')]
    exact Nat.succ_le_succ hb
  rw [clip_nat, Nat.min_eq_left (Nat.le_of_lt h1')]
  rcases hc with rfl | rfl
  · rw [clip_nat, Nat.min_eq_left (Nat.le_of_lt h1')]
    exact key a (Nat.le_refl a)
  · rw [show clipAt ks.length ((a : Int) + 1) = a + 1 from (clip_nat _ (a + 1)).trans (Nat.min_eq_left h1')]
    exact key (a + 1) (Nat.le_succ a)
theorem lend_next {h₀ : Heap} {L sc : Addr} {xs : List Value} {n : Nat} {s : Shared} {Q : Flow → Shared → Prop} {h' : Heap} {tk' : Nat} {m' : Str → Option Value} {news : List (Addr × Obj)} {ps : Array Value} {b : Array UInt8} {t : Tok} (hend : Lend h₀ L sc xs n s Q) (F : Fr h₀ L h' m') (N : News h₀ L h' news)
    (hm : m' (Str.ofString "octets") = some (.bytes b t)) (hl : (KBw.bInts b).length ≤ 304) (htr : TriplesOk ps.toList) (h1 : (1380, cT ps) ∈ news) (h2 : (sc, listOf xs.toArray n) ∈ news) : Q .next { s with heap := h', toks := tk' } :=
  hend b t h' tk' s.gens ps m' hl htr hm F (fun p hp => by
    rcases List.mem_cons.mp hp with rfl | hp
    · exact N _ h1
    · rw [List.mem_singleton.mp hp]; exact N _ h2) (GK.refl _)
namespace c_k0bE
noncomputable def P (w : World) (loose : List Str) (mean : ExcName → Option Value) (mg : Str → Option Value) (mb : Str → Option Value) (gd : Option (List Code)) (A₀ : Around) (base : Heap) (h₀ : Heap) (L : Addr) (xs : List Value) (ns : List Int) (sc : Addr) (n : Nat) (s : Shared) (E : Value → Shared → Prop) (Q : Flow → Shared → Prop) (k : Int) (t1 : Tok) (t : Tok) (oc : Obj) (m : Str → Option Value) (ps : Array Value) (b : Array UInt8) : Prop := ∀ (B : Below A₀ base [] h₀) (X : (K w.params).In h₀) (T : Top vq loose mean mg mb h₀) (F : Fr h₀ L s.heap m) (hm1 : m (Str.ofString "octets") = some (.bytes b t1)) (hm2 : m (Str.ofString "kind") = some (.int k t)) (N : News h₀ L s.heap [(1380, cT ps), (sc, listOf xs.toArray n), (L + 1, oc)]) (hoc : oc.data = .cell (some (.ref sc))) (hL1 : (1380 : Addr) ≠ L + 1) (hL2 : sc ≠ L + 1) (hxs : IntsAre xs ns) (hxl : xs.length = ns.length) (hlen : ns.length ≤ 63) (htr : TriplesOk ps.toList) (hbl : (KBw.bInts b).length ≤ 303) (hb0 : 0 < (KBw.bInts b).length) (hend : Lend h₀ L sc xs n s Q), wpAny (model PySem.Challenge.rw_jm0023_01.prog w) (kT 302 7 gd (lawEnv L) []) (execs (body0.drop 3) (lawEnv L)) Q E s
noncomputable def cc : World × (List Str) × (ExcName → Option Value) × (Str → Option Value) × (Str → Option Value) × (Option (List Code)) × Around × Heap × Heap × Addr × (List Value) × (List Int) × Addr × Nat × Shared × (Value → Shared → Prop) × (Flow → Shared → Prop) × Int × Tok × Tok × Obj × (Str → Option Value) × (Array Value) × (Array UInt8) := @Classical.epsilon (World × (List Str) × (ExcName → Option Value) × (Str → Option Value) × (Str → Option Value) × (Option (List Code)) × Around × Heap × Heap × Addr × (List Value) × (List Int) × Addr × Nat × Shared × (Value → Shared → Prop) × (Flow → Shared → Prop) × Int × Tok × Tok × Obj × (Str → Option Value) × (Array Value) × (Array UInt8)) ⟨(⟨fun _ _ => 0, { strHash := fun _ => 0, shareClass := fun _ => 0, mergeTok := fun t => t, idOf := fun _ => 0, idOfShared := fun _ _ => 0, followText := fun _ => false, idOfImm := fun _ => 0 }⟩, [], (fun _ => none), (fun _ => none), (fun _ => none), none, {}, {}, {}, (0 : Nat), [], [], (0 : Nat), 0, {}, (fun _ _ => True), (fun _ _ => True), 0, (0 : Nat), (0 : Nat), default, (fun _ => none), #[], #[])⟩ fun p => ¬ P p.1 p.2.1 p.2.2.1 p.2.2.2.1 p.2.2.2.2.1 p.2.2.2.2.2.1 p.2.2.2.2.2.2.1 p.2.2.2.2.2.2.2.1 p.2.2.2.2.2.2.2.2.1 p.2.2.2.2.2.2.2.2.2.1 p.2.2.2.2.2.2.2.2.2.2.1 p.2.2.2.2.2.2.2.2.2.2.2.1 p.2.2.2.2.2.2.2.2.2.2.2.2.1 p.2.2.2.2.2.2.2.2.2.2.2.2.2.1 p.2.2.2.2.2.2.2.2.2.2.2.2.2.2.1 p.2.2.2.2.2.2.2.2.2.2.2.2.2.2.2.1 p.2.2.2.2.2.2.2.2.2.2.2.2.2.2.2.2.1 p.2.2.2.2.2.2.2.2.2.2.2.2.2.2.2.2.2.1 p.2.2.2.2.2.2.2.2.2.2.2.2.2.2.2.2.2.2.1 p.2.2.2.2.2.2.2.2.2.2.2.2.2.2.2.2.2.2.2.1 p.2.2.2.2.2.2.2.2.2.2.2.2.2.2.2.2.2.2.2.2.1 p.2.2.2.2.2.2.2.2.2.2.2.2.2.2.2.2.2.2.2.2.2.1 p.2.2.2.2.2.2.2.2.2.2.2.2.2.2.2.2.2.2.2.2.2.2.1 p.2.2.2.2.2.2.2.2.2.2.2.2.2.2.2.2.2.2.2.2.2.2.2
@[irreducible] noncomputable def w : World := cc.1
@[irreducible] noncomputable def loose : List Str := cc.2.1
@[irreducible] noncomputable def mean : ExcName → Option Value := cc.2.2.1
@[irreducible] noncomputable def mg : Str → Option Value := cc.2.2.2.1
@[irreducible] noncomputable def mb : Str → Option Value := cc.2.2.2.2.1
@[irreducible] noncomputable def gd : Option (List Code) := cc.2.2.2.2.2.1
@[irreducible] noncomputable def A₀ : Around := cc.2.2.2.2.2.2.1
@[irreducible] noncomputable def base : Heap := cc.2.2.2.2.2.2.2.1
@[irreducible] noncomputable def h₀ : Heap := cc.2.2.2.2.2.2.2.2.1
@[irreducible] noncomputable def L : Addr := cc.2.2.2.2.2.2.2.2.2.1
@[irreducible] noncomputable def xs : List Value := cc.2.2.2.2.2.2.2.2.2.2.1
@[irreducible] noncomputable def ns : List Int := cc.2.2.2.2.2.2.2.2.2.2.2.1
@[irreducible] noncomputable def sc : Addr := cc.2.2.2.2.2.2.2.2.2.2.2.2.1
@[irreducible] noncomputable def n : Nat := cc.2.2.2.2.2.2.2.2.2.2.2.2.2.1
@[irreducible] noncomputable def s : Shared := cc.2.2.2.2.2.2.2.2.2.2.2.2.2.2.1
@[irreducible] noncomputable def E : Value → Shared → Prop := cc.2.2.2.2.2.2.2.2.2.2.2.2.2.2.2.1
@[irreducible] noncomputable def Q : Flow → Shared → Prop := cc.2.2.2.2.2.2.2.2.2.2.2.2.2.2.2.2.1
@[irreducible] noncomputable def k : Int := cc.2.2.2.2.2.2.2.2.2.2.2.2.2.2.2.2.2.1
@[irreducible] noncomputable def t1 : Tok := cc.2.2.2.2.2.2.2.2.2.2.2.2.2.2.2.2.2.2.1
@[irreducible] noncomputable def t : Tok := cc.2.2.2.2.2.2.2.2.2.2.2.2.2.2.2.2.2.2.2.1
@[irreducible] noncomputable def oc : Obj := cc.2.2.2.2.2.2.2.2.2.2.2.2.2.2.2.2.2.2.2.2.1
@[irreducible] noncomputable def m : Str → Option Value := cc.2.2.2.2.2.2.2.2.2.2.2.2.2.2.2.2.2.2.2.2.2.1
@[irreducible] noncomputable def ps : Array Value := cc.2.2.2.2.2.2.2.2.2.2.2.2.2.2.2.2.2.2.2.2.2.2.1
@[irreducible] noncomputable def b : Array UInt8 := cc.2.2.2.2.2.2.2.2.2.2.2.2.2.2.2.2.2.2.2.2.2.2.2
set_option maxHeartbeats 4000000 in
theorem main : P w loose mean mg mb gd A₀ base h₀ L xs ns sc n s E Q k t1 t oc m ps b := by
  intro B X T F hm1 hm2 N hoc hL1 hL2 hxs hxl hlen htr hbl hb0 hend
  have hr : recursionLimit = 1000 := rfl
  have hc : cLine = 9900 := rfl
  revert X; k_fill; intro X
  obtain ⟨ks, hb⟩ : ∃ ks, KBw.bInts b = ks := ⟨_, rfl⟩
  rw [hb] at hbl hb0
  have F2 : Fr h₀ L s.heap (kstB m [(Str.ofString "octets", .bytes b t1), (Str.ofString "kind", .int k t)]) := by
    rw [kst_self (by
      intro p hp
      rcases List.mem_cons.mp hp with rfl | hp
      · exact hm1
      · rw [List.mem_singleton.mp hp]; exact hm2)]
    exact F
  clear F
  unfold body0
  show wpAny _ _ (execs (_ :: _ :: _ :: _ :: _ :: []) _) _ _ _
  k_steps
  refine ⟨c_at (dp := 302) (un := 7) (outer := []) ⟨(by assumption), (by assumption), (by assumption), (by assumption), (by assumption), rfl, rfl⟩ (by omega) (by omega) sc xs n (by k_mem) ns hxs hxl hlen _ _ (by omega) (by omega) ?_⟩
  intro t9 h9 tk9 F9 N9
  k_sweep
  k_steps
  all_goals try (exfalso; omega)
  · refine ⟨c_at (dp := 302) (un := 7) (outer := []) ⟨(by assumption), (by assumption), (by assumption), (by assumption), (by assumption), rfl, rfl⟩ (by omega) (by omega) sc xs n (by k_mem) ns hxs hxl hlen _ _ (by omega) (by omega) ?_⟩
    intro t8 h8 tk8 F8 N8
    k_sweep
    k_steps
    all_goals try (exfalso; omega)
    rename Fr _ _ _ _ => FE
    rename News _ _ _ _ => NE
    refine lend_next hend FE NE (by first | exact if_pos rfl | rfl) ?_ htr (by k_mem) (by k_mem)
    refine Nat.le_trans (Nat.le_of_eq (congrArg List.length (by assumption))) ?_
    exact len_one (fm_in _ hb0).1 (fm_in _ hb0).2 (.inr rfl) rfl hbl
  · rename Fr _ _ _ _ => FE
    rename News _ _ _ _ => NE
    refine lend_next hend FE NE (by first | exact if_pos rfl | rfl) ?_ htr (by k_mem) (by k_mem)
    refine Nat.le_trans (Nat.le_of_eq (congrArg List.length (by assumption))) ?_
    rw [List.length_take]
    omega
  · refine ⟨c_at (dp := 302) (un := 7) (outer := []) ⟨(by assumption), (by assumption), (by assumption), (by assumption), (by assumption), rfl, rfl⟩ (by omega) (by omega) sc xs n (by k_mem) ns hxs hxl hlen _ _ (by omega) (by omega) ?_⟩
    intro t8 h8 tk8 F8 N8
    k_sweep
    k_steps
    all_goals try (exfalso; omega)
    rename Fr _ _ _ _ => FE
    rename News _ _ _ _ => NE
    refine lend_next hend FE NE (by first | exact if_pos rfl | rfl) ?_ htr (by k_mem) (by k_mem)
    refine Nat.le_trans (Nat.le_of_eq (congrArg List.length (by assumption))) ?_
    rw [List.length_append]
    simp only [List.length_map, List.length_cons, List.length_nil]
    omega
  · refine ⟨c_at (dp := 302) (un := 7) (outer := []) ⟨(by assumption), (by assumption), (by assumption), (by assumption), (by assumption), rfl, rfl⟩ (by omega) (by omega) sc xs n (by k_mem) ns hxs hxl hlen _ _ (by omega) (by omega) ?_⟩
    intro t8 h8 tk8 F8 N8
    k_sweep
    k_steps
    have h8 := fmod8 (atL ns 2)
    have hgd := getD_in [129, 184, 185, 192, 193, 248, 249, 128] 255 (by decide) (by decide) ((atL ns 2).fmod 8).toNat
    k_dflt (refine ⟨item_list_intsT (ns := [129, 184, 185, 192, 193, 248, 249, 128]) (News.isList (by k_asm) (by k_mem)) (by repeat constructor) h8.1 h8.2 (by omega) ?_⟩)
    intro tA
    k_sweep
    k_steps
    all_goals try (exfalso; omega)
    all_goals (rename Fr _ _ _ _ => FE)
    all_goals (rename News _ _ _ _ => NE)
    all_goals
      refine lend_next hend FE NE (by first | exact if_pos rfl | rfl) ?_ htr (by k_mem) (by k_mem)
      refine Nat.le_trans (Nat.le_of_eq (congrArg List.length (by assumption))) ?_
      exact len_one (fm_in _ hb0).1 (fm_in _ hb0).2 (.inl rfl) rfl hbl
  · rename Fr _ _ _ _ => FE
    rename News _ _ _ _ => NE
    refine lend_next hend FE NE (b := b) (t := t1) (by first | rfl | exact if_pos rfl) ?_ htr (by k_mem) (by k_mem)
    rw [hb]; omega
theorem all (p : World × (List Str) × (ExcName → Option Value) × (Str → Option Value) × (Str → Option Value) × (Option (List Code)) × Around × Heap × Heap × Addr × (List Value) × (List Int) × Addr × Nat × Shared × (Value → Shared → Prop) × (Flow → Shared → Prop) × Int × Tok × Tok × Obj × (Str → Option Value) × (Array Value) × (Array UInt8)) : P p.1 p.2.1 p.2.2.1 p.2.2.2.1 p.2.2.2.2.1 p.2.2.2.2.2.1 p.2.2.2.2.2.2.1 p.2.2.2.2.2.2.2.1 p.2.2.2.2.2.2.2.2.1 p.2.2.2.2.2.2.2.2.2.1 p.2.2.2.2.2.2.2.2.2.2.1 p.2.2.2.2.2.2.2.2.2.2.2.1 p.2.2.2.2.2.2.2.2.2.2.2.2.1 p.2.2.2.2.2.2.2.2.2.2.2.2.2.1 p.2.2.2.2.2.2.2.2.2.2.2.2.2.2.1 p.2.2.2.2.2.2.2.2.2.2.2.2.2.2.2.1 p.2.2.2.2.2.2.2.2.2.2.2.2.2.2.2.2.1 p.2.2.2.2.2.2.2.2.2.2.2.2.2.2.2.2.2.1 p.2.2.2.2.2.2.2.2.2.2.2.2.2.2.2.2.2.2.1 p.2.2.2.2.2.2.2.2.2.2.2.2.2.2.2.2.2.2.2.1 p.2.2.2.2.2.2.2.2.2.2.2.2.2.2.2.2.2.2.2.2.1 p.2.2.2.2.2.2.2.2.2.2.2.2.2.2.2.2.2.2.2.2.2.1 p.2.2.2.2.2.2.2.2.2.2.2.2.2.2.2.2.2.2.2.2.2.2.1 p.2.2.2.2.2.2.2.2.2.2.2.2.2.2.2.2.2.2.2.2.2.2.2 := Classical.byContradiction fun n => Classical.epsilon_spec (p := fun p => ¬ P p.1 p.2.1 p.2.2.1 p.2.2.2.1 p.2.2.2.2.1 p.2.2.2.2.2.1 p.2.2.2.2.2.2.1 p.2.2.2.2.2.2.2.1 p.2.2.2.2.2.2.2.2.1 p.2.2.2.2.2.2.2.2.2.1 p.2.2.2.2.2.2.2.2.2.2.1 p.2.2.2.2.2.2.2.2.2.2.2.1 p.2.2.2.2.2.2.2.2.2.2.2.2.1 p.2.2.2.2.2.2.2.2.2.2.2.2.2.1 p.2.2.2.2.2.2.2.2.2.2.2.2.2.2.1 p.2.2.2.2.2.2.2.2.2.2.2.2.2.2.2.1 p.2.2.2.2.2.2.2.2.2.2.2.2.2.2.2.2.1 p.2.2.2.2.2.2.2.2.2.2.2.2.2.2.2.2.2.1 p.2.2.2.2.2.2.2.2.2.2.2.2.2.2.2.2.2.2.1 p.2.2.2.2.2.2.2.2.2.2.2.2.2.2.2.2.2.2.2.1 p.2.2.2.2.2.2.2.2.2.2.2.2.2.2.2.2.2.2.2.2.1 p.2.2.2.2.2.2.2.2.2.2.2.2.2.2.2.2.2.2.2.2.2.1 p.2.2.2.2.2.2.2.2.2.2.2.2.2.2.2.2.2.2.2.2.2.2.1 p.2.2.2.2.2.2.2.2.2.2.2.2.2.2.2.2.2.2.2.2.2.2.2) ⟨p, n⟩ (by with_unfolding_all exact main)
end c_k0bE
theorem c_k0b {w : World} {loose : List Str} {mean : ExcName → Option Value} {mg mb : Str → Option Value} {gd : Option (List Code)} {A₀ : Around} {base h₀ : Heap} {L : Addr} {xs : List Value} {ns : List Int} {sc : Addr} {n : Nat} {s : Shared} {E : Value → Shared → Prop} {Q : Flow → Shared → Prop} {k : Int} {t1 t : Tok} {oc : Obj} {m : Str → Option Value} {ps : Array Value} {b : Array UInt8} (B : Below A₀ base [] h₀) (X : (K w.params).In h₀) (T : Top vq loose mean mg mb h₀) (F : Fr h₀ L s.heap m) (hm1 : m (Str.ofString "octets") = some (.bytes b t1)) (hm2 : m (Str.ofString "kind") = some (.int k t)) (N : News h₀ L s.heap [(1380, cT ps), (sc, listOf xs.toArray n), (L + 1, oc)]) (hoc : oc.data = .cell (some (.ref sc))) (hL1 : (1380 : Addr) ≠ L + 1) (hL2 : sc ≠ L + 1) (hxs : IntsAre xs ns) (hxl : xs.length = ns.length) (hlen : ns.length ≤ 63) (htr : TriplesOk ps.toList) (hbl : (KBw.bInts b).length ≤ 303) (hb0 : 0 < (KBw.bInts b).length) (hend : Lend h₀ L sc xs n s Q)
    :
    wpAny (model PySem.Challenge.rw_jm0023_01.prog w) (kT 302 7 gd (lawEnv L) []) (execs (body0.drop 3) (lawEnv L)) Q E s := c_k0bE.all (w, loose, mean, mg, mb, gd, A₀, base, h₀, L, xs, ns, sc, n, s, E, Q, k, t1, t, oc, m, ps, b) B X T F hm1 hm2 N hoc hL1 hL2 hxs hxl hlen htr hbl hb0 hend
end
theorem pad22 {prog : PySem.Program} {w : PySem.World} {A : PySem.Around} {E : PySem.Value → PySem.Shared → Prop} {s : PySem.Shared} {env : PySem.Env} {Q : PySem.Flow → PySem.Shared → Prop} (h : Q .next s) : PySem.wpAny (PySem.model prog w) A (PySem.execs [] env) Q E s := by
  walk1
  exact h
section
open PySem PySem.W PySem.Calls PyProof.Rows PySem.Spec
local macro_rules | `(tactic| walk_at "eval BoolOp") => `(tactic| refine Stop.go ?_)
set_option maxHeartbeats 4000000 in
theorem c_k6b {w : World} {loose : List Str} {mean : ExcName → Option Value} {mg mb : Str → Option Value} {gd : Option (List Code)} {A₀ : Around} {base h₀ : Heap} {L : Addr} {xs : List Value} {sc : Addr} {n : Nat} {s : Shared} {E : Value → Shared → Prop} {Q : Flow → Shared → Prop} {t : Tok} {m : Str → Option Value} {b : Array UInt8} {v : Value} {st : Bool} {nb : List (Addr × Obj)} {d : Rlp}
    (B : Below A₀ base [] h₀) (X : (K w.params).In h₀) (T : Top vq loose mean mg mb h₀) (XB : (K w.params).In base) (TB : Top vq loose mean mg mb base) (F : Fr h₀ L s.heap m) (hm1 : m (Str.ofString "octets") = some (.bytes b t)) (hm2 : m (Str.ofString "body") = some v) (hm3 : m (Str.ofString "stands") = some (.bool st))
    (N : News h₀ L s.heap ((1380, cT #[]) :: (sc, listOf xs.toArray n) :: nb)) (hnb : ∀ p ∈ nb, p.1 ≠ 1380 ∧ p.1 ≠ sc) (h1 : sc < h₀.objs.size) (h2 : 1380 < h₀.objs.size) (hne : sc ≠ 1380)
    (hR : RlpIn nb v d) (hdd : dep d ≤ 1000) (hd : rd (KBw.bInts b) = if st then some d else none) (hbl : (KBw.bInts b).length ≤ 304) (hend : Lend h₀ L sc xs n s Q) :
    wpAny (model PySem.Challenge.rw_jm0023_01.prog w) (kT 302 7 gd (lawEnv L) []) (execs (body6.drop 3) (lawEnv L)) Q E s := by
  have hr : recursionLimit = 1000 := rfl
  have hc : cLine = 9900 := rfl
  revert X; k_fill; intro X
  have F2 : Fr h₀ L s.heap (kstB m [(Str.ofString "octets", .bytes b t), (Str.ofString "body", v), (Str.ofString "stands", .bool st)]) := by
    rw [kst_self (by
      intro p hp
      rcases List.mem_cons.mp hp with rfl | hp
      · exact hm1
      · rcases List.mem_cons.mp hp with rfl | hp
        · exact hm2
        · rw [List.mem_singleton.mp hp]; exact hm3)]
    exact F
  clear F
  unfold body6
  show wpAny _ _ (execs (_ :: []) _) _ _ _
  cases st with
  | true =>
    rw [if_pos rfl] at hd
    k_steps
    refine ⟨r_lrlp (n := n) (vs := xs.toArray) (sc := sc) (news := nb) ⟨(by assumption), (by assumption), (by assumption), (by assumption), (by assumption), rfl, rfl⟩ h1 h2 hne hnb (by omega) (by omega) XB TB b hbl _ ?_ (fun hno => absurd (hd.symm.trans hno) (by simp))⟩
    rintro v3 d3 tl3 h3 tk3 ⟨F5, N5, hn5⟩ hR3 hrd3
    obtain rfl : d = d3 := Option.some.inj (hd.symm.trans hrd3)
    k_sweep
    k_steps
    refine ⟨ne_rlp (d := d) (n1 := tl3) (n2 := nb) (fun p hp => (N5 p (.tail _ (.tail _ (List.mem_append_left _ hp)))).1) (fun p hp => (N5 p (.tail _ (.tail _ (List.mem_append_right _ hp)))).1) hR3 hR (show 7 + dep d < cLine from by omega) (by omega) ?_⟩
    refine wpAny_truthy_bool ?_
    rw [if_neg (by decide)]
    k_steps
    rename Fr _ _ _ _ => FE
    exact lend_next hend FE N5 (b := b) (t := t) (by first | rfl | exact if_pos rfl) hbl (by trivial) (.head _) (.tail _ (.head _))
  | false =>
    rw [if_neg (by decide)] at hd
    k_steps
    refine ⟨r_lrlp (n := n) (vs := xs.toArray) (sc := sc) (news := nb) ⟨(by assumption), (by assumption), (by assumption), (by assumption), (by assumption), rfl, rfl⟩ h1 h2 hne hnb (by omega) (by omega) XB TB b hbl _ (fun v3 d3 tl3 h3 tk3 _ _ hrd3 => absurd (hd.symm.trans hrd3) (by simp)) ?_⟩
    intro hno h3 tk3 F5 N5
    k_sweep
    k_steps
    all_goals (rename Fr _ _ _ _ => FE)
    all_goals exact lend_next hend FE N5 (b := b) (t := t) (by first | rfl | exact if_pos rfl) hbl (by trivial) (.head _) (.tail _ (.head _))
end
section
local macro_rules | `(tactic| walk_at "eval BoolOp") => `(tactic| refine Stop.go ?_)
local macro_rules | `(tactic| walk_at "eval IfExp") => `(tactic| refine Stop.go ?_)
theorem pad23 {prog : PySem.Program} {w : PySem.World} {A : PySem.Around} {E : PySem.Value → PySem.Shared → Prop} {s : PySem.Shared} {env : PySem.Env} {Q : PySem.Flow → PySem.Shared → Prop} (h : Q .next s) : PySem.wpAny (PySem.model prog w) A (PySem.execs [] env) Q E s := by
  walk1
  exact h
section
open PySem PySem.W PySem.Calls PyProof.Rows PySem.Spec
namespace c_k2E
noncomputable def P (w : World) (loose : List Str) (mean : ExcName → Option Value) (mg : Str → Option Value) (mb : Str → Option Value) (gd : Option (List Code)) (A₀ : Around) (base : Heap) (h₀ : Heap) (L : Addr) (xs : List Value) (ns : List Int) (sc : Addr) (n : Nat) (s : Shared) (E : Value → Shared → Prop) (Q : Flow → Shared → Prop) (k : Int) (t : Tok) (oc : Obj) : Prop := ∀ (C : Lx w loose mean mg mb A₀ base h₀ L sc xs n ns k t oc s.heap) (hend : Lend h₀ L sc xs n s Q), wpAny (model PySem.Challenge.rw_jm0023_01.prog w) (kT 302 7 gd (lawEnv L) []) (execs body2 (lawEnv L)) Q E s
noncomputable def epsC : World × (List Str) × (ExcName → Option Value) × (Str → Option Value) × (Str → Option Value) × (Option (List Code)) × Around × Heap × Heap × Addr × (List Value) × (List Int) × Addr × Nat × Shared × (Value → Shared → Prop) × (Flow → Shared → Prop) × Int × Tok × Obj := @Classical.epsilon (World × (List Str) × (ExcName → Option Value) × (Str → Option Value) × (Str → Option Value) × (Option (List Code)) × Around × Heap × Heap × Addr × (List Value) × (List Int) × Addr × Nat × Shared × (Value → Shared → Prop) × (Flow → Shared → Prop) × Int × Tok × Obj) ⟨(⟨fun _ _ => 0, { strHash := fun _ => 0, shareClass := fun _ => 0, mergeTok := fun t => t, idOf := fun _ => 0, idOfShared := fun _ _ => 0, followText := fun _ => false, idOfImm := fun _ => 0 }⟩, [], (fun _ => none), (fun _ => none), (fun _ => none), none, {}, {}, {}, (0 : Nat), [], [], (0 : Nat), 0, {}, (fun _ _ => True), (fun _ _ => True), 0, (0 : Nat), default)⟩ fun p => ¬ P p.1 p.2.1 p.2.2.1 p.2.2.2.1 p.2.2.2.2.1 p.2.2.2.2.2.1 p.2.2.2.2.2.2.1 p.2.2.2.2.2.2.2.1 p.2.2.2.2.2.2.2.2.1 p.2.2.2.2.2.2.2.2.2.1 p.2.2.2.2.2.2.2.2.2.2.1 p.2.2.2.2.2.2.2.2.2.2.2.1 p.2.2.2.2.2.2.2.2.2.2.2.2.1 p.2.2.2.2.2.2.2.2.2.2.2.2.2.1 p.2.2.2.2.2.2.2.2.2.2.2.2.2.2.1 p.2.2.2.2.2.2.2.2.2.2.2.2.2.2.2.1 p.2.2.2.2.2.2.2.2.2.2.2.2.2.2.2.2.1 p.2.2.2.2.2.2.2.2.2.2.2.2.2.2.2.2.2.1 p.2.2.2.2.2.2.2.2.2.2.2.2.2.2.2.2.2.2.1 p.2.2.2.2.2.2.2.2.2.2.2.2.2.2.2.2.2.2.2
@[irreducible] noncomputable def w : World := epsC.1
@[irreducible] noncomputable def loose : List Str := epsC.2.1
@[irreducible] noncomputable def mean : ExcName → Option Value := epsC.2.2.1
@[irreducible] noncomputable def mg : Str → Option Value := epsC.2.2.2.1
@[irreducible] noncomputable def mb : Str → Option Value := epsC.2.2.2.2.1
@[irreducible] noncomputable def gd : Option (List Code) := epsC.2.2.2.2.2.1
@[irreducible] noncomputable def A₀ : Around := epsC.2.2.2.2.2.2.1
@[irreducible] noncomputable def base : Heap := epsC.2.2.2.2.2.2.2.1
@[irreducible] noncomputable def h₀ : Heap := epsC.2.2.2.2.2.2.2.2.1
@[irreducible] noncomputable def L : Addr := epsC.2.2.2.2.2.2.2.2.2.1
@[irreducible] noncomputable def xs : List Value := epsC.2.2.2.2.2.2.2.2.2.2.1
@[irreducible] noncomputable def ns : List Int := epsC.2.2.2.2.2.2.2.2.2.2.2.1
@[irreducible] noncomputable def sc : Addr := epsC.2.2.2.2.2.2.2.2.2.2.2.2.1
@[irreducible] noncomputable def n : Nat := epsC.2.2.2.2.2.2.2.2.2.2.2.2.2.1
@[irreducible] noncomputable def s : Shared := epsC.2.2.2.2.2.2.2.2.2.2.2.2.2.2.1
@[irreducible] noncomputable def E : Value → Shared → Prop := epsC.2.2.2.2.2.2.2.2.2.2.2.2.2.2.2.1
@[irreducible] noncomputable def Q : Flow → Shared → Prop := epsC.2.2.2.2.2.2.2.2.2.2.2.2.2.2.2.2.1
@[irreducible] noncomputable def k : Int := epsC.2.2.2.2.2.2.2.2.2.2.2.2.2.2.2.2.2.1
@[irreducible] noncomputable def t : Tok := epsC.2.2.2.2.2.2.2.2.2.2.2.2.2.2.2.2.2.2.1
@[irreducible] noncomputable def oc : Obj := epsC.2.2.2.2.2.2.2.2.2.2.2.2.2.2.2.2.2.2.2
set_option maxHeartbeats 4000000 in
theorem main : P w loose mean mg mb gd A₀ base h₀ L xs ns sc n s E Q k t oc := by
  intro C hend
  obtain ⟨B, X, T, XB, TB, F, N, hoc, h1, h2, hne, hL1, hL2, hxs, hxl, hlen⟩ := C
  have hr : recursionLimit = 1000 := rfl
  have hc : cLine = 9900 := rfl
  revert X; k_fill; intro X
  unfold body2
  show wpAny _ _ (execs (_ :: []) _) _ _ _
  k_steps
  refine ⟨LCg.ListComp_U (F₀ := by k_asm) (by with_unfolding_all rfl) (by decide) (by rfl) (by decide) (by rfl) ?_⟩
  k_steps
  rename IsRange _ _ _ _ _ _ _ _ => hRg
  rename ∀ (b : Addr) (o : Obj), _ → _ => hup
  generalize hz : (if (if (ns.length : Int) - 1 > 1 then (ns.length : Int) - 1 else 1) < 24 then if (ns.length : Int) - 1 > 1 then (ns.length : Int) - 1 else 1 else 24) = z at hRg
  have hz2 : 0 ≤ z ∧ z ≤ 24 := by
    rw [← hz]
    refine ⟨?_, ?_⟩ <;> split <;> (try split) <;> lia
  refine ⟨LCg.CompSrc.range (n := z.toNat) (by rfl) (by assumption) (by assumption) hRg (range_small hz2.1 (by lia)) (by rw [rangeSize_nat]; lia) (Nat.le_trans (by lia : z.toNat ≤ 300) (by rw [sizeLine_eq]; decide)) ?_⟩
  intro g9
  refine compRest_keep (fun i ys => ∃ ms, IntsAre ys ms ∧ ms.length = i ∧ ∀ y ∈ ms, 0 ≤ y ∧ y < 256) ?_ trivial ⟨[], .nil, rfl, by simp⟩ ?_
  · rintro i ys v I oI C oC D m₂ h tk E' hi ⟨ms, hms, hml, hmr⟩ ⟨tj, rfl⟩ hC hx F9 N9 off ne
    clear hup hRg
    have hii : (i : Int) < 24 := by lia
    k_steps
    refine ⟨c_at (dp := 302) (un := 7) (outer := []) ⟨(by assumption), F9, (by assumption), N9, (by assumption), rfl, rfl⟩ (by lia) (by lia) sc xs n (by k_mem) ns hxs hxl hlen _ _ (by lia) (by lia) ?_⟩
    clear F9 N9
    intro t9 h9 tk9 F9 N9
    k_sweep
    k_steps
    rename IntsAre _ ms => hms
    exact ⟨_, _, rfl, by assumption, by assumption, ms ++ [_], IntsAre.append hms (.cons _ _ .nil), by simp [hml], by
        intro y hy
        rcases List.mem_append.mp hy with hy | hy
        · exact hmr y hy
        · rw [List.mem_singleton.mp hy]; exact (fmod_in _).2⟩
  · rintro ys ⟨ms, hms, hml, hmr⟩
    clear hup hRg
    unfold LCg.FinE
    intro D h9 tk9 F9 N9 o9
    k_steps
    rename Fr _ _ _ _ => FE
    rename News _ _ _ _ => NE
    refine hend (byteArr ms) ?tt _ _ _ #[] _ (by rw [KBa.ints_make hmr]; lia) trivial ?mm FE (kst_newsOf NE fun z hz => ?_) (GK.refl _)
    case mm => exact if_pos rfl
    rcases List.mem_cons.mp hz with rfl | hz
    · k_mem
    · rw [List.mem_singleton.mp hz]; k_mem
theorem all (p : World × (List Str) × (ExcName → Option Value) × (Str → Option Value) × (Str → Option Value) × (Option (List Code)) × Around × Heap × Heap × Addr × (List Value) × (List Int) × Addr × Nat × Shared × (Value → Shared → Prop) × (Flow → Shared → Prop) × Int × Tok × Obj) : P p.1 p.2.1 p.2.2.1 p.2.2.2.1 p.2.2.2.2.1 p.2.2.2.2.2.1 p.2.2.2.2.2.2.1 p.2.2.2.2.2.2.2.1 p.2.2.2.2.2.2.2.2.1 p.2.2.2.2.2.2.2.2.2.1 p.2.2.2.2.2.2.2.2.2.2.1 p.2.2.2.2.2.2.2.2.2.2.2.1 p.2.2.2.2.2.2.2.2.2.2.2.2.1 p.2.2.2.2.2.2.2.2.2.2.2.2.2.1 p.2.2.2.2.2.2.2.2.2.2.2.2.2.2.1 p.2.2.2.2.2.2.2.2.2.2.2.2.2.2.2.1 p.2.2.2.2.2.2.2.2.2.2.2.2.2.2.2.2.1 p.2.2.2.2.2.2.2.2.2.2.2.2.2.2.2.2.2.1 p.2.2.2.2.2.2.2.2.2.2.2.2.2.2.2.2.2.2.1 p.2.2.2.2.2.2.2.2.2.2.2.2.2.2.2.2.2.2.2 := Classical.byContradiction fun n => Classical.epsilon_spec (p := fun p => ¬ P p.1 p.2.1 p.2.2.1 p.2.2.2.1 p.2.2.2.2.1 p.2.2.2.2.2.1 p.2.2.2.2.2.2.1 p.2.2.2.2.2.2.2.1 p.2.2.2.2.2.2.2.2.1 p.2.2.2.2.2.2.2.2.2.1 p.2.2.2.2.2.2.2.2.2.2.1 p.2.2.2.2.2.2.2.2.2.2.2.1 p.2.2.2.2.2.2.2.2.2.2.2.2.1 p.2.2.2.2.2.2.2.2.2.2.2.2.2.1 p.2.2.2.2.2.2.2.2.2.2.2.2.2.2.1 p.2.2.2.2.2.2.2.2.2.2.2.2.2.2.2.1 p.2.2.2.2.2.2.2.2.2.2.2.2.2.2.2.2.1 p.2.2.2.2.2.2.2.2.2.2.2.2.2.2.2.2.2.1 p.2.2.2.2.2.2.2.2.2.2.2.2.2.2.2.2.2.2.1 p.2.2.2.2.2.2.2.2.2.2.2.2.2.2.2.2.2.2.2) ⟨p, n⟩ (by with_unfolding_all exact main)
end c_k2E
theorem c_k2 {w : World} {loose : List Str} {mean : ExcName → Option Value} {mg mb : Str → Option Value} {gd : Option (List Code)} {A₀ : Around} {base h₀ : Heap} {L : Addr} {xs : List Value} {ns : List Int} {sc : Addr} {n : Nat} {s : Shared} {E : Value → Shared → Prop} {Q : Flow → Shared → Prop} {k : Int} {t : Tok} {oc : Obj} (C : Lx w loose mean mg mb A₀ base h₀ L sc xs n ns k t oc s.heap) (hend : Lend h₀ L sc xs n s Q)
    :
    wpAny (model PySem.Challenge.rw_jm0023_01.prog w) (kT 302 7 gd (lawEnv L) []) (execs body2 (lawEnv L)) Q E s := c_k2E.all (w, loose, mean, mg, mb, gd, A₀, base, h₀, L, xs, ns, sc, n, s, E, Q, k, t, oc) C hend
end
theorem pad24 {prog : PySem.Program} {w : PySem.World} {A : PySem.Around} {E : PySem.Value → PySem.Shared → Prop} {s : PySem.Shared} {env : PySem.Env} {Q : PySem.Flow → PySem.Shared → Prop} (h : Q .next s) : PySem.wpAny (PySem.model prog w) A (PySem.execs [] env) Q E s := by
  walk1
  exact h
section
open PySem PySem.W PySem.Calls PyProof.Rows PySem.Spec
local macro_rules | `(tactic| walk_at "execs cons") => `(tactic| with_reducible refine Stop.xa ?_)
namespace c_k0E
noncomputable def P (w : World) (loose : List Str) (mean : ExcName → Option Value) (mg : Str → Option Value) (mb : Str → Option Value) (gd : Option (List Code)) (A₀ : Around) (base : Heap) (h₀ : Heap) (L : Addr) (xs : List Value) (ns : List Int) (sc : Addr) (n : Nat) (s : Shared) (E : Value → Shared → Prop) (Q : Flow → Shared → Prop) (k : Int) (t : Tok) (oc : Obj) : Prop := ∀ (C : Lx w loose mean mg mb A₀ base h₀ L sc xs n ns k t oc s.heap) (hend : Lend h₀ L sc xs n s Q), wpAny (model PySem.Challenge.rw_jm0023_01.prog w) (kT 302 7 gd (lawEnv L) []) (execs body0 (lawEnv L)) Q E s
noncomputable def epsC : World × (List Str) × (ExcName → Option Value) × (Str → Option Value) × (Str → Option Value) × (Option (List Code)) × Around × Heap × Heap × Addr × (List Value) × (List Int) × Addr × Nat × Shared × (Value → Shared → Prop) × (Flow → Shared → Prop) × Int × Tok × Obj := @Classical.epsilon (World × (List Str) × (ExcName → Option Value) × (Str → Option Value) × (Str → Option Value) × (Option (List Code)) × Around × Heap × Heap × Addr × (List Value) × (List Int) × Addr × Nat × Shared × (Value → Shared → Prop) × (Flow → Shared → Prop) × Int × Tok × Obj) ⟨(⟨fun _ _ => 0, { strHash := fun _ => 0, shareClass := fun _ => 0, mergeTok := fun t => t, idOf := fun _ => 0, idOfShared := fun _ _ => 0, followText := fun _ => false, idOfImm := fun _ => 0 }⟩, [], (fun _ => none), (fun _ => none), (fun _ => none), none, {}, {}, {}, (0 : Nat), [], [], (0 : Nat), 0, {}, (fun _ _ => True), (fun _ _ => True), 0, (0 : Nat), default)⟩ fun p => ¬ P p.1 p.2.1 p.2.2.1 p.2.2.2.1 p.2.2.2.2.1 p.2.2.2.2.2.1 p.2.2.2.2.2.2.1 p.2.2.2.2.2.2.2.1 p.2.2.2.2.2.2.2.2.1 p.2.2.2.2.2.2.2.2.2.1 p.2.2.2.2.2.2.2.2.2.2.1 p.2.2.2.2.2.2.2.2.2.2.2.1 p.2.2.2.2.2.2.2.2.2.2.2.2.1 p.2.2.2.2.2.2.2.2.2.2.2.2.2.1 p.2.2.2.2.2.2.2.2.2.2.2.2.2.2.1 p.2.2.2.2.2.2.2.2.2.2.2.2.2.2.2.1 p.2.2.2.2.2.2.2.2.2.2.2.2.2.2.2.2.1 p.2.2.2.2.2.2.2.2.2.2.2.2.2.2.2.2.2.1 p.2.2.2.2.2.2.2.2.2.2.2.2.2.2.2.2.2.2.1 p.2.2.2.2.2.2.2.2.2.2.2.2.2.2.2.2.2.2.2
@[irreducible] noncomputable def w : World := epsC.1
@[irreducible] noncomputable def loose : List Str := epsC.2.1
@[irreducible] noncomputable def mean : ExcName → Option Value := epsC.2.2.1
@[irreducible] noncomputable def mg : Str → Option Value := epsC.2.2.2.1
@[irreducible] noncomputable def mb : Str → Option Value := epsC.2.2.2.2.1
@[irreducible] noncomputable def gd : Option (List Code) := epsC.2.2.2.2.2.1
@[irreducible] noncomputable def A₀ : Around := epsC.2.2.2.2.2.2.1
@[irreducible] noncomputable def base : Heap := epsC.2.2.2.2.2.2.2.1
@[irreducible] noncomputable def h₀ : Heap := epsC.2.2.2.2.2.2.2.2.1
@[irreducible] noncomputable def L : Addr := epsC.2.2.2.2.2.2.2.2.2.1
@[irreducible] noncomputable def xs : List Value := epsC.2.2.2.2.2.2.2.2.2.2.1
@[irreducible] noncomputable def ns : List Int := epsC.2.2.2.2.2.2.2.2.2.2.2.1
@[irreducible] noncomputable def sc : Addr := epsC.2.2.2.2.2.2.2.2.2.2.2.2.1
@[irreducible] noncomputable def n : Nat := epsC.2.2.2.2.2.2.2.2.2.2.2.2.2.1
@[irreducible] noncomputable def s : Shared := epsC.2.2.2.2.2.2.2.2.2.2.2.2.2.2.1
@[irreducible] noncomputable def E : Value → Shared → Prop := epsC.2.2.2.2.2.2.2.2.2.2.2.2.2.2.2.1
@[irreducible] noncomputable def Q : Flow → Shared → Prop := epsC.2.2.2.2.2.2.2.2.2.2.2.2.2.2.2.2.1
@[irreducible] noncomputable def k : Int := epsC.2.2.2.2.2.2.2.2.2.2.2.2.2.2.2.2.2.1
@[irreducible] noncomputable def t : Tok := epsC.2.2.2.2.2.2.2.2.2.2.2.2.2.2.2.2.2.2.1
@[irreducible] noncomputable def oc : Obj := epsC.2.2.2.2.2.2.2.2.2.2.2.2.2.2.2.2.2.2.2
set_option maxHeartbeats 4000000 in
theorem main : P w loose mean mg mb gd A₀ base h₀ L xs ns sc n s E Q k t oc := by
  intro C hend
  obtain ⟨B, X, T, XB, TB, F, N, hoc, h1, h2, hne, hL1, hL2, hxs, hxl, hlen⟩ := C
  have hr : recursionLimit = 1000 := rfl
  have hc : cLine = 9900 := rfl
  revert X; k_fill; intro X
  unfold body0
  show wpAny _ _ (execs (_ :: _ :: _ :: _ :: _ :: _ :: _ :: _ :: []) _) _ _ _
  k_steps
  refine ⟨item2_all (dp := 302) (un := 7) (outer := []) ⟨(by assumption), (by assumption), (by assumption), (by assumption), (by assumption), rfl, rfl⟩ (by lia) (by lia) sc xs n (by k_mem) ns hxs hxl hlen 4 _ _ (by lia) (by lia) ?_⟩
  rintro v d tl h' tk' ⟨F3, N3, hne3⟩ hR hdd hed
  have hed' : (enc d).length ≤ 303 := hed
  clear F N
  k_sweep
  k_steps
  have hnt : ∀ p ∈ tl, p.1 ≠ 1380 ∧ p.1 ≠ sc := fun p hp => ⟨(hne3 _ (.tail _ (.head _)) p hp).symm, (hne3 _ (.tail _ (.tail _ (.head _))) p hp).symm⟩
  have hnp : ∀ p ∈ (L + 1, oc) :: (sc, listOf xs.toArray n) :: tl, p.1 ≠ 1380 := fun p hp => by
    rcases List.mem_cons.mp hp with rfl | hp
    · exact hL1.symm
    · rcases List.mem_cons.mp hp with rfl | hp
      · exact hne
      · exact (hnt p hp).1
  rename News _ _ _ _ => NA
  have NB := kst_newsOf (l' := (1380, cT #[]) :: (L + 1, oc) :: (sc, listOf xs.toArray n) :: tl) NA (by
    intro z hz
    simp only [List.mem_cons, List.mem_append] at hz ⊢
    rcases hz with h | h | h | h <;> simp only [h, true_or, or_true])
  clear NA
  refine ⟨encC_all 3 ⟨(by assumption), (by assumption), (by assumption), NB, (by assumption), rfl, rfl⟩ (by trivial) hnp (by lia) (by lia) _ _ (RlpIn.mono (fun z hz => .tail _ (.tail _ hz)) hR) (by lia) (by lia) ?_⟩
  intro b t1 h1' tk1 gs1 ps1 hcd htr1 hsm1 FC NC hG1
  k_sweep
  k_steps
  have hrd : rd (KBw.bInts b) = some d := by rw [hcd]; exact rd_of_enc d (by lia)
  have hbl : (KBw.bInts b).length ≤ 303 := by rw [hcd]; exact hed'
  have hb0 : 0 < (KBw.bInts b).length := by rw [hcd]; exact enc_pos d
  refine ⟨encN_all 3 ⟨(by assumption), (by assumption), (by assumption), (by assumption), (by assumption), rfl, rfl⟩ (by lia) (by lia) _ _ (RlpIn.mono (fun z hz => .tail _ (.tail _ (.tail _ hz))) hR) (by lia) (by lia) ?_⟩
  intro b2 t2 h2' tk2 hcd2 FD ND
  obtain rfl : b2 = b := bInts_inj (hcd2.trans hcd.symm)
  refine ne_rlp (n1 := []) (n2 := []) (d := .str (KBw.bInts b2)) (fun _ q => nomatch q) (fun _ q => nomatch q) (.str rfl) (.str rfl) (show 7 + dep _ < cLine from by rw [dep]; lia) (by lia) ?_
  refine wpAny_truthy_bool ?_
  rw [if_neg (by decide)]
  k_sweep
  k_steps
  rename News _ _ _ _ => NA
  have NB := kst_newsOf (l' := (1380, cT ps1) :: (sc, listOf xs.toArray n) :: (L + 1, oc) :: tl) NA (by
    intro z hz
    simp only [List.mem_cons] at hz ⊢
    rcases hz with h | h | h | h <;> simp only [h, true_or, or_true])
  clear NA
  have hnw : ∀ p ∈ (L + 1, oc) :: tl, p.1 ≠ 1380 ∧ p.1 ≠ sc := fun p hp => by
    rcases List.mem_cons.mp hp with rfl | hp
    · exact ⟨hL1.symm, hL2.symm⟩
    · exact hnt p hp
  refine ⟨r_lrlp (n := n) (vs := xs.toArray) (sc := sc) (news := (L + 1, oc) :: tl) ⟨(by assumption), (by assumption), (by assumption), NB, (by assumption), rfl, rfl⟩ h1 h2 hne hnw (by lia) (by lia) XB TB b2 (by lia) _ ?_ (fun hno => absurd (hrd.symm.trans hno) (by simp))⟩
  rintro v3 d3 tl3 h3 tk3 ⟨F5, N5, hn5⟩ hR3 hrd3
  obtain rfl : d = d3 := Option.some.inj (hrd.symm.trans hrd3)
  k_sweep
  k_steps
  refine ⟨ne_rlp (d := d) (n1 := tl3) (n2 := tl) (fun p hp => (N5 p (.tail _ (.tail _ (List.mem_append_left _ hp)))).1) (fun p hp => (N5 p (.tail _ (.tail _ (List.mem_append_right _ (.tail _ hp))))).1) hR3 hR (show 7 + dep d < cLine from by lia) (by lia) ?_⟩
  refine wpAny_truthy_bool ?_
  rw [if_neg (by decide)]
  have N6 := kst_newsOf (l' := (1380, cT ps1) :: (sc, listOf xs.toArray n) :: (L + 1, oc) :: tl) N5 (by
    intro z hz
    simp only [List.mem_cons, List.mem_append] at hz ⊢
    rcases hz with h | h | h | h <;> simp only [h, true_or, or_true])
  clear N5
  k_sweep
  k_steps
  refine ⟨r_lnode (n := n) (vs := xs.toArray) (sc := sc) (news := (L + 1, oc) :: tl) ⟨(by assumption), (by assumption), (by assumption), (by assumption), (by assumption), rfl, rfl⟩ h1 h2 hne hnw (by lia) (by lia) XB TB b2 (by lia) _ ?_ (fun hno => absurd (hrd.symm.trans hno) (by simp))⟩
  clear hrd3 hR3 hn5
  rintro v4 d4 tl4 h4 tk4 ⟨F5, N5, hn5⟩ hR4 hrd4
  obtain rfl : d = d4 := Option.some.inj (hrd.symm.trans hrd4)
  k_sweep
  k_steps
  refine ⟨ne_rlp (d := d) (n1 := tl4) (n2 := tl) (fun p hp => (N5 p (.tail _ (.tail _ (List.mem_append_left _ hp)))).1) (fun p hp => (N5 p (.tail _ (.tail _ (List.mem_append_right _ (.tail _ hp))))).1) hR4 hR (show 7 + dep d < cLine from by lia) (by lia) ?_⟩
  refine wpAny_truthy_bool ?_
  rw [if_neg (by decide)]
  have N6 := kst_newsOf (l' := (1380, cT ps1) :: (sc, listOf xs.toArray n) :: (L + 1, oc) :: []) N5 (by
    intro z hz
    simp only [List.mem_cons, List.mem_append] at hz ⊢
    rcases hz with h | h | h | h <;> first | (simp only [h, true_or, or_true]) | exact nomatch h)
  clear N5 hR hR4 hrd4 hn5 hnt hnp hnw hrd hcd hcd2 hdd hed hed' hne3
  k_sweep
  k_steps
  rename Fr _ _ _ _ => FE
  refine ⟨c_k0b (ns := ns) B X T FE (by exact if_pos rfl) (by rfl) (by assumption) hoc hL1 hL2 hxs hxl hlen htr1 hbl hb0 ?_⟩
  intro b' t' h' tk' gs' ps' m' e1 e2 e3 e4 e5 e6
  exact hend b' t' h' tk' gs' ps' m' e1 e2 e3 e4 e5 (hG1.trans e6)
theorem all (p : World × (List Str) × (ExcName → Option Value) × (Str → Option Value) × (Str → Option Value) × (Option (List Code)) × Around × Heap × Heap × Addr × (List Value) × (List Int) × Addr × Nat × Shared × (Value → Shared → Prop) × (Flow → Shared → Prop) × Int × Tok × Obj) : P p.1 p.2.1 p.2.2.1 p.2.2.2.1 p.2.2.2.2.1 p.2.2.2.2.2.1 p.2.2.2.2.2.2.1 p.2.2.2.2.2.2.2.1 p.2.2.2.2.2.2.2.2.1 p.2.2.2.2.2.2.2.2.2.1 p.2.2.2.2.2.2.2.2.2.2.1 p.2.2.2.2.2.2.2.2.2.2.2.1 p.2.2.2.2.2.2.2.2.2.2.2.2.1 p.2.2.2.2.2.2.2.2.2.2.2.2.2.1 p.2.2.2.2.2.2.2.2.2.2.2.2.2.2.1 p.2.2.2.2.2.2.2.2.2.2.2.2.2.2.2.1 p.2.2.2.2.2.2.2.2.2.2.2.2.2.2.2.2.1 p.2.2.2.2.2.2.2.2.2.2.2.2.2.2.2.2.2.1 p.2.2.2.2.2.2.2.2.2.2.2.2.2.2.2.2.2.2.1 p.2.2.2.2.2.2.2.2.2.2.2.2.2.2.2.2.2.2.2 := Classical.byContradiction fun n => Classical.epsilon_spec (p := fun p => ¬ P p.1 p.2.1 p.2.2.1 p.2.2.2.1 p.2.2.2.2.1 p.2.2.2.2.2.1 p.2.2.2.2.2.2.1 p.2.2.2.2.2.2.2.1 p.2.2.2.2.2.2.2.2.1 p.2.2.2.2.2.2.2.2.2.1 p.2.2.2.2.2.2.2.2.2.2.1 p.2.2.2.2.2.2.2.2.2.2.2.1 p.2.2.2.2.2.2.2.2.2.2.2.2.1 p.2.2.2.2.2.2.2.2.2.2.2.2.2.1 p.2.2.2.2.2.2.2.2.2.2.2.2.2.2.1 p.2.2.2.2.2.2.2.2.2.2.2.2.2.2.2.1 p.2.2.2.2.2.2.2.2.2.2.2.2.2.2.2.2.1 p.2.2.2.2.2.2.2.2.2.2.2.2.2.2.2.2.2.1 p.2.2.2.2.2.2.2.2.2.2.2.2.2.2.2.2.2.2.1 p.2.2.2.2.2.2.2.2.2.2.2.2.2.2.2.2.2.2.2) ⟨p, n⟩ (by with_unfolding_all exact main)
end c_k0E
theorem c_k0 {w : World} {loose : List Str} {mean : ExcName → Option Value} {mg mb : Str → Option Value} {gd : Option (List Code)} {A₀ : Around} {base h₀ : Heap} {L : Addr} {xs : List Value} {ns : List Int} {sc : Addr} {n : Nat} {s : Shared} {E : Value → Shared → Prop} {Q : Flow → Shared → Prop} {k : Int} {t : Tok} {oc : Obj} (C : Lx w loose mean mg mb A₀ base h₀ L sc xs n ns k t oc s.heap) (hend : Lend h₀ L sc xs n s Q)
    :
    wpAny (model PySem.Challenge.rw_jm0023_01.prog w) (kT 302 7 gd (lawEnv L) []) (execs body0 (lawEnv L)) Q E s := c_k0E.all (w, loose, mean, mg, mb, gd, A₀, base, h₀, L, xs, ns, sc, n, s, E, Q, k, t, oc) C hend
end
theorem pad25 {prog : PySem.Program} {w : PySem.World} {A : PySem.Around} {E : PySem.Value → PySem.Shared → Prop} {s : PySem.Shared} {env : PySem.Env} {Q : PySem.Flow → PySem.Shared → Prop} (h : Q .next s) : PySem.wpAny (PySem.model prog w) A (PySem.execs [] env) Q E s := by
  walk1
  exact h
section
open PySem PySem.W PySem.Calls PyProof.Rows PySem.Spec
local macro_rules | `(tactic| walk_at "subscriptTail") => `(tactic| with_reducible refine Stop.r ?_)
local macro_rules | `(tactic| walk_at "execs cons") => `(tactic| with_reducible refine Stop.xi ?_)
local macro_rules | `(tactic| walk_at "exec Assign cons ListComp") => `(tactic| refine Stop.go ?_)
theorem oct_len {a b h : Nat} {w : Bool} (ha : a < 4) {ks : List Int} (e : ks = octH a b w h) : ks.length ≤ 260 ∧ 1 ≤ ks.length := by
  have : ks.length = 1 + (lenH b).length + sizeH a := by rw [e]; simp [octH, bodyH]; lia
  have h1 := lenH_le b
  have h2 : sizeH a ≤ 256 := (by decide : ∀ a < 4, sizeH a ≤ 256) a ha
  lia
theorem oct_cut {a b h : Nat} {w : Bool} (ha : a < 4) {ks : List Int} (e : ks = octH a b w h) :
    (ks.drop (clipAt ks.length (0 - ([55, 56, 60, 256] : List Int).getD a 0))).take (ks.length - clipAt ks.length (0 - ([55, 56, 60, 256] : List Int).getD a 0)) = bodyH a := by
  have hl : ks.length = 1 + (lenH b).length + sizeH a := by rw [e]; simp [octH, bodyH]; lia
  have h2 : 1 ≤ sizeH a := (by decide : ∀ a < 4, 1 ≤ sizeH a) a ha
  rw [size_eq ha, Int.zero_sub, clipAt_neg _ _ h2, show ks.length - sizeH a = 1 + (lenH b).length by lia, show ks.length - (1 + (lenH b).length) = sizeH a by lia]
  have : ks.drop (1 + (lenH b).length) = bodyH a := by
    rw [e, octH]
    exact List.drop_left' (by simp; lia)
  rw [this]
  exact List.take_of_length_le (by simp [bodyH])
theorem h2' (x : Int) : (x.fmod 2).toNat < 2 := h2 x
theorem body_len (a : Nat) : (bodyH a).length = sizeH a := by simp [bodyH]
theorem sizeH_le {a : Nat} (ha : a < 4) : sizeH a ≤ 256 := (by decide : ∀ a < 4, sizeH a ≤ 256) a ha
theorem ones_snoc : ∀ (l : List Int) (k : Int), (ones l).snoc (.str [k]) = ones (l ++ [k])
  | [], k => rfl
  | x :: r, k => by rw [ones, Rlps.snoc, ones_snoc r k]; rfl
theorem deps_ones : ∀ (l : List Int), deps (ones l) ≤ 0
  | [] => by rw [ones, deps]; lia
  | x :: r => by
    have := deps_ones r
    rw [ones, deps, dep]; lia
theorem take_snoc {l : List Int} {i : Nat} {x : Int} (h : l[i]? = some x) : l.take (i + 1) = l.take i ++ [x] := by
  obtain ⟨hi, rfl⟩ := List.getElem?_eq_some_iff.mp h
  exact List.take_succ_eq_append_getElem hi
namespace c_k6E
noncomputable def P (w : World) (loose : List Str) (mean : ExcName → Option Value) (mg : Str → Option Value) (mb : Str → Option Value) (gd : Option (List Code)) (A₀ : Around) (base : Heap) (h₀ : Heap) (L : Addr) (xs : List Value) (ns : List Int) (sc : Addr) (n : Nat) (s : Shared) (E : Value → Shared → Prop) (Q : Flow → Shared → Prop) (k : Int) (t : Tok) (oc : Obj) : Prop := ∀ (C : Lx w loose mean mg mb A₀ base h₀ L sc xs n ns k t oc s.heap) (hend : Lend h₀ L sc xs n s Q), wpAny (model PySem.Challenge.rw_jm0023_01.prog w) (kT 302 7 gd (lawEnv L) []) (execs body6 (lawEnv L)) Q E s
noncomputable def epsC : World × (List Str) × (ExcName → Option Value) × (Str → Option Value) × (Str → Option Value) × (Option (List Code)) × Around × Heap × Heap × Addr × (List Value) × (List Int) × Addr × Nat × Shared × (Value → Shared → Prop) × (Flow → Shared → Prop) × Int × Tok × Obj := @Classical.epsilon (World × (List Str) × (ExcName → Option Value) × (Str → Option Value) × (Str → Option Value) × (Option (List Code)) × Around × Heap × Heap × Addr × (List Value) × (List Int) × Addr × Nat × Shared × (Value → Shared → Prop) × (Flow → Shared → Prop) × Int × Tok × Obj) ⟨(⟨fun _ _ => 0, { strHash := fun _ => 0, shareClass := fun _ => 0, mergeTok := fun t => t, idOf := fun _ => 0, idOfShared := fun _ _ => 0, followText := fun _ => false, idOfImm := fun _ => 0 }⟩, [], (fun _ => none), (fun _ => none), (fun _ => none), none, {}, {}, {}, (0 : Nat), [], [], (0 : Nat), 0, {}, (fun _ _ => True), (fun _ _ => True), 0, (0 : Nat), default)⟩ fun p => ¬ P p.1 p.2.1 p.2.2.1 p.2.2.2.1 p.2.2.2.2.1 p.2.2.2.2.2.1 p.2.2.2.2.2.2.1 p.2.2.2.2.2.2.2.1 p.2.2.2.2.2.2.2.2.1 p.2.2.2.2.2.2.2.2.2.1 p.2.2.2.2.2.2.2.2.2.2.1 p.2.2.2.2.2.2.2.2.2.2.2.1 p.2.2.2.2.2.2.2.2.2.2.2.2.1 p.2.2.2.2.2.2.2.2.2.2.2.2.2.1 p.2.2.2.2.2.2.2.2.2.2.2.2.2.2.1 p.2.2.2.2.2.2.2.2.2.2.2.2.2.2.2.1 p.2.2.2.2.2.2.2.2.2.2.2.2.2.2.2.2.1 p.2.2.2.2.2.2.2.2.2.2.2.2.2.2.2.2.2.1 p.2.2.2.2.2.2.2.2.2.2.2.2.2.2.2.2.2.2.1 p.2.2.2.2.2.2.2.2.2.2.2.2.2.2.2.2.2.2.2
@[irreducible] noncomputable def w : World := epsC.1
@[irreducible] noncomputable def loose : List Str := epsC.2.1
@[irreducible] noncomputable def mean : ExcName → Option Value := epsC.2.2.1
@[irreducible] noncomputable def mg : Str → Option Value := epsC.2.2.2.1
@[irreducible] noncomputable def mb : Str → Option Value := epsC.2.2.2.2.1
@[irreducible] noncomputable def gd : Option (List Code) := epsC.2.2.2.2.2.1
@[irreducible] noncomputable def A₀ : Around := epsC.2.2.2.2.2.2.1
@[irreducible] noncomputable def base : Heap := epsC.2.2.2.2.2.2.2.1
@[irreducible] noncomputable def h₀ : Heap := epsC.2.2.2.2.2.2.2.2.1
@[irreducible] noncomputable def L : Addr := epsC.2.2.2.2.2.2.2.2.2.1
@[irreducible] noncomputable def xs : List Value := epsC.2.2.2.2.2.2.2.2.2.2.1
@[irreducible] noncomputable def ns : List Int := epsC.2.2.2.2.2.2.2.2.2.2.2.1
@[irreducible] noncomputable def sc : Addr := epsC.2.2.2.2.2.2.2.2.2.2.2.2.1
@[irreducible] noncomputable def n : Nat := epsC.2.2.2.2.2.2.2.2.2.2.2.2.2.1
@[irreducible] noncomputable def s : Shared := epsC.2.2.2.2.2.2.2.2.2.2.2.2.2.2.1
@[irreducible] noncomputable def E : Value → Shared → Prop := epsC.2.2.2.2.2.2.2.2.2.2.2.2.2.2.2.1
@[irreducible] noncomputable def Q : Flow → Shared → Prop := epsC.2.2.2.2.2.2.2.2.2.2.2.2.2.2.2.2.1
@[irreducible] noncomputable def k : Int := epsC.2.2.2.2.2.2.2.2.2.2.2.2.2.2.2.2.2.1
@[irreducible] noncomputable def t : Tok := epsC.2.2.2.2.2.2.2.2.2.2.2.2.2.2.2.2.2.2.1
@[irreducible] noncomputable def oc : Obj := epsC.2.2.2.2.2.2.2.2.2.2.2.2.2.2.2.2.2.2.2
set_option maxHeartbeats 4000000 in
theorem main : P w loose mean mg mb gd A₀ base h₀ L xs ns sc n s E Q k t oc := by
  intro C hend
  obtain ⟨B, X, T, XB, TB, F, N, hoc, h1, h2, hne, hL1, hL2, hxs, hxl, hlen⟩ := C
  have hr : recursionLimit = 1000 := rfl
  have hc : cLine = 9900 := rfl
  revert X; k_fill; intro X
  unfold body6
  show wpAny _ _ (execs (_ :: _ :: _ :: _ :: []) _) _ _ _
  k_steps
  refine ⟨c_headedE (dp := 302) (un := 7) (outer := []) ⟨(by assumption), (by assumption), (by assumption), (by assumption), (by assumption), rfl, rfl⟩ (by lia) (by lia) sc xs n (by k_mem) ns hxs hxl hlen ?_⟩
  intro D b t n0 h' tk' hb F3 N3
  clear F N
  obtain ⟨ks, hks⟩ : ∃ ks, ks = octH ((atL ns 1).fmod 4).toNat ((atL ns 2).fmod 7).toNat (decide (0 < (atL ns 3).fmod 5)) ((atL ns 3).fmod 2).toNat := ⟨_, rfl⟩
  obtain ⟨st, hst⟩ : ∃ st, st = standsH ((atL ns 1).fmod 4).toNat ((atL ns 2).fmod 7).toNat (decide (0 < (atL ns 3).fmod 5)) ((atL ns 3).fmod 2).toNat := ⟨_, rfl⟩
  rw [← hks] at hb
  rw [← hst] at N3
  obtain ⟨hkl, hk0⟩ := oct_len (a4 (atL ns 1)) hks
  k_sweep
  k_steps
  have h4 : 0 ≤ (atL ns 1).fmod 4 ∧ (atL ns 1).fmod 4 < 4 := fmod4 _
  refine ⟨c_at (dp := 302) (un := 7) (outer := []) ⟨(by assumption), (by assumption), (by assumption), (by assumption), (by assumption), rfl, rfl⟩ (by lia) (by lia) sc xs n (by k_mem) ns hxs hxl hlen _ _ (by lia) (by lia) ?_⟩
  intro t9 h9 tk9 F9 N9
  k_sweep
  k_steps
  k_dflt (refine ⟨item_list_intsT (ns := [55, 56, 60, 256]) (News.isList (by k_asm) (by k_mem)) (by repeat constructor) h4.1 (by simp; lia) (by lia) ?_⟩)
  intro tA
  k_sweep
  k_steps
  · rename KBw.bInts _ = _ => hbd
    rw [oct_cut (a4 _) hks] at hbd
    refine ⟨assign_comp_bytes (by k_asm) rfl rfl (by with_unfolding_all rfl) (by with_unfolding_all rfl) (by decide) (by rfl) (by decide) (by rfl) (by rfl) (by rfl) ?_⟩
    k_steps
    rename Fr _ _ _ _ => FE
    rename News _ _ _ _ => NE
    have NE2 := kst_newsOf (l' := (L + 1, oc) :: (1380, cT #[]) :: (sc, listOf xs.toArray n) :: []) NE (by
      intro z hz
      repeat (first | exact hz | apply List.mem_cons_of_mem))
    clear NE
    refine ⟨_, _, _, rfl, FE, NE2, ?_, fun g => ?_⟩
    · rw [← KBw.ints_length, hbd, body_len]
      exact Nat.le_trans (sizeH_le (a4 _)) (by rw [sizeLine_eq]; decide)
    · refine compRest_keep (fun i ys => RlpsIn [] ys (ones ((bodyH ((atL ns 1).fmod 4).toNat).take i))) ?_ trivial .nil ?_
      · rintro i ys v I oI C oC D' m₂ h tk E' hi hG ⟨c, u, hcu, rfl⟩ hC hx F8 N8 off ne
        have hc0 : 0 ≤ ((c.toNat : Nat) : Int) ∧ ((c.toNat : Nat) : Int) < 256 := by have := c.toNat_lt; lia
        k_steps
        rename Fr _ _ _ _ => FA
        rename News _ _ _ _ => NA
        refine (show KeepE _ _ _ _ _ _ _ _ from ⟨_, _, rfl, FA, kst_newsOf NA (fun z hz => by repeat (first | exact hz | apply List.mem_cons_of_mem)), ?_⟩)
        rw [take_snoc (x := ((c.toNat : Nat) : Int)) (by rw [← hbd]; exact KBw.ints_get hcu), ← ones_snoc]
        exact RlpsIn.snoc hG (.str (bytes1 hc0.1 hc0.2))
      · intro ys hG
        unfold LCg.FinA
        intro D' h8 tk8 F8 N8 o8
        have hhd : 191 < headH ((atL ns 2).fmod 7).toNat (decide (0 < (atL ns 3).fmod 5)) ((atL ns 3).fmod 2).toNat := by
          have : 191 < ks.getD 0 0 := by assumption
          rw [hks] at this; exact this
        have hnD : ∀ p ∈ [(D', LCg.lst ys)], p.1 ≠ 1380 ∧ p.1 ≠ sc := fun p hp => by
          rw [List.mem_singleton.mp hp]
          exact ⟨(off1_mem o8 _ (.tail _ (.head _))).symm, (off1_mem o8 _ (.tail _ (.tail _ (.head _)))).symm⟩
        have hsz : (KBw.bInts (KBy.picked b (some (0 - ([55, 56, 60, 256] : List Int).getD ((atL ns 1).fmod 4).toNat 0)) none)).length = (bodyH ((atL ns 1).fmod 4).toNat).length := by rw [hbd]
        rw [KBw.ints_length] at hsz
        rw [hsz, List.take_length] at hG
        have N9 := kst_newsOf (l' := (1380, cT #[]) :: (sc, listOf xs.toArray n) :: [(D', LCg.lst ys)]) N8 (by
          intro z hz
          simp only [List.mem_cons] at hz ⊢
          rcases hz with h | h | h | h <;> first | (simp only [h, true_or, or_true]) | exact nomatch h)
        have FB := F8
        clear F8 N8
        k_steps
        refine ⟨c_k6b (st := st) (d := .list (ones (bodyH ((atL ns 1).fmod 4).toNat))) B X T XB TB FB (by rfl) (by rfl) (by rfl) N9 hnD h1 h2 hne (.list (n := ys.length) (.head _) (RlpsIn.mono (news := []) (fun z q => by cases q) hG)) (by have := deps_ones (bodyH ((atL ns 1).fmod 4).toNat); rw [dep]; lia) ?_ (by rw [hb]; lia) ?_⟩
        · rw [hb, hks, rd_head (a4 _) (b7 _) (h2' _), ← hst, bodyD, if_pos hhd]
        · exact hend
  · rename KBw.bInts _ = _ => hbd
    rw [oct_cut (a4 _) hks] at hbd
    rename Fr _ _ _ _ => FE
    rename News _ _ _ _ => NE
    have hhd : ¬ 191 < headH ((atL ns 2).fmod 7).toNat (decide (0 < (atL ns 3).fmod 5)) ((atL ns 3).fmod 2).toNat := by
      have : ¬ 191 < ks.getD 0 0 := by assumption
      rw [hks] at this; exact this
    have N9 := kst_newsOf (l' := (1380, cT #[]) :: (sc, listOf xs.toArray n) :: []) NE (by
      intro z hz
      repeat (first | exact hz | apply List.mem_cons_of_mem))
    refine ⟨c_k6b (st := st) (d := .str (bodyH ((atL ns 1).fmod 4).toNat)) B X T XB TB FE (by rfl) (by rfl) (by rfl) N9 (fun _ q => nomatch q) h1 h2 hne (.str hbd) (by rw [dep]; lia) ?_ (by rw [hb]; lia) ?_⟩
    · rw [hb, hks, rd_head (a4 _) (b7 _) (h2' _), ← hst, bodyD, if_neg hhd]
    · exact hend
theorem all (p : World × (List Str) × (ExcName → Option Value) × (Str → Option Value) × (Str → Option Value) × (Option (List Code)) × Around × Heap × Heap × Addr × (List Value) × (List Int) × Addr × Nat × Shared × (Value → Shared → Prop) × (Flow → Shared → Prop) × Int × Tok × Obj) : P p.1 p.2.1 p.2.2.1 p.2.2.2.1 p.2.2.2.2.1 p.2.2.2.2.2.1 p.2.2.2.2.2.2.1 p.2.2.2.2.2.2.2.1 p.2.2.2.2.2.2.2.2.1 p.2.2.2.2.2.2.2.2.2.1 p.2.2.2.2.2.2.2.2.2.2.1 p.2.2.2.2.2.2.2.2.2.2.2.1 p.2.2.2.2.2.2.2.2.2.2.2.2.1 p.2.2.2.2.2.2.2.2.2.2.2.2.2.1 p.2.2.2.2.2.2.2.2.2.2.2.2.2.2.1 p.2.2.2.2.2.2.2.2.2.2.2.2.2.2.2.1 p.2.2.2.2.2.2.2.2.2.2.2.2.2.2.2.2.1 p.2.2.2.2.2.2.2.2.2.2.2.2.2.2.2.2.2.1 p.2.2.2.2.2.2.2.2.2.2.2.2.2.2.2.2.2.2.1 p.2.2.2.2.2.2.2.2.2.2.2.2.2.2.2.2.2.2.2 := Classical.byContradiction fun n => Classical.epsilon_spec (p := fun p => ¬ P p.1 p.2.1 p.2.2.1 p.2.2.2.1 p.2.2.2.2.1 p.2.2.2.2.2.1 p.2.2.2.2.2.2.1 p.2.2.2.2.2.2.2.1 p.2.2.2.2.2.2.2.2.1 p.2.2.2.2.2.2.2.2.2.1 p.2.2.2.2.2.2.2.2.2.2.1 p.2.2.2.2.2.2.2.2.2.2.2.1 p.2.2.2.2.2.2.2.2.2.2.2.2.1 p.2.2.2.2.2.2.2.2.2.2.2.2.2.1 p.2.2.2.2.2.2.2.2.2.2.2.2.2.2.1 p.2.2.2.2.2.2.2.2.2.2.2.2.2.2.2.1 p.2.2.2.2.2.2.2.2.2.2.2.2.2.2.2.2.1 p.2.2.2.2.2.2.2.2.2.2.2.2.2.2.2.2.2.1 p.2.2.2.2.2.2.2.2.2.2.2.2.2.2.2.2.2.2.1 p.2.2.2.2.2.2.2.2.2.2.2.2.2.2.2.2.2.2.2) ⟨p, n⟩ (by with_unfolding_all exact main)
end c_k6E
theorem c_k6 {w : World} {loose : List Str} {mean : ExcName → Option Value} {mg mb : Str → Option Value} {gd : Option (List Code)} {A₀ : Around} {base h₀ : Heap} {L : Addr} {xs : List Value} {ns : List Int} {sc : Addr} {n : Nat} {s : Shared} {E : Value → Shared → Prop} {Q : Flow → Shared → Prop} {k : Int} {t : Tok} {oc : Obj} (C : Lx w loose mean mg mb A₀ base h₀ L sc xs n ns k t oc s.heap) (hend : Lend h₀ L sc xs n s Q)
    :
    wpAny (model PySem.Challenge.rw_jm0023_01.prog w) (kT 302 7 gd (lawEnv L) []) (execs body6 (lawEnv L)) Q E s := c_k6E.all (w, loose, mean, mg, mb, gd, A₀, base, h₀, L, xs, ns, sc, n, s, E, Q, k, t, oc) C hend
end
end
end
end
theorem pad26 {prog : PySem.Program} {w : PySem.World} {A : PySem.Around} {E : PySem.Value → PySem.Shared → Prop} {s : PySem.Shared} {env : PySem.Env} {Q : PySem.Flow → PySem.Shared → Prop} (h : Q .next s) : PySem.wpAny (PySem.model prog w) A (PySem.execs [] env) Q E s := by
  walk1
  exact h
section
open PySem PySem.W PySem.Calls PyProof.Rows PySem.Spec
local macro_rules | `(tactic| walk_at "execs cons") => `(tactic| refine Stop.go ?_)
set_option maxHeartbeats 4000000 in
theorem c_law {w : World} {loose : List Str} {mean : ExcName → Option Value} {mg mb : Str → Option Value} {gd : Option (List Code)} {A₀ : Around} {base h₀ : Heap} {L : Addr} {cells : List (Addr × Obj)} {xs : List Value} {ns : List Int} {sc : Addr} {n : Nat} {s : Shared} {E : Value → Shared → Prop} {Q : Flow → Shared → Prop}
    (B : Below A₀ base [] h₀) (X : (K w.params).In h₀) (T : Top vq loose mean mg mb h₀) (XB : (K w.params).In base) (TB : Top vq loose mean mg mb base)
    (F : Fr h₀ L s.heap (bindL (lawEnv L).kindOf [(Str.ofString "script", .ref sc)] fun _ => none))
    (Y : CellsAre (bindC (lawEnv L).kindOf [(Str.ofString "script", .ref sc)] fun _ => none) (cellsFrom (L + 1) (scOf fn36).names []) cells)
    (N : News h₀ L s.heap (cells ++ ((1380, cT #[]) :: (sc, listOf xs.toArray n) :: [])))
    (h1 : sc < h₀.objs.size) (h2 : 1380 < h₀.objs.size) (hne : sc ≠ 1380) (hcl : ∀ p ∈ cells, p.1 ≠ 1380 ∧ p.1 ≠ sc)
    (hxs : IntsAre xs ns) (hxl : xs.length = ns.length) (hlen : ns.length ≤ 63)
    (hend : ∀ h' tk' gs' ps' m', Fr h₀ L h' m' → News h₀ L h' [(1380, cT ps'), (sc, listOf xs.toArray n)] → GK s.gens gs' → Q (.ret (.bool true)) { s with heap := h', toks := tk', gens := gs' }) :
    wpAny (model PySem.Challenge.rw_jm0023_01.prog w) (kT 302 7 gd (lawEnv L) []) (execs (bOf fn36) (lawEnv L)) Q E s := by
  have hr : recursionLimit = 1000 := rfl
  have hc : cLine = 9900 := rfl
  revert X; k_fill; intro X
  obtain ⟨oc, hE, hoc'⟩ := CellsAre.one (show CellsAre _ [(Str.ofString "script", L + 1)] cells from Y)
  subst hE
  obtain ⟨hL1, hL2⟩ := hcl _ (.head _)
  have hoc : oc.data = .cell (some (.ref sc)) := hoc'
  clear hoc' hcl Y
  rw [List.cons_append, List.nil_append] at N
  have F2 : Fr h₀ L s.heap (fun _ => none) := F
  clear F
  show wpAny _ _ (execs (_ :: _ :: _ :: _ :: _ :: []) _) _ _ _
  refine wpAny_execs_cons ?_
  k_steps
  refine ⟨c_at (dp := 302) (un := 7) (outer := []) ⟨(by assumption), (by assumption), (by assumption), (by assumption), (by assumption), rfl, rfl⟩ (by omega) (by omega) sc xs n (by k_mem) ns hxs hxl hlen _ _ (by omega) (by omega) ?_⟩
  intro t9 h9 tk9 F9 N9
  k_sweep
  k_steps
  refine ⟨wpAny_execs_cons (wpAny_If ?_)⟩
  have tail : ∀ b t h' tk' gs' ps' m', (KBw.bInts b).length ≤ 304 → TriplesOk ps'.toList → m' (Str.ofString "octets") = some (.bytes b t) → Fr h₀ L h' m' → News h₀ L h' [(1380, cT ps'), (sc, listOf xs.toArray n)] → GK s.gens gs' →
      wpAny (model PySem.Challenge.rw_jm0023_01.prog w) (kT 302 7 gd (lawEnv L) []) (execs lawTail (lawEnv L)) Q E { s with heap := h', toks := tk', gens := gs' } := fun b t h' tk' gs' ps' m' e1 e2 e3 e4 e5 e6 =>
    c_tail ⟨B, e4, X, e5, T, rfl, rfl⟩ h1 h2 hne e2 XB TB b t e3 e1 fun h2' tk2 gs2 ps2 m2 f1 f2 f3 => hend h2' tk2 gs2 ps2 m2 f1 f2 (e6.trans f3)
  k_steps
  · rename Fr _ _ _ _ => FE
    rename News _ _ _ _ => NE
    refine ⟨c_k6 (k := (atL ns 0).fmod 7) ⟨B, X, T, XB, TB, FE, NE, hoc, h1, h2, hne, hL1.symm, hL2.symm, hxs, hxl, hlen⟩ ?_⟩
    intro b t h' tk' gs' ps' m' e1 e2 e3 e4 e5 e6
    exact tail b t h' tk' gs' ps' m' e1 e2 e3 e4 e5 e6
  · refine ⟨wpAny_execs_cons (wpAny_If ?_)⟩
    k_steps
    · rename Fr _ _ _ _ => FE
      rename News _ _ _ _ => NE
      refine ⟨c_k2 (k := (atL ns 0).fmod 7) ⟨B, X, T, XB, TB, FE, NE, hoc, h1, h2, hne, hL1.symm, hL2.symm, hxs, hxl, hlen⟩ ?_⟩
      intro b t h' tk' gs' ps' m' e1 e2 e3 e4 e5 e6
      exact wpAny_execs_nil (tail b t h' tk' gs' ps' m' e1 e2 e3 e4 e5 e6)
    · rename Fr _ _ _ _ => FE
      rename News _ _ _ _ => NE
      refine ⟨c_k0 (k := (atL ns 0).fmod 7) ⟨B, X, T, XB, TB, FE, NE, hoc, h1, h2, hne, hL1.symm, hL2.symm, hxs, hxl, hlen⟩ ?_⟩
      intro b t h' tk' gs' ps' m' e1 e2 e3 e4 e5 e6
      exact wpAny_execs_nil (tail b t h' tk' gs' ps' m' e1 e2 e3 e4 e5 e6)
end
end Mine
end
namespace Mine
theorem pad27 {prog : PySem.Program} {w : PySem.World} {A : PySem.Around} {E : PySem.Value → PySem.Shared → Prop} {s : PySem.Shared} {env : PySem.Env} {Q : PySem.Flow → PySem.Shared → Prop} (h : Q .next s) : PySem.wpAny (PySem.model prog w) A (PySem.execs [] env) Q E s := by
  walk1
  exact h
end Mine
section
open PySem PySem.W PySem.Calls PyProof.Rows
namespace Mine
section
theorem K_notab (P : Params) : ((K P).all fun p => p.1 != 1380 && !(p.2.cls == .type "list")) = true := by kernel_rfl
theorem vq_tabs (P : Params) : ((recsOf vq).all fun d => match tabIn (K P) d.name with | some (_, P) => P != 1380 | none => false) = true := by kernel_rfl
theorem bind_law (sc : Addr) : bindArgs (docDef (Str.ofString "law") (pOf fn36) (bOf fn36) (scOf fn36) (.str (Str.ofString "law_jm0023_01") 1229) (.ref 1509) .none) ⟨[.ref sc], []⟩ = pure [(Str.ofString "script", .ref sc)] := by rfl
theorem list_not (o : Obj) (h : o.cls = .type "list") : (o.cls == Value.type "list") = true := by rw [h]; decide +kernel
theorem look_mem {a : Addr} {o : Obj} : ∀ {K : Frag}, K.lookup a = some o → (a, o) ∈ K
  | [], h => nomatch h
  | (b, p) :: r, h => by
    rw [List.lookup_cons] at h
    by_cases e : (a == b) = true
    · rw [e] at h
      have e' : a = b := eq_of_beq e
      cases h
      rw [e']
      exact .head _
    · have e' : (a == b) = false := by simpa using e
      rw [e'] at h
      exact .tail _ (look_mem h)
/-- the ground without the script and the table -/
theorem ground_law {w : World} {h : Heap} {sc : Addr} {vs : Array Value} {n : Nat} {loose : List Str} {mean : ExcName → Option Value} {mg mb : Str → Option Value} (X : (K w.params).In h) (T : Top vq loose mean mg mb h) (ht : h.get? 1380 = some (cT #[])) (hs : h.get? sc = some (listOf vs n)) :
    (K w.params).In (hideAll h [1380, sc]) ∧ Top vq loose mean mg mb (hideAll h [1380, sc]) := by
  have hS : ∀ a ∈ [1380, sc], ∃ o, h.get? a = some o ∧ Dull o := fun a ha => by
    rcases List.mem_cons.mp ha with rfl | ha
    · exact ⟨_, ht, .inr ⟨rfl, rfl⟩⟩
    · rw [List.mem_singleton.mp ha]; exact ⟨_, hs, .inl ⟨rfl, _, _, rfl⟩⟩
  refine ⟨fun a o e => hideAll_get _ (X a o e) fun hm => ?_, top_hide T X hS fun d hd => ?_⟩
  · have z := List.all_eq_true.mp (K_notab w.params) _ (look_mem e)
    obtain ⟨z1, z2⟩ := Bool.and_eq_true_iff.mp z
    rcases List.mem_cons.mp hm with q | q
    · exact bne_iff_ne.mp z1 q
    · have q' := List.mem_singleton.mp q
      have e1 := X a o e
      rw [q', hs] at e1
      cases e1
      rw [list_not _ rfl] at z2
      cases z2
  · have z := List.all_eq_true.mp (vq_tabs w.params) d hd
    cases e : tabIn (K w.params) d.name with
    | none => rw [e] at z; cases z
    | some cp =>
      obtain ⟨c, P⟩ := cp
      rw [e] at z
      refine ⟨c, P, rfl, fun hm => ?_⟩
      have z' : P ≠ 1380 := bne_iff_ne.mp z
      rcases List.mem_cons.mp hm with q | q
      · exact absurd q z'
      · rw [List.mem_singleton.mp q]
        exact ⟨_, hs, nofun⟩
theorem old_law {w : World} {h h' : Heap} {L sc : Addr} {m : Str → Option Value} {vs ps : Array Value} {n : Nat} (X : (K w.params).In h) (ht : h.get? 1380 = some (cT #[])) (hs : h.get? sc = some (W.listOf vs n)) (F : Fr (hideAll h [1380, sc]) L h' m) (N : News (hideAll h [1380, sc]) L h' [(1380, cT ps), (sc, W.listOf vs n)]) : OldK h h' := by
  have n1 := (N _ (.head _)).1
  have n2 := (N _ (.tail _ (.head _))).1
  refine ⟨fun b o e => ?_, fun b o e => ?_⟩
  · by_cases h1 : b = 1380
    · subst h1
      rw [ht] at e
      cases e
      refine .inr (.inl ⟨⟨1384, o1384 w.params, _, X 1384 _ (by kernel_rfl), rfl, rfl, rfl⟩, rfl, #[], ps, rfl, ?_⟩)
      rw [Array.empty_append]
      exact n1
    · by_cases h2 : b = sc
      · subst h2
        rw [hs] at e
        cases e
        exact .inl n2
      · exact .inl (F.keep b o (hideAll_get _ e (by simp [h1, h2])))
  · by_cases h1 : b = 1380
    · exact ⟨_, h1 ▸ n1⟩
    · by_cases h2 : b = sc
      · exact ⟨_, h2 ▸ n2⟩
      · exact ⟨_, F.keep b o (hideAll_get _ e (by simp [h1, h2]))⟩
set_option maxHeartbeats 4000000 in
theorem walk_core {w : World} {s₁ : Shared} {loose : List Str} {mean mean2 : ExcName → Option Value} {mg mb : Str → Option Value} {sc : Addr} {xs : List Value} {ns : List Int} {cl : Str → Option Addr} {args : List WData}
    (X : (K w.params).In s₁.heap) (T : Top vq loose mean mg mb s₁.heap) (ht : s₁.heap.get? 1380 = some (cT #[])) (hs : s₁.heap.get? sc = some (W.listOf xs.toArray 0)) (hI : IntsAre xs ns) (hlen : ns.length ≤ 63) (hg : s₁.gens = #[]) :
    codeAny (model PySem.Challenge.rw_jm0023_01.prog w) callerA (.call (.ref 1510) ⟨[.ref sc], []⟩) (GoodWG rR.claim cl mean2 args s₁) s₁ := by
  obtain ⟨XH, TH⟩ := ground_law X T ht hs
  have hne : sc ≠ 1380 := fun q => by
    rw [q, ht] at hs; cases hs
  have lt := Heap.lt_size ht
  have ls := Heap.lt_size hs
  have hz := hideAll_size [1380, sc] s₁.heap
  refine call_cellsN_ret (name := Str.ofString "law") (params := pOf fn36) (body := bOf fn36) (scope := scOf fn36) (pm := .str (Str.ofString "law_jm0023_01") 1229) (cd := .ref 1509) (doc := .none) (o := o1510 w.params) (binds := [(Str.ofString "script", .ref sc)])
    (by decide +kernel) (X 1510 _ (by kernel_rfl)) rfl T.nolimit (codeRec_of X (by kernel_rfl)) (bind_law sc) (fun x hx => ?_) (by decide +kernel) (fun h₁ tk cells F N Y => ?_) rfl rfl rfl
  · rw [List.mem_singleton.mp hx]
    exact .inr ⟨by rfl, by rfl⟩
  · refine c_law (n := 0) (below_caller _) XH TH XH TH ⟨F.ns, fun b o e => F.keep b o (of_hideAll _ e), Nat.le_of_eq hz⟩ Y (fun p hp => ?_) (by rw [hz]; exact ls) (by rw [hz]; exact lt) hne (fun p hp => ?_) hI hI.length hlen ?_
    · rcases List.mem_append.mp hp with hp | hp
      · obtain ⟨x1, x2, x3⟩ := N p hp
        refine ⟨x1, x2, ?_⟩
        cases q : (hideAll s₁.heap [1380, sc]).get? p.1 with
        | none => rfl
        | some o => have := of_hideAll _ q; rw [x3] at this; cases this
      · rcases List.mem_cons.mp hp with rfl | hp
        · exact ⟨F.keep _ _ ht, Nat.ne_of_lt lt, hideAll_none _ (.head _)⟩
        · rw [List.mem_singleton.mp hp]
          exact ⟨F.keep _ _ hs, Nat.ne_of_lt ls, hideAll_none _ (.tail _ (.head _))⟩
    · obtain ⟨x1, x2, x3⟩ := N p hp
      exact ⟨fun q => (by rw [q, ht] at x3; cases x3), fun q => (by rw [q, hs] at x3; cases x3)⟩
    · intro h' tk' gs' ps' m' F' N' hG
      refine ⟨.inl ⟨.bool true, .bool true, [], rfl, fun cls => rfl, .bool true, ?_, fun _ => ⟨.nil, fun _ q => nomatch q⟩⟩, old_law X ht hs F' N', rfl, hG.2.2 ?_⟩
      · exact postW_of (r := rR) (by wrow_shape) (by wtm_val) (by w_fin)
      · show AllBare s₁.gens
        rw [hg]; exact .empty
theorem law_list {P : Params} {h : Heap} {sc : Addr} {xs : List Value} {ds : List WData} (Wl : Well P h (.ref sc) (.list ds)) (L : h.IsList sc xs.toArray) : h.get? sc = some (W.listOf xs.toArray 0) ∧ True := by
  cases Wl with
  | list e _ =>
    obtain ⟨o, e', _, n, hd⟩ := L
    rw [e] at e'
    cases e'
    refine ⟨?_, trivial⟩
    rw [e]
    have : _ = xs.toArray := (Data.seq.inj hd).1
    rw [this]
set_option maxHeartbeats 4000000 in
theorem walkS : WalkO vq loos (XL vq lvs) kH2.says rR dL [] (fun f vs => PySem.call f vs) := by
  intro w s₀ s₁ mg mb G Y fa o pm cd doc dV kV ho hd hcd hD hmg hg args vals as hpre hlay hrd hwl hlo
  have X := km_in_of Y
  have hT8 := km_tabs_of Y 1380 (.head _)
  refine Ground.open G ?_
  intro T B D TE TW
  wrow_args hpre hlay hrd hwl hlo
  rename IntsAre _ _ => hI
  rename Heap.IsList _ _ _ => hL
  rename Well _ _ _ _ => hW
  rename_i hcond _
  have e1 := mg_of (n := Str.ofString "law") (v := .ref 1510) X T.g (by kernel_rfl)
  have e2 : mg (Str.ofString "law") = some (.ref fa) := hmg
  rw [e1] at e2
  cases e2
  refine enter_call ?_
  obtain ⟨hs, hl⟩ := law_list hW hL
  exact walk_core X T hT8 hs hI (by omega) hg
end
end Mine
end
theorem PySem.Challenge.cw_jm0023_01_holds : PySem.Challenge.rw_jm0023_01.Holds :=
  Mine.hdM Mine.walkS
