import PyProof.Rows.All
import Wide.All
import OpenK.AllK
import Wide.FinOn
import Lean
import PySem.Challenge.RW_ik0072_01
set_option Elab.async false
set_option maxRecDepth 100000
set_option maxHeartbeats 80000000
set_option linter.unusedVariables false
namespace Mine
section
open PySem PySem.W PyProof.Rows
noncomputable def topRunT (tb : String → Option Builtin) (p : Program) (w : World) (n₀ : Nat) (ann : Option Value) : Nat → SharedT → Thread → Option SharedT
  | 0, _, _ => none
  | n + 1, s, t => match through t with
    | true => some s
    | false => match stepOk n₀ ann t with
      | false => none
      | true => match stepT (denote tb) p w s t with
        | some (s', t') => topRunT tb p w n₀ ann n s' t'
        | none => none
theorem topRunT_spec {tb : String → Option Builtin} {p : Program} {w : World} {n₀ : Nat} {ann : Option Value} : ∀ {n : Nat} {s s' : SharedT} {t : Thread}, topRunT tb p w n₀ ann n s t = some s' → topRun tb p w n₀ ann n s.abs t = some s'.abs
  | 0, _, _, _, h => by cases h
  | n + 1, s, s', t, h => by
    unfold topRunT at h
    unfold topRun
    cases he : through t with
    | true => rw [he] at h; cases h; rfl
    | false =>
      rw [he] at h
      cases hk : stepOk n₀ ann t with
      | false => rw [hk] at h; cases h
      | true =>
        rw [hk] at h
        cases hs : stepT (denote tb) p w s t with
        | none => rw [hs] at h; cases h
        | some r => obtain ⟨s₂, t₂⟩ := r; rw [hs] at h; rw [stepT_spec hs]; exact topRunT_spec h
/-- a tree built out of a list of objects; none where a place does not take -/
noncomputable def pushAll : List Obj → Nat → BT → Option (Nat × BT)
  | [], n, t => some (n, t)
  | o :: r, n, t => match ((t.ins n o).get n).isSome with
    | true => pushAll r (n + 1) (t.ins n o)
    | false => none
theorem pushAll_spec : ∀ {l : List Obj} {n : Nat} {t : BT} {n' : Nat} {t' : BT} (life : Life), pushAll l n t = some (n', t') → absHeap t' n' life = ⟨(absHeap t n life).objs ++ l.toArray, life⟩
  | [], n, t, n', t', life, h => by
    cases h
    simp [absHeap]
  | o :: r, n, t, n', t', life, h => by
    unfold pushAll at h
    cases he : ((t.ins n o).get n).isSome with
    | false => rw [he] at h; cases h
    | true =>
      rw [he] at h
      rw [pushAll_spec life h, absHeap_ins he]
      show Heap.mk _ _ = Heap.mk _ _
      congr 1
      show (absHeap t n life).objs.push o ++ r.toArray = (absHeap t n life).objs ++ (o :: r).toArray
      simp
noncomputable def toT (s : Shared) : Option SharedT := (pushAll s.heap.objs.toList 0 .nil).map fun x => ⟨x.2, x.1, s.heap.life, s.gens, s.drawn, s.toks, s.os⟩
theorem toT_abs {s : Shared} {t : SharedT} (h : toT s = some t) : t.abs = s := by
  obtain ⟨⟨n, b⟩, h1, rfl⟩ := Option.map_eq_some_iff.mp h
  obtain ⟨⟨objs, life⟩, gens, drawn, toks, os⟩ := s
  have e := pushAll_spec life h1
  show Shared.mk (absHeap b n life) _ _ _ _ = _
  rw [e]
  congr 1
  show Heap.mk _ _ = Heap.mk _ _
  congr 1
  simp [absHeap, BT.list]
noncomputable def topT (tb : String → Option Builtin) (p : Program) (w : World) (N : Nat) (s₀ : Shared) : Option Shared :=
  match s₀.heap.isNs mainGlobals && s₀.gens.size == 0 with
  | true => (toT s₀).bind fun t₀ => (topRunT tb p w s₀.heap.objs.size (s₀.heap.nsMap mainGlobals "__annotations__") N t₀ (topStub p)).bind fun t₁ =>
      match staticsOk (importedModules p.main.body) s₀.heap t₁.abs.heap && namesBound p t₁.abs.heap && gensDone t₁.abs && laidKept s₀.heap t₁.abs.heap with
      | true => some t₁.abs
      | false => none
  | false => none
theorem topT_spec {tb : String → Option Builtin} {p : Program} {w : World} {N : Nat} {s₀ s : Shared} (h : topT tb p w N s₀ = some s) : topFrom tb p w N s₀ = some s := by
  unfold topT at h
  unfold topFrom
  cases hg : (s₀.heap.isNs mainGlobals && s₀.gens.size == 0) with
  | false => rw [hg] at h; cases h
  | true =>
    rw [hg] at h
    dsimp only at h ⊢
    obtain ⟨t₀, h0, h⟩ := Option.bind_eq_some_iff.mp h
    obtain ⟨t₁, h1, h⟩ := Option.bind_eq_some_iff.mp h
    have := topRunT_spec h1
    rw [toT_abs h0] at this
    rw [this]
    exact h
noncomputable def openEndsT (tb : String → Option Builtin) (p : Program) (w : World) (N : Nat) : Option Shared := (fencedOpening tb p w N).bind (topT tb p w N)
theorem openEndsT_spec {tb : String → Option Builtin} {p : Program} {w : World} {N : Nat} {s : Shared} (h : openEndsT tb p w N = some s) : openEnds tb p w N = some s := by
  obtain ⟨s₀, h0, h⟩ := Option.bind_eq_some_iff.mp h
  unfold openEnds
  rw [h0]
  exact topT_spec h
theorem leftT {p q : Program} {loose : List Str} {Xt : Shared → Bool} {α : Type} {Yf : Shared → α} {Ya : World → α} {N : Nat} {g0 : Bool}
    (h : ∀ w, (openEndsT treeTable p w N).map (fun s => (openSeen q loose (importedModules p.main.body) Xt g0 s, Yf s)) = some (openGood q loose, Ya w)) : LeftO p q loose Xt Yf Ya N g0 := fun w => by
  obtain ⟨s, h1, h2⟩ := Option.map_eq_some_iff.mp (h w)
  rw [openEndsT_spec h1]
  exact congrArg some h2
end
section

theorem lel {x a b : Nat} (h : x ≤ a) (e : Nat.ble a b = true) : x ≤ b := Nat.le_trans h (Nat.le_of_ble_eq_true e)
theorem lee {x y a b : Nat} (q : x = y) (h : y ≤ a) (e : Nat.ble a b = true) : x ≤ b := q ▸ lel h e
theorem turn_lt {n i : Nat} (h : i < n) : n + 1 - (i + 1) < n + 1 - i := by
  rw [Nat.add_sub_add_right, Nat.succ_sub (Nat.le_of_lt h)]; exact Nat.lt_succ_self _
theorem sub_pred {n i k : Nat} (h : n - i = k + 1) : n - (i + 1) = k := by rw [Nat.sub_succ, h]; rfl
theorem sub_pos' {n i k : Nat} (h : n - i = k + 1) : i < n := Nat.lt_of_sub_pos (h ▸ Nat.succ_pos k)
theorem sub_end {n i : Nat} (h : n - i = 0) (h2 : i ≤ n) : i = n := Nat.le_antisymm h2 (Nat.le_of_sub_eq_zero h)
theorem int_ne {k : Nat} (h : (k : Int) ≠ 0) : k ≠ 0 := fun e => h (congrArg Int.ofNat e)
theorem int_zero {k : Nat} (h : (k : Int) = 0) : k = 0 := Int.ofNat.inj h
theorem int_pos {k : Nat} (h : 0 < (k : Int)) : k ≠ 0 := fun e => Int.lt_irrefl 0 (by rw [e] at h; exact h)
theorem int_npos {k : Nat} (h : ¬ 0 < (k : Int)) : k = 0 := Nat.eq_zero_of_not_pos fun g => h (Int.ofNat_lt.mpr g)
theorem int0 {k : Nat} : 0 + (k : Int) * 1 = k := (Int.zero_add _).trans (Int.mul_one _)
theorem int_dn {n j : Nat} (h : j < n + 1) : (n : Int) + (j : Int) * (-1) = ((n - j : Nat) : Int) := by
  rw [Int.ofNat_sub (Nat.le_of_lt_succ h), Int.mul_neg_one]; rfl
theorem div16 {k : Nat} (h : k ≠ 0) : k / 16 < k := Nat.div_lt_self (Nat.pos_of_ne_zero h) (Nat.le_of_ble_eq_true rfl)
theorem pow16 {k g : Nat} (h : k < 16 ^ (g + 1)) : k / 16 < 16 ^ g := Nat.div_lt_of_lt_mul (by rw [Nat.pow_succ, Nat.mul_comm] at h; exact h)
theorem sub_sz {g a N M : Nat} (h : g + 1 ≤ M) (hM : M ≤ N) (h1 : a ≤ N - (g + 1)) : a + 1 ≤ N - g := by
  have := (Nat.le_sub_iff_add_le (Nat.le_trans h hM)).mp h1
  refine Nat.le_sub_of_add_le ?_
  rw [Nat.add_assoc, Nat.add_comm 1 g]; exact this
theorem ap_sz {g a v n : Nat} (h : g + 1 ≤ 6) (h1 : a ≤ 10 - (g + 1)) (h2 : v = a) (h3 : n = 0 + 1 + v) : n ≤ 10 - g := by
  rw [h3, h2, Nat.zero_add, Nat.add_comm]; exact sub_sz h (Nat.le_of_ble_eq_true rfl) h1
theorem add2 {a b c d : Nat} (h : a ≤ c) (h2 : b ≤ d) : a + b ≤ d + c := Nat.add_comm c d ▸ Nat.add_le_add h h2
theorem acc_k {a b c k n : Nat} (h1 : a ≤ b + k * n) (h2 : b ≤ c + k) : a ≤ c + k * (n + 1) := by
  rw [Nat.mul_succ, Nat.add_comm (k * n) k, ← Nat.add_assoc]; exact Nat.le_trans h1 (Nat.add_le_add_right h2 _)
theorem acc_1 {a b c n : Nat} (h1 : a ≤ b + n) (h2 : b ≤ c + 1) : a ≤ c + (n + 1) := by
  rw [Nat.add_comm n 1, ← Nat.add_assoc]; exact Nat.le_trans h1 (Nat.add_le_add_right h2 _)
theorem le_two {f : Nat} (h : f ≤ 2) : f = 0 ∨ f = 1 ∨ f = 2 := by
  rcases Nat.lt_or_eq_of_le h with h | h
  · rcases Nat.lt_or_eq_of_le (Nat.le_of_lt_succ h) with h | h
    · exact .inl (Nat.lt_one_iff.mp h)
    · exact .inr (.inl h)
  · exact .inr (.inr h)
theorem one_two {f : Nat} (h : f ≤ 2) (h1 : 1 ≤ f) : f = 1 ∨ f = 2 := (le_two h).elim (fun e => by rw [e] at h1; exact absurd h1 (Nat.not_succ_le_zero 0)) id
theorem lt_two {f : Nat} (h : f < 2) : f = 0 ∨ f = 1 := (Nat.lt_or_eq_of_le (Nat.le_of_lt_succ h)).imp Nat.lt_one_iff.mp id
theorem min_up {k n : Nat} : max 0 (min (k : Int) (n : Int)) = ((min k n : Nat) : Int) := by
  rcases Nat.le_total k n with h | h
  · rw [Int.min_eq_left (Int.ofNat_le.mpr h), Nat.min_eq_left h]; exact Int.max_eq_right (Int.natCast_nonneg _)
  · rw [Int.min_eq_right (Int.ofNat_le.mpr h), Nat.min_eq_right h]; exact Int.max_eq_right (Int.natCast_nonneg _)
theorem fm_nat (x : Int) (k : Nat) (hk : 0 < k) : ∃ a : Nat, x.fmod (k : Int) = (a : Int) ∧ a < k := by
  rw [Int.fmod_eq_emod_of_nonneg x (Int.natCast_nonneg k)]
  have h0 := Int.emod_nonneg x (Int.ofNat_ne_zero.mpr (Nat.pos_iff_ne_zero.mp hk))
  exact ⟨(x % k).toNat, (Int.toNat_of_nonneg h0).symm, (Int.toNat_lt h0).mpr (Int.emod_lt_of_pos x (Int.ofNat_lt.mpr hk))⟩
theorem min_le_lit {i n a b : Nat} (h : n ≤ a) (e : Nat.ble a b = true) : min i n ≤ b := Nat.le_trans (Nat.min_le_right ..) (lel h e)
theorem le_mul {a b n k : Nat} (h : a ≤ k * b) (h2 : b ≤ n) : a ≤ k * n := Nat.le_trans h (Nat.mul_le_mul_left k h2)
theorem le4 {a b n k : Nat} (h : a ≤ 4 * b) (h2 : b ≤ n) (e : Nat.ble (4 * n) k = true) : a ≤ k := lel (le_mul h h2) e
theorem le3m {a b n k : Nat} (h : a ≤ 3 * b) (h2 : b ≤ n) (e : Nat.ble (3 * n + n) k = true) : a + b * 1 ≤ k := by
  rw [Nat.mul_one]; exact lel (Nat.add_le_add (le_mul h h2) h2) e
theorem add_lit {a b m n k : Nat} (h : a ≤ m) (h2 : b ≤ n) (e : Nat.ble (m + n) k = true) : a + b ≤ k := lel (Nat.add_le_add h h2) e
theorem nat_abs_ite (z : Int) : (if z < 0 then -z else z) = (z.natAbs : Int) := by
  split
  · rename_i h; exact (Int.ofNat_natAbs_of_nonpos (Int.le_of_lt h)).symm
  · rename_i h; exact (Int.natAbs_of_nonneg (Int.not_lt.mp h)).symm
theorem sub_add_1 {f a : Nat} (h : a + 1 ≤ f) : f = f - 1 + 1 := (Nat.sub_add_cancel (Nat.le_trans (Nat.succ_le_succ (Nat.zero_le a)) h)).symm
theorem ne_lt3 {d o a : Nat} (h : d < o) (h2 : a < d) : o ≠ a := Nat.ne_of_gt (Nat.lt_trans h2 h)
end
section
open PySem PySem.W PyProof.Rows
noncomputable section
noncomputable abbrev prog : Program := PySem.Challenge.rw_ik0072_01.row.toRowW.prog
noncomputable def qv : Program := view prog [0, 1, 40]
noncomputable def loose : List PySem.Str := [Str.ofString "_wall", Str.ofString "_initial_missing", Str.ofString "reduce", Str.ofString "_c3_merge", Str.ofString "Int2AP", Str.ofString "_twin_re_1", Str.ofString "_whence", Str.ofString "_index", Str.ofString "UnsupportedOperation", Str.ofString "IOBase", Str.ofString "BufferedIOBase", Str.ofString "TextIOBase", Str.ofString "BytesIO", Str.ofString "StringIO", Str.ofString "_kind", Str.ofString "_fspath", Str.ofString "_check_arg_types", Str.ofString "isabs", Str.ofString "join", Str.ofString "join_path", Str.ofString "dirname", Str.ofString "shlex", Str.ofString "split", Str.ofString "join_shlex", Str.ofString "_find_unsafe", Str.ofString "quote", Str.ofString "_law_numbers", Str.ofString "_law_chain", Str.ofString "_law_line", Str.ofString "_law_at_once", Str.ofString "_law_from"]
noncomputable def nth : List Stmt → Nat → Stmt
  | [], _ => .Pass default
  | s :: _, 0 => s
  | _ :: r, n + 1 => nth r n
noncomputable def inCls : Stmt → Nat → Stmt
  | .ClassDef _ _ _ body .., j => nth body j
  | s, _ => s
noncomputable def stAt (i : Nat) : Stmt := nth prog.main.body i
noncomputable def mAt (i j : Nat) : Stmt := inCls (stAt i) j
noncomputable def fnObj (qual : Str) (dV kV doc pm : Value) (an : Option Addr) (cd ct : Value) : Stmt → Obj
  | .FunctionDef name args body _ _ _ scope .. => { cls := .type "function", data := .func (fnOf name qual args body scope dV kV doc pm an cd ct) }
  | _ => { cls := .none, data := .plain }
noncomputable def KK : Params → Frag := fun P =>
  (nat_lit 2, { cls := Value.none, data := Data.dict #[{ hash := PyData.keyHash P (Str.ofString "\x69mport.loaded._sre"), key := Value.str (Str.ofString "\x69mport.loaded._sre") 183, val := Value.bool true }, { hash := PyData.keyHash P (Str.ofString "class._frozen_importlib.BuiltinImporter"), key := Value.str (Str.ofString "class._frozen_importlib.BuiltinImporter") 185, val := Value.ref 14 }, { hash := PyData.keyHash P (Str.ofString "watched.\x69mport"), key := Value.str (Str.ofString "watched.\x69mport") 206, val := Value.ref 18 }, { hash := PyData.keyHash P (Str.ofString "class._frozen_importlib.ModuleSpec"), key := Value.str (Str.ofString "class._frozen_importlib.ModuleSpec") 216, val := Value.ref 22 }, { hash := PyData.keyHash P (Str.ofString "sys.modules.booked-epoch"), key := Value.str (Str.ofString "sys.modules.booked-epoch") 245, val := Value.int 4 0 }, { hash := PyData.keyHash P (Str.ofString "\x69mport.later-laid._sre"), key := Value.str (Str.ofString "\x69mport.later-laid._sre") 270, val := Value.bool true }, { hash := PyData.keyHash P (Str.ofString "watched.library"), key := Value.str (Str.ofString "watched.library") 272, val := Value.ref 27 }, { hash := PyData.keyHash P (Str.ofString "watched.library-objects"), key := Value.str (Str.ofString "watched.library-objects") 0, val := Value.str (Str.ofString "\x0c\x1e") 0 }, { hash := PyData.keyHash P (Str.ofString "watched.library-deep._sre"), key := Value.str (Str.ofString "watched.library-deep._sre") 273, val := Value.str (Str.ofString "\x04\x00\x00\x0b\x04\x00\x00\x0b\x04\x00\x00\x03\x04\x00\x00\x0b\x08\x04dict\x02") 0 }, { hash := PyData.keyHash P (Str.ofString "\x69mport.loaded._collections"), key := Value.str (Str.ofString "\x69mport.loaded._collections") 280, val := Value.bool true }, { hash := PyData.keyHash P (Str.ofString "sys.modules.landed._collections"), key := Value.str (Str.ofString "sys.modules.landed._collections") 294, val := Value.bool true }, { hash := PyData.keyHash P (Str.ofString "\x69mport.later-laid._collections"), key := Value.str (Str.ofString "\x69mport.later-laid._collections") 309, val := Value.bool true }, { hash := PyData.keyHash P (Str.ofString "watched.library-deep._collections"), key := Value.str (Str.ofString "watched.library-deep._collections") 311, val := Value.str (Str.ofString "\x04\x00\x00\x1d\x04\x00\x00\x1d\x04\x00\x00\x03\x04\x00\x00\x1d\x08\x04dict\x02") 0 }, { hash := PyData.keyHash P (Str.ofString "type.__subclasses__.OSError.0"), key := Value.str (Str.ofString "type.__subclasses__.OSError.0") 440, val := Value.int 94 0 }, { hash := PyData.keyHash P (Str.ofString "type.__subclasses__.OSError.n"), key := Value.str (Str.ofString "type.__subclasses__.OSError.n") 441, val := Value.int 1 0 }] 15 }) ::
  (nat_lit 3, { cls := Value.type "dict", data := Data.dict #[{ hash := PyData.keyHash P (Str.ofString "__name__"), key := Value.str (Str.ofString "__name__") 165, val := Value.str (Str.ofString "law_ik0072_01") 1288 }, { hash := PyData.keyHash P (Str.ofString "__doc__"), key := Value.str (Str.ofString "__doc__") 166, val := Value.none }, { hash := PyData.keyHash P (Str.ofString "__package__"), key := Value.str (Str.ofString "__package__") 167, val := Value.none }, { hash := PyData.keyHash P (Str.ofString "__loader__"), key := Value.str (Str.ofString "__loader__") 168, val := Value.builtin "__main__.__loader__#\x6fpaque" }, { hash := PyData.keyHash P (Str.ofString "__spec__"), key := Value.str (Str.ofString "__spec__") 169, val := Value.none }, { hash := PyData.keyHash P (Str.ofString "__annotations__"), key := Value.str (Str.ofString "__annotations__") 170, val := Value.ref 6 }, { hash := PyData.keyHash P (Str.ofString "__builtins__"), key := Value.str (Str.ofString "__builtins__") 171, val := Value.ref 4 }, { hash := PyData.keyHash P (Str.ofString "__file__"), key := Value.str (Str.ofString "__file__") 173, val := Value.str (Str.ofString "/claim/cut.py") 172 }, { hash := PyData.keyHash P (Str.ofString "__cached__"), key := Value.str (Str.ofString "__cached__") 174, val := Value.none }, { hash := PyData.keyHash P (Str.ofString "_sre"), key := Value.str (Str.ofString "_sre") 275, val := Value.ref 12 }, { hash := PyData.keyHash P (Str.ofString "deque"), key := Value.str (Str.ofString "deque") 317, val := Value.type "collections.deque" }, { hash := PyData.keyHash P (Str.ofString "_wall"), key := Value.str (Str.ofString "_wall") 330, val := Value.ref 44 }, { hash := PyData.keyHash P (Str.ofString "_initial_missing"), key := Value.str (Str.ofString "_initial_missing") 333, val := Value.ref 45 }, { hash := PyData.keyHash P (Str.ofString "reduce"), key := Value.str (Str.ofString "reduce") 345, val := Value.ref 53 }, { hash := PyData.keyHash P (Str.ofString "_c3_merge"), key := Value.str (Str.ofString "_c3_merge") 351, val := Value.ref 58 }, { hash := PyData.keyHash P (Str.ofString "Int2AP"), key := Value.str (Str.ofString "Int2AP") 363, val := Value.ref 65 }, { hash := PyData.keyHash P (Str.ofString "_twin_re_1"), key := Value.str (Str.ofString "_twin_re_1") 403, val := Value.ref 70 }, { hash := PyData.keyHash P (Str.ofString "_whence"), key := Value.str (Str.ofString "_whence") 413, val := Value.ref 77 }, { hash := PyData.keyHash P (Str.ofString "_index"), key := Value.str (Str.ofString "_index") 421, val := Value.ref 84 }, { hash := PyData.keyHash P (Str.ofString "UnsupportedOperation"), key := Value.str (Str.ofString "UnsupportedOperation") 443, val := Value.ref 94 }, { hash := PyData.keyHash P (Str.ofString "IOBase"), key := Value.str (Str.ofString "IOBase") 475, val := Value.ref 114 }, { hash := PyData.keyHash P (Str.ofString "BufferedIOBase"), key := Value.str (Str.ofString "BufferedIOBase") 493, val := Value.ref 129 }, { hash := PyData.keyHash P (Str.ofString "TextIOBase"), key := Value.str (Str.ofString "TextIOBase") 511, val := Value.ref 141 }, { hash := PyData.keyHash P (Str.ofString "BytesIO"), key := Value.str (Str.ofString "BytesIO") 773, val := Value.ref 371 }, { hash := PyData.keyHash P (Str.ofString "StringIO"), key := Value.str (Str.ofString "StringIO") 1060, val := Value.ref 618 }, { hash := PyData.keyHash P (Str.ofString "_kind"), key := Value.str (Str.ofString "_kind") 1071, val := Value.ref 627 }, { hash := PyData.keyHash P (Str.ofString "_fspath"), key := Value.str (Str.ofString "_fspath") 1080, val := Value.ref 634 }, { hash := PyData.keyHash P (Str.ofString "_check_arg_types"), key := Value.str (Str.ofString "_check_arg_types") 1090, val := Value.ref 641 }, { hash := PyData.keyHash P (Str.ofString "isabs"), key := Value.str (Str.ofString "isabs") 1097, val := Value.ref 648 }, { hash := PyData.keyHash P (Str.ofString "join"), key := Value.str (Str.ofString "join") 1108, val := Value.ref 772 }, { hash := PyData.keyHash P (Str.ofString "join_path"), key := Value.str (Str.ofString "join_path") 1109, val := Value.ref 655 }, { hash := PyData.keyHash P (Str.ofString "dirname"), key := Value.str (Str.ofString "dirname") 1119, val := Value.ref 662 }, { hash := PyData.keyHash P (Str.ofString "shlex"), key := Value.str (Str.ofString "shlex") 1260, val := Value.ref 753 }, { hash := PyData.keyHash P (Str.ofString "split"), key := Value.str (Str.ofString "split") 1270, val := Value.ref 765 }, { hash := PyData.keyHash P (Str.ofString "join_shlex"), key := Value.str (Str.ofString "join_shlex") 1278, val := Value.ref 772 }, { hash := PyData.keyHash P (Str.ofString "_find_unsafe"), key := Value.str (Str.ofString "_find_unsafe") 1280, val := Value.ref 773 }, { hash := PyData.keyHash P (Str.ofString "quote"), key := Value.str (Str.ofString "quote") 1287, val := Value.ref 780 }, { hash := PyData.keyHash P (Str.ofString "_law_numbers"), key := Value.str (Str.ofString "_law_numbers") 1295, val := Value.ref 785 }, { hash := PyData.keyHash P (Str.ofString "_law_chain"), key := Value.str (Str.ofString "_law_chain") 1306, val := Value.ref 792 }, { hash := PyData.keyHash P (Str.ofString "_law_line"), key := Value.str (Str.ofString "_law_line") 1312, val := Value.ref 797 }, { hash := PyData.keyHash P (Str.ofString "_law_at_once"), key := Value.str (Str.ofString "_law_at_once") 1318, val := Value.ref 802 }, { hash := PyData.keyHash P (Str.ofString "_law_from"), key := Value.str (Str.ofString "_law_from") 1328, val := Value.ref 809 }, { hash := PyData.keyHash P (Str.ofString "law"), key := Value.str (Str.ofString "law") 1334, val := Value.ref 814 }] 43 }) ::
  (nat_lit 45, { cls := Value.type "object" }) ::
  (nat_lit 46, { cls := Value.type "tuple", data := Data.seq #[Value.ref 45] }) ::
  (nat_lit 52, { cls := Value.type "code", data := Data.fields #[Value.str (Str.ofString "reduce") 334, Value.str (Str.ofString "reduce") 335, Value.str (Str.ofString "/claim/cut.py") 336, Value.int 8 0, Value.int 3 0, Value.int 0 0, Value.int 0 0, Value.int 3 0, Value.ref 47, Value.bool true, Value.int 318 0, Value.ref 48, Value.none, Value.ref 49, Value.ref 50, Value.ref 51, Value.int 343 0, Value.int 8 0, Value.str (Str.ofString "/claim/cut.py") 344] }) ::
  (nat_lit 53, fnObj (Str.ofString "reduce") (Value.ref 46) Value.none Value.none (Value.str (Str.ofString "cpy313.functools") 331) none (Value.ref 52) Value.none (stAt 5)) ::
  (nat_lit 57, { cls := Value.type "code", data := Data.fields #[Value.str (Str.ofString "_c3_merge") 346, Value.str (Str.ofString "_c3_merge") 347, Value.str (Str.ofString "/claim/cut.py") 348, Value.int 20 0, Value.int 1 0, Value.int 0 0, Value.int 0 0, Value.int 3 0, Value.ref 54, Value.bool true, Value.int 318 0, Value.ref 55, Value.none, Value.none, Value.none, Value.ref 56, Value.int 349 0, Value.int 20 0, Value.str (Str.ofString "/claim/cut.py") 350] }) ::
  (nat_lit 58, fnObj (Str.ofString "_c3_merge") Value.none Value.none Value.none (Value.str (Str.ofString "cpy313.functools") 331) none (Value.ref 57) Value.none (stAt 6)) ::
  (nat_lit 64, { cls := Value.type "code", data := Data.fields #[Value.str (Str.ofString "Int2AP") 354, Value.str (Str.ofString "Int2AP") 355, Value.str (Str.ofString "/claim/cut.py") 356, Value.int 41 0, Value.int 1 0, Value.int 0 0, Value.int 0 0, Value.int 3 0, Value.ref 59, Value.bool true, Value.int 318 0, Value.ref 60, Value.none, Value.ref 61, Value.ref 62, Value.ref 63, Value.int 361 0, Value.int 41 0, Value.str (Str.ofString "/claim/cut.py") 362] }) ::
  (nat_lit 65, fnObj (Str.ofString "Int2AP") Value.none Value.none Value.none (Value.str (Str.ofString "cpy313.imaplib") 352) none (Value.ref 64) Value.none (stAt 8)) ::
  (nat_lit 69, { cls := Value.type "tuple", data := Data.seq #[Value.int 14 0, Value.int 17 0, Value.int 4 0, Value.int 1 0, Value.int 1 0, Value.int 21 0, Value.int 9 0, Value.int 0 0, Value.int 604043296 0, Value.int 1 0, Value.int 0 0, Value.int 0 0, Value.int 0 0, Value.int 0 0, Value.int 0 0, Value.int 8 0, Value.int 4 0, Value.int 0 0, Value.int 13 0, Value.int 14 0, Value.int 21 0, Value.int 9 0, Value.int 0 0, Value.int 604043296 0, Value.int 1 0, Value.int 0 0, Value.int 0 0, Value.int 0 0, Value.int 0 0, Value.int 0 0, Value.int 8 0, Value.int 4 0, Value.int 0 0, Value.int 1 0] }) ::
  (nat_lit 70, { cls := Value.type "re.Pattern", data := Data.fields #[Value.str (Str.ofString "[^\\w@%+=:,./-]") 365, Value.int 256 402, Value.int 0 0, Value.none, Value.none, Value.ref 69, Value.int 0 0] }) ::
  (nat_lit 83, { cls := Value.type "code", data := Data.fields #[Value.str (Str.ofString "_index") 414, Value.str (Str.ofString "_index") 415, Value.str (Str.ofString "/claim/cut.py") 416, Value.int 56 0, Value.int 2 0, Value.int 0 0, Value.int 0 0, Value.int 3 0, Value.ref 78, Value.bool true, Value.int 318 0, Value.ref 79, Value.none, Value.ref 80, Value.ref 81, Value.ref 82, Value.int 419 0, Value.int 56 0, Value.str (Str.ofString "/claim/cut.py") 420] }) ::
  (nat_lit 84, fnObj (Str.ofString "_index") Value.none Value.none Value.none (Value.str (Str.ofString "io") 404) none (Value.ref 83) Value.none (stAt 12)) ::
  (nat_lit 93, { cls := Value.type "dict", data := Data.dict #[{ hash := PyData.keyHash P (Str.ofString "__module__"), key := Value.str (Str.ofString "__module__") 429, val := Value.str (Str.ofString "io") 434 }, { hash := PyData.keyHash P (Str.ofString "__firstlineno__"), key := Value.str (Str.ofString "__firstlineno__") 433, val := Value.int 63 432 }, { hash := PyData.keyHash P (Str.ofString "__static_attributes__"), key := Value.str (Str.ofString "__static_attributes__") 436, val := Value.ref 92 }, { hash := PyData.keyHash P (Str.ofString "__weakref__"), key := Value.str (Str.ofString "__weakref__") 438, val := Value.ref 95 }, { hash := PyData.keyHash P (Str.ofString "__doc__"), key := Value.str (Str.ofString "__doc__") 439, val := Value.none }] 3 }) ::
  (nat_lit 94, { cls := Value.type "type", data := Data.cls { name := Str.ofString "UnsupportedOperation", bases := [Value.type "OSError", Value.type "ValueError"], mro := [Value.ref 94, Value.type "OSError", Value.type "ValueError", Value.type "Exception", Value.type "BaseException", Value.type "object"], ns := 93, qualname := Str.ofString "UnsupportedOperation" }, slots := #[some (Value.ref 85), none, some (Value.str (Str.ofString "UnsupportedOperation") 422), some (Value.str (Str.ofString "UnsupportedOperation") 430), some (Value.builtin "OSError.__new__"), some (Value.bool true)] }) ::
  (nat_lit 110, { cls := Value.type "code", data := Data.fields #[Value.str (Str.ofString "__new__") 458, Value.str (Str.ofString "IOBase.__new__") 459, Value.str (Str.ofString "/claim/cut.py") 460, Value.int 68 0, Value.int 1 0, Value.int 1 0, Value.int 0 0, Value.int 15 0, Value.ref 105, Value.bool true, Value.int 318 0, Value.ref 106, Value.none, Value.ref 107, Value.ref 108, Value.ref 109, Value.int 464 0, Value.int 68 0, Value.str (Str.ofString "/claim/cut.py") 465] }) ::
  (nat_lit 111, fnObj (Str.ofString "IOBase.__new__") Value.none Value.none Value.none (Value.str (Str.ofString "io") 404) none (Value.ref 110) Value.none (mAt 14 1)) ::
  (nat_lit 113, { cls := Value.type "dict", data := Data.dict #[{ hash := PyData.keyHash P (Str.ofString "__module__"), key := Value.str (Str.ofString "__module__") 451, val := Value.str (Str.ofString "io") 456 }, { hash := PyData.keyHash P (Str.ofString "__firstlineno__"), key := Value.str (Str.ofString "__firstlineno__") 455, val := Value.int 65 454 }, { hash := PyData.keyHash P (Str.ofString "__new__"), key := Value.str (Str.ofString "__new__") 466, val := Value.ref 115 }, { hash := PyData.keyHash P (Str.ofString "__static_attributes__"), key := Value.str (Str.ofString "__static_attributes__") 467, val := Value.ref 112 }, { hash := PyData.keyHash P (Str.ofString "__dict__"), key := Value.str (Str.ofString "__dict__") 470, val := Value.ref 116 }, { hash := PyData.keyHash P (Str.ofString "__weakref__"), key := Value.str (Str.ofString "__weakref__") 472, val := Value.ref 117 }, { hash := PyData.keyHash P (Str.ofString "__doc__"), key := Value.str (Str.ofString "__doc__") 473, val := Value.none }] 4 }) ::
  (nat_lit 114, { cls := Value.type "type", data := Data.cls { name := Str.ofString "IOBase", bases := [Value.type "object"], mro := [Value.ref 114, Value.type "object"], ns := 113, qualname := Str.ofString "IOBase", subclasses := [Value.ref 129, Value.ref 141] }, slots := #[none, none, some (Value.str (Str.ofString "IOBase") 444), some (Value.str (Str.ofString "IOBase") 452), some Value.none, some (Value.bool true)] }) ::
  (nat_lit 115, { cls := Value.type "staticmethod", data := Data.fields #[Value.ref 111] }) ::
  (nat_lit 128, { cls := Value.type "dict", data := Data.dict #[{ hash := PyData.keyHash P (Str.ofString "__module__"), key := Value.str (Str.ofString "__module__") 483, val := Value.str (Str.ofString "io") 488 }, { hash := PyData.keyHash P (Str.ofString "__firstlineno__"), key := Value.str (Str.ofString "__firstlineno__") 487, val := Value.int 72 486 }, { hash := PyData.keyHash P (Str.ofString "__static_attributes__"), key := Value.str (Str.ofString "__static_attributes__") 490, val := Value.ref 127 }, { hash := PyData.keyHash P (Str.ofString "__doc__"), key := Value.str (Str.ofString "__doc__") 491, val := Value.none }] 2 }) ::
  (nat_lit 129, { cls := Value.type "type", data := Data.cls { name := Str.ofString "BufferedIOBase", bases := [Value.ref 114], mro := [Value.ref 129, Value.ref 114, Value.type "object"], ns := 128, qualname := Str.ofString "BufferedIOBase", subclasses := [Value.ref 371] }, slots := #[some (Value.ref 120), none, some (Value.str (Str.ofString "BufferedIOBase") 476), some (Value.str (Str.ofString "BufferedIOBase") 484), some Value.none, some (Value.bool true)] }) ::
  (nat_lit 140, { cls := Value.type "dict", data := Data.dict #[{ hash := PyData.keyHash P (Str.ofString "__module__"), key := Value.str (Str.ofString "__module__") 501, val := Value.str (Str.ofString "io") 506 }, { hash := PyData.keyHash P (Str.ofString "__firstlineno__"), key := Value.str (Str.ofString "__firstlineno__") 505, val := Value.int 74 504 }, { hash := PyData.keyHash P (Str.ofString "__static_attributes__"), key := Value.str (Str.ofString "__static_attributes__") 508, val := Value.ref 139 }, { hash := PyData.keyHash P (Str.ofString "__doc__"), key := Value.str (Str.ofString "__doc__") 509, val := Value.none }] 2 }) ::
  (nat_lit 141, { cls := Value.type "type", data := Data.cls { name := Str.ofString "TextIOBase", bases := [Value.ref 114], mro := [Value.ref 141, Value.ref 114, Value.type "object"], ns := 140, qualname := Str.ofString "TextIOBase", subclasses := [Value.ref 618] }, slots := #[some (Value.ref 132), none, some (Value.str (Str.ofString "TextIOBase") 494), some (Value.str (Str.ofString "TextIOBase") 502), some Value.none, some (Value.bool true)] }) ::
  (nat_lit 370, { cls := Value.type "dict", data := Data.dict #[{ hash := PyData.keyHash P (Str.ofString "__module__"), key := Value.str (Str.ofString "__module__") 519, val := Value.str (Str.ofString "_io") 524 }, { hash := PyData.keyHash P (Str.ofString "__firstlineno__"), key := Value.str (Str.ofString "__firstlineno__") 523, val := Value.int 76 522 }, { hash := PyData.keyHash P (Str.ofString "__init__"), key := Value.str (Str.ofString "__init__") 533, val := Value.ref 158 }, { hash := PyData.keyHash P (Str.ofString "_BytesIO__check"), key := Value.str (Str.ofString "_BytesIO__check") 540, val := Value.ref 165 }, { hash := PyData.keyHash P (Str.ofString "_BytesIO__line"), key := Value.str (Str.ofString "_BytesIO__line") 551, val := Value.ref 172 }, { hash := PyData.keyHash P (Str.ofString "closed"), key := Value.str (Str.ofString "closed") 559, val := Value.ref 180 }, { hash := PyData.keyHash P (Str.ofString "close"), key := Value.str (Str.ofString "close") 566, val := Value.ref 187 }, { hash := PyData.keyHash P (Str.ofString "__enter__"), key := Value.str (Str.ofString "__enter__") 573, val := Value.ref 194 }, { hash := PyData.keyHash P (Str.ofString "__exit__"), key := Value.str (Str.ofString "__exit__") 581, val := Value.ref 201 }, { hash := PyData.keyHash P (Str.ofString "readable"), key := Value.str (Str.ofString "readable") 588, val := Value.ref 208 }, { hash := PyData.keyHash P (Str.ofString "writable"), key := Value.str (Str.ofString "writable") 595, val := Value.ref 215 }, { hash := PyData.keyHash P (Str.ofString "seekable"), key := Value.str (Str.ofString "seekable") 602, val := Value.ref 222 }, { hash := PyData.keyHash P (Str.ofString "isatty"), key := Value.str (Str.ofString "isatty") 609, val := Value.ref 229 }, { hash := PyData.keyHash P (Str.ofString "flush"), key := Value.str (Str.ofString "flush") 616, val := Value.ref 236 }, { hash := PyData.keyHash P (Str.ofString "fileno"), key := Value.str (Str.ofString "fileno") 623, val := Value.ref 243 }, { hash := PyData.keyHash P (Str.ofString "detach"), key := Value.str (Str.ofString "detach") 630, val := Value.ref 250 }, { hash := PyData.keyHash P (Str.ofString "getvalue"), key := Value.str (Str.ofString "getvalue") 637, val := Value.ref 257 }, { hash := PyData.keyHash P (Str.ofString "getbuffer"), key := Value.str (Str.ofString "getbuffer") 644, val := Value.ref 264 }, { hash := PyData.keyHash P (Str.ofString "tell"), key := Value.str (Str.ofString "tell") 651, val := Value.ref 271 }, { hash := PyData.keyHash P (Str.ofString "seek"), key := Value.str (Str.ofString "seek") 661, val := Value.ref 279 }, { hash := PyData.keyHash P (Str.ofString "truncate"), key := Value.str (Str.ofString "truncate") 669, val := Value.ref 287 }, { hash := PyData.keyHash P (Str.ofString "read"), key := Value.str (Str.ofString "read") 681, val := Value.ref 295 }, { hash := PyData.keyHash P (Str.ofString "read1"), key := Value.str (Str.ofString "read1") 691, val := Value.ref 303 }, { hash := PyData.keyHash P (Str.ofString "readinto"), key := Value.str (Str.ofString "readinto") 701, val := Value.ref 310 }, { hash := PyData.keyHash P (Str.ofString "readinto1"), key := Value.str (Str.ofString "readinto1") 709, val := Value.ref 317 }, { hash := PyData.keyHash P (Str.ofString "readline"), key := Value.str (Str.ofString "readline") 719, val := Value.ref 325 }, { hash := PyData.keyHash P (Str.ofString "readlines"), key := Value.str (Str.ofString "readlines") 727, val := Value.ref 333 }, { hash := PyData.keyHash P (Str.ofString "__iter__"), key := Value.str (Str.ofString "__iter__") 734, val := Value.ref 340 }, { hash := PyData.keyHash P (Str.ofString "__next__"), key := Value.str (Str.ofString "__next__") 742, val := Value.ref 347 }, { hash := PyData.keyHash P (Str.ofString "write"), key := Value.str (Str.ofString "write") 752, val := Value.ref 354 }, { hash := PyData.keyHash P (Str.ofString "writelines"), key := Value.str (Str.ofString "writelines") 760, val := Value.ref 361 }, { hash := PyData.keyHash P (Str.ofString "__repr__"), key := Value.str (Str.ofString "__repr__") 767, val := Value.ref 368 }, { hash := PyData.keyHash P (Str.ofString "__static_attributes__"), key := Value.str (Str.ofString "__static_attributes__") 770, val := Value.ref 369 }, { hash := PyData.keyHash P (Str.ofString "__doc__"), key := Value.str (Str.ofString "__doc__") 771, val := Value.none }] 2 }) ::
  (nat_lit 371, { cls := Value.type "type", data := Data.cls { name := Str.ofString "BytesIO", bases := [Value.ref 129], mro := [Value.ref 371, Value.ref 129, Value.ref 114, Value.type "object"], ns := 370, qualname := Str.ofString "BytesIO" }, slots := #[some (Value.ref 144), none, some (Value.str (Str.ofString "BytesIO") 512), some (Value.str (Str.ofString "BytesIO") 520), some Value.none, some (Value.bool true)] }) ::
  (nat_lit 381, { cls := Value.type "tuple", data := Data.seq #[Value.str (Str.ofString "") 788, Value.str (Str.ofString "\n") 789] }) ::
  (nat_lit 387, { cls := Value.type "code", data := Data.fields #[Value.str (Str.ofString "__init__") 790, Value.str (Str.ofString "StringIO.__init__") 791, Value.str (Str.ofString "/claim/cut.py") 792, Value.int 249 0, Value.int 3 0, Value.int 0 0, Value.int 0 0, Value.int 3 0, Value.ref 382, Value.bool true, Value.int 318 0, Value.ref 383, Value.none, Value.ref 384, Value.ref 385, Value.ref 386, Value.int 796 0, Value.int 249 0, Value.str (Str.ofString "/claim/cut.py") 797] }) ::
  (nat_lit 388, fnObj (Str.ofString "StringIO.__init__") (Value.ref 381) Value.none Value.none (Value.str (Str.ofString "io") 404) none (Value.ref 387) Value.none (mAt 18 1)) ::
  (nat_lit 394, { cls := Value.type "code", data := Data.fields #[Value.str (Str.ofString "__translated") 799, Value.str (Str.ofString "StringIO.__translated") 800, Value.str (Str.ofString "/claim/cut.py") 801, Value.int 262 0, Value.int 2 0, Value.int 0 0, Value.int 0 0, Value.int 3 0, Value.ref 389, Value.bool true, Value.int 318 0, Value.ref 390, Value.none, Value.ref 391, Value.ref 392, Value.ref 393, Value.int 805 0, Value.int 262 0, Value.str (Str.ofString "/claim/cut.py") 806] }) ::
  (nat_lit 395, fnObj (Str.ofString "StringIO.__translated") Value.none Value.none Value.none (Value.str (Str.ofString "io") 404) none (Value.ref 394) Value.none (mAt 18 2)) ::
  (nat_lit 401, { cls := Value.type "code", data := Data.fields #[Value.str (Str.ofString "__check") 808, Value.str (Str.ofString "StringIO.__check") 809, Value.str (Str.ofString "/claim/cut.py") 810, Value.int 270 0, Value.int 1 0, Value.int 0 0, Value.int 0 0, Value.int 3 0, Value.ref 396, Value.bool true, Value.int 318 0, Value.ref 397, Value.none, Value.ref 398, Value.ref 399, Value.ref 400, Value.int 812 0, Value.int 270 0, Value.str (Str.ofString "/claim/cut.py") 813] }) ::
  (nat_lit 402, fnObj (Str.ofString "StringIO.__check") Value.none Value.none Value.none (Value.str (Str.ofString "io") 404) none (Value.ref 401) Value.none (mAt 18 3)) ::
  (nat_lit 557, { cls := Value.type "tuple", data := Data.seq #[Value.int (-1) 981] }) ::
  (nat_lit 563, { cls := Value.type "code", data := Data.fields #[Value.str (Str.ofString "read") 982, Value.str (Str.ofString "StringIO.read") 983, Value.str (Str.ofString "/claim/cut.py") 984, Value.int 392 0, Value.int 2 0, Value.int 2 0, Value.int 0 0, Value.int 3 0, Value.ref 558, Value.bool true, Value.int 318 0, Value.ref 559, Value.none, Value.ref 560, Value.ref 561, Value.ref 562, Value.int 989 0, Value.int 392 0, Value.str (Str.ofString "/claim/cut.py") 990] }) ::
  (nat_lit 564, fnObj (Str.ofString "StringIO.read") (Value.ref 557) Value.none Value.none (Value.str (Str.ofString "io") 404) none (Value.ref 563) Value.none (mAt 18 25)) ::
  (nat_lit 617, { cls := Value.type "dict", data := Data.dict #[{ hash := PyData.keyHash P (Str.ofString "__module__"), key := Value.str (Str.ofString "__module__") 781, val := Value.str (Str.ofString "_io") 786 }, { hash := PyData.keyHash P (Str.ofString "__firstlineno__"), key := Value.str (Str.ofString "__firstlineno__") 785, val := Value.int 246 784 }, { hash := PyData.keyHash P (Str.ofString "__init__"), key := Value.str (Str.ofString "__init__") 798, val := Value.ref 388 }, { hash := PyData.keyHash P (Str.ofString "_StringIO__translated"), key := Value.str (Str.ofString "_StringIO__translated") 807, val := Value.ref 395 }, { hash := PyData.keyHash P (Str.ofString "_StringIO__check"), key := Value.str (Str.ofString "_StringIO__check") 814, val := Value.ref 402 }, { hash := PyData.keyHash P (Str.ofString "_StringIO__check_dot"), key := Value.str (Str.ofString "_StringIO__check_dot") 821, val := Value.ref 409 }, { hash := PyData.keyHash P (Str.ofString "_StringIO__line"), key := Value.str (Str.ofString "_StringIO__line") 836, val := Value.ref 416 }, { hash := PyData.keyHash P (Str.ofString "closed"), key := Value.str (Str.ofString "closed") 844, val := Value.ref 424 }, { hash := PyData.keyHash P (Str.ofString "line_buffering"), key := Value.str (Str.ofString "line_buffering") 852, val := Value.ref 432 }, { hash := PyData.keyHash P (Str.ofString "newlines"), key := Value.str (Str.ofString "newlines") 860, val := Value.ref 440 }, { hash := PyData.keyHash P (Str.ofString "encoding"), key := Value.str (Str.ofString "encoding") 868, val := Value.ref 448 }, { hash := PyData.keyHash P (Str.ofString "errors"), key := Value.str (Str.ofString "errors") 876, val := Value.ref 456 }, { hash := PyData.keyHash P (Str.ofString "close"), key := Value.str (Str.ofString "close") 883, val := Value.ref 463 }, { hash := PyData.keyHash P (Str.ofString "__enter__"), key := Value.str (Str.ofString "__enter__") 890, val := Value.ref 470 }, { hash := PyData.keyHash P (Str.ofString "__exit__"), key := Value.str (Str.ofString "__exit__") 898, val := Value.ref 477 }, { hash := PyData.keyHash P (Str.ofString "readable"), key := Value.str (Str.ofString "readable") 905, val := Value.ref 484 }, { hash := PyData.keyHash P (Str.ofString "writable"), key := Value.str (Str.ofString "writable") 912, val := Value.ref 491 }, { hash := PyData.keyHash P (Str.ofString "seekable"), key := Value.str (Str.ofString "seekable") 919, val := Value.ref 498 }, { hash := PyData.keyHash P (Str.ofString "isatty"), key := Value.str (Str.ofString "isatty") 926, val := Value.ref 505 }, { hash := PyData.keyHash P (Str.ofString "flush"), key := Value.str (Str.ofString "flush") 933, val := Value.ref 512 }, { hash := PyData.keyHash P (Str.ofString "fileno"), key := Value.str (Str.ofString "fileno") 940, val := Value.ref 519 }, { hash := PyData.keyHash P (Str.ofString "detach"), key := Value.str (Str.ofString "detach") 947, val := Value.ref 526 }, { hash := PyData.keyHash P (Str.ofString "getvalue"), key := Value.str (Str.ofString "getvalue") 954, val := Value.ref 533 }, { hash := PyData.keyHash P (Str.ofString "tell"), key := Value.str (Str.ofString "tell") 961, val := Value.ref 540 }, { hash := PyData.keyHash P (Str.ofString "seek"), key := Value.str (Str.ofString "seek") 971, val := Value.ref 548 }, { hash := PyData.keyHash P (Str.ofString "truncate"), key := Value.str (Str.ofString "truncate") 979, val := Value.ref 556 }, { hash := PyData.keyHash P (Str.ofString "read"), key := Value.str (Str.ofString "read") 991, val := Value.ref 564 }, { hash := PyData.keyHash P (Str.ofString "readline"), key := Value.str (Str.ofString "readline") 1001, val := Value.ref 572 }, { hash := PyData.keyHash P (Str.ofString "readlines"), key := Value.str (Str.ofString "readlines") 1011, val := Value.ref 580 }, { hash := PyData.keyHash P (Str.ofString "__iter__"), key := Value.str (Str.ofString "__iter__") 1018, val := Value.ref 587 }, { hash := PyData.keyHash P (Str.ofString "__next__"), key := Value.str (Str.ofString "__next__") 1026, val := Value.ref 594 }, { hash := PyData.keyHash P (Str.ofString "write"), key := Value.str (Str.ofString "write") 1038, val := Value.ref 601 }, { hash := PyData.keyHash P (Str.ofString "writelines"), key := Value.str (Str.ofString "writelines") 1046, val := Value.ref 608 }, { hash := PyData.keyHash P (Str.ofString "__repr__"), key := Value.str (Str.ofString "__repr__") 1053, val := Value.ref 615 }, { hash := PyData.keyHash P (Str.ofString "__static_attributes__"), key := Value.str (Str.ofString "__static_attributes__") 1057, val := Value.ref 616 }, { hash := PyData.keyHash P (Str.ofString "__doc__"), key := Value.str (Str.ofString "__doc__") 1058, val := Value.none }] 2 }) ::
  (nat_lit 618, { cls := Value.type "type", data := Data.cls { name := Str.ofString "StringIO", bases := [Value.ref 141], mro := [Value.ref 618, Value.ref 141, Value.ref 114, Value.type "object"], ns := 617, qualname := Str.ofString "StringIO" }, slots := #[some (Value.ref 374), none, some (Value.str (Str.ofString "StringIO") 774), some (Value.str (Str.ofString "StringIO") 782), some Value.none, some (Value.bool true)] }) ::
  (nat_lit 670, { cls := Value.type "tuple", data := Data.seq #[Value.none, Value.none, Value.bool false, Value.bool false] }) ::
  (nat_lit 676, { cls := Value.type "code", data := Data.fields #[Value.str (Str.ofString "__init__") 1134, Value.str (Str.ofString "shlex.__init__") 1135, Value.str (Str.ofString "/claim/cut.py") 1136, Value.int 518 0, Value.int 5 0, Value.int 0 0, Value.int 0 0, Value.int 3 0, Value.ref 671, Value.bool true, Value.int 318 0, Value.ref 672, Value.none, Value.ref 673, Value.ref 674, Value.ref 675, Value.int 1143 0, Value.int 518 0, Value.str (Str.ofString "/claim/cut.py") 1144] }) ::
  (nat_lit 677, fnObj (Str.ofString "shlex.__init__") (Value.ref 670) Value.none Value.none (Value.str (Str.ofString "cpy313.shlex") 1120) none (Value.ref 676) Value.none (mAt 28 0)) ::
  (nat_lit 683, { cls := Value.type "code", data := Data.fields #[Value.str (Str.ofString "punctuation_chars") 1146, Value.str (Str.ofString "shlex.punctuation_chars") 1147, Value.str (Str.ofString "/claim/cut.py") 1148, Value.int 559 0, Value.int 1 0, Value.int 0 0, Value.int 0 0, Value.int 3 0, Value.ref 678, Value.bool true, Value.int 318 0, Value.ref 679, Value.none, Value.ref 680, Value.ref 681, Value.ref 682, Value.int 1150 0, Value.int 559 0, Value.str (Str.ofString "/claim/cut.py") 1151] }) ::
  (nat_lit 684, fnObj (Str.ofString "shlex.punctuation_chars") Value.none Value.none Value.none (Value.str (Str.ofString "cpy313.shlex") 1120) none (Value.ref 683) Value.none (mAt 28 1)) ::
  (nat_lit 685, { cls := Value.type "property", data := Data.fields #[Value.ref 684, Value.none, Value.none, Value.none, Value.str (Str.ofString "punctuation_chars") 1153, Value.bool false] }) ::
  (nat_lit 713, { cls := Value.type "code", data := Data.fields #[Value.str (Str.ofString "get_token") 1178, Value.str (Str.ofString "shlex.get_token") 1179, Value.str (Str.ofString "/claim/cut.py") 1180, Value.int 586 0, Value.int 1 0, Value.int 0 0, Value.int 0 0, Value.int 3 0, Value.ref 708, Value.bool true, Value.int 318 0, Value.ref 709, Value.none, Value.ref 710, Value.ref 711, Value.ref 712, Value.int 1187 0, Value.int 586 0, Value.str (Str.ofString "/claim/cut.py") 1188] }) ::
  (nat_lit 714, fnObj (Str.ofString "shlex.get_token") Value.none Value.none Value.none (Value.str (Str.ofString "cpy313.shlex") 1120) none (Value.ref 713) Value.none (mAt 28 5)) ::
  (nat_lit 720, { cls := Value.type "code", data := Data.fields #[Value.str (Str.ofString "read_token") 1190, Value.str (Str.ofString "shlex.read_token") 1191, Value.str (Str.ofString "/claim/cut.py") 1192, Value.int 613 0, Value.int 1 0, Value.int 0 0, Value.int 0 0, Value.int 3 0, Value.ref 715, Value.bool true, Value.int 318 0, Value.ref 716, Value.none, Value.ref 717, Value.ref 718, Value.ref 719, Value.int 1198 0, Value.int 613 0, Value.str (Str.ofString "/claim/cut.py") 1199] }) ::
  (nat_lit 721, fnObj (Str.ofString "shlex.read_token") Value.none Value.none Value.none (Value.str (Str.ofString "cpy313.shlex") 1120) none (Value.ref 720) Value.none (mAt 28 6)) ::
  (nat_lit 742, { cls := Value.type "code", data := Data.fields #[Value.str (Str.ofString "__iter__") 1218, Value.str (Str.ofString "shlex.__iter__") 1219, Value.str (Str.ofString "/claim/cut.py") 1220, Value.int 760 0, Value.int 1 0, Value.int 0 0, Value.int 0 0, Value.int 3 0, Value.ref 737, Value.bool true, Value.int 318 0, Value.ref 738, Value.none, Value.ref 739, Value.ref 740, Value.ref 741, Value.int 1222 0, Value.int 760 0, Value.str (Str.ofString "/claim/cut.py") 1223] }) ::
  (nat_lit 743, fnObj (Str.ofString "shlex.__iter__") Value.none Value.none Value.none (Value.str (Str.ofString "cpy313.shlex") 1120) none (Value.ref 742) Value.none (mAt 28 9)) ::
  (nat_lit 749, { cls := Value.type "code", data := Data.fields #[Value.str (Str.ofString "__next__") 1225, Value.str (Str.ofString "shlex.__next__") 1226, Value.str (Str.ofString "/claim/cut.py") 1227, Value.int 763 0, Value.int 1 0, Value.int 0 0, Value.int 0 0, Value.int 3 0, Value.ref 744, Value.bool true, Value.int 318 0, Value.ref 745, Value.none, Value.ref 746, Value.ref 747, Value.ref 748, Value.int 1230 0, Value.int 763 0, Value.str (Str.ofString "/claim/cut.py") 1231] }) ::
  (nat_lit 750, fnObj (Str.ofString "shlex.__next__") Value.none Value.none Value.none (Value.str (Str.ofString "cpy313.shlex") 1120) none (Value.ref 749) Value.none (mAt 28 10)) ::
  (nat_lit 752, { cls := Value.type "dict", data := Data.dict #[{ hash := PyData.keyHash P (Str.ofString "__module__"), key := Value.str (Str.ofString "__module__") 1129, val := Value.str (Str.ofString "cpy313.shlex") 1120 }, { hash := PyData.keyHash P (Str.ofString "__firstlineno__"), key := Value.str (Str.ofString "__firstlineno__") 1133, val := Value.int 516 1132 }, { hash := PyData.keyHash P (Str.ofString "__init__"), key := Value.str (Str.ofString "__init__") 1145, val := Value.ref 677 }, { hash := PyData.keyHash P (Str.ofString "punctuation_chars"), key := Value.str (Str.ofString "punctuation_chars") 1153, val := Value.ref 685 }, { hash := PyData.keyHash P (Str.ofString "push_token"), key := Value.str (Str.ofString "push_token") 1161, val := Value.ref 692 }, { hash := PyData.keyHash P (Str.ofString "push_source"), key := Value.str (Str.ofString "push_source") 1170, val := Value.ref 700 }, { hash := PyData.keyHash P (Str.ofString "pop_source"), key := Value.str (Str.ofString "pop_source") 1177, val := Value.ref 707 }, { hash := PyData.keyHash P (Str.ofString "get_token"), key := Value.str (Str.ofString "get_token") 1189, val := Value.ref 714 }, { hash := PyData.keyHash P (Str.ofString "read_token"), key := Value.str (Str.ofString "read_token") 1200, val := Value.ref 721 }, { hash := PyData.keyHash P (Str.ofString "sourcehook"), key := Value.str (Str.ofString "sourcehook") 1208, val := Value.ref 728 }, { hash := PyData.keyHash P (Str.ofString "error_leader"), key := Value.str (Str.ofString "error_leader") 1217, val := Value.ref 736 }, { hash := PyData.keyHash P (Str.ofString "__iter__"), key := Value.str (Str.ofString "__iter__") 1224, val := Value.ref 743 }, { hash := PyData.keyHash P (Str.ofString "__next__"), key := Value.str (Str.ofString "__next__") 1232, val := Value.ref 750 }, { hash := PyData.keyHash P (Str.ofString "__static_attributes__"), key := Value.str (Str.ofString "__static_attributes__") 1253, val := Value.ref 751 }, { hash := PyData.keyHash P (Str.ofString "__dict__"), key := Value.str (Str.ofString "__dict__") 1255, val := Value.ref 754 }, { hash := PyData.keyHash P (Str.ofString "__weakref__"), key := Value.str (Str.ofString "__weakref__") 1257, val := Value.ref 755 }, { hash := PyData.keyHash P (Str.ofString "__doc__"), key := Value.str (Str.ofString "__doc__") 1258, val := Value.none }] 4 }) ::
  (nat_lit 753, { cls := Value.type "type", data := Data.cls { name := Str.ofString "shlex", bases := [Value.type "object"], mro := [Value.ref 753, Value.type "object"], ns := 752, qualname := Str.ofString "shlex" }, slots := #[none, none, some (Value.str (Str.ofString "shlex") 1122), some (Value.str (Str.ofString "shlex") 1130), some (Value.builtin "object.__new__"), some (Value.bool true)] }) ::
  (nat_lit 758, { cls := Value.type "tuple", data := Data.seq #[Value.bool false, Value.bool true] }) ::
  (nat_lit 764, { cls := Value.type "code", data := Data.fields #[Value.str (Str.ofString "split") 1261, Value.str (Str.ofString "split") 1262, Value.str (Str.ofString "/claim/cut.py") 1263, Value.int 768 0, Value.int 3 0, Value.int 0 0, Value.int 0 0, Value.int 3 0, Value.ref 759, Value.bool true, Value.int 318 0, Value.ref 760, Value.none, Value.ref 761, Value.ref 762, Value.ref 763, Value.int 1268 0, Value.int 768 0, Value.str (Str.ofString "/claim/cut.py") 1269] }) ::
  (nat_lit 765, fnObj (Str.ofString "split") (Value.ref 758) Value.none Value.none (Value.str (Str.ofString "cpy313.shlex") 1120) none (Value.ref 764) Value.none (stAt 29)) ::
  (nat_lit 771, { cls := Value.type "code", data := Data.fields #[Value.str (Str.ofString "join") 1271, Value.str (Str.ofString "join") 1272, Value.str (Str.ofString "/claim/cut.py") 1273, Value.int 776 0, Value.int 1 0, Value.int 0 0, Value.int 0 0, Value.int 3 0, Value.ref 766, Value.bool true, Value.int 318 0, Value.ref 767, Value.none, Value.ref 768, Value.ref 769, Value.ref 770, Value.int 1275 0, Value.int 776 0, Value.str (Str.ofString "/claim/cut.py") 1276] }) ::
  (nat_lit 772, fnObj (Str.ofString "join") Value.none Value.none Value.none (Value.str (Str.ofString "cpy313.shlex") 1120) none (Value.ref 771) Value.none (stAt 30)) ::
  (nat_lit 773, { cls := Value.type "builtin_function_or_method", data := Data.fields #[Value.builtin "re.Pattern.search", Value.ref 70] }) ::
  (nat_lit 779, { cls := Value.type "code", data := Data.fields #[Value.str (Str.ofString "quote") 1281, Value.str (Str.ofString "quote") 1282, Value.str (Str.ofString "/claim/cut.py") 1283, Value.int 780 0, Value.int 1 0, Value.int 0 0, Value.int 0 0, Value.int 3 0, Value.ref 774, Value.bool true, Value.int 318 0, Value.ref 775, Value.none, Value.ref 776, Value.ref 777, Value.ref 778, Value.int 1285 0, Value.int 780 0, Value.str (Str.ofString "/claim/cut.py") 1286] }) ::
  (nat_lit 780, fnObj (Str.ofString "quote") Value.none Value.none Value.none (Value.str (Str.ofString "cpy313.shlex") 1120) none (Value.ref 779) Value.none (stAt 33)) ::
  (nat_lit 784, { cls := Value.type "code", data := Data.fields #[Value.str (Str.ofString "_law_numbers") 1290, Value.str (Str.ofString "_law_numbers") 1291, Value.str (Str.ofString "/claim/cut.py") 1292, Value.int 787 0, Value.int 1 0, Value.int 0 0, Value.int 0 0, Value.int 3 0, Value.ref 781, Value.bool true, Value.int 318 0, Value.ref 782, Value.none, Value.none, Value.none, Value.ref 783, Value.int 1293 0, Value.int 787 0, Value.str (Str.ofString "/claim/cut.py") 1294] }) ::
  (nat_lit 785, fnObj (Str.ofString "_law_numbers") Value.none Value.none Value.none (Value.str (Str.ofString "law_ik0072_01") 1288) none (Value.ref 784) Value.none (stAt 35)) ::
  (nat_lit 791, { cls := Value.type "code", data := Data.fields #[Value.str (Str.ofString "_law_chain") 1296, Value.str (Str.ofString "_law_chain") 1297, Value.str (Str.ofString "/claim/cut.py") 1298, Value.int 794 0, Value.int 2 0, Value.int 0 0, Value.int 0 0, Value.int 3 0, Value.ref 786, Value.bool true, Value.int 318 0, Value.ref 787, Value.none, Value.ref 788, Value.ref 789, Value.ref 790, Value.int 1304 0, Value.int 794 0, Value.str (Str.ofString "/claim/cut.py") 1305] }) ::
  (nat_lit 792, fnObj (Str.ofString "_law_chain") Value.none Value.none Value.none (Value.str (Str.ofString "law_ik0072_01") 1288) none (Value.ref 791) Value.none (stAt 36)) ::
  (nat_lit 796, { cls := Value.type "code", data := Data.fields #[Value.str (Str.ofString "_law_line") 1307, Value.str (Str.ofString "_law_line") 1308, Value.str (Str.ofString "/claim/cut.py") 1309, Value.int 803 0, Value.int 1 0, Value.int 0 0, Value.int 0 0, Value.int 3 0, Value.ref 793, Value.bool true, Value.int 318 0, Value.ref 794, Value.none, Value.none, Value.none, Value.ref 795, Value.int 1310 0, Value.int 803 0, Value.str (Str.ofString "/claim/cut.py") 1311] }) ::
  (nat_lit 797, fnObj (Str.ofString "_law_line") Value.none Value.none Value.none (Value.str (Str.ofString "law_ik0072_01") 1288) none (Value.ref 796) Value.none (stAt 37)) ::
  (nat_lit 801, { cls := Value.type "code", data := Data.fields #[Value.str (Str.ofString "_law_at_once") 1313, Value.str (Str.ofString "_law_at_once") 1314, Value.str (Str.ofString "/claim/cut.py") 1315, Value.int 805 0, Value.int 1 0, Value.int 0 0, Value.int 0 0, Value.int 3 0, Value.ref 798, Value.bool true, Value.int 318 0, Value.ref 799, Value.none, Value.none, Value.none, Value.ref 800, Value.int 1316 0, Value.int 805 0, Value.str (Str.ofString "/claim/cut.py") 1317] }) ::
  (nat_lit 802, fnObj (Str.ofString "_law_at_once") Value.none Value.none Value.none (Value.str (Str.ofString "law_ik0072_01") 1288) none (Value.ref 801) Value.none (stAt 38)) ::
  (nat_lit 808, { cls := Value.type "code", data := Data.fields #[Value.str (Str.ofString "_law_from") 1319, Value.str (Str.ofString "_law_from") 1320, Value.str (Str.ofString "/claim/cut.py") 1321, Value.int 817 0, Value.int 2 0, Value.int 0 0, Value.int 0 0, Value.int 3 0, Value.ref 803, Value.bool true, Value.int 318 0, Value.ref 804, Value.none, Value.ref 805, Value.ref 806, Value.ref 807, Value.int 1326 0, Value.int 817 0, Value.str (Str.ofString "/claim/cut.py") 1327] }) ::
  (nat_lit 809, fnObj (Str.ofString "_law_from") Value.none Value.none Value.none (Value.str (Str.ofString "law_ik0072_01") 1288) none (Value.ref 808) Value.none (stAt 39)) ::
  (nat_lit 813, { cls := Value.type "code", data := Data.fields #[Value.str (Str.ofString "law") 1329, Value.str (Str.ofString "law") 1330, Value.str (Str.ofString "/claim/cut.py") 1331, Value.int 823 0, Value.int 1 0, Value.int 0 0, Value.int 0 0, Value.int 3 0, Value.ref 810, Value.bool true, Value.int 318 0, Value.ref 811, Value.none, Value.none, Value.none, Value.ref 812, Value.int 1332 0, Value.int 823 0, Value.str (Str.ofString "/claim/cut.py") 1333] }) ::
  (nat_lit 814, fnObj (Str.ofString "law") Value.none Value.none Value.none (Value.str (Str.ofString "law_ik0072_01") 1288) none (Value.ref 813) Value.none (stAt 40)) :: []
noncomputable def KAs : List Addr := [2, 3, 45, 46, 52, 53, 57, 58, 64, 65, 69, 70, 83, 84, 93, 94, 110, 111, 113, 114, 115, 128, 129, 140, 141, 370, 371, 381, 387, 388, 394, 395, 401, 402, 557, 563, 564, 617, 618, 670, 676, 677, 683, 684, 685, 713, 714, 720, 721, 742, 743, 749, 750, 752, 753, 758, 764, 765, 771, 772, 773, 779, 780, 784, 785, 791, 792, 796, 797, 801, 802, 808, 809, 813, 814]
theorem kas (P : Params) : KAs = (KK P).map (·.1) := by kernel_rfl
noncomputable abbrev KH : Hook := kmHook KK KAs kas [767, 811]
noncomputable abbrev Xt : Shared → Bool := fun s => xlAt qv [] s && recOk (RowW.records PySem.Challenge.rw_ik0072_01.row.toRowW) s
noncomputable def seenP (p q : Program) (w : World) := (openEndsT treeTable p w 12000).map (fun s => (openSeen q loose (importedModules p.main.body) (fun s => xlAt q [] s && recOk [] s) true s, (KAs.map s.heap.get?, ([767, 811] : List Addr).map s.heap.get?)))
noncomputable def goodP (q : Program) := openGood q loose
end
lay_quick Mine.seenP Mine.goodP
theorem same (w : World) : PySem.W.Fast.tw8242757353448015592 prog qv w = some (PySem.W.Fast.tw219910460743758431 qv, ((KK w.params).map fun p => some p.2, ([767, 811] : List Addr).map fun _ => some (tabObj #[]))) := by kernel_rfl
theorem left : LeftO prog qv loose Xt (Hook.obs KH) (Hook.val KH) 12000 :=
  leftT fun w => ((congrFun (congrFun (congrFun PySem.W.Fast.te8242757353448015592 prog) qv) w).trans (same w)).trans (congrArg (fun z => some (z qv, ((KK w.params).map fun p => some p.2, ([767, 811] : List Addr).map fun _ => some (tabObj #[])))) PySem.W.Fast.te219910460743758431.symm)
end
section
open PySem PySem.W PySem.Spec PySem.Calls PyProof.Rows
noncomputable abbrev Ent := Addr × Obj
noncomputable abbrev Fm := Str → Option Value
/-- what a piece may do to the state beside the heap -/
structure Ok (s s' : Shared) : Prop where
  os : s'.os = s.os
  gens : AllBare s.gens → AllBare s'.gens
theorem Ok.refl (s : Shared) : Ok s s := ⟨rfl, id⟩
theorem Ok.trans {a b c : Shared} (x : Ok a b) (y : Ok b c) : Ok a c := ⟨y.os.trans x.os, fun h => y.gens (x.gens h)⟩
theorem Ok.heap (s : Shared) (h : Heap) (t : Nat) : Ok s { s with heap := h, toks := t } := ⟨rfl, id⟩
noncomputable def TurnEnd (h₀ : Heap) (L : Addr) (It : Ent) (J' : Fm → List Ent → Prop) (s₁ : Shared) (Qb : Shared → Prop) (Qr : Value → Shared → Prop) (f : Flow) (s₂ : Shared) : Prop :=
  match f with
  | .brk => Qb s₂
  | .ret v => Qr v s₂
  | _ => ∃ m₂ led₂, Fr h₀ L s₂.heap m₂ ∧ News h₀ L s₂.heap (It :: led₂) ∧ J' m₂ led₂ ∧ Ok s₁ s₂
section
variable {prog : Program} {w : World} {A : Around} {s : Shared} {env : Env} {h₀ : Heap}
theorem News.but {L I : Addr} {h h' : Heap} {led : List Ent} (N : News h₀ L h led) (hk : Heap.ExtBut I h h') (hI : ∀ p ∈ led, p.1 ≠ I) : News h₀ L h' led :=
  fun p hp => ⟨hk _ _ (hI p hp) (N p hp).1, (N p hp).2⟩
theorem Fr.but {L I : Addr} {h h' : Heap} {m : Fm} (F : Fr h₀ L h m) (hk : Heap.ExtBut I h h') (hL : L ≠ I) (hI : h₀.get? I = none) : Fr h₀ L h' m :=
  ⟨F.ns.at' fun o e => hk L o hL e, fun b o e => hk b o (fun hm => by rw [hm, hI] at e; cases e) (F.keep b o e), F.above⟩
theorem ne_of_adr {led led' : List Ent} {I : Addr} (e : led'.map (·.1) = led.map (·.1)) (h : ∀ p ∈ led, p.1 ≠ I) : ∀ p ∈ led', p.1 ≠ I := by
  intro p hp q
  have h1 : p.1 ∈ led'.map (·.1) := List.mem_map_of_mem hp
  rw [e] at h1
  obtain ⟨r, hr, hq⟩ := List.mem_map.mp h1
  exact h r hr (hq.trans q)
/-- a for over a list that the ledger bears; the ledger's addresses stay -/
noncomputable def ForSrc (prog : Program) (w : World) (A : Around) (h₀ : Heap) (env : Env) (x : Str) (body orelse : List Stmt) (Q : Flow → Shared → Prop) (xv : Value) (s : Shared) : Prop :=
  ∃ (l : Addr) (vs : List Value) (n : Nat) (m : Fm) (led : List Ent) (J : Nat → Fm → List Ent → Prop), xv = .ref l ∧ Fr h₀ env.locals s.heap m ∧ News h₀ env.locals s.heap led ∧
    (∀ i m' led', J i m' led' → led'.map (·.1) = led.map (·.1) ∧ (l, listOf vs.toArray n) ∈ led') ∧ J 0 m led ∧
    (∀ i v m₁ led₁ s₁ It (E' : Value → Shared → Prop), vs[i]? = some v → J i m₁ led₁ → Ok s s₁ → Fr h₀ env.locals s₁.heap (fun y => if y = x then some v else m₁ y) → News h₀ env.locals s₁.heap (It :: led₁) → (∀ p ∈ led₁, p.1 < It.1) →
      wpAny (model prog w) A (execs body env) (TurnEnd h₀ env.locals It (J (i + 1)) s₁ (fun s₂ => Q .next s₂) (fun v s₂ => Q (.ret v) s₂)) E' s₁) ∧
    (∀ m₁ led₁ s₁ (E' : Value → Shared → Prop), J vs.length m₁ led₁ → Ok s s₁ → Fr h₀ env.locals s₁.heap m₁ → News h₀ env.locals s₁.heap led₁ → wpAny (model prog w) A (execs orelse env) Q E' s₁)
theorem ForSrc.intro {x : Str} {body orelse : List Stmt} {Q : Flow → Shared → Prop} {l : Addr} {vs : List Value} {n : Nat} {m : Fm} {led : List Ent} (J : Nat → Fm → List Ent → Prop)
    (F : Fr h₀ env.locals s.heap m) (N : News h₀ env.locals s.heap led)
    (hadr : ∀ i m' led', J i m' led' → led'.map (·.1) = led.map (·.1) ∧ (l, listOf vs.toArray n) ∈ led') (h0 : J 0 m led)
    (turn : ∀ i v m₁ led₁ s₁ It (E' : Value → Shared → Prop), vs[i]? = some v → J i m₁ led₁ → Ok s s₁ → Fr h₀ env.locals s₁.heap (fun y => if y = x then some v else m₁ y) → News h₀ env.locals s₁.heap (It :: led₁) → (∀ p ∈ led₁, p.1 < It.1) →
      wpAny (model prog w) A (execs body env) (TurnEnd h₀ env.locals It (J (i + 1)) s₁ (fun s₂ => Q .next s₂) (fun v s₂ => Q (.ret v) s₂)) E' s₁)
    (done : ∀ m₁ led₁ s₁ (E' : Value → Shared → Prop), J vs.length m₁ led₁ → Ok s s₁ → Fr h₀ env.locals s₁.heap m₁ → News h₀ env.locals s₁.heap led₁ → wpAny (model prog w) A (execs orelse env) Q E' s₁) :
    ForSrc prog w A h₀ env x body orelse Q (.ref l) s := ⟨l, vs, n, m, led, J, rfl, F, N, hadr, h0, turn, done⟩
theorem While_own {E : Value → Shared → Prop} {Q : Flow → Shared → Prop} {test : Expr} {body orelse : List Stmt} {pos : Pos} (hE : PassesOwn (model prog w) A env E) (I : Nat → Shared → Prop)
    (turn : ∀ n s, I n s → wpAny (model prog w) A (isTrue test env (eval test env)) (fun b s₂ =>
        if b then wpAny (model prog w) A (execs body env) (fun f s₃ => match f with
            | .next | .cont => ∃ m, m < n ∧ I m s₃
            | .brk => Q .next s₃
            | .ret v => Q (.ret v) s₃) E s₂
        else wpAny (model prog w) A (execs orelse env) Q E s₂) E s) (n : Nat) (h : I n s) :
    wpAny (model prog w) A (exec (.While test body orelse pos) env) Q E s := by
  refine wpAny_While (codeAny_whileLoop I (fun k s' hI => wpAny_mono (wpAny_passesOwn hE (turn k s' hI)) (fun b s₂ h₂ => ?_) fun _ _ x => x) n h)
  cases b with
  | true => exact wpAny_passesOwn hE h₂
  | false => exact wpAny_passesOwn hE h₂
end
/-- the caller's frame, any def's, a comprehension's or a generator expression's -/
noncomputable abbrev envA (cs : Scope) (lo gl : Addr) (cl : List (Str × Addr)) (q : Str) (fn : Option Addr) (ccd : Value) (L bi : Addr) : Env :=
  { scope := cs, locals := lo, globals := gl, cells := cl, qual := q, func := fn, code := ccd, frame := some L, builtins := bi }
noncomputable abbrev topA (dp un : Nat) (gd : Option (List Code)) (env : Env) (outer : List Env) : Around :=
  { handled := none, depth := dp, frames := some (env :: outer), guards := gd, units := un }
theorem topA_mono {α : Type} {M : Model} {t : Sem α} {Q : α → Shared → Prop} {E : Value → Shared → Prop} {s : Shared} {dp un dp' un' : Nat} {gd : Option (List Code)} {env : Env} {outer : List Env}
    (hd : dp ≤ dp') (hu : un ≤ un') (h : wpAny M (topA dp' un' gd env outer) t Q E s) : wpAny M (topA dp un gd env outer) t Q E s :=
  fun Γ p hΓ => h Γ p ⟨hΓ.1, Nat.le_trans hΓ.2.1 hd, hΓ.2.2.1, hΓ.2.2.2.1, Nat.le_trans hΓ.2.2.2.2 hu⟩
end
open PySem PySem.W PySem.Spec PySem.Calls PyProof.Rows
local macro_rules | `(tactic| k_ne) => `(tactic| first | exact neN ‹_› | exact neN (Ne.symm ‹_›) | exact neN (Nat.ne_of_lt ‹_›) | exact neN (Nat.ne_of_gt ‹_›) | (refine neN ?_; (try dsimp only); omega))
local macro_rules | `(tactic| k_mem) => `(tactic| assumption)
local macro_rules | `(tactic| k_all) => `(tactic| first | (refine' List.forall_mem_cons.mpr ⟨?a, ?b⟩; (case a => k_ne); (case b => k_all)) | assumption | exact neAll_lt (by assumption))
local macro_rules | `(tactic| tb_rel) => `(tactic| (first | (k_unfold; (try dsimp only)) | (k_end; wrow_close) | walk1 | (dsimp only; walk1) | (leave1; walk_say "STEP leave1"; try dsimp only) | fail "no step"))
theorem hideG {G : Prop} (h : ∀ P : Prop, (G → P) → P) : G := h G fun x => x
section
open PySem PySem.W PySem.Spec PySem.Calls PyProof.Rows
section
variable {prog : Program} {w : World} {A : Around} {s : Shared} {env : Env} {E : Value → Shared → Prop}
/-- the outcome's condition is put behind a letter, so that the walk's terms stay small -/
theorem hide {α : Type} {M : Model} {t : Sem α} {Q : α → Shared → Prop} (h : ∀ (Q' : α → Shared → Prop) (E' : Value → Shared → Prop), (∀ a s', Q a s' → Q' a s') → (∀ e s', E e s' → E' e s') → wpAny M A t Q' E' s) : wpAny M A t Q E s := h Q E (fun _ _ x => x) fun _ _ x => x
theorem hideQ {α : Type} {M : Model} {t : Sem α} {Q : α → Shared → Prop} (h : ∀ (Q' : α → Shared → Prop), (∀ a s', Q a s' → Q' a s') → wpAny M A t Q' E s) : wpAny M A t Q E s := h Q (fun _ _ x => x)
noncomputable def Sub {α : Type} (Q Q' : α → Shared → Prop) : Prop := ∀ a s, Q a s → Q' a s
theorem Sub.go {α : Type} {Q Q' : α → Shared → Prop} {a : α} {s : Shared} (h : Sub Q Q') (x : Q a s) : Q' a s := h a s x
theorem hideS {α : Type} {M : Model} {t : Sem α} {Q : α → Shared → Prop} (h : ∀ (Q' : α → Shared → Prop), Sub Q Q' → wpAny M A t Q' E s) : wpAny M A t Q E s := h Q (fun _ _ x => x)
noncomputable def WEnd (Q : Flow → Shared → Prop) (I : Nat → Shared → Prop) (n : Nat) : Flow → Shared → Prop := fun f s₃ => match f with
  | .next | .cont => ∃ m, m < n ∧ I m s₃
  | .brk => Q .next s₃
  | .ret v => Q (.ret v) s₃
theorem While_op {Q : Flow → Shared → Prop} {test : Expr} {body orelse : List Stmt} {pos : Pos} (hE : PassesOwn (model prog w) A env E) (I : Nat → Shared → Prop)
    (turn : ∀ n s (QB QO : Flow → Shared → Prop) (E' : Value → Shared → Prop), PassesOwn (model prog w) A env E' → (∀ f s₃, WEnd Q I n f s₃ → QB f s₃) → (∀ f s₃, Q f s₃ → QO f s₃) → (∀ e s₃, E e s₃ → E' e s₃) → I n s → wpAny (model prog w) A (isTrue test env (eval test env)) (fun b s₂ =>
        if b then wpAny (model prog w) A (execs body env) QB E' s₂
        else wpAny (model prog w) A (execs orelse env) QO E' s₂) E' s) (n : Nat) (h : I n s) :
    wpAny (model prog w) A (exec (.While test body orelse pos) env) Q E s :=
  While_own hE I (fun n s hI => turn n s _ Q E hE (fun f s₃ h => h) (fun f s₃ h => h) (fun e s₃ h => h) hI) n h
end
end
section
open PySem PySem.W PySem.Spec PySem.Calls PyProof.Rows
open LCg in
section
variable {prog : Program} {w : World} {A : Around} {E : Value → Shared → Prop} {s : Shared} {h₀ : Heap} {L : Addr} {m : Fm} {env cenv : Env}
structure IterOk (prog : Program) (w : World) (A : Around) (h₀ : Heap) (L I : Addr) (n : Nat) (P : Nat → Value → Prop) (fp : List Addr) (St : Nat → Heap → Prop) (S : List Ent → Prop) : Prop where
  W : Walks prog w A I fp [I] n P St
  here : ∀ i h, St i h → ∃ o, h.get? I = some o
  keep : ∀ i h h' o nw, St i h → h.get? I = some o → h'.get? I = some o → (∀ b o, h₀.get? b = some o → h'.get? b = some o) → News h₀ L h' nw → S nw → St i h'
noncomputable def FgEnd (h₀ : Heap) (L : Addr) (s₁ : Shared) (I : Addr) (oI : Obj) (S : List Ent → Prop) (J' : Fm → List Ent → Prop) (Qb : Shared → Prop) (Qr : Value → Shared → Prop) (f : Flow) (s₂ : Shared) : Prop := match f with
  | .brk => Qb s₂
  | .ret v => Qr v s₂
  | _ => ∃ m₂ led, Ok s₁ s₂ ∧ Fr h₀ L s₂.heap m₂ ∧ News h₀ L s₂.heap ((I, oI) :: led) ∧ (∀ p ∈ led, p.1 ≠ I) ∧ S led ∧ J' m₂ led
noncomputable def FgTurn (prog : Program) (w : World) (A : Around) (h₀ : Heap) (L : Addr) (env : Env) (target : PySem.Expr) (body : List Stmt) (s : Shared) (I : Addr) (n : Nat) (P : Nat → Value → Prop) (S : List Ent → Prop) (J : Nat → Fm → List Ent → Prop) (Qb : Shared → Prop) (Qr : Value → Shared → Prop) : Prop :=
  ∀ i m₁ led v s₁ oI (E' : Value → Shared → Prop), i < n → P i v → J i m₁ led → Ok s s₁ → Fr h₀ L s₁.heap m₁ → News h₀ L s₁.heap ((I, oI) :: led) → (∀ p ∈ led, p.1 ≠ I) → S led →
    wpAny (model prog w) A (assign target env v) (fun _ s₂ => wpAny (model prog w) A (execs body env) (FgEnd h₀ L s₁ I oI S (J (i + 1)) Qb Qr) E' s₂) E' s₁
theorem ft_loop {target : PySem.Expr} {body orelse : List Stmt} {I : Addr} {n i0 : Nat} {P : Nat → Value → Prop} {fp : List Addr} {St : Nat → Heap → Prop} {S : List Ent → Prop} {J : Nat → Fm → List Ent → Prop} {R : Result → Shared → Prop} {led : List Ent}
    (K : IterOk prog w A h₀ L I n P fp St S) (hIL : L ≠ I) (hI₀ : h₀.get? I = none) (F : Fr h₀ L s.heap m) (N : News h₀ L s.heap led) (off : ∀ p ∈ led, p.1 ≠ I) (hst : St i0 s.heap) (hi0 : i0 ≤ n) (hS : S led) (hJ : J i0 m led)
    (turn : FgTurn prog w A h₀ L env target body s I n P S J (fun s₃ => R (.ok .next) s₃) (fun v s₃ => R (.ok (.ret v)) s₃))
    (done : ∀ m₁ led s' (E' : Value → Shared → Prop), J n m₁ led → Ok s s' → Fr h₀ L s'.heap m₁ → News h₀ L s'.heap led → (∀ p ∈ led, p.1 ≠ I) → wpAny (model prog w) A (execs orelse env) (fun f s₃ => R (.ok f) s₃) E' s')
    (hgo : ∀ i v (s : Shared) (Q : Unit → Shared → Prop) (E : Value → Shared → Prop), St i s.heap → Q () s → wpAny (model prog w) A (letOwnedTupleGo target (.ref I) v) Q E s) :
    codeAny (model prog w) A (.forLoop target (.ref I) body orelse env) R s := by
  refine codeAny_forLoop_any (fun k s' => ∃ i m' led, Ok s s' ∧ i ≤ n ∧ k = n + 1 - i ∧ St i s'.heap ∧ Fr h₀ L s'.heap m' ∧ News h₀ L s'.heap led ∧ (∀ p ∈ led, p.1 ≠ I) ∧ S led ∧ J i m' led) ?_ (n + 1 - i0) ⟨i0, m, led, Ok.refl s, hi0, rfl, hst, F, N, off, hS, hJ⟩
  intro k s' hJ92
  refine hideG fun PG9 hG9 => ?_
  obtain ⟨i, m', led, ok, hi, rfl, hst, F, N, off, hS, hJ⟩ := hJ92
  refine hG9 ?_
  try clear hG9 PG9
  by_cases hlt : i < n
  · refine K.W.item i _ _ _ hlt hst fun v h₂ tk₂ hPv hst₂ hk₂ => ?_
    refine hgo (i + 1) v _ _ _ hst₂ ?_
    refine hideG fun PG9 hG9 => ?_
    obtain ⟨oI, heI⟩ := K.here _ _ hst₂
    have F₂ := fr_but F hk₂ hIL hI₀
    have N₂ := news_but N hk₂ off
    have N₃ : News h₀ L h₂ ((I, oI) :: led) := fun p hp => by
      rcases List.mem_cons.mp hp with rfl | hp
      · exact ⟨heI, Ne.symm hIL, hI₀⟩
      · exact N₂ p hp
    refine hG9 ?_
    try clear hG9 PG9
    refine wpAny_mono (turn i m' led v { s' with heap := h₂, toks := tk₂ } oI _ hlt hPv hJ ⟨ok.os, ok.gens⟩ F₂ N₃ off hS) (fun _ s₂ hx₂ => wpAny_mono hx₂ (fun f s₃ h₃ => ?_) fun _ _ e => e) fun _ _ e => e
    have fin : (∃ m₂ led, Ok { s' with heap := h₂, toks := tk₂ } s₃ ∧ Fr h₀ L s₃.heap m₂ ∧ News h₀ L s₃.heap ((I, oI) :: led) ∧ (∀ p ∈ led, p.1 ≠ I) ∧ S led ∧ J (i + 1) m₂ led) →
        ∃ k, k < n + 1 - i ∧ ∃ i m' led, Ok s s₃ ∧ i ≤ n ∧ k = n + 1 - i ∧ St i s₃.heap ∧ Fr h₀ L s₃.heap m' ∧ News h₀ L s₃.heap led ∧ (∀ p ∈ led, p.1 ≠ I) ∧ S led ∧ J i m' led := by
      intro hJ90
      refine hideG fun PG9 hG9 => ?_
      obtain ⟨m₂, led', ok₄, F₄, N₄, off₄, hS₄, hJ₄⟩ := hJ90
      refine hG9 ?_
      try clear hG9 PG9
      exact ⟨n + 1 - (i + 1), turn_lt hlt, i + 1, m₂, led', ⟨ok₄.os.trans ok.os, fun h => ok₄.gens (ok.gens h)⟩, hlt, rfl, K.keep _ _ _ _ led' hst₂ heI (N₄ _ (List.mem_cons_self ..)).1 F₄.keep (fun p hp => N₄ p (List.mem_cons_of_mem _ hp)) hS₄, F₄, fun p hp => N₄ p (List.mem_cons_of_mem _ hp), off₄, hS₄, hJ₄⟩
    cases f with
    | ret v => exact h₃
    | brk => exact h₃
    | next => exact fin h₃
    | cont => exact fin h₃
  · obtain rfl : i = n := Nat.le_antisymm hi (Nat.not_lt.mp hlt)
    refine K.W.done _ _ _ hst fun h₂ tk₂ hk₂ => ?_
    exact done m' led _ _ hJ ⟨ok.os, ok.gens⟩ (fr_but F hk₂ hIL hI₀) (news_but N hk₂ off) off
noncomputable def FtSrc (prog : Program) (w : World) (A : Around) (env : Env) (target : PySem.Expr) (body orelse : List Stmt) (Q : Flow → Shared → Prop) (it : Value) (s₂ : Shared) : Prop :=
  ∀ (R : Result → Shared → Prop), (∀ f s₃, Q f s₃ → R (.ok f) s₃) → codeAny (model prog w) A (.forLoop target it body orelse env) R s₂
theorem ft_mk {target : PySem.Expr} {body orelse : List Stmt} {Q : Flow → Shared → Prop} {I : Addr} {n i0 : Nat} {P : Nat → Value → Prop} {fp : List Addr} {St : Nat → Heap → Prop} {S : List Ent → Prop} {J : Nat → Fm → List Ent → Prop} {led : List Ent}
    (K : IterOk prog w A h₀ L I n P fp St S) (hIL : L ≠ I) (hI₀ : h₀.get? I = none) (F : Fr h₀ L s.heap m) (N : News h₀ L s.heap led) (off : ∀ p ∈ led, p.1 ≠ I) (hst : St i0 s.heap) (hi0 : i0 ≤ n) (hS : S led) (hJ : J i0 m led)
    (turn : FgTurn prog w A h₀ L env target body s I n P S J (fun s₃ => Q .next s₃) (fun v s₃ => Q (.ret v) s₃))
    (done : ∀ m₁ led s' (E' : Value → Shared → Prop), J n m₁ led → Ok s s' → Fr h₀ L s'.heap m₁ → News h₀ L s'.heap led → (∀ p ∈ led, p.1 ≠ I) → wpAny (model prog w) A (execs orelse env) Q E' s')
    (hgo : ∀ i v (s : Shared) (Q : Unit → Shared → Prop) (E : Value → Shared → Prop), St i s.heap → Q () s → wpAny (model prog w) A (letOwnedTupleGo target (.ref I) v) Q E s) :
    FtSrc prog w A env target body orelse Q (.ref I) s := fun R hR => by
  refine ft_loop K hIL hI₀ F N off hst hi0 hS hJ (fun i m₁ led v s₁ oI E' hi hP hJ ok F₁ N₁ off hS₁ => wpAny_mono (turn i m₁ led v s₁ oI E' hi hP hJ ok F₁ N₁ off hS₁) (fun _ s₂ h₂ => wpAny_mono h₂ (fun f s₃ h₃ => ?_) fun _ _ e => e) fun _ _ e => e)
    (fun m₁ led' s' E' hJ' ok F₁ N₁ off => wpAny_mono (done m₁ led' s' E' hJ' ok F₁ N₁ off) (fun f s₃ q => hR _ _ q) fun _ _ e => e) hgo
  cases f with
  | ret v => exact hR _ _ h₃
  | brk => exact hR _ _ h₃
  | next => exact h₃
  | cont => exact h₃
theorem go_of {target : PySem.Expr} {I : Addr} {v : Value} {Q : Unit → Shared → Prop} (ht : ∀ I v, letOwnedTupleGo target (.ref I) v = pure ()) (q : Q () s) : wpAny (model prog w) A (letOwnedTupleGo target (.ref I) v) Q E s := by
  rw [ht]; exact wpAny_pure q
theorem ft_for {target iter : PySem.Expr} {body orelse : List Stmt} {pos : Pos} {Q : Flow → Shared → Prop}
    (h : wpAny (model prog w) A (eval iter env) (fun xv s₁ => wpAny (model prog w) A (pyIter xv) (FtSrc prog w A env target body orelse Q) E s₁) E s)
    (hs : ∀ x, foldedSetIterable iter env x = pure x := by intro _; rfl) :
    wpAny (model prog w) A (exec (.For target iter body orelse pos) env) Q E s :=
  wpAny_For (wpAny_mono h (fun xv s₁ h₁ => wpAny_mono h₁ (fun it s₂ h₂ => h₂ _ fun f s₃ q => q) fun _ _ e => e) fun _ _ e => e) hs
theorem iter_list {ax I : Addr} {its : Array Value} (hh : A.handled = none) (hne : ax ≠ I) : IterOk prog w A h₀ L I its.size (fun i v => its[i]? = some v) [I, ax] (fun i h => h.IsListIter I ax i ∧ h.IsList ax its) (SrcAt h₀ ax its) :=
  ⟨Walks.list hh I ax hne its, fun i h st => by obtain ⟨o, e, _⟩ := st.1; exact ⟨o, e⟩, list_st⟩
theorem ft_list {target : PySem.Expr} {body orelse : List Stmt} {Q : Flow → Shared → Prop} {ax : Addr} {vs : List Value} {led : List Ent} (J : Nat → Fm → List Ent → Prop)
    (hh : A.handled = none) (F : Fr h₀ L s.heap m) (N : News h₀ L s.heap led) (hS : SrcAt h₀ ax vs.toArray led) (hJ : J 0 m led)
    (h : ∀ I s₃, Ok s s₃ → (∀ p ∈ led, p.1 < I) → FgTurn prog w A h₀ L env target body s₃ I vs.length (fun i v => vs[i]? = some v) (SrcAt h₀ ax vs.toArray) J (fun s₃ => Q .next s₃) (fun v s₃ => Q (.ret v) s₃) ∧
      ∀ m₁ led s' (E' : Value → Shared → Prop), J vs.length m₁ led → Ok s s' → Fr h₀ L s'.heap m₁ → News h₀ L s'.heap led → (∀ p ∈ led, p.1 ≠ I) → wpAny (model prog w) A (execs orelse env) Q E' s') :
    wpAny (model prog w) A (pyIter (.ref ax)) (FtSrc prog w A env target body orelse Q) E s := by
  have hl := hS.list F.keep N
  have hlt : ax < s.heap.objs.size := by obtain ⟨_, e, _⟩ := hl; exact Heap.lt_size e
  refine wpAny_pyIter_list hl ?_
  have up : ∀ b o, s.heap.get? b = some o → (s.heap.push { cls := .type "list_iterator", data := .fields #[.ref ax, .int 0 0] }).get? b = some o := fun b o e => Heap.get?_push_of_some _ e
  have ez : vs.toArray.size = vs.length := by simp
  have ltl : ∀ p ∈ led, p.1 < s.heap.objs.size := fun p hp => Heap.lt_size (N p hp).1
  refine hideG fun PG9 hG9 => ?_
  obtain ⟨turn, done⟩ := h s.heap.objs.size { s with heap := s.heap.push { cls := .type "list_iterator", data := .fields #[.ref ax, .int 0 0] } } ⟨rfl, id⟩ ltl
  have e : (fun (i : Nat) (v : Value) => vs.toArray[i]? = some v) = fun i v => vs[i]? = some v := by funext i v; simp
  refine hG9 ?_
  try clear hG9 PG9
  refine ft_mk (J := J) (iter_list hh (Nat.ne_of_lt hlt)) (Nat.ne_of_lt F.ns.lt) (next_is_new F) (F.keeps up) (N.grown up) (fun p hp => Nat.ne_of_lt (ltl p hp)) ⟨⟨_, Heap.get?_push_size _ rfl, rfl, rfl⟩, hl.push _⟩ (Nat.zero_le _) hS hJ ?_ ?_ (fun i v s Q E st q => letGo_listiter st.1 q)
  · rw [ez, e]
    exact turn
  · rw [ez]
    exact fun m₁ led' s' E' hJ' ok => done m₁ led' s' E' hJ' ⟨ok.os, ok.gens⟩
theorem range_step {I : Addr} {a c : Int} {n : Nat} : ∀ i (h h' : Heap) (o : Obj) (nw : List Ent), IsRangeIter h I (a + (i : Nat) * c) ((n : Int) - (i : Nat)) c → h.get? I = some o → h'.get? I = some o → (∀ b o, h₀.get? b = some o → h'.get? b = some o) → News h₀ L h' nw → True → IsRangeIter h' I (a + (i : Nat) * c) ((n : Int) - (i : Nat)) c :=
  fun i h h' o nw st e e' _ _ _ => by
    have st' : h.get? I = some _ := st
    show h'.get? I = some _
    rw [e', ← e]; exact st'
theorem iter_range {I : Addr} (hh : A.handled = none) (a c : Int) (n : Nat) : IterOk prog w A h₀ L I n (fun i v => ∃ t, v = .int (a + i * c) t) [I] (fun i h => IsRangeIter h I (a + (i : Nat) * c) ((n : Int) - (i : Nat)) c) (fun _ => True) :=
  ⟨Walks.range hh I a c n, fun i h st => ⟨_, st⟩, range_step⟩
theorem fg_range {target : PySem.Expr} {body orelse : List Stmt} {Q : Flow → Shared → Prop} {r : Addr} {a b c : Int} {t u v : Tok} {n : Nat} {led : List Ent} (J : Nat → Fm → List Ent → Prop)
    (hh : A.handled = none) (F : Fr h₀ L s.heap m) (N : News h₀ L s.heap led) (hr : IsRange s.heap r a b c t u v) (hsm : Builtin.Range.small a b c = true) (hn : Builtin.Range.rangeSize a b c = ((n : Nat) : Int)) (hJ : J 0 m led)
    (h : ∀ I s₃, Ok s s₃ → (∀ p ∈ led, p.1 < I) → FgTurn prog w A h₀ L env target body s₃ I n (fun i v => ∃ t, v = .int (a + i * c) t) (fun _ => True) J (fun s₃ => Q .next s₃) (fun v s₃ => Q (.ret v) s₃) ∧
      ∀ m₁ led s' (E' : Value → Shared → Prop), J n m₁ led → Ok s s' → Fr h₀ L s'.heap m₁ → News h₀ L s'.heap led → (∀ p ∈ led, p.1 ≠ I) → wpAny (model prog w) A (execs orelse env) Q E' s')
    (ht : ∀ I v, letOwnedTupleGo target (.ref I) v = pure () := by intro _ _; rfl) :
    wpAny (model prog w) A (pyIter (.ref r)) (FtSrc prog w A env target body orelse Q) E s := by
  refine wpAny_pyIter_range hr hsm ?_
  have ltl : ∀ p ∈ led, p.1 < s.heap.objs.size := fun p hp => Heap.lt_size (N p hp).1
  refine hideG fun PG9 hG9 => ?_
  obtain ⟨turn, done⟩ := h s.heap.objs.size { s with heap := s.heap.push { cls := .type "range_iterator", data := .fields #[rawInt a, rawInt (Builtin.Range.rangeSize a b c), rawInt c] } } ⟨rfl, id⟩ ltl
  refine hG9 ?_
  try clear hG9 PG9
  exact ft_mk (J := J) (iter_range hh a c n) (Nat.ne_of_lt F.ns.lt) (next_is_new F) (F.keeps fun _ _ e => Heap.get?_push_of_some _ e) (N.grown fun _ _ e => Heap.get?_push_of_some _ e) (fun p hp => Nat.ne_of_lt (ltl p hp))
    (by show IsRangeIter _ _ _ _ _; rw [hn]; simpa using Heap.get?_push_size _ rfl) (Nat.zero_le _) trivial hJ turn (fun m₁ led' s' E' hJ' ok => done m₁ led' s' E' hJ' ⟨ok.os, ok.gens⟩) (fun _ _ _ _ _ _ q => go_of ht q)
theorem For_led {E : Value → Shared → Prop} {Q : Flow → Shared → Prop} {x : Str} {px pos : Pos} {iter : PySem.Expr} {body orelse : List Stmt} (h₀ : Heap) (hh : A.handled = none) (hx : env.kindOf x = some .local)
    (hp : (env.scope.kind == .class || (env.scope.kind == .module && env.locals != env.globals)) = false)
    (h : wpAny (model prog w) A (eval iter env) (fun xv s₁ => ForSrc prog w A h₀ env x body orelse Q xv s₁) E s)
    (hs : ∀ x, foldedSetIterable iter env x = pure x := by intro _; rfl) :
    wpAny (model prog w) A (exec (.For (.Name x px) iter body orelse pos) env) Q E s := by
  refine ft_for (wpAny_mono h (fun xv s₁ h₁ => ?_) fun _ _ e => e) hs
  refine hideG fun PG9 hG9 => ?_
  obtain ⟨l, vs, n, m, led, J, rfl, F, N, hadr, h0, turn, done⟩ := h₁
  refine hG9 ?_
  try clear hG9 PG9
  refine ft_list J hh F N (.inr ⟨_, (hadr 0 m led h0).2, rfl, n, rfl⟩) h0 fun I s₃ ok₃ lt => ⟨fun i m' led' v s' oI E' hi hv hJ ok F' N' off hS => ?_, fun m₁ led' s' E' hJ ok F' N' off => done m₁ led' s' E' hJ ok F' N'⟩
  have lt' : ∀ led' : List Ent, led'.map (·.1) = led.map (·.1) → ∀ p ∈ led', p.1 < I := by
    intro led' e p hp
    have h1 : p.1 ∈ led'.map (·.1) := List.mem_map_of_mem hp
    rw [e] at h1
    refine hideG fun PG9 hG9 => ?_
    obtain ⟨r, hr, hq⟩ := List.mem_map.mp h1
    refine hG9 ?_
    try clear hG9 PG9
    exact hq ▸ lt r hr
  refine wpAny_assign_Name (wpAny_storeName_local hx F'.ns (fun h₂ hn₂ hs₂ => ?_) hp)
  refine wpAny_mono (turn i v m' led' _ (I, oI) E' hv hJ ⟨ok.os.trans ok₃.os, fun g => ok.gens (ok₃.gens g)⟩ (F'.set hn₂ hs₂) (N'.set hs₂) (lt' led' (hadr i m' led' hJ).1)) (fun f s₃ h₃ => ?_) fun _ _ e => e
  have fin : (∃ m₂ led₂, Fr h₀ env.locals s₃.heap m₂ ∧ News h₀ env.locals s₃.heap ((I, oI) :: led₂) ∧ J (i + 1) m₂ led₂ ∧ Ok { s' with heap := h₂, toks := s'.toks + 1 } s₃) →
      ∃ m₂ led, Ok s' s₃ ∧ Fr h₀ env.locals s₃.heap m₂ ∧ News h₀ env.locals s₃.heap ((I, oI) :: led) ∧ (∀ p ∈ led, p.1 ≠ I) ∧ SrcAt h₀ l vs.toArray led ∧ J (i + 1) m₂ led := by
    intro hJ90
    refine hideG fun PG9 hG9 => ?_
    obtain ⟨m₂, led₂, F₃, N₃, hJ₃, o3⟩ := hJ90
    refine hG9 ?_
    try clear hG9 PG9
    exact ⟨m₂, led₂, ⟨o3.os, o3.gens⟩, F₃, N₃, fun p hp => Nat.ne_of_lt (lt' _ (hadr _ _ _ hJ₃).1 p hp), .inr ⟨_, (hadr _ _ _ hJ₃).2, rfl, n, rfl⟩, hJ₃⟩
  cases f with
  | ret v => exact h₃
  | brk => exact h₃
  | next => exact fin h₃
  | cont => exact fin h₃
end
end
section
open PySem PySem.W PySem.Spec PySem.Calls PyProof.Rows
/-- a list of texts that stands in the ledger -/
structure Row where
  a : Addr
  vs : List Value
  ws : List Str
  n : Nat
noncomputable def Row.ent (r : Row) : Ent := (r.a, listOf r.vs.toArray r.n)
noncomputable def Row.ne (r : Row) : Bool := !r.ws.isEmpty
noncomputable abbrev Row.ref (r : Row) : Value := .ref r.a
structure Row.Good (r : Row) : Prop where
  are : StrsAre r.vs r.ws
  len : r.ws.length ≤ 1000
theorem strs_length {vs : List Value} {ws : List Str} (h : StrsAre vs ws) : vs.length = ws.length := by
  induction h with
  | nil => rfl
  | cons y t _ ih => simp [ih]
theorem Row.Good.vlen {r : Row} (g : r.Good) : r.vs.length = r.ws.length := strs_length g.are
theorem Row.Good.empty {r : Row} (g : r.Good) : (!r.vs.toArray.isEmpty) = r.ne := by
  have := g.vlen
  unfold Row.ne Array.isEmpty
  cases h : r.ws with
  | nil => rw [h] at this; simp at this; simp [this]
  | cons x t => rw [h] at this; simp at this; simp [this]
theorem item_led {prog : Program} {w : World} {A : Around} {E : Value → Shared → Prop} {s : Shared} {h₀ : Heap} {L l : Addr} {led : List Ent} {vs : List Value} {n : Nat} {value slice : PySem.Expr} {k : Int} {u : Tok} {v : Value} {Q : Value → Shared → Prop}
    (N : News h₀ L s.heap led) (hm : (l, listOf vs.toArray n) ∈ led) (h0 : 0 ≤ k) (hhi : k < 2 ^ 63) (hx : vs[k.toNat]? = some v) (h : Q v s)
    (hs : subscripted slice false (.ref l) (.int k u) = operate [.ref l, .int k u] (getItem (.ref l) (.int k u)) := by with_unfolding_all rfl) :
    wpAny (model prog w) A (subscriptTail value slice (.ref l) (.int k u)) Q E s :=
  have hl : s.heap.IsList l vs.toArray := ⟨_, (N _ hm).1, rfl, _, rfl⟩
  tail_any hl.typeIs slot_list_getitem.lookup (wpAny_getItem_list hl h0 hhi (by simpa using hx) h) hs
theorem kms1 (vs : List Value) : kms_pick vs (some 1) none = vs.drop 1 := by
  unfold kms_pick kms_lo kms_hi
  cases vs with
  | nil => rfl
  | cons v r => simp
theorem strs_drop {vs : List Value} {ws : List Str} (h : StrsAre vs ws) (k : Nat) : StrsAre (vs.drop k) (ws.drop k) := by
  induction k generalizing vs ws with
  | zero => exact h
  | succ k ih => cases h with
    | nil => exact .nil
    | cons y t h => exact ih h
theorem slice1_led {prog : Program} {w : World} {A : Around} {E : Value → Shared → Prop} {s : Shared} {h₀ : Heap} {L l : Addr} {m : Fm} {led : List Ent} {vs : List Value} {n : Nat} {value slice : PySem.Expr} {u : Tok} {Q : Value → Shared → Prop}
    (F : Fr h₀ L s.heap m) (N : News h₀ L s.heap led) (hm : (l, listOf vs.toArray n) ∈ led) (hb : vs.length ≤ 100000)
    (h : ∀ D h', Fr h₀ L h' m → News h₀ L h' ((D, listOf (vs.drop 1).toArray 0) :: led) → (∀ p ∈ led, p.1 < D) → Q (.ref D) { s with heap := h' })
    (hs : subscripted slice false (.ref l) (.ref s.heap.objs.size) = operate [.ref s.heap.objs.size, .ref l] (getItem (.ref l) (.ref s.heap.objs.size)) := by with_unfolding_all rfl)
    (ht : ∀ r, letTemporaryGo value (.ref l) r = pure () := by (intro _; with_unfolding_all rfl)) :
    wpAny (model prog w) A (subscriptTail value slice (.ref l) (.ref s.heap.objs.size)) Q E { s with heap := s.heap.push { cls := .type "slice", data := .fields #[.int 1 u, .none, .none] } } :=
  kms_slice_lit F N ⟨_, (N _ hm).1, rfl, _, rfl⟩ (.int 1 u) .none (kms1 vs) h hs ht (by rw [List.size_toArray, sizeLine_eq]; exact lel (by assumption) (by rfl))
theorem append_led {prog : Program} {w : World} {A : Around} {E : Value → Shared → Prop} {s : Shared} {h₀ : Heap} {L D : Addr} {m : Fm} {pre post : List Ent} {vs : List Value} {n : Nat} {x : Value} {Q : Value → Shared → Prop}
    (F : Fr h₀ L s.heap m) (N : News h₀ L s.heap (pre ++ (D, listOf vs.toArray n) :: post)) (h1 : ∀ p ∈ pre, p.1 ≠ D) (h2 : ∀ p ∈ post, p.1 ≠ D) (hb : vs.length ≤ 1000000)
    (h : ∀ h', Fr h₀ L h' m → News h₀ L h' (pre ++ (D, listOf (vs ++ [x]).toArray (n + 1)) :: post) → Q .none { s with heap := h' }) : wpAny (model prog w) A (call (.builtin "list.append") [.ref D, x]) Q E s := by
  have z := N (D, listOf vs.toArray n) (List.mem_append.mpr (.inr (.head _)))
  refine append_at (hsz := by rw [List.size_toArray, sizeLine_eq]; exact lel (by assumption) (by rfl)) z.1 fun h' hs ho' => h h' (F.change hs z.2.1 z.2.2) (news_set N h1 h2 hs ?_)
  rw [ho']
  simp
theorem del0_led {prog : Program} {w : World} {A : Around} {E : Value → Shared → Prop} {s : Shared} {h₀ : Heap} {L D : Addr} {m : Fm} {pre post : List Ent} {v : Value} {vs : List Value} {n : Nat} {u : Tok} {Q : Unit → Shared → Prop}
    (F : Fr h₀ L s.heap m) (N : News h₀ L s.heap (pre ++ (D, listOf (v :: vs).toArray n) :: post)) (h1 : ∀ p ∈ pre, p.1 ≠ D) (h2 : ∀ p ∈ post, p.1 ≠ D) (hb : vs.length ≤ 1000000)
    (h : ∀ h', Fr h₀ L h' m → News h₀ L h' (pre ++ (D, listOf vs.toArray (n + 1)) :: post) → Q () { s with heap := h' }) : wpAny (model prog w) A (delItem (.ref D) (.int 0 u)) Q E s := by
  have z := N (D, listOf (v :: vs).toArray n) (List.mem_append.mpr (.inr (.head _)))
  refine delItem_at (hsz := by rw [List.size_toArray, sizeLine_eq, List.length_cons]; exact add_lit (by assumption) (Nat.le_refl 1) (by rfl)) (k := 0) z.1 (by decide) (by simp [seqIndex?]) fun h' hs ho' => h h' (F.change hs z.2.1 z.2.2) (news_set N h1 h2 hs ?_)
  rw [ho']
  simp
theorem truthy_led {prog : Program} {w : World} {A : Around} {E : Value → Shared → Prop} {s : Shared} {h₀ : Heap} {L l : Addr} {led : List Ent} {vs : List Value} {n : Nat} {Q : Bool → Shared → Prop} (b : Bool) (N : News h₀ L s.heap led) (hm : (l, listOf vs.toArray n) ∈ led)
    (hb : vs.length ≤ 100000) (e : vs.isEmpty = !b) (h : Q b { s with toks := s.toks + 1 + 1 }) : wpAny (model prog w) A (truthy (.ref l)) Q E s := by
  refine wpAny_truthy_list ⟨_, (N _ hm).1, rfl, _, rfl⟩ (by rw [List.size_toArray]; omega) ?_
  have : (!vs.toArray.isEmpty) = b := by
    have : vs.toArray.isEmpty = vs.isEmpty := by cases vs <;> simp
    rw [this, e, Bool.not_not]
  rw [this]
  exact h
section
variable {prog : Program} {w : World} {A : Around} {h₀ : Heap} {L : Addr} {m : Fm} {env : Env} {scope : Scope} {cl : List (Str × Addr)} {s : Shared} {S : List Ent → Prop} {Fin : List Value → List Ent → Prop}
theorem rows_filter {x : Str} {pc pe : Pos} (hx : scope.names.lookup x = some .local) (hkind : scope.kind = .function) (hdbg : (x == ("__debug__" : Str)) = false)
    (led : List Ent) (cur : List Row) (hS : S led) (hc : ∀ r ∈ cur, r.ent ∈ led) (hg : ∀ r ∈ cur, r.Good) (fin : Fin ((cur.filter Row.ne).map Row.ref) led) :
    ∀ (post pre : List Row), cur = pre ++ post → LCt.CompRestT prog w A h₀ L m env (.Name x pc) (.Name x pe) x scope cl s S (fun i v => ((cur.map Row.ref).toArray)[i]? = some v) Fin post.length pre.length ((pre.filter Row.ne).map Row.ref) led := by
  intro post
  induction post with
  | nil =>
    intro pre e
    rw [List.append_nil] at e
    subst e
    exact LCt.CompRestT.zero fin
  | cons r post ih =>
    intro pre e
    refine LCt.CompRestT.succ ?_
    intro v I oI C oC D m₂ h tk E' hv hC hm F N off ne
    have hv' : v = .ref r.a := by
      rw [e] at hv
      simpa [Row.ref] using hv.symm
    subst hv'
    have hmem : r ∈ cur := e ▸ List.mem_append_right _ (List.mem_cons_self ..)
    have hent := (N _ (List.mem_cons_of_mem _ (List.mem_cons_of_mem _ (List.mem_cons_of_mem _ (hc r hmem))))).1
    have hl : h.IsList r.a r.vs.toArray := ⟨_, hent, rfl, _, rfl⟩
    have hsz : r.vs.length ≤ 1000 := (hg r hmem).vlen ▸ (hg r hmem).len
    have hks : (compEnvC scope cl C env).scope.kind = .function := by simp [compEnvC, relabel, hkind]
    have hns : h.Ns C m₂ := hC.ns (N _ (List.mem_cons_of_mem _ (List.mem_cons_self ..))).1
    have ih' := ih (pre ++ [r]) (by rw [e]; simp)
    rw [List.length_append, List.length_singleton] at ih'
    refine wpAny_isTrue_value (wpAny_Name (wpAny_loadName_local hks (lookup_relabel_local hx) hns hm ?_) hdbg)
    refine wpAny_truthy_list hl (by rw [List.size_toArray]; omega) ?_
    rw [(hg r hmem).empty]
    cases hne : r.ne with
    | true =>
      rw [if_pos rfl]
      refine wpAny_Name (wpAny_loadName_local hks (lookup_relabel_local hx) hns hm ?_) hdbg
      refine LCg.CompEnd.intro F N led (fun p hp => hp) off hS ?_
      rw [List.filter_append, List.map_append] at ih'
      simpa [hne] using ih'
    | false =>
      rw [if_neg Bool.false_ne_true]
      refine LCg.CompEnd.intro F N led (fun p hp => hp) off hS ?_
      rw [List.filter_append] at ih'
      simpa [hne] using ih'
end
end
section
open PySem PySem.W PySem.Spec PySem.Calls PyProof.Rows
-- the plain merge
noncomputable def blocked (all : List (List Str)) (c : Str) : Bool := all.any fun s => s.tail.any (· == c)
noncomputable def pick (all : List (List Str)) : List (List Str) → Option Str
  | [] => none
  | s :: r => if blocked all (s.headD Str.empty) then pick all r else some (s.headD Str.empty)
noncomputable def popc (c : Str) : List Str → List Str
  | [] => []
  | x :: t => if x == c then t else x :: t
/-- none: not enough turns; some none: it raises -/
noncomputable def c3 : Nat → List (List Str) → List Str → Option (Option (List Str))
  | 0, _, _ => none
  | n + 1, seqs, res =>
    match seqs.filter (fun s => !s.isEmpty) with
    | [] => some (some res)
    | a :: r => match pick (a :: r) (a :: r) with
      | none => some none
      | some c => c3 n ((a :: r).map (popc c)) (res ++ [c])
theorem pick_cons (all : List (List Str)) (s : List Str) (l : List (List Str)) : pick all (s :: l) = if blocked all (s.headD Str.empty) then pick all l else some (s.headD Str.empty) := rfl
theorem pick_app (all : List (List Str)) : ∀ (l r : List (List Str)), pick all l = none → pick all (l ++ r) = pick all r
  | [], _, _ => rfl
  | s :: l, r, h => by
    rw [pick_cons] at h
    rw [List.cons_append, pick_cons]
    by_cases hb : blocked all (s.headD Str.empty) = true
    · rw [if_pos hb] at h ⊢
      exact pick_app all l r h
    · rw [if_neg hb] at h
      cases h
theorem pick_take {all l : List (List Str)} {i : Nat} {s : List Str} (h : pick all (l.take i) = none) (hi : l[i]? = some s) : pick all (l.take (i + 1)) = if blocked all (s.headD Str.empty) then none else some (s.headD Str.empty) := by
  rw [List.take_add_one, hi]
  exact (pick_app all _ _ h).trans (pick_cons ..)
theorem pick_stop {all l : List (List Str)} {i : Nat} {s : List Str} (h : pick all (l.take i) = none) (hi : l[i]? = some s) (hb : blocked all (s.headD Str.empty) = false) : pick all l = some (s.headD Str.empty) := by
  refine hideG fun PG9 hG9 => ?_
  obtain ⟨hlt, rfl⟩ := List.getElem?_eq_some_iff.mp hi
  have e : l = l.take i ++ l[i] :: l.drop (i + 1) := by simp
  refine hG9 ?_
  try clear hG9 PG9
  conv => lhs; rw [e]
  rw [pick_app all _ _ h, pick_cons, hb, if_neg Bool.false_ne_true]
theorem map_get {rows : List Row} {i : Nat} {v : Value} (h : (rows.map Row.ref)[i]? = some v) : ∃ r, rows[i]? = some r ∧ v = .ref r.a := by
  rw [List.getElem?_map] at h
  refine hideG fun PG9 hG9 => ?_
  obtain ⟨r, h1, h2⟩ := Option.map_eq_some_iff.mp h
  refine hG9 ?_
  try clear hG9 PG9
  exact ⟨r, h1, h2.symm⟩
theorem form2 {m : Fm} {x y : Str} {a b : Value} (h1 : m x = some a) (h2 : m y = some b) : ∃ u : Fm, m = fun z => if z = x then some a else if z = y then some b else u z := ⟨m, by
  funext z
  by_cases e1 : z = x
  · rw [if_pos e1, e1]; exact h1
  · rw [if_neg e1]
    by_cases e2 : z = y
    · rw [if_pos e2, e2]; exact h2
    · rw [if_neg e2]⟩
theorem form3 {m : Fm} {x y z : Str} {a b c : Value} (h1 : m x = some a) (h2 : m y = some b) (h3 : m z = some c) : m = fun v => if v = x then some a else if v = y then some b else if v = z then some c else m v := by
  funext v
  by_cases e1 : v = x
  · rw [if_pos e1, e1]; exact h1
  · rw [if_neg e1]
    by_cases e2 : v = y
    · rw [if_pos e2, e2]; exact h2
    · rw [if_neg e2]
      by_cases e3 : v = z
      · rw [if_pos e3, e3]; exact h3
      · rw [if_neg e3]
theorem blocked_of {rows : List Row} {r : Row} {y : Str} (hr : r ∈ rows) (h : (r.ws.drop 1).any (· == y) = true) : blocked (rows.map (·.ws)) y = true := by
  unfold blocked
  rw [List.any_eq_true]
  exact ⟨r.ws, List.mem_map_of_mem hr, by rw [← List.drop_one]; exact h⟩
theorem blocked_take {l : List (List Str)} {j : Nat} {s : List Str} {y : Str} (h : blocked (l.take j) y = false) (hj : l[j]? = some s) (hs : (s.drop 1).any (· == y) = false) : blocked (l.take (j + 1)) y = false := by
  unfold blocked at *
  rw [List.take_add_one, hj, List.any_append, h]
  simpa [← List.drop_one] using hs
theorem off1_mem {D : Addr} {l : List Ent} (h : LCg.Off1 D l) : ∀ p ∈ l, p.1 ≠ D := by
  induction l with
  | nil => intro p hp; cases hp
  | cons a r ih =>
    intro p hp
    rcases List.mem_cons.mp hp with rfl | hp
    · exact h.1
    · exact ih h.2 p hp
/-- what the last loop does to a row -/
noncomputable def Row.step (y : Str) (r : Row) : Row := match r.ws with
  | x :: t => if x == y then ⟨r.a, r.vs.tail, t, r.n + 1⟩ else r
  | [] => r
theorem Row.step_a (y : Str) (r : Row) : (r.step y).a = r.a := by
  unfold Row.step
  split
  · split <;> rfl
  · rfl
theorem Row.step_ws (y : Str) (r : Row) : (r.step y).ws = popc y r.ws := by
  refine hideG fun PG9 hG9 => ?_
  obtain ⟨a, vs, ws, n⟩ := r
  refine hG9 ?_
  try clear hG9 PG9
  cases ws with
  | nil => rfl
  | cons x t =>
    unfold Row.step popc
    dsimp only
    split <;> rfl
theorem Row.step_good {y : Str} {r : Row} (g : r.Good) : (r.step y).Good := by
  refine hideG fun PG9 hG9 => ?_
  obtain ⟨a, vs, ws, n⟩ := r
  obtain ⟨h1, h2⟩ := g
  refine hG9 ?_
  try clear hG9 PG9
  cases h1 with
  | nil => exact ⟨.nil, h2⟩
  | @cons x t vs ws h1 =>
    unfold Row.step
    dsimp only
    split
    · exact ⟨h1, by simp at h2 ⊢; omega⟩
    · exact ⟨.cons x t h1, h2⟩
theorem popc_le (y : Str) (l : List Str) : (popc y l).length ≤ l.length := by
  unfold popc
  split
  · simp
  · split <;> simp
theorem sum_popc_le (y : Str) : ∀ l : List (List Str), ((l.map (popc y)).map (·.length)).sum ≤ (l.map (·.length)).sum
  | [] => Nat.le_refl _
  | a :: r => by
    have h1 := sum_popc_le y r
    have h2 := popc_le y a
    simp only [List.map_cons, List.sum_cons]
    exact Nat.add_le_add h2 h1
theorem sum_popc (y : Str) : ∀ {l : List (List Str)} {i : Nat} {t : List Str}, l[i]? = some (y :: t) → ((l.map (popc y)).map (·.length)).sum + 1 ≤ (l.map (·.length)).sum
  | s :: l, 0, t, h => by
    have h1 := sum_popc_le y l
    have e : s = y :: t := Option.some.inj h
    refine hideG fun PG9 hG9 => ?_
    subst e
    have e2 : popc y (y :: t) = t := by unfold popc; simp
    refine hG9 ?_
    try clear hG9 PG9
    simp only [List.map_cons, List.sum_cons, e2, List.length_cons]
    rw [Nat.add_right_comm]; exact Nat.add_le_add_left (sum_popc_le _ _) _
  | a :: l, i + 1, t, h => by
    have h1 := sum_popc y (l := l) (i := i) (t := t) h
    have h2 := popc_le y a
    simp only [List.map_cons, List.sum_cons]
    rw [Nat.add_assoc]; exact Nat.add_le_add h2 h1
theorem rows_adr1 (y : Str) : ∀ l : List Row, ((l.map (Row.step y)).map Row.ent).map (·.1) = (l.map Row.ent).map (·.1)
  | [] => rfl
  | a :: r => by
    simp only [List.map_cons, rows_adr1 y r]
    exact congrArg (· :: _) (Row.step_a y a)
theorem rows_adr (y : Str) (rows : List Row) (i : Nat) : (((rows.take i).map (Row.step y) ++ rows.drop i).map Row.ent).map (·.1) = (rows.map Row.ent).map (·.1) := by
  rw [List.map_append, List.map_append, rows_adr1, ← List.map_append, ← List.map_append, List.take_append_drop]
theorem nodup_split {rows : List Row} {i : Nat} {r : Row} (nd : (rows.map (·.a)).Nodup) (h : rows[i]? = some r) : (∀ x ∈ rows.take i, x.a ≠ r.a) ∧ ∀ x ∈ rows.drop (i + 1), x.a ≠ r.a := by
  refine hideG fun PG9 hG9 => ?_
  obtain ⟨hlt, rfl⟩ := List.getElem?_eq_some_iff.mp h
  have e : rows = rows.take i ++ rows[i] :: rows.drop (i + 1) := by simp
  rw [e, List.map_append, List.map_cons, List.nodup_append] at nd
  obtain ⟨_, n2, n3⟩ := nd
  rw [List.nodup_cons] at n2
  refine hG9 ?_
  try clear hG9 PG9
  refine ⟨fun x hx q => n3 x.a (List.mem_map_of_mem hx) _ (List.mem_cons_self ..) q, fun x hx q => n2.1 ?_⟩
  rw [← q]
  exact List.mem_map_of_mem hx
theorem strs_snoc {vs : List Value} {ws : List Str} (h : StrsAre vs ws) {y : Str} {t : Tok} : StrsAre (vs ++ [.str y t]) (ws ++ [y]) := by
  induction h with
  | nil => exact .cons y t .nil
  | cons x u _ ih => exact .cons x u ih
theorem sum_filter_le {α : Type} (p : α → Bool) (f : α → Nat) : ∀ l : List α, ((l.filter p).map f).sum ≤ (l.map f).sum
  | [] => Nat.le_refl _
  | a :: r => by
    have h := sum_filter_le p f r
    cases hp : p a with
    | true => rw [List.filter_cons_of_pos hp]; simp only [List.map_cons, List.sum_cons]; exact Nat.add_le_add_left h _
    | false => rw [List.filter_cons_of_neg (by rw [hp]; exact Bool.false_ne_true)]; simp only [List.map_cons, List.sum_cons]; exact Nat.le_trans h (Nat.le_add_left ..)
theorem allLt_mem {D : Addr} {l : List Ent} (h : AllLt D l) : ∀ p ∈ l, p.1 < D := by
  induction l with
  | nil => intro p hp; cases hp
  | cons a r ih =>
    intro p hp
    rcases List.mem_cons.mp hp with rfl | hp
    · exact h.1
    · exact ih h.2 p hp
structure C3St (h₀ : Heap) (L : Addr) (rest : List Ent) (R : Addr) (cur : List Row) (res : List Str) (s : Shared) : Prop where
  ex : ∃ (S : Addr) (ks kr : Nat) (rv : List Value) (m : Fm), Fr h₀ L s.heap m ∧ m (Str.ofString "result") = some (.ref R) ∧ m (Str.ofString "sequences") = some (.ref S) ∧ StrsAre rv res ∧
    News h₀ L s.heap ((R, listOf rv.toArray kr) :: (S, listOf (cur.map Row.ref).toArray ks) :: (cur.map Row.ent ++ rest))
  good : ∀ r ∈ cur, r.Good
  nd : (cur.map (·.a)).Nodup
  nR : ∀ r ∈ cur, r.a ≠ R
  rR : ∀ p ∈ rest, p.1 ≠ R
  rr : ∀ p ∈ rest, ∀ r ∈ cur, p.1 ≠ r.a
  few : cur.length ≤ 100
  sz : res.length + (cur.map (·.ws.length)).sum ≤ 100000
/-- an invariant of a loop -/
noncomputable def C3J1 (rows : List Row) (R D : Addr) (led : List Ent) (i : Nat) (mm : Fm) (led' : List Ent) : Prop := led' = led ∧ mm (Str.ofString "result") = some (.ref R) ∧ mm (Str.ofString "sequences") = some (.ref D) ∧ pick (rows.map (·.ws)) ((rows.map (·.ws)).take i) = none ∧ (0 < i → mm (Str.ofString "candidate") = some .none)
theorem C3J1.mk {rows : List Row} {R D : Addr} {led : List Ent} {i : Nat} {mm : Fm}  (h0 : mm (Str.ofString "result") = some (.ref R)) (h1 : mm (Str.ofString "sequences") = some (.ref D)) (h2 : pick (rows.map (·.ws)) ((rows.map (·.ws)).take i) = none) (h3 : 0 < i → mm (Str.ofString "candidate") = some .none) : C3J1 rows R D led i mm (led) := ⟨rfl, h0, h1, h2, h3⟩
theorem C3J1.out {rows : List Row} {R D : Addr} {led : List Ent} {i : Nat} {mm : Fm} {led' : List Ent} (h : C3J1 rows R D led i mm led') {P : Prop} (k : led' = led → mm (Str.ofString "result") = some (.ref R) → mm (Str.ofString "sequences") = some (.ref D) → pick (rows.map (·.ws)) ((rows.map (·.ws)).take i) = none → (0 < i → mm (Str.ofString "candidate") = some .none) → P) : P := by
  refine hideG fun PG9 hG9 => ?_
  obtain ⟨e, h0, h1, h2, h3⟩ := h
  refine hG9 ?_
  try clear hG9 PG9
  exact k  e h0 h1 h2 h3
/-- an invariant of a loop -/
noncomputable def C3J2 (rows : List Row) (R D : Addr) (y : Str) (t : Tok) (led : List Ent) (i : Nat) (mm : Fm) (led' : List Ent) : Prop := led' = led ∧ mm (Str.ofString "result") = some (.ref R) ∧ mm (Str.ofString "sequences") = some (.ref D) ∧ mm (Str.ofString "candidate") = some (.str y t) ∧ blocked ((rows.map (·.ws)).take i) y = false
theorem C3J2.mk {rows : List Row} {R D : Addr} {y : Str} {t : Tok} {led : List Ent} {i : Nat} {mm : Fm}  (h0 : mm (Str.ofString "result") = some (.ref R)) (h1 : mm (Str.ofString "sequences") = some (.ref D)) (h2 : mm (Str.ofString "candidate") = some (.str y t)) (h3 : blocked ((rows.map (·.ws)).take i) y = false) : C3J2 rows R D y t led i mm (led) := ⟨rfl, h0, h1, h2, h3⟩
theorem C3J2.out {rows : List Row} {R D : Addr} {y : Str} {t : Tok} {led : List Ent} {i : Nat} {mm : Fm} {led' : List Ent} (h : C3J2 rows R D y t led i mm led') {P : Prop} (k : led' = led → mm (Str.ofString "result") = some (.ref R) → mm (Str.ofString "sequences") = some (.ref D) → mm (Str.ofString "candidate") = some (.str y t) → blocked ((rows.map (·.ws)).take i) y = false → P) : P := by
  refine hideG fun PG9 hG9 => ?_
  obtain ⟨e, h0, h1, h2, h3⟩ := h
  refine hG9 ?_
  try clear hG9 PG9
  exact k  e h0 h1 h2 h3
/-- an invariant of a loop -/
noncomputable def C3J3 (rows : List Row) (R D : Addr) (y : Str) (t : Tok) (rv : List Value) (kr : Nat) (rest : List Ent) (i : Nat) (mm : Fm) (led' : List Ent) : Prop := led' = (R, listOf (rv ++ [Value.str y t]).toArray (kr + 1)) :: (D, listOf (rows.map Row.ref).toArray (rows.map Row.ref).length) :: (((rows.take i).map (Row.step y) ++ rows.drop i).map Row.ent ++ rest) ∧ mm (Str.ofString "result") = some (.ref R) ∧ mm (Str.ofString "sequences") = some (.ref D) ∧ mm (Str.ofString "candidate") = some (.str y t)
theorem C3J3.mk {rows : List Row} {R D : Addr} {y : Str} {t : Tok} {rv : List Value} {kr : Nat} {rest : List Ent} {i : Nat} {mm : Fm}  (h0 : mm (Str.ofString "result") = some (.ref R)) (h1 : mm (Str.ofString "sequences") = some (.ref D)) (h2 : mm (Str.ofString "candidate") = some (.str y t)) : C3J3 rows R D y t rv kr rest i mm ((R, listOf (rv ++ [Value.str y t]).toArray (kr + 1)) :: (D, listOf (rows.map Row.ref).toArray (rows.map Row.ref).length) :: (((rows.take i).map (Row.step y) ++ rows.drop i).map Row.ent ++ rest)) := ⟨rfl, h0, h1, h2⟩
theorem C3J3.out {rows : List Row} {R D : Addr} {y : Str} {t : Tok} {rv : List Value} {kr : Nat} {rest : List Ent} {i : Nat} {mm : Fm} {led' : List Ent} (h : C3J3 rows R D y t rv kr rest i mm led') {P : Prop} (k : led' = (R, listOf (rv ++ [Value.str y t]).toArray (kr + 1)) :: (D, listOf (rows.map Row.ref).toArray (rows.map Row.ref).length) :: (((rows.take i).map (Row.step y) ++ rows.drop i).map Row.ent ++ rest) → mm (Str.ofString "result") = some (.ref R) → mm (Str.ofString "sequences") = some (.ref D) → mm (Str.ofString "candidate") = some (.str y t) → P) : P := by
  refine hideG fun PG9 hG9 => ?_
  obtain ⟨e, h0, h1, h2⟩ := h
  refine hG9 ?_
  try clear hG9 PG9
  exact k  e h0 h1 h2
theorem c_c3 : ∀ {w : World} {p : Program} {loose : List Str} {mean : ExcName → Option Value} {mg mb : Str → Option Value} {news : List Ent}
  (lst : Addr) (dp un : Nat) (gd : Option (List Code)) (cs : Scope) (lo gl : Addr) (cl : List (Str × Addr)) (q : Str) (fn : Option Addr) (ccd : Value) (bi : Addr) (outer : List Env) (A₀ : Around) (base h₀ : Heap) (L : Addr) (m : Fm) (s : Shared) (Q E : Value → Shared → Prop)
  (cur : List Row) (k₀ k : Nat) (rest : List Ent) (out : Option (List Str))
  (B : Below A₀ base outer h₀) (F : Fr h₀ L s.heap m) (X : (KK w.params).In h₀) (N : News h₀ L s.heap ((lst, listOf (cur.map Row.ref).toArray k₀) :: (cur.map Row.ent ++ rest))) (T : Top p loose mean mg mb h₀) (hk : cs.kind = .function)
  (hd : dp ≤ 500) (hu : un ≤ 5000)
  (good : ∀ r ∈ cur, r.Good) (nd : (cur.map (·.a)).Nodup) (rr : ∀ p ∈ rest, ∀ r ∈ cur, p.1 ≠ r.a) (few : cur.length ≤ 100) (sz : (cur.map (·.ws.length)).sum ≤ 100000)
  (hc : c3 k (cur.map (·.ws)) [] = some out)
  (ret : ∀ o R kr rv s', out = some o → StrsAre rv o → Fr h₀ L s'.heap m → News h₀ L s'.heap ((R, listOf rv.toArray kr) :: rest) → (∀ p ∈ rest, p.1 ≠ R) → Ok s s' → Q (.ref R) s')
  (exc : out = none → ∀ g e led s', (∀ q ∈ rest, q ∈ led) → Fr h₀ L g m → RaisedN base (envA cs lo gl cl q fn ccd L bi :: outer) e (.type "RuntimeError") led s'.heap → g.UpToSlots s'.heap → Ok s s' → E (.ref e) s'),
  wpAny (model PySem.Challenge.rw_ik0072_01.row.toRowW.prog w) (topA dp un gd (envA cs lo gl cl q fn ccd L bi) outer) (call (.ref 58) [.ref lst]) Q E s := by
  k_fill
  intro w p loose mean mg mb news lst dp un gd cs lo gl cl qn fn ccd bi outer A₀ base h₀ L m s Q E cur k₀ k rest out B F X N T hk hd hu good nd rr few sz hc ret exc
  refine hideG fun PG9 hG9 => ?_
  obtain ⟨ck, cnm, cg1, cg2, cmo⟩ := cs
  refine hG9 ?_
  try clear hG9 PG9
  cases hk
  refine topA_mono hd hu ?_
  refine wpAny_call ?_
  k_enter
  repeat' ((fail_if_success (first | (with_reducible show wpAny _ _ (exec (Stmt.While _ _ _ _) _) _ _ _) | (with_reducible show wpAny _ _ (exec (Stmt.For _ _ _ _ _) _) _ _ _) | (with_reducible show wpAny _ _ (exec (Stmt.Assign _ (Expr.ListComp _ _ _ _) _) _) _ _ _) | (with_reducible show wpAny _ _ (subscriptTail _ _ (Value.ref _) _) _ _ _) | (with_reducible show wpAny _ _ (truthy (Value.ref _)) _ _ _) | (with_reducible show wpAny _ _ (compareOp CmpOp.In _ _) _ _ _) | (with_reducible show wpAny _ _ (getMethod (Value.ref _) _ _) _ _ _) | (with_reducible show wpAny _ _ (call (Value.builtin "list.append") _ _) _ _ _) | (with_reducible show wpAny _ _ (delItem _ _) _ _ _) | (with_reducible show Exists _) | (with_reducible show ForSrc _ _ _ _ _ _ _ _ _ _ _) | (with_reducible show TurnEnd _ _ _ _ _ _ _ _ _))); tb_rel)
  rename_i g' L' h2 FG B' X' T' tk0 R h1 l1 hh F' N'
  refine While_op (by first | passes_own | with_unfolding_all passes_own) (fun n s' => ∃ cur res, c3 n (cur.map (·.ws)) res = some out ∧ C3St g' L' rest R cur res s' ∧ Ok s s') ?turn k ?h0
  case h0 =>
    have lt := allLt_mem l1.2
    refine ⟨cur, [], hc, ⟨⟨lst, k₀, 0, [], _, F', rfl, rfl, .nil, N'⟩, good, nd, fun r hr => Nat.ne_of_lt (lt _ (List.mem_append_left _ (List.mem_map_of_mem (f := Row.ent) hr))), fun p hp => Nat.ne_of_lt (lt _ (List.mem_append_right _ hp)), rr, few, by simpa using sz⟩, ⟨rfl, id⟩⟩
  case turn =>
    clear F' N' l1 hc good nd rr few sz F N
    intro n s' QB QO EW hEW hB hO hEE hJ99
    refine hideG fun PG9 hG9 => ?_
    obtain ⟨cur, res, hc, ⟨⟨S, ks, kr, rv, m', F', hmR, hmS, hrv, N'⟩, good, nd, nR, rR, rr, few, sz⟩, ok⟩ := hJ99
    obtain ⟨u, rfl⟩ : ∃ u : Fm, m' = fun z => if z = Str.ofString "result" then some (.ref R) else if z = Str.ofString "sequences" then some (.ref S) else u z := ⟨m', by
      funext z
      by_cases h1 : z = Str.ofString "result"
      · rw [if_pos h1, h1]; exact hmR
      · rw [if_neg h1]
        by_cases h2 : z = Str.ofString "sequences"
        · rw [if_pos h2, h2]; exact hmS
        · rw [if_neg h2]⟩
    refine hG9 ?_
    try clear hG9 PG9
    repeat' ((fail_if_success (first | (with_reducible show wpAny _ _ (exec (Stmt.While _ _ _ _) _) _ _ _) | (with_reducible show wpAny _ _ (exec (Stmt.For _ _ _ _ _) _) _ _ _) | (with_reducible show wpAny _ _ (exec (Stmt.Assign _ (Expr.ListComp _ _ _ _) _) _) _ _ _) | (with_reducible show wpAny _ _ (subscriptTail _ _ (Value.ref _) _) _ _ _) | (with_reducible show wpAny _ _ (truthy (Value.ref _)) _ _ _) | (with_reducible show wpAny _ _ (compareOp CmpOp.In _ _) _ _ _) | (with_reducible show wpAny _ _ (getMethod (Value.ref _) _ _) _ _ _) | (with_reducible show wpAny _ _ (call (Value.builtin "list.append") _ _) _ _ _) | (with_reducible show wpAny _ _ (delItem _ _) _ _ _) | (with_reducible show Exists _) | (with_reducible show ForSrc _ _ _ _ _ _ _ _ _ _ _) | (with_reducible show TurnEnd _ _ _ _ _ _ _ _ _))); tb_rel)
    refine LCt.Assign_ListComp_T F' rfl rfl rfl (by decide) rfl (by decide) rfl rfl rfl ?_
    repeat' ((fail_if_success (first | (with_reducible show wpAny _ _ (exec (Stmt.While _ _ _ _) _) _ _ _) | (with_reducible show wpAny _ _ (exec (Stmt.For _ _ _ _ _) _) _ _ _) | (with_reducible show wpAny _ _ (exec (Stmt.Assign _ (Expr.ListComp _ _ _ _) _) _) _ _ _) | (with_reducible show wpAny _ _ (subscriptTail _ _ (Value.ref _) _) _ _ _) | (with_reducible show wpAny _ _ (truthy (Value.ref _)) _ _ _) | (with_reducible show wpAny _ _ (compareOp CmpOp.In _ _) _ _ _) | (with_reducible show wpAny _ _ (getMethod (Value.ref _) _ _) _ _ _) | (with_reducible show wpAny _ _ (call (Value.builtin "list.append") _ _) _ _ _) | (with_reducible show wpAny _ _ (delItem _ _) _ _ _) | (with_reducible show Exists _) | (with_reducible show ForSrc _ _ _ _ _ _ _ _ _ _ _) | (with_reducible show TurnEnd _ _ _ _ _ _ _ _ _))); tb_rel)
    refine LCt.CompSrcT.ledger rfl F' N' (List.mem_cons_of_mem _ (List.mem_cons_self ..)) (by simp [sizeLine_eq]; exact lel (by assumption) (by rfl)) (fun g => ?_)
    rw [show ((cur.map Row.ref).toArray).size = cur.length by simp]
    refine rows_filter (x := Str.ofString "s") rfl rfl (by decide) _ cur (.inr ⟨_, List.mem_cons_of_mem _ (List.mem_cons_self ..), rfl, _, rfl⟩) (fun r hr => List.mem_cons_of_mem _ (List.mem_cons_of_mem _ (List.mem_append_left _ (List.mem_map_of_mem hr)))) good ?_ cur [] rfl
    intro D h tk F'' N'' off
    have hRD : R ≠ D := off.1
    have offD : ∀ p ∈ cur.map Row.ent ++ rest, p.1 ≠ D := fun p hp => off1_mem off p (List.mem_cons_of_mem _ (List.mem_cons_of_mem _ hp))
    cases n with
    | zero => cases hc
    | succ n =>
    have ef : (cur.map (·.ws)).filter (fun s => !s.isEmpty) = (cur.filter Row.ne).map (·.ws) := by
      rw [List.filter_map]; rfl
    unfold c3 at hc
    rw [ef] at hc
    generalize hq : cur.filter Row.ne = q at hc N'' F''
    have hsub : ∀ r ∈ q, r ∈ cur := fun r hr => by rw [← hq] at hr; exact (List.mem_filter.mp hr).1
    have hne : ∀ r ∈ q, r.ne = true := fun r hr => by rw [← hq] at hr; exact (List.mem_filter.mp hr).2
    have N3 : News g' L' h ((R, listOf rv.toArray kr) :: (D, listOf (q.map Row.ref).toArray (q.map Row.ref).length) :: (q.map Row.ent ++ rest)) := by
      intro p hp
      rcases List.mem_cons.mp hp with rfl | hp
      · exact N'' _ (List.mem_cons_of_mem _ (List.mem_cons_self ..))
      · rcases List.mem_cons.mp hp with rfl | hp
        · exact N'' _ (List.mem_cons_self ..)
        · refine N'' _ (List.mem_cons_of_mem _ (List.mem_cons_of_mem _ (List.mem_cons_of_mem _ ?_)))
          rcases List.mem_append.mp hp with hp | hp
          · obtain ⟨r, hr, rfl⟩ := List.mem_map.mp hp
            exact List.mem_append_left _ (List.mem_map_of_mem (hsub r hr))
          · exact List.mem_append_right _ hp
    clear N'' N'
    have good' : ∀ r ∈ q, r.Good := fun r hr => good r (hsub r hr)
    have nd' : (q.map (·.a)).Nodup := by rw [← hq]; exact nd.sublist ((List.filter_sublist).map _)
    have few' : q.length ≤ 100 := by rw [← hq]; exact Nat.le_trans (List.length_filter_le ..) few
    cases q with
    | nil =>
      repeat' ((fail_if_success (first | (with_reducible show wpAny _ _ (exec (Stmt.While _ _ _ _) _) _ _ _) | (with_reducible show wpAny _ _ (exec (Stmt.For _ _ _ _ _) _) _ _ _) | (with_reducible show wpAny _ _ (exec (Stmt.Assign _ (Expr.ListComp _ _ _ _) _) _) _ _ _) | (with_reducible show wpAny _ _ (subscriptTail _ _ (Value.ref _) _) _ _ _) | (with_reducible show wpAny _ _ (truthy (Value.ref _)) _ _ _) | (with_reducible show wpAny _ _ (compareOp CmpOp.In _ _) _ _ _) | (with_reducible show wpAny _ _ (getMethod (Value.ref _) _ _) _ _ _) | (with_reducible show wpAny _ _ (call (Value.builtin "list.append") _ _) _ _ _) | (with_reducible show wpAny _ _ (delItem _ _) _ _ _) | (with_reducible show Exists _) | (with_reducible show ForSrc _ _ _ _ _ _ _ _ _ _ _) | (with_reducible show TurnEnd _ _ _ _ _ _ _ _ _))); tb_rel)
      refine truthy_led false N3 (List.mem_cons_of_mem _ (List.mem_cons_self ..)) (by simp) rfl ?_
      repeat' ((fail_if_success (first | (with_reducible show wpAny _ _ (exec (Stmt.While _ _ _ _) _) _ _ _) | (with_reducible show wpAny _ _ (exec (Stmt.For _ _ _ _ _) _) _ _ _) | (with_reducible show wpAny _ _ (exec (Stmt.Assign _ (Expr.ListComp _ _ _ _) _) _) _ _ _) | (with_reducible show wpAny _ _ (subscriptTail _ _ (Value.ref _) _) _ _ _) | (with_reducible show wpAny _ _ (truthy (Value.ref _)) _ _ _) | (with_reducible show wpAny _ _ (compareOp CmpOp.In _ _) _ _ _) | (with_reducible show wpAny _ _ (getMethod (Value.ref _) _ _) _ _ _) | (with_reducible show wpAny _ _ (call (Value.builtin "list.append") _ _) _ _ _) | (with_reducible show wpAny _ _ (delItem _ _) _ _ _) | (with_reducible show Exists _) | (with_reducible show ForSrc _ _ _ _ _ _ _ _ _ _ _) | (with_reducible show TurnEnd _ _ _ _ _ _ _ _ _))); tb_rel)
      try dsimp only
      refine hB _ _ ?_
      dsimp only [WEnd]
      repeat' ((fail_if_success (first | (with_reducible show wpAny _ _ (exec (Stmt.While _ _ _ _) _) _ _ _) | (with_reducible show wpAny _ _ (exec (Stmt.For _ _ _ _ _) _) _ _ _) | (with_reducible show wpAny _ _ (exec (Stmt.Assign _ (Expr.ListComp _ _ _ _) _) _) _ _ _) | (with_reducible show wpAny _ _ (subscriptTail _ _ (Value.ref _) _) _ _ _) | (with_reducible show wpAny _ _ (truthy (Value.ref _)) _ _ _) | (with_reducible show wpAny _ _ (compareOp CmpOp.In _ _) _ _ _) | (with_reducible show wpAny _ _ (getMethod (Value.ref _) _ _) _ _ _) | (with_reducible show wpAny _ _ (call (Value.builtin "list.append") _ _) _ _ _) | (with_reducible show wpAny _ _ (delItem _ _) _ _ _) | (with_reducible show Exists _) | (with_reducible show ForSrc _ _ _ _ _ _ _ _ _ _ _) | (with_reducible show TurnEnd _ _ _ _ _ _ _ _ _))); tb_rel)
      rename News h₀ L _ _ => kN
      rename Fr h₀ L _ m => kF
      exact ret res R kr rv _ (Option.some.inj hc).symm hrv kF (fun p hp => kN p (by
        rcases List.mem_cons.mp hp with rfl | hp
        · exact List.mem_cons_self ..
        · exact List.mem_cons_of_mem _ (List.mem_cons_of_mem _ (List.mem_append_right _ hp)))) rR ⟨ok.os, ok.gens⟩
    | cons a q =>
      repeat' ((fail_if_success (first | (with_reducible show wpAny _ _ (exec (Stmt.While _ _ _ _) _) _ _ _) | (with_reducible show wpAny _ _ (exec (Stmt.For _ _ _ _ _) _) _ _ _) | (with_reducible show wpAny _ _ (exec (Stmt.Assign _ (Expr.ListComp _ _ _ _) _) _) _ _ _) | (with_reducible show wpAny _ _ (subscriptTail _ _ (Value.ref _) _) _ _ _) | (with_reducible show wpAny _ _ (truthy (Value.ref _)) _ _ _) | (with_reducible show wpAny _ _ (compareOp CmpOp.In _ _) _ _ _) | (with_reducible show wpAny _ _ (getMethod (Value.ref _) _ _) _ _ _) | (with_reducible show wpAny _ _ (call (Value.builtin "list.append") _ _) _ _ _) | (with_reducible show wpAny _ _ (delItem _ _) _ _ _) | (with_reducible show Exists _) | (with_reducible show ForSrc _ _ _ _ _ _ _ _ _ _ _) | (with_reducible show TurnEnd _ _ _ _ _ _ _ _ _))); tb_rel)
      refine truthy_led true N3 (List.mem_cons_of_mem _ (List.mem_cons_self ..)) (by rw [List.length_map]; exact lel (by assumption) (by rfl)) rfl ?_
      repeat' ((fail_if_success (first | (with_reducible show wpAny _ _ (exec (Stmt.While _ _ _ _) _) _ _ _) | (with_reducible show wpAny _ _ (exec (Stmt.For _ _ _ _ _) _) _ _ _) | (with_reducible show wpAny _ _ (exec (Stmt.Assign _ (Expr.ListComp _ _ _ _) _) _) _ _ _) | (with_reducible show wpAny _ _ (subscriptTail _ _ (Value.ref _) _) _ _ _) | (with_reducible show wpAny _ _ (truthy (Value.ref _)) _ _ _) | (with_reducible show wpAny _ _ (compareOp CmpOp.In _ _) _ _ _) | (with_reducible show wpAny _ _ (getMethod (Value.ref _) _ _) _ _ _) | (with_reducible show wpAny _ _ (call (Value.builtin "list.append") _ _) _ _ _) | (with_reducible show wpAny _ _ (delItem _ _) _ _ _) | (with_reducible show Exists _) | (with_reducible show ForSrc _ _ _ _ _ _ _ _ _ _ _) | (with_reducible show TurnEnd _ _ _ _ _ _ _ _ _))); tb_rel)
      rename Fr g' L' h _ => F3
      have hent : ∀ r ∈ a :: q, (r.a, listOf r.vs.toArray r.n) ∈ (R, listOf rv.toArray kr) :: (D, listOf ((a :: q).map Row.ref).toArray ((a :: q).map Row.ref).length) :: ((a :: q).map Row.ent ++ rest) := fun r hr =>
        List.mem_cons_of_mem _ (List.mem_cons_of_mem _ (List.mem_append_left _ (List.mem_map_of_mem (f := Row.ent) hr)))
      have hDm : (D, listOf ((a :: q).map Row.ref).toArray ((a :: q).map Row.ref).length) ∈ (R, listOf rv.toArray kr) :: (D, listOf ((a :: q).map Row.ref).toArray ((a :: q).map Row.ref).length) :: ((a :: q).map Row.ent ++ rest) := List.mem_cons_of_mem _ (List.mem_cons_self ..)
      have hc : (match pick ((a :: q).map (·.ws)) ((a :: q).map (·.ws)) with | none => some none | some c => c3 n (((a :: q).map (·.ws)).map (popc c)) (res ++ [c])) = some out := hc
      generalize hled : (R, listOf rv.toArray kr) :: (D, listOf ((a :: q).map Row.ref).toArray ((a :: q).map Row.ref).length) :: ((a :: q).map Row.ent ++ rest) = led at N3 hent hDm
      generalize hrows : a :: q = rows at *
      refine For_led g' rfl rfl rfl ?_
      repeat' ((fail_if_success (first | (with_reducible show wpAny _ _ (exec (Stmt.While _ _ _ _) _) _ _ _) | (with_reducible show wpAny _ _ (exec (Stmt.For _ _ _ _ _) _) _ _ _) | (with_reducible show wpAny _ _ (exec (Stmt.Assign _ (Expr.ListComp _ _ _ _) _) _) _ _ _) | (with_reducible show wpAny _ _ (subscriptTail _ _ (Value.ref _) _) _ _ _) | (with_reducible show wpAny _ _ (truthy (Value.ref _)) _ _ _) | (with_reducible show wpAny _ _ (compareOp CmpOp.In _ _) _ _ _) | (with_reducible show wpAny _ _ (getMethod (Value.ref _) _ _) _ _ _) | (with_reducible show wpAny _ _ (call (Value.builtin "list.append") _ _) _ _ _) | (with_reducible show wpAny _ _ (delItem _ _) _ _ _) | (with_reducible show Exists _) | (with_reducible show ForSrc _ _ _ _ _ _ _ _ _ _ _) | (with_reducible show TurnEnd _ _ _ _ _ _ _ _ _))); tb_rel)
      refine ForSrc.intro (vs := rows.map Row.ref) (n := (rows.map Row.ref).length) (C3J1 rows R D led) F3 N3 ?_ (C3J1.mk rfl rfl rfl fun h => absurd h (Nat.lt_irrefl _)) ?_ ?_
      · rintro i m' led' ⟨rfl, _⟩
        exact ⟨rfl, hDm⟩
      · intro i v m₁ led₁ s₁ It E' hv hJ9 ok₁ F₁ N₁ lt
        refine hJ9.out fun hled9 hm1 hm2 hp hcand => ?_
        refine hideG fun PG9 hG9 => ?_
        obtain rfl := hled9
        refine hG9 ?_
        try clear hG9 PG9
        clear hJ9
        refine hideG fun PG9 hG9 => ?_
        obtain ⟨r, hri, rfl⟩ := map_get hv
        have hrm : r ∈ rows := List.mem_of_getElem? hri
        obtain ⟨u, rfl⟩ := form2 hm1 hm2
        have hre := hent r hrm
        have hrg := good' r hrm
        have hrn := hne r hrm
        have hwi : (rows.map (·.ws))[i]? = some r.ws := by rw [List.getElem?_map, hri]; rfl
        obtain ⟨ra, rvs, rws, rn⟩ := r
        obtain ⟨hra, _⟩ := hrg
        refine hG9 ?_
        try clear hG9 PG9
        cases hra with
        | nil => cases hrn
        | @cons y t vs ys hra =>
        change Fr g' L' s₁.heap _ at F₁
        change News g' L' s₁.heap _ at N₁
        dsimp only at hre
        refine hideQ fun Q1 hQ1 => ?_
        repeat' ((fail_if_success (first | (with_reducible show wpAny _ _ (exec (Stmt.While _ _ _ _) _) _ _ _) | (with_reducible show wpAny _ _ (exec (Stmt.For _ _ _ _ _) _) _ _ _) | (with_reducible show wpAny _ _ (exec (Stmt.Assign _ (Expr.ListComp _ _ _ _) _) _) _ _ _) | (with_reducible show wpAny _ _ (subscriptTail _ _ (Value.ref _) _) _ _ _) | (with_reducible show wpAny _ _ (truthy (Value.ref _)) _ _ _) | (with_reducible show wpAny _ _ (compareOp CmpOp.In _ _) _ _ _) | (with_reducible show wpAny _ _ (getMethod (Value.ref _) _ _) _ _ _) | (with_reducible show wpAny _ _ (call (Value.builtin "list.append") _ _) _ _ _) | (with_reducible show wpAny _ _ (delItem _ _) _ _ _) | (with_reducible show Exists _) | (with_reducible show ForSrc _ _ _ _ _ _ _ _ _ _ _) | (with_reducible show TurnEnd _ _ _ _ _ _ _ _ _))); tb_rel)
        refine item_led N₁ (List.mem_cons_of_mem _ hre) (by decide) (by decide) rfl ?_
        repeat' ((fail_if_success (first | (with_reducible show wpAny _ _ (exec (Stmt.While _ _ _ _) _) _ _ _) | (with_reducible show wpAny _ _ (exec (Stmt.For _ _ _ _ _) _) _ _ _) | (with_reducible show wpAny _ _ (exec (Stmt.Assign _ (Expr.ListComp _ _ _ _) _) _) _ _ _) | (with_reducible show wpAny _ _ (subscriptTail _ _ (Value.ref _) _) _ _ _) | (with_reducible show wpAny _ _ (truthy (Value.ref _)) _ _ _) | (with_reducible show wpAny _ _ (compareOp CmpOp.In _ _) _ _ _) | (with_reducible show wpAny _ _ (getMethod (Value.ref _) _ _) _ _ _) | (with_reducible show wpAny _ _ (call (Value.builtin "list.append") _ _) _ _ _) | (with_reducible show wpAny _ _ (delItem _ _) _ _ _) | (with_reducible show Exists _) | (with_reducible show ForSrc _ _ _ _ _ _ _ _ _ _ _) | (with_reducible show TurnEnd _ _ _ _ _ _ _ _ _))); tb_rel)
        rename News g' L' _ (It :: led₁) => N5
        rename Fr g' L' _ _ => F5
        refine For_led g' rfl rfl rfl ?_
        repeat' ((fail_if_success (first | (with_reducible show wpAny _ _ (exec (Stmt.While _ _ _ _) _) _ _ _) | (with_reducible show wpAny _ _ (exec (Stmt.For _ _ _ _ _) _) _ _ _) | (with_reducible show wpAny _ _ (exec (Stmt.Assign _ (Expr.ListComp _ _ _ _) _) _) _ _ _) | (with_reducible show wpAny _ _ (subscriptTail _ _ (Value.ref _) _) _ _ _) | (with_reducible show wpAny _ _ (truthy (Value.ref _)) _ _ _) | (with_reducible show wpAny _ _ (compareOp CmpOp.In _ _) _ _ _) | (with_reducible show wpAny _ _ (getMethod (Value.ref _) _ _) _ _ _) | (with_reducible show wpAny _ _ (call (Value.builtin "list.append") _ _) _ _ _) | (with_reducible show wpAny _ _ (delItem _ _) _ _ _) | (with_reducible show Exists _) | (with_reducible show ForSrc _ _ _ _ _ _ _ _ _ _ _) | (with_reducible show TurnEnd _ _ _ _ _ _ _ _ _))); tb_rel)
        refine ForSrc.intro (vs := rows.map Row.ref) (n := (rows.map Row.ref).length) (C3J2 rows R D y t (It :: led₁)) F5 N5 ?_ (C3J2.mk rfl rfl rfl rfl) ?_ ?_
        · rintro j m' led' ⟨rfl, _⟩
          exact ⟨rfl, List.mem_cons_of_mem _ hDm⟩
        · intro j v m₁ led₁ s₂ It2 E2 hv2 hJ9 ok₂ F₂ N₂ lt₂
          refine hJ9.out fun hled9 hm1 hm2 hm3 hb => ?_
          refine hideG fun PG9 hG9 => ?_
          obtain rfl := hled9
          refine hG9 ?_
          try clear hG9 PG9
          clear hJ9
          refine hideG fun PG9 hG9 => ?_
          obtain ⟨r2, hrj, rfl⟩ := map_get hv2
          have hrm2 : r2 ∈ rows := List.mem_of_getElem? hrj
          obtain ⟨u2, rfl⟩ : ∃ u : Fm, m₁ = fun z => if z = Str.ofString "result" then some (.ref R) else if z = Str.ofString "sequences" then some (.ref D) else if z = Str.ofString "candidate" then some (.str y t) else u z := ⟨m₁, form3 hm1 hm2 hm3⟩
          have hre2 := hent r2 hrm2
          have hrg2 := good' r2 hrm2
          have hwj : (rows.map (·.ws))[j]? = some r2.ws := by rw [List.getElem?_map, hrj]; rfl
          change Fr g' L' s₂.heap _ at F₂
          change News g' L' s₂.heap _ at N₂
          refine hG9 ?_
          try clear hG9 PG9
          refine hideQ fun Q2 hQ2 => ?_
          repeat' ((fail_if_success (first | (with_reducible show wpAny _ _ (exec (Stmt.While _ _ _ _) _) _ _ _) | (with_reducible show wpAny _ _ (exec (Stmt.For _ _ _ _ _) _) _ _ _) | (with_reducible show wpAny _ _ (exec (Stmt.Assign _ (Expr.ListComp _ _ _ _) _) _) _ _ _) | (with_reducible show wpAny _ _ (subscriptTail _ _ (Value.ref _) _) _ _ _) | (with_reducible show wpAny _ _ (truthy (Value.ref _)) _ _ _) | (with_reducible show wpAny _ _ (compareOp CmpOp.In _ _) _ _ _) | (with_reducible show wpAny _ _ (getMethod (Value.ref _) _ _) _ _ _) | (with_reducible show wpAny _ _ (call (Value.builtin "list.append") _ _) _ _ _) | (with_reducible show wpAny _ _ (delItem _ _) _ _ _) | (with_reducible show Exists _) | (with_reducible show ForSrc _ _ _ _ _ _ _ _ _ _ _) | (with_reducible show TurnEnd _ _ _ _ _ _ _ _ _))); tb_rel)
          refine slice1_led F₂ N₂ (List.mem_cons_of_mem _ (List.mem_cons_of_mem _ hre2)) (by rw [hrg2.vlen]; exact lel hrg2.len rfl) (fun D6 h6 F6 N6 l6 => ?_)
          repeat' ((fail_if_success (first | (with_reducible show wpAny _ _ (exec (Stmt.While _ _ _ _) _) _ _ _) | (with_reducible show wpAny _ _ (exec (Stmt.For _ _ _ _ _) _) _ _ _) | (with_reducible show wpAny _ _ (exec (Stmt.Assign _ (Expr.ListComp _ _ _ _) _) _) _ _ _) | (with_reducible show wpAny _ _ (subscriptTail _ _ (Value.ref _) _) _ _ _) | (with_reducible show wpAny _ _ (truthy (Value.ref _)) _ _ _) | (with_reducible show wpAny _ _ (compareOp CmpOp.In _ _) _ _ _) | (with_reducible show wpAny _ _ (getMethod (Value.ref _) _ _) _ _ _) | (with_reducible show wpAny _ _ (call (Value.builtin "list.append") _ _) _ _ _) | (with_reducible show wpAny _ _ (delItem _ _) _ _ _) | (with_reducible show Exists _) | (with_reducible show ForSrc _ _ _ _ _ _ _ _ _ _ _) | (with_reducible show TurnEnd _ _ _ _ _ _ _ _ _))); tb_rel)
          refine in_list_strs (vs := r2.vs.drop 1) ⟨_, (N6 _ (List.mem_cons_self ..)).1, rfl, _, rfl⟩ (strs_drop hrg2.are 1) ?_
          cases hin : (r2.ws.drop 1).any (· == y) with
          | true =>
            repeat' ((fail_if_success (first | (with_reducible show wpAny _ _ (exec (Stmt.While _ _ _ _) _) _ _ _) | (with_reducible show wpAny _ _ (exec (Stmt.For _ _ _ _ _) _) _ _ _) | (with_reducible show wpAny _ _ (exec (Stmt.Assign _ (Expr.ListComp _ _ _ _) _) _) _ _ _) | (with_reducible show wpAny _ _ (subscriptTail _ _ (Value.ref _) _) _ _ _) | (with_reducible show wpAny _ _ (truthy (Value.ref _)) _ _ _) | (with_reducible show wpAny _ _ (compareOp CmpOp.In _ _) _ _ _) | (with_reducible show wpAny _ _ (getMethod (Value.ref _) _ _) _ _ _) | (with_reducible show wpAny _ _ (call (Value.builtin "list.append") _ _) _ _ _) | (with_reducible show wpAny _ _ (delItem _ _) _ _ _) | (with_reducible show Exists _) | (with_reducible show ForSrc _ _ _ _ _ _ _ _ _ _ _) | (with_reducible show TurnEnd _ _ _ _ _ _ _ _ _))); tb_rel)
            refine hQ2 _ _ ?_
            dsimp only [TurnEnd]
            repeat' ((fail_if_success (first | (with_reducible show wpAny _ _ (exec (Stmt.While _ _ _ _) _) _ _ _) | (with_reducible show wpAny _ _ (exec (Stmt.For _ _ _ _ _) _) _ _ _) | (with_reducible show wpAny _ _ (exec (Stmt.Assign _ (Expr.ListComp _ _ _ _) _) _) _ _ _) | (with_reducible show wpAny _ _ (subscriptTail _ _ (Value.ref _) _) _ _ _) | (with_reducible show wpAny _ _ (truthy (Value.ref _)) _ _ _) | (with_reducible show wpAny _ _ (compareOp CmpOp.In _ _) _ _ _) | (with_reducible show wpAny _ _ (getMethod (Value.ref _) _ _) _ _ _) | (with_reducible show wpAny _ _ (call (Value.builtin "list.append") _ _) _ _ _) | (with_reducible show wpAny _ _ (delItem _ _) _ _ _) | (with_reducible show Exists _) | (with_reducible show ForSrc _ _ _ _ _ _ _ _ _ _ _) | (with_reducible show TurnEnd _ _ _ _ _ _ _ _ _))); tb_rel)
            refine hQ1 _ _ ?_
            dsimp only [TurnEnd]
            rename Fr g' L' _ _ => F7
            rename News g' L' _ _ => N7
            refine ⟨_, led₁, F7, fun p hp => N7 p (List.mem_cons_of_mem _ (List.mem_cons_of_mem _ hp)), C3J1.mk rfl rfl ?_ (fun _ => rfl), ⟨ok₂.os, ok₂.gens⟩⟩
            have hbl := blocked_of hrm2 hin
            rw [pick_take hp hwi]
            exact if_pos hbl
          | false =>
            repeat' ((fail_if_success (first | (with_reducible show wpAny _ _ (exec (Stmt.While _ _ _ _) _) _ _ _) | (with_reducible show wpAny _ _ (exec (Stmt.For _ _ _ _ _) _) _ _ _) | (with_reducible show wpAny _ _ (exec (Stmt.Assign _ (Expr.ListComp _ _ _ _) _) _) _ _ _) | (with_reducible show wpAny _ _ (subscriptTail _ _ (Value.ref _) _) _ _ _) | (with_reducible show wpAny _ _ (truthy (Value.ref _)) _ _ _) | (with_reducible show wpAny _ _ (compareOp CmpOp.In _ _) _ _ _) | (with_reducible show wpAny _ _ (getMethod (Value.ref _) _ _) _ _ _) | (with_reducible show wpAny _ _ (call (Value.builtin "list.append") _ _) _ _ _) | (with_reducible show wpAny _ _ (delItem _ _) _ _ _) | (with_reducible show Exists _) | (with_reducible show ForSrc _ _ _ _ _ _ _ _ _ _ _) | (with_reducible show TurnEnd _ _ _ _ _ _ _ _ _))); tb_rel)
            refine hQ2 _ _ ?_
            dsimp only [TurnEnd]
            rename Fr g' L' _ _ => F7
            rename News g' L' _ _ => N7
            refine ⟨_, It :: led₁, F7, fun p hp => N7 p (List.mem_cons_of_mem _ hp), C3J2.mk rfl rfl rfl ?_, ⟨rfl, id⟩⟩
            exact blocked_take hb hwj hin
        · intro m₁ led₁ s₂ E2 hJ9 ok₂ F₂ N₂
          refine hJ9.out fun hled9 hm1 hm2 hm3 hb => ?_
          refine hideG fun PG9 hG9 => ?_
          obtain rfl := hled9
          refine hG9 ?_
          try clear hG9 PG9
          clear hJ9
          refine hideG fun PG9 hG9 => ?_
          obtain ⟨u2, rfl⟩ : ∃ u : Fm, m₁ = fun z => if z = Str.ofString "result" then some (.ref R) else if z = Str.ofString "sequences" then some (.ref D) else if z = Str.ofString "candidate" then some (.str y t) else u z := ⟨m₁, form3 hm1 hm2 hm3⟩
          refine hG9 ?_
          try clear hG9 PG9
          repeat' ((fail_if_success (first | (with_reducible show wpAny _ _ (exec (Stmt.While _ _ _ _) _) _ _ _) | (with_reducible show wpAny _ _ (exec (Stmt.For _ _ _ _ _) _) _ _ _) | (with_reducible show wpAny _ _ (exec (Stmt.Assign _ (Expr.ListComp _ _ _ _) _) _) _ _ _) | (with_reducible show wpAny _ _ (subscriptTail _ _ (Value.ref _) _) _ _ _) | (with_reducible show wpAny _ _ (truthy (Value.ref _)) _ _ _) | (with_reducible show wpAny _ _ (compareOp CmpOp.In _ _) _ _ _) | (with_reducible show wpAny _ _ (getMethod (Value.ref _) _ _) _ _ _) | (with_reducible show wpAny _ _ (call (Value.builtin "list.append") _ _) _ _ _) | (with_reducible show wpAny _ _ (delItem _ _) _ _ _) | (with_reducible show Exists _) | (with_reducible show ForSrc _ _ _ _ _ _ _ _ _ _ _) | (with_reducible show TurnEnd _ _ _ _ _ _ _ _ _))); tb_rel)
          refine hQ1 _ _ ?_
          dsimp only [TurnEnd]
          have hpick := pick_stop hp hwi (by rw [List.length_map, ← List.length_map (f := (·.ws)), List.take_length] at hb; exact hb)
          rw [hpick] at hc
          change Fr g' L' s₂.heap _ at F₂
          change News g' L' s₂.heap _ at N₂
          refine hideG fun PG9 hG9 => ?_
          subst hled
          have N8 : News g' L' s₂.heap ((R, listOf rv.toArray kr) :: (D, listOf (rows.map Row.ref).toArray (rows.map Row.ref).length) :: (rows.map Row.ent ++ rest)) := fun p hp => N₂ p (List.mem_cons_of_mem _ hp)
          refine hG9 ?_
          try clear hG9 PG9
          clear N₂ N5 F5
          repeat' ((fail_if_success (first | (with_reducible show wpAny _ _ (exec (Stmt.While _ _ _ _) _) _ _ _) | (with_reducible show wpAny _ _ (exec (Stmt.For _ _ _ _ _) _) _ _ _) | (with_reducible show wpAny _ _ (exec (Stmt.Assign _ (Expr.ListComp _ _ _ _) _) _) _ _ _) | (with_reducible show wpAny _ _ (subscriptTail _ _ (Value.ref _) _) _ _ _) | (with_reducible show wpAny _ _ (truthy (Value.ref _)) _ _ _) | (with_reducible show wpAny _ _ (compareOp CmpOp.In _ _) _ _ _) | (with_reducible show wpAny _ _ (getMethod (Value.ref _) _ _) _ _ _) | (with_reducible show wpAny _ _ (call (Value.builtin "list.append") _ _) _ _ _) | (with_reducible show wpAny _ _ (delItem _ _) _ _ _) | (with_reducible show Exists _) | (with_reducible show ForSrc _ _ _ _ _ _ _ _ _ _ _) | (with_reducible show TurnEnd _ _ _ _ _ _ _ _ _))); tb_rel)
          refine getMethod_append_N N8 (List.mem_cons_self ..) ?_
          repeat' ((fail_if_success (first | (with_reducible show wpAny _ _ (exec (Stmt.While _ _ _ _) _) _ _ _) | (with_reducible show wpAny _ _ (exec (Stmt.For _ _ _ _ _) _) _ _ _) | (with_reducible show wpAny _ _ (exec (Stmt.Assign _ (Expr.ListComp _ _ _ _) _) _) _ _ _) | (with_reducible show wpAny _ _ (subscriptTail _ _ (Value.ref _) _) _ _ _) | (with_reducible show wpAny _ _ (truthy (Value.ref _)) _ _ _) | (with_reducible show wpAny _ _ (compareOp CmpOp.In _ _) _ _ _) | (with_reducible show wpAny _ _ (getMethod (Value.ref _) _ _) _ _ _) | (with_reducible show wpAny _ _ (call (Value.builtin "list.append") _ _) _ _ _) | (with_reducible show wpAny _ _ (delItem _ _) _ _ _) | (with_reducible show Exists _) | (with_reducible show ForSrc _ _ _ _ _ _ _ _ _ _ _) | (with_reducible show TurnEnd _ _ _ _ _ _ _ _ _))); tb_rel)
          have nRr : ∀ r ∈ rows, r.a ≠ R := fun r hr => nR r (hsub r hr)
          have offR : ∀ p ∈ (D, listOf (rows.map Row.ref).toArray (rows.map Row.ref).length) :: (rows.map Row.ent ++ rest), p.1 ≠ R := by
            intro p hp
            rcases List.mem_cons.mp hp with rfl | hp
            · exact Ne.symm hRD
            · rcases List.mem_append.mp hp with hp | hp
              · obtain ⟨r, hr, rfl⟩ := List.mem_map.mp hp
                exact nRr r hr
              · exact rR p hp
          have hrl : rv.length ≤ 100000 := by rw [strs_length hrv]; exact Nat.le_trans (Nat.le_add_right ..) (by assumption)
          refine append_led (pre := []) F₂ N8 (fun _ h => nomatch h) offR (lel hrl rfl) (fun h9 F9 N9 => ?_)
          repeat' ((fail_if_success (first | (with_reducible show wpAny _ _ (exec (Stmt.While _ _ _ _) _) _ _ _) | (with_reducible show wpAny _ _ (exec (Stmt.For _ _ _ _ _) _) _ _ _) | (with_reducible show wpAny _ _ (exec (Stmt.Assign _ (Expr.ListComp _ _ _ _) _) _) _ _ _) | (with_reducible show wpAny _ _ (subscriptTail _ _ (Value.ref _) _) _ _ _) | (with_reducible show wpAny _ _ (truthy (Value.ref _)) _ _ _) | (with_reducible show wpAny _ _ (compareOp CmpOp.In _ _) _ _ _) | (with_reducible show wpAny _ _ (getMethod (Value.ref _) _ _) _ _ _) | (with_reducible show wpAny _ _ (call (Value.builtin "list.append") _ _) _ _ _) | (with_reducible show wpAny _ _ (delItem _ _) _ _ _) | (with_reducible show Exists _) | (with_reducible show ForSrc _ _ _ _ _ _ _ _ _ _ _) | (with_reducible show TurnEnd _ _ _ _ _ _ _ _ _))); tb_rel)
          refine For_led g' rfl rfl rfl ?_
          repeat' ((fail_if_success (first | (with_reducible show wpAny _ _ (exec (Stmt.While _ _ _ _) _) _ _ _) | (with_reducible show wpAny _ _ (exec (Stmt.For _ _ _ _ _) _) _ _ _) | (with_reducible show wpAny _ _ (exec (Stmt.Assign _ (Expr.ListComp _ _ _ _) _) _) _ _ _) | (with_reducible show wpAny _ _ (subscriptTail _ _ (Value.ref _) _) _ _ _) | (with_reducible show wpAny _ _ (truthy (Value.ref _)) _ _ _) | (with_reducible show wpAny _ _ (compareOp CmpOp.In _ _) _ _ _) | (with_reducible show wpAny _ _ (getMethod (Value.ref _) _ _) _ _ _) | (with_reducible show wpAny _ _ (call (Value.builtin "list.append") _ _) _ _ _) | (with_reducible show wpAny _ _ (delItem _ _) _ _ _) | (with_reducible show Exists _) | (with_reducible show ForSrc _ _ _ _ _ _ _ _ _ _ _) | (with_reducible show TurnEnd _ _ _ _ _ _ _ _ _))); tb_rel)
          refine ForSrc.intro (vs := rows.map Row.ref) (n := (rows.map Row.ref).length) (C3J3 rows R D y t rv kr rest) F9 N9 ?_ (C3J3.mk rfl rfl rfl) ?_ ?_
          · rintro i m' led' ⟨rfl, _⟩
            refine ⟨?_, List.mem_cons_of_mem _ (List.mem_cons_self ..)⟩
            simp only [List.map_cons, List.map_append (f := Prod.fst), rows_adr]
            rfl
          · intro i v m₁ led₁ s₃ It3 E3 hv3 hJ9 ok₃ F₃ N₃ lt₃
            refine hJ9.out fun hled9 hm1 hm2 hm3 => ?_
            refine hideG fun PG9 hG9 => ?_
            obtain rfl := hled9
            refine hG9 ?_
            try clear hG9 PG9
            clear hJ9
            refine hideG fun PG9 hG9 => ?_
            obtain ⟨r3, hr3, rfl⟩ := map_get hv3
            have hrm3 : r3 ∈ rows := List.mem_of_getElem? hr3
            obtain ⟨hlt3, hge3⟩ := List.getElem?_eq_some_iff.mp hr3
            obtain ⟨u3, rfl⟩ : ∃ u : Fm, m₁ = fun z => if z = Str.ofString "result" then some (.ref R) else if z = Str.ofString "sequences" then some (.ref D) else if z = Str.ofString "candidate" then some (.str y t) else u z := ⟨m₁, form3 hm1 hm2 hm3⟩
            have hrg3 := good' r3 hrm3
            have hrn3 := hne r3 hrm3
            have hdrop : rows.drop i = r3 :: rows.drop (i + 1) := by rw [List.drop_eq_getElem_cons hlt3, hge3]
            have htake : (rows.take (i + 1)).map (Row.step y) = (rows.take i).map (Row.step y) ++ [r3.step y] := by rw [List.take_add_one, hr3, List.map_append]; rfl
            change Fr g' L' s₃.heap _ at F₃
            change News g' L' s₃.heap _ at N₃
            rw [hdrop] at N₃
            refine hG9 ?_
            try clear hG9 PG9
            refine hideQ fun Q3 hQ3 => ?_
            have hmem3 : (r3.a, listOf r3.vs.toArray r3.n) ∈ It3 :: (R, listOf (rv ++ [Value.str y t]).toArray (kr + 1)) :: (D, listOf (rows.map Row.ref).toArray (rows.map Row.ref).length) :: (((rows.take i).map (Row.step y) ++ r3 :: rows.drop (i + 1)).map Row.ent ++ rest) :=
              List.mem_cons_of_mem _ (List.mem_cons_of_mem _ (List.mem_cons_of_mem _ (List.mem_append_left _ (List.mem_map_of_mem (f := Row.ent) (List.mem_append_right _ (List.mem_cons_self ..))))))
            have hlt3a := lt₃ _ (List.mem_cons_of_mem _ (List.mem_cons_of_mem _ (List.mem_append_left _ (List.mem_map_of_mem (f := Row.ent) (List.mem_append_right _ (hdrop ▸ List.mem_cons_self ..))))))
            refine hideG fun PG9 hG9 => ?_
            obtain ⟨ra3, rvs3, rws3, rn3⟩ := r3
            obtain ⟨hra3, hlen3⟩ := hrg3
            refine hG9 ?_
            try clear hG9 PG9
            cases hra3 with
            | nil => cases hrn3
            | @cons y3 t3 vs3 ys3 hra3 =>
            repeat' ((fail_if_success (first | (with_reducible show wpAny _ _ (exec (Stmt.While _ _ _ _) _) _ _ _) | (with_reducible show wpAny _ _ (exec (Stmt.For _ _ _ _ _) _) _ _ _) | (with_reducible show wpAny _ _ (exec (Stmt.Assign _ (Expr.ListComp _ _ _ _) _) _) _ _ _) | (with_reducible show wpAny _ _ (subscriptTail _ _ (Value.ref _) _) _ _ _) | (with_reducible show wpAny _ _ (truthy (Value.ref _)) _ _ _) | (with_reducible show wpAny _ _ (compareOp CmpOp.In _ _) _ _ _) | (with_reducible show wpAny _ _ (getMethod (Value.ref _) _ _) _ _ _) | (with_reducible show wpAny _ _ (call (Value.builtin "list.append") _ _) _ _ _) | (with_reducible show wpAny _ _ (delItem _ _) _ _ _) | (with_reducible show Exists _) | (with_reducible show ForSrc _ _ _ _ _ _ _ _ _ _ _) | (with_reducible show TurnEnd _ _ _ _ _ _ _ _ _))); tb_rel)
            refine item_led N₃ hmem3 (by decide) (by decide) rfl ?_
            repeat' ((fail_if_success (first | (with_reducible show wpAny _ _ (exec (Stmt.While _ _ _ _) _) _ _ _) | (with_reducible show wpAny _ _ (exec (Stmt.For _ _ _ _ _) _) _ _ _) | (with_reducible show wpAny _ _ (exec (Stmt.Assign _ (Expr.ListComp _ _ _ _) _) _) _ _ _) | (with_reducible show wpAny _ _ (subscriptTail _ _ (Value.ref _) _) _ _ _) | (with_reducible show wpAny _ _ (truthy (Value.ref _)) _ _ _) | (with_reducible show wpAny _ _ (compareOp CmpOp.In _ _) _ _ _) | (with_reducible show wpAny _ _ (getMethod (Value.ref _) _ _) _ _ _) | (with_reducible show wpAny _ _ (call (Value.builtin "list.append") _ _) _ _ _) | (with_reducible show wpAny _ _ (delItem _ _) _ _ _) | (with_reducible show Exists _) | (with_reducible show ForSrc _ _ _ _ _ _ _ _ _ _ _) | (with_reducible show TurnEnd _ _ _ _ _ _ _ _ _))); tb_rel)
            · rename_i hcmp
              have N4 : News g' L' s₃.heap ((It3 :: (R, listOf (rv ++ [Value.str y t]).toArray (kr + 1)) :: (D, listOf (rows.map Row.ref).toArray (rows.map Row.ref).length) :: ((rows.take i).map (Row.step y)).map Row.ent) ++ (ra3, listOf (Value.str y3 t3 :: vs3).toArray rn3) :: ((rows.drop (i + 1)).map Row.ent ++ rest)) := by
                refine fun p hp => N₃ p ?_
                simpa [Row.ent] using hp
              refine hideG fun PG9 hG9 => ?_
              obtain ⟨na, nb⟩ := nodup_split nd' hr3
              refine hG9 ?_
              try clear hG9 PG9
              refine del0_led F₃ N4 ?_ ?_ (by have := strs_length hra3; simp at hlen3; exact lee this hlen3 rfl) (fun h7 F7 N7 => ?_)
              · intro p hp
                rcases List.mem_cons.mp hp with rfl | hp
                · exact Nat.ne_of_gt hlt3a
                rcases List.mem_cons.mp hp with rfl | hp
                · exact Ne.symm (nRr _ hrm3)
                rcases List.mem_cons.mp hp with rfl | hp
                · exact Ne.symm (offD _ (List.mem_append_left _ (List.mem_map_of_mem (f := Row.ent) (hsub _ hrm3))))
                refine hideG fun PG9 hG9 => ?_
                obtain ⟨x, hx, e1⟩ := List.mem_map.mp hp
                obtain ⟨z, hz, e2⟩ := List.mem_map.mp hx
                subst e1 e2
                refine hG9 ?_
                try clear hG9 PG9
                exact fun q => na z hz ((Row.step_a y z).symm.trans q)
              · intro p hp
                rcases List.mem_append.mp hp with hp | hp
                · obtain ⟨x, hx, rfl⟩ := List.mem_map.mp hp
                  exact nb x hx
                · exact rr p hp _ (hsub _ hrm3)
              repeat' ((fail_if_success (first | (with_reducible show wpAny _ _ (exec (Stmt.While _ _ _ _) _) _ _ _) | (with_reducible show wpAny _ _ (exec (Stmt.For _ _ _ _ _) _) _ _ _) | (with_reducible show wpAny _ _ (exec (Stmt.Assign _ (Expr.ListComp _ _ _ _) _) _) _ _ _) | (with_reducible show wpAny _ _ (subscriptTail _ _ (Value.ref _) _) _ _ _) | (with_reducible show wpAny _ _ (truthy (Value.ref _)) _ _ _) | (with_reducible show wpAny _ _ (compareOp CmpOp.In _ _) _ _ _) | (with_reducible show wpAny _ _ (getMethod (Value.ref _) _ _) _ _ _) | (with_reducible show wpAny _ _ (call (Value.builtin "list.append") _ _) _ _ _) | (with_reducible show wpAny _ _ (delItem _ _) _ _ _) | (with_reducible show Exists _) | (with_reducible show ForSrc _ _ _ _ _ _ _ _ _ _ _) | (with_reducible show TurnEnd _ _ _ _ _ _ _ _ _))); tb_rel)
              refine hQ3 _ _ ?_
              dsimp only [TurnEnd]
              refine ⟨_, _, F7, ?_, C3J3.mk rfl rfl rfl, ⟨rfl, id⟩⟩
              intro p hp
              refine N7 p ?_
              rw [htake] at hp
              have es : Row.step y ⟨ra3, Value.str y3 t3 :: vs3, y3 :: ys3, rn3⟩ = ⟨ra3, vs3, ys3, rn3 + 1⟩ := by unfold Row.step; dsimp only; rw [if_pos hcmp]; rfl
              rw [es] at hp
              simpa [Row.ent] using hp
            · rename_i hcmp
              rename Fr g' L' _ _ => F7
              refine hQ3 _ _ ?_
              dsimp only [TurnEnd]
              refine ⟨_, _, F7, ?_, C3J3.mk rfl rfl rfl, ⟨rfl, id⟩⟩
              intro p hp
              refine N₃ p ?_
              rw [htake] at hp
              have es : Row.step y ⟨ra3, Value.str y3 t3 :: vs3, y3 :: ys3, rn3⟩ = ⟨ra3, Value.str y3 t3 :: vs3, y3 :: ys3, rn3⟩ := by unfold Row.step; dsimp only; rw [if_neg (by rw [hcmp]; exact Bool.false_ne_true)]
              rw [es] at hp
              simpa [Row.ent] using hp
          · intro m₁ led₁ s₃ E3 hJ9 ok₃ F₃ N₃
            refine hJ9.out fun hled9 hm1 hm2 hm3 => ?_
            refine hideG fun PG9 hG9 => ?_
            obtain rfl := hled9
            refine hG9 ?_
            try clear hG9 PG9
            clear hJ9
            repeat' ((fail_if_success (first | (with_reducible show wpAny _ _ (exec (Stmt.While _ _ _ _) _) _ _ _) | (with_reducible show wpAny _ _ (exec (Stmt.For _ _ _ _ _) _) _ _ _) | (with_reducible show wpAny _ _ (exec (Stmt.Assign _ (Expr.ListComp _ _ _ _) _) _) _ _ _) | (with_reducible show wpAny _ _ (subscriptTail _ _ (Value.ref _) _) _ _ _) | (with_reducible show wpAny _ _ (truthy (Value.ref _)) _ _ _) | (with_reducible show wpAny _ _ (compareOp CmpOp.In _ _) _ _ _) | (with_reducible show wpAny _ _ (getMethod (Value.ref _) _ _) _ _ _) | (with_reducible show wpAny _ _ (call (Value.builtin "list.append") _ _) _ _ _) | (with_reducible show wpAny _ _ (delItem _ _) _ _ _) | (with_reducible show Exists _) | (with_reducible show ForSrc _ _ _ _ _ _ _ _ _ _ _) | (with_reducible show TurnEnd _ _ _ _ _ _ _ _ _))); tb_rel)
            refine hB _ _ ?_
            dsimp only [WEnd]
            rw [List.length_map, List.take_length, List.drop_length, List.append_nil] at N₃
            dsimp only at hc
            have hmm : (rows.map (·.ws)).map (popc y) = (rows.map (Row.step y)).map (·.ws) := by
              rw [List.map_map, List.map_map]
              exact List.map_congr_left fun r _ => (Row.step_ws y r).symm
            have hy : (y :: ys).headD Str.empty = y := rfl
            rw [hy, hmm] at hc
            have hsum := sum_popc (y := y) hwi
            rw [hmm] at hsum
            have hads : (rows.map (Row.step y)).map (·.a) = rows.map (·.a) := by
              rw [List.map_map]
              exact List.map_congr_left fun r _ => Row.step_a y r
            have hsz : (rows.map (·.ws.length)).sum ≤ (cur.map (·.ws.length)).sum := by rw [← hq]; exact sum_filter_le _ _ cur
            have all_step : ∀ P : Addr → Prop, (∀ r ∈ rows, P r.a) → ∀ r ∈ rows.map (Row.step y), P r.a := by
              intro P hP r hr
              refine hideG fun PG9 hG9 => ?_
              obtain ⟨x, hx, rfl⟩ := List.mem_map.mp hr
              refine hG9 ?_
              try clear hG9 PG9
              rw [Row.step_a]
              exact hP x hx
            refine ⟨n, Nat.lt_succ_self n, rows.map (Row.step y), res ++ [y], hc, ⟨⟨D, (rows.map Row.ref).length, kr + 1, rv ++ [Value.str y t], m₁, F₃, hm1, hm2, strs_snoc hrv, ?_⟩, ?_, ?_, all_step (fun a => a ≠ R) nRr, rR, fun p hp => all_step (fun a => p.1 ≠ a) (fun r hr => rr p hp r (hsub r hr)), ?_, ?_⟩, ?_⟩
            · have e : (rows.map (Row.step y)).map Row.ref = rows.map Row.ref := by
                rw [List.map_map]
                exact List.map_congr_left fun r _ => congrArg Value.ref (Row.step_a y r)
              rw [e, List.length_map]
              exact N₃
            · intro r hr
              refine hideG fun PG9 hG9 => ?_
              obtain ⟨x, hx, rfl⟩ := List.mem_map.mp hr
              refine hG9 ?_
              try clear hG9 PG9
              exact Row.step_good (good' x hx)
            · rw [hads]; exact nd'
            · rw [List.length_map]; exact few'
            · have e1 : ((rows.map (Row.step y)).map (·.ws)).map (·.length) = (rows.map (Row.step y)).map (·.ws.length) := by rw [List.map_map]; rfl
              have e2 : (rows.map (·.ws)).map (·.length) = rows.map (·.ws.length) := by rw [List.map_map]; rfl
              rw [e1, e2] at hsum
              rw [List.length_append, List.length_singleton]
              omega
            · exact ⟨ok₃.os.trans (ok₂.os.trans (ok₁.os.trans ok.os)), fun h => ok₃.gens (ok₂.gens (ok₁.gens (ok.gens h)))⟩
      · intro m₁ led₁ s₁ E' hJ9 ok₁ F₁ N₁
        refine hJ9.out fun hled9 hm1 hm2 hp hcand => ?_
        refine hideG fun PG9 hG9 => ?_
        obtain rfl := hled9
        refine hG9 ?_
        try clear hG9 PG9
        clear hJ9
        rw [List.length_map, ← List.length_map (f := (·.ws)), List.take_length] at hp
        rw [hp] at hc
        dsimp only at hc
        refine hideG fun PG9 hG9 => ?_
        obtain rfl : none = out := Option.some.inj hc
        have hcd := hcand (by rw [List.length_map]; rw [← hrows]; exact Nat.succ_pos _)
        obtain ⟨u2, rfl⟩ : ∃ u : Fm, m₁ = fun z => if z = Str.ofString "result" then some (.ref R) else if z = Str.ofString "sequences" then some (.ref D) else if z = Str.ofString "candidate" then some .none else u z := ⟨m₁, form3 hm1 hm2 hcd⟩
        change Fr g' L' s₁.heap _ at F₁
        change News g' L' s₁.heap _ at N₁
        refine hG9 ?_
        try clear hG9 PG9
        repeat' ((fail_if_success (first | (with_reducible show wpAny _ _ (exec (Stmt.While _ _ _ _) _) _ _ _) | (with_reducible show wpAny _ _ (exec (Stmt.For _ _ _ _ _) _) _ _ _) | (with_reducible show wpAny _ _ (exec (Stmt.Assign _ (Expr.ListComp _ _ _ _) _) _) _ _ _) | (with_reducible show wpAny _ _ (subscriptTail _ _ (Value.ref _) _) _ _ _) | (with_reducible show wpAny _ _ (truthy (Value.ref _)) _ _ _) | (with_reducible show wpAny _ _ (compareOp CmpOp.In _ _) _ _ _) | (with_reducible show wpAny _ _ (getMethod (Value.ref _) _ _) _ _ _) | (with_reducible show wpAny _ _ (call (Value.builtin "list.append") _ _) _ _ _) | (with_reducible show wpAny _ _ (delItem _ _) _ _ _) | (with_reducible show Exists _) | (with_reducible show ForSrc _ _ _ _ _ _ _ _ _ _ _) | (with_reducible show TurnEnd _ _ _ _ _ _ _ _ _))); tb_rel)
        refine hEE _ _ ?_
        repeat' ((fail_if_success (first | (with_reducible show wpAny _ _ (exec (Stmt.While _ _ _ _) _) _ _ _) | (with_reducible show wpAny _ _ (exec (Stmt.For _ _ _ _ _) _) _ _ _) | (with_reducible show wpAny _ _ (exec (Stmt.Assign _ (Expr.ListComp _ _ _ _) _) _) _ _ _) | (with_reducible show wpAny _ _ (subscriptTail _ _ (Value.ref _) _) _ _ _) | (with_reducible show wpAny _ _ (truthy (Value.ref _)) _ _ _) | (with_reducible show wpAny _ _ (compareOp CmpOp.In _ _) _ _ _) | (with_reducible show wpAny _ _ (getMethod (Value.ref _) _ _) _ _ _) | (with_reducible show wpAny _ _ (call (Value.builtin "list.append") _ _) _ _ _) | (with_reducible show wpAny _ _ (delItem _ _) _ _ _) | (with_reducible show Exists _) | (with_reducible show ForSrc _ _ _ _ _ _ _ _ _ _ _) | (with_reducible show TurnEnd _ _ _ _ _ _ _ _ _))); tb_rel)
        rename RaisedN _ _ _ _ _ _ => R9
        rename Heap.UpToSlots _ _ => U9
        exact exc rfl g' _ _ _ (fun q hq => by rw [← hled]; exact List.mem_cons_of_mem _ (List.mem_cons_of_mem _ (List.mem_append_right _ hq))) FG R9 U9 ⟨ok₁.os.trans ok.os, fun h => ok₁.gens (ok.gens h)⟩
end
section
open PySem PySem.W PySem.Spec PySem.Calls PyProof.Rows
noncomputable def reCode : Array Nat := #[14, 17, 4, 1, 1, 21, 9, 0, 604043296, 1, 0, 0, 0, 0, 0, 8, 4, 0, 13, 14, 21, 9, 0, 604043296, 1, 0, 0, 0, 0, 0, 8, 4, 0, 1]
noncomputable def letters : List Nat := [65, 66, 67]
/-- the words of the law: no longer than three, of A, B and C -/
noncomputable def W40 : List Str :=
  let a : List (List Nat) := [[]]
  let b := letters.map fun c => [c]
  let d := b.flatMap fun l => letters.map fun c => l ++ [c]
  let e := d.flatMap fun l => letters.map fun c => l ++ [c]
  (a ++ b ++ d ++ e).map fun l => ⟨l.toArray⟩
noncomputable def noFind (x : Str) : Bool := match ((Sre.forSearch reCode x.cps 0 0 x.cps.size false).runFor 4).outcome with
  | some .failed => true
  | _ => false
theorem noFind_W40 : (W40.all fun x => x.length == 0 || noFind x) = true := by decide +kernel

noncomputable def boundS : Obj := { cls := .type "builtin_function_or_method", data := .fields #[.builtin "re.Pattern.search", .ref 70] }
noncomputable def patS (t1 t2 t3 t4 : Tok) (y : Str) (T : Addr) : Obj := { cls := .type "re.Pattern", data := .fields #[.str y t1, .int 256 t2, .int 0 t3, .none, .none, .ref T, .int 0 t4] }
section
variable {prog : Program} {w : World} {M : Model} {A : Around} {E : Value → Shared → Prop} {s : Shared}
theorem b_not {α : Type} {c : Bool} {a b : Sem α} {Q : α → Shared → Prop} (hc : c = false) (h : wpAny M A b Q E s) : wpAny M A (if c = true then a else b) Q E s := by
  subst hc
  exact h
theorem b_so {α : Type} {c : Bool} {a b : Sem α} {Q : α → Shared → Prop} (hc : c = true) (h : wpAny M A a Q E s) : wpAny M A (if c = true then a else b) Q E s := by
  subst hc
  exact h
theorem run_rules (m : Sre.M) (l : List Nat) {Q : PUnit → Shared → Prop} (h : Q ⟨⟩ s) : wpAny M A (forIn l PUnit.unit fun i _ => do
    if m.seen.has i then
      rule (Sre.names.getD i "")
      pure (ForInStep.yield PUnit.unit)
    else pure (ForInStep.yield PUnit.unit)) Q E s := by
  refine wpAny_forIn_list _ (fun _ b s' => Q b s') Q (fun x rest b s' hs => ?_) (fun b s' h => h) l _ h
  by_cases hb : m.seen.has x = true
  · rw [if_pos hb]
    exact wpAny_bind (wpAny_rule (wpAny_pure hs))
  · rw [if_neg hb]
    exact wpAny_pure hs
theorem run_end {m : Sre.M} {Q : Option Sre.M → Shared → Prop} (hm : (m.runFor 4).outcome = some .failed) (h : Q none s) : wpAny M A (Builtin.Re.reRunToEnd m) Q E s := by
  unfold Builtin.Re.reRunToEnd
  refine wpAny_bind ?_
  have e : (2 ^ 64 : Nat) = 18446744073709551615 + 1 := rfl
  rw [e, Builtin.Re.reDrive]
  rw [if_pos (by rw [show Builtin.Re.reTurnSteps = 4 from rfl, hm]; rfl)]
  refine wpAny_pure (wpAny_bind (run_rules _ _ ?_))
  rw [show Builtin.Re.reTurnSteps = 4 from rfl, hm]
  exact wpAny_pure h
theorem named {x : Str} {t : Tok} : Builtin.Re.reNamed "re.Pattern.search" "search" ["string", "pos", "endpos"] 1 [.str x t] [] = pure [some (.str x t), none, none] := by rfl
theorem run_search {T t1 t2 t3 t4 t : Tok} {x y : Str} {cs : Array Value} {n : Nat} {P : Fin → Shared → Prop} (h70 : s.heap.get? 70 = some (patS t1 t2 t3 t4 y T)) (hT : s.heap.get? T = some { cls := .type "tuple", data := .seq cs n })
    (hc : (cs.map Builtin.Re.reRawOf).map (·.toNat) = reCode) (hx : noFind x = true) (hl : x.length ≤ 1000) (h : P (.done (.ret .none)) s) :
    wpAny M A (Builtin.«re.Pattern.search» ⟨[.ref 70, .str x t], []⟩) P E s := by
  unfold Builtin.«re.Pattern.search» Builtin.Re.reTarget
  refine wpAny_bind ?_
  dsimp only
  refine wpAny_bind (wpAny_of_eq named ?_)
  dsimp only
  refine wpAny_bind (wpAny_pure ?_)
  refine wpAny_bind (wpAny_pure ?_)
  refine wpAny_bind ?_
  unfold fieldsOf
  dsimp only
  refine wpAny_bind (wpAny_load h70 ?_)
  refine wpAny_pure ?_
  refine wpAny_bind ?_
  unfold Builtin.Re.reTextOf
  refine wpAny_bind (wpAny_of_eq (a := some x) rfl ?_)
  dsimp only
  refine wpAny_pure ?_
  refine b_not (by rfl) ?_
  refine b_not (by rfl) ?_
  refine wpAny_bind (wpAny_of_eq (a := ()) rfl ?_)
  refine wpAny_bind ?_
  unfold Builtin.Re.reRawItems seqItems?
  refine wpAny_bind ?_
  show wpAny _ _ (load T >>= _) _ _ _
  refine wpAny_bind (wpAny_load hT ?_)
  refine wpAny_pure (wpAny_pure (wpAny_pure ?_))
  dsimp only
  unfold Builtin.Re.reAnswer
  have e1 : min (0 : Int).toNat x.cps.size = 0 := Nat.zero_min _
  have e2 : min ((2 : Int) ^ 63 - 1).toNat x.cps.size = x.cps.size := by
    have : x.cps.size = x.length := rfl
    exact Nat.min_eq_right (Nat.le_trans (show x.cps.size ≤ 1000 by assumption) (by decide +kernel))
  have hx' : ((Sre.forSearch reCode x.cps 0 0 x.cps.size false).runFor 4).outcome = some Sre.Outcome.failed := by
    unfold noFind at hx
    split at hx
    · assumption
    · cases hx
  refine wpAny_bind (run_end (by
    dsimp only [Option.getD_some]
    rw [hc, e1, e2]
    exact hx') ?_)
  exact wpAny_pure h
theorem callWith_S0 {pos : Pos} {first : List Value} {args : List (Bool × Sem Value)} {Q : Value → Shared → Prop} (hplain : args.any (·.1) = false)
    (h : wpAny M A (evalArgs (.ref 773) true args []) (fun x s₁ => s₁.heap.get? 773 = some boundS ∧ wpAny M A (call (.ref 773) (first ++ x.pos) x.kw) Q E s₁) E s) : wpAny M A (callWith pos (.ref 773) first args []) Q E s := by
  unfold callWith
  refine wpAny_bind (wpAny_holding (wpAny_mono h (fun x s₁ h₁ => wpAny_bind (wpAny_standAt ?_)) fun _ _ x => x))
  obtain ⟨ho, hcall⟩ := h₁
  simp only [hplain, List.any_nil, Bool.or_false]
  refine wpAny_bind (m := keeperOf (.ref 773)) ?_
  unfold keeperOf
  refine wpAny_bind (wpAny_load ho ?_)
  simp only [boundS, show (Value.type "builtin_function_or_method" != Value.type "method") = true by decide, show (Value.type "builtin_function_or_method" == Value.type "builtin_function_or_method" || Value.type "builtin_function_or_method" == Value.type "method-wrapper") = true by decide, if_true]
  refine wpAny_pure ?_
  exact wpAny_bind (wpAny_mono hcall (fun r s₂ hr => wpAny_bind (wpAny_holding (wpAny_point (wpAny_pure hr)))) fun _ _ x => x)
theorem callWith_S {pos : Pos} {first : List Value} {env : Env} {e : Expr} {rest : List Expr} {Q : Value → Shared → Prop}
    (h : wpAny M A (spliced (backTo pos (starEach (e :: rest) env))) (fun vs s₁ => s₁.heap.get? 773 = some boundS ∧ wpAny M A (call (.ref 773) (first ++ vs)) Q E s₁) E s)
    (he : starEach (e :: rest) env = (false, eval e env) :: starEach rest env := by rfl) (hplain : (backTo pos (starEach rest env)).any (·.1) = false := by rfl) :
    wpAny M A (callWith pos (.ref 773) first (backTo pos (starEach (e :: rest) env)) []) Q E s := by
  rw [he] at h ⊢
  refine callWith_S0 (by show (false || (backTo pos (starEach rest env)).any (·.1)) = false; rw [hplain]; rfl) ?_
  exact evalArgs_plain h
theorem entry_se : entryFor table "re.Pattern.search" = some Builtin.«re.Pattern.search» := entryFor_of_tree (by kernel_rfl)
theorem quiet_se {as : Args} : (Code.builtin "re.Pattern.search" as).quiet = true := Code.quiet_builtin _ (by decide +kernel)
theorem sub_mod : isSubtype (.type "re.Pattern") (.type "module") = pure false := by rw [isSubtype_type]; kernel_rfl
theorem sig_se : Manifest.signature? "re.Pattern.search" = some ⟨.keywords, "Pattern.search", "search", .self, [⟨"string", .posOrKw, true⟩, ⟨"pos", .posOrKw, false⟩, ⟨"endpos", .posOrKw, false⟩]⟩ := by kernel_rfl
theorem bind_se {x : Str} {t : Tok} : Bind.checkArgs "re.Pattern.search" ⟨.keywords, "Pattern.search", "search", .self, [⟨"string", .posOrKw, true⟩, ⟨"pos", .posOrKw, false⟩, ⟨"endpos", .posOrKw, false⟩]⟩ ⟨[.ref 70, .str x t], []⟩ = pure () := by kernel_rfl
theorem kind_se : builtinKind "re.Pattern.search" = some .method := by rw [builtinKind_eq_fast]; kernel_rfl
theorem check_se {x y : Str} {T t1 t2 t3 t4 t : Tok} {Q : Unit → Shared → Prop} (h70 : s.heap.get? 70 = some (patS t1 t2 t3 t4 y T)) (h : Q () s) : wpAny M A (checkBoundCall "re.Pattern.search" ⟨[.ref 70, .str x t], []⟩) Q E s := by
  have hT : s.TypeIs (.ref 70) "re.Pattern" := ⟨_, h70, rfl⟩
  unfold checkBoundCall
  rw [sig_se, kind_se]
  dsimp only
  refine b_not (by decide) ?_
  refine wpAny_bind (wpAny_isInstance hT sub_mod ?_)
  refine b_not (by decide +kernel) ?_
  refine wpAny_bind ?_
  unfold isType
  dsimp only
  refine wpAny_bind (wpAny_loadPart h70 ?_)
  refine wpAny_pure ?_
  refine b_not rfl ?_
  refine wpAny_bind ?_
  refine wpAny_typeOf hT ?_
  exact wpAny_of_eq bind_se h
theorem call_search {T t1 t2 t3 t4 t : Tok} {x y : Str} {cs : Array Value} {n : Nat} {Q : Value → Shared → Prop} (h73 : s.heap.get? 773 = some boundS) (h70 : s.heap.get? 70 = some (patS t1 t2 t3 t4 y T)) (hT : s.heap.get? T = some { cls := .type "tuple", data := .seq cs n })
    (hc : (cs.map Builtin.Re.reRawOf).map (·.toNat) = reCode) (hx : noFind x = true) (hl : x.length ≤ 1000) (h : Q .none s) : wpAny (model prog w) A (call (.ref 773) [.str x t]) Q E s := by
  refine wpAny_call (codeAny_of_tree ?_)
  show wpAny _ A.in1 (callAny (.ref 773) ⟨[.str x t], []⟩) _ _ s
  simp only [callAny]
  refine wpAny_bind (wpAny_load h73 ?_)
  simp only [boundS, show (Value.type "builtin_function_or_method" == Value.type "method" || Value.type "builtin_function_or_method" == Value.type "builtin_function_or_method" || Value.type "builtin_function_or_method" == Value.type "method-wrapper") = true by decide, if_true]
  refine b_so (by decide) ?_
  refine wpAny_bind (check_se h70 ?_)
  refine wpAny_bind (wpAny_pure (wpAny_pure ?_))
  exact ⟨quiet_se, codeAny_builtin entry_se (run_search h70 hT hc hx hl h)⟩
end
end
section
open PySem PySem.W PySem.Spec PySem.Calls PyProof.Rows
/-- what quote makes of a word of the law -/
noncomputable def quoteP (x : Str) : Str := if x.length = 0 then Str.ofString "''" else x
theorem len40 : (W40.all fun x => x.length ≤ 3) = true := by decide +kernel
theorem len_of {x : Str} (h : x ∈ W40) : x.length ≤ 3 := by
  have := List.all_eq_true.mp len40 x h
  simpa using this
theorem noFind_of {x : Str} (h : x ∈ W40) (h0 : x.length ≠ 0) : noFind x = true := by
  have := List.all_eq_true.mp noFind_W40 x h
  simpa [h0] using this
theorem c_quote : ∀ {w : World} {p : Program} {loose : List Str} {mean : ExcName → Option Value} {mg mb : Str → Option Value}
  {A : Around} {env : Env} {outer : List Env} {A₀ : Around} {base h₀ : Heap} {L : Addr} {m : Fm} {s : Shared} {Q E : Value → Shared → Prop}
  (x : Str) (t : Tok) (led : List Ent)
  (B : Below A₀ base outer h₀) (F : Fr h₀ L s.heap m) (X : (KK w.params).In h₀) (N : News h₀ L s.heap (led)) (T : Top p loose mean mg mb h₀) (hh : A.handled = none) (hA : A.frames = some (env :: outer)) (hf : env.frame = some L) (hk : env.scope.kind = .function) (hd : A.depth ≤ 500) (hu : A.units ≤ 5000)
  (hx : x ∈ W40)
  (ret : ∀ t h tk, Fr h₀ L h m → News h₀ L h led → Q (.str (quoteP x) t) { s with heap := h, toks := tk }),
  wpAny (model PySem.Challenge.rw_ik0072_01.row.toRowW.prog w) A (call (.ref 780) [.str x t]) Q E s := by
  k_fill
  intro w p loose mean mg mb A env outer A₀ base h₀ L m s Q E x t led B F X N T hh hA hf hk hd hu hx ret
  obtain ⟨ah, dp, fr, gd, un⟩ := A
  cases hh
  cases hA
  obtain ⟨cs, lo, gl, cl, qn, fn, ccd, fr, bi⟩ := env
  cases hf
  obtain ⟨ck, cnm, cg1, cg2, cmo⟩ := cs
  cases hk
  refine topA_mono hd hu ?_
  have hl := len_of hx
  refine wpAny_call ?_
  k_enter
  repeat' ((fail_if_success (first | (with_reducible show wpAny _ _ (exec (Stmt.While _ _ _ _) _) _ _ _) | (with_reducible show wpAny _ _ (exec (Stmt.For _ _ _ _ _) _) _ _ _) | (with_reducible show wpAny _ _ (exec (Stmt.Assign _ (Expr.ListComp _ _ _ _) _) _) _ _ _) | (with_reducible show wpAny _ _ (eval (Expr.ListComp _ _ _ _) _) _ _ _) | (with_reducible show wpAny _ _ (truthy (Value.str _ _)) _ _ _) | (with_reducible show wpAny _ _ (callWith _ (Value.ref _) _ _ _) _ _ _) | (with_reducible show wpAny _ _ (call (Value.ref _) _ _) _ _ _) | (with_reducible show Exists _) | (with_reducible show TurnEnd _ _ _ _ _ _ _ _ _) | (with_reducible show ForSrc _ _ _ _ _ _ _ _ _ _ _))); tb_rel)
  refine P.truthy_str (by omega) ?_
  by_cases h0 : x.length = 0
  · rw [show ((x.length : Int) != 0) = false by simp; omega]
    repeat' ((fail_if_success (first | (with_reducible show wpAny _ _ (exec (Stmt.While _ _ _ _) _) _ _ _) | (with_reducible show wpAny _ _ (exec (Stmt.For _ _ _ _ _) _) _ _ _) | (with_reducible show wpAny _ _ (exec (Stmt.Assign _ (Expr.ListComp _ _ _ _) _) _) _ _ _) | (with_reducible show wpAny _ _ (eval (Expr.ListComp _ _ _ _) _) _ _ _) | (with_reducible show wpAny _ _ (truthy (Value.str _ _)) _ _ _) | (with_reducible show wpAny _ _ (callWith _ (Value.ref _) _ _ _) _ _ _) | (with_reducible show wpAny _ _ (call (Value.ref _) _ _) _ _ _) | (with_reducible show Exists _) | (with_reducible show TurnEnd _ _ _ _ _ _ _ _ _) | (with_reducible show ForSrc _ _ _ _ _ _ _ _ _ _ _))); tb_rel)
    have e : quoteP x = Str.ofString "''" := if_pos h0
    rw [e] at ret
    exact ret _ _ _ (by assumption) (by assumption)
  · rw [show ((x.length : Int) != 0) = true by simp; omega]
    repeat' ((fail_if_success (first | (with_reducible show wpAny _ _ (exec (Stmt.While _ _ _ _) _) _ _ _) | (with_reducible show wpAny _ _ (exec (Stmt.For _ _ _ _ _) _) _ _ _) | (with_reducible show wpAny _ _ (exec (Stmt.Assign _ (Expr.ListComp _ _ _ _) _) _) _ _ _) | (with_reducible show wpAny _ _ (eval (Expr.ListComp _ _ _ _) _) _ _ _) | (with_reducible show wpAny _ _ (truthy (Value.str _ _)) _ _ _) | (with_reducible show wpAny _ _ (callWith _ (Value.ref _) _ _ _) _ _ _) | (with_reducible show wpAny _ _ (call (Value.ref _) _ _) _ _ _) | (with_reducible show Exists _) | (with_reducible show TurnEnd _ _ _ _ _ _ _ _ _) | (with_reducible show ForSrc _ _ _ _ _ _ _ _ _ _ _))); tb_rel)
    refine callWith_S ?_
    rename Frag.In _ _ => X'
    rename Fr _ _ _ _ => F'
    have h73 := F'.keep _ _ (X' 773 _ rfl)
    repeat' ((fail_if_success (first | (with_reducible show wpAny _ _ (exec (Stmt.While _ _ _ _) _) _ _ _) | (with_reducible show wpAny _ _ (exec (Stmt.For _ _ _ _ _) _) _ _ _) | (with_reducible show wpAny _ _ (exec (Stmt.Assign _ (Expr.ListComp _ _ _ _) _) _) _ _ _) | (with_reducible show wpAny _ _ (eval (Expr.ListComp _ _ _ _) _) _ _ _) | (with_reducible show wpAny _ _ (truthy (Value.str _ _)) _ _ _) | (with_reducible show wpAny _ _ (callWith _ (Value.ref _) _ _ _) _ _ _) | (with_reducible show wpAny _ _ (call (Value.ref _) _ _) _ _ _) | (with_reducible show Exists _) | (with_reducible show TurnEnd _ _ _ _ _ _ _ _ _) | (with_reducible show ForSrc _ _ _ _ _ _ _ _ _ _ _))); tb_rel)
    refine call_search h73 (F'.keep _ _ (X' 70 _ rfl)) (F'.keep _ _ (X' 69 _ rfl)) (by kernel_rfl) (noFind_of hx h0) (by omega) ?_
    repeat' ((fail_if_success (first | (with_reducible show wpAny _ _ (exec (Stmt.While _ _ _ _) _) _ _ _) | (with_reducible show wpAny _ _ (exec (Stmt.For _ _ _ _ _) _) _ _ _) | (with_reducible show wpAny _ _ (exec (Stmt.Assign _ (Expr.ListComp _ _ _ _) _) _) _ _ _) | (with_reducible show wpAny _ _ (eval (Expr.ListComp _ _ _ _) _) _ _ _) | (with_reducible show wpAny _ _ (truthy (Value.str _ _)) _ _ _) | (with_reducible show wpAny _ _ (callWith _ (Value.ref _) _ _ _) _ _ _) | (with_reducible show wpAny _ _ (call (Value.ref _) _ _) _ _ _) | (with_reducible show Exists _) | (with_reducible show TurnEnd _ _ _ _ _ _ _ _ _) | (with_reducible show ForSrc _ _ _ _ _ _ _ _ _ _ _))); tb_rel)
    have e : quoteP x = x := if_neg h0
    rw [e] at ret
    exact ret _ _ _ (by assumption) (by assumption)
end
section
open PySem PySem.W PySem.Spec PySem.Calls PyProof.Rows
noncomputable abbrev allP : Nat → Bool := fun _ => true
theorem pass_all (n i : Nat) : passing allP n i = (List.range n).drop i := by
  unfold passing
  exact List.filter_eq_self.mpr fun _ _ => rfl
theorem pass_len (n i : Nat) : (passing allP n i).length = n - i := by rw [pass_all]; simp
noncomputable abbrev gexp (elt iter : PySem.Expr) (x : Str) (px : Pos) (scope : Scope) (pos : Pos) : PySem.Expr := .GeneratorExp elt [⟨.Name x px, iter, [], 0⟩] scope pos
/-- a state that has moved in its heap and its tokens alone, all objects but one kept -/
noncomputable def KeptBut (C : Addr) (s s' : Shared) : Prop := ∃ h tk m, s' = { s with heap := h, toks := tk } ∧ h.Ns C m ∧ ∀ b o, b ≠ C → s.heap.get? b = some o → h.get? b = some o
section
variable {prog : Program} {w : World} {A : Around}
theorem seg_loop {elt iter : PySem.Expr} {x : Str} {px : Pos} {scope : Scope} {pos : Pos} {I ax : Addr} {fp : List Addr} {items : Array Value} {cenv : Env}
    (hh : A.handled = none) (hne : ax ≠ I) (hI : I ∈ fp) (hax : ax ∈ fp) (F : Nat → Value → Prop) (href : Heap)
    (hx : cenv.kindOf x = some .local) (hp : (cenv.scope.kind == .class || (cenv.scope.kind == .module && cenv.locals != cenv.globals)) = false)
    (hco : cenv.scope.isCoroutine = false) (hCf : cenv.locals ∉ fp)
    (hq : ∀ E' i v (s₂ : Shared) m₂, items[i]? = some v → s₂.heap.Ns cenv.locals m₂ → m₂ x = some v → (∀ b ∈ fp, b ≠ I → ∀ o, href.get? b = some o → s₂.heap.get? b = some o) →
      wpAny (model prog w) (A.over (.compLoop (gexp elt iter x px scope pos) 0 (.ref I) .none cenv) []) (eval elt cenv) (fun y s₃ => F i y ∧ KeptBut cenv.locals s₂ s₃) E' s₂) :
    ∀ (k i : Nat) (s₀ s : Shared) (m : Fm), items.size - i = k → i ≤ items.size → s.heap.IsListIter I ax i → s.heap.IsList ax items → s.heap.Ns cenv.locals m → GenSince cenv.locals [I] s₀ s →
      (∀ b ∈ fp, b ≠ I → ∀ o, href.get? b = some o → s.heap.get? b = some o) →
      Seg (model prog w) A (fun n s₀ r s₁ => r = .ok .next ∧ (n = 0 ∧ GenSince cenv.locals [I] s₀ s₁)) (genProto cenv.locals fp [I] allP items.size F) (passing allP items.size i).length s₀
        (.compLoop (gexp elt iter x px scope pos) 0 (.ref I) .none cenv)
        ((model prog w).den (.compLoop (gexp elt iter x px scope pos) 0 (.ref I) .none cenv)) [] s := by
  have hh' : (A.over (.compLoop (gexp elt iter x px scope pos) 0 (.ref I) .none cenv) []).handled = none := hh
  have hCI : cenv.locals ≠ I := fun h => hCf (h ▸ hI)
  have hCa : cenv.locals ≠ ax := fun h => hCf (h ▸ hax)
  have nI : ∀ {b : Addr}, b ∉ [I] → b ≠ I := fun h e => h (e ▸ List.mem_singleton_self _)
  intro k
  induction k with
  | zero =>
    intro i s₀ s m hk hi hit hl hn hsince hkp
    have hin : i = items.size := sub_end hk hi
    subst hin
    show Seg _ A _ _ _ s₀ _ ((compTurn (gexp elt iter x px scope pos) 0 (.ref I) .none cenv).onRaise (leaving cenv)) [] s
    rw [compTurn_gen, Sem.onRaise_eq_wrap]
    refine seg_bind_wrap (wpAny_standAt ?_)
    refine seg_bind_wrap (wpAny_pyNext_list_end hh' hit hl (by simp) fun h' he' => ?_)
    exact seg_end (.ok .next) ⟨rfl, by rw [pass_len, Nat.sub_self], hsince.step fun b o _ hw e => he' b o (nI hw) e⟩
  | succ k ih =>
    intro i s₀ s m hk hi hit hl hn hsince hkp
    have hlt : i < items.size := sub_pos' hk
    have hv : items[i]? = some items[i] := by simp [hlt]
    show Seg _ A _ _ _ s₀ _ ((compTurn (gexp elt iter x px scope pos) 0 (.ref I) .none cenv).onRaise (leaving cenv)) [] s
    rw [compTurn_gen, Sem.onRaise_eq_wrap]
    refine seg_bind_wrap (wpAny_standAt ?_)
    refine seg_bind_wrap (wpAny_pyNext_list_item hit hl hv fun h₁ hit₁ hs₁ => ?_)
    refine seg_bind_wrap (wpAny_of_eq (rfl : letOwnedTupleGo (.Name x px) (.ref I) items[i] = pure ()) ?_)
    have k₁ := hs₁.extBut
    refine seg_bind_wrap (wpAny_assign_Name (wpAny_storeName_local hx (hn.at' fun o e => k₁ _ o hCI e) (fun h₂ hn₂ hs₂ => ?_) hp))
    have k₂ := hs₂.extBut
    have up₂ : ∀ b o, b ≠ cenv.locals → b ≠ I → s.heap.get? b = some o → h₂.get? b = some o := fun b o hbC hbI e => k₂ b o hbC (k₁ b o hbI e)
    have hkp₂ : ∀ b ∈ fp, b ≠ I → ∀ o, href.get? b = some o → h₂.get? b = some o := fun b hb hbI o e => up₂ b o (fun h => hCf (h ▸ hb)) hbI (hkp b hb hbI o e)
    have hit₂ := hit₁.at fun o e => k₂ I o (Ne.symm hCI) e
    have hl₂ := hl.at fun o e => up₂ ax o (Ne.symm hCa) hne e
    refine seg_bind_wrap ?_
    show wpAny _ _ (pure true) _ _ _
    refine wpAny_pure ?_
    rw [passing_true hlt rfl, List.length_cons]
    simp only [if_true]
    have hy : ∀ v, yieldOut cenv v = yieldValue v := fun v => by simp only [yieldOut, hco, Bool.false_eq_true, if_false]
    simp only [hy]
    rw [Sem.bind_eq_wrap', Sem.bind_eq_wrap', Sem.wrap_wrap, Sem.wrap_wrap]
    refine seg_wrap (wpAny_mono (hq _ i _ _ _ hv hn₂ (by simp) hkp₂) (fun y s₄ h₄ => ?_) fun _ _ e => e)
    obtain ⟨hFy, h₄, tk₄, m₄, rfl, hn₄, hk₄⟩ := h₄
    have nC : ∀ b ∈ fp, b ≠ cenv.locals := fun b hb h => hCf (h ▸ hb)
    refine seg_at (seg_yield rfl rfl rfl ⟨⟨i, passing_here hlt rfl, hFy⟩, hsince.step fun b o hbC hw e => hk₄ b o hbC (up₂ b o hbC (nI hw) e), fun s'' hal => ?_⟩)
    have al : ∀ b ∈ fp, ∀ o, h₂.get? b = some o → s''.heap.get? b = some o := fun b hb o e => hal b (List.mem_cons_of_mem _ hb) o (hk₄ b o (nC b hb) e)
    exact seg_again rfl (ih (i + 1) s'' s'' m₄ (sub_pred hk) hlt (hit₂.at fun o e => al I hI o e) (hl₂.at fun o e => al ax hax o e)
      (hn₄.at' fun o e => hal _ (List.mem_cons_self ..) o e) (GenSince.refl _ _ _) fun b hb hbI o e => al b hb o (hkp₂ b hb hbI o e))
theorem seg_start {elt iter : PySem.Expr} {x : Str} {px : Pos} {scope : Scope} {pos : Pos} {I ax : Addr} {fp : List Addr} {items : Array Value} {cenv : Env}
    (hh : A.handled = none) (hne : ax ≠ I) (hI : I ∈ fp) (hax : ax ∈ fp) (F : Nat → Value → Prop) (href : Heap)
    (hx : cenv.kindOf x = some .local) (hp : (cenv.scope.kind == .class || (cenv.scope.kind == .module && cenv.locals != cenv.globals)) = false)
    (hco : cenv.scope.isCoroutine = false) (hCf : cenv.locals ∉ fp)
    (hq : ∀ E' i v (s₂ : Shared) m₂, items[i]? = some v → s₂.heap.Ns cenv.locals m₂ → m₂ x = some v → (∀ b ∈ fp, b ≠ I → ∀ o, href.get? b = some o → s₂.heap.get? b = some o) →
      wpAny (model prog w) (A.over (.compLoop (gexp elt iter x px scope pos) 0 (.ref I) .none cenv) []) (eval elt cenv) (fun y s₃ => F i y ∧ KeptBut cenv.locals s₂ s₃) E' s₂)
    (s₀ s : Shared) (m : Fm) (hit : s.heap.IsListIter I ax 0) (hl : s.heap.IsList ax items) (hn : s.heap.Ns cenv.locals m) (hsince : GenSince cenv.locals [I] s₀ s)
    (hkp : ∀ b ∈ fp, b ≠ I → ∀ o, href.get? b = some o → s.heap.get? b = some o) :
    Seg (model prog w) A (fun n s₀ r s₁ => r = .ok .next ∧ (n = 0 ∧ GenSince cenv.locals [I] s₀ s₁)) (genProto cenv.locals fp [I] allP items.size F) (passing allP items.size 0).length s₀
      (.compStart (gexp elt iter x px scope pos) 0 (.ref I) .none cenv)
      ((model prog w).den (.compStart (gexp elt iter x px scope pos) 0 (.ref I) .none cenv)) [] s := by
  have loop := seg_loop (prog := prog) (w := w) (iter := iter) (px := px) (scope := scope) (pos := pos) hh hne hI hax F href hx hp hco hCf hq items.size 0 s₀ s m (Nat.sub_zero _) (Nat.zero_le _) hit hl hn hsince hkp
  show Seg _ A _ _ _ s₀ _ ((compStart (gexp elt iter x px scope pos) 0 (.ref I) .none cenv).onRaise (leaving cenv)) [] s
  unfold compStart
  rw [Sem.onRaise_eq_wrap]
  show Seg _ A _ _ _ s₀ _ ((ask >>= _).wrap _ _ _ _) [] s
  refine seg_bind_wrap (wpAny_askSetting ?_)
  split
  · exact seg_again rfl loop
  · refine seg_bind_wrap (wpAny_rule ?_)
    show Seg _ A _ _ _ s₀ _ ((standAt iter.pos >>= _).wrap _ _ _ _) [] s
    exact seg_bind_wrap (wpAny_standAt (seg_bind_wrap (wpAny_pyIter_listiter hit (seg_again rfl loop))))
theorem gen_fresh {elt iter : PySem.Expr} {x : Str} {px : Pos} {scope : Scope} {pos : Pos} {I ax a : Addr} {g : Nat} {fp : List Addr} {items : Array Value} {cenv : Env} {s : Shared} {m : Fm}
    (hh : A.handled = none) (hne : ax ≠ I) (hI : I ∈ fp) (hax : ax ∈ fp) (F : Nat → Value → Prop)
    (hx : cenv.kindOf x = some .local) (hp : (cenv.scope.kind == .class || (cenv.scope.kind == .module && cenv.locals != cenv.globals)) = false)
    (hco : cenv.scope.isCoroutine = false) (hCf : cenv.locals ∉ fp)
    (hq : ∀ E' i v (s₂ : Shared) m₂, items[i]? = some v → s₂.heap.Ns cenv.locals m₂ → m₂ x = some v → (∀ b ∈ fp, b ≠ I → ∀ o, s.heap.get? b = some o → s₂.heap.get? b = some o) →
      wpAny (model prog w) (A.in1.over (.compLoop (gexp elt iter x px scope pos) 0 (.ref I) .none cenv) []) (eval elt cenv) (fun y s₃ => F i y ∧ KeptBut cenv.locals s₂ s₃) E' s₂)
    (hg : s.heap.IsGen a g) (hgs : s.gens[g]? = some (.fresh (.compStart (gexp elt iter x px scope pos) 0 (.ref I) .none cenv)))
    (hit : s.heap.IsListIter I ax 0) (hl : s.heap.IsList ax items) (hn : s.heap.Ns cenv.locals m) (hlim : s.heap.NoLimit) : GenAt prog w A a g cenv.locals fp [I] allP items.size F 0 s :=
  ⟨hg, hlim, _, hgs, fun s'' hal => ⟨rfl, seg_start (A := A.in1) hh hne hI hax F s.heap hx hp hco hCf hq s'' s'' m (hit.at fun o e => hal I (List.mem_cons_of_mem _ hI) o e) (hl.at fun o e => hal ax (List.mem_cons_of_mem _ hax) o e)
    (hn.at' fun o e => hal _ (List.mem_cons_self ..) o e) (GenSince.refl _ _ _) fun b hb _ o e => hal b (List.mem_cons_of_mem _ hb) o e⟩⟩
/-- all that a heap holds beside what an older one holds and one object -/
noncomputable def allOf (h₁ h : Heap) (C : Addr) : List Ent := (List.range h.objs.size).filterMap fun b => if b = C then none else match h₁.get? b, h.get? b with
  | none, some o => some (b, o)
  | _, _ => none
theorem mem_allOf {h₁ h : Heap} {C b : Addr} {o : Obj} (hb : b ≠ C) (h1 : h₁.get? b = none) (h2 : h.get? b = some o) : (b, o) ∈ allOf h₁ h C := by
  refine List.mem_filterMap.mpr ⟨b, List.mem_range.mpr (Heap.lt_size h2), ?_⟩
  rw [if_neg hb, h1, h2]
theorem news_allOf {h₁ h : Heap} {C : Addr} : News h₁ C h (allOf h₁ h C) := by
  intro p hp
  obtain ⟨b, hb, e⟩ := List.mem_filterMap.mp hp
  by_cases q : b = C
  · rw [if_pos q] at e; cases e
  · rw [if_neg q] at e
    split at e
    · rename_i o h1 h2
      cases e
      exact ⟨h2, q, h1⟩
    · cases e
theorem kept_all {h₁ h h' : Heap} {C : Addr} {m : Fm} (F : Fr h₁ C h m) (F' : Fr h₁ C h' m) (N : News h₁ C h' (allOf h₁ h C)) : ∀ b o, b ≠ C → h.get? b = some o → h'.get? b = some o := by
  intro b o hb e
  cases q : h₁.get? b with
  | none => exact (N _ (mem_allOf hb q e)).1
  | some o' =>
    have := F.keep b o' q
    rw [e] at this
    cases this
    exact F'.keep b _ q
/-- a generator that stands ready, over n values -/
structure GenReady (prog : Program) (w : World) (A : Around) (h₀ : Heap) (L : Addr) (m : Fm) (led : List Ent) (V : Nat → Value → Prop) (n : Nat) (a C' I : Addr) (g : Nat) (fp : List Addr) (s : Shared) : Prop where
  F : Fr h₀ L s.heap m
  N : News h₀ L s.heap led
  W : WalksS prog w A.in4 a (a :: C' :: fp) [C', I] (GenOnlyQ g) (passing allP n 0).length (fun j y => ∃ i, (passing allP n 0)[j]? = some i ∧ V i y) (GenAt prog w A.in4 a g C' fp [I] allP n V)
  st : GenAt prog w A.in4 a g C' fp [I] allP n V 0 s
  lt : ∀ b ∈ a :: C' :: fp, b < s.heap.objs.size
  nL : ∀ b ∈ [C', I], b ≠ L ∧ h₀.get? b = none ∧ ∀ q ∈ led, q.1 ≠ b
theorem Gen_led {E : Value → Shared → Prop} {s : Shared} {Q : Value → Shared → Prop} {A₀ : Around} {base h₀ : Heap} {outer : List Env} {L : Addr} {m mg mb : Fm} {led : List Ent} {p : Program} {loose : List Str} {mean : ExcName → Option Value}
    {env : Env} {elt iter : PySem.Expr} {x : Str} {px : Pos} {scope : Scope} {cl : List (Str × Addr)} {pos : Pos} {c P l : Addr} {ps : Array Value} {vs : List Value} {n : Nat}
    (V : Nat → Value → Prop)
    (B : Below A₀ base outer h₀) (F : Fr h₀ L s.heap m) (N : News h₀ L s.heap ((P, tabObj ps) :: led)) (T : Top p loose mean mg mb h₀) (hPl : ∀ q ∈ led, q.1 ≠ P) (hm : (l, listOf vs.toArray n) ∈ led) (C : CodeHd h₀ c P) (ht : TriplesOk ps.toList)
    (hA : A.frames = some (env :: outer)) (hf : env.frame = some L) (hke : env.scope.kind = .function) (hcode : env.code = .ref c) (hgl : env.globals = mainGlobals)
    (hh : A.handled = none) (hco : scope.isCoroutine = false) (hclos : closureFor scope env = pure cl) (hcell : ∀ y ∈ scope.names, y.2 ≠ .cell) (h0 : scope.names.lookup (".0" : Str) = some NameKind.local)
    (hx : scope.names.lookup x = some .local) (hkind : scope.kind = .function) (hroom : A.depth < recursionLimit)
    (hit : ∀ Q' : Value → Shared → Prop, Q' (.ref l) s → wpAny (model prog w) A (eval iter env) Q' E s) (hs : ∀ x, genFold iter env x = pure x)
    (hq : ∀ h₁ C' code (s₂ : Shared) m₂ i v E' ex, h₀.StaysIn h₁ → Below A base (env :: outer) h₁ → Fr h₁ C' s₂.heap m₂ → m₂ x = some v → vs[i]? = some v → News h₁ C' s₂.heap ex →
      wpAny (model prog w) (topA (A.depth + 1) (A.units + 8) A.guards (genEnv scope cl C' code builtinsNs env) (env :: outer)) (eval elt (genEnv scope cl C' code builtinsNs env))
        (fun y s₃ => V i y ∧ ∃ h tk, s₃ = { s₂ with heap := h, toks := tk } ∧ Fr h₁ C' h m₂ ∧ News h₁ C' h ex) E' s₂)
    (h : ∀ a C' I g h₅ tk gs ps' fp, gs.bare = true → TriplesOk ps'.toList → GenReady prog w A h₀ L m ((P, tabObj ps') :: led) V vs.length a C' I g fp { s with gens := s.gens.push gs, toks := tk, heap := h₅ } →
      Q (.ref a) { s with gens := s.gens.push gs, toks := tk, heap := h₅ }) :
    wpAny (model prog w) A (eval (gexp elt iter x px scope pos) env) Q E s := by
  have hl : s.heap.IsList l vs.toArray := ⟨_, (N _ (List.mem_cons_of_mem _ hm)).1, rfl, _, rfl⟩
  refine wpAny_GeneratorExp_make hco hclos hcell h0 hkind hroom (hit _ ?_) hs
  refine wpAny_pyIter_list hl ?_
  have hlim : s.heap.NoLimit := T.nolimit.keeps F.keep
  refine ⟨hlim.keeps fun b o e => Heap.get?_push_of_some _ e, ?_⟩
  have hP := N _ (List.mem_cons_self ..)
  have hIP : P ≠ s.heap.objs.size := Nat.ne_of_lt (Heap.lt_size hP.1)
  have hgP : mainGlobals ≠ P := fun q => by
    obtain ⟨o, es, ep, e, hd, _⟩ := T.g.keeps F.keep
    rw [q, hP.1] at e; cases e; cases hd
  obtain ⟨bm, ob, b1, b2, b3, b4, b5, b6⟩ := T.bmain
  have hbP : bm ≠ P := fun q => by
    have e := F.keep _ _ b3
    rw [q, hP.1] at e; cases e; cases b4
  have hcP : cStatics ≠ P := fun q => by
    obtain ⟨_, ⟨o, es, ep, e, hd, _⟩, _⟩ := hlim
    rw [q, hP.1] at e; cases e; cases hd
  have key : ∀ code h₃ tk₃ ps', Heap.ExtBut P (s.heap.push { cls := .type "list_iterator", data := .fields #[.ref l, .int 0 0] }) h₃ → s.heap.objs.size < h₃.objs.size → h₃.get? P = some (tabObj ps') → TriplesOk ps'.toList →
      wpAny (model prog w) A (builtinsFor env.globals env.builtins) (fun bi s₄ => ∀ h', h'.Ns s₄.heap.objs.size (fun y => if y = ".0" then some (.ref s.heap.objs.size) else none) → Heap.SameBut s₄.heap.objs.size (s₄.heap.push { cls := .type "frame", data := .dict #[] }) h' →
          Q (.ref h'.objs.size) { s₄ with
            gens := s₄.gens.push (.fresh (.compStart (gexp elt iter x px scope pos) 0 (.ref s.heap.objs.size) .none (genEnv scope cl s₄.heap.objs.size code bi env))),
            toks := s₄.toks + 1 + 1 + 1,
            heap := h'.push { cls := .type "generator", data := .fields #[.int s₄.gens.size 0, .str "<genexpr>" (s₄.toks + 1), .str (env.qual ++ "<genexpr>") (s₄.toks + 1 + 1)] } }) E { s with heap := h₃, toks := tk₃ } := by
    intro code h₃ tk₃ ps' hx₃ hsz₃ hP₃ ht'
    have up₃ : ∀ b o, b ≠ P → s.heap.get? b = some o → h₃.get? b = some o := fun b o hb e => hx₃ b o hb (Heap.get?_push_of_some _ e)
    have F₃ : Fr h₀ L h₃ m := ⟨F.ns.at' fun o e => up₃ L o (Ne.symm hP.2.1) e, fun b o e => up₃ b o (fun q => by rw [q, hP.2.2] at e; cases e) (F.keep b o e), F.above⟩
    have hit₃ : h₃.IsListIter s.heap.objs.size l 0 := by
      have e := hx₃ s.heap.objs.size _ (Ne.symm hIP) (Heap.get?_push_size _ rfl)
      exact ⟨_, e, rfl, rfl⟩
    have hI₃ := hx₃ s.heap.objs.size _ (Ne.symm hIP) (Heap.get?_push_size _ rfl)
    have hLI : L ≠ s.heap.objs.size := Nat.ne_of_lt F.ns.lt
    have hnI : h₀.get? s.heap.objs.size = none := Heap.get?_none_of_le (Nat.le_trans F.above (Nat.le_of_lt F.ns.lt))
    have N₃ : News h₀ L h₃ [(s.heap.objs.size, { cls := .type "list_iterator", data := .fields #[.ref l, .int 0 0] })] := by
      intro q hq
      rw [List.mem_singleton] at hq
      subst hq
      exact ⟨hI₃, Ne.symm hLI, hnI⟩
    have NL : News h₀ L h₃ ((P, tabObj ps') :: led) := by
      intro q hq
      rcases List.mem_cons.mp hq with rfl | hq
      · exact ⟨hP₃, hP.2.1, hP.2.2⟩
      · have := N q (List.mem_cons_of_mem _ hq)
        exact ⟨up₃ _ _ (hPl q hq) this.1, this.2.1, this.2.2⟩
    obtain ⟨FG, BG, st, _⟩ := groundX (R := fun _ _ => True) (s := { s with heap := h₃ }) B F₃ N₃ hA hf hke
    rw [hgl]
    refine wpAny_builtinsFor (T.g.keeps F₃.keep) b1 b2 (F₃.keep _ _ b3) b4 b5 b6 ?_
    intro h' hn' hs'
    have hszh : h'.objs.size = h₃.objs.size + 1 := by rw [hs'.1, Heap.size_push]
    have keep' : ∀ b o, h₃.get? b = some o → h'.get? b = some o := fun b o e => hs'.extBut b o (Nat.ne_of_lt (Heap.lt_size e)) (Heap.get?_push_of_some _ e)
    have keep₅ : ∀ b o, h₃.get? b = some o → (h'.push { cls := .type "generator", data := .fields #[.int s.gens.size 0, .str "<genexpr>" (tk₃ + 1), .str (env.qual ++ "<genexpr>") (tk₃ + 1 + 1)] }).get? b = some o :=
      fun b o e => Heap.get?_push_of_some _ (keep' b o e)
    have hlim₃ : h₃.NoLimit := T.nolimit.keeps F₃.keep
    have hclt : cStatics < h₃.objs.size := let ⟨_, hn, _⟩ := hlim₃; hn.lt
    have hcI : cStatics ≠ s.heap.objs.size := by
      obtain ⟨_, ⟨o, es, ep, e, hd, _⟩, _⟩ := hlim
      exact Nat.ne_of_lt (Heap.lt_size e)
    have hll : l < s.heap.objs.size := by
      obtain ⟨o, e, _⟩ := hl
      exact Heap.lt_size e
    have haC : h'.objs.size ≠ h₃.objs.size := by rw [hszh]; exact Nat.succ_ne_self _
    have haf : h'.objs.size ∉ List.range h₃.objs.size := fun hm => absurd (List.mem_range.mp hm) (by rw [hszh]; exact Nat.not_lt.mpr (Nat.le_succ _))
    have hsub : ∀ b ∈ [s.heap.objs.size], b ∈ List.range h₃.objs.size := fun b hb => by rw [List.mem_singleton] at hb; subst hb; exact List.mem_range.mpr hsz₃
    have F₅ := F₃.keeps keep₅
    refine h h'.objs.size h₃.objs.size s.heap.objs.size s.gens.size _ _ _ ps' (List.range h₃.objs.size) rfl ht' ⟨F₅, fun q hq => ⟨keep₅ _ _ (NL q hq).1, (NL q hq).2⟩,
      WalksS.genexpQ (A := A.in4) hh _ _ _ _ [s.heap.objs.size] allP vs.length V haC haf hsub hroom (List.mem_range.mpr hclt) (Nat.ne_of_lt hclt) (fun hm => hcI (List.mem_singleton.mp hm)), ?_, ?_, ?_⟩
    · have hsz : vs.toArray.size = vs.length := by simp
      rw [← hsz]
      refine gen_fresh (A := A.in4) (ax := l) (cenv := genEnv scope cl h₃.objs.size code builtinsNs env) (m := fun y => if y = ".0" then some (.ref s.heap.objs.size) else none) hh (Nat.ne_of_lt hll) (hsub _ (List.mem_singleton_self _)) (List.mem_range.mpr (Nat.lt_trans hll hsz₃)) V hx (by simp [genEnv, hkind]) hco
        (fun hm => Nat.lt_irrefl _ (List.mem_range.mp hm)) ?_ ⟨_, _, _, Heap.get?_push_size _ rfl, rfl, rfl, rfl⟩ (Array.getElem?_push_size ..) (hit₃.at fun o e => keep₅ _ o e) ?_ (hn'.push _) (hlim₃.keeps keep₅)
      · intro E' i v s₂ m₂ hv hn₂ hm₂ hk₂
        have F₂ : Fr (hideAll h₃ [s.heap.objs.size]) h₃.objs.size s₂.heap m₂ := ⟨hn₂, fun b o e => by
          have e3 := of_hideAll _ e
          have hbI : b ≠ s.heap.objs.size := fun q => by rw [q, hideAll_none _ (List.mem_singleton_self _)] at e; cases e
          exact hk₂ b (List.mem_range.mpr (Heap.lt_size e3)) hbI o (keep₅ _ _ e3), Nat.le_of_eq (hideAll_size _ _)⟩
        have q := hq (hideAll h₃ [s.heap.objs.size]) h₃.objs.size code s₂ m₂ i v E' (allOf (hideAll h₃ [s.heap.objs.size]) s₂.heap h₃.objs.size) st BG F₂ hm₂ (by simpa using hv) news_allOf
        obtain ⟨hd, dp, fr, gds, un⟩ := A
        cases hh
        cases hA
        refine wpAny_mono q (fun y s₃ hy => ?_) fun _ _ e => e
        obtain ⟨hV, hp, tk, rfl, F₄, N₄⟩ := hy
        exact ⟨hV, hp, tk, m₂, rfl, F₄.ns, kept_all F₂ F₄ N₄⟩
      · exact hl.at fun o e => keep₅ _ _ (up₃ _ _ (hPl _ hm) e)
    · intro b hb
      have le : ∀ b : Nat, b ≤ h₃.objs.size + 1 → b < (h'.push { cls := .type "generator", data := .fields #[.int s.gens.size 0, .str "<genexpr>" (tk₃ + 1), .str (env.qual ++ "<genexpr>") (tk₃ + 1 + 1)] }).objs.size := fun b hb => by
        rw [Heap.size_push, hszh]
        exact Nat.lt_succ_of_le hb
      rcases List.mem_cons.mp hb with rfl | hb
      · exact le _ (Nat.le_of_eq hszh)
      · rcases List.mem_cons.mp hb with rfl | hb
        · exact le _ (Nat.le_succ _)
        · exact le _ (Nat.le_succ_of_le (Nat.le_of_lt (List.mem_range.mp hb)))
    · intro b hb
      have hC : ∀ b, s.heap.objs.size ≤ b → b ≠ L ∧ h₀.get? b = none ∧ ∀ q ∈ (P, tabObj ps') :: led, q.1 ≠ b := fun b hb => by
        refine ⟨fun q => ?_, Heap.get?_none_of_le (Nat.le_trans F.above (Nat.le_trans (Nat.le_of_lt F.ns.lt) hb)), fun q hq e => ?_⟩
        · exact Nat.lt_irrefl _ (Nat.lt_of_lt_of_le (q ▸ F.ns.lt) hb)
        · have : q.1 < s.heap.objs.size := by
            rcases List.mem_cons.mp hq with rfl | hq
            · exact Heap.lt_size hP.1
            · exact Heap.lt_size (N q (List.mem_cons_of_mem _ hq)).1
          exact Nat.lt_irrefl _ (Nat.lt_of_lt_of_le (e ▸ this) hb)
      rcases List.mem_cons.mp hb with rfl | hb
      · exact hC _ (Nat.le_of_lt hsz₃)
      · rw [List.mem_singleton] at hb
        subst hb
        exact hC _ (Nat.le_refl _)
  cases hnf : codeAmong pos ps.toList with
  | some cv =>
    refine wpAny_genexprCode_hit hcode ((C.keeps fun b o e => Heap.get?_push_of_some _ (F.keep b o e)).code (Heap.get?_push_of_some _ hP.1) ht) hnf ?_
    exact key cv _ _ ps (fun b o _ e => e) (by rw [Heap.size_push]; exact Nat.lt_succ_self _) (Heap.get?_push_of_some _ hP.1) ht
  | none =>
    have C' : CodeHd (s.heap.push { cls := .type "list_iterator", data := .fields #[.ref l, .int 0 0] }) c P := C.keeps fun b o e => Heap.get?_push_of_some _ (F.keep b o e)
    have hP' : (s.heap.push { cls := .type "list_iterator", data := .fields #[.ref l, .int 0 0] }).get? P = some (tabObj ps) := Heap.get?_push_of_some _ hP.1
    refine wpAny_genexprCodeX hcode (C'.code hP' ht) (C'.tab hP') hnf fun c' h₃ tk₃ hx₃ hge hlt hcode₃ _ htab₃ _ => ?_
    refine key (.ref c') h₃ tk₃ _ hx₃ (by rw [Heap.size_push] at hge; exact Nat.lt_trans hge hlt) htab₃.2 ?_
    rw [show (ps ++ #[rawInt pos.line, rawInt pos.col, Value.ref c']).toList = ps.toList ++ [rawInt pos.line, rawInt pos.col, .ref c'] by simp]
    exact TriplesOk_snoc _ _ _ _ ht
theorem fold_len (sep : Str) : ∀ (l : List Str) (k : Nat), l.foldl (fun a t => a + t.length + sep.length) k = k + (l.map (·.length)).sum + l.length * sep.length
  | [], k => by simp
  | x :: r, k => by
    rw [List.foldl_cons, fold_len sep r]
    simp only [List.map_cons, List.sum_cons, List.length_cons, Nat.succ_mul]
    rw [Nat.add_comm (r.length * sep.length) sep.length, ← Nat.add_assoc (k + _) sep.length, Nat.add_right_comm (k + x.length) sep.length, Nat.add_assoc k x.length]
theorem joinOk_of {sep : Str} {l : List Str} (h : (l.map (·.length)).sum + l.length * sep.length ≤ 100000) : JoinOk sep l = true := by
  unfold JoinOk
  have e : l.toArray.foldl (fun a t => a + t.length + sep.length) 0 = l.foldl (fun a t => a + t.length + sep.length) 0 := List.foldl_toArray' _ _ _ rfl
  rw [e, fold_len, Builtin.Str.tooLong, sizeLine_eq]
  simp only [Bool.not_eq_true', decide_eq_false_iff_not]
  omega
theorem join_ready {E : Value → Shared → Prop} {s : Shared} {Q : Value → Shared → Prop} {h₀ : Heap} {L : Addr} {m : Fm} {led : List Ent} {ys : List Str} {a C' I : Addr} {g : Nat} {fp : List Addr} {x : Str} {t : Tok}
    (R : GenReady prog w A h₀ L m led (fun i v => ∃ y u, ys[i]? = some y ∧ v = Value.str y u) ys.length a C' I g fp s) (hsz : (ys.map (·.length)).sum + ys.length * x.length ≤ 100000) (hn : ys.length ≤ 10000)
    (h : ∀ s' t', Fr h₀ L s'.heap m → News h₀ L s'.heap led → Ok s s' → Q (.str (Txt.join x ys) t') s') : wpAny (model prog w) A (call (.builtin "str.join") [.str x t, .ref a]) Q E s := by
  have len : ∀ (j : Nat) (y : Value), (∃ i : Nat, (passing allP ys.length 0)[j]? = some i ∧ ∃ y' u, ys[i]? = some y' ∧ y = Value.str y' u) → ∃ y' u, ys[j]? = some y' ∧ y = Value.str y' u := by
    rintro j y ⟨i, hi, y', u, h1, rfl⟩
    rw [pass_all, List.drop_zero] at hi
    obtain ⟨_, e⟩ := List.getElem?_eq_some_iff.mp hi
    rw [List.getElem_range] at e
    subst e
    exact ⟨y', u, h1, rfl⟩
  refine SC.joinGen R.W.in4_2 (fun i s' st => st.1.typeIs) R.st R.lt (List.mem_cons_self ..) (fun i v hv => ?_) (fun s' l hm hl => ?_) (by rw [pass_len, sizeLine_eq]; exact lel hn rfl)
  · obtain ⟨y, u, _, rfl⟩ := len i v hv
    exact ⟨y, u, rfl⟩
  · have e : l.map (·.1) = ys := by
      obtain ⟨h1, h2⟩ := hl
      rw [pass_len, Nat.sub_zero] at h1
      have h1' : l.length = ys.length := by simpa [strValues] using h1
      refine List.ext_getElem? fun j => ?_
      rw [List.getElem?_map]
      cases hj : l[j]? with
      | none =>
        have := List.getElem?_eq_none_iff.mp hj
        exact (List.getElem?_eq_none_iff.mpr (h1' ▸ this)).symm
      | some q =>
        obtain ⟨y', u, h3, h4⟩ := len j _ (h2 j (.str q.1 q.2) (by simp [strValues, hj]))
        rw [h3]
        cases h4
        rfl
    rw [e]
    have nC := R.nL C' (List.mem_cons_self ..)
    have nI := R.nL I (List.mem_cons_of_mem _ (List.mem_cons_self ..))
    have off : ∀ b, b ≠ C' → b ≠ I → b ∉ [C', I] := fun b h1 h2 hm => by
      rcases List.mem_cons.mp hm with rfl | hm
      · exact h1 rfl
      · exact h2 (List.mem_singleton.mp hm)
    refine ⟨joinOk_of hsz, fun t' k => h _ _ ⟨R.F.ns.at' fun o e => hm.heap _ o (off _ (Ne.symm nC.1) (Ne.symm nI.1)) e, fun b o e => hm.heap b o (off b (fun q => ?_) fun q => ?_) (R.F.keep b o e), R.F.above⟩ (fun q hq => ?_) ⟨hm.os, fun hb => hm.gens.bare hb⟩⟩
    · rw [q, nC.2.1] at e; cases e
    · rw [q, nI.2.1] at e; cases e
    · have := R.N q hq
      exact ⟨hm.heap _ _ (off _ (nC.2.2 q hq) (nI.2.2 q hq)) this.1, this.2⟩
end
end
section
open PySem PySem.W PySem.Spec PySem.Calls PyProof.Rows
theorem name_glob {prog : Program} {w : World} {A : Around} {E : Value → Shared → Prop} {s : Shared} {K : Frag} {h₀ : Heap} {L : Addr} {m mg mb : Fm} {p : Program} {loose : List Str} {mean : ExcName → Option Value} {env : Env} {x : Str} {pos : Pos} {v : Value} {Q : Value → Shared → Prop}
    (F : Fr h₀ L s.heap m) (X : K.In h₀) (T : Top p loose mean mg mb h₀) (e : nsIn K mainGlobals x = some (some v)) (hg : env.globals = mainGlobals) (hk : env.scope.kind = .function) (hx : env.kindOf x = some .globalImplicit) (hd : (x == ("__debug__" : Str)) = false) (h : Q v s) :
    wpAny (model prog w) A (eval (.Name x pos) env) Q E s := Name_function_global hk hx (loadGlobal_global (hg ▸ T.g.keeps F.keep) (mg_of X T.g e) h) hd
theorem strs_get {vs : List Value} {ws : List Str} (h : StrsAre vs ws) : ∀ {i : Nat} {v : Value}, vs[i]? = some v → ∃ y u, ws[i]? = some y ∧ v = Value.str y u := by
  induction h with
  | nil => intro i v e; cases e
  | cons y t _ ih =>
    intro i v e
    cases i with
    | zero => cases e; exact ⟨y, t, rfl, rfl⟩
    | succ i => exact ih e
theorem quote_le {x : Str} (h : x ∈ W40) : (quoteP x).length ≤ 3 := by
  unfold quoteP
  split
  · decide
  · exact len_of h
theorem quote_sum : ∀ {ws : List Str}, (∀ x ∈ ws, x ∈ W40) → ((ws.map quoteP).map (·.length)).sum ≤ 3 * ws.length
  | [], _ => Nat.zero_le _
  | x :: r, h => by
    have h1 := quote_le (h x (List.mem_cons_self ..))
    have h2 := quote_sum (ws := r) fun y hy => h y (List.mem_cons_of_mem _ hy)
    simp only [List.map_cons, List.sum_cons, List.length_cons]
    rw [Nat.mul_succ]
    exact add2 (by assumption) (by assumption)
noncomputable def joinP (ws : List Str) : Str := Txt.join (Str.ofString " ") (ws.map quoteP)
theorem c_join : ∀ {w : World} {p : Program} {loose : List Str} {mean : ExcName → Option Value} {mg mb : Str → Option Value}
  {A : Around} {env : Env} {outer : List Env} {A₀ : Around} {base h₀ : Heap} {L : Addr} {m : Fm} {s : Shared} {Q E : Value → Shared → Prop}
  (lst : Addr) (vs : List Value) (ws : List Str) (n : Nat) (ps : Array Value) (led : List Ent)
  (B : Below A₀ base outer h₀) (F : Fr h₀ L s.heap m) (X : (KK w.params).In h₀) (N : News h₀ L s.heap ((767, tabObj ps) :: led)) (T : Top p loose mean mg mb h₀) (hh : A.handled = none) (hA : A.frames = some (env :: outer)) (hf : env.frame = some L) (hk : env.scope.kind = .function) (hd : A.depth ≤ 480) (hu : A.units ≤ 4800)
  (hm : (lst, listOf vs.toArray n) ∈ led) (hs : StrsAre vs ws) (hw : ∀ x ∈ ws, x ∈ W40) (hn : ws.length ≤ 1000) (ht : TriplesOk ps.toList) (hP : ∀ q ∈ led, q.1 ≠ 767)
  (ret : ∀ t ps' s', TriplesOk ps'.toList → Fr h₀ L s'.heap m → News h₀ L s'.heap ((767, tabObj ps') :: led) → Ok s s' → Q (.str (joinP ws) t) s'),
  wpAny (model PySem.Challenge.rw_ik0072_01.row.toRowW.prog w) A (call (.ref 772) [.ref lst]) Q E s := by
  k_fill
  intro w p loose mean mg mb A env outer A₀ base h₀ L m s Q E lst vs ws n ps led B F X N T hh hA hf hk hd hu hm hs hw hn ht hP ret
  obtain ⟨ah, dp, fr, gd, un⟩ := A
  cases hh
  cases hA
  obtain ⟨cs, lo, gl, cl, qn, fn, ccd, fr, bi⟩ := env
  cases hf
  obtain ⟨ck, cnm, cg1, cg2, cmo⟩ := cs
  cases hk
  refine topA_mono hd hu ?_
  refine wpAny_call ?_
  k_enter
  repeat' ((fail_if_success (first | (with_reducible show wpAny _ _ (exec (Stmt.While _ _ _ _) _) _ _ _) | (with_reducible show wpAny _ _ (exec (Stmt.For _ _ _ _ _) _) _ _ _) | (with_reducible show wpAny _ _ (exec (Stmt.Assign _ (Expr.ListComp _ _ _ _) _) _) _ _ _) | (with_reducible show wpAny _ _ (eval (Expr.ListComp _ _ _ _) _) _ _ _) | (with_reducible show wpAny _ _ (truthy (Value.ref _)) _ _ _) | (with_reducible show wpAny _ _ (eval (Expr.GeneratorExp _ _ _ _) _) _ _ _) | (with_reducible show Exists _) | (with_reducible show TurnEnd _ _ _ _ _ _ _ _ _) | (with_reducible show ForSrc _ _ _ _ _ _ _ _ _ _ _))); tb_rel)
  rename Frag.In _ _ => X'
  rename Fr _ _ _ _ => F'
  rename News _ _ _ _ => N'
  rename Below _ _ _ _ => B'
  rename Top _ _ _ _ _ _ => T'
  have C : CodeHd _ 771 767 := ⟨_, _, _, _, _, _, _, _, _, X' 771 _ rfl, rfl, rfl, rfl, rfl, rfl, rfl, rfl, rfl, by decide⟩
  have hlen := strs_length hs
  have hlen' : (ws.map quoteP).length = vs.length := by rw [List.length_map, hlen]
  refine Gen_led (fun i v => ∃ y u, (ws.map quoteP)[i]? = some y ∧ v = Value.str y u) B' F' N' T' hP hm C ht rfl rfl rfl rfl rfl rfl rfl rfl (by decide) rfl rfl rfl (show (481 : Nat) < recursionLimit by decide) (fun Q' h => wpAny_Name (wpAny_loadName_local rfl rfl F'.ns rfl h) (by decide)) (by intro _; rfl) ?_ ?_
  · intro h₁ C' code s₂ m₂ i v E' ex st BG F₂ hm₂ hv N₂
    obtain ⟨u, rfl⟩ : ∃ u : Fm, m₂ = fun z => if z = Str.ofString "arg" then some v else u z := ⟨m₂, by
      funext z
      by_cases h1 : z = Str.ofString "arg"
      · rw [if_pos h1, h1]; exact hm₂
      · rw [if_neg h1]⟩
    have X₁ := X'.keeps st
    have T₁ := T'.keeps st
    obtain ⟨y, yu, hy, rfl⟩ := strs_get hs hv
    clear X' T' B' F' N' C hm ht F N X B T
    dsimp only [genEnv, envOf]
    tb_rel
    refine name_glob F₂ X₁ T₁ (v := .ref 780) rfl rfl rfl rfl (by decide) ?_
    have h80 := F₂.keep _ _ (X₁ 780 _ rfl)
    refine callWith_defK (hx := h₁) (X₁ 780 _ rfl) rfl ?_
    tb_rel
    refine wpAny_Name (wpAny_loadName_local rfl rfl F₂.ns rfl ?_) (by decide)
    tb_rel
    refine ⟨h80, c_quote y yu ex BG F₂ X₁ N₂ T₁ rfl rfl rfl rfl (Nat.le_of_ble_eq_true rfl) (Nat.le_of_ble_eq_true rfl) (hw y (List.mem_of_getElem? hy)) (fun t h tk F₃ N₃ => ?_)⟩
    exact ⟨⟨quoteP y, t, by rw [List.getElem?_map, hy]; rfl, rfl⟩, h, tk, rfl, F₃, N₃⟩
  · intro a C' I g h₅ tk gs ps' fp hb ht' R
    rw [← hlen'] at R
    tb_rel
    refine join_ready R ?_ ?_ (fun s' t' F₆ N₆ ok => ?_)
    · have := quote_sum hw
      rw [List.length_map, show (Str.ofString " ").length = 1 from rfl]
      exact le3m this (by assumption) (by rfl)
    · rw [List.length_map]; exact lel (by assumption) (by rfl)
    repeat' ((fail_if_success (first | (with_reducible show wpAny _ _ (exec (Stmt.While _ _ _ _) _) _ _ _) | (with_reducible show wpAny _ _ (exec (Stmt.For _ _ _ _ _) _) _ _ _) | (with_reducible show wpAny _ _ (exec (Stmt.Assign _ (Expr.ListComp _ _ _ _) _) _) _ _ _) | (with_reducible show wpAny _ _ (eval (Expr.ListComp _ _ _ _) _) _ _ _) | (with_reducible show wpAny _ _ (truthy (Value.ref _)) _ _ _) | (with_reducible show wpAny _ _ (eval (Expr.GeneratorExp _ _ _ _) _) _ _ _) | (with_reducible show Exists _) | (with_reducible show TurnEnd _ _ _ _ _ _ _ _ _) | (with_reducible show ForSrc _ _ _ _ _ _ _ _ _ _ _))); tb_rel)
    exact ret _ _ _ ht' (by assumption) (by assumption) ⟨ok.os, fun hg => ok.gens (hg.push hb)⟩
end
section
open PySem PySem.W PySem.Spec PySem.Calls PyProof.Rows
section
variable {prog : Program} {w : World} {A : Around} {K : Frag} {C : Addr} {R : Result → Shared → Prop} {h : Heap} {g : Array GenState} {d : Drawn} {t : Nat} {os : OsState}
theorem new_own {oc : Value} {od : Option Addr} {cd : ClassData} {sl : Array (Option Value)} (hC : h.get? C = some ⟨oc, od, .cls cd, sl⟩) (e1 : cd.abstract = false) (e2 : cd.hasDel = false)
    (chk : Looks (model prog w) h (checkBuiltinCall "object.__new__" ⟨[.ref C], []⟩) ()) (mh : Looks (model prog w) h (Bind.madeHere "object.__new__" (.ref C)) ())
    (hq : R (.ok (.ret (.ref (h.objs.size + 1)))) ⟨(h.push emptyDict).push (instObj C h.objs.size), g, d, t, os⟩) :
    codeAny (model prog w) A (.call (.builtin "object.__new__") ⟨[.ref C], []⟩) R ⟨h, g, d, t, os⟩ := by
  have F := PySem.F.objNew
  refine codeAny_call_builtin_code (Code.quiet_builtin _ F.quiet) ?_
  refine chk.at ?_
  refine codeAny_builtin F.entry ?_
  unfold Builtin.«object.__new__»
  have fin : ∀ A', wpAny (model prog w) A' (do
      let d ← if typeHasDict (.ref C) then some <$> alloc { cls := .type "dict", data := .dict #[] } else pure none
      ret (← newObj (.ref C) .plain d)) (fun fin s' => match fin with | .done f => R (.ok f) s' | .again c' => c'.quiet = true ∧ codeAny (model prog w) A c' R s') (fun e s' => R (.error e) s') ⟨h, g, d, t, os⟩ := by
    intro A'
    show wpAny _ _ ((alloc emptyDict >>= fun x => pure (some x)) >>= _) _ _ _
    refine wpAny_bind (wpAny_bind (wpAny_alloc (wpAny_pure (wpAny_bind ?_))))
    show wpAny _ _ (newObjAsIs _ _ _) _ _ _
    unfold newObjAsIs classHasDel
    refine wpAny_bind (wpAny_alloc (wpAny_bind (wpAny_bind (wpAny_load (Heap.get?_push_of_some _ (Heap.get?_push_of_some _ hC)) (wpAny_pure ?_)))))
    rw [e2]
    refine wpAny_pure (wpAny_pure ?_)
    show R _ _
    rw [Heap.size_push]
    exact hq
  repeat (first | simp only [e1, bne_self_eq_false, Bool.false_eq_true, if_false, Bool.not_true] | exact fin _ | lk)
theorem make_own {oc : Value} {od : Option Addr} {cd : ClassData} {sl : Array (Option Value)} {rest : List Value} {kw : List (Str × Value)} (hC : h.get? C = some ⟨oc, od, .cls cd, sl⟩) (e4 : cd.mro.isEmpty = false)
    (call : Looks (model prog w) h (specialOf (.ref C) "__call__") (some (.builtin "type.__call__"))) (typ : Looks (model prog w) h (isInstance (.ref C) (.type "type")) true) (mb : Looks (model prog w) h (Bind.madeBy (.ref C)) none)
    (hq : wpAny (model prog w) (A.under (.builtin "type.__call__" ⟨.ref C :: rest, kw⟩)) (getAttr (.ref C) "__new__") (fun new s₁ => wpAny (model prog w) (A.under (.builtin "type.__call__" ⟨.ref C :: rest, kw⟩)) (PySem.call new (.ref C :: rest) kw) (fun obj s₂ => wpAny (model prog w) (A.under (.builtin "type.__call__" ⟨.ref C :: rest, kw⟩)) (isInstance obj (.ref C)) (fun b s₃ => b = true ∧
      wpAny (model prog w) (A.under (.builtin "type.__call__" ⟨.ref C :: rest, kw⟩)) (callSpecial? obj "__init__" rest kw) (fun r s₄ => r = some .none ∧ R (.ok (.ret obj)) s₄) (fun e s' => R (.error e) s') s₃) (fun e s' => R (.error e) s') s₂) (fun e s' => R (.error e) s') s₁) (fun e s' => R (.error e) s') ⟨h, g, d, t, os⟩) :
    codeAny (model prog w) A (.call (.ref C) ⟨rest, kw⟩) R ⟨h, g, d, t, os⟩ := by
  refine codeAny_of_tree ?_
  show wpAny _ _ (callAny (.ref C) _) _ _ _
  refine nd_load hC ?_
  show wpAny _ _ (callAny.viaDunder (.ref C) _) _ _ _
  unfold callAny.viaDunder
  refine wpAny_bind (call.at ?_)
  dsimp only
  rw [tc_bind]
  refine wpAny_bind (wpAny_pure (wpAny_bind (wpAny_pure ?_)))
  refine wpAny_pure (a := Fin.again (.call (.builtin "type.__call__") ⟨.ref C :: rest, kw⟩)) (And.intro rfl ?_)
  refine codeAny_call_builtin_at (Code.quiet_builtin _ (by decide +kernel)) entry_typeCall (check_slot tc_kind tc_split typ (tc_args _ _ _) ?_)
  generalize A.under (.builtin "type.__call__" ⟨.ref C :: rest, kw⟩) = A' at hq ⊢
  show wpAny _ _ (Builtin.«type.__call__» ⟨.ref C :: rest, kw⟩) _ _ _
  unfold Builtin.«type.__call__»
  have hm : Looks (model prog w) h (mroOf (.ref C)) cd.mro := ((Looks.ld (part := none) hC).andThen .now).andThen .now
  refine b_not (by show (Value.ref C == Value.type "type") = false; rfl) ?_
  show wpAny _ _ (mroOf (.ref C) >>= _) _ _ _
  refine wpAny_bind (hm.at ?_)
  dsimp only
  rw [e4, if_neg Bool.false_ne_true]
  refine wpAny_bind (mb.at ?_)
  dsimp only
  refine wpAny_bind ?_
  refine wpAny_mono hq (fun new s₁ h₁ => ?_) fun _ _ e => e
  refine wpAny_bind (wpAny_holding (wpAny_mono h₁ (fun obj s₂ h₂ => ?_) fun _ _ e => e))
  refine wpAny_bind (wpAny_mono h₂ (fun b s₃ h₃ => ?_) fun _ _ e => e)
  obtain ⟨rfl, h₃⟩ := h₃
  refine b_not rfl ?_
  refine wpAny_bind (wpAny_holding (wpAny_mono h₃ (fun r s₄ h₄ => ?_) fun _ _ e => e))
  obtain ⟨rfl, h₄⟩ := h₄
  dsimp only
  refine b_not rfl ?_
  exact wpAny_pure h₄
end
theorem under_tc {dp un : Nat} {gd : Option (List Code)} {env : Env} {outer : List Env} {C : Addr} {rest : List Value} {kw : List (Str × Value)} : (topA dp un gd env outer).under (.builtin "type.__call__" ⟨.ref C :: rest, kw⟩) = topA (dp + 1) (un + 1) gd env outer := by
  unfold Around.under
  have h1 : (Code.builtin "type.__call__" ⟨.ref C :: rest, kw⟩).weight = 1 := by kernel_rfl
  have h2 : (Code.builtin "type.__call__" ⟨.ref C :: rest, kw⟩).envs = [] := by kernel_rfl
  have h3 : (Code.builtin "type.__call__" ⟨.ref C :: rest, kw⟩).guards = [] := by kernel_rfl
  have h4 : (Code.builtin "type.__call__" ⟨.ref C :: rest, kw⟩).cUnits = 1 := by kernel_rfl
  rw [h1, h2, h3, h4]
  rfl
theorem neAll_lt {d : Addr} {r : List Ent} (h : ∀ p ∈ r, p.1 < d) : ∀ p ∈ r, p.1 ≠ d := fun p hp => Nat.ne_of_lt (h p hp)
end
section
open PySem PySem.W PySem.Spec PySem.Calls PyProof.Rows
theorem c_ionew : ∀ {w : World} {p : Program} {loose : List Str} {mean : ExcName → Option Value} {mg mb : Str → Option Value}
  {A : Around} {env : Env} {outer : List Env} {A₀ : Around} {base h₀ : Heap} {L : Addr} {m : Fm} {s : Shared} {Q E : Value → Shared → Prop}
  (x : Str) (t : Tok) (led : List Ent)
  (B : Below A₀ base outer h₀) (F : Fr h₀ L s.heap m) (X : (KK w.params).In h₀) (N : News h₀ L s.heap (led)) (T : Top p loose mean mg mb h₀) (hh : A.handled = none) (hA : A.frames = some (env :: outer)) (hf : env.frame = some L) (hk : env.scope.kind = .function) (hd : A.depth ≤ 420) (hu : A.units ≤ 4200)
  
  (ret : ∀ (o d : Nat) h tk, d < o → (∀ p ∈ led, p.1 < d) → Fr h₀ L h m → News h₀ L h ((o, instObj 618 d) :: (d, dictOf [] 0) :: led) → Q (.ref o) { s with heap := h, toks := tk }),
  wpAny (model PySem.Challenge.rw_ik0072_01.row.toRowW.prog w) A (call (.ref 111) [.ref 618, .str x t]) Q E s := by
  k_fill
  intro w p loose mean mg mb A env outer A₀ base h₀ L m s Q E x t led B F X N T hh hA hf hk hd hu ret
  obtain ⟨ah, dp, fr, gd, un⟩ := A
  cases hh
  cases hA
  obtain ⟨cs, lo, gl, cl, qn, fn, ccd, fr, bi⟩ := env
  cases hf
  obtain ⟨ck, cnm, cg1, cg2, cmo⟩ := cs
  cases hk
  refine topA_mono hd hu ?_
  refine wpAny_call ?_
  k_enter
  repeat' ((fail_if_success (first | (with_reducible show wpAny _ _ (exec (Stmt.While _ _ _ _) _) _ _ _) | (with_reducible show wpAny _ _ (exec (Stmt.For _ _ _ _ _) _) _ _ _) | (with_reducible show wpAny _ _ (exec (Stmt.Assign _ (Expr.ListComp _ _ _ _) _) _) _ _ _) | (with_reducible show wpAny _ _ (eval (Expr.ListComp _ _ _ _) _) _ _ _) | (with_reducible show wpAny _ _ (truthy (Value.ref _)) _ _ _) | (with_reducible show wpAny _ _ (call (Value.builtin "object.__new__") _ _) _ _ _) | (with_reducible show Exists _) | (with_reducible show TurnEnd _ _ _ _ _ _ _ _ _) | (with_reducible show ForSrc _ _ _ _ _ _ _ _ _ _ _))); tb_rel)
  rename Frag.In _ _ => X'
  rename Fr _ _ _ _ => F'
  rename News _ _ _ _ => N'
  have Xh := X'.keeps F'.keep
  rename Heap => hN
  have N9 := (N'.push F' emptyDict).push (F'.push _) (instObj 618 hN.objs.size)
  have F9 := (F'.push emptyDict).push (instObj 618 hN.objs.size)
  refine wpAny_call (new_own (Xh 618 _ rfl) rfl rfl (Looks.of_peek Xh (by kernel_rfl)) (Looks.of_peek Xh (by kernel_rfl)) ?_)
  rw [Heap.size_push] at N9
  repeat' ((fail_if_success (first | (with_reducible show wpAny _ _ (exec (Stmt.While _ _ _ _) _) _ _ _) | (with_reducible show wpAny _ _ (exec (Stmt.For _ _ _ _ _) _) _ _ _) | (with_reducible show wpAny _ _ (exec (Stmt.Assign _ (Expr.ListComp _ _ _ _) _) _) _ _ _) | (with_reducible show wpAny _ _ (eval (Expr.ListComp _ _ _ _) _) _ _ _) | (with_reducible show wpAny _ _ (truthy (Value.ref _)) _ _ _) | (with_reducible show wpAny _ _ (call (Value.builtin "object.__new__") _ _) _ _ _) | (with_reducible show Exists _) | (with_reducible show TurnEnd _ _ _ _ _ _ _ _ _) | (with_reducible show ForSrc _ _ _ _ _ _ _ _ _ _ _))); tb_rel)
  rename Fr h₀ L _ m => kF
  rename News h₀ L _ _ => kN
  refine ret _ hN.objs.size _ _ (Nat.lt_succ_self _) (fun p hp => Heap.lt_size (N' p (List.mem_cons_of_mem _ (List.mem_cons_of_mem _ hp))).1) kF (fun p hp => kN p ?_)
  rcases List.mem_cons.mp hp with rfl | hp
  · exact List.mem_cons_self ..
  · rcases List.mem_cons.mp hp with rfl | hp
    · exact List.mem_cons_of_mem _ (List.mem_cons_self ..)
    · exact List.mem_cons_of_mem _ (List.mem_cons_of_mem _ (List.mem_cons_of_mem _ (List.mem_cons_of_mem _ hp)))
end
section
open PySem PySem.W PySem.Spec PySem.Calls PyProof.Rows
theorem c_sio : ∀ {w : World} {p : Program} {loose : List Str} {mean : ExcName → Option Value} {mg mb : Str → Option Value}
  {A : Around} {env : Env} {outer : List Env} {A₀ : Around} {base h₀ : Heap} {L : Addr} {m : Fm} {s : Shared} {Q E : Value → Shared → Prop}
  (x : Str) (t : Tok) (led : List Ent)
  (B : Below A₀ base outer h₀) (F : Fr h₀ L s.heap m) (X : (KK w.params).In h₀) (N : News h₀ L s.heap (led)) (T : Top p loose mean mg mb h₀) (hh : A.handled = none) (hA : A.frames = some (env :: outer)) (hf : env.frame = some L) (hk : env.scope.kind = .function) (hd : A.depth ≤ 400) (hu : A.units ≤ 4000)
  
  (ret : ∀ (o d : Nat) h tk k1 k2 k3 u1 u3, d < o → (∀ p ∈ led, p.1 < d) → Fr h₀ L h m → News h₀ L h ((o, instObj 618 d) :: (d, dictOf [⟨PyData.keyHash w.params (Str.ofString "_StringIO__newline"), .str (Str.ofString "_StringIO__newline") k1, .str (Str.ofString "\n") u1⟩, ⟨PyData.keyHash w.params (Str.ofString "_StringIO__buf"), .str (Str.ofString "_StringIO__buf") k2, .str x t⟩, ⟨PyData.keyHash w.params (Str.ofString "_StringIO__pos"), .str (Str.ofString "_StringIO__pos") k3, .int 0 u3⟩] 3) :: led) → Q (.ref o) { s with heap := h, toks := tk }),
  wpAny (model PySem.Challenge.rw_ik0072_01.row.toRowW.prog w) A (call (.ref 618) [.str x t]) Q E s := by
  k_fill
  intro w p loose mean mg mb A env outer A₀ base h₀ L m s Q E x t led B F X N T hh hA hf hk hd hu ret
  obtain ⟨ah, dp, fr, gd, un⟩ := A
  cases hh
  cases hA
  obtain ⟨cs, lo, gl, cl, qn, fn, ccd, fr, bi⟩ := env
  cases hf
  obtain ⟨ck, cnm, cg1, cg2, cmo⟩ := cs
  cases hk
  refine topA_mono hd hu ?_
  have Xs := X.keeps F.keep
  refine wpAny_call (make_own (Xs 618 _ rfl) rfl (Looks.of_peek Xs (by kernel_rfl)) (Looks.of_peek Xs (by kernel_rfl)) (Looks.of_peek Xs (by kernel_rfl)) ?_)
  rw [under_tc]
  refine cls_sm F X rfl rfl rfl rfl rfl ?_
  refine c_ionew x t led B F X N T rfl rfl rfl rfl (Nat.le_of_ble_eq_true rfl) (Nat.le_of_ble_eq_true rfl) (fun o d h tk lt l F₁ N₁ => ?_)
  have X₁ := X.keeps F₁.keep
  have to : (Looks (model PySem.Challenge.rw_ik0072_01.row.toRowW.prog w) h (typeOf (.ref o)) (.ref 618)) := (Looks.ld (N₁ _ (List.mem_cons_self ..)).1).andThen .now
  refine (to.andThen (b := true) (Looks.of_peek X₁ (by kernel_rfl))).at ?_
  refine ⟨rfl, ?_⟩
  refine special_fn X₁ (⟨(N₁ _ (List.mem_cons_self ..)).1, rfl, rfl, (N₁ _ (List.mem_cons_of_mem _ (List.mem_cons_self ..))).1⟩ : InstAt h o (instObj 618 d) 618 (some (dictOf [] 0))) (f := 388) rfl rfl ?_
  repeat' ((fail_if_success (first | (with_reducible show wpAny _ _ (exec (Stmt.While _ _ _ _) _) _ _ _) | (with_reducible show wpAny _ _ (exec (Stmt.For _ _ _ _ _) _) _ _ _) | (with_reducible show wpAny _ _ (exec (Stmt.Assign _ (Expr.ListComp _ _ _ _) _) _) _ _ _) | (with_reducible show wpAny _ _ (eval (Expr.ListComp _ _ _ _) _) _ _ _) | (with_reducible show wpAny _ _ (truthy (Value.ref _)) _ _ _) | (with_reducible show Exists _) | (with_reducible show TurnEnd _ _ _ _ _ _ _ _ _) | (with_reducible show ForSrc _ _ _ _ _ _ _ _ _ _ _))); tb_rel)
  rename Fr h₀ L _ m => kF
  rename News h₀ L _ _ => kN
  exact ret _ _ _ _ _ _ _ _ _ lt l kF kN
end
section
open PySem PySem.W PySem.Spec PySem.Calls PyProof.Rows
theorem dq_mro : mroOf (.type "collections.deque") = pure [.type "collections.deque", .type "object"] := by rw [mroOf_type]; kernel_rfl
theorem dq_new : typeLookup (.type "collections.deque") "__new__" = pure (some (.builtin "collections.deque.__new__")) := by rw [typeLookup_type, builtinLookup_eq_fast]; kernel_rfl
theorem dq_slot_init : Slot "collections.deque" "__init__" "collections.deque.__init__" := .of (owner := "collections.deque") (n := "__init__") (by rw [typeLookup_type, builtinLookup_eq_fast]; kernel_rfl) (by decide +kernel) (by decide +kernel) (by decide +kernel)
  (by first | exact .inl (by decide +kernel) | exact .inr (by decide +kernel)) (by rw [isSubtype_type]; kernel_rfl)
theorem dq_called : TypeCalled "collections.deque" "collections.deque.__new__" "collections.deque.__init__" :=
  ⟨by decide +kernel, by decide +kernel, ⟨_, _, dq_mro⟩, madeBy_type dq_mro dq_new (by decide +kernel), by decide +kernel, by rw [isSubtype_type]; kernel_rfl, dq_slot_init⟩
theorem dq_entry_new : entryFor table "collections.deque.__new__" = some Builtin.«collections.deque.__new__» := entryFor_of_tree (by kernel_rfl)
theorem dq_entry_init : entryFor table "collections.deque.__init__" = some Builtin.«collections.deque.__init__» := entryFor_of_tree (by kernel_rfl)
theorem dq_newCall : checkBuiltinCall "collections.deque.__new__" ⟨[.type "collections.deque"], []⟩ = pure () := by kernel_rfl
theorem dq_typeCall : checkTypeCall "collections.deque" ⟨[], []⟩ = pure () := by kernel_rfl
theorem dq_initArgs (o : Value) : argsOk "collections.deque.__init__" ⟨[o], []⟩ := by unfold argsOk; kernel_rfl
noncomputable def dequeObj : Obj := { cls := .type "collections.deque", data := .fields #[.none, .int 0 0] }
section
variable {prog : Program} {w : World} {A : Around} {E : Value → Shared → Prop} {s : Shared} {h₀ : Heap} {L : Addr} {m : Fm} {led : List Ent}
theorem dq_sub : isSubtype (.type "collections.deque") (.type "collections.deque") = pure true := by rw [isSubtype_type]; kernel_rfl
theorem code_deque_new {Q₁ : Value → Shared → Prop} (hq : Q₁ (.ref s.heap.objs.size) { s with heap := s.heap.push dequeObj }) :
    codeAny (model prog w) A (.call (.builtin "collections.deque.__new__") ⟨[.type "collections.deque"], []⟩) (wants Q₁ E) s := by
  refine codeAny_of_tree ?_
  show wpAny _ A.in1 (do checkBuiltinCall "collections.deque.__new__" ⟨[.type "collections.deque"], []⟩; again (.builtin "collections.deque.__new__" ⟨[.type "collections.deque"], []⟩)) _ _ s
  refine wpAny_bind (wpAny_of_eq dq_newCall (wpAny_pure ⟨plainId_quiet (by decide +kernel) _, codeAny_builtin dq_entry_new ?_⟩))
  rw [Around.under_plainId (by decide +kernel) _]
  unfold Builtin.«collections.deque.__new__» Builtin.Deque.newArgs
  refine wpAny_bind ?_
  dsimp only
  refine wpAny_bind (wpAny_of_eq (a := true) rfl ?_)
  refine b_not rfl ?_
  refine wpAny_bind (wpAny_of_eq dq_sub ?_)
  refine b_not rfl ?_
  refine wpAny_pure ?_
  unfold Builtin.Deque.new
  refine wpAny_bind ?_
  dsimp only
  rw [if_neg (by decide)]
  refine b_not (by decide +kernel) ?_
  refine wpAny_bind (wpAny_pure ?_)
  refine wpAny_newObj_type ?_ (by size_fits)
  exact wpAny_pure hq
theorem call_deque {Q : Value → Shared → Prop} (F : Fr h₀ L s.heap m) (N : News h₀ L s.heap led)
    (h : ∀ (x : Nat) h', Fr h₀ L h' m → News h₀ L h' ((x, dequeObj) :: led) → (∀ p ∈ led, p.1 < x) → Q (.ref x) { s with heap := h' }) : wpAny (model prog w) A (call (.type "collections.deque") []) Q E s := by
  have F1 := F.push dequeObj
  have N1 := N.push F dequeObj
  have l1 : ∀ p ∈ led, p.1 < s.heap.objs.size := fun p hp => Heap.lt_size (N p hp).1
  refine ks_callType_codesW (Q₁ := fun obj s₁ => obj = .ref s.heap.objs.size ∧ s₁ = { s with heap := s.heap.push dequeObj }) dq_called (fun hq => by rw [dq_typeCall]; exact wpAny_pure hq) dq_entry_init (code_deque_new ⟨rfl, rfl⟩) fun obj s₁ hh => ?_
  obtain ⟨rfl, rfl⟩ := hh
  refine ⟨⟨_, Heap.get?_push_size _ rfl, rfl⟩, dq_initArgs _, ?_⟩
  show wpAny _ _ (setField (.ref s.heap.objs.size) 0 .none >>= fun _ => Builtin.Deque.clear (.ref s.heap.objs.size) >>= fun _ => ret .none) _ _ _
  have e0 := (N1 _ (List.mem_cons_self ..)).1
  refine wpAny_bind (wpAny_setField_rec e0 (by simp) fun h1 e1 s1 => ?_)
  have eo : h1.get? s.heap.objs.size = some dequeObj := by simpa [dequeObj] using e1
  unfold Builtin.Deque.clear Builtin.Deque.items fieldsOf
  refine wpAny_bind (wpAny_bind (wpAny_bind (wpAny_bind (wpAny_load eo ?_))))
  show wpAny _ _ (pure _) _ _ _
  refine wpAny_pure (wpAny_pure ?_)
  rw [if_neg (by decide)]
  refine wpAny_pure (wpAny_pure ⟨rfl, ?_⟩)
  have z := N1 _ (List.mem_cons_self ..)
  have F2 : Fr h₀ L h1 m := F1.change s1 z.2.1 z.2.2
  refine h s.heap.objs.size h1 F2 (fun p hp => ?_) l1
  rcases List.mem_cons.mp hp with rfl | hp
  · exact ⟨eo, z.2⟩
  · have y := N1 p (List.mem_cons_of_mem _ hp)
    exact ⟨s1.extBut _ _ (Nat.ne_of_lt (l1 p hp)) y.1, y.2⟩
end
end
section
open PySem PySem.W PySem.Spec PySem.Calls PyProof.Rows
theorem dq_noBool : typeLookup (.type "collections.deque") "__bool__" = pure none := by rw [typeLookup_type, builtinLookup_eq_fast]; kernel_rfl
theorem dq_slot_len : Slot "collections.deque" "__len__" "collections.deque.__len__" := .of (owner := "collections.deque") (n := "__len__") (by rw [typeLookup_type, builtinLookup_eq_fast]; kernel_rfl) (by decide +kernel) (by decide +kernel) (by decide +kernel)
  (by first | exact .inl (by decide +kernel) | exact .inr (by decide +kernel)) (by rw [isSubtype_type]; kernel_rfl)
theorem dq_entry_len : entryFor table "collections.deque.__len__" = some Builtin.«collections.deque.__len__» := entryFor_of_tree (by kernel_rfl)
theorem dq_lenArgs (o : Value) : argsOk "collections.deque.__len__" ⟨[o], []⟩ := by unfold argsOk; kernel_rfl
section
variable {prog : Program} {w : World} {A : Around} {E : Value → Shared → Prop} {s : Shared}
theorem dq_len_body {x : Addr} {Q : Value → Shared → Prop} (ho : s.heap.get? x = some dequeObj)
    (h : Q (.int 0 (s.toks + 1)) { s with toks := s.toks + 1 + 1 }) : wpAny (model prog w) A (Builtin.«len» ⟨[.ref x], []⟩) (fun fin s' => ∃ r, fin = .done (.ret r) ∧ Q r s') E s := by
  have hT : s.TypeIs (.ref x) "collections.deque" := ⟨_, ho, rfl⟩
  unfold Builtin.«len»
  refine wpAny_bind (m := oneArg "len" _) (wpAny_pure ?_)
  refine wpAny_bind (m := callSpecial? (.ref x) (Str.ofString "__len__")) (wpAny_callSpecial?_slot (name := Str.ofString "__len__") hT dq_slot_len
    (wpAny_call_entry dq_slot_len hT dq_entry_len ?_ (dq_lenArgs _)))
  · unfold Builtin.«collections.deque.__len__» Builtin.Deque.size fieldsOf
    refine wpAny_bind ?_
    show wpAny _ _ (pure _ >>= _) _ _ _
    refine wpAny_bind (wpAny_pure (wpAny_pure ?_))
    dsimp only
    refine wpAny_bind (wpAny_bind (wpAny_bind (wpAny_load ho ?_)))
    show wpAny _ _ (pure _) _ _ _
    refine wpAny_pure (wpAny_pure (wpAny_bind (wpAny_mkInt (wpAny_pure ⟨_, rfl, ?_⟩))))
    refine wpAny_bind (wpAny_holding (wpAny_pure ?_))
    refine wpAny_bind (wpAny_letGo ?_)
    show wpAny _ _ (if ((0 : Nat) : Int) < 0 then _ else _) _ _ _
    rw [if_neg (by omega)]
    show wpAny _ _ (if ((0 : Nat) : Int) ≥ 2 ^ 63 then _ else _) _ _ _
    rw [if_neg (by omega)]
    exact wpAny_bind (wpAny_mkInt (wpAny_pure ⟨_, rfl, h⟩))
theorem truthy_deque {x : Addr} {Q : Bool → Shared → Prop} (ho : s.heap.get? x = some dequeObj)
    (h : Q false { s with toks := s.toks + 1 + 1 }) : wpAny (model prog w) A (truthy (.ref x)) Q E s := by
  have hT : s.TypeIs (.ref x) "collections.deque" := ⟨_, ho, rfl⟩
  have key : wpAny (model prog w) A (runValue (.builtin "len" ⟨[.ref x], []⟩)) (fun r s' => r = .int 0 (s.toks + 1) ∧ Q false s') E s := by
    refine wpAny_runValue (codeAny_builtin entry_len ?_)
    rw [Around.under_plainId plain_len _]
    exact wpAny_mono (dq_len_body (Q := fun r s' => r = .int 0 (s.toks + 1) ∧ Q false s') ho ⟨rfl, h⟩)
      (fun fin s' h' => by obtain ⟨r, rfl, hq⟩ := h'; exact hq) fun _ _ e => e
  unfold truthy
  first
    | refine wpAny_bind (wpAny_callSpecial?_none (name := Str.ofString "__bool__") hT dq_noBool ?_)
    | refine wpAny_bind (wpAny_pure (wpAny_bind (wpAny_callSpecial?_none (name := Str.ofString "__bool__") hT dq_noBool ?_)))
  first
    | refine wpAny_bind (wpAny_specialOf (name := Str.ofString "__len__") hT dq_slot_len.lookup ?_)
    | refine wpAny_bind (wpAny_pure (wpAny_bind (wpAny_specialOf (name := Str.ofString "__len__") hT dq_slot_len.lookup ?_)))
  first
    | exact wpAny_bind (wpAny_mono key (fun r s' h' => by obtain ⟨rfl, hq⟩ := h'; exact wpAny_pure hq) fun _ _ e => e)
    | exact wpAny_bind (wpAny_pure (wpAny_bind (wpAny_mono key (fun r s' h' => by obtain ⟨rfl, hq⟩ := h'; exact wpAny_pure hq) fun _ _ e => e)))
end
end
section
open PySem PySem.W PySem.Spec PySem.Calls PyProof.Rows
section
variable {prog : Program} {w : World} {A : Around} {E : Value → Shared → Prop} {s : Shared} {h₀ : Heap} {L : Addr} {m : Fm}
/-- an iterator of one's own: what it hands out, at the ledger's addresses -/
structure OwnIter (prog : Program) (w : World) (A : Around) (h₀ : Heap) (L : Addr) (m : Fm) (x : Addr) (n : Nat) (J : Nat → List Value → List Ent → Prop) (ads : List Addr) (fs : List Addr) (rest : List Ent) : Prop where
  adr : ∀ i acc led, J i acc led → led.map (·.1) = ads
  item : ∀ i acc led D c (s₁ : Shared) (Q' : Option Value → Shared → Prop) (E' : Value → Shared → Prop), i < n → J i acc led → (∀ p ∈ led, p.1 < D) → Fr h₀ L s₁.heap m → News h₀ L s₁.heap ((D, listOf acc.toArray c) :: led) →
    (∀ v led' s₂, J (i + 1) (acc ++ [v]) led' → Fr h₀ L s₂.heap m → News h₀ L s₂.heap ((D, listOf acc.toArray c) :: led') → Ok s₁ s₂ → Q' (some v) s₂) → wpAny (model prog w) A (pyNext (.ref x)) Q' E' s₁
  done : ∀ acc led D c (s₁ : Shared) (Q' : Option Value → Shared → Prop) (E' : Value → Shared → Prop), J n acc led → (∀ p ∈ led, p.1 < D) → Fr h₀ L s₁.heap m → News h₀ L s₁.heap ((D, listOf acc.toArray c) :: led) →
    (∀ g led' s₂, KtsTurn fs h₀ g → led'.map (·.1) = ads → (∀ q ∈ rest, q ∈ led') → Fr g L s₂.heap m → News g L s₂.heap ((D, listOf acc.toArray c) :: led') → Ok s₁ s₂ → Q' none s₂) → wpAny (model prog w) A (pyNext (.ref x)) Q' E' s₁
  self : ∀ led D (s₁ : Shared) (Q' : Value → Shared → Prop) (E' : Value → Shared → Prop), J 0 [] led → (∀ p ∈ led, p.1 < D) → Fr h₀ L s₁.heap m → News h₀ L s₁.heap ((D, listOf #[] 0) :: led) →
    (∀ s₂, Fr h₀ L s₂.heap m → News h₀ L s₂.heap ((D, listOf #[] 0) :: led) → Ok s₁ s₂ → Q' (.ref x) s₂) → wpAny (model prog w) A (pyIter (.ref x)) Q' E' s₁
  len : ∀ i acc led (s₁ : Shared), J i acc led → Fr h₀ L s₁.heap m → News h₀ L s₁.heap led → Looks (model prog w) s₁.heap (specialOf (.ref x) "__len__") none ∧ Looks (model prog w) s₁.heap (specialOf (.ref x) "__length_hint__") none ∧ ∃ C, Looks (model prog w) s₁.heap (typeOf (.ref x)) (.ref C)
theorem li_lt {ads : List Addr} {D : Addr} {led : List Ent} (e : led.map (·.1) = ads) (h : ∀ a ∈ ads, a < D) : ∀ p ∈ led, p.1 < D := fun p hp => h _ (e ▸ List.mem_map_of_mem hp)
theorem li_loop {x D : Addr} {n : Nat} {J : Nat → List Value → List Ent → Prop} {ads fs : List Addr} {rest : List Ent} {R : Result → Shared → Prop} (W : OwnIter prog w A.in1 h₀ L m x n J ads fs rest) (hD : ∀ a ∈ ads, a < D) :
    ∀ (k i : Nat) (acc : List Value) (c : Nat) (led : List Ent) (s₁ : Shared), n - i = k → i ≤ n → acc.length = i → n ≤ 10000 → J i acc led → Fr h₀ L s₁.heap m → News h₀ L s₁.heap ((D, listOf acc.toArray c) :: led) →
      (∀ g acc' c' led' s₂, KtsTurn fs h₀ g → acc'.length = n → (∃ led'', J n acc' led'') → led'.map (·.1) = ads → (∀ q ∈ rest, q ∈ led') → Fr g L s₂.heap m → News g L s₂.heap ((D, listOf acc'.toArray c') :: led') → Ok s₁ s₂ → R (.ok (.ret .none)) s₂) →
      codeAny (model prog w) A (.builtin "list.extend.loop" ⟨[.ref D, .ref x, .none], []⟩) R s₁ := by
  intro k
  induction k with
  | zero =>
    intro i acc c led s₁ hk hi hl hn hJ Fh N hR
    have hin : i = n := sub_end hk hi
    subst hin
    refine codeAny_builtin PySem.F.entry_extend_loop ?_
    rw [Around.under_plainId PySem.F.plain_extend_loop _]
    show wpAny _ A.in1 (pyNext (.ref x) >>= _) _ _ s₁
    refine wpAny_bind (W.done acc led D c s₁ _ _ hJ (li_lt (W.adr _ _ _ hJ) hD) Fh N fun g led' s₂ Tg ea er F₂ N₂ ok => ?_)
    exact wpAny_pure (hR g acc c led' s₂ Tg hl ⟨led, hJ⟩ ea er F₂ N₂ ok)
  | succ k ih =>
    intro i acc c led s₁ hk hi hl hn hJ Fh N hR
    have hlt : i < n := sub_pos' hk
    refine codeAny_builtin PySem.F.entry_extend_loop ?_
    rw [Around.under_plainId PySem.F.plain_extend_loop _]
    show wpAny _ A.in1 (pyNext (.ref x) >>= _) _ _ s₁
    refine wpAny_bind (W.item i acc led D c s₁ _ _ hlt hJ (li_lt (W.adr _ _ _ hJ) hD) Fh N fun v led' s₂ hJ' F₂ N₂ ok => ?_)
    show wpAny _ A.in1 (updateSeq D (·.push v) >>= _) _ _ _
    have z := N₂ _ (List.mem_cons_self ..)
    refine wpAny_bind (wpAny_updateSeq z.1 rfl (wpAny_pure ⟨plainId_quiet PySem.F.plain_extend_loop _, ?_⟩) (by rw [List.size_toArray, sizeLine_eq]; exact lee hl (Nat.le_trans (Nat.le_of_lt hlt) hn) rfl) (by simp only [List.push_toArray, List.size_toArray, List.length_append, List.length_singleton, sizeLine_eq]; exact Nat.succ_le_succ (lee hl (Nat.le_trans (Nat.le_of_lt hlt) hn) rfl)))
    have hs : Heap.SameBut D s₂.heap (s₂.heap.update D (Obj.mapSeq (·.push v))) := Heap.SameBut.update ..
    have ho := Heap.get?_update_self (Obj.mapSeq (·.push v)) z.1 rfl
    have lt' := li_lt (W.adr _ _ _ hJ') hD
    refine ih (i + 1) (acc ++ [v]) (c + 1) led' _ (sub_pred hk) hlt (by simp [hl]) hn hJ' (F₂.change hs z.2.1 z.2.2) (fun p hp => ?_) fun g acc' c' led'' s₃ Tg e1 e2 e3 e4 F₃ N₃ ok₃ => hR g acc' c' led'' s₃ Tg e1 e2 e3 e4 F₃ N₃ ⟨ok₃.os.trans ok.os, fun h => ok₃.gens (ok.gens h)⟩
    rcases List.mem_cons.mp hp with rfl | hp
    · refine ⟨?_, z.2⟩
      rw [ho]
      simp [Obj.mapSeq, PySem.W.listOf]
    · have y := N₂ p (List.mem_cons_of_mem _ hp)
      exact ⟨hs.extBut _ _ (Nat.ne_of_lt (lt' p hp)) y.1, y.2⟩
theorem upd_led {D : Addr} {a b : Obj} {led : List Ent} {h h' : Heap} (hs : Heap.SameBut D h h') (ho : h'.get? D = some b) (lt : ∀ p ∈ led, p.1 < D) (Fh : Fr h₀ L h m) (N : News h₀ L h ((D, a) :: led)) : Fr h₀ L h' m ∧ News h₀ L h' ((D, b) :: led) := by
  have z := N _ (List.mem_cons_self ..)
  refine ⟨Fh.change hs z.2.1 z.2.2, fun p hp => ?_⟩
  rcases List.mem_cons.mp hp with rfl | hp
  · exact ⟨ho, z.2⟩
  · have y := N p (List.mem_cons_of_mem _ hp)
    exact ⟨hs.extBut _ _ (Nat.ne_of_lt (lt p hp)) y.1, y.2⟩
theorem call_list_own {x : Addr} {n : Nat} {J : Nat → List Value → List Ent → Prop} {ads fs : List Addr} {rest : List Ent} {led : List Ent} {Q : Value → Shared → Prop} (W : OwnIter prog w A.in1.in1 h₀ L m x n J ads fs rest) (Fh : Fr h₀ L s.heap m) (N : News h₀ L s.heap led) (hJ : J 0 [] led) (hn : n ≤ 10000) (hx : x < s.heap.objs.size)
    (hR : ∀ g (D : Nat) acc c led' s₂, KtsTurn fs h₀ g → acc.length = n → (∃ led'', J n acc led'') → led'.map (·.1) = ads → (∀ q ∈ rest, q ∈ led') → (∀ a ∈ ads, a < D) → Fr g L s₂.heap m → News g L s₂.heap ((D, listOf acc.toArray c) :: led') → Ok s s₂ → Q (.ref D) s₂) :
    wpAny (model prog w) A (call (.type "list") [.ref x]) Q E s := by
  have hD : ∀ a ∈ ads, a < s.heap.objs.size := by
    intro a ha
    rw [← W.adr _ _ _ hJ] at ha
    obtain ⟨p, hp, rfl⟩ := List.mem_map.mp ha
    exact Heap.lt_size (N p hp).1
  have lt := li_lt (W.adr _ _ _ hJ) hD
  refine callType_codes (Q₁ := fun obj s₁ => obj = .ref s.heap.objs.size ∧ s₁ = { s with heap := s.heap.push { cls := .type "list", data := .seq #[] } }) PySem.F.called_list (PySem.F.typeCall_list_1 _) PySem.F.entry_list_init
    (code_list_new _ ⟨rfl, rfl⟩) fun obj s₁ h₁ => ?_
  obtain ⟨rfl, rfl⟩ := h₁
  have hS : (s.heap.push { cls := .type "list", data := .seq #[] }).get? s.heap.objs.size = some { cls := .type "list", data := .seq #[] } := Heap.get?_push_size _ rfl
  refine ⟨⟨_, hS, rfl⟩, PySem.F.args_list_init_2 _ _, ?_⟩
  have F1 := Fh.push { cls := .type "list", data := .seq #[] }
  have N1 : News h₀ L (s.heap.push { cls := .type "list", data := .seq #[] }) ((s.heap.objs.size, { cls := .type "list", data := .seq #[] }) :: led) := N.push Fh _
  generalize hh : s.heap.push { cls := .type "list", data := .seq #[] } = h1 at *
  generalize hDD : s.heap.objs.size = D at *
  show wpAny _ _ (do let old ← Builtin.List.listItems (.ref D); Builtin.List.listUpdate (.ref D) (fun _ => #[]); letGo old.toList.reverse; Builtin.List.listExtendWith (.ref D) (.ref x) .none) _ _ _
  refine wpAny_bind ?_
  unfold Builtin.List.listItems
  refine wpAny_bind (wpAny_seqItems hS rfl (wpAny_pure ?_))
  show wpAny _ _ (updateSeq D (fun _ => #[]) >>= fun _ => letGo (#[] : Array Value).toList.reverse >>= fun _ => Builtin.List.listExtendWith (.ref D) (.ref x) .none) _ _ _
  refine wpAny_bind (wpAny_updateSeq hS rfl ?_)
  have hS₂ : (h1.update D (Obj.mapSeq (fun _ => (#[] : Array Value)))).get? D = some (listOf #[] 0) := Heap.get?_update_self (Obj.mapSeq (fun _ => (#[] : Array Value))) hS rfl
  obtain ⟨F2, N2⟩ := upd_led (Heap.SameBut.update ..) hS₂ lt F1 N1
  refine wpAny_bind (wpAny_letGo ?_)
  generalize h1.update D (Obj.mapSeq (fun _ => (#[] : Array Value))) = h2 at *
  unfold Builtin.List.listExtendWith
  obtain ⟨C, hC⟩ := (W.len 0 [] led { s with heap := h2 } hJ F2 (fun p hp => N2 p (List.mem_cons_of_mem _ hp))).2.2
  refine wpAny_bind (hC.at ?_)
  have hxD : D ≠ x := by rintro rfl; exact Nat.lt_irrefl _ hx
  have e1 : Builtin.List.listSameRef (.ref D) (.ref x) = false := by simp [Builtin.List.listSameRef, hxD]
  have e2 : (Value.ref C == Value.type "list") = false := rfl
  have e3 : (Value.ref C == Value.type "tuple") = false := rfl
  simp only [e1, e2, e3, Bool.or_false, Bool.false_eq_true, if_false]
  refine wpAny_bind (W.self led D _ _ _ hJ lt F2 N2 (fun s₂ F3 N3 ok₃ => ?_))
  refine wpAny_bind (wpAny_holding ?_)
  unfold Builtin.List.listLengthHint
  obtain ⟨g1, g2, _⟩ := W.len 0 [] led s₂ hJ F3 (fun p hp => N3 p (List.mem_cons_of_mem _ hp))
  refine wpAny_bind (g1.at ?_)
  show wpAny _ _ (specialOf (Value.ref x) (Str.ofString "__length_hint__") >>= _) _ _ _
  refine wpAny_bind (g2.at ?_)
  refine wpAny_pure ?_
  show wpAny _ _ (rule "list.extend.makes-room" >>= fun _ => Builtin.List.listTouch (.ref D) >>= fun _ =>
    again (.builtin "list.extend.loop" ⟨[.ref D, .ref x, .none], []⟩)) _ _ _
  refine wpAny_bind (wpAny_rule ?_)
  refine wpAny_bind ?_
  show wpAny _ _ (updateSeq D (·.push .none) >>= fun _ => updateSeq D (·.pop)) _ _ _
  have z3 := (N3 _ (List.mem_cons_self ..)).1
  refine wpAny_bind (wpAny_updateSeq z3 rfl ?_)
  have hS₃ : (s₂.heap.update D (Obj.mapSeq (·.push Value.none))).get? D = some (listOf #[.none] 1) := Heap.get?_update_self (Obj.mapSeq (·.push Value.none)) z3 rfl
  obtain ⟨F4, N4⟩ := upd_led (Heap.SameBut.update ..) hS₃ lt F3 N3
  refine wpAny_updateSeq hS₃ rfl ?_
  have hS₄ : ((s₂.heap.update D (Obj.mapSeq (·.push Value.none))).update D (Obj.mapSeq (·.pop))).get? D = some (listOf #[] 2) := Heap.get?_update_self (Obj.mapSeq (·.pop)) hS₃ rfl
  obtain ⟨F5, N5⟩ := upd_led (Heap.SameBut.update ..) hS₄ lt F4 N4
  refine wpAny_pure ⟨plainId_quiet PySem.F.plain_extend_loop _, ?_⟩
  refine li_loop W hD n 0 [] 2 led _ (Nat.sub_zero _) (Nat.zero_le _) rfl hn hJ F5 N5 (fun g acc' c' led' s₃ Tg hl hJ' ea er F6 N6 ok₆ => ?_)
  exact ⟨rfl, hR g D acc' c' led' s₃ Tg hl hJ' ea er hD F6 N6 ⟨ok₆.os.trans (ok₃.os), fun h => ok₆.gens (ok₃.gens h)⟩⟩
end
end
section
open PySem PySem.W PySem.Spec PySem.Calls PyProof.Rows
noncomputable abbrev sioEs (P : Params) (k1 k2 k3 u1 : Tok) (x : Str) (t : Tok) (p : Int) (u3 : Tok) : List DictEntry := [⟨PyData.keyHash P (Str.ofString "_StringIO__newline"), .str (Str.ofString "_StringIO__newline") k1, .str (Str.ofString "\n") u1⟩, ⟨PyData.keyHash P (Str.ofString "_StringIO__buf"), .str (Str.ofString "_StringIO__buf") k2, .str x t⟩, ⟨PyData.keyHash P (Str.ofString "_StringIO__pos"), .str (Str.ofString "_StringIO__pos") k3, .int p u3⟩]
/-- the text's sign at a place, none at its end -/
noncomputable def chAt (x : Str) (p : Nat) : Str := ⟨((x.cps.toList.drop p).take 1).toArray⟩
theorem chAt_slice {x : Str} {p : Nat} {b : Int} (h : p < x.length) (hb : b = p + 1) : Txt.slice (Txt.slice x (some (p : Int)) (some b) ++ Str.ofString " ") none (some (-1)) = chAt x p := by
  subst hb
  have e1 : Txt.slice x (some (p : Int)) (some ((p : Int) + 1)) = chAt x p := by
    have := PySem.StrLaws.sliceText_nat x (a := p) (b := p + 1) (Nat.le_succ p) h
    refine Eq.trans (b := _) ?_ (this.trans ?_)
    · rfl
    · unfold chAt; simp
  have hl : x.cps.toList.length = x.length := by simp [Str.length]
  have e2 : (chAt x p).length = 1 := by
    show ((x.cps.toList.drop p).take 1).toArray.size = 1
    simp only [List.size_toArray, List.length_take, List.length_drop]
    rw [show x.cps.toList.length = x.length by simp [Str.length]]
    exact Nat.min_eq_left (Nat.sub_pos_of_lt (by assumption))
  have e3 : (chAt x p ++ Str.ofString " ").length = 2 := by rw [Str.length_append, e2]; rfl
  rw [e1]
  have := PySem.StrLaws.sliceText_to_neg (x := chAt x p ++ Str.ofString " ") (j := -1) (by decide) (by rw [e3]; decide)
  refine Eq.trans (b := _) ?_ (this.trans ?_)
  · rfl
  · rw [e3]
    refine Str.ext' ?_
    have e4 : (chAt x p).cps.size = 1 := e2
    have e5 : (chAt x p).cps.toList.length = 1 := by simpa using e4
    simp [Str.cps_append, e5]
theorem chAt_end {x : Str} {p : Nat} (h : x.length ≤ p) : chAt x p = Str.ofString "" := by
  have hl : x.cps.toList.length = x.length := by simp [Str.length]
  unfold chAt
  rw [List.drop_eq_nil_of_le (hl ▸ (by assumption))]
  rfl
theorem c_read : ∀ {w : World} {p : Program} {loose : List Str} {mean : ExcName → Option Value} {mg mb : Str → Option Value}
  {A : Around} {env : Env} {outer : List Env} {A₀ : Around} {base h₀ : Heap} {L : Addr} {m : Fm} {s : Shared} {Q E : Value → Shared → Prop}
  (o d : Nat) (k1 k2 k3 u1 : Tok) (x : Str) (t : Tok) (i : Nat) (u3 u : Tok) (led : List Ent)
  (B : Below A₀ base outer h₀) (F : Fr h₀ L s.heap m) (X : (KK w.params).In h₀) (N : News h₀ L s.heap ((d, dictOf (sioEs w.params k1 k2 k3 u1 x t i u3) 3) :: led)) (T : Top p loose mean mg mb h₀) (hh : A.handled = none) (hA : A.frames = some (env :: outer)) (hf : env.frame = some L) (hk : env.scope.kind = .function) (hd : A.depth ≤ 410) (hu : A.units ≤ 4100)
  (hx : x.length ≤ 1000) (hpx : i ≤ x.length) (hm : (o, instObj 618 d) ∈ led) (hdd : ∀ q ∈ led, q.1 ≠ d)
  (ret : ∀ (i' : Nat) t' u3' h tk, i' = (if i < x.length then i + 1 else i) → Fr h₀ L h m → News h₀ L h ((d, dictOf (sioEs w.params k1 k2 k3 u1 x t i' u3') 3) :: led) → Q (.str (chAt x i) t') { s with heap := h, toks := tk }),
  wpAny (model PySem.Challenge.rw_ik0072_01.row.toRowW.prog w) A (call (.ref 564) [.ref o, .int 1 u]) Q E s := by
  k_fill
  intro w p loose mean mg mb A env outer A₀ base h₀ L m s Q E o d k1 k2 k3 u1 x t i u3 u led B F X N T hh hA hf hk hd hu hx hpx hm hdd ret
  obtain ⟨ah, dp, fr, gd, un⟩ := A
  cases hh
  cases hA
  obtain ⟨cs, lo, gl, cl, qn, fn, ccd, fr, bi⟩ := env
  cases hf
  obtain ⟨ck, cnm, cg1, cg2, cmo⟩ := cs
  cases hk
  refine topA_mono hd hu ?_
  refine wpAny_call ?_
  k_enter
  repeat' ((fail_if_success (first | (with_reducible show wpAny _ _ (exec (Stmt.While _ _ _ _) _) _ _ _) | (with_reducible show wpAny _ _ (exec (Stmt.For _ _ _ _ _) _) _ _ _) | (with_reducible show wpAny _ _ (exec (Stmt.Assign _ (Expr.ListComp _ _ _ _) _) _) _ _ _) | (with_reducible show wpAny _ _ (eval (Expr.ListComp _ _ _ _) _) _ _ _) | (with_reducible show wpAny _ _ (truthy (Value.ref _)) _ _ _) | (with_reducible show Exists _) | (with_reducible show TurnEnd _ _ _ _ _ _ _ _ _) | (with_reducible show ForSrc _ _ _ _ _ _ _ _ _ _ _))); tb_rel)
  · rename_i hge _ _ _ _
    rename Fr h₀ L _ m => kF
    rename News h₀ L _ _ => kN
    have hp : x.length ≤ i := Int.ofNat_le.mp (by assumption)
    rw [chAt_end hp] at ret
    exact ret i _ _ _ _ (by rw [if_neg (Nat.not_lt.mpr hp)]) kF kN
  · rename Fr h₀ L _ m => kF
    rename News h₀ L _ _ => kN
    have hp : i < x.length := Nat.lt_of_succ_lt (Int.ofNat_lt.mp (show ((i + 1 : Nat) : Int) < x.length by assumption))
    rw [chAt_slice hp rfl]
    exact ret (i + 1) _ _ _ _ (by rw [if_pos hp]) kF kN
  · rename Fr h₀ L _ m => kF
    rename News h₀ L _ _ => kN
    have hp : i < x.length := Nat.lt_of_not_le fun h => absurd (Int.ofNat_le.mpr h) (by assumption)
    have e : (x.length : Int) = i + 1 := Int.le_antisymm (Int.not_lt.mp (by assumption)) (show ((i + 1 : Nat) : Int) ≤ x.length from Int.ofNat_le.mpr hp)
    rw [chAt_slice hp e]
    rw [e] at kN
    exact ret (i + 1) _ _ _ _ (by rw [if_pos hp]) kF kN
end
section
open PySem PySem.W PySem.Spec PySem.Calls PyProof.Rows
theorem put_find {a b : Str} (hab : a ≠ b) (h : Int) (t : Tok) (v : Value) : ∀ es : List DictEntry, (putL b h (.str b t) v es).find? (·.key.isStr a) = (es.find? (·.key.isStr a)).map id
  | [] => by
    have : (Value.str b t).isStr a = false := by
      show (b == a) = false
      exact beq_eq_false_iff_ne.mpr (Ne.symm hab)
    simp [putL, this]
  | e :: r => by
    unfold putL
    have ih := put_find hab h t v r
    cases hb : e.key.isStr b with
    | true =>
      have ha : e.key.isStr a = false := by
        obtain ⟨hs, k, vv⟩ := e
        cases k with
        | str x tk =>
          have e1 : x = b := beq_iff_eq.mp hb
          show (x == a) = false
          rw [e1]
          exact beq_eq_false_iff_ne.mpr (Ne.symm hab)
        | _ => cases hb
      simp [ha]
    | false =>
      simp only [Bool.false_eq_true, if_false, List.find?_cons]
      cases e.key.isStr a with
      | true => rfl
      | false => exact ih
theorem getL_find {a : Str} {es : List DictEntry} {u : Value} (h : getL a es = some (some u)) : ∃ e, es.find? (·.key.isStr a) = some e ∧ e.val = u := by
  unfold getL at h
  cases hf : es.find? (·.key.isStr a) with
  | some e => rw [hf] at h; exact ⟨e, rfl, by simpa using h⟩
  | none =>
    rw [hf] at h
    dsimp only at h
    split at h <;> cases h
theorem getL_of_find {a : Str} {es : List DictEntry} {e : DictEntry} (h : es.find? (·.key.isStr a) = some e) : getL a es = some (some e.val) := by
  unfold getL
  rw [h]
theorem getL_other {a b : Str} (hab : a ≠ b) (h : Int) (t : Tok) (v : Value) {es : List DictEntry} {u : Value} (hg : getL a es = some (some u)) : getL a (putL b h (.str b t) v es) = some (some u) := by
  obtain ⟨e, h1, rfl⟩ := getL_find hg
  exact getL_of_find (by rw [put_find hab, h1]; rfl)
theorem getL_same (a : Str) (h : Int) (t : Tok) (v : Value) : ∀ es : List DictEntry, getL a (putL a h (.str a t) v es) = some (some v)
  | [] => by
    refine getL_of_find (e := ⟨h, .str a t, v⟩) ?_
    have : (Value.str a t).isStr a = true := by show (a == a) = true; exact beq_self_eq_true a
    simp [putL, this]
  | e :: r => by
    unfold putL
    cases hb : e.key.isStr a with
    | true => exact getL_of_find (e := ⟨e.hash, e.key, v⟩) (by simp [hb])
    | false =>
      obtain ⟨x, h1, h2⟩ := getL_find (getL_same a h t v r)
      simp only [Bool.false_eq_true, if_false]
      have := getL_of_find (a := a) (es := e :: putL a h (.str a t) v r) (e := x) (by simp [hb, h1])
      rw [h2] at this
      exact this
theorem putL_len {a : Str} (h : Int) (k v : Value) : ∀ {es : List DictEntry} {u : Value}, getL a es = some (some u) → (putL a h k v es).length = es.length
  | [], u, hg => by obtain ⟨e, h1, _⟩ := getL_find hg; cases h1
  | e :: r, u, hg => by
    obtain ⟨x, h1, h2⟩ := getL_find hg
    unfold putL
    cases hb : e.key.isStr a with
    | true => simp
    | false =>
      rw [List.find?_cons, hb] at h1
      have ih := putL_len h k v (es := r) (getL_of_find h1)
      simp [ih]
theorem put_refs {b : Str} (h : Int) (t : Tok) (v : Value) : ∀ es : List DictEntry, (putL b h (.str b t) v es).any (·.refKey) = es.any (·.refKey)
  | [] => rfl
  | e :: r => by
    unfold putL
    cases hb : e.key.isStr b with
    | true => rfl
    | false =>
      simp only [Bool.false_eq_true, if_false, List.any_cons]
      rw [put_refs h t v r]
theorem getL_none {a : Str} {es : List DictEntry} (h : getL a es = some none) : es.find? (·.key.isStr a) = none ∧ es.any (·.refKey) = false := by
  unfold getL at h
  cases hf : es.find? (·.key.isStr a) with
  | some e => rw [hf] at h; cases h
  | none =>
    rw [hf] at h
    dsimp only at h
    refine ⟨rfl, ?_⟩
    cases hr : es.any (·.refKey) with
    | false => rfl
    | true => rw [hr] at h; cases h
theorem getL_absent {a b : Str} (hab : a ≠ b) (h : Int) (t : Tok) (v : Value) {es : List DictEntry} (hg : getL a es = some none) : getL a (putL b h (.str b t) v es) = some none := by
  obtain ⟨h1, h2⟩ := getL_none hg
  unfold getL
  rw [put_find hab, h1, put_refs, h2]
  rfl
/-- the state of a lexer; the tokens of its texts stand in T -/
structure Lex (es : List DictEntry) (T : Nat → Tok) (o x1 x2 : Addr) (st tk : Value) : Prop where
  instream : getL (Str.ofString "instream") es = some (some (.ref o))
  posix : getL (Str.ofString "posix") es = some (some (.bool true))
  eof : getL (Str.ofString "eof") es = some (some .none)
  commenters : getL (Str.ofString "commenters") es = some (some (.str (Str.ofString "") (T 0)))
  wordchars : getL (Str.ofString "wordchars") es = some (some (.str (Str.ofString "abcdfeghijklmnopqrstuvwxyzABCDEFGHIJKLMNOPQRSTUVWXYZ0123456789_ßàáâãäåæçèéêëìíîïðñòóôõöøùúûüýþÿÀÁÂÃÄÅÆÇÈÉÊËÌÍÎÏÐÑÒÓÔÕÖØÙÚÛÜÝÞ") (T 1)))
  whitespace : getL (Str.ofString "whitespace") es = some (some (.str (Str.ofString " \t\x0d\n") (T 2)))
  quotes : getL (Str.ofString "quotes") es = some (some (.str (Str.ofString "'\"") (T 3)))
  escape : getL (Str.ofString "escape") es = some (some (.str (Str.ofString "\\") (T 4)))
  debug : getL (Str.ofString "debug") es = some (some (.int 0 (T 5)))
  source : getL (Str.ofString "source") es = some (some .none)
  punct : getL (Str.ofString "_punctuation_chars") es = some (some (.str (Str.ofString "") (T 6)))
  pushback : getL (Str.ofString "pushback") es = some (some (.ref x1))
  filestack : getL (Str.ofString "filestack") es = some (some (.ref x2))
  state : getL (Str.ofString "state") es = some (some st)
  token : getL (Str.ofString "token") es = some (some tk)
  noRead : getL (Str.ofString "read_token") es = some none
  noGet : getL (Str.ofString "get_token") es = some none
  len : es.length ≤ 100
section
variable {w : World} {A : Around} {E : Value → Shared → Prop} {s : Shared} {L lx dl o x1 x2 : Addr} {h₀ : Heap} {m : Fm} {es : List DictEntry} {n : Nat} {st tk v : Value} {T : Nat → Tok} {led : List Ent}
theorem Lex.set_st {h : Int} {t : Tok} (X : Lex es T o x1 x2 st tk) (v : Value) : Lex (putL (Str.ofString "state") h (.str (Str.ofString "state") t) v es) T o x1 x2 v tk := by
  refine ⟨?_, ?_, ?_, ?_, ?_, ?_, ?_, ?_, ?_, ?_, ?_, ?_, ?_, getL_same .., ?_, ?_, ?_, by rw [putL_len _ _ _ X.state]; exact X.len⟩
  · exact getL_other (by decide +kernel) _ _ _ X.instream
  · exact getL_other (by decide +kernel) _ _ _ X.posix
  · exact getL_other (by decide +kernel) _ _ _ X.eof
  · exact getL_other (by decide +kernel) _ _ _ X.commenters
  · exact getL_other (by decide +kernel) _ _ _ X.wordchars
  · exact getL_other (by decide +kernel) _ _ _ X.whitespace
  · exact getL_other (by decide +kernel) _ _ _ X.quotes
  · exact getL_other (by decide +kernel) _ _ _ X.escape
  · exact getL_other (by decide +kernel) _ _ _ X.debug
  · exact getL_other (by decide +kernel) _ _ _ X.source
  · exact getL_other (by decide +kernel) _ _ _ X.punct
  · exact getL_other (by decide +kernel) _ _ _ X.pushback
  · exact getL_other (by decide +kernel) _ _ _ X.filestack
  · exact getL_other (by decide +kernel) _ _ _ X.token
  · exact getL_absent (by decide +kernel) _ _ _ X.noRead
  · exact getL_absent (by decide +kernel) _ _ _ X.noGet
theorem Lex.set_tk {h : Int} {t : Tok} (X : Lex es T o x1 x2 st tk) (v : Value) : Lex (putL (Str.ofString "token") h (.str (Str.ofString "token") t) v es) T o x1 x2 st v := by
  refine ⟨?_, ?_, ?_, ?_, ?_, ?_, ?_, ?_, ?_, ?_, ?_, ?_, ?_, ?_, getL_same .., ?_, ?_, by rw [putL_len _ _ _ X.token]; exact X.len⟩
  · exact getL_other (by decide +kernel) _ _ _ X.instream
  · exact getL_other (by decide +kernel) _ _ _ X.posix
  · exact getL_other (by decide +kernel) _ _ _ X.eof
  · exact getL_other (by decide +kernel) _ _ _ X.commenters
  · exact getL_other (by decide +kernel) _ _ _ X.wordchars
  · exact getL_other (by decide +kernel) _ _ _ X.whitespace
  · exact getL_other (by decide +kernel) _ _ _ X.quotes
  · exact getL_other (by decide +kernel) _ _ _ X.escape
  · exact getL_other (by decide +kernel) _ _ _ X.debug
  · exact getL_other (by decide +kernel) _ _ _ X.source
  · exact getL_other (by decide +kernel) _ _ _ X.punct
  · exact getL_other (by decide +kernel) _ _ _ X.pushback
  · exact getL_other (by decide +kernel) _ _ _ X.filestack
  · exact getL_other (by decide +kernel) _ _ _ X.state
  · exact getL_absent (by decide +kernel) _ _ _ X.noRead
  · exact getL_absent (by decide +kernel) _ _ _ X.noGet
theorem upd_mid {d : Addr} {a b : Obj} : ∀ {pre post : List Ent}, (∀ p ∈ pre, p.1 ≠ d) → (∀ p ∈ post, p.1 ≠ d) → Upd d a b (pre ++ (d, a) :: post) (pre ++ (d, b) :: post)
  | [], _, _, h2 => .head h2
  | _ :: _, _, h1, h2 => .tail (h1 _ (List.mem_cons_self ..)) (upd_mid (fun p hp => h1 p (List.mem_cons_of_mem _ hp)) h2)
theorem set_state {Q : Unit → Shared → Prop} {g : Obj → List Ent} {news : List Ent} (LX : Lex es T o x1 x2 st tk) (F : Fr h₀ L s.heap m) (X₀ : (KK w.params).In h₀) (N : News h₀ L s.heap news) (hx : (lx, instObj 753 dl) ∈ news) (U : UpdF dl (dictOf es n) news g)
    (h : ∀ h' es' n', Lex es' T o x1 x2 v tk → Fr h₀ L h' m → News h₀ L h' (g (dictOf es' n')) → Q () { s with heap := h', toks := s.toks + 2 }) :
    wpAny (model prog w) A (setAttr (.ref lx) (Str.ofString "state") v) Q E s := by
  obtain ⟨own, rest, e0, hg, h1, h2⟩ := U.split
  subst e0
  have hd : (dl, dictOf es n) ∈ own ++ (dl, dictOf es n) :: rest := List.mem_append_right _ (List.mem_cons_self ..)
  exact set_dict F X₀ N (InstAt.of_news N hx hd) rfl (by kernel_rfl) (by kernel_rfl) (by kernel_rfl) (by kernel_rfl) (by rw [LX.state]; rfl) rfl (upd_mid h1 h2) (by rw [putL_len _ _ _ LX.state]; exact lel LX.len rfl)
    (fun h' F' N' => h h' _ _ (LX.set_st v) F' (by rw [hg]; exact N'))
theorem set_token {Q : Unit → Shared → Prop} {g : Obj → List Ent} {news : List Ent} (LX : Lex es T o x1 x2 st tk) (F : Fr h₀ L s.heap m) (X₀ : (KK w.params).In h₀) (N : News h₀ L s.heap news) (hx : (lx, instObj 753 dl) ∈ news) (U : UpdF dl (dictOf es n) news g)
    (h : ∀ h' es' n', Lex es' T o x1 x2 st v → Fr h₀ L h' m → News h₀ L h' (g (dictOf es' n')) → Q () { s with heap := h', toks := s.toks + 2 }) :
    wpAny (model prog w) A (setAttr (.ref lx) (Str.ofString "token") v) Q E s := by
  obtain ⟨own, rest, e0, hg, h1, h2⟩ := U.split
  subst e0
  have hd : (dl, dictOf es n) ∈ own ++ (dl, dictOf es n) :: rest := List.mem_append_right _ (List.mem_cons_self ..)
  exact set_dict F X₀ N (InstAt.of_news N hx hd) rfl (by kernel_rfl) (by kernel_rfl) (by kernel_rfl) (by kernel_rfl) (by rw [LX.token]; rfl) rfl (upd_mid h1 h2) (by rw [putL_len _ _ _ LX.token]; exact lel LX.len rfl)
    (fun h' F' N' => h h' _ _ (LX.set_tk v) F' (by rw [hg]; exact N'))
end
end
section
open PySem PySem.W PySem.Spec PySem.Calls PyProof.Rows
noncomputable abbrev qn (w : Str) : List Nat := (quoteP w).cps.toList
noncomputable def enc : List Str → List Nat
  | [] => []
  | [w] => qn w
  | w :: v :: r => qn w ++ 32 :: enc (v :: r)
noncomputable def sepc : List Str → List Nat
  | [] => []
  | v :: r => 32 :: enc (v :: r)
theorem enc_cons (w : Str) (r : List Str) : enc (w :: r) = qn w ++ sepc r := by
  cases r with
  | nil => simp [enc, sepc]
  | cons v r => rfl
theorem let40 : (W40.all fun x => x.cps.toList.all fun c => c == 65 || c == 66 || c == 67) = true := by decide +kernel
theorem let_of {x : Str} (h : x ∈ W40) {c : Nat} (hc : c ∈ x.cps.toList) : c = 65 ∨ c = 66 ∨ c = 67 := by
  have := List.all_eq_true.mp (List.all_eq_true.mp let40 x h) c hc
  simp only [Bool.or_eq_true, beq_iff_eq] at this
  exact or_assoc.mp this
/-- where a call of the reader stands: what is to come, the state, the token, whether a quote was met -/
inductive Ph : List Str → List Nat → Value → Str → Bool → Prop
  | start (w : Str) (r : List Str) (t : Tok) : Ph (w :: r) (qn w ++ sepc r) (.str (Str.ofString " ") t) (Str.ofString "") false
  | word (w : Str) (r : List Str) (t : Tok) (v u : List Nat) : v ≠ [] → w.cps.toList = v ++ u → Ph (w :: r) (u ++ sepc r) (.str (Str.ofString "a") t) ⟨v.toArray⟩ false
  | q1 (w : Str) (r : List Str) (t : Tok) : w = Str.ofString "" → Ph (w :: r) (39 :: sepc r) (.str (Str.ofString "'") t) (Str.ofString "") false
  | q2 (w : Str) (r : List Str) (t : Tok) : w = Str.ofString "" → Ph (w :: r) (sepc r) (.str (Str.ofString "a") t) (Str.ofString "") true
  | eof : Ph [] [] .none (Str.ofString "") false
noncomputable def stOf (r : List Str) (st : Value) : Prop := match r with
  | [] => st = .none
  | _ => ∃ t, st = .str (Str.ofString " ") t
/-- where the reader's loop ends -/
inductive Ed : List Str → List Nat → Value → Str → Bool → Prop
  | word (w : Str) (r : List Str) (st : Value) : stOf r st → w.length ≠ 0 → Ed (w :: r) (enc r) st w false
  | quo (w : Str) (r : List Str) (st : Value) : stOf r st → w = Str.ofString "" → Ed (w :: r) (enc r) st (Str.ofString "") true
  | eof : Ed [] [] .none (Str.ofString "") false
theorem chAt_cons {x : Str} {i c : Nat} {l : List Nat} (h : x.cps.toList.drop i = c :: l) : chAt x i = ⟨#[c]⟩ ∧ i < x.length ∧ x.cps.toList.drop (i + 1) = l := by
  refine ⟨?_, ?_, ?_⟩
  · unfold chAt
    rw [h]
    rfl
  · have : (x.cps.toList.drop i).length = l.length + 1 := by rw [h]; rfl
    rw [List.length_drop] at this
    have e : x.cps.toList.length = x.length := by simp [Str.length]
    omega
  · rw [← List.drop_drop, h]
    rfl
theorem chAt_nil {x : Str} {i : Nat} (h : x.cps.toList.drop i = []) : chAt x i = Str.ofString "" ∧ ¬ i < x.length := by
  have e : x.cps.toList.length = x.length := by simp [Str.length]
  have : x.cps.toList.length ≤ i := by simpa using h
  exact ⟨chAt_end (by omega), by omega⟩
theorem empty40 {w : Str} (h : w.length = 0) : w = Str.ofString "" := by
  obtain ⟨⟨l⟩⟩ := w
  cases l with
  | nil => rfl
  | cons a r => simp [Str.length] at h
theorem w_cases {w : Str} (hw : w ∈ W40) : (w = Str.ofString "" ∧ qn w = [39, 39]) ∨ (w.length ≠ 0 ∧ qn w = w.cps.toList ∧ ∃ c u, w.cps.toList = c :: u ∧ (c = 65 ∨ c = 66 ∨ c = 67)) := by
  by_cases h : w.length = 0
  · have := empty40 h
    subst this
    exact .inl ⟨rfl, by decide +kernel⟩
  · refine .inr ⟨h, by unfold qn quoteP; rw [if_neg h], ?_⟩
    have e : w.cps.toList.length = w.length := by simp [Str.length]
    cases q : w.cps.toList with
    | nil => rw [q] at e; exact absurd e.symm h
    | cons c u => exact ⟨c, u, rfl, let_of hw (q ▸ List.mem_cons_self ..)⟩
/-- the sign that comes is no line's end -/
theorem ph_ne {ws : List Str} {x : Str} {i : Nat} {l : List Nat} {st : Value} {tok : Str} {qd : Bool} (hw : ∀ w ∈ ws, w ∈ W40) (p : Ph ws l st tok qd) (hl : x.cps.toList.drop i = l) : (chAt x i == Str.ofString "\n") = false := by
  have key : ∀ c u, l = c :: u → c ≠ 10 → (chAt x i == Str.ofString "\n") = false := by
    intro c u e hc
    rw [(chAt_cons (hl.trans e)).1]
    refine beq_eq_false_iff_ne.mpr fun q => hc ?_
    have q2 : (#[c] : Array Nat) = #[10] := congrArg Str.cps q
    simpa using q2
  have nil : l = [] → (chAt x i == Str.ofString "\n") = false := fun e => by
    rw [(chAt_nil (hl.trans e)).1]; decide +kernel
  have sep : ∀ r, l = sepc r → (chAt x i == Str.ofString "\n") = false := by
    intro r e
    cases r with
    | nil => exact nil e
    | cons v r => exact key _ _ e (by decide)
  cases p with
  | start w r t =>
    rcases w_cases (hw w (List.mem_cons_self ..)) with ⟨_, e⟩ | ⟨_, e, c, u, e2, hc⟩
    · exact key 39 (39 :: sepc r) (by rw [e]; rfl) (by decide)
    · exact key c (u ++ sepc r) (by rw [e, e2]; rfl) (by omega)
  | word w r t v u hv hu =>
    cases u with
    | nil => exact sep r rfl
    | cons c u => exact key c _ rfl (by have := let_of (hw w (List.mem_cons_self ..)) (c := c) (by rw [hu]; simp); omega)
  | q1 w r t hw0 => exact key _ _ rfl (by decide)
  | q2 w r t hw0 => exact sep r rfl
  | eof => exact nil rfl
end
section
open PySem PySem.W PySem.Spec PySem.Calls PyProof.Rows
local macro_rules | `(tactic| k_get) => `(tactic| with_reducible first
  | exact Lex.instream (by assumption) | exact Lex.posix (by assumption) | exact Lex.eof (by assumption) | exact Lex.commenters (by assumption) | exact Lex.wordchars (by assumption) | exact Lex.whitespace (by assumption)
  | exact Lex.quotes (by assumption) | exact Lex.escape (by assumption) | exact Lex.debug (by assumption) | exact Lex.source (by assumption) | exact Lex.punct (by assumption) | exact Lex.pushback (by assumption)
  | exact Lex.filestack (by assumption) | exact Lex.state (by assumption) | exact Lex.token (by assumption) | exact Lex.noRead (by assumption) | exact Lex.noGet (by assumption))
/-- the reader's frame between two turns -/
noncomputable def RtAt (P : Params) (g : Heap) (L lx dl o d x1 x2 : Addr) (k1 k2 k3 u1 : Tok) (T9 : Nat → Tok) (x : Str) (t : Tok) (led : List Ent) (i : Nat) (es : List DictEntry) (st : Value) (tok : Str) (qd : Bool) (s : Shared) : Prop :=
  ∃ (n : Nat) (u3 tt : Tok) (m : Fm), i ≤ x.length ∧ Lex es T9 o x1 x2 st (.str tok tt) ∧ Fr g L s.heap m ∧ News g L s.heap ((dl, dictOf es n) :: (d, dictOf (sioEs P k1 k2 k3 u1 x t i u3) 3) :: led) ∧
    m (Str.ofString "self") = some (.ref lx) ∧ m (Str.ofString "quoted") = some (.bool qd)
local macro_rules | `(tactic| walk_at "setAttr ref") => `(tactic| (k_here; k_dflt (first
  | (refine' set_state ?l ?F ?X ?N ?m ?U ?_; (case N => k_asm); (case l => assumption); (case m => k_mem); (case U => k_updF); (case F => k_asm); (case X => k_asm); k_whole; intro h' es' n' LX' F' N'; (try dsimp only at N'); (try k_sweep))
  | (refine' set_token ?l ?F ?X ?N ?m ?U ?_; (case N => k_asm); (case l => assumption); (case m => k_mem); (case U => k_updF); (case F => k_asm); (case X => k_asm); k_whole; intro h' es' n' LX' F' N'; (try dsimp only at N'); (try k_sweep)))))
local macro_rules | `(tactic| walk_at "ite") => `(tactic| (k_closed; k_dflt (first | refine ite_pos (by decide +kernel) ?_ | refine ite_neg (by decide +kernel) ?_)))
theorem truthy_some {prog : Program} {w : World} {A : Around} {E : Value → Shared → Prop} {s : Shared} {x : Str} {t : Tok} {Q : Bool → Shared → Prop} (h0 : x.length ≠ 0) (hl : x.length ≤ 1000) (h : Q true { s with toks := s.toks + 1 + 1 }) : wpAny (model prog w) A (truthy (.str x t)) Q E s := by
  refine P.truthy_str (by omega) ?_
  rw [show ((x.length : Int) != 0) = true by simp; omega]
  exact h
local macro_rules | `(tactic| walk_at "truthy str") => `(tactic| (k_here; refine' truthy_some ?a ?b ?_; (case a => with_reducible assumption); (case b => with_reducible assumption)))
noncomputable def isLet (y : Str) : Prop := y = Str.ofString "A" ∨ y = Str.ofString "B" ∨ y = Str.ofString "C"
theorem in_letter {prog : Program} {w : World} {A : Around} {E : Value → Shared → Prop} {s : Shared} {x y : Str} {u t : Tok} {Q : Value → Shared → Prop} (hy : isLet y) (b : Bool)
    (hb : ([Str.ofString "A", Str.ofString "B", Str.ofString "C"].all fun z => (!(Builtin.Str.occurrences x z 0 x.length 1).isEmpty) == b) = true) (h : Q (.bool b) s) : wpAny (model prog w) A (compareOp .In (.str y u) (.str x t)) Q E s := by
  refine in_str ?_
  simp only [List.all_cons, List.all_nil, Bool.and_true, Bool.and_eq_true, beq_iff_eq] at hb
  have e : (!(Builtin.Str.occurrences x y 0 x.length 1).isEmpty) = b := by
    rcases hy with rfl | rfl | rfl
    · exact hb.1
    · exact hb.2.1
    · exact hb.2.2
  rw [e]
  exact h
local macro_rules | `(tactic| walk_at "compareOp In str str") => `(tactic| (k_here; first
  | (refine' in_letter ?h true ?b ?_; (case h => with_reducible assumption); (case b => decide +kernel))
  | (refine' in_letter ?h false ?b ?_; (case h => with_reducible assumption); (case b => decide +kernel))))
theorem let_chAt {x : Str} {i c : Nat} (h : chAt x i = ⟨#[c]⟩) (hc : c = 65 ∨ c = 66 ∨ c = 67) : isLet (chAt x i) ∧ (chAt x i).length ≠ 0 ∧ (chAt x i).length ≤ 1000 := by
  rw [h]
  refine ⟨?_, by simp [Str.length], by simp [Str.length]⟩
  rcases hc with rfl | rfl | rfl
  · exact .inl (by decide +kernel)
  · exact .inr (.inl (by decide +kernel))
  · exact .inr (.inr (by decide +kernel))
noncomputable def RtOut (I : Shared → Prop) (f : Flow) (s : Shared) : Prop := f = .next ∧ I s
local macro_rules | `(tactic| tb_rel) => `(tactic| (first | ((with_reducible show wpAny _ _ (exec (Stmt.If _ _ _ _) _) _ _ _); refine hideS fun Qh hQh => ?_; walk1) | (k_unfold; (try dsimp only)) | (k_end; wrow_close) | walk1 | (dsimp only; walk1) | (leave1; walk_say "STEP leave1"; try dsimp only) | (refine Sub.go (by assumption) ?_; try dsimp only) | fail "no step"))
theorem c_rt : ∀ {w : World} {p : Program} {loose : List Str} {mean : ExcName → Option Value} {mg mb : Str → Option Value}
  {A : Around} {env : Env} {outer : List Env} {A₀ : Around} {base h₀ : Heap} {L : Addr} {m : Fm} {s : Shared} {Q E : Value → Shared → Prop}
  (lx dl o d x1 x2 : Addr) (k1 k2 k3 u1 : Tok) (T9 : Nat → Tok) (x : Str) (t : Tok) (i : Nat) (u3 : Tok) (es : List DictEntry) (n : Nat) (st tv : Value) (led : List Ent) (ws : List Str)
  (B : Below A₀ base outer h₀) (F : Fr h₀ L s.heap m) (X : (KK w.params).In h₀) (N : News h₀ L s.heap ((dl, dictOf es n) :: (d, dictOf (sioEs w.params k1 k2 k3 u1 x t i u3) 3) :: led)) (T : Top p loose mean mg mb h₀) (hh : A.handled = none) (hA : A.frames = some (env :: outer)) (hf : env.frame = some L) (hk : env.scope.kind = .function) (hd : A.depth ≤ 390) (hu : A.units ≤ 3900)
  (hx : x.length ≤ 1000) (hpx : i ≤ x.length) (LX : Lex es T9 o x1 x2 st tv) (hm : (o, instObj 618 d) ∈ led) (hlx : (lx, instObj 753 dl) ∈ led) (hdd : ∀ q ∈ led, q.1 ≠ d) (hdl : ∀ q ∈ led, q.1 ≠ dl) (hne : @Ne Nat dl d)
  (hw : ∀ w ∈ ws, w ∈ W40) (tt : Tok) (ph : Ph ws (x.cps.toList.drop i) st (Str.ofString "") false) (htk : tv = .str (Str.ofString "") tt)
  (ret : ∀ (i' : Nat) es' n' u3' st' tk' r s', i' ≤ x.length → Lex es' T9 o x1 x2 st' (.str (Str.ofString "") tk') → Ok s s' → Fr h₀ L s'.heap m → News h₀ L s'.heap ((dl, dictOf es' n') :: (d, dictOf (sioEs w.params k1 k2 k3 u1 x t i' u3') 3) :: led) →
    (ws = [] → r = .none ∧ st' = .none ∧ x.cps.toList.drop i' = []) → (∀ w r', ws = w :: r' → (∃ t, r = .str w t) ∧ stOf r' st' ∧ x.cps.toList.drop i' = enc r') → Q r s'),
  wpAny (model PySem.Challenge.rw_ik0072_01.row.toRowW.prog w) A (call (.ref 721) [.ref lx]) Q E s := by
  k_fill
  intro w p loose mean mg mb A env outer A₀ base h₀ L m s Q E lx dl o d x1 x2 k1 k2 k3 u1 T9 x t i u3 es n st tv led ws B F X N T hh hA hf hk hd hu hx hpx LX hm hlx hdd hdl hne hw tt ph htk ret
  refine hideG fun PG9 hG9 => ?_
  obtain ⟨ah, dp, fr, gd, un⟩ := A
  refine hG9 ?_
  try clear hG9 PG9
  cases hh
  cases hA
  refine hideG fun PG9 hG9 => ?_
  obtain ⟨cs, lo, gl, cl, qn, fn, ccd, fr, bi⟩ := env
  refine hG9 ?_
  try clear hG9 PG9
  cases hf
  refine hideG fun PG9 hG9 => ?_
  obtain ⟨ck, cnm, cg1, cg2, cmo⟩ := cs
  refine hG9 ?_
  try clear hG9 PG9
  cases hk
  refine topA_mono hd hu ?_
  refine wpAny_call ?_
  k_enter
  repeat' ((fail_if_success (first | (with_reducible show wpAny _ _ (exec (Stmt.While _ _ _ _) _) _ _ _) | (with_reducible show wpAny _ _ (exec (Stmt.For _ _ _ _ _) _) _ _ _) | (with_reducible show wpAny _ _ (exec (Stmt.Assign _ (Expr.ListComp _ _ _ _) _) _) _ _ _) | (with_reducible show wpAny _ _ (eval (Expr.ListComp _ _ _ _) _) _ _ _) | (with_reducible show wpAny _ _ (truthy (Value.ref _)) _ _ _) | (with_reducible show wpAny _ _ (call (Value.ref _) _ _) _ _ _) | (with_reducible show RtOut _ _ _) | (with_reducible show Exists _) | (with_reducible show TurnEnd _ _ _ _ _ _ _ _ _) | (with_reducible show ForSrc _ _ _ _ _ _ _ _ _ _ _))); tb_rel)
  rename_i g' L' h2 FG B' X' T' h5 h6 F' N'
  refine wpAny_mono (Q := RtOut fun s₂ => Ok s s₂ ∧ ∃ i es st tok qd, RtAt w.params g' L' lx dl o d x1 x2 k1 k2 k3 u1 T9 x t led i es st tok qd s₂ ∧ Ed ws (x.cps.toList.drop i) st tok qd) ?loop ?rest (fun _ _ e => e)
  case loop =>
    refine While_op (by first | passes_own | with_unfolding_all passes_own) (fun k s' => Ok s s' ∧ ∃ i es st tok qd, k = (x.cps.toList.drop i).length ∧ RtAt w.params g' L' lx dl o d x1 x2 k1 k2 k3 u1 T9 x t led i es st tok qd s' ∧ Ph ws (x.cps.toList.drop i) st tok qd) ?turn (x.cps.toList.drop i).length ?h0
    case h0 =>
      refine hideG fun PG9 hG9 => ?_
      subst htk
      refine hG9 ?_
      try clear hG9 PG9
      exact ⟨⟨rfl, id⟩, i, es, st, _, false, rfl, ⟨n, u3, tt, _, hpx, LX, F', N', rfl, rfl⟩, ph⟩
    case turn =>
      clear F' N' F N ph LX htk hpx
      intro k s' QB QO E' hE' hB hO hEE hJ99
      refine hideG fun PG9 hG9 => ?_
      obtain ⟨ok, i, es, st, tok, qd, rfl, ⟨n, u3, tt, m', hpx, LX, F', N', hm1, hm2⟩, ph⟩ := hJ99
      obtain ⟨u, rfl⟩ := form2 hm1 hm2
      have hnl := ph_ne hw ph rfl
      refine hG9 ?_
      try clear hG9 PG9
      repeat' ((fail_if_success (first | (with_reducible show wpAny _ _ (exec (Stmt.While _ _ _ _) _) _ _ _) | (with_reducible show wpAny _ _ (exec (Stmt.For _ _ _ _ _) _) _ _ _) | (with_reducible show wpAny _ _ (exec (Stmt.Assign _ (Expr.ListComp _ _ _ _) _) _) _ _ _) | (with_reducible show wpAny _ _ (eval (Expr.ListComp _ _ _ _) _) _ _ _) | (with_reducible show wpAny _ _ (truthy (Value.ref _)) _ _ _) | (with_reducible show wpAny _ _ (call (Value.ref _) _ _) _ _ _) | (with_reducible show RtOut _ _ _) | (with_reducible show Exists _) | (with_reducible show TurnEnd _ _ _ _ _ _ _ _ _) | (with_reducible show ForSrc _ _ _ _ _ _ _ _ _ _ _))); tb_rel)
      rename Fr g' L' _ _ => F5
      rename News g' L' _ _ => N5
      refine c_read o d k1 k2 k3 u1 x t i u3 _ ((dl, dictOf es n) :: led) B' F5 X' (fun p hp => N5 p (by
        rcases List.mem_cons.mp hp with rfl | hp
        · exact List.mem_cons_of_mem _ (List.mem_cons_self ..)
        · rcases List.mem_cons.mp hp with rfl | hp
          · exact List.mem_cons_self ..
          · exact List.mem_cons_of_mem _ (List.mem_cons_of_mem _ hp))) T' rfl rfl rfl rfl (Nat.le_of_ble_eq_true rfl) (Nat.le_of_ble_eq_true rfl) hx hpx (List.mem_cons_of_mem _ hm) (List.forall_mem_cons.mpr ⟨hne, hdd⟩) (fun i' t' u3' h7 tk7 hi F7 N7 => ?_)
      replace N7 : News g' L' h7 ((dl, dictOf es n) :: (d, dictOf (sioEs w.params k1 k2 k3 u1 x t i' u3') 3) :: led) := fun p hp => N7 p (by
        rcases List.mem_cons.mp hp with rfl | hp
        · exact List.mem_cons_of_mem _ (List.mem_cons_self ..)
        · rcases List.mem_cons.mp hp with rfl | hp
          · exact List.mem_cons_self ..
          · exact List.mem_cons_of_mem _ (List.mem_cons_of_mem _ hp))
      clear N5 F5 N' F'
      repeat' ((fail_if_success (first | (with_reducible show wpAny _ _ (exec (Stmt.While _ _ _ _) _) _ _ _) | (with_reducible show wpAny _ _ (exec (Stmt.For _ _ _ _ _) _) _ _ _) | (with_reducible show wpAny _ _ (exec (Stmt.Assign _ (Expr.ListComp _ _ _ _) _) _) _ _ _) | (with_reducible show wpAny _ _ (eval (Expr.ListComp _ _ _ _) _) _ _ _) | (with_reducible show wpAny _ _ (truthy (Value.ref _)) _ _ _) | (with_reducible show wpAny _ _ (call (Value.ref _) _ _) _ _ _) | (with_reducible show RtOut _ _ _) | (with_reducible show Exists _) | (with_reducible show TurnEnd _ _ _ _ _ _ _ _ _) | (with_reducible show ForSrc _ _ _ _ _ _ _ _ _ _ _))); tb_rel)
      generalize hl : x.cps.toList.drop i = l at ph
      have hel : x.cps.toList.length = x.length := by simp [Str.length]
      cases ph with
      | start w r t0 =>
        rcases w_cases (hw w (List.mem_cons_self ..)) with ⟨h0, e⟩ | ⟨h0, e, c, u9, e2, hc⟩
        · rw [e] at hl
          refine hideG fun PG9 hG9 => ?_
          obtain ⟨c1, c2, c3⟩ := chAt_cons (hl)
          rw [if_pos c2] at hi
          subst hi
          refine hG9 ?_
          try clear hG9 PG9
          replace c1 : chAt x i = Str.ofString "'" := c1.trans (by decide +kernel)
          rename Fr g' L' _ _ => F8
          rw [c1] at F8
          repeat' ((fail_if_success (first | (with_reducible show wpAny _ _ (exec (Stmt.While _ _ _ _) _) _ _ _) | (with_reducible show wpAny _ _ (exec (Stmt.For _ _ _ _ _) _) _ _ _) | (with_reducible show wpAny _ _ (exec (Stmt.Assign _ (Expr.ListComp _ _ _ _) _) _) _ _ _) | (with_reducible show wpAny _ _ (eval (Expr.ListComp _ _ _ _) _) _ _ _) | (with_reducible show wpAny _ _ (truthy (Value.ref _)) _ _ _) | (with_reducible show wpAny _ _ (call (Value.ref _) _ _) _ _ _) | (with_reducible show RtOut _ _ _) | (with_reducible show Exists _) | (with_reducible show TurnEnd _ _ _ _ _ _ _ _ _) | (with_reducible show ForSrc _ _ _ _ _ _ _ _ _ _ _))); tb_rel)
          rename Fr g' L' _ _ => F9
          rename News g' L' _ _ => N9
          rename Lex _ _ _ _ _ _ _ => L9
          refine ⟨(x.cps.toList.drop (i + 1)).length, ?_, ⟨ok.os, ok.gens⟩, i + 1, _, _, _, _, rfl, ⟨_, _, _, _, c2, L9, F9, fun p hp => N9 p hp, rfl, rfl⟩, ?_⟩
          · rw [c3, hl]; simp
          · rw [c3]; exact .q1 w r _ h0
        · rw [e, e2] at hl
          refine hideG fun PG9 hG9 => ?_
          obtain ⟨c1, c2, c3⟩ := chAt_cons hl
          rw [if_pos c2] at hi
          subst hi
          obtain ⟨y1, y2, y3⟩ := let_chAt c1 hc
          refine hG9 ?_
          try clear hG9 PG9
          repeat' ((fail_if_success (first | (with_reducible show wpAny _ _ (exec (Stmt.While _ _ _ _) _) _ _ _) | (with_reducible show wpAny _ _ (exec (Stmt.For _ _ _ _ _) _) _ _ _) | (with_reducible show wpAny _ _ (exec (Stmt.Assign _ (Expr.ListComp _ _ _ _) _) _) _ _ _) | (with_reducible show wpAny _ _ (eval (Expr.ListComp _ _ _ _) _) _ _ _) | (with_reducible show wpAny _ _ (truthy (Value.ref _)) _ _ _) | (with_reducible show wpAny _ _ (call (Value.ref _) _ _) _ _ _) | (with_reducible show RtOut _ _ _) | (with_reducible show Exists _) | (with_reducible show TurnEnd _ _ _ _ _ _ _ _ _) | (with_reducible show ForSrc _ _ _ _ _ _ _ _ _ _ _))); tb_rel)
          rename Fr g' L' _ _ => F9
          rename News g' L' _ _ => N9
          rename Lex _ _ _ _ _ _ _ => L9
          refine ⟨(x.cps.toList.drop (i + 1)).length, ?_, ⟨ok.os, ok.gens⟩, i + 1, _, _, _, _, rfl, ⟨_, _, _, _, c2, L9, F9, fun p hp => N9 p hp, rfl, rfl⟩, ?_⟩
          · rw [c3, hl]; simp
          · rw [c3, c1]; exact Ph.word w r _ [c] u9 (by simp) e2
      | word w r t0 v u0 hv hu =>
        have hlw := len_of (hw w (List.mem_cons_self ..))
        have hel9 : w.cps.toList.length = w.length := by simp [Str.length]
        have hvl : v.length ≤ 3 := by rw [hu, List.length_append] at hel9; exact Nat.le_trans (Nat.le_add_right ..) (Nat.le_trans (Nat.le_of_eq hel9) hlw)
        have hv0 : 0 < v.length := List.length_pos_iff.mpr hv
        have hvs : (⟨v.toArray⟩ : Str).length = v.length := by simp [Str.length]
        have hvt : (⟨v.toArray⟩ : Str).length ≠ 0 := hvs ▸ Nat.ne_of_gt hv0
        have hvm : (⟨v.toArray⟩ : Str).length ≤ 1000 := lee hvs hvl rfl
        cases u0 with
        | nil =>
          have ew : (⟨v.toArray⟩ : Str) = w := by
            rw [List.append_nil] at hu
            exact Str.ext' (by rw [← Array.toArray_toList (xs := w.cps), hu])
          have hwn : w.length ≠ 0 := by rw [← ew, hvs]; exact Nat.ne_of_gt hv0
          cases r with
          | nil =>
            rw [List.nil_append] at hl
            refine hideG fun PG9 hG9 => ?_
            obtain ⟨c1, c2⟩ := chAt_nil (hl)
            rw [if_neg c2] at hi
            subst hi
            refine hG9 ?_
            try clear hG9 PG9
            rename Fr g' L' _ _ => F8
            rw [c1] at F8
            repeat' ((fail_if_success (first | (with_reducible show wpAny _ _ (exec (Stmt.While _ _ _ _) _) _ _ _) | (with_reducible show wpAny _ _ (exec (Stmt.For _ _ _ _ _) _) _ _ _) | (with_reducible show wpAny _ _ (exec (Stmt.Assign _ (Expr.ListComp _ _ _ _) _) _) _ _ _) | (with_reducible show wpAny _ _ (eval (Expr.ListComp _ _ _ _) _) _ _ _) | (with_reducible show wpAny _ _ (truthy (Value.ref _)) _ _ _) | (with_reducible show wpAny _ _ (call (Value.ref _) _ _) _ _ _) | (with_reducible show RtOut _ _ _) | (with_reducible show Exists _) | (with_reducible show TurnEnd _ _ _ _ _ _ _ _ _) | (with_reducible show ForSrc _ _ _ _ _ _ _ _ _ _ _))); tb_rel)
            rename Fr g' L' _ _ => F9
            rename News g' L' _ _ => N9
            rename Lex _ _ _ _ _ _ _ => L9
            refine ⟨rfl, ⟨ok.os, ok.gens⟩, i', _, _, _, _, ⟨_, _, _, _, hpx, L9, F9, fun p hp => N9 p (List.mem_cons_of_mem _ hp), rfl, rfl⟩, ?_⟩
            rw [hl, ew]; exact Ed.word w [] _ rfl hwn
          | cons v9 r9 =>
            rw [List.nil_append] at hl
            refine hideG fun PG9 hG9 => ?_
            obtain ⟨c1, c2, c3⟩ := chAt_cons (hl)
            rw [if_pos c2] at hi
            subst hi
            refine hG9 ?_
            try clear hG9 PG9
            replace c1 : chAt x i = Str.ofString " " := c1.trans (by decide +kernel)
            rename Fr g' L' _ _ => F8
            rw [c1] at F8
            repeat' ((fail_if_success (first | (with_reducible show wpAny _ _ (exec (Stmt.While _ _ _ _) _) _ _ _) | (with_reducible show wpAny _ _ (exec (Stmt.For _ _ _ _ _) _) _ _ _) | (with_reducible show wpAny _ _ (exec (Stmt.Assign _ (Expr.ListComp _ _ _ _) _) _) _ _ _) | (with_reducible show wpAny _ _ (eval (Expr.ListComp _ _ _ _) _) _ _ _) | (with_reducible show wpAny _ _ (truthy (Value.ref _)) _ _ _) | (with_reducible show wpAny _ _ (call (Value.ref _) _ _) _ _ _) | (with_reducible show RtOut _ _ _) | (with_reducible show Exists _) | (with_reducible show TurnEnd _ _ _ _ _ _ _ _ _) | (with_reducible show ForSrc _ _ _ _ _ _ _ _ _ _ _))); tb_rel)
            rename Fr g' L' _ _ => F9
            rename News g' L' _ _ => N9
            rename Lex _ _ _ _ _ _ _ => L9
            refine ⟨rfl, ⟨ok.os, ok.gens⟩, i + 1, _, _, _, _, ⟨_, _, _, _, c2, L9, F9, fun p hp => N9 p (List.mem_cons_of_mem _ hp), rfl, rfl⟩, ?_⟩
            rw [c3, ew]; exact Ed.word w (v9 :: r9) _ ⟨_, rfl⟩ hwn
        | cons c u1 =>
          have hc := let_of (hw w (List.mem_cons_self ..)) (c := c) (by rw [hu]; simp)
          rw [List.cons_append] at hl
          refine hideG fun PG9 hG9 => ?_
          obtain ⟨c1, c2, c3⟩ := chAt_cons hl
          rw [if_pos c2] at hi
          subst hi
          obtain ⟨y1, y2, y3⟩ := let_chAt c1 hc
          refine hG9 ?_
          try clear hG9 PG9
          repeat' ((fail_if_success (first | (with_reducible show wpAny _ _ (exec (Stmt.While _ _ _ _) _) _ _ _) | (with_reducible show wpAny _ _ (exec (Stmt.For _ _ _ _ _) _) _ _ _) | (with_reducible show wpAny _ _ (exec (Stmt.Assign _ (Expr.ListComp _ _ _ _) _) _) _ _ _) | (with_reducible show wpAny _ _ (eval (Expr.ListComp _ _ _ _) _) _ _ _) | (with_reducible show wpAny _ _ (truthy (Value.ref _)) _ _ _) | (with_reducible show wpAny _ _ (call (Value.ref _) _ _) _ _ _) | (with_reducible show RtOut _ _ _) | (with_reducible show Exists _) | (with_reducible show TurnEnd _ _ _ _ _ _ _ _ _) | (with_reducible show ForSrc _ _ _ _ _ _ _ _ _ _ _))); tb_rel)
          rename Fr g' L' _ _ => F9
          rename News g' L' _ _ => N9
          rename Lex _ _ _ _ _ _ _ => L9
          refine ⟨(x.cps.toList.drop (i + 1)).length, ?_, ⟨ok.os, ok.gens⟩, i + 1, _, _, _, _, rfl, ⟨_, _, _, _, c2, L9, F9, fun p hp => N9 p (List.mem_cons_of_mem _ hp), rfl, rfl⟩, ?_⟩
          · rw [c3, hl]; simp
          · rw [c3, c1]
            have := Ph.word w r t0 (v ++ [c]) u1 (by simp) (by rw [hu]; simp)
            refine Eq.mp (congrArg (fun z => Ph _ _ _ z _) ?_) this
            exact Str.ext' (by simp [Str.cps_append])
      | q1 w r t0 h0 =>
        refine hideG fun PG9 hG9 => ?_
        obtain ⟨c1, c2, c3⟩ := chAt_cons (hl)
        rw [if_pos c2] at hi
        subst hi
        refine hG9 ?_
        try clear hG9 PG9
        replace c1 : chAt x i = Str.ofString "'" := c1.trans (by decide +kernel)
        rename Fr g' L' _ _ => F8
        rw [c1] at F8
        repeat' ((fail_if_success (first | (with_reducible show wpAny _ _ (exec (Stmt.While _ _ _ _) _) _ _ _) | (with_reducible show wpAny _ _ (exec (Stmt.For _ _ _ _ _) _) _ _ _) | (with_reducible show wpAny _ _ (exec (Stmt.Assign _ (Expr.ListComp _ _ _ _) _) _) _ _ _) | (with_reducible show wpAny _ _ (eval (Expr.ListComp _ _ _ _) _) _ _ _) | (with_reducible show wpAny _ _ (truthy (Value.ref _)) _ _ _) | (with_reducible show wpAny _ _ (call (Value.ref _) _ _) _ _ _) | (with_reducible show RtOut _ _ _) | (with_reducible show Exists _) | (with_reducible show TurnEnd _ _ _ _ _ _ _ _ _) | (with_reducible show ForSrc _ _ _ _ _ _ _ _ _ _ _))); tb_rel)
        rename Fr g' L' _ _ => F9
        rename News g' L' _ _ => N9
        rename Lex _ _ _ _ _ _ _ => L9
        refine ⟨(x.cps.toList.drop (i + 1)).length, ?_, ⟨ok.os, ok.gens⟩, i + 1, _, _, _, _, rfl, ⟨_, _, _, _, c2, L9, F9, fun p hp => N9 p hp, rfl, rfl⟩, ?_⟩
        · rw [c3, hl]; simp
        · rw [c3]; exact .q2 w r _ h0
      | q2 w r t0 h0 =>
        cases r with
        | nil =>
          refine hideG fun PG9 hG9 => ?_
          obtain ⟨c1, c2⟩ := chAt_nil (hl)
          rw [if_neg c2] at hi
          subst hi
          refine hG9 ?_
          try clear hG9 PG9
          rename Fr g' L' _ _ => F8
          rw [c1] at F8
          repeat' ((fail_if_success (first | (with_reducible show wpAny _ _ (exec (Stmt.While _ _ _ _) _) _ _ _) | (with_reducible show wpAny _ _ (exec (Stmt.For _ _ _ _ _) _) _ _ _) | (with_reducible show wpAny _ _ (exec (Stmt.Assign _ (Expr.ListComp _ _ _ _) _) _) _ _ _) | (with_reducible show wpAny _ _ (eval (Expr.ListComp _ _ _ _) _) _ _ _) | (with_reducible show wpAny _ _ (truthy (Value.ref _)) _ _ _) | (with_reducible show wpAny _ _ (call (Value.ref _) _ _) _ _ _) | (with_reducible show RtOut _ _ _) | (with_reducible show Exists _) | (with_reducible show TurnEnd _ _ _ _ _ _ _ _ _) | (with_reducible show ForSrc _ _ _ _ _ _ _ _ _ _ _))); tb_rel)
          rename Fr g' L' _ _ => F9
          rename News g' L' _ _ => N9
          rename Lex _ _ _ _ _ _ _ => L9
          refine ⟨rfl, ⟨ok.os, ok.gens⟩, i', _, _, _, _, ⟨_, _, _, _, hpx, L9, F9, fun p hp => N9 p (List.mem_cons_of_mem _ hp), rfl, rfl⟩, ?_⟩
          rw [hl]; exact Ed.quo w [] _ rfl h0
        | cons v9 r9 =>
          refine hideG fun PG9 hG9 => ?_
          obtain ⟨c1, c2, c3⟩ := chAt_cons (hl)
          rw [if_pos c2] at hi
          subst hi
          refine hG9 ?_
          try clear hG9 PG9
          replace c1 : chAt x i = Str.ofString " " := c1.trans (by decide +kernel)
          rename Fr g' L' _ _ => F8
          rw [c1] at F8
          repeat' ((fail_if_success (first | (with_reducible show wpAny _ _ (exec (Stmt.While _ _ _ _) _) _ _ _) | (with_reducible show wpAny _ _ (exec (Stmt.For _ _ _ _ _) _) _ _ _) | (with_reducible show wpAny _ _ (exec (Stmt.Assign _ (Expr.ListComp _ _ _ _) _) _) _ _ _) | (with_reducible show wpAny _ _ (eval (Expr.ListComp _ _ _ _) _) _ _ _) | (with_reducible show wpAny _ _ (truthy (Value.ref _)) _ _ _) | (with_reducible show wpAny _ _ (call (Value.ref _) _ _) _ _ _) | (with_reducible show RtOut _ _ _) | (with_reducible show Exists _) | (with_reducible show TurnEnd _ _ _ _ _ _ _ _ _) | (with_reducible show ForSrc _ _ _ _ _ _ _ _ _ _ _))); tb_rel)
          rename Fr g' L' _ _ => F9
          rename News g' L' _ _ => N9
          rename Lex _ _ _ _ _ _ _ => L9
          refine ⟨rfl, ⟨ok.os, ok.gens⟩, i + 1, _, _, _, _, ⟨_, _, _, _, c2, L9, F9, fun p hp => N9 p (List.mem_cons_of_mem _ hp), rfl, rfl⟩, ?_⟩
          rw [c3]; exact Ed.quo w (v9 :: r9) _ ⟨_, rfl⟩ h0
      | eof =>
        refine hideG fun PG9 hG9 => ?_
        obtain ⟨c1, c2⟩ := chAt_nil (hl)
        rw [if_neg c2] at hi
        subst hi
        refine hG9 ?_
        try clear hG9 PG9
        rename Fr g' L' _ _ => F8
        rw [c1] at F8
        repeat' ((fail_if_success (first | (with_reducible show wpAny _ _ (exec (Stmt.While _ _ _ _) _) _ _ _) | (with_reducible show wpAny _ _ (exec (Stmt.For _ _ _ _ _) _) _ _ _) | (with_reducible show wpAny _ _ (exec (Stmt.Assign _ (Expr.ListComp _ _ _ _) _) _) _ _ _) | (with_reducible show wpAny _ _ (eval (Expr.ListComp _ _ _ _) _) _ _ _) | (with_reducible show wpAny _ _ (truthy (Value.ref _)) _ _ _) | (with_reducible show wpAny _ _ (call (Value.ref _) _ _) _ _ _) | (with_reducible show RtOut _ _ _) | (with_reducible show Exists _) | (with_reducible show TurnEnd _ _ _ _ _ _ _ _ _) | (with_reducible show ForSrc _ _ _ _ _ _ _ _ _ _ _))); tb_rel)
        rename Fr g' L' _ _ => F9
        rename News g' L' _ _ => N9
        rename Lex _ _ _ _ _ _ _ => L9
        refine ⟨rfl, ⟨ok.os, ok.gens⟩, i', _, _, _, _, ⟨_, _, _, _, hpx, L9, F9, fun p hp => N9 p hp, rfl, rfl⟩, ?_⟩
        rw [hl]; exact Ed.eof
  case rest =>
    clear F' N' F N ph LX htk hpx
    intro f s₂ hJ92
    refine hideG fun PG9 hG9 => ?_
    obtain ⟨rfl, ok, i', es', st', tok', qd', ⟨n', u3', tt', m', hpx', LX', F', N', hm1, hm2⟩, ed⟩ := hJ92
    obtain ⟨u, rfl⟩ := form2 hm1 hm2
    refine hG9 ?_
    try clear hG9 PG9
    generalize hl : x.cps.toList.drop i' = l at ed
    cases ed with
    | word w r st hst hwl =>
      have hwe : (tok' == Str.ofString "") = false := beq_eq_false_iff_ne.mpr fun q => hwl (by rw [q]; rfl)
      dsimp only
      refine hide fun Q1 E1 hQ1 hE1 => ?_
      repeat' ((fail_if_success (first | (with_reducible show wpAny _ _ (exec (Stmt.While _ _ _ _) _) _ _ _) | (with_reducible show wpAny _ _ (exec (Stmt.For _ _ _ _ _) _) _ _ _) | (with_reducible show wpAny _ _ (exec (Stmt.Assign _ (Expr.ListComp _ _ _ _) _) _) _ _ _) | (with_reducible show wpAny _ _ (eval (Expr.ListComp _ _ _ _) _) _ _ _) | (with_reducible show wpAny _ _ (truthy (Value.ref _)) _ _ _) | (with_reducible show wpAny _ _ (call (Value.ref _) _ _) _ _ _) | (with_reducible show RtOut _ _ _) | (with_reducible show Exists _) | (with_reducible show TurnEnd _ _ _ _ _ _ _ _ _) | (with_reducible show ForSrc _ _ _ _ _ _ _ _ _ _ _))); tb_rel)
      repeat' ((fail_if_success (first | (with_reducible show wpAny _ _ (exec (Stmt.While _ _ _ _) _) _ _ _) | (with_reducible show wpAny _ _ (exec (Stmt.For _ _ _ _ _) _) _ _ _) | (with_reducible show wpAny _ _ (exec (Stmt.Assign _ (Expr.ListComp _ _ _ _) _) _) _ _ _) | (with_reducible show wpAny _ _ (eval (Expr.ListComp _ _ _ _) _) _ _ _) | (with_reducible show wpAny _ _ (truthy (Value.ref _)) _ _ _) | (with_reducible show wpAny _ _ (call (Value.ref _) _ _) _ _ _) | (with_reducible show RtOut _ _ _) | (with_reducible show Exists _) | (with_reducible show TurnEnd _ _ _ _ _ _ _ _ _) | (with_reducible show ForSrc _ _ _ _ _ _ _ _ _ _ _))); tb_rel)
      rename Fr h₀ L _ m => F9
      rename News h₀ L _ _ => N9
      rename Lex _ _ _ _ _ _ _ => L9
      refine ret i' _ _ _ _ _ _ _ hpx' L9 ⟨ok.os, ok.gens⟩ F9 (fun p hp => N9 p hp) (fun e => nomatch e) (fun w' r' e => by cases e; exact ⟨⟨_, rfl⟩, hst, hl⟩)
    | quo w r st hst hwl =>
      refine hideG fun PG9 hG9 => ?_
      subst hwl
      refine hG9 ?_
      try clear hG9 PG9
      dsimp only
      refine hide fun Q1 E1 hQ1 hE1 => ?_
      repeat' ((fail_if_success (first | (with_reducible show wpAny _ _ (exec (Stmt.While _ _ _ _) _) _ _ _) | (with_reducible show wpAny _ _ (exec (Stmt.For _ _ _ _ _) _) _ _ _) | (with_reducible show wpAny _ _ (exec (Stmt.Assign _ (Expr.ListComp _ _ _ _) _) _) _ _ _) | (with_reducible show wpAny _ _ (eval (Expr.ListComp _ _ _ _) _) _ _ _) | (with_reducible show wpAny _ _ (truthy (Value.ref _)) _ _ _) | (with_reducible show wpAny _ _ (call (Value.ref _) _ _) _ _ _) | (with_reducible show RtOut _ _ _) | (with_reducible show Exists _) | (with_reducible show TurnEnd _ _ _ _ _ _ _ _ _) | (with_reducible show ForSrc _ _ _ _ _ _ _ _ _ _ _))); tb_rel)
      repeat' ((fail_if_success (first | (with_reducible show wpAny _ _ (exec (Stmt.While _ _ _ _) _) _ _ _) | (with_reducible show wpAny _ _ (exec (Stmt.For _ _ _ _ _) _) _ _ _) | (with_reducible show wpAny _ _ (exec (Stmt.Assign _ (Expr.ListComp _ _ _ _) _) _) _ _ _) | (with_reducible show wpAny _ _ (eval (Expr.ListComp _ _ _ _) _) _ _ _) | (with_reducible show wpAny _ _ (truthy (Value.ref _)) _ _ _) | (with_reducible show wpAny _ _ (call (Value.ref _) _ _) _ _ _) | (with_reducible show RtOut _ _ _) | (with_reducible show Exists _) | (with_reducible show TurnEnd _ _ _ _ _ _ _ _ _) | (with_reducible show ForSrc _ _ _ _ _ _ _ _ _ _ _))); tb_rel)
      rename Fr h₀ L _ m => F9
      rename News h₀ L _ _ => N9
      rename Lex _ _ _ _ _ _ _ => L9
      refine ret i' _ _ _ _ _ _ _ hpx' L9 ⟨ok.os, ok.gens⟩ F9 (fun p hp => N9 p hp) (fun e => nomatch e) (fun w' r' e => by cases e; exact ⟨⟨_, rfl⟩, hst, hl⟩)
    | eof =>
      dsimp only
      refine hide fun Q1 E1 hQ1 hE1 => ?_
      repeat' ((fail_if_success (first | (with_reducible show wpAny _ _ (exec (Stmt.While _ _ _ _) _) _ _ _) | (with_reducible show wpAny _ _ (exec (Stmt.For _ _ _ _ _) _) _ _ _) | (with_reducible show wpAny _ _ (exec (Stmt.Assign _ (Expr.ListComp _ _ _ _) _) _) _ _ _) | (with_reducible show wpAny _ _ (eval (Expr.ListComp _ _ _ _) _) _ _ _) | (with_reducible show wpAny _ _ (truthy (Value.ref _)) _ _ _) | (with_reducible show wpAny _ _ (call (Value.ref _) _ _) _ _ _) | (with_reducible show RtOut _ _ _) | (with_reducible show Exists _) | (with_reducible show TurnEnd _ _ _ _ _ _ _ _ _) | (with_reducible show ForSrc _ _ _ _ _ _ _ _ _ _ _))); tb_rel)
      repeat' ((fail_if_success (first | (with_reducible show wpAny _ _ (exec (Stmt.While _ _ _ _) _) _ _ _) | (with_reducible show wpAny _ _ (exec (Stmt.For _ _ _ _ _) _) _ _ _) | (with_reducible show wpAny _ _ (exec (Stmt.Assign _ (Expr.ListComp _ _ _ _) _) _) _ _ _) | (with_reducible show wpAny _ _ (eval (Expr.ListComp _ _ _ _) _) _ _ _) | (with_reducible show wpAny _ _ (truthy (Value.ref _)) _ _ _) | (with_reducible show wpAny _ _ (call (Value.ref _) _ _) _ _ _) | (with_reducible show RtOut _ _ _) | (with_reducible show Exists _) | (with_reducible show TurnEnd _ _ _ _ _ _ _ _ _) | (with_reducible show ForSrc _ _ _ _ _ _ _ _ _ _ _))); tb_rel)
      rename Fr h₀ L _ m => F9
      rename News h₀ L _ _ => N9
      rename Lex _ _ _ _ _ _ _ => L9
      refine ret i' _ _ _ _ _ _ _ hpx' L9 ⟨ok.os, ok.gens⟩ F9 (fun p hp => N9 p hp) (fun _ => ⟨rfl, rfl, hl⟩) (fun w' r' e => nomatch e)
end
section
open PySem PySem.W PySem.Spec PySem.Calls PyProof.Rows
local macro_rules | `(tactic| k_get) => `(tactic| with_reducible first
  | exact Lex.instream (by assumption) | exact Lex.posix (by assumption) | exact Lex.eof (by assumption) | exact Lex.commenters (by assumption) | exact Lex.wordchars (by assumption) | exact Lex.whitespace (by assumption)
  | exact Lex.quotes (by assumption) | exact Lex.escape (by assumption) | exact Lex.debug (by assumption) | exact Lex.source (by assumption) | exact Lex.punct (by assumption) | exact Lex.pushback (by assumption)
  | exact Lex.filestack (by assumption) | exact Lex.state (by assumption) | exact Lex.token (by assumption) | exact Lex.noRead (by assumption) | exact Lex.noGet (by assumption))
local macro_rules | `(tactic| walk_at "ite") => `(tactic| (k_closed; k_dflt (first | refine ite_pos (by decide +kernel) ?_ | refine ite_neg (by decide +kernel) ?_)))
local macro_rules | `(tactic| walk_at "truthy ref") => `(tactic| (k_here; (with_reducible show wpAny _ _ (truthy (Value.ref _)) _ _ _); k_dflt (refine' truthy_deque (News.get ?N ?m) ?_; (case N => k_asm); (case m => k_mem))))
theorem While_once {prog : Program} {w : World} {A : Around} {E : Value → Shared → Prop} {s : Shared} {env : Env} {Q : Flow → Shared → Prop} {test : PySem.Expr} {body orelse : List Stmt} {pos : Pos} (hE : PassesOwn (model prog w) A env E)
    (h : wpAny (model prog w) A (isTrue test env (eval test env)) (fun b s₂ =>
        if b then wpAny (model prog w) A (execs body env) (fun f s₃ => match f with
            | .next | .cont => False
            | .brk => Q .next s₃
            | .ret v => Q (.ret v) s₃) E s₂
        else wpAny (model prog w) A (execs orelse env) Q E s₂) E s) :
    wpAny (model prog w) A (exec (.While test body orelse pos) env) Q E s :=
  While_own hE (fun _ s' => s' = s) (fun n s' e => by
    subst e
    refine wpAny_mono h (fun b s₂ h₂ => ?_) fun _ _ e => e
    cases b with
    | false => exact h₂
    | true =>
      refine wpAny_mono h₂ (fun f s₃ h₃ => ?_) fun _ _ e => e
      cases f with
      | next => exact h₃.elim
      | cont => exact h₃.elim
      | brk => exact h₃
      | ret v => exact h₃) 0 rfl
theorem c_gt : ∀ {w : World} {p : Program} {loose : List Str} {mean : ExcName → Option Value} {mg mb : Str → Option Value}
  {A : Around} {env : Env} {outer : List Env} {A₀ : Around} {base h₀ : Heap} {L : Addr} {m : Fm} {s : Shared} {Q E : Value → Shared → Prop}
  (lx dl o d x1 x2 : Addr) (k1 k2 k3 u1 : Tok) (T9 : Nat → Tok) (x : Str) (t : Tok) (i : Nat) (u3 : Tok) (es : List DictEntry) (n : Nat) (st tv : Value) (led : List Ent) (ws : List Str)
  (B : Below A₀ base outer h₀) (F : Fr h₀ L s.heap m) (X : (KK w.params).In h₀) (N : News h₀ L s.heap ((dl, dictOf es n) :: (d, dictOf (sioEs w.params k1 k2 k3 u1 x t i u3) 3) :: led)) (T : Top p loose mean mg mb h₀) (hh : A.handled = none) (hA : A.frames = some (env :: outer)) (hf : env.frame = some L) (hk : env.scope.kind = .function) (hd : A.depth ≤ 380) (hu : A.units ≤ 3800)
  (hx : x.length ≤ 1000) (hpx : i ≤ x.length) (LX : Lex es T9 o x1 x2 st tv) (hm : (o, instObj 618 d) ∈ led) (hlx : (lx, instObj 753 dl) ∈ led) (h1 : (x1, dequeObj) ∈ led) (h2 : (x2, dequeObj) ∈ led) (hdd : ∀ q ∈ led, q.1 ≠ d) (hdl : ∀ q ∈ led, q.1 ≠ dl) (hne : @Ne Nat dl d)
  (hw : ∀ w ∈ ws, w ∈ W40) (tt : Tok) (ph : Ph ws (x.cps.toList.drop i) st (Str.ofString "") false) (htk : tv = .str (Str.ofString "") tt)
  (ret : ∀ (i' : Nat) es' n' u3' st' tk' r s', i' ≤ x.length → Lex es' T9 o x1 x2 st' (.str (Str.ofString "") tk') → Ok s s' → Fr h₀ L s'.heap m → News h₀ L s'.heap ((dl, dictOf es' n') :: (d, dictOf (sioEs w.params k1 k2 k3 u1 x t i' u3') 3) :: led) →
    (ws = [] → r = .none ∧ st' = .none ∧ x.cps.toList.drop i' = []) → (∀ w r', ws = w :: r' → (∃ t, r = .str w t) ∧ stOf r' st' ∧ x.cps.toList.drop i' = enc r') → Q r s'),
  wpAny (model PySem.Challenge.rw_ik0072_01.row.toRowW.prog w) A (call (.ref 714) [.ref lx]) Q E s := by
  k_fill
  intro w p loose mean mg mb A env outer A₀ base h₀ L m s Q E lx dl o d x1 x2 k1 k2 k3 u1 T9 x t i u3 es n st tv led ws B F X N T hh hA hf hk hd hu hx hpx LX hm hlx h1 h2 hdd hdl hne hw tt ph htk ret
  obtain ⟨ah, dp, fr, gd, un⟩ := A
  cases hh
  cases hA
  obtain ⟨cs, lo, gl, cl, qn, fn, ccd, fr, bi⟩ := env
  cases hf
  obtain ⟨ck, cnm, cg1, cg2, cmo⟩ := cs
  cases hk
  refine topA_mono hd hu ?_
  refine wpAny_call ?_
  k_enter
  repeat' ((fail_if_success (first | (with_reducible show wpAny _ _ (exec (Stmt.While _ _ _ _) _) _ _ _) | (with_reducible show wpAny _ _ (exec (Stmt.For _ _ _ _ _) _) _ _ _) | (with_reducible show wpAny _ _ (exec (Stmt.Assign _ (Expr.ListComp _ _ _ _) _) _) _ _ _) | (with_reducible show wpAny _ _ (eval (Expr.ListComp _ _ _ _) _) _ _ _) | (with_reducible show wpAny _ _ (call (Value.ref _) _ _) _ _ _) | (with_reducible show Exists _) | (with_reducible show TurnEnd _ _ _ _ _ _ _ _ _) | (with_reducible show ForSrc _ _ _ _ _ _ _ _ _ _ _))); tb_rel)
  rename Frag.In _ _ => X'
  rename Fr _ _ _ _ => F'
  rename News _ _ _ _ => N'
  rename Below _ _ _ _ => B'
  rename Top _ _ _ _ _ _ => T'
  refine c_rt lx dl o d x1 x2 k1 k2 k3 u1 T9 x t i u3 es n st tv led ws B' F' X' N' T' rfl rfl rfl rfl (Nat.le_of_ble_eq_true rfl) (Nat.le_of_ble_eq_true rfl) hx hpx LX hm hlx hdd hdl hne hw tt ph htk (fun i' es' n' u3' st' tk' r s' hi' LX' ok F6 N6 r1 r2 => ?_)
  clear F' N'
  cases ws with
  | nil =>
    obtain ⟨rfl, e2, e3⟩ := r1 rfl
    repeat' ((fail_if_success (first | (with_reducible show wpAny _ _ (exec (Stmt.While _ _ _ _) _) _ _ _) | (with_reducible show wpAny _ _ (exec (Stmt.For _ _ _ _ _) _) _ _ _) | (with_reducible show wpAny _ _ (exec (Stmt.Assign _ (Expr.ListComp _ _ _ _) _) _) _ _ _) | (with_reducible show wpAny _ _ (eval (Expr.ListComp _ _ _ _) _) _ _ _) | (with_reducible show wpAny _ _ (call (Value.ref _) _ _) _ _ _) | (with_reducible show Exists _) | (with_reducible show TurnEnd _ _ _ _ _ _ _ _ _) | (with_reducible show ForSrc _ _ _ _ _ _ _ _ _ _ _))); tb_rel)
    refine While_once (by first | passes_own | with_unfolding_all passes_own) ?_
    repeat' ((fail_if_success (first | (with_reducible show wpAny _ _ (exec (Stmt.While _ _ _ _) _) _ _ _) | (with_reducible show wpAny _ _ (exec (Stmt.For _ _ _ _ _) _) _ _ _) | (with_reducible show wpAny _ _ (exec (Stmt.Assign _ (Expr.ListComp _ _ _ _) _) _) _ _ _) | (with_reducible show wpAny _ _ (eval (Expr.ListComp _ _ _ _) _) _ _ _) | (with_reducible show wpAny _ _ (call (Value.ref _) _ _) _ _ _) | (with_reducible show Exists _) | (with_reducible show TurnEnd _ _ _ _ _ _ _ _ _) | (with_reducible show ForSrc _ _ _ _ _ _ _ _ _ _ _))); tb_rel)
    rename Fr h₀ L _ m => F9
    rename News h₀ L _ _ => N9
    exact ret i' _ _ _ _ _ _ _ hi' LX' ⟨ok.os, ok.gens⟩ F9 N9 (fun _ => ⟨rfl, e2, e3⟩) (fun _ _ e => nomatch e)
  | cons w9 ws =>
    obtain ⟨⟨t9, rfl⟩, e2, e3⟩ := r2 _ _ rfl
    repeat' ((fail_if_success (first | (with_reducible show wpAny _ _ (exec (Stmt.While _ _ _ _) _) _ _ _) | (with_reducible show wpAny _ _ (exec (Stmt.For _ _ _ _ _) _) _ _ _) | (with_reducible show wpAny _ _ (exec (Stmt.Assign _ (Expr.ListComp _ _ _ _) _) _) _ _ _) | (with_reducible show wpAny _ _ (eval (Expr.ListComp _ _ _ _) _) _ _ _) | (with_reducible show wpAny _ _ (call (Value.ref _) _ _) _ _ _) | (with_reducible show Exists _) | (with_reducible show TurnEnd _ _ _ _ _ _ _ _ _) | (with_reducible show ForSrc _ _ _ _ _ _ _ _ _ _ _))); tb_rel)
    refine While_once (by first | passes_own | with_unfolding_all passes_own) ?_
    repeat' ((fail_if_success (first | (with_reducible show wpAny _ _ (exec (Stmt.While _ _ _ _) _) _ _ _) | (with_reducible show wpAny _ _ (exec (Stmt.For _ _ _ _ _) _) _ _ _) | (with_reducible show wpAny _ _ (exec (Stmt.Assign _ (Expr.ListComp _ _ _ _) _) _) _ _ _) | (with_reducible show wpAny _ _ (eval (Expr.ListComp _ _ _ _) _) _ _ _) | (with_reducible show wpAny _ _ (call (Value.ref _) _ _) _ _ _) | (with_reducible show Exists _) | (with_reducible show TurnEnd _ _ _ _ _ _ _ _ _) | (with_reducible show ForSrc _ _ _ _ _ _ _ _ _ _ _))); tb_rel)
    rename Fr h₀ L _ m => F9
    rename News h₀ L _ _ => N9
    exact ret i' _ _ _ _ _ _ _ hi' LX' ⟨ok.os, ok.gens⟩ F9 N9 (fun e => nomatch e) (fun w' r' e => by cases e; exact ⟨⟨_, rfl⟩, e2, e3⟩)
end
section
open PySem PySem.W PySem.Spec PySem.Calls PyProof.Rows
local macro_rules | `(tactic| k_get) => `(tactic| with_reducible first
  | exact Lex.instream (by assumption) | exact Lex.posix (by assumption) | exact Lex.eof (by assumption) | exact Lex.commenters (by assumption) | exact Lex.wordchars (by assumption) | exact Lex.whitespace (by assumption)
  | exact Lex.quotes (by assumption) | exact Lex.escape (by assumption) | exact Lex.debug (by assumption) | exact Lex.source (by assumption) | exact Lex.punct (by assumption) | exact Lex.pushback (by assumption)
  | exact Lex.filestack (by assumption) | exact Lex.state (by assumption) | exact Lex.token (by assumption) | exact Lex.noRead (by assumption) | exact Lex.noGet (by assumption))
local macro_rules | `(tactic| walk_at "ite") => `(tactic| (k_closed; k_dflt (first | refine ite_pos (by decide +kernel) ?_ | refine ite_neg (by decide +kernel) ?_)))
local macro_rules | `(tactic| walk_at "truthy ref") => `(tactic| (k_here; (with_reducible show wpAny _ _ (truthy (Value.ref _)) _ _ _); k_dflt (refine' truthy_deque (News.get ?N ?m) ?_; (case N => k_asm); (case m => k_mem))))
theorem c_nx : ∀ {w : World} {p : Program} {loose : List Str} {mean : ExcName → Option Value} {mg mb : Str → Option Value}
  {A : Around} {env : Env} {outer : List Env} {A₀ : Around} {base h₀ : Heap} {L : Addr} {m : Fm} {s : Shared} {Q E : Value → Shared → Prop}
  (lx dl o d x1 x2 : Addr) (k1 k2 k3 u1 : Tok) (T9 : Nat → Tok) (x : Str) (t : Tok) (i : Nat) (u3 : Tok) (es : List DictEntry) (n : Nat) (st tv : Value) (led : List Ent) (ws : List Str)
  (B : Below A₀ base outer h₀) (F : Fr h₀ L s.heap m) (X : (KK w.params).In h₀) (N : News h₀ L s.heap ((dl, dictOf es n) :: (d, dictOf (sioEs w.params k1 k2 k3 u1 x t i u3) 3) :: led)) (T : Top p loose mean mg mb h₀) (hh : A.handled = none) (hA : A.frames = some (env :: outer)) (hf : env.frame = some L) (hk : env.scope.kind = .function) (hd : A.depth ≤ 370) (hu : A.units ≤ 3700)
  (hx : x.length ≤ 1000) (hpx : i ≤ x.length) (LX : Lex es T9 o x1 x2 st tv) (hm : (o, instObj 618 d) ∈ led) (hlx : (lx, instObj 753 dl) ∈ led) (h1 : (x1, dequeObj) ∈ led) (h2 : (x2, dequeObj) ∈ led) (hdd : ∀ q ∈ led, q.1 ≠ d) (hdl : ∀ q ∈ led, q.1 ≠ dl) (hne : @Ne Nat dl d)
  (hw : ∀ w ∈ ws, w ∈ W40) (tt : Tok) (ph : Ph ws (x.cps.toList.drop i) st (Str.ofString "") false) (htk : tv = .str (Str.ofString "") tt)
  (ret : ∀ wd r' tw (i' : Nat) es' n' u3' st' tk' s', ws = wd :: r' → i' ≤ x.length → Lex es' T9 o x1 x2 st' (.str (Str.ofString "") tk') → Ok s s' → Fr h₀ L s'.heap m → News h₀ L s'.heap ((dl, dictOf es' n') :: (d, dictOf (sioEs w.params k1 k2 k3 u1 x t i' u3') 3) :: led) →
    stOf r' st' → x.cps.toList.drop i' = enc r' → Q (.str wd tw) s')
  (exc : ws = [] → ∀ e g5 es' n' u3' (i' : Nat) s', KtsTurn (outer.filterMap (·.frame)) h₀ g5 → Below A₀ base outer g5 → Ok s s' → Fr g5 L s'.heap m → News g5 L s'.heap ((dl, dictOf es' n') :: (d, dictOf (sioEs w.params k1 k2 k3 u1 x t i' u3') 3) :: led) → s'.TypeIs (.ref e) "StopIteration" → E (.ref e) s'),
  wpAny (model PySem.Challenge.rw_ik0072_01.row.toRowW.prog w) A (call (.ref 750) [.ref lx]) Q E s := by
  k_fill
  intro w p loose mean mg mb A env outer A₀ base h₀ L m s Q E lx dl o d x1 x2 k1 k2 k3 u1 T9 x t i u3 es n st tv led ws B F X N T hh hA hf hk hd hu hx hpx LX hm hlx h1 h2 hdd hdl hne hw tt ph htk ret exc
  obtain ⟨ah, dp, fr, gd, un⟩ := A
  cases hh
  cases hA
  obtain ⟨cs, lo, gl, cl, qn, fn, ccd, fr, bi⟩ := env
  cases hf
  obtain ⟨ck, cnm, cg1, cg2, cmo⟩ := cs
  cases hk
  refine topA_mono hd hu ?_
  refine wpAny_call ?_
  k_enter
  repeat' ((fail_if_success (first | (with_reducible show wpAny _ _ (exec (Stmt.While _ _ _ _) _) _ _ _) | (with_reducible show wpAny _ _ (exec (Stmt.For _ _ _ _ _) _) _ _ _) | (with_reducible show wpAny _ _ (exec (Stmt.Assign _ (Expr.ListComp _ _ _ _) _) _) _ _ _) | (with_reducible show wpAny _ _ (eval (Expr.ListComp _ _ _ _) _) _ _ _) | (with_reducible show wpAny _ _ (call (Value.ref _) _ _) _ _ _) | (with_reducible show wpAny _ _ (leaving _ _) _ _ _) | (with_reducible show Exists _) | (with_reducible show TurnEnd _ _ _ _ _ _ _ _ _) | (with_reducible show ForSrc _ _ _ _ _ _ _ _ _ _ _))); tb_rel)
  rename Frag.In _ _ => X'
  rename Fr _ _ _ _ => F'
  rename News _ _ _ _ => N'
  rename Below _ _ _ _ => B'
  rename Top _ _ _ _ _ _ => T'
  refine c_gt lx dl o d x1 x2 k1 k2 k3 u1 T9 x t i u3 es n st tv led ws B' F' X' N' T' rfl rfl rfl rfl (Nat.le_of_ble_eq_true rfl) (Nat.le_of_ble_eq_true rfl) hx hpx LX hm hlx h1 h2 hdd hdl hne hw tt ph htk (fun i' es' n' u3' st' tk' r s' hi' LX' ok F6 N6 r1 r2 => ?_)
  clear F' N'
  cases ws with
  | nil =>
    obtain ⟨rfl, e2, e3⟩ := r1 rfl
    repeat' ((fail_if_success (first | (with_reducible show wpAny _ _ (exec (Stmt.While _ _ _ _) _) _ _ _) | (with_reducible show wpAny _ _ (exec (Stmt.For _ _ _ _ _) _) _ _ _) | (with_reducible show wpAny _ _ (exec (Stmt.Assign _ (Expr.ListComp _ _ _ _) _) _) _ _ _) | (with_reducible show wpAny _ _ (eval (Expr.ListComp _ _ _ _) _) _ _ _) | (with_reducible show wpAny _ _ (call (Value.ref _) _ _) _ _ _) | (with_reducible show wpAny _ _ (leaving _ _) _ _ _) | (with_reducible show Exists _) | (with_reducible show TurnEnd _ _ _ _ _ _ _ _ _) | (with_reducible show ForSrc _ _ _ _ _ _ _ _ _ _ _))); tb_rel)
    rename Fr h₀ L _ m => FG
    rename Heap.MadeExc _ _ _ _ _ => aX
    rename Fr _ _ _ _ => F9
    rename News _ _ _ _ => N9
    refine leave_raiseS B' (Heap.MadeExc.of aX) F9 N9 (fun h5 t5 R5 _ U5 => ?_)
    obtain ⟨⟨B9, hB9, hBG, hl, hfl, hnew⟩, htup⟩ := R5
    obtain ⟨g5, T5, F5, K5⟩ := kts_ground (name := Str.ofString "") (scope := { kind := .function, names := [], isGenerator := false, isCoroutine := false }) (a := 0) (cd := .none) B FG hBG hfl.1 U5
    have hL9 : B9.get? L = none := by
      obtain ⟨_, ⟨L9, _, hf, hn', _⟩, _⟩ := hfl.2.2.1
      obtain rfl : L = L9 := Option.some.inj hf
      exact hn'
    have N5 : News g5 L h5 ((dl, dictOf es' n') :: (d, dictOf (sioEs w.params k1 k2 k3 u1 x t i' u3') 3) :: led) := fun q hq =>
      ⟨hfl.1 _ _ (hl q hq).1, (fun z => by have := (hl q hq).1; rw [z, hL9] at this; cases this), T5.none_ _ (kts_none FG.keep (hl q hq).2.1)⟩
    obtain ⟨ob, hob, hobc⟩ := hfl.there
    exact exc rfl _ g5 _ _ _ i' _ T5 K5 ⟨ok.os, ok.gens⟩ F5 N5 ⟨ob, hob, hobc⟩
  | cons w9 ws =>
    obtain ⟨⟨t9, rfl⟩, e2, e3⟩ := r2 _ _ rfl
    repeat' ((fail_if_success (first | (with_reducible show wpAny _ _ (exec (Stmt.While _ _ _ _) _) _ _ _) | (with_reducible show wpAny _ _ (exec (Stmt.For _ _ _ _ _) _) _ _ _) | (with_reducible show wpAny _ _ (exec (Stmt.Assign _ (Expr.ListComp _ _ _ _) _) _) _ _ _) | (with_reducible show wpAny _ _ (eval (Expr.ListComp _ _ _ _) _) _ _ _) | (with_reducible show wpAny _ _ (call (Value.ref _) _ _) _ _ _) | (with_reducible show wpAny _ _ (leaving _ _) _ _ _) | (with_reducible show Exists _) | (with_reducible show TurnEnd _ _ _ _ _ _ _ _ _) | (with_reducible show ForSrc _ _ _ _ _ _ _ _ _ _ _))); tb_rel)
    rename Fr h₀ L _ m => F9
    rename News h₀ L _ _ => N9
    exact ret _ _ _ i' _ _ _ _ _ _ rfl hi' LX' ⟨ok.os, ok.gens⟩ F9 N9 e2 e3
end
section
open PySem PySem.W PySem.Spec PySem.Calls PyProof.Rows
theorem c_it : ∀ {w : World} {p : Program} {loose : List Str} {mean : ExcName → Option Value} {mg mb : Str → Option Value}
  {A : Around} {env : Env} {outer : List Env} {A₀ : Around} {base h₀ : Heap} {L : Addr} {m : Fm} {s : Shared} {Q E : Value → Shared → Prop}
  (lx dl : Addr) (es : List DictEntry) (n : Nat) (led : List Ent)
  (B : Below A₀ base outer h₀) (F : Fr h₀ L s.heap m) (X : (KK w.params).In h₀) (N : News h₀ L s.heap (led)) (T : Top p loose mean mg mb h₀) (hh : A.handled = none) (hA : A.frames = some (env :: outer)) (hf : env.frame = some L) (hk : env.scope.kind = .function) (hd : A.depth ≤ 370) (hu : A.units ≤ 3700)
  (hlx : (lx, instObj 753 dl) ∈ led)
  (ret : ∀ s', Ok s s' → Fr h₀ L s'.heap m → News h₀ L s'.heap led → Q (.ref lx) s'),
  wpAny (model PySem.Challenge.rw_ik0072_01.row.toRowW.prog w) A (call (.ref 743) [.ref lx]) Q E s := by
  k_fill
  intro w p loose mean mg mb A env outer A₀ base h₀ L m s Q E lx dl es n led B F X N T hh hA hf hk hd hu hlx ret
  refine hideG fun PG9 hG9 => ?_
  obtain ⟨ah, dp, fr, gd, un⟩ := A
  refine hG9 ?_
  try clear hG9 PG9
  cases hh
  cases hA
  refine hideG fun PG9 hG9 => ?_
  obtain ⟨cs, lo, gl, cl, qn, fn, ccd, fr, bi⟩ := env
  refine hG9 ?_
  try clear hG9 PG9
  cases hf
  refine hideG fun PG9 hG9 => ?_
  obtain ⟨ck, cnm, cg1, cg2, cmo⟩ := cs
  refine hG9 ?_
  try clear hG9 PG9
  cases hk
  refine topA_mono hd hu ?_
  refine wpAny_call ?_
  k_enter
  repeat' ((fail_if_success (first | (with_reducible show wpAny _ _ (exec (Stmt.While _ _ _ _) _) _ _ _) | (with_reducible show wpAny _ _ (exec (Stmt.For _ _ _ _ _) _) _ _ _) | (with_reducible show wpAny _ _ (exec (Stmt.Assign _ (Expr.ListComp _ _ _ _) _) _) _ _ _) | (with_reducible show wpAny _ _ (eval (Expr.ListComp _ _ _ _) _) _ _ _) | (with_reducible show wpAny _ _ (call (Value.ref _) _ _) _ _ _) | (with_reducible show Exists _) | (with_reducible show TurnEnd _ _ _ _ _ _ _ _ _) | (with_reducible show ForSrc _ _ _ _ _ _ _ _ _ _ _))); tb_rel)
  rename Fr h₀ L _ m => F9
  rename News h₀ L _ _ => N9
  exact ret _ ⟨rfl, id⟩ F9 N9

/-- how far the lexer has come -/
noncomputable def LexJ (P : Params) (o x1 x2 dl d : Addr) (k1 k2 k3 u1 : Tok) (T9 : Nat → Tok) (x : Str) (t : Tok) (led : List Ent) (ws : List Str) (k : Nat) (acc : List Value) (led' : List Ent) : Prop :=
  ∃ (i : Nat) (es : List DictEntry) (n : Nat) (u3 tt : Tok) (st : Value), led' = (dl, dictOf es n) :: (d, dictOf (sioEs P k1 k2 k3 u1 x t i u3) 3) :: led ∧ i ≤ x.length ∧ Lex es T9 o x1 x2 st (.str (Str.ofString "") tt) ∧ StrsAre acc (ws.take k) ∧ Ph (ws.drop k) (x.cps.toList.drop i) st (Str.ofString "") false
theorem ph_next {r : List Str} {st : Value} {l : List Nat} (h : stOf r st) (hl : l = enc r) : Ph r l st (Str.ofString "") false := by
  refine hideG fun PG9 hG9 => ?_
  subst hl
  refine hG9 ?_
  try clear hG9 PG9
  cases r with
  | nil => cases h; exact .eof
  | cons v r =>
    refine hideG fun PG9 hG9 => ?_
    obtain ⟨t, rfl⟩ := h
    refine hG9 ?_
    try clear hG9 PG9
    rw [enc_cons]
    exact .start v r t
theorem lex_iter : ∀ {w : World} {p : Program} {loose : List Str} {mean : ExcName → Option Value} {mg mb : Str → Option Value}
  {A : Around} {env : Env} {outer : List Env} {A₀ : Around} {base h₀ : Heap} {L : Addr} {m : Fm}
  (lx dl o d x1 x2 : Addr) (k1 k2 k3 u1 : Tok) (T9 : Nat → Tok) (x : Str) (t : Tok) (led : List Ent) (ws : List Str)
  (B : Below A₀ base outer h₀) (X : (KK w.params).In h₀) (T : Top p loose mean mg mb h₀) (hh : A.handled = none) (hA : A.frames = some (env :: outer)) (hf : env.frame = some L) (hk : env.scope.kind = .function) (hd : A.depth ≤ 370) (hu : A.units ≤ 3700)
  (hx : x.length ≤ 1000) (hm : (o, instObj 618 d) ∈ led) (hlx : (lx, instObj 753 dl) ∈ led) (h1 : (x1, dequeObj) ∈ led) (h2 : (x2, dequeObj) ∈ led) (hdd : ∀ q ∈ led, q.1 ≠ d) (hdl : ∀ q ∈ led, q.1 ≠ dl) (hne : @Ne Nat dl d)
  (hw : ∀ w ∈ ws, w ∈ W40),
  OwnIter (PySem.Challenge.rw_ik0072_01.row.toRowW.prog) w A h₀ L m lx ws.length (LexJ w.params o x1 x2 dl d k1 k2 k3 u1 T9 x t led ws) (dl :: d :: led.map (·.1)) (outer.filterMap (·.frame)) led := by
  intro w p loose mean mg mb A env outer A₀ base h₀ L m lx dl o d x1 x2 k1 k2 k3 u1 T9 x t led ws B X T hh hA hf hk hd hu hx hm hlx h1 h2 hdd hdl hne hw
  have swap : ∀ {a b c : Ent} {r : List Ent} (q : Ent), q ∈ a :: b :: c :: r → q ∈ c :: a :: b :: r := by
    intro a b c r q hq
    simp only [List.mem_cons] at hq ⊢
    rcases hq with h | h | h | h
    · exact .inr (.inl h)
    · exact .inr (.inr (.inl h))
    · exact .inl h
    · exact .inr (.inr (.inr h))
  have swap2 : ∀ {a b c : Ent} {r : List Ent} (q : Ent), q ∈ c :: a :: b :: r → q ∈ a :: b :: c :: r := by
    intro a b c r q hq
    simp only [List.mem_cons] at hq ⊢
    rcases hq with h | h | h | h
    · exact .inr (.inr (.inl h))
    · exact .inl h
    · exact .inr (.inl h)
    · exact .inr (.inr (.inr h))
  have inst : ∀ {h : Heap} {es n i u3} {pre : List Ent}, News h₀ L h (pre ++ (dl, dictOf es n) :: (d, dictOf (sioEs w.params k1 k2 k3 u1 x t i u3) 3) :: led) → InstAt h lx (instObj 753 dl) 753 (some (dictOf es n)) := fun N =>
    ⟨(N _ (List.mem_append_right _ (List.mem_cons_of_mem _ (List.mem_cons_of_mem _ hlx)))).1, rfl, rfl, (N _ (List.mem_append_right _ (List.mem_cons_self ..))).1⟩
  refine ⟨?_, ?_, ?_, ?_, ?_⟩
  · intro i acc led' hJ93
    refine hideG fun PG9 hG9 => ?_
    obtain ⟨i', es, n, u3, tt, st, rfl, _⟩ := hJ93
    refine hG9 ?_
    try clear hG9 PG9
    rfl
  · intro k acc led' D c s₁ Q' E' hk' hJ99 hD F N hR
    refine hideG fun PG9 hG9 => ?_
    obtain ⟨i, es, n, u3, tt, st, rfl, hi, LX, hac, ph⟩ := hJ99
    have eD : @Ne Nat D d := Nat.ne_of_gt (hD _ (List.mem_cons_of_mem _ (List.mem_cons_self ..)))
    have eL : @Ne Nat D dl := Nat.ne_of_gt (hD _ (List.mem_cons_self ..))
    refine hG9 ?_
    try clear hG9 PG9
    refine owit_next F X (inst (pre := [(D, listOf acc.toArray c)]) N) (f := 750) (by kernel_rfl) (by kernel_rfl) ?_
    refine c_nx lx dl o d x1 x2 k1 k2 k3 u1 T9 x t i u3 es n st _ ((D, listOf acc.toArray c) :: led) (ws.drop k) B F X (fun q hq => N q (swap q hq)) T hh hA hf hk hd hu hx hi LX (List.mem_cons_of_mem _ hm) (List.mem_cons_of_mem _ hlx) (List.mem_cons_of_mem _ h1) (List.mem_cons_of_mem _ h2)
      (List.forall_mem_cons.mpr ⟨eD, hdd⟩) (List.forall_mem_cons.mpr ⟨eL, hdl⟩) hne (fun y hy => hw y (List.mem_of_mem_drop hy)) tt ph rfl ?_ ?_
    · intro wd r' tw i' es' n' u3' st' tk' s' e hi' LX' ok F' N' hst hl
      have hlt : k < ws.length := hk'
      have e1 : ws.drop k = ws[k] :: ws.drop (k + 1) := List.drop_eq_getElem_cons hlt
      rw [e1] at e
      injection e with e2 e3
      refine hR _ _ s' ⟨i', es', n', u3', tk', st', rfl, hi', LX', ?_, ?_⟩ F' (fun q hq => N' q (swap2 q hq)) ok
      · rw [List.take_add_one, List.getElem?_eq_getElem hlt, e2]
        exact strs_snoc hac
      · rw [e3]
        exact ph_next hst hl
    · intro e
      exact absurd (List.length_eq_zero_iff.mpr e) (by rw [List.length_drop]; omega)
  · intro acc led' D c s₁ Q' E' hJ97 hD F N hR
    refine hideG fun PG9 hG9 => ?_
    obtain ⟨i, es, n, u3, tt, st, rfl, hi, LX, hac, ph⟩ := hJ97
    have eD : @Ne Nat D d := Nat.ne_of_gt (hD _ (List.mem_cons_of_mem _ (List.mem_cons_self ..)))
    have eL : @Ne Nat D dl := Nat.ne_of_gt (hD _ (List.mem_cons_self ..))
    refine hG9 ?_
    try clear hG9 PG9
    refine owit_next F X (inst (pre := [(D, listOf acc.toArray c)]) N) (f := 750) (by kernel_rfl) (by kernel_rfl) ?_
    refine c_nx lx dl o d x1 x2 k1 k2 k3 u1 T9 x t i u3 es n st _ ((D, listOf acc.toArray c) :: led) (ws.drop ws.length) B F X (fun q hq => N q (swap q hq)) T hh hA hf hk hd hu hx hi LX (List.mem_cons_of_mem _ hm) (List.mem_cons_of_mem _ hlx) (List.mem_cons_of_mem _ h1) (List.mem_cons_of_mem _ h2)
      (List.forall_mem_cons.mpr ⟨eD, hdd⟩) (List.forall_mem_cons.mpr ⟨eL, hdl⟩) hne (fun y hy => hw y (List.mem_of_mem_drop hy)) tt ph rfl ?_ ?_
    · intro wd r' tw i' es' n' u3' st' tk' s' e
      rw [List.drop_length] at e
      cases e
    · intro _ e g5 es' n' u3' i' s' T5 _ ok F5 N5 hT
      unfold OwitStop
      refine wpAny_isInstance (b := true) hT (by rw [isSubtype_type]; kernel_rfl) ?_
      rw [if_pos rfl]
      exact hR g5 _ s' T5 rfl (fun q hq => List.mem_cons_of_mem _ (List.mem_cons_of_mem _ hq)) F5 (fun q hq => N5 q (swap2 q hq)) ok
  · intro led' D s₁ Q' E' hJ95 hD F N hR
    refine hideG fun PG9 hG9 => ?_
    obtain ⟨i, es, n, u3, tt, st, rfl, hi, LX, hac, ph⟩ := hJ95
    refine hG9 ?_
    try clear hG9 PG9
    refine owit_iter F X (inst (pre := [(D, listOf #[] 0)]) N) (f := 743) (by kernel_rfl) (by kernel_rfl) ?_
    refine c_it lx dl es n _ B F X N T hh hA hf hk hd hu (List.mem_cons_of_mem _ (List.mem_cons_of_mem _ (List.mem_cons_of_mem _ hlx))) (fun s' ok F' N' => ?_)
    exact owit_it F' X (inst (pre := [(D, listOf #[] 0)]) N') (by kernel_rfl : findIn (KK w.params) (.ref 753) "__next__" = some (some (.ref 750))) (hR s' F' N' ok)
  · intro k acc led' s₁ hJ94 F N
    refine hideG fun PG9 hG9 => ?_
    obtain ⟨i, es, n, u3, tt, st, rfl, hi, LX, hac, ph⟩ := hJ94
    have to : Looks (model (PySem.Challenge.rw_ik0072_01.row.toRowW.prog) w) s₁.heap (typeOf (.ref lx)) (.ref 753) := (Looks.ld (N _ (List.mem_cons_of_mem _ (List.mem_cons_of_mem _ hlx))).1).andThen .now
    have X₁ := X.keeps F.keep
    refine hG9 ?_
    try clear hG9 PG9
    exact ⟨to.andThen (Looks.of_peek X₁ (by kernel_rfl)), to.andThen (Looks.of_peek X₁ (by kernel_rfl)), _, to⟩
end
section
open PySem PySem.W PySem.Spec PySem.Calls PyProof.Rows
section
variable {prog : Program} {w : World} {A₀ A : Around} {s : Shared} {base h₀ : Heap} {env : Env} {L : Addr} {m : Fm} {news : List Ent} {K : Frag} {p : Program} {loose : List Str} {mean : ExcName → Option Value} {mg mb : Str → Option Value}
  {R : Result → Shared → Prop} {name qual : Str} {params : Arguments} {body : List Stmt} {scope : Scope} {dV kV doc pm cdv ct oc : Value} {an od : Option Addr} {osl : Array (Option Value)} {f : Addr} {args : Args} {binds : List (Str × Value)}
/-- a def called from the lowest frame; its ground may be turned in that frame's slots while it runs (an exception came and went) -/
theorem code_S0 (B : Below A₀ base [] h₀) (F : Fr h₀ L s.heap m) (X₀ : K.In h₀) (N : News h₀ L s.heap news) (T : Top p loose mean mg mb h₀) (hA : A.frames = some [env]) (hf : env.frame = some L) (hke : env.scope.kind = .function)
    (ho : K.lookup f = some ⟨oc, od, .func (fnOf name qual params body scope dV kV doc pm an cdv ct), osl⟩) (hcd : codeIn K cdv qual = true) (hroom : A.depth < recursionLimit)
    (hbind : BindsTo s (fnOf name qual params body scope dV kV doc pm an cdv ct) args binds) (hloc : ∀ y ∈ binds, scope.names.lookup y.1 = some .local)
    (h : ∀ g L' h₁, Fr h₀ L g m → Fr g L' h₁ (fun y => binds.reverse.lookup y) → News g L' h₁ news → Below A base [env] g → K.In g → Top p loose mean mg mb g →
      wpAny (model prog w) (A.deeper (envOf qual scope L' f cdv)) (execs body (envOf qual scope L' f cdv))
        (fun fl s' => LeaveS0 [L] h₀ L m g R (match fl with | .ret v => v | _ => .none) s')
        (fun e s' => wpAny (model prog w) (A.deeper (envOf qual scope L' f cdv)) (leaving (envOf qual scope L' f cdv) e) (fun _ s'' => R (.error e) s'') (fun e' s'' => R (.error e') s'') s')
        { s with heap := h₁, toks := s.toks + binds.length })
    (hco : scope.isCoroutine = false) (hgen : scope.isGenerator = false) (hk : scope.kind = .function)
    (hcell : ∀ x ∈ scope.names, x.2 ≠ .cell) : codeAny (model prog w) A (.call (.ref f) args) R s := by
  refine hideG fun PG9 hG9 => ?_
  obtain ⟨FG, BG, st, _⟩ := groundX (R := R) B F N hA hf hke
  refine hG9 ?_
  try clear hG9 PG9
  refine codeAny_call_def (fd := fnOf name qual params body scope dV kV doc pm an cdv ct) (body := body) (binds := binds) hroom ((X₀.keeps F.keep) _ _ ho) rfl (T.nolimit.keeps F.keep) (codeRec_of (X₀.keeps F.keep) hcd) rfl hbind hcell hloc (fun h₁ hns hk₁ => ?_) hco hgen hk
  refine wpAny_mono (h _ s.heap.objs.size h₁ FG ⟨hns, fun b o e => hk₁ b o (of_hideAll _ e), Nat.le_of_eq (hideAll_size _ _)⟩
    (fun q hq => ⟨hk₁ _ _ (N q hq).1, Nat.ne_of_lt (Heap.lt_size (N q hq).1), hideAll_none _ (List.mem_map_of_mem hq)⟩) BG (X₀.keeps st) (T.keeps st)) (fun fl s' hl => ?_) fun _ _ y => y
  refine hideG fun PG9 hG9 => ?_
  obtain ⟨g', L', m', news', T', F', N', k⟩ := hl
  have none0 : h₀.get? L = none := kts_self F
  obtain ⟨oL, es, ep, hL, hLd, hLk, hLf⟩ := FG.ns
  obtain ⟨sl, hs⟩ := T'.up hL
  refine hG9 ?_
  try clear hG9 PG9
  refine k ⟨⟨_, es, ep, F'.keep _ _ hs, hLd, hLk, hLf⟩, fun b o e => F'.keep b o (T'.other b o (st b o e) fun q => ?_), F.above⟩ fun q hq => ⟨(N' q hq).1, fun e => ?_, ?_⟩
  · rw [List.mem_singleton.mp q, none0] at e; cases e
  · have := (N' q hq).2.2; rw [e, hs] at this; cases this
  · cases z : h₀.get? q.1 with
    | none => rfl
    | some o =>
      refine hideG fun PG9 hG9 => ?_
      obtain ⟨sl', hs'⟩ := T'.up (st _ _ z)
      have := (N' q hq).2.2
      rw [hs'] at this
      refine hG9 ?_
      try clear hG9 PG9
      cases this
end
noncomputable def tok7 (c0 c1 c2 c3 c4 c5 c6 : Tok) : Nat → Tok
  | 0 => c0
  | 1 => c1
  | 2 => c2
  | 3 => c3
  | 4 => c4
  | 5 => c5
  | _ => c6
theorem split_end {w : World} {p : Program} {loose : List Str} {mean : ExcName → Option Value} {mg mb : Str → Option Value} {A : Around} {env : Env} {outer : List Env} {A₀ : Around} {base h₀ : Heap} {L : Addr} {m : Fm} {s : Shared} {Q E : Value → Shared → Prop}
    {lx dl o d x1 x2 : Nat} {k1 k2 k3 u1 u3 : Tok} {c0 c1 c2 c3 c4 c5 c6 c7 c8 : Tok} {x : Str} {t : Tok} {led : List Ent} {es : List DictEntry} {n : Nat} (ws : List Str)
    (N : News h₀ L s.heap ((x2, dequeObj) :: (x1, dequeObj) :: (o, instObj 618 d) :: (d, dictOf (sioEs w.params k1 k2 k3 u1 x t 0 u3) 3) :: (lx, instObj 753 dl) :: (dl, dictOf es n) :: led))
    (F : Fr h₀ L s.heap m) (B : Below A₀ base outer h₀) (X : (KK w.params).In h₀) (T : Top p loose mean mg mb h₀) (hh : A.handled = none) (hA : A.frames = some (env :: outer)) (hf : env.frame = some L) (hk : env.scope.kind = .function) (hd : A.depth + 2 ≤ 370) (hu : A.units ≤ 3650)
    (f1 : getL (Str.ofString "instream") es = some (some (.ref o))) (f2 : getL (Str.ofString "posix") es = some (some (.bool true))) (f3 : getL (Str.ofString "eof") es = some (some .none))
    (f4 : getL (Str.ofString "commenters") es = some (some (.str (Str.ofString "") c0)))
    (f5 : getL (Str.ofString "wordchars") es = some (some (.str (Str.ofString "abcdfeghijklmnopqrstuvwxyzABCDEFGHIJKLMNOPQRSTUVWXYZ0123456789_ßàáâãäåæçèéêëìíîïðñòóôõöøùúûüýþÿÀÁÂÃÄÅÆÇÈÉÊËÌÍÎÏÐÑÒÓÔÕÖØÙÚÛÜÝÞ") c1)))
    (f6 : getL (Str.ofString "whitespace") es = some (some (.str (Str.ofString " \t\x0d\n") c2))) (f7 : getL (Str.ofString "quotes") es = some (some (.str (Str.ofString "'\"") c3)))
    (f8 : getL (Str.ofString "escape") es = some (some (.str (Str.ofString "\\") c4))) (f9 : getL (Str.ofString "debug") es = some (some (.int 0 c5))) (f10 : getL (Str.ofString "source") es = some (some .none))
    (f11 : getL (Str.ofString "_punctuation_chars") es = some (some (.str (Str.ofString "") c6))) (f12 : getL (Str.ofString "pushback") es = some (some (.ref x1))) (f13 : getL (Str.ofString "filestack") es = some (some (.ref x2)))
    (f14 : getL (Str.ofString "state") es = some (some (.str (Str.ofString " ") c7))) (f15 : getL (Str.ofString "token") es = some (some (.str (Str.ofString "") c8)))
    (f16 : getL (Str.ofString "read_token") es = some none) (f17 : getL (Str.ofString "get_token") es = some none) (f18 : es.length ≤ 100)
    (hx : x.length ≤ 1000) (hws : ws ≠ []) (hw : ∀ y ∈ ws, y ∈ W40) (hn : ws.length ≤ 1000) (he : x.cps.toList = enc ws) (hl : ∀ q ∈ led, q.1 < dl) (g1 : dl < lx) (g2 : lx < d) (g3 : d < o) (g4 : o < x1) (g5 : x1 < x2)
    (hR : ∀ g (D : Nat) vs c s₂, KtsTurn (outer.filterMap (·.frame)) h₀ g → StrsAre vs ws → (∀ q ∈ led, q.1 < D) → Fr g L s₂.heap m → News g L s₂.heap ((D, listOf vs.toArray c) :: led) → Ok s s₂ → Q (.ref D) s₂) :
    wpAny (model (PySem.Challenge.rw_ik0072_01.row.toRowW.prog) w) A (call (.type "list") [.ref lx]) Q E s := by
  have LX : Lex es (tok7 c0 c1 c2 c3 c4 c5 c6) o x1 x2 (.str (Str.ofString " ") c7) (.str (Str.ofString "") c8) := ⟨f1, f2, f3, f4, f5, f6, f7, f8, f9, f10, f11, f12, f13, f14, f15, f16, f17, f18⟩
  have h1 := Nat.lt_trans g3 g4
  have h2 := Nat.lt_trans h1 g5
  have h3 := Nat.lt_trans g1 g2
  have hl' : ∀ q ∈ led, q.1 ≠ d ∧ q.1 ≠ dl := fun q hq => by
    have : @LT.lt Nat _ q.1 dl := hl q hq
    exact ⟨Nat.ne_of_lt (Nat.lt_trans this h3), Nat.ne_of_lt this⟩
  have W := lex_iter (A := A.in1.in1) (m := m) lx dl o d x1 x2 k1 k2 k3 u1 (tok7 c0 c1 c2 c3 c4 c5 c6) x t ((x2, dequeObj) :: (x1, dequeObj) :: (o, instObj 618 d) :: (lx, instObj 753 dl) :: led) ws B X T hh hA hf hk
    (by simp only [depth_in1]; exact Nat.le_trans (Nat.le_add_right ..) hd) (by simp only [units_in1]; exact Nat.le_trans (Nat.add_le_add_right hu 2) (Nat.le_of_ble_eq_true rfl)) hx (List.mem_cons_of_mem _ (List.mem_cons_of_mem _ (List.mem_cons_self ..))) (List.mem_cons_of_mem _ (List.mem_cons_of_mem _ (List.mem_cons_of_mem _ (List.mem_cons_self ..))))
    (List.mem_cons_of_mem _ (List.mem_cons_self ..)) (List.mem_cons_self ..)
    (List.forall_mem_cons.mpr ⟨Nat.ne_of_gt h2, List.forall_mem_cons.mpr ⟨Nat.ne_of_gt h1, List.forall_mem_cons.mpr ⟨Nat.ne_of_gt g3, List.forall_mem_cons.mpr ⟨Nat.ne_of_lt g2, fun q hq => (hl' q hq).1⟩⟩⟩⟩)
    (List.forall_mem_cons.mpr ⟨Nat.ne_of_gt (Nat.lt_trans h3 h2), List.forall_mem_cons.mpr ⟨Nat.ne_of_gt (Nat.lt_trans h3 h1), List.forall_mem_cons.mpr ⟨Nat.ne_of_gt (Nat.lt_trans h3 g3), List.forall_mem_cons.mpr ⟨Nat.ne_of_gt g1, fun q hq => (hl' q hq).2⟩⟩⟩⟩)
    (Nat.ne_of_lt h3) hw
  refine call_list_own W F (led := (dl, dictOf es n) :: (d, dictOf (sioEs w.params k1 k2 k3 u1 x t (0 : Nat) u3) 3) :: (x2, dequeObj) :: (x1, dequeObj) :: (o, instObj 618 d) :: (lx, instObj 753 dl) :: led) (fun q hq => N q ?_)
    ⟨0, es, n, u3, c8, _, rfl, Nat.zero_le _, LX, .nil, ph_next (by cases ws with | nil => exact absurd rfl hws | cons a r => exact ⟨_, rfl⟩) (by rw [List.drop_zero, he]; rfl)⟩ (lel hn rfl) (Heap.lt_size (N (lx, instObj 753 dl) (by simp)).1) ?_
  · simp only [List.mem_cons] at hq ⊢
    rcases hq with h | h | h | h | h | h | h
    · exact .inr (.inr (.inr (.inr (.inr (.inl h)))))
    · exact .inr (.inr (.inr (.inl h)))
    · exact .inl h
    · exact .inr (.inl h)
    · exact .inr (.inr (.inl h))
    · exact .inr (.inr (.inr (.inr (.inl h))))
    · exact .inr (.inr (.inr (.inr (.inr (.inr h)))))
  · intro g D acc c led' s₂ Tg hl2 hJ98 ea er hD F2 N2 ok
    refine hideG fun PG9 hG9 => ?_
    obtain ⟨led2, i, es', n', u3', tt, st, rfl, hi, LX', hac, ph⟩ := hJ98
    rw [List.take_length] at hac
    refine hG9 ?_
    try clear hG9 PG9
    refine hR g D acc c s₂ Tg hac (fun q hq => hD _ ?_) F2 (fun q hq => N2 q ?_) ok
    · simp only [List.mem_cons, List.map_cons]
      exact .inr (.inr (.inr (.inr (.inr (.inr (List.mem_map_of_mem hq))))))
    · rcases List.mem_cons.mp hq with rfl | hq
      · exact List.mem_cons_self ..
      · exact List.mem_cons_of_mem _ (er q (List.mem_cons_of_mem _ (List.mem_cons_of_mem _ (List.mem_cons_of_mem _ (List.mem_cons_of_mem _ hq)))))
end
section
open PySem PySem.W PySem.Spec PySem.Calls PyProof.Rows
theorem fstLt {a b : Addr} {o : Obj} (h : (a, o).1 < b) : @LT.lt Nat _ a b := h
theorem natLt {a b : Addr} (h : a < b) : @LT.lt Nat _ a b := h
theorem c_split : ∀ {w : World} {p : Program} {loose : List Str} {mean : ExcName → Option Value} {mg mb : Str → Option Value}
  {A : Around} {env : Env} {A₀ : Around} {base h₀ : Heap} {L : Addr} {m : Fm} {s : Shared} {Q E : Value → Shared → Prop}
  (x : Str) (t : Tok) (led : List Ent) (ws : List Str)
  (B : Below A₀ base [] h₀) (F : Fr h₀ L s.heap m) (X : (KK w.params).In h₀) (N : News h₀ L s.heap (led)) (T : Top p loose mean mg mb h₀) (hh : A.handled = none) (hA : A.frames = some [env]) (hf : env.frame = some L) (hk : env.scope.kind = .function) (hd : A.depth ≤ 310) (hu : A.units ≤ 3100)
  (hx : x.length ≤ 1000) (hws : ws ≠ []) (hw : ∀ y ∈ ws, y ∈ W40) (hn : ws.length ≤ 1000) (he : x.cps.toList = enc ws)
  (ret : ∀ (R : Nat) vs n s', StrsAre vs ws → (∀ q ∈ led, q.1 < R) → Fr h₀ L s'.heap m → News h₀ L s'.heap ((R, listOf vs.toArray n) :: led) → Ok s s' → Q (.ref R) s'),
  wpAny (model PySem.Challenge.rw_ik0072_01.row.toRowW.prog w) A (call (.ref 765) [.str x t]) Q E s := by
  k_fill
  intro w p loose mean mg mb A env A₀ base h₀ L m s Q E x t led ws B F X N T hh hA hf hk hd hu hx hws hw hn he ret
  obtain ⟨ah, dp, fr, gd, un⟩ := A
  cases hh
  cases hA
  obtain ⟨cs, lo, gl, cl, qn, fn, ccd, fr, bi⟩ := env
  cases hf
  obtain ⟨ck, cnm, cg1, cg2, cmo⟩ := cs
  cases hk
  refine topA_mono hd hu ?_
  refine wpAny_call ?_
  refine' code_S0 B F X N T rfl rfl rfl ?k6 ?k7 ?k8 ?k9 ?kB ?_ ?c2 ?c3 ?c4 ?c5
  case k6 => k_is
  case k7 => k_is
  case k8 => k_room
  case k9 => first | exact BindsTo.of_eq rfl | exact binds_K (by k_in) rfl (by k_is) rfl rfl rfl
  case c5 => decide
  case kB => exact locs rfl
  case c2 => exact rfl
  case c3 => exact rfl
  case c4 => exact rfl
  intro g' L' h' FG' F' N' B' X' T'
  (try dsimp only)
  (try k_fold)
  repeat' ((fail_if_success (first | (with_reducible show wpAny _ _ (exec (Stmt.While _ _ _ _) _) _ _ _) | (with_reducible show wpAny _ _ (exec (Stmt.For _ _ _ _ _) _) _ _ _) | (with_reducible show wpAny _ _ (exec (Stmt.Assign _ (Expr.ListComp _ _ _ _) _) _) _ _ _) | (with_reducible show wpAny _ _ (eval (Expr.ListComp _ _ _ _) _) _ _ _) | (with_reducible show wpAny _ _ (truthy (Value.ref _)) _ _ _) | (with_reducible show LeaveS0 _ _ _ _ _ _ _ _) | (with_reducible show Exists _) | (with_reducible show TurnEnd _ _ _ _ _ _ _ _ _) | (with_reducible show ForSrc _ _ _ _ _ _ _ _ _ _ _))); tb_rel)
  rename_i x'9 d'9 h9a Fa Na l19 l29 g9 L9 h9b FGb F₁ N₁ B₁ X₁ T₁
  refine c_sio x t _ B₁ F₁ X₁ N₁ T₁ rfl rfl rfl rfl (Nat.le_of_ble_eq_true rfl) (Nat.le_of_ble_eq_true rfl) (fun o d h tk k1 k2 k3 u1 u3 lt1 l1 F₂ N₂ => ?_)
  obtain ⟨a1, l1'⟩ := List.forall_mem_cons.mp l1
  obtain ⟨a2, l1''⟩ := List.forall_mem_cons.mp l1'
  have a1' := fstLt a1
  have a2' := fstLt a2
  repeat' ((fail_if_success (first | (with_reducible show wpAny _ _ (exec (Stmt.While _ _ _ _) _) _ _ _) | (with_reducible show wpAny _ _ (exec (Stmt.For _ _ _ _ _) _) _ _ _) | (with_reducible show wpAny _ _ (exec (Stmt.Assign _ (Expr.ListComp _ _ _ _) _) _) _ _ _) | (with_reducible show wpAny _ _ (eval (Expr.ListComp _ _ _ _) _) _ _ _) | (with_reducible show wpAny _ _ (truthy (Value.ref _)) _ _ _) | (with_reducible show LeaveS0 _ _ _ _ _ _ _ _) | (with_reducible show Exists _) | (with_reducible show TurnEnd _ _ _ _ _ _ _ _ _) | (with_reducible show ForSrc _ _ _ _ _ _ _ _ _ _ _))); tb_rel)
  rename Fr _ _ _ _ => F₃
  rename News _ _ _ _ => N₃
  refine call_deque F₃ N₃ (fun x1 h1 F₄ N₄ l4 => ?_)
  obtain ⟨b1, l4a⟩ := List.forall_mem_cons.mp l4
  obtain ⟨b2, l4b⟩ := List.forall_mem_cons.mp l4a
  obtain ⟨b3, l4c⟩ := List.forall_mem_cons.mp l4b
  obtain ⟨b4, l4d⟩ := List.forall_mem_cons.mp l4c
  have b1' := fstLt b1
  have b2' := fstLt b2
  have b3' := fstLt b3
  have b4' := fstLt b4
  repeat' ((fail_if_success (first | (with_reducible show wpAny _ _ (exec (Stmt.While _ _ _ _) _) _ _ _) | (with_reducible show wpAny _ _ (exec (Stmt.For _ _ _ _ _) _) _ _ _) | (with_reducible show wpAny _ _ (exec (Stmt.Assign _ (Expr.ListComp _ _ _ _) _) _) _ _ _) | (with_reducible show wpAny _ _ (eval (Expr.ListComp _ _ _ _) _) _ _ _) | (with_reducible show wpAny _ _ (truthy (Value.ref _)) _ _ _) | (with_reducible show LeaveS0 _ _ _ _ _ _ _ _) | (with_reducible show Exists _) | (with_reducible show TurnEnd _ _ _ _ _ _ _ _ _) | (with_reducible show ForSrc _ _ _ _ _ _ _ _ _ _ _))); tb_rel)
  rename Fr _ _ _ _ => F₅
  rename News _ _ _ _ => N₅
  refine call_deque F₅ N₅ (fun x2 h2 F₆ N₆ l5 => ?_)
  obtain ⟨c0, l5a⟩ := List.forall_mem_cons.mp l5
  obtain ⟨c1, l5b⟩ := List.forall_mem_cons.mp l5a
  obtain ⟨c2, l5c⟩ := List.forall_mem_cons.mp l5b
  obtain ⟨c3, l5d⟩ := List.forall_mem_cons.mp l5c
  obtain ⟨c4, l5e⟩ := List.forall_mem_cons.mp l5d
  have c0' := fstLt c0
  have c1' := fstLt c1
  have c2' := fstLt c2
  have c3' := fstLt c3
  have c4' := fstLt c4
  repeat' ((fail_if_success (first | (with_reducible show wpAny _ _ (exec (Stmt.While _ _ _ _) _) _ _ _) | (with_reducible show wpAny _ _ (exec (Stmt.For _ _ _ _ _) _) _ _ _) | (with_reducible show wpAny _ _ (exec (Stmt.Assign _ (Expr.ListComp _ _ _ _) _) _) _ _ _) | (with_reducible show wpAny _ _ (eval (Expr.ListComp _ _ _ _) _) _ _ _) | (with_reducible show wpAny _ _ (truthy (Value.ref _)) _ _ _) | (with_reducible show LeaveS0 _ _ _ _ _ _ _ _) | (with_reducible show Exists _) | (with_reducible show TurnEnd _ _ _ _ _ _ _ _ _) | (with_reducible show ForSrc _ _ _ _ _ _ _ _ _ _ _))); tb_rel)
  rename Fr _ _ _ _ => F₇
  rename News _ _ _ _ => N₇
  have hl7 : ∀ q ∈ led, q.1 < d'9 := l19
  refine split_end ws N₇ F₇ B' X' T' rfl rfl rfl rfl (Nat.le_of_ble_eq_true rfl) (Nat.le_of_ble_eq_true rfl) (by k_get) (by k_get) (by k_get) (by k_get) (by k_get) (by k_get) (by k_get) (by k_get) (by k_get) (by k_get) (by k_get) (by k_get) (by k_get) (by k_get) (by k_get) (by k_get) (by k_get)
    (Nat.le_of_ble_eq_true rfl) hx hws hw hn he hl7 l29 a1' lt1 b1' c0' (fun g D vs c s₂ Tg hvs hD F₈ N₈ ok => ?_)
  repeat' ((fail_if_success (first | (with_reducible show wpAny _ _ (exec (Stmt.While _ _ _ _) _) _ _ _) | (with_reducible show wpAny _ _ (exec (Stmt.For _ _ _ _ _) _) _ _ _) | (with_reducible show wpAny _ _ (exec (Stmt.Assign _ (Expr.ListComp _ _ _ _) _) _) _ _ _) | (with_reducible show wpAny _ _ (eval (Expr.ListComp _ _ _ _) _) _ _ _) | (with_reducible show wpAny _ _ (truthy (Value.ref _)) _ _ _) | (with_reducible show LeaveS0 _ _ _ _ _ _ _ _) | (with_reducible show Exists _) | (with_reducible show TurnEnd _ _ _ _ _ _ _ _ _) | (with_reducible show ForSrc _ _ _ _ _ _ _ _ _ _ _))); tb_rel)
  refine leaveS0_ F₈ N₈ Tg (fun F₉ N₉ => ?_)
  exact ret D vs c _ hvs hD F₉ N₉ ⟨ok.os, ok.gens⟩
end
section
open PySem PySem.W PySem.Spec PySem.Calls PyProof.Rows
theorem pick16 : ∀ m : Nat, m < 16 → (List.take (clipAt 16 ((m : Int) + 1) - clipAt 16 (m : Int)) (List.drop (clipAt 16 (m : Int)) ([65, 66, 67, 68, 69, 70, 71, 72, 73, 74, 75, 76, 77, 78, 79, 80] : List Int))) = [((65 + m : Nat) : Int)] := by decide +kernel
theorem fdiv16 (k : Nat) : (k : Int).fdiv 16 = ((k / 16 : Nat) : Int) := by
  rw [Int.fdiv_eq_ediv_of_nonneg _ (by decide)]; exact (Int.natCast_ediv k 16).symm
theorem fmod16 (k : Nat) : (k : Int).fmod 16 = ((k % 16 : Nat) : Int) := by
  rw [Int.fmod_eq_emod_of_nonneg _ (by decide)]; exact (Int.natCast_emod k 16).symm
noncomputable def apF : Nat → Nat → List Nat
  | 0, _ => []
  | f + 1, n => if n = 0 then [] else apF f (n / 16) ++ [65 + n % 16]
theorem c_ap : ∀ {w : World} {p : Program} {loose : List Str} {mean : ExcName → Option Value} {mg mb : Str → Option Value}
  {A : Around} {env : Env} {outer : List Env} {A₀ : Around} {base h₀ : Heap} {L : Addr} {m : Fm} {s : Shared} {Q E : Value → Shared → Prop}
  (z : Int) (t : Tok) (led : List Ent)
  (B : Below A₀ base outer h₀) (F : Fr h₀ L s.heap m) (X : (KK w.params).In h₀) (N : News h₀ L s.heap (led)) (T : Top p loose mean mg mb h₀) (hh : A.handled = none) (hA : A.frames = some (env :: outer)) (hf : env.frame = some L) (hk : env.scope.kind = .function) (hd : A.depth ≤ 450) (hu : A.units ≤ 4500)
  (hz : z.natAbs < 16777216)
  (ret : ∀ (a : Array UInt8) t s', KBw.bInts a = (apF 6 z.natAbs).map Int.ofNat → Fr h₀ L s'.heap m → News h₀ L s'.heap led → Ok s s' → Q (.bytes a t) s'),
  wpAny (model PySem.Challenge.rw_ik0072_01.row.toRowW.prog w) A (call (.ref 65) [.int z t]) Q E s := by
  k_fill
  intro w p loose mean mg mb A env outer A₀ base h₀ L m s Q E z t led B F X N T hh hA hf hk hd hu hz ret
  refine hideG fun PG9 hG9 => ?_
  obtain ⟨ah, dp, fr, gd, un⟩ := A
  refine hG9 ?_
  try clear hG9 PG9
  cases hh
  cases hA
  refine hideG fun PG9 hG9 => ?_
  obtain ⟨cs, lo, gl, cl, qn, fn, ccd, fr, bi⟩ := env
  refine hG9 ?_
  try clear hG9 PG9
  cases hf
  refine hideG fun PG9 hG9 => ?_
  obtain ⟨ck, cnm, cg1, cg2, cmo⟩ := cs
  refine hG9 ?_
  try clear hG9 PG9
  cases hk
  refine topA_mono hd hu ?_
  refine wpAny_call ?_
  k_enter
  repeat' ((fail_if_success (first | (with_reducible show wpAny _ _ (exec (Stmt.While _ _ _ _) _) _ _ _) | (with_reducible show wpAny _ _ (exec (Stmt.For _ _ _ _ _) _) _ _ _) | (with_reducible show wpAny _ _ (exec (Stmt.Assign _ (Expr.ListComp _ _ _ _) _) _) _ _ _) | (with_reducible show wpAny _ _ (eval (Expr.ListComp _ _ _ _) _) _ _ _) | (with_reducible show And _ _) | (with_reducible show Exists _) | (with_reducible show TurnEnd _ _ _ _ _ _ _ _ _) | (with_reducible show ForSrc _ _ _ _ _ _ _ _ _ _ _))); tb_rel)
  rename_i g' L' h9 FG B' X' T' tkx h8 h8b uu tkk h7 F' N'
  refine While_own (by first | passes_own | with_unfolding_all passes_own) (fun k s' => Ok s s' ∧ ∃ (f : Nat) (a : Array UInt8) (t1 t2 t3 : Tok) (m' : Fm), k < 16 ^ f ∧ f ≤ 6 ∧ a.size ≤ 10 - f ∧ (apF 6 z.natAbs).map Int.ofNat = (apF f k).map Int.ofNat ++ KBw.bInts a ∧ Fr g' L' s'.heap m' ∧ News g' L' s'.heap led ∧ m' (Str.ofString "num") = some (.int (k : Int) t1) ∧ m' (Str.ofString "val") = some (.bytes a t2) ∧ m' (Str.ofString "AP") = some (.bytes #[65, 66, 67, 68, 69, 70, 71, 72, 73, 74, 75, 76, 77, 78, 79, 80] t3)) ?turn z.natAbs ?h0
  case h0 =>
    have e : (if z < 0 then -z else z) = (z.natAbs : Int) := nat_abs_ite z
    rw [e] at F'
    exact ⟨⟨rfl, id⟩, 6, #[], _, _, _, _, by omega, Nat.le_refl _, by simp, by simp [KBw.bInts], F', N', rfl, rfl, rfl⟩
  case turn =>
    clear F' N' F N
    intro k s' hJ92
    refine hideG fun PG9 hG9 => ?_
    obtain ⟨ok, f, a, t1, t2, t3, m', hnf, hf6, ha, hap, F', N', hm1, hm2, hm3⟩ := hJ92
    obtain ⟨u, hu9⟩ : ∃ u : Fm, m' = fun v => if v = Str.ofString "num" then some (.int (k : Int) t1) else if v = Str.ofString "val" then some (.bytes a t2) else if v = Str.ofString "AP" then some (.bytes #[65, 66, 67, 68, 69, 70, 71, 72, 73, 74, 75, 76, 77, 78, 79, 80] t3) else u v := ⟨m', form3 hm1 hm2 hm3⟩
    subst hu9
    have hA : KBw.bInts #[65, 66, 67, 68, 69, 70, 71, 72, 73, 74, 75, 76, 77, 78, 79, 80] = [65, 66, 67, 68, 69, 70, 71, 72, 73, 74, 75, 76, 77, 78, 79, 80] := rfl
    have ha0 : (KBw.bInts a).length ≤ 10 := by rw [KBw.ints_length]; exact Nat.le_trans ha (Nat.sub_le ..)
    refine hG9 ?_
    try clear hG9 PG9
    generalize hav : KBw.bInts a = av at *
    have hk1 := fdiv16 k
    have hk2 := fmod16 k
    repeat' ((fail_if_success (first | (with_reducible show wpAny _ _ (exec (Stmt.While _ _ _ _) _) _ _ _) | (with_reducible show wpAny _ _ (exec (Stmt.For _ _ _ _ _) _) _ _ _) | (with_reducible show wpAny _ _ (exec (Stmt.Assign _ (Expr.ListComp _ _ _ _) _) _) _ _ _) | (with_reducible show wpAny _ _ (eval (Expr.ListComp _ _ _ _) _) _ _ _) | (with_reducible show And _ _) | (with_reducible show Exists _) | (with_reducible show TurnEnd _ _ _ _ _ _ _ _ _) | (with_reducible show ForSrc _ _ _ _ _ _ _ _ _ _ _))); tb_rel)
    · have hk0 : k ≠ 0 := int_ne (by assumption)
      rename Fr g' L' _ _ => F9
      rename News g' L' _ _ => N9
      rename KBw.bInts (_ ++ _) = _ => hb9
      rw [hk1, hk2] at F9
      rw [hk2] at hb9
      have hp := pick16 (k % 16) (Nat.mod_lt _ (by decide))
      have hb8 := hb9.trans (congrArg (· ++ av) hp)
      cases f with
      | zero => exact absurd (Nat.lt_one_iff.mp hnf) hk0
      | succ g =>
        have hsz := congrArg List.length hb8
        rw [KBw.ints_length] at hsz
        have hsa : av.length = a.size := by rw [← hav, KBw.ints_length]
        simp only [List.length_append, List.length_cons, List.length_nil] at hsz
        refine ⟨k / 16, div16 hk0, ⟨ok.os, ok.gens⟩, g, _, _, _, _, _, ?_, Nat.le_of_succ_le hf6, ?_, ?_, F9, fun p hp => N9 p (List.mem_cons_of_mem _ hp), rfl, rfl, rfl⟩
        · exact pow16 hnf
        · exact ap_sz hf6 ha hsa hsz
        · rw [hap, hb8]
          show (if k = 0 then [] else apF g (k / 16) ++ [65 + k % 16]).map Int.ofNat ++ av = _
          rw [if_neg hk0, List.map_append, List.append_assoc]
          rfl
    · have hk0 : k = 0 := int_zero (by assumption)
      rename Fr h₀ L _ m => F9
      rename News h₀ L _ _ => N9
      refine ret a _ _ ?_ F9 N9 ⟨ok.os, ok.gens⟩
      refine hideG fun PG9 hG9 => ?_
      subst hk0
      refine hG9 ?_
      try clear hG9 PG9
      have e0 : (apF f 0).map Int.ofNat = [] := by cases f <;> rfl
      rw [hap, e0, hav]
      rfl
end
section
open PySem PySem.W PySem.Spec PySem.Calls PyProof.Rows
/-- the number that the figures tell -/
noncomputable def numOf (fs : List Nat) : Nat := fs.foldl (fun n f => 16 * n + f) 0
noncomputable def chn : Nat → Nat → List Nat
  | 0, n => [n]
  | f + 1, n => if n = 0 then [n] else n :: chn f (n / 16)
noncomputable def tailc (f n : Nat) : List Nat := if n = 0 then [] else chn f (n / 16)
theorem chn_succ (f n : Nat) : chn (f + 1) n = n :: tailc f n := by
  unfold chn tailc
  by_cases h : n = 0
  · rw [if_pos h, if_pos h]
  · rw [if_neg h, if_neg h]
theorem numOf_snoc (fs : List Nat) (f : Nat) : numOf (fs ++ [f]) = 16 * numOf fs + f := by unfold numOf; rw [List.foldl_append]; rfl
theorem num_lt : ∀ {fs : List Nat}, fs.length ≤ 3 → (∀ f ∈ fs, f ≤ 2) → numOf fs < 16 ^ 3 := by
  have e : (16 : Nat) ^ 3 = 4096 := rfl
  intro fs hl hb
  rw [e]
  match fs, hl, hb with
  | [], _, _ => simp [numOf]
  | [a], _, hb => have h1 := hb a (by simp); exact Nat.lt_of_le_of_lt (show numOf [a] ≤ 2 by simpa [numOf] using h1) (Nat.le_of_ble_eq_true rfl)
  | [a, b], _, hb => have h1 := hb a (by simp); have h2 := hb b (by simp); simp only [numOf, List.foldl]; exact Nat.lt_of_le_of_lt (Nat.add_le_add (Nat.mul_le_mul_left 16 (Nat.add_le_add_left h1 _)) h2) (Nat.le_of_ble_eq_true rfl)
  | [a, b, c], _, hb => have h1 := hb a (by simp); have h2 := hb b (by simp); have h3 := hb c (by simp); simp only [numOf, List.foldl]; exact Nat.lt_of_le_of_lt (Nat.add_le_add (Nat.mul_le_mul_left 16 (Nat.add_le_add (Nat.mul_le_mul_left 16 (Nat.add_le_add_left h1 _)) h2)) h3) (Nat.le_of_ble_eq_true rfl)
  | _ :: _ :: _ :: _ :: _, hl, _ => simp at hl
theorem ints_get {vs : List Value} {ns : List Int} (h : IntsAre vs ns) : ∀ {i : Nat} {v : Value}, vs[i]? = some v → ∃ y u, ns[i]? = some y ∧ v = Value.int y u := by
  induction h with
  | nil => intro i v e; cases e
  | cons y t _ ih =>
    intro i v e
    cases i with
    | zero => cases e; exact ⟨y, t, rfl, rfl⟩
    | succ i => exact ih e
theorem ints_len {vs : List Value} {ns : List Int} (h : IntsAre vs ns) : vs.length = ns.length := by
  induction h with
  | nil => rfl
  | cons y t _ ih => simp [ih]
theorem ints_snoc {vs : List Value} {ns : List Int} (h : IntsAre vs ns) (n : Int) (t : Tok) : IntsAre (vs ++ [.int n t]) (ns ++ [n]) := by
  induction h with
  | nil => exact .cons n t .nil
  | cons y u _ ih => exact .cons y u ih
theorem num_le {fs : List Nat} {i : Nat} (hl : fs.length ≤ 3) (hb : ∀ f ∈ fs, f ≤ 2) : numOf (fs.take i) < 4096 := by
  have := num_lt (fs := fs.take i) (by rw [List.length_take]; exact min_le_lit hl rfl) (fun f hf => hb f (List.mem_of_mem_take hf))
  have e : (16 : Nat) ^ 3 = 4096 := rfl
  exact Nat.lt_of_lt_of_eq this e
/-- the loop's invariant -/
noncomputable def ChW (g' : Heap) (L' R9 : Addr) (led₁ : List Ent) (N9 : Nat) (sg : Int) (ts : Tok) (s : Shared) (k : Nat) (s' : Shared) : Prop := Ok s s' ∧ ∃ (f c : Nat) (vs : List Value) (pre : List Nat) (t1 : Tok) (m' : Fm), k < 16 ^ f ∧ f ≤ 3 ∧ pre.length ≤ 4 - f ∧ k < 4096 ∧ chn 4 N9 = pre ++ tailc f k ∧ IntsAre vs (pre.map fun k : Nat => sg * (k : Int)) ∧ Fr g' L' s'.heap m' ∧ News g' L' s'.heap ((R9, listOf vs.toArray c) :: led₁) ∧ m' (Str.ofString "number") = some (.int (k : Int) t1) ∧ m' (Str.ofString "sign") = some (.int sg ts) ∧ m' (Str.ofString "chain") = some (.ref R9)
theorem ChW.mk {g' : Heap} {L' R9 : Addr} {led₁ : List Ent} {N9 : Nat} {sg : Int} {ts : Tok} {s : Shared} {k : Nat} {s' : Shared} (ok : Ok s s') (f c : Nat) (vs : List Value) (pre : List Nat) (t1 : Tok) (m' : Fm) (h0 : k < 16 ^ f) (h1 : f ≤ 3) (h2 : pre.length ≤ 4 - f) (h3 : k < 4096) (h4 : chn 4 N9 = pre ++ tailc f k) (h5 : IntsAre vs (pre.map fun k : Nat => sg * (k : Int))) (h6 : Fr g' L' s'.heap m') (h7 : News g' L' s'.heap ((R9, listOf vs.toArray c) :: led₁)) (h8 : m' (Str.ofString "number") = some (.int (k : Int) t1)) (h9 : m' (Str.ofString "sign") = some (.int sg ts)) (h10 : m' (Str.ofString "chain") = some (.ref R9)) : ChW g' L' R9 led₁ N9 sg ts s k s' := ⟨ok, f, c, vs, pre, t1, m', h0, h1, h2, h3, h4, h5, h6, h7, h8, h9, h10⟩
theorem ChW.out {g' : Heap} {L' R9 : Addr} {led₁ : List Ent} {N9 : Nat} {sg : Int} {ts : Tok} {s : Shared} {k : Nat} {s' : Shared} (h : ChW g' L' R9 led₁ N9 sg ts s k s') {P : Prop} (kk : Ok s s' → ∀ (f c : Nat) (vs : List Value) (pre : List Nat) (t1 : Tok) (m' : Fm), k < 16 ^ f → f ≤ 3 → pre.length ≤ 4 - f → k < 4096 → chn 4 N9 = pre ++ tailc f k → IntsAre vs (pre.map fun k : Nat => sg * (k : Int)) → Fr g' L' s'.heap m' → News g' L' s'.heap ((R9, listOf vs.toArray c) :: led₁) → m' (Str.ofString "number") = some (.int (k : Int) t1) → m' (Str.ofString "sign") = some (.int sg ts) → m' (Str.ofString "chain") = some (.ref R9) → P) : P := by
  refine hideG fun PG9 hG9 => ?_
  obtain ⟨ok, f, c, vs, pre, t1, m', h0, h1, h2, h3, h4, h5, h6, h7, h8, h9, h10⟩ := h
  refine hG9 ?_
  try clear hG9 PG9
  exact kk ok f c vs pre t1 m' h0 h1 h2 h3 h4 h5 h6 h7 h8 h9 h10
theorem c_ch : ∀ {w : World} {p : Program} {loose : List Str} {mean : ExcName → Option Value} {mg mb : Str → Option Value}
  {A : Around} {env : Env} {outer : List Env} {A₀ : Around} {base h₀ : Heap} {L : Addr} {m : Fm} {s : Shared} {Q E : Value → Shared → Prop}
  (sg : Int) (ts : Tok) (fl : Addr) (fv : List Value) (fs : List Nat) (n : Nat) (led : List Ent)
  (B : Below A₀ base outer h₀) (F : Fr h₀ L s.heap m) (X : (KK w.params).In h₀) (N : News h₀ L s.heap (led)) (T : Top p loose mean mg mb h₀) (hh : A.handled = none) (hA : A.frames = some (env :: outer)) (hf : env.frame = some L) (hk : env.scope.kind = .function) (hd : A.depth ≤ 450) (hu : A.units ≤ 4500)
  (hs : sg = 1 ∨ sg = -1) (hm : (fl, listOf fv.toArray n) ∈ led) (hf9 : IntsAre fv (fs.map Int.ofNat)) (hl : fs.length ≤ 3) (hb : ∀ f ∈ fs, f ≤ 2)
  (ret : ∀ (R : Nat) vs c s', IntsAre vs ((chn 4 (numOf fs)).map fun k : Nat => sg * (k : Int)) → (∀ q ∈ led, q.1 < R) → Fr h₀ L s'.heap m → News h₀ L s'.heap ((R, listOf vs.toArray c) :: led) → Ok s s' → Q (.ref R) s'),
  wpAny (model PySem.Challenge.rw_ik0072_01.row.toRowW.prog w) A (call (.ref 792) [.int sg ts, .ref fl]) Q E s := by
  k_fill
  intro w p loose mean mg mb A env outer A₀ base h₀ L m s Q E sg ts fl fv fs n led B F X N T hh hA hf hk hd hu hs hm hf9 hl hb ret
  refine hideG fun PG9 hG9 => ?_
  obtain ⟨ah, dp, fr, gd, un⟩ := A
  refine hG9 ?_
  try clear hG9 PG9
  cases hh
  cases hA
  refine hideG fun PG9 hG9 => ?_
  obtain ⟨cs, lo, gl, cl, qn, fn, ccd, fr, bi⟩ := env
  refine hG9 ?_
  try clear hG9 PG9
  cases hf
  refine hideG fun PG9 hG9 => ?_
  obtain ⟨ck, cnm, cg1, cg2, cmo⟩ := cs
  refine hG9 ?_
  try clear hG9 PG9
  cases hk
  refine topA_mono hd hu ?_
  refine wpAny_call ?_
  k_enter
  repeat' ((fail_if_success (first | (with_reducible show wpAny _ _ (exec (Stmt.While _ _ _ _) _) _ _ _) | (with_reducible show wpAny _ _ (exec (Stmt.For _ _ _ _ _) _) _ _ _) | (with_reducible show wpAny _ _ (exec (Stmt.Assign _ (Expr.ListComp _ _ _ _) _) _) _ _ _) | (with_reducible show wpAny _ _ (eval (Expr.ListComp _ _ _ _) _) _ _ _) | (with_reducible show wpAny _ _ (truthy (Value.ref _)) _ _ _) | (with_reducible show wpAny _ _ (getMethod (Value.ref _) _ _) _ _ _) | (with_reducible show wpAny _ _ (call (Value.builtin "list.append") _ _) _ _ _) | (with_reducible show And _ _) | (with_reducible show Exists _) | (with_reducible show TurnEnd _ _ _ _ _ _ _ _ _) | (with_reducible show ForSrc _ _ _ _ _ _ _ _ _ _ _))); tb_rel)
  rename_i g' L' h9 FG B' X' T' h8 F' N'
  have hsb : -1 ≤ sg ∧ sg ≤ 1 := by rcases hs with rfl | rfl <;> decide
  refine For_led g' rfl rfl rfl ?_
  repeat' ((fail_if_success (first | (with_reducible show wpAny _ _ (exec (Stmt.While _ _ _ _) _) _ _ _) | (with_reducible show wpAny _ _ (exec (Stmt.For _ _ _ _ _) _) _ _ _) | (with_reducible show wpAny _ _ (exec (Stmt.Assign _ (Expr.ListComp _ _ _ _) _) _) _ _ _) | (with_reducible show wpAny _ _ (eval (Expr.ListComp _ _ _ _) _) _ _ _) | (with_reducible show wpAny _ _ (truthy (Value.ref _)) _ _ _) | (with_reducible show wpAny _ _ (getMethod (Value.ref _) _ _) _ _ _) | (with_reducible show wpAny _ _ (call (Value.builtin "list.append") _ _) _ _ _) | (with_reducible show And _ _) | (with_reducible show Exists _) | (with_reducible show TurnEnd _ _ _ _ _ _ _ _ _) | (with_reducible show ForSrc _ _ _ _ _ _ _ _ _ _ _))); tb_rel)
  refine ForSrc.intro (vs := fv) (n := n) (fun i m led' => led' = led ∧ m (Str.ofString "sign") = some (.int sg ts) ∧ ∃ t1, m (Str.ofString "number") = some (.int (numOf (fs.take i) : Nat) t1)) F' N' ?_ ⟨rfl, rfl, _, rfl⟩ ?_ ?_
  · rintro i m' led' ⟨rfl, _⟩
    exact ⟨rfl, hm⟩
  · intro i v m₁ led₁ s₁ It E' hv hJ98 ok₁ F₁ N₁ lt
    refine hideG fun PG9 hG9 => ?_
    obtain ⟨rfl, hm1, t1, hm2⟩ := hJ98
    obtain ⟨y, u9, hy, rfl⟩ := ints_get hf9 hv
    obtain ⟨u, rfl⟩ := form2 hm1 hm2
    rw [List.getElem?_map] at hy
    obtain ⟨f9, hf, rfl⟩ := Option.map_eq_some_iff.mp hy
    have hnl := num_le (i := i) hl hb
    change Fr g' L' s₁.heap _ at F₁
    change News g' L' s₁.heap _ at N₁
    refine hG9 ?_
    try clear hG9 PG9
    repeat' ((fail_if_success (first | (with_reducible show wpAny _ _ (exec (Stmt.While _ _ _ _) _) _ _ _) | (with_reducible show wpAny _ _ (exec (Stmt.For _ _ _ _ _) _) _ _ _) | (with_reducible show wpAny _ _ (exec (Stmt.Assign _ (Expr.ListComp _ _ _ _) _) _) _ _ _) | (with_reducible show wpAny _ _ (eval (Expr.ListComp _ _ _ _) _) _ _ _) | (with_reducible show wpAny _ _ (truthy (Value.ref _)) _ _ _) | (with_reducible show wpAny _ _ (getMethod (Value.ref _) _ _) _ _ _) | (with_reducible show wpAny _ _ (call (Value.builtin "list.append") _ _) _ _ _) | (with_reducible show And _ _) | (with_reducible show Exists _) | (with_reducible show TurnEnd _ _ _ _ _ _ _ _ _) | (with_reducible show ForSrc _ _ _ _ _ _ _ _ _ _ _))); tb_rel)
    rename Fr g' L' _ _ => F2
    rename News g' L' _ _ => N2
    refine ⟨_, _, F2, N2, ⟨rfl, rfl, ?_⟩, ⟨rfl, id⟩⟩
    have e9 : ((numOf (fs.take (i + 1)) : Nat) : Int) = 16 * ((numOf (fs.take i) : Nat) : Int) + Int.ofNat f9 := by
      rw [List.take_add_one, hf]
      show ((numOf (fs.take i ++ [f9]) : Nat) : Int) = _
      rw [numOf_snoc]
      simp
    rw [e9]
    exact ⟨_, rfl⟩
  · intro m₁ led₁ s₁ E' hJ94 ok₁ F₁ N₁
    refine hideG fun PG9 hG9 => ?_
    obtain ⟨rfl, hm1, t1, hm2⟩ := hJ94
    have hlf : fs.length = fv.length := by have := ints_len hf9; rw [List.length_map] at this; exact this.symm
    rw [← hlf, List.take_length] at hm2
    obtain ⟨u, rfl⟩ := form2 hm1 hm2
    have hnl := num_lt hl hb
    have hn1 : numOf fs < 4096 := hnl
    refine hG9 ?_
    try clear hG9 PG9
    generalize hN : numOf fs = N9 at *
    repeat' ((fail_if_success (first | (with_reducible show wpAny _ _ (exec (Stmt.While _ _ _ _) _) _ _ _) | (with_reducible show wpAny _ _ (exec (Stmt.For _ _ _ _ _) _) _ _ _) | (with_reducible show wpAny _ _ (exec (Stmt.Assign _ (Expr.ListComp _ _ _ _) _) _) _ _ _) | (with_reducible show wpAny _ _ (eval (Expr.ListComp _ _ _ _) _) _ _ _) | (with_reducible show wpAny _ _ (truthy (Value.ref _)) _ _ _) | (with_reducible show wpAny _ _ (getMethod (Value.ref _) _ _) _ _ _) | (with_reducible show wpAny _ _ (call (Value.builtin "list.append") _ _) _ _ _) | (with_reducible show And _ _) | (with_reducible show Exists _) | (with_reducible show TurnEnd _ _ _ _ _ _ _ _ _) | (with_reducible show ForSrc _ _ _ _ _ _ _ _ _ _ _))); tb_rel)
    rename_i R9 h10 Fa Na l19 h11 Fb Nb
    have hlt : ∀ q ∈ led₁, q.1 < R9 := l19
    refine While_op (by first | passes_own | with_unfolding_all passes_own) (ChW g' L' R9 led₁ N9 sg ts s) ?turn N9 ?h0
    case h0 =>
      exact ChW.mk ⟨ok₁.os, ok₁.gens⟩ 3 0 [_] [N9] t1 _ hnl (Nat.le_refl _) (by simp) hn1 (chn_succ 3 N9) (.cons _ _ .nil) Fb Nb rfl rfl rfl
    case turn =>
      clear Fa Na Fb Nb
      intro k s' QB QO EW hEW hB hO hEE hJ9
      refine hJ9.out fun ok f c vs pre t2 m' hkf hf3 hpl hk4 hch hia F' N' hn1 hn2 hn3 => ?_
      clear hJ9
      refine hideG fun PG9 hG9 => ?_
      obtain ⟨u, hu9⟩ : ∃ u : Fm, m' = fun v => if v = Str.ofString "number" then some (.int (k : Int) t2) else if v = Str.ofString "sign" then some (.int sg ts) else if v = Str.ofString "chain" then some (.ref R9) else u v := ⟨m', form3 hn1 hn2 hn3⟩
      subst hu9
      have hk1 := fdiv16 k
      refine hG9 ?_
      try clear hG9 PG9
      repeat' ((fail_if_success (first | (with_reducible show wpAny _ _ (exec (Stmt.While _ _ _ _) _) _ _ _) | (with_reducible show wpAny _ _ (exec (Stmt.For _ _ _ _ _) _) _ _ _) | (with_reducible show wpAny _ _ (exec (Stmt.Assign _ (Expr.ListComp _ _ _ _) _) _) _ _ _) | (with_reducible show wpAny _ _ (eval (Expr.ListComp _ _ _ _) _) _ _ _) | (with_reducible show wpAny _ _ (truthy (Value.ref _)) _ _ _) | (with_reducible show wpAny _ _ (getMethod (Value.ref _) _ _) _ _ _) | (with_reducible show wpAny _ _ (call (Value.builtin "list.append") _ _) _ _ _) | (with_reducible show And _ _) | (with_reducible show Exists _) | (with_reducible show TurnEnd _ _ _ _ _ _ _ _ _) | (with_reducible show ForSrc _ _ _ _ _ _ _ _ _ _ _))); tb_rel)
      · have hk0 : k ≠ 0 := int_pos (by assumption)
        rename Fr g' L' _ _ => F5
        rename News g' L' _ _ => N5
        have hvl := ints_len hia
        rw [List.length_map] at hvl
        refine getMethod_append_N N5 (List.mem_cons_self ..) ?_
        repeat' ((fail_if_success (first | (with_reducible show wpAny _ _ (exec (Stmt.While _ _ _ _) _) _ _ _) | (with_reducible show wpAny _ _ (exec (Stmt.For _ _ _ _ _) _) _ _ _) | (with_reducible show wpAny _ _ (exec (Stmt.Assign _ (Expr.ListComp _ _ _ _) _) _) _ _ _) | (with_reducible show wpAny _ _ (eval (Expr.ListComp _ _ _ _) _) _ _ _) | (with_reducible show wpAny _ _ (truthy (Value.ref _)) _ _ _) | (with_reducible show wpAny _ _ (getMethod (Value.ref _) _ _) _ _ _) | (with_reducible show wpAny _ _ (call (Value.builtin "list.append") _ _) _ _ _) | (with_reducible show And _ _) | (with_reducible show Exists _) | (with_reducible show TurnEnd _ _ _ _ _ _ _ _ _) | (with_reducible show ForSrc _ _ _ _ _ _ _ _ _ _ _))); tb_rel)
        refine append_led (pre := []) F5 N5 (fun _ h => nomatch h) (fun q hq => Nat.ne_of_lt (hlt q hq)) (lee hvl (Nat.le_trans hpl (Nat.sub_le ..)) rfl) (fun h6 F6 N6 => ?_)
        repeat' ((fail_if_success (first | (with_reducible show wpAny _ _ (exec (Stmt.While _ _ _ _) _) _ _ _) | (with_reducible show wpAny _ _ (exec (Stmt.For _ _ _ _ _) _) _ _ _) | (with_reducible show wpAny _ _ (exec (Stmt.Assign _ (Expr.ListComp _ _ _ _) _) _) _ _ _) | (with_reducible show wpAny _ _ (eval (Expr.ListComp _ _ _ _) _) _ _ _) | (with_reducible show wpAny _ _ (truthy (Value.ref _)) _ _ _) | (with_reducible show wpAny _ _ (getMethod (Value.ref _) _ _) _ _ _) | (with_reducible show wpAny _ _ (call (Value.builtin "list.append") _ _) _ _ _) | (with_reducible show And _ _) | (with_reducible show Exists _) | (with_reducible show TurnEnd _ _ _ _ _ _ _ _ _) | (with_reducible show ForSrc _ _ _ _ _ _ _ _ _ _ _))); tb_rel)
        rename Fr g' L' _ _ => F7
        rename News g' L' _ _ => N7
        rw [hk1] at F7 N7
        cases f with
        | zero => exact absurd (Nat.lt_one_iff.mp hkf) hk0
        | succ g =>
          refine hB _ _ ?_
          dsimp only [WEnd]
          refine ⟨k / 16, div16 hk0, ChW.mk ⟨ok.os, ok.gens⟩ g (c + 1) (vs ++ [_]) (pre ++ [k / 16]) _ _ ?_ (Nat.le_of_succ_le hf3) (by rw [List.length_append, List.length_singleton]; exact sub_sz hf3 (Nat.le_of_ble_eq_true rfl) hpl) (Nat.lt_of_le_of_lt (Nat.div_le_self ..) hk4) ?_ ?_ F7 N7 rfl rfl rfl⟩
          · exact pow16 hkf
          · rw [hch, List.append_assoc]
            show pre ++ (if k = 0 then [] else chn (g + 1) (k / 16)) = _
            rw [if_neg hk0, chn_succ]
            rfl
          · rw [List.map_append]
            exact ints_snoc hia _ _
      · have hk0 : k = 0 := int_npos (by assumption)
        refine hO _ _ ?_
        repeat' ((fail_if_success (first | (with_reducible show wpAny _ _ (exec (Stmt.While _ _ _ _) _) _ _ _) | (with_reducible show wpAny _ _ (exec (Stmt.For _ _ _ _ _) _) _ _ _) | (with_reducible show wpAny _ _ (exec (Stmt.Assign _ (Expr.ListComp _ _ _ _) _) _) _ _ _) | (with_reducible show wpAny _ _ (eval (Expr.ListComp _ _ _ _) _) _ _ _) | (with_reducible show wpAny _ _ (truthy (Value.ref _)) _ _ _) | (with_reducible show wpAny _ _ (getMethod (Value.ref _) _ _) _ _ _) | (with_reducible show wpAny _ _ (call (Value.builtin "list.append") _ _) _ _ _) | (with_reducible show And _ _) | (with_reducible show Exists _) | (with_reducible show TurnEnd _ _ _ _ _ _ _ _ _) | (with_reducible show ForSrc _ _ _ _ _ _ _ _ _ _ _))); tb_rel)
        rename Fr h₀ L _ m => F9
        rename News h₀ L _ _ => N9b
        refine ret R9 vs _ _ ?_ hlt F9 N9b ⟨ok.os, ok.gens⟩
        rw [hch, hk0]
        show IntsAre vs ((pre ++ []).map _)
        rw [List.append_nil]
        exact hia
end
section
open PySem PySem.W PySem.Spec PySem.Calls PyProof.Rows
open LCg in
section
variable {prog : Program} {w : World} {A : Around} {E : Value → Shared → Prop} {s : Shared} {h₀ : Heap} {L : Addr} {m : Fm} {env cenv : Env}
noncomputable def CmEnd (h₀ : Heap) (L : Addr) (m : Fm) (s₁ : Shared) (I : Addr) (oI : Obj) (C D : Addr) (oD : Obj) (S J' : List Ent → Prop) (s₂ : Shared) : Prop :=
  ∃ oC mC led, Ok s₁ s₂ ∧ Fr h₀ L s₂.heap m ∧ News h₀ L s₂.heap ((I, oI) :: (C, oC) :: (D, oD) :: led) ∧ NsObj oC mC ∧ Off3 I C D led ∧ S led ∧ J' led
noncomputable abbrev testsOf (ifs : List PySem.Expr) (cenv : Env) : Sem Bool := forIn ifs true fun c r => if r = true then do let ok ← isTrue c cenv (eval c cenv); pure (ForInStep.yield ok) else pure (ForInStep.yield r)
noncomputable def CmTurn (prog : Program) (w : World) (A : Around) (h₀ : Heap) (L : Addr) (m : Fm) (cenv : Env) (elt target : PySem.Expr) (ifs : List PySem.Expr) (s : Shared) (S : List Ent → Prop) (P : Nat → Value → Prop) (J : Nat → List Value → List Ent → Prop) (n : Nat) (I C D : Addr) : Prop :=
  ∀ i ys led v s₁ oI oC mC (E' : Value → Shared → Prop), i < n → P i v → J i ys led → NsObj oC mC → Ok s s₁ → Fr h₀ L s₁.heap m → News h₀ L s₁.heap ((I, oI) :: (C, oC) :: (D, lst ys) :: led) → Off3 I C D led → ((@Ne Nat I C) ∧ (@Ne Nat I D) ∧ (@Ne Nat C D)) → S led →
    wpAny (model prog w) A (assign target cenv v) (fun _ s₂ => wpAny (model prog w) A (testsOf ifs cenv) (fun ok s₃ =>
      if ok = true then wpAny (model prog w) A (eval elt cenv) (fun y s₄ => CmEnd h₀ L m s₁ I oI C D (lst ys) S (J (i + 1) (ys ++ [y])) s₄) E' s₃
      else CmEnd h₀ L m s₁ I oI C D (lst ys) S (J (i + 1) ys) s₃) E' s₂) E' s₁
theorem compLoop_go {elt target iter : PySem.Expr} {ifs : List PySem.Expr} {scope : Scope} {pos : Pos} {it acc : Value} {env : Env} {R : Result → Shared → Prop} (I : Nat → Shared → Prop)
    (turn : ∀ n s, I n s → wpAny (model prog w) A (pyNext it) (fun r s₁ => match r with
      | none => R (.ok .next) s₁
      | some v => wpAny (model prog w) A (letOwnedTupleGo target it v) (fun _ s₁' => wpAny (model prog w) A (assign target env v) (fun _ s₂ =>
          wpAny (model prog w) A (forIn ifs true fun c r => if r = true then do let ok ← isTrue c env (eval c env); pure (ForInStep.yield ok) else pure (ForInStep.yield r)) (fun ok s₃ =>
            if ok = true then wpAny (model prog w) A (eval elt env) (fun x s₄ =>
              wpAny (model prog w) A (call (.builtin "list.append") [acc, x]) (fun _ s₅ => ∃ m, m < n ∧ I m s₅) (notedBy (model prog w) A env fun e s' => R (.error e) s') s₄) (notedBy (model prog w) A env fun e s' => R (.error e) s') s₃
            else ∃ m, m < n ∧ I m s₃) (notedBy (model prog w) A env fun e s' => R (.error e) s') s₂) (notedBy (model prog w) A env fun e s' => R (.error e) s') s₁') (notedBy (model prog w) A env fun e s' => R (.error e) s') s₁) (notedBy (model prog w) A env fun e s' => R (.error e) s') s)
    (n : Nat) (h : I n s) : codeAny (model prog w) A (.compLoop (.ListComp elt [⟨target, iter, ifs, 0⟩] scope pos) 0 it acc env) R s := by
  refine codeAny_loop rfl I (fun n s hI => ?_) n h
  show wpAny _ A ((compTurn (.ListComp elt [⟨target, iter, ifs, 0⟩] scope pos) 0 it acc env).onRaise (fun x => do noteFrame x env; theTreesLotGoes x)) _ _ s
  refine wpAny_noted ?_
  rw [compTurn_list]
  refine wpAny_bind (wpAny_standAt (wpAny_bind (wpAny_mono (turn n s hI) (fun r s₁ h₁ => ?_) fun _ _ h' => h')))
  cases r with
  | none => exact wpAny_pure h₁
  | some v =>
    refine wpAny_bind (wpAny_mono h₁ (fun _ s₁' h₁' => ?_) fun _ _ h' => h')
    refine wpAny_bind (wpAny_mono h₁' (fun _ s₂ h₂ => wpAny_bind (wpAny_mono h₂ (fun ok s₃ h₃ => ?_) fun _ _ h' => h')) fun _ _ h' => h')
    cases ok with
    | true =>
      rw [if_pos rfl] at h₃ ⊢
      exact wpAny_bind (wpAny_bind (wpAny_mono h₃ (fun x s₄ h₄ => wpAny_bind (wpAny_mono h₄ (fun _ s₅ h₅ => wpAny_pure (wpAny_pure ⟨rfl, h₅⟩)) fun _ _ h' => h')) fun _ _ h' => h'))
    | false =>
      rw [if_neg Bool.false_ne_true] at h₃ ⊢
      exact wpAny_bind (wpAny_pure (wpAny_pure ⟨rfl, h₃⟩))
theorem cx_loop {elt target iter : PySem.Expr} {ifs : List PySem.Expr} {scope : Scope} {pos : Pos} {I C D : Addr} {n : Nat} {P : Nat → Value → Prop} {fp : List Addr} {St : Nat → Heap → Prop} {S : List Ent → Prop} {J : Nat → List Value → List Ent → Prop} {R : Result → Shared → Prop} {led : List Ent} {oC : Obj} {mC : Fm}
    (K : IterOk prog w A h₀ L I n P fp St S) (hsz : n ≤ sizeLine) (hDf : D ∉ fp) (hIC : (@Ne Nat I C)) (hID : (@Ne Nat I D)) (hCD : (@Ne Nat C D)) (hIL : L ≠ I) (hI₀ : h₀.get? I = none)
    (F : Fr h₀ L s.heap m) (N : News h₀ L s.heap ((C, oC) :: (D, lst []) :: led)) (hC : NsObj oC mC) (hst : St 0 s.heap) (off : Off3 I C D led) (hS : S led) (hJ : J 0 [] led)
    (turn : CmTurn prog w A h₀ L m cenv elt target ifs s S P J n I C D)
    (done : ∀ ys led s' oC mC, J n ys led → Ok s s' → Fr h₀ L s'.heap m → News h₀ L s'.heap ((C, oC) :: (D, lst ys) :: led) → NsObj oC mC → Off3 I C D led → R (.ok .next) s') 
    (hgo : ∀ i v (s : Shared) (Q : Unit → Shared → Prop) (E : Value → Shared → Prop), St i s.heap → Q () s → wpAny (model prog w) A (letOwnedTupleGo target (.ref I) v) Q E s) :
    codeAny (model prog w) A (.compLoop (.ListComp elt [⟨target, iter, ifs, 0⟩] scope pos) 0 (.ref I) (.ref D) cenv) R s := by
  refine compLoop_go (fun k s' => ∃ i ys led oC mC, Ok s s' ∧ i ≤ n ∧ k = n + 1 - i ∧ St i s'.heap ∧ Fr h₀ L s'.heap m ∧ News h₀ L s'.heap ((C, oC) :: (D, lst ys) :: led) ∧ NsObj oC mC ∧ Off3 I C D led ∧ S led ∧ J i ys led ∧ ys.length ≤ i)
    ?_ (n + 1) ⟨0, [], led, oC, mC, Ok.refl s, Nat.zero_le _, rfl, hst, F, N, hC, off, hS, hJ, Nat.le_refl _⟩
  intro k s' hJ92
  refine hideG fun PG9 hG9 => ?_
  obtain ⟨i, ys, led, oC, mC, ok, hi, rfl, hst, F, N, hC, off, hS, hJ, hyl⟩ := hJ92
  have offI : ∀ p ∈ (C, oC) :: (D, lst ys) :: led, p.1 ≠ I := by
    intro p hp
    rcases List.mem_cons.mp hp with rfl | hp
    · exact Ne.symm hIC
    · rcases List.mem_cons.mp hp with rfl | hp
      · exact Ne.symm hID
      · exact (off.mem p hp).1
  refine hG9 ?_
  try clear hG9 PG9
  by_cases hlt : i < n
  · refine K.W.item i _ _ _ hlt hst fun v h₂ tk₂ hPv hst₂ hk₂ => ?_
    refine hgo (i + 1) v _ _ _ hst₂ ?_
    refine hideG fun PG9 hG9 => ?_
    obtain ⟨oI, heI⟩ := K.here _ _ hst₂
    have F₂ := fr_but F hk₂ hIL hI₀
    have N₂ := news_but N hk₂ offI
    have N₃ : News h₀ L h₂ ((I, oI) :: (C, oC) :: (D, lst ys) :: led) := fun p hp => by
      rcases List.mem_cons.mp hp with rfl | hp
      · exact ⟨heI, Ne.symm hIL, hI₀⟩
      · exact N₂ p hp
    have fin : ∀ (ys' : List Value) s₄, CmEnd h₀ L m { s' with heap := h₂, toks := tk₂ } I oI C D (lst ys) S (J (i + 1) ys') s₄ → St (i + 1) s₄.heap ∧ ∃ oC' mC' led', Ok s s₄ ∧ Fr h₀ L s₄.heap m ∧ News h₀ L s₄.heap ((C, oC') :: (D, lst ys) :: led') ∧ NsObj oC' mC' ∧ Off3 I C D led' ∧ S led' ∧ J (i + 1) ys' led' := by
      rintro ys' s₄ ⟨oC', mC', led', ok₄, F₄, N₄, hC₄, off₄, hS₄, hJ₄⟩
      refine ⟨K.keep _ _ _ _ led' hst₂ heI (N₄ _ (List.mem_cons_self ..)).1 F₄.keep (fun p hp => N₄ p (List.mem_cons_of_mem _ (List.mem_cons_of_mem _ (List.mem_cons_of_mem _ hp)))) hS₄, oC', mC', led', ⟨ok₄.os.trans ok.os, fun h => ok₄.gens (ok.gens h)⟩, F₄, fun p hp => N₄ p (List.mem_cons_of_mem _ hp), hC₄, off₄, hS₄, hJ₄⟩
    refine hG9 ?_
    try clear hG9 PG9
    refine wpAny_mono (turn i ys led v { s' with heap := h₂, toks := tk₂ } oI oC mC _ hlt hPv hJ hC ⟨ok.os, ok.gens⟩ F₂ N₃ off ⟨hIC, hID, hCD⟩ hS) (fun _ s₂ h₂ => wpAny_mono h₂ (fun okb s₃ h₃ => ?_) fun _ _ e => e) fun _ _ e => e
    cases okb with
    | false =>
      rw [if_neg Bool.false_ne_true] at h₃ ⊢
      refine hideG fun PG9 hG9 => ?_
      obtain ⟨hst₄, oC', mC', led', ok₄, F₄, N₄, hC₄, off₄, hS₄, hJ₄⟩ := fin _ _ h₃
      refine hG9 ?_
      try clear hG9 PG9
      exact ⟨n + 1 - (i + 1), turn_lt hlt, i + 1, ys, led', oC', mC', ok₄, hlt, rfl, hst₄, F₄, N₄, hC₄, off₄, hS₄, hJ₄, Nat.le_succ_of_le hyl⟩
    | true =>
      rw [if_pos rfl] at h₃ ⊢
      refine wpAny_mono h₃ (fun y s₄ h₄ => ?_) fun _ _ e => e
      refine hideG fun PG9 hG9 => ?_
      obtain ⟨hst₄, oC', mC', led', ok₄, F₄, N₄, hC₄, off₄, hS₄, hJ₄⟩ := fin _ _ h₄
      have zD := N₄ (D, lst ys) (List.mem_cons_of_mem _ (List.mem_cons_self ..))
      refine hG9 ?_
      try clear hG9 PG9
      refine append_at (hsz := by show ys.toArray.size ≤ sizeLine; rw [List.size_toArray]; exact Nat.le_trans hyl (Nat.le_trans (Nat.le_of_lt hlt) hsz)) zD.1 fun h₅ hs₅ hD₅ => ?_
      have off4 := off₄.mem
      refine ⟨n + 1 - (i + 1), turn_lt hlt, i + 1, ys ++ [y], led', oC', mC', ⟨ok₄.os, ok₄.gens⟩, hlt, rfl, K.W.frame _ _ _ hst₄ fun b hb o e => hs₅.extBut b o (fun q => hDf (q ▸ hb)) e, F₄.change hs₅ zD.2.1 zD.2.2, fun p hp => ?_, hC₄, off₄, hS₄, hJ₄, by rw [List.length_append, List.length_singleton]; exact Nat.succ_le_succ hyl⟩
      rcases List.mem_cons.mp hp with rfl | hp
      · have z := N₄ (C, oC') (List.mem_cons_self ..)
        exact ⟨hs₅.extBut _ _ hCD z.1, z.2⟩
      · rcases List.mem_cons.mp hp with rfl | hp
        · exact ⟨hD₅.trans (congrArg some (lst_snoc ys y)), zD.2⟩
        · have z := N₄ p (List.mem_cons_of_mem _ (List.mem_cons_of_mem _ hp))
          exact ⟨hs₅.extBut _ _ (off4 p hp).2.2 z.1, z.2⟩
  · obtain rfl : i = n := Nat.le_antisymm hi (Nat.not_lt.mp hlt)
    refine K.W.done _ _ _ hst fun h₂ tk₂ hk₂ => ?_
    exact done ys led _ oC mC hJ ⟨ok.os, ok.gens⟩ (fr_but F hk₂ hIL hI₀) (news_but N hk₂ offI) hC off
theorem compEnv_new {M : Model} {scope : Scope} {cl CL : List (Str × Addr)} {globals : Addr} {qual : Str} {Q : Env → Shared → Prop} (hcf : cellsFrom (s.heap.objs.size + 1) scope.names cl = CL)
    (h : Q { scope := scope, locals := s.heap.objs.size, globals := globals, cells := CL, qual := qual, func := none, code := env.code, frame := env.frame, builtins := env.builtins } { s with heap := pushCells (s.heap.push { cls := .type "dict", data := .dict #[] }) scope.names }) :
    wpAny M A (newFunctionEnv scope globals cl [] qual none .none (some env)) Q E s := by
  simp only [newFunctionEnv, Option.isSome_some, if_true]
  refine wpAny_bind (wpAny_alloc ?_)
  refine wpAny_bind (wpAny_layCells _ (fun name kind cells => by cases hkc : kind == NameKind.cell <;> simp [hkc]) _ _ _ _ ?_)
  rw [show ({ s with heap := s.heap.push { cls := .type "dict", data := .dict #[] } } : Shared).heap.objs.size = s.heap.objs.size + 1 from Heap.size_push .., hcf]
  rw [List.forIn_nil]
  exact wpAny_bind (wpAny_pure (wpAny_pure h))
noncomputable abbrev cellObj : Obj := { cls := .type "cell", data := .cell none }
noncomputable def CxSrc (prog : Program) (w : World) (A : Around) (h₀ : Heap) (L : Addr) (m : Fm) (env : Env) (elt target : PySem.Expr) (ifs : List PySem.Expr) (scope : Scope) (CL : Nat → List (Str × Addr)) (ex : Nat → List Ent) (Fin : List Value → List Ent → Addr → Shared → Prop) (it : Value) (s₂ : Shared) : Prop :=
  ∃ (I : Addr) (n : Nat) (P : Nat → Value → Prop) (fp : List Addr) (St : Nat → Heap → Prop) (S : List Ent → Prop) (J : Addr → Nat → List Value → List Ent → Prop) (led : List Ent), it = .ref I ∧ IterOk prog w A h₀ L I n P fp St S ∧ n ≤ sizeLine ∧ (∀ b ∈ I :: fp, b < s₂.heap.objs.size) ∧ L ≠ I ∧ h₀.get? I = none ∧ Fr h₀ L s₂.heap m ∧ News h₀ L s₂.heap led ∧ (∀ p ∈ led, p.1 ≠ I) ∧ St 0 s₂.heap ∧
    (∀ i v (s : Shared) (Q : Unit → Shared → Prop) (E : Value → Shared → Prop), St i s.heap → Q () s → wpAny (model prog w) A (letOwnedTupleGo target (.ref I) v) Q E s) ∧
    ∀ C D s₃, Ok s₂ s₃ → @LT.lt Nat _ D C → (∀ p ∈ led, p.1 < D) → S (ex (C + 1) ++ led) ∧ J C 0 [] (ex (C + 1) ++ led) ∧ CmTurn prog w A h₀ L m (compEnvC scope (CL (C + 1)) C env) elt target ifs s₃ S P (J C) n I C D ∧ (∀ ys led' s', J C n ys led' → Ok s₂ s' → Fr h₀ L s'.heap m → News h₀ L s'.heap ((D, lst ys) :: led') → (∀ p ∈ led', p.1 ≠ D) → (∀ p ∈ led', p.1 ≠ C) → Fin ys led' D s')
theorem cx_block {elt target iter : PySem.Expr} {ifs : List PySem.Expr} {scope : Scope} {cl : List (Str × Addr)} {CL : Nat → List (Str × Addr)} {ex : Nat → List Ent} {pos : Pos} {it : Value} {s₂ : Shared} {Fin : List Value → List Ent → Addr → Shared → Prop} {RR : Value → Addr → Result → Shared → Prop}
    (hcf : ∀ n, cellsFrom n scope.names cl = CL n) (hex : ∀ h : Heap, ∀ p ∈ ex h.objs.size, (pushCells h scope.names).get? p.1 = some p.2 ∧ h.objs.size ≤ p.1)
    (h : CxSrc prog w A h₀ L m env elt target ifs scope CL ex Fin it s₂)
    (hRR : ∀ D C ys led s' oC mC, Fr h₀ L s'.heap m → News h₀ L s'.heap ((C, oC) :: (D, lst ys) :: led) → NsObj oC mC → (∀ p ∈ led, p.1 ≠ D) → (∀ p ∈ led, p.1 ≠ C) → (@Ne Nat C D) → Ok s₂ s' → (∀ s'', Ok s' s'' → Fr h₀ L s''.heap m → News h₀ L s''.heap ((D, lst ys) :: led) → Fin ys led D s'') → RR (.ref D) C (.ok .next) s') :
    wpAny (model prog w) A (newList []) (fun acc s₃ => wpAny (model prog w) A (newFunctionEnv scope env.globals cl [] env.qual none .none (some env)) (fun cenv s₄ =>
      codeAny (model prog w) A (.compStart (.ListComp elt [⟨target, iter, ifs, 0⟩] scope pos) 0 it acc { cenv with scope := relabel scope env }) (RR acc cenv.locals) s₄) E s₃) E s₂ := by
  refine hideG fun PG9 hG9 => ?_
  obtain ⟨I, n, P, fp, St, S, J, led, rfl, K, hsz, hfp, hIL, hI₀, F, N, offI, hst, hgo, go⟩ := h
  refine hG9 ?_
  try clear hG9 PG9
  refine wpAny_newObj_type (compEnv_new (hcf _) ?_)
  dsimp only
  generalize hH2 : s₂.heap.push { cls := .type "list", dict := none, data := .seq ([] : List Value).toArray } = H2
  have hC : H2.objs.size = s₂.heap.objs.size + 1 := by rw [← hH2, Heap.size_push]
  generalize hH3 : H2.push { cls := .type "dict", data := .dict #[] } = H3
  have hC3 : H3.objs.size = H2.objs.size + 1 := by rw [← hH3, Heap.size_push]
  have up23 : ∀ b o, H2.get? b = some o → H3.get? b = some o := fun b o e => hH3 ▸ Heap.get?_push_of_some _ e
  generalize hh₁ : pushCells H3 scope.names = h₁
  have up31 : ∀ b o, H3.get? b = some o → h₁.get? b = some o := fun b o e => hh₁ ▸ pushCells_keeps _ _ b o e
  have below : ∀ b, b < s₂.heap.objs.size → b ≠ H2.objs.size ∧ b ≠ s₂.heap.objs.size := fun b hb => ⟨by rw [hC]; exact Nat.ne_of_lt (Nat.lt_succ_of_lt hb), Nat.ne_of_lt hb⟩
  have hCD : (@Ne Nat H2.objs.size s₂.heap.objs.size) := by rw [hC]; exact Nat.ne_of_gt (Nat.lt_succ_self _)
  have old : ∀ b o, s₂.heap.get? b = some o → h₁.get? b = some o := fun b o e => up31 b o (up23 b o (hH2 ▸ Heap.get?_push_of_some _ e))
  have hacc : h₁.get? s₂.heap.objs.size = some (lst []) := up31 _ _ (up23 _ _ (hH2 ▸ Heap.get?_push_size _ rfl))
  have hIlt : I < s₂.heap.objs.size := hfp I (List.mem_cons_self ..)
  have fresh₀ : ∀ a, s₂.heap.objs.size ≤ a → h₀.get? a = none := fun a ha => by
    cases e : h₀.get? a with
    | none => rfl
    | some o' => exact absurd (Heap.lt_size (F.keep a o' e)) (Nat.not_lt.mpr ha)
  have hLlt : L < s₂.heap.objs.size := F.ns.lt
  have hns₁ : h₁.Ns H2.objs.size (fun _ => none) := (hH3 ▸ Heap.Ns.new H2 (.type "dict")).keeps up31
  refine hideG fun PG9 hG9 => ?_
  obtain ⟨oC, heC, hoC⟩ := ns_obj hns₁
  have ltl : ∀ p ∈ led, p.1 < s₂.heap.objs.size := fun p hp => Heap.lt_size (N p hp).1
  have hexp : ∀ p ∈ ex (H2.objs.size + 1), h₁.get? p.1 = some p.2 ∧ H2.objs.size + 1 ≤ p.1 := by
    intro p hp
    rw [← hC3] at hp
    obtain ⟨e1, e2⟩ := hex H3 p hp
    exact ⟨hh₁ ▸ e1, hC3 ▸ e2⟩
  have gtN : ∀ {a b : Nat}, a + 1 ≤ b → @LT.lt Nat _ a b := fun h => h
  have off3 : Off3 I H2.objs.size s₂.heap.objs.size (ex (H2.objs.size + 1) ++ led) := Off3.of fun p hp => by
    rcases List.mem_append.mp hp with hp | hp
    · have := (hexp p hp).2
      have h2 : @LT.lt Nat _ H2.objs.size p.1 := this
      have h3 : @LT.lt Nat _ s₂.heap.objs.size p.1 := Nat.lt_trans (by rw [hC]; exact Nat.lt_succ_self _) h2
      exact ⟨Nat.ne_of_gt (Nat.lt_trans hIlt h3), Nat.ne_of_gt h2, Nat.ne_of_gt h3⟩
    · exact ⟨offI p hp, (below _ (ltl p hp)).1, (below _ (ltl p hp)).2⟩
  have N₁ : News h₀ L h₁ ((H2.objs.size, oC) :: (s₂.heap.objs.size, lst []) :: (ex (H2.objs.size + 1) ++ led)) := fun p hp => by
    rcases List.mem_cons.mp hp with rfl | hp
    · exact ⟨heC, Ne.symm (below L hLlt).1, fresh₀ _ (by rw [hC]; exact Nat.le_succ _)⟩
    · rcases List.mem_cons.mp hp with rfl | hp
      · exact ⟨hacc, Ne.symm (below L hLlt).2, fresh₀ _ (Nat.le_refl _)⟩
      · rcases List.mem_append.mp hp with hp | hp
        · obtain ⟨e1, e2⟩ := hexp p hp
          have h3 : @LT.lt Nat _ s₂.heap.objs.size p.1 := Nat.lt_trans (by rw [hC]; exact Nat.lt_succ_self _) (show @LT.lt Nat _ H2.objs.size p.1 from e2)
          exact ⟨e1, Nat.ne_of_gt (Nat.lt_trans hLlt h3), fresh₀ _ (Nat.le_of_lt h3)⟩
        · exact ⟨old _ _ (N p hp).1, (N p hp).2⟩
  obtain ⟨hS, hJ, turn, fin⟩ := go H2.objs.size s₂.heap.objs.size { s₂ with heap := h₁ } ⟨rfl, id⟩ (by rw [hC]; exact Nat.lt_succ_self _) ltl
  have hst₁ : St 0 h₁ := K.W.frame _ _ _ hst fun b _ o e => old b o e
  refine hG9 ?_
  try clear hG9 PG9
  have loop : codeAny (model prog w) A (.compLoop (.ListComp elt [⟨target, iter, ifs, 0⟩] scope pos) 0 (.ref I) (.ref s₂.heap.objs.size) (compEnvC scope (CL (H2.objs.size + 1)) H2.objs.size env))
      (RR (.ref s₂.heap.objs.size) H2.objs.size) { s₂ with heap := h₁ } := by
    refine cx_loop K hsz (fun hm => Nat.lt_irrefl _ (hfp _ (List.mem_cons_of_mem _ hm))) (below I hIlt).1 (below I hIlt).2 hCD hIL hI₀ (F.keeps old) N₁ hoC hst₁ off3 hS hJ turn (fun ys led' s' oC' mC' hJ' ok F' N' hC' off' => ?_) hgo
    have o3 := off'.mem
    exact hRR _ _ ys led' s' oC' mC' F' N' hC' (fun p hp => (o3 p hp).2.2) (fun p hp => (o3 p hp).2.1) hCD ⟨ok.os, ok.gens⟩ fun s'' ok'' F'' N'' => fin ys led' s'' hJ' ⟨ok''.os.trans ok.os, fun h => ok''.gens (ok.gens h)⟩ F'' N'' (fun p hp => (o3 p hp).2.2) (fun p hp => (o3 p hp).2.1)
  exact codeAny_compStart_list loop (K.W.self 0 _ _ _ hst₁ loop)
theorem cx_eval {elt target iter : PySem.Expr} {ifs : List PySem.Expr} {scope : Scope} {cl : List (Str × Addr)} {pos : Pos} {Q : Value → Shared → Prop} (CL : Nat → List (Str × Addr)) (ex : Nat → List Ent) (F₀ : Fr h₀ L s.heap m)
    (hclos : closureFor scope env = pure cl) (hcf : ∀ n, cellsFrom n scope.names cl = CL n) (hex : ∀ h : Heap, ∀ p ∈ ex h.objs.size, (pushCells h scope.names).get? p.1 = some p.2 ∧ h.objs.size ≤ p.1) (hkind : scope.kind = .function)
    (hnames : ∀ y ∈ scope.names, y.2 = .local → scope.names.lookup y.1 = some .local)
    (h : wpAny (model prog w) A (eval iter env) (fun xv s₁ => wpAny (model prog w) A (pyIter xv) (CxSrc prog w A h₀ L m env elt target ifs scope CL ex (fun ys led D s' => Q (.ref D) s')) E s₁) E s)
    (hs : ∀ x, foldedSetIterable iter env x = pure x := by intro _; rfl) :
    wpAny (model prog w) A (eval (.ListComp elt [⟨target, iter, ifs, 0⟩] scope pos) env) Q E s := by
  rw [eval_ListComp]
  refine wpAny_comprehension_free (use := none) rfl hs hclos hkind hnames (wpAny_mono h (fun xv s₁ h₁ => wpAny_mono h₁ (fun it s₂ h₂ => ?_) fun _ _ e => e) fun _ _ e => e)
  refine cx_block hcf hex h₂ (fun D C ys led s' oC mC F N hC offD offC hCD ok fin => ?_)
  have zC := N (C, oC) (List.mem_cons_self ..)
  refine ⟨mC, hC.ns zC.1, fun h' hs' => fin _ ⟨rfl, id⟩ (F.change hs' zC.2.1 zC.2.2) fun p hp => ?_⟩
  have z := N p (List.mem_cons_of_mem _ hp)
  refine ⟨hs'.extBut _ _ ?_ z.1, z.2⟩
  rcases List.mem_cons.mp hp with rfl | hp
  · exact Ne.symm hCD
  · exact offC p hp
theorem cx_assign {elt target iter : PySem.Expr} {ifs : List PySem.Expr} {scope : Scope} {cl : List (Str × Addr)} {y : Str} {py pos spos : Pos} {Q : Flow → Shared → Prop} (CL : Nat → List (Str × Addr)) (ex : Nat → List Ent) (F₀ : Fr h₀ L s.heap m) (hLe : env.locals = L)
    (hsw : swapsWith (.ListComp elt [⟨target, iter, ifs, 0⟩] scope pos) (some (.Name y py)) spos.line env = pure true)
    (hclos : closureFor scope env = pure cl) (hcf : ∀ n, cellsFrom n scope.names cl = CL n) (hex : ∀ h : Heap, ∀ p ∈ ex h.objs.size, (pushCells h scope.names).get? p.1 = some p.2 ∧ h.objs.size ≤ p.1) (hkind : scope.kind = .function)
    (hnames : ∀ y ∈ scope.names, y.2 = .local → scope.names.lookup y.1 = some .local)
    (hy : env.kindOf y = some .local) (hp : (env.scope.kind == .class || (env.scope.kind == .module && env.locals != env.globals)) = false)
    (h : wpAny (model prog w) A (eval iter env) (fun xv s₁ => wpAny (model prog w) A (pyIter xv) (CxSrc prog w A h₀ L m env elt target ifs scope CL ex (fun ys led D s' => ∀ h', Fr h₀ L h' (fun z => if z = y then some (.ref D) else m z) → News h₀ L h' ((D, lst ys) :: led) → Q .next { s' with heap := h', toks := s'.toks + 1 })) E s₁) E s)
    (hs : ∀ x, foldedSetIterable iter env x = pure x := by intro _; rfl) :
    wpAny (model prog w) A (exec (.Assign [.Name y py] (.ListComp elt [⟨target, iter, ifs, 0⟩] scope pos) spos) env) Q E s := by
  refine hideG fun PG9 hG9 => ?_
  subst hLe
  refine hG9 ?_
  try clear hG9 PG9
  rw [exec_Assign_Name_used _ _ _ _ hsw]
  refine wpAny_bind (wpAny_standAt (wpAny_bind ?_))
  show wpAny _ A (do let _ ← comprehension (.ListComp elt [⟨target, iter, ifs, 0⟩] scope pos) scope env _ (newList []) false (eval iter env) (some (assign (.Name y py) env))) _ _ s
  refine wpAny_bind (wpAny_mono (wpAny_comprehension_free (use := some (assign (.Name y py) env)) (Q := fun _ s' => Q .next s') rfl hs hclos hkind hnames
    (wpAny_mono h (fun xv s₁ h₁ => wpAny_mono h₁ (fun it s₂ h₂ => ?_) fun _ _ e => e) fun _ _ e => e)) (fun _ s' hq => wpAny_pure (wpAny_pure hq)) fun _ _ e => e)
  refine cx_block hcf hex h₂ (fun D C ys led s' oC mC F N hC offD offC hCD ok fin => ?_)
  have zC := N (C, oC) (List.mem_cons_self ..)
  show wpAny (model prog w) A (assign (.Name y py) env (.ref D)) _ _ _
  refine wpAny_assign_Name (wpAny_storeName_local hy F.ns (fun h₂ hn₂ hs₂ => ?_) hp)
  have F₂ := F.set hn₂ hs₂
  have N₂ := N.set hs₂
  have zC₂ := N₂ (C, oC) (List.mem_cons_self ..)
  refine ⟨mC, hC.ns zC₂.1, fun h' hs' => ?_⟩
  refine fin s' (Ok.refl s') F (fun p hp => N p (List.mem_cons_of_mem _ hp)) h' (F₂.change hs' zC₂.2.1 zC₂.2.2) fun p hp => ?_
  have z := N₂ p (List.mem_cons_of_mem _ hp)
  refine ⟨hs'.extBut _ _ ?_ z.1, z.2⟩
  rcases List.mem_cons.mp hp with rfl | hp
  · exact Ne.symm hCD
  · exact offC p hp
theorem cx_list {elt target : PySem.Expr} {ifs : List PySem.Expr} {scope : Scope} {CL : Nat → List (Str × Addr)} {ex : Nat → List Ent} {Fin : List Value → List Ent → Addr → Shared → Prop} {ax : Addr} {vs : List Value} {led : List Ent} (J : Addr → Nat → List Value → List Ent → Prop)
    (hh : A.handled = none) (F : Fr h₀ L s.heap m) (N : News h₀ L s.heap led) (hS : SrcAt h₀ ax vs.toArray led) (hsz : vs.length ≤ 100000)
    (h : ∀ I C D s₃, Ok s s₃ → @LT.lt Nat _ D C → (∀ p ∈ led, p.1 < D) → J C 0 [] (ex (C + 1) ++ led) ∧ CmTurn prog w A h₀ L m (compEnvC scope (CL (C + 1)) C env) elt target ifs s₃ (SrcAt h₀ ax vs.toArray) (fun i v => vs[i]? = some v) (J C) vs.length I C D ∧
      (∀ ys led' s', J C vs.length ys led' → Ok s s' → Fr h₀ L s'.heap m → News h₀ L s'.heap ((D, lst ys) :: led') → (∀ p ∈ led', p.1 ≠ D) → (∀ p ∈ led', p.1 ≠ C) → Fin ys led' D s')) :
    wpAny (model prog w) A (pyIter (.ref ax)) (CxSrc prog w A h₀ L m env elt target ifs scope CL ex Fin) E s := by
  have hl := hS.list F.keep N
  have hlt : ax < s.heap.objs.size := by obtain ⟨_, e, _⟩ := hl; exact Heap.lt_size e
  refine wpAny_pyIter_list hl ?_
  have up : ∀ b o, s.heap.get? b = some o → (s.heap.push { cls := .type "list_iterator", data := .fields #[.ref ax, .int 0 0] }).get? b = some o := fun b o e => Heap.get?_push_of_some _ e
  have ez : vs.toArray.size = vs.length := by simp
  refine ⟨s.heap.objs.size, vs.toArray.size, fun i v => vs.toArray[i]? = some v, _, _, _, J, led, rfl, iter_list hh (Nat.ne_of_lt hlt), by rw [ez, sizeLine_eq]; exact lel hsz rfl, ?_, Nat.ne_of_lt F.ns.lt, next_is_new F, F.keeps up, N.grown up, fun p hp => Nat.ne_of_lt (Heap.lt_size (N p hp).1),
    ⟨⟨_, Heap.get?_push_size _ rfl, rfl, rfl⟩, hl.push _⟩, (fun i v s Q E st q => letGo_listiter st.1 q), fun C D s₃ ok lt1 lt2 => ?_⟩
  · intro b hb
    show b < (s.heap.push _).objs.size
    rw [Heap.size_push]
    rcases List.mem_cons.mp hb with rfl | hb
    · exact Nat.lt_succ_self _
    · rcases List.mem_cons.mp hb with rfl | hb
      · exact Nat.lt_succ_self _
      · rw [List.mem_singleton.mp hb]; exact Nat.lt_succ_of_lt hlt
  · obtain ⟨a, b, c⟩ := h s.heap.objs.size C D s₃ ⟨ok.os, ok.gens⟩ lt1 lt2
    rw [ez]
    have e : (fun (i : Nat) (v : Value) => vs.toArray[i]? = some v) = fun i v => vs[i]? = some v := by funext i v; simp
    rw [e]
    refine ⟨?_, a, b, fun ys led' s' hJ ok' => c ys led' s' hJ ⟨ok'.os, ok'.gens⟩⟩
    rcases hS with z | ⟨o, z1, z2⟩
    · exact .inl z
    · exact .inr ⟨o, List.mem_append_right _ z1, z2⟩
/-- no cells -/
noncomputable abbrev CmSrc (prog : Program) (w : World) (A : Around) (h₀ : Heap) (L : Addr) (m : Fm) (env : Env) (elt target : PySem.Expr) (ifs : List PySem.Expr) (scope : Scope) (cl : List (Str × Addr)) (Fin : List Value → List Ent → Addr → Shared → Prop) (it : Value) (s₂ : Shared) : Prop :=
  CxSrc prog w A h₀ L m env elt target ifs scope (fun _ => cl) (fun _ => []) Fin it s₂
theorem no_cells {cl : List (Str × Addr)} : ∀ (l : List (Str × NameKind)), (∀ y ∈ l, y.2 ≠ .cell) → ∀ n, cellsFrom n l cl = cl
  | [], _, _ => rfl
  | (x, k) :: r, h, n => by
    show (if k == .cell then _ else _) = _
    rw [if_neg (by have := h _ (List.mem_cons_self ..); cases k <;> first | exact Bool.false_ne_true | exact absurd rfl this)]
    exact no_cells r (fun y hy => h y (List.mem_cons_of_mem _ hy)) n
theorem cm_eval {elt target iter : PySem.Expr} {ifs : List PySem.Expr} {scope : Scope} {cl : List (Str × Addr)} {pos : Pos} {Q : Value → Shared → Prop} (F₀ : Fr h₀ L s.heap m)
    (hclos : closureFor scope env = pure cl) (hcell : ∀ y ∈ scope.names, y.2 ≠ .cell) (hkind : scope.kind = .function)
    (hnames : ∀ y ∈ scope.names, y.2 = .local → scope.names.lookup y.1 = some .local)
    (h : wpAny (model prog w) A (eval iter env) (fun xv s₁ => wpAny (model prog w) A (pyIter xv) (CmSrc prog w A h₀ L m env elt target ifs scope cl (fun ys led D s' => Q (.ref D) s')) E s₁) E s)
    (hs : ∀ x, foldedSetIterable iter env x = pure x := by intro _; rfl) :
    wpAny (model prog w) A (eval (.ListComp elt [⟨target, iter, ifs, 0⟩] scope pos) env) Q E s :=
  cx_eval (fun _ => cl) (fun _ => []) F₀ hclos (no_cells _ hcell) (fun _ _ h => nomatch h) hkind hnames h hs
theorem cm_assign {elt target iter : PySem.Expr} {ifs : List PySem.Expr} {scope : Scope} {cl : List (Str × Addr)} {y : Str} {py pos spos : Pos} {Q : Flow → Shared → Prop} (F₀ : Fr h₀ L s.heap m) (hLe : env.locals = L)
    (hsw : swapsWith (.ListComp elt [⟨target, iter, ifs, 0⟩] scope pos) (some (.Name y py)) spos.line env = pure true)
    (hclos : closureFor scope env = pure cl) (hcell : ∀ y ∈ scope.names, y.2 ≠ .cell) (hkind : scope.kind = .function)
    (hnames : ∀ y ∈ scope.names, y.2 = .local → scope.names.lookup y.1 = some .local)
    (hy : env.kindOf y = some .local) (hp : (env.scope.kind == .class || (env.scope.kind == .module && env.locals != env.globals)) = false)
    (h : wpAny (model prog w) A (eval iter env) (fun xv s₁ => wpAny (model prog w) A (pyIter xv) (CmSrc prog w A h₀ L m env elt target ifs scope cl (fun ys led D s' => ∀ h', Fr h₀ L h' (fun z => if z = y then some (.ref D) else m z) → News h₀ L h' ((D, lst ys) :: led) → Q .next { s' with heap := h', toks := s'.toks + 1 })) E s₁) E s)
    (hs : ∀ x, foldedSetIterable iter env x = pure x := by intro _; rfl) :
    wpAny (model prog w) A (exec (.Assign [.Name y py] (.ListComp elt [⟨target, iter, ifs, 0⟩] scope pos) spos) env) Q E s :=
  cx_assign (fun _ => cl) (fun _ => []) F₀ hLe hsw hclos (no_cells _ hcell) (fun _ _ h => nomatch h) hkind hnames hy hp h hs
theorem src_list {elt target : PySem.Expr} {ifs : List PySem.Expr} {scope : Scope} {cl : List (Str × Addr)} {Fin : List Value → List Ent → Addr → Shared → Prop} {ax : Addr} {vs : List Value} {led : List Ent} (J : Nat → List Value → List Ent → Prop)
    (hh : A.handled = none) (F : Fr h₀ L s.heap m) (N : News h₀ L s.heap led) (hS : SrcAt h₀ ax vs.toArray led) (hsz : vs.length ≤ 100000)
    (h : ∀ I C D s₃, Ok s s₃ → @LT.lt Nat _ D C → (∀ p ∈ led, p.1 < D) → J 0 [] led ∧ CmTurn prog w A h₀ L m (compEnvC scope cl C env) elt target ifs s₃ (SrcAt h₀ ax vs.toArray) (fun i v => vs[i]? = some v) J vs.length I C D ∧
      (∀ ys led' s', J vs.length ys led' → Ok s s' → Fr h₀ L s'.heap m → News h₀ L s'.heap ((D, lst ys) :: led') → (∀ p ∈ led', p.1 ≠ D) → (∀ p ∈ led', p.1 ≠ C) → Fin ys led' D s')) :
    wpAny (model prog w) A (pyIter (.ref ax)) (CmSrc prog w A h₀ L m env elt target ifs scope cl Fin) E s :=
  cx_list (fun _ => J) hh F N hS hsz h
theorem src_range {elt target : PySem.Expr} {ifs : List PySem.Expr} {scope : Scope} {cl : List (Str × Addr)} {Fin : List Value → List Ent → Addr → Shared → Prop} {r : Addr} {a b c : Int} {t u v : Tok} {n : Nat} {led : List Ent} (J : Nat → List Value → List Ent → Prop)
    (hh : A.handled = none) (F : Fr h₀ L s.heap m) (N : News h₀ L s.heap led) (hr : IsRange s.heap r a b c t u v) (hsm : Builtin.Range.small a b c = true) (hn : Builtin.Range.rangeSize a b c = ((n : Nat) : Int)) (hsz : n ≤ 100000)
    (h : ∀ I C D s₃, Ok s s₃ → @LT.lt Nat _ D C → (∀ p ∈ led, p.1 < D) → J 0 [] led ∧ CmTurn prog w A h₀ L m (compEnvC scope cl C env) elt target ifs s₃ (fun _ => True) (fun i v => ∃ t, v = .int (a + i * c) t) J n I C D ∧
      (∀ ys led' s', J n ys led' → Ok s s' → Fr h₀ L s'.heap m → News h₀ L s'.heap ((D, lst ys) :: led') → (∀ p ∈ led', p.1 ≠ D) → (∀ p ∈ led', p.1 ≠ C) → Fin ys led' D s'))
    (ht : ∀ I v, letOwnedTupleGo target (.ref I) v = pure () := by intro _ _; rfl) :
    wpAny (model prog w) A (pyIter (.ref r)) (CmSrc prog w A h₀ L m env elt target ifs scope cl Fin) E s := by
  refine wpAny_pyIter_range hr hsm ?_
  refine ⟨s.heap.objs.size, n, _, _, _, _, fun _ => J, led, rfl, iter_range hh a c n, by rw [sizeLine_eq]; exact lel hsz rfl, ?_, Nat.ne_of_lt F.ns.lt, next_is_new F, F.keeps fun _ _ e => Heap.get?_push_of_some _ e, N.grown fun _ _ e => Heap.get?_push_of_some _ e, fun p hp => Nat.ne_of_lt (Heap.lt_size (N p hp).1),
    (by show IsRangeIter _ _ _ _ _; rw [hn]; simpa using Heap.get?_push_size _ rfl), (fun _ _ _ _ _ _ q => go_of ht q), fun C D s₃ ok lt1 lt2 => ?_⟩
  · intro b hb
    show b < (s.heap.push _).objs.size
    rw [Heap.size_push]
    rcases List.mem_cons.mp hb with rfl | hb
    · exact Nat.lt_succ_self _
    · rw [List.mem_singleton.mp hb]; exact Nat.lt_succ_self _
  · obtain ⟨x, y, z⟩ := h s.heap.objs.size C D s₃ ⟨ok.os, ok.gens⟩ lt1 lt2
    exact ⟨trivial, x, y, fun ys led' s' hJ ok' => z ys led' s' hJ ⟨ok'.os, ok'.gens⟩⟩
theorem asg_name {x : Str} {px : Pos} {scope : Scope} {cl : List (Str × Addr)} {I C D : Addr} {oI oC oD : Obj} {mC : Fm} {v : Value} {led : List Ent} {Q : Unit → Shared → Prop} (hx : scope.names.lookup x = some .local) (hkind : scope.kind = .function)
    (F : Fr h₀ L s.heap m) (N : News h₀ L s.heap ((I, oI) :: (C, oC) :: (D, oD) :: led)) (hC : NsObj oC mC) (ne : (@Ne Nat I C) ∧ (@Ne Nat I D) ∧ (@Ne Nat C D)) (off : Off3 I C D led)
    (h : ∀ oC' m₂ h' tk, NsObj oC' m₂ → m₂ x = some v → (∀ z, z ≠ x → m₂ z = mC z) → Fr h₀ L h' m → News h₀ L h' ((I, oI) :: (C, oC') :: (D, oD) :: led) → Q () { s with heap := h', toks := tk }) :
    wpAny (model prog w) A (assign (.Name x px) (compEnvC scope cl C env) v) Q E s := by
  have zC := N (C, oC) (List.mem_cons_of_mem _ (List.mem_cons_self ..))
  refine wpAny_assign_Name (wpAny_storeName_local (lookup_relabel_local hx) (hC.ns zC.1) (fun h₃ hn₃ hs₃ => ?_) (by simp [compEnvC, relabel, hkind]))
  refine hideG fun PG9 hG9 => ?_
  obtain ⟨oC', heC, hoC⟩ := ns_obj hn₃
  have o3 := off.mem
  refine hG9 ?_
  try clear hG9 PG9
  refine h oC' _ h₃ _ hoC (if_pos rfl) (fun z hz => if_neg hz) (F.change hs₃ zC.2.1 zC.2.2) fun p hp => ?_
  rcases List.mem_cons.mp hp with rfl | hp
  · have z := N (I, oI) (List.mem_cons_self ..)
    exact ⟨hs₃.extBut _ _ ne.1 z.1, z.2⟩
  · rcases List.mem_cons.mp hp with rfl | hp
    · exact ⟨heC, zC.2⟩
    · have z := N p (List.mem_cons_of_mem _ (List.mem_cons_of_mem _ hp))
      refine ⟨hs₃.extBut _ _ ?_ z.1, z.2⟩
      rcases List.mem_cons.mp hp with rfl | hp
      · exact Ne.symm ne.2.2
      · exact (o3 p hp).2.1
end
end
section
open PySem PySem.W PySem.Spec PySem.Calls PyProof.Rows
theorem strs_values {vs : List Value} {ts : List Str} (h : StrsAre vs ts) : ∃ l : List (Str × Tok), vs = strValues l ∧ l.map (·.1) = ts := by
  induction h with
  | nil => exact ⟨[], rfl, rfl⟩
  | cons y t _ ih =>
    obtain ⟨l, rfl, rfl⟩ := ih
    exact ⟨(y, t) :: l, rfl, rfl⟩
theorem join_led {prog : Program} {w : World} {A : Around} {E : Value → Shared → Prop} {s : Shared} {h₀ : Heap} {L D : Addr} {led : List Ent} {vs : List Value} {ts : List Str} {n : Nat} {x : Str} {t : Tok} {Q : Value → Shared → Prop}
    (N : News h₀ L s.heap led) (hm : (D, listOf vs.toArray n) ∈ led) (hs : StrsAre vs ts) (hsz : (ts.map (·.length)).sum + ts.length * x.length ≤ 100000)
    (h : ∀ t' k, Q (.str (Txt.join x ts) t') { s with toks := k }) : wpAny (model prog w) A (call (.builtin "str.join") [.str x t, .ref D]) Q E s := by
  obtain ⟨l, rfl, rfl⟩ := strs_values hs
  exact SC.join ⟨_, (N _ hm).1, rfl, _, rfl⟩ rfl (joinOk_of hsz) h
theorem quoteP_ne {y : Str} (h : (y != Str.ofString "") = true) : quoteP y = y := by
  unfold quoteP
  rw [if_neg]
  intro h0
  rw [empty40 h0] at h
  exact absurd h (by decide +kernel)
theorem quoteP_eq {y : Str} (h : (y != Str.ofString "") = false) : quoteP y = Str.ofString "''" := by
  have e : y = Str.ofString "" := by
    by_cases q : y = Str.ofString ""
    · exact q
    · have : (y != Str.ofString "") = true := bne_iff_ne.mpr q
      rw [h] at this; cases this
  rw [e]
  decide +kernel
theorem c_ll : ∀ {w : World} {p : Program} {loose : List Str} {mean : ExcName → Option Value} {mg mb : Str → Option Value}
  {A : Around} {env : Env} {outer : List Env} {A₀ : Around} {base h₀ : Heap} {L : Addr} {m : Fm} {s : Shared} {Q E : Value → Shared → Prop}
  (lst : Addr) (vs : List Value) (ws : List Str) (n : Nat) (led : List Ent)
  (B : Below A₀ base outer h₀) (F : Fr h₀ L s.heap m) (X : (KK w.params).In h₀) (N : News h₀ L s.heap (led)) (T : Top p loose mean mg mb h₀) (hh : A.handled = none) (hA : A.frames = some (env :: outer)) (hf : env.frame = some L) (hk : env.scope.kind = .function) (hd : A.depth ≤ 450) (hu : A.units ≤ 4500)
  (hm : (lst, listOf vs.toArray n) ∈ led) (hs : StrsAre vs ws) (hw : ∀ x ∈ ws, x ∈ W40) (hn : ws.length ≤ 1000)
  (ret : ∀ t s', Fr h₀ L s'.heap m → News h₀ L s'.heap led → Ok s s' → Q (.str (joinP ws) t) s'),
  wpAny (model PySem.Challenge.rw_ik0072_01.row.toRowW.prog w) A (call (.ref 797) [.ref lst]) Q E s := by
  k_fill
  intro w p loose mean mg mb A env outer A₀ base h₀ L m s Q E lst vs ws n led B F X N T hh hA hf hk hd hu hm hs hw hn ret
  obtain ⟨ah, dp, fr, gd, un⟩ := A
  cases hh
  cases hA
  obtain ⟨cs, lo, gl, cl, qn, fn, ccd, fr, bi⟩ := env
  cases hf
  obtain ⟨ck, cnm, cg1, cg2, cmo⟩ := cs
  cases hk
  refine topA_mono hd hu ?_
  refine wpAny_call ?_
  k_enter
  repeat' ((fail_if_success (first | (with_reducible show wpAny _ _ (exec (Stmt.While _ _ _ _) _) _ _ _) | (with_reducible show wpAny _ _ (exec (Stmt.For _ _ _ _ _) _) _ _ _) | (with_reducible show wpAny _ _ (exec (Stmt.Assign _ (Expr.ListComp _ _ _ _) _) _) _ _ _) | (with_reducible show wpAny _ _ (eval (Expr.ListComp _ _ _ _) _) _ _ _) | (with_reducible show wpAny _ _ (pyIter _) _ _ _) | (with_reducible show wpAny _ _ (call (Value.builtin "str.join") _ _) _ _ _) | (with_reducible show CmEnd _ _ _ _ _ _ _ _ _ _ _ _) | (with_reducible show Exists _) | (with_reducible show TurnEnd _ _ _ _ _ _ _ _ _) | (with_reducible show ForSrc _ _ _ _ _ _ _ _ _ _ _))); tb_rel)
  rename_i g' L' h9 FG F' N' B' X' T'
  have hlen := strs_length hs
  refine cm_eval F' rfl (by decide) rfl (by decide) ?_
  repeat' ((fail_if_success (first | (with_reducible show wpAny _ _ (exec (Stmt.While _ _ _ _) _) _ _ _) | (with_reducible show wpAny _ _ (exec (Stmt.For _ _ _ _ _) _) _ _ _) | (with_reducible show wpAny _ _ (exec (Stmt.Assign _ (Expr.ListComp _ _ _ _) _) _) _ _ _) | (with_reducible show wpAny _ _ (eval (Expr.ListComp _ _ _ _) _) _ _ _) | (with_reducible show wpAny _ _ (pyIter _) _ _ _) | (with_reducible show wpAny _ _ (call (Value.builtin "str.join") _ _) _ _ _) | (with_reducible show CmEnd _ _ _ _ _ _ _ _ _ _ _ _) | (with_reducible show Exists _) | (with_reducible show TurnEnd _ _ _ _ _ _ _ _ _) | (with_reducible show ForSrc _ _ _ _ _ _ _ _ _ _ _))); tb_rel)
  refine src_list (vs := vs) (fun i ys led' => led' = led ∧ StrsAre ys ((ws.take i).map quoteP)) rfl F' N' (.inr ⟨_, hm, rfl, _, rfl⟩) (lee (strs_length (by assumption)) (by assumption) (by rfl)) (fun I C D s₃ ok lt1 lt2 => ⟨⟨rfl, .nil⟩, ?_, ?_⟩)
  · rintro i ys led' v s₁ oI oC mC E' hi hv ⟨rfl, hys⟩ hC ok₁ F₁ N₁ off ne hS
    obtain ⟨y, yu, hy, rfl⟩ := strs_get hs hv
    refine asg_name rfl rfl F₁ N₁ hC ne off (fun oC' m2 h2 tk2 hC2 hm2 hm3 F₂ N₂ => ?_)
    refine wpAny_pure ?_
    rw [if_pos rfl]
    repeat' ((fail_if_success (first | (with_reducible show wpAny _ _ (exec (Stmt.While _ _ _ _) _) _ _ _) | (with_reducible show wpAny _ _ (exec (Stmt.For _ _ _ _ _) _) _ _ _) | (with_reducible show wpAny _ _ (exec (Stmt.Assign _ (Expr.ListComp _ _ _ _) _) _) _ _ _) | (with_reducible show wpAny _ _ (eval (Expr.ListComp _ _ _ _) _) _ _ _) | (with_reducible show wpAny _ _ (pyIter _) _ _ _) | (with_reducible show wpAny _ _ (call (Value.builtin "str.join") _ _) _ _ _) | (with_reducible show CmEnd _ _ _ _ _ _ _ _ _ _ _ _) | (with_reducible show Exists _) | (with_reducible show TurnEnd _ _ _ _ _ _ _ _ _) | (with_reducible show ForSrc _ _ _ _ _ _ _ _ _ _ _))); tb_rel)
    · rename_i hcmp
      refine ⟨oC', m2, led', ⟨rfl, id⟩, F₂, N₂, hC2, off, hS, rfl, ?_⟩
      rw [List.take_add_one, hy, List.map_append]
      show StrsAre _ (_ ++ [quoteP y])
      rw [quoteP_ne hcmp]
      exact strs_snoc hys
    · rename_i hcmp
      refine ⟨oC', m2, led', ⟨rfl, id⟩, F₂, N₂, hC2, off, hS, rfl, ?_⟩
      rw [List.take_add_one, hy, List.map_append]
      show StrsAre _ (_ ++ [quoteP y])
      rw [quoteP_eq hcmp]
      exact strs_snoc hys
  · rintro ys led' s' ⟨rfl, hys⟩ ok₁ F₁ N₁ offD offC
    rw [show ws.take vs.length = ws from List.take_of_length_le (Nat.le_of_eq (strs_length (by assumption)).symm)] at hys
    have hq := quote_sum hw
    repeat' ((fail_if_success (first | (with_reducible show wpAny _ _ (exec (Stmt.While _ _ _ _) _) _ _ _) | (with_reducible show wpAny _ _ (exec (Stmt.For _ _ _ _ _) _) _ _ _) | (with_reducible show wpAny _ _ (exec (Stmt.Assign _ (Expr.ListComp _ _ _ _) _) _) _ _ _) | (with_reducible show wpAny _ _ (eval (Expr.ListComp _ _ _ _) _) _ _ _) | (with_reducible show wpAny _ _ (pyIter _) _ _ _) | (with_reducible show wpAny _ _ (call (Value.builtin "str.join") _ _) _ _ _) | (with_reducible show CmEnd _ _ _ _ _ _ _ _ _ _ _ _) | (with_reducible show Exists _) | (with_reducible show TurnEnd _ _ _ _ _ _ _ _ _) | (with_reducible show ForSrc _ _ _ _ _ _ _ _ _ _ _))); tb_rel)
    refine join_led N₁ (List.mem_cons_self ..) hys (by rw [List.length_map, show (Str.ofString " ").length = 1 from rfl]; exact le3m hq (by assumption) (by rfl)) (fun t2 k2 => ?_)
    repeat' ((fail_if_success (first | (with_reducible show wpAny _ _ (exec (Stmt.While _ _ _ _) _) _ _ _) | (with_reducible show wpAny _ _ (exec (Stmt.For _ _ _ _ _) _) _ _ _) | (with_reducible show wpAny _ _ (exec (Stmt.Assign _ (Expr.ListComp _ _ _ _) _) _) _ _ _) | (with_reducible show wpAny _ _ (eval (Expr.ListComp _ _ _ _) _) _ _ _) | (with_reducible show wpAny _ _ (pyIter _) _ _ _) | (with_reducible show wpAny _ _ (call (Value.builtin "str.join") _ _) _ _ _) | (with_reducible show CmEnd _ _ _ _ _ _ _ _ _ _ _ _) | (with_reducible show Exists _) | (with_reducible show TurnEnd _ _ _ _ _ _ _ _ _) | (with_reducible show ForSrc _ _ _ _ _ _ _ _ _ _ _))); tb_rel)
    rename Fr h₀ L _ m => F9
    rename News h₀ L _ _ => N9
    exact ret _ _ F9 (fun q hq => N9 q (List.mem_cons_of_mem _ hq)) ⟨ok₁.os, ok₁.gens⟩
end
section
open PySem PySem.W PySem.Spec PySem.Calls PyProof.Rows
local macro_rules | `(tactic| k_room) => `(tactic| ((try simp only [depth_under_make, depth_under_kw, depth_in1, depth_deeper, depth_caller]); (show _ < 1000); (try simp only [topA]); omega))
/-- one letter more, gone on from the word -/
noncomputable def isNext (w o : Str) : Bool := (o.length == w.length + 1) && (Txt.slice o none (some (w.length : Int)) == w)
/-- the tree of what is known, told from its leaves -/
noncomputable def lf : Nat → List Str → Str → List Str
  | 0, _, w => [w]
  | f + 1, kn, w => (kn.flatMap fun o => if isNext w o then lf f kn o else []) ++ [w]
/-- what one of the known adds -/
noncomputable def lfOne : Nat → List Str → Str → Str → List Str
  | 0, _, _, _ => []
  | f + 1, kn, w, o => if isNext w o then lf f kn o else []
theorem lf_len {kn : List Str} (hk : kn.length ≤ 100) : ∀ (f : Nat) (w : Str), (lf f kn w).length ≤ 101 ^ f
  | 0, w => Nat.le_refl _
  | f + 1, w => by
    have key : ∀ l : List Str, (l.flatMap fun o => if isNext w o then lf f kn o else []).length ≤ l.length * 101 ^ f := by
      intro l
      induction l with
      | nil => simp
      | cons o r ih =>
        have h1 : (if isNext w o then lf f kn o else []).length ≤ 101 ^ f := by
          split
          · exact lf_len hk f o
          · simp
        simp only [List.flatMap_cons, List.length_append, List.length_cons]
        rw [Nat.succ_mul]
        exact add2 (by assumption) (by assumption)
    have h2 := key kn
    have h3 : kn.length * 101 ^ f ≤ 100 * 101 ^ f := Nat.mul_le_mul_right _ hk
    have h4 : 0 < 101 ^ f := Nat.pow_pos (by decide)
    show (_ ++ [w]).length ≤ _
    rw [List.length_append, List.length_singleton, Nat.pow_succ, Nat.mul_comm (101 ^ f), Nat.succ_mul 100]
    exact Nat.add_le_add (Nat.le_trans h2 h3) h4
theorem lfOne_len {kn : List Str} (hk : kn.length ≤ 100) {f : Nat} (hf : f ≤ 3) (w o : Str) : (lfOne f kn w o).length ≤ 10201 := by
  match f, hf with
  | 0, _ => simp [lfOne]
  | g + 1, hf =>
    show (if isNext w o then lf g kn o else []).length ≤ 10201
    split
    · have h1 := lf_len hk g o
      have h2 : 101 ^ g ≤ 101 ^ 2 := Nat.pow_le_pow_right (by decide) (Nat.le_of_succ_le_succ hf)
      exact Nat.le_trans h1 h2
    · simp
theorem lfSum_len {kn : List Str} (hk : kn.length ≤ 100) {f : Nat} (hf : f ≤ 3) (w : Str) : ∀ l : List Str, (l.flatMap (lfOne f kn w)).length ≤ l.length * 10201
  | [] => by simp
  | o :: r => by
    have h1 := lfOne_len hk hf w o
    have h2 := lfSum_len hk hf w r
    simp only [List.flatMap_cons, List.length_append, List.length_cons]
    rw [Nat.succ_mul]
    exact add2 h1 h2
theorem strs_app {a c : List Value} {b d : List Str} (h : StrsAre a b) (h2 : StrsAre c d) : StrsAre (a ++ c) (b ++ d) := by
  induction h with
  | nil => exact h2
  | cons y t _ ih => exact .cons y t ih
theorem lf_eq (kn : List Str) (w : Str) : ∀ f, lf f kn w = kn.flatMap (lfOne f kn w) ++ [w]
  | 0 => by
    have : ∀ l : List Str, l.flatMap (lfOne 0 kn w) = [] := by
      intro l
      induction l with
      | nil => rfl
      | cons o r ih => rw [List.flatMap_cons, ih]; rfl
    rw [this]; rfl
  | f + 1 => rfl
theorem lfOne_no {f : Nat} {kn : List Str} {w o : Str} (h : isNext w o = false) : lfOne f kn w o = [] := by
  cases f with
  | zero => rfl
  | succ f => show (if isNext w o then _ else _) = _; rw [h]; rfl
noncomputable def LfOk (w : World) (D9 U9 f : Nat) : Prop := ∀ {p : Program} {loose : List Str} {mean : ExcName → Option Value} {mg mb : Str → Option Value}
  {A : Around} {env : Env} {outer : List Env} {A₀ : Around} {base h₀ : Heap} {L : Addr} {m : Fm} {s : Shared} {Q E : Value → Shared → Prop}
  (x : Str) (t : Tok) (lst : Addr) (vs : List Value) (ws : List Str) (n : Nat) (led : List Ent)
  (B : Below A₀ base outer h₀) (F : Fr h₀ L s.heap m) (X : (KK w.params).In h₀) (N : News h₀ L s.heap led) (T : Top p loose mean mg mb h₀) (hh : A.handled = none) (hA : A.frames = some (env :: outer)) (hf : env.frame = some L) (hk : env.scope.kind = .function) (hd : A.depth ≤ D9) (hu : A.units ≤ U9)
  (hm : (lst, listOf vs.toArray n) ∈ led) (hs : StrsAre vs ws) (hn : ws.length ≤ 100) (hl : ∀ o ∈ ws, o.length ≤ 3) (hx : x.length ≤ 3) (hxf : 3 ≤ x.length + f) (hf3 : f ≤ 3)
  (ret : ∀ (R : Nat) vs n s', StrsAre vs (lf f ws x) → (∀ q ∈ led, q.1 < R) → Fr h₀ L s'.heap m → News h₀ L s'.heap ((R, listOf vs.toArray n) :: led) → Ok s s' → Q (.ref R) s'),
  wpAny (model PySem.Challenge.rw_ik0072_01.row.toRowW.prog w) A (call (.ref 809) [.str x t, .ref lst]) Q E s
/-- an invariant of a loop -/
noncomputable def LfJ (R9 lst : Addr) (led : List Ent) (f : Nat) (ws : List Str) (x : Str) (t : Tok) (i : Nat) (mm : Fm) (led' : List Ent) : Prop := ∃ (tv : List Value) (c : Nat), led' = (R9, listOf tv.toArray c) :: led ∧ StrsAre tv ((ws.take i).flatMap (lfOne f ws x)) ∧ mm (Str.ofString "word") = some (.str x t) ∧ mm (Str.ofString "told") = some (.ref R9) ∧ mm (Str.ofString "known") = some (.ref lst)
theorem LfJ.mk {R9 lst : Addr} {led : List Ent} {f : Nat} {ws : List Str} {x : Str} {t : Tok} {i : Nat} {mm : Fm} (tv : List Value) (c : Nat) (h0 : StrsAre tv ((ws.take i).flatMap (lfOne f ws x))) (h1 : mm (Str.ofString "word") = some (.str x t)) (h2 : mm (Str.ofString "told") = some (.ref R9)) (h3 : mm (Str.ofString "known") = some (.ref lst)) : LfJ R9 lst led f ws x t i mm ((R9, listOf tv.toArray c) :: led) := ⟨tv, c, rfl, h0, h1, h2, h3⟩
theorem LfJ.out {R9 lst : Addr} {led : List Ent} {f : Nat} {ws : List Str} {x : Str} {t : Tok} {i : Nat} {mm : Fm} {led' : List Ent} (h : LfJ R9 lst led f ws x t i mm led') {P : Prop} (k : ∀ (tv : List Value) (c : Nat), led' = (R9, listOf tv.toArray c) :: led → StrsAre tv ((ws.take i).flatMap (lfOne f ws x)) → mm (Str.ofString "word") = some (.str x t) → mm (Str.ofString "told") = some (.ref R9) → mm (Str.ofString "known") = some (.ref lst) → P) : P := by
  refine hideG fun PG9 hG9 => ?_
  obtain ⟨tv, c, e, h0, h1, h2, h3⟩ := h
  refine hG9 ?_
  try clear hG9 PG9
  exact k tv c e h0 h1 h2 h3
theorem c_lf : ∀ {w : World} {p : Program} {loose : List Str} {mean : ExcName → Option Value} {mg mb : Str → Option Value}
  {A : Around} {env : Env} {outer : List Env} {A₀ : Around} {base h₀ : Heap} {L : Addr} {m : Fm} {s : Shared} {Q E : Value → Shared → Prop}
  (x : Str) (t : Tok) (lst : Addr) (vs : List Value) (ws : List Str) (n : Nat) (led : List Ent) (f D9 U9 : Nat) (hD9 : D9 ≤ 400) (hU9 : U9 ≤ 4000) (IH : f = 0 ∨ ∃ g, f = g + 1 ∧ LfOk w (D9 + 10) (U9 + 100) g)
  (B : Below A₀ base outer h₀) (F : Fr h₀ L s.heap m) (X : (KK w.params).In h₀) (N : News h₀ L s.heap (led)) (T : Top p loose mean mg mb h₀) (hh : A.handled = none) (hA : A.frames = some (env :: outer)) (hf : env.frame = some L) (hk : env.scope.kind = .function) (hd : A.depth ≤ D9) (hu : A.units ≤ U9)
  (hm : (lst, listOf vs.toArray n) ∈ led) (hs : StrsAre vs ws) (hn : ws.length ≤ 100) (hl : ∀ o ∈ ws, o.length ≤ 3) (hx : x.length ≤ 3) (hxf : 3 ≤ x.length + f) (hf3 : f ≤ 3)
  (ret : ∀ (R : Nat) vs n s', StrsAre vs (lf f ws x) → (∀ q ∈ led, q.1 < R) → Fr h₀ L s'.heap m → News h₀ L s'.heap ((R, listOf vs.toArray n) :: led) → Ok s s' → Q (.ref R) s'),
  wpAny (model PySem.Challenge.rw_ik0072_01.row.toRowW.prog w) A (call (.ref 809) [.str x t, .ref lst]) Q E s := by
  k_fill
  intro w p loose mean mg mb A env outer A₀ base h₀ L m s Q E x t lst vs ws n led f D9 U9 hD9 hU9 IH B F X N T hh hA hf hk hd hu hm hs hn hl hx hxf hf3 ret
  refine hideG fun PG9 hG9 => ?_
  obtain ⟨ah, dp, fr, gd, un⟩ := A
  refine hG9 ?_
  try clear hG9 PG9
  cases hh
  cases hA
  refine hideG fun PG9 hG9 => ?_
  obtain ⟨cs, lo, gl, cl, qn, fn, ccd, fr, bi⟩ := env
  refine hG9 ?_
  try clear hG9 PG9
  cases hf
  refine hideG fun PG9 hG9 => ?_
  obtain ⟨ck, cnm, cg1, cg2, cmo⟩ := cs
  refine hG9 ?_
  try clear hG9 PG9
  cases hk
  refine topA_mono hd hu ?_
  refine wpAny_call ?_
  k_enter
  repeat' ((fail_if_success (first | (with_reducible show wpAny _ _ (exec (Stmt.While _ _ _ _) _) _ _ _) | (with_reducible show wpAny _ _ (exec (Stmt.For _ _ _ _ _) _) _ _ _) | (with_reducible show wpAny _ _ (exec (Stmt.Assign _ (Expr.ListComp _ _ _ _) _) _) _ _ _) | (with_reducible show wpAny _ _ (eval (Expr.ListComp _ _ _ _) _) _ _ _) | (with_reducible show wpAny _ _ (pyIter _) _ _ _) | (with_reducible show wpAny _ _ (call (Value.ref _) _ _) _ _ _) | (with_reducible show wpAny _ _ (call (Value.builtin "list.extend") _ _) _ _ _) | (with_reducible show wpAny _ _ (binaryOp _ (Value.ref _) (Value.ref _)) _ _ _) | (with_reducible show Exists _) | (with_reducible show TurnEnd _ _ _ _ _ _ _ _ _) | (with_reducible show ForSrc _ _ _ _ _ _ _ _ _ _ _))); tb_rel)
  rename_i g' L' h9 FG B' X' T' R9 h8 l19 h7 F' N'
  have hR9 : ∀ q ∈ led, q.1 < R9 := l19
  refine For_led g' rfl rfl rfl ?_
  repeat' ((fail_if_success (first | (with_reducible show wpAny _ _ (exec (Stmt.While _ _ _ _) _) _ _ _) | (with_reducible show wpAny _ _ (exec (Stmt.For _ _ _ _ _) _) _ _ _) | (with_reducible show wpAny _ _ (exec (Stmt.Assign _ (Expr.ListComp _ _ _ _) _) _) _ _ _) | (with_reducible show wpAny _ _ (eval (Expr.ListComp _ _ _ _) _) _ _ _) | (with_reducible show wpAny _ _ (pyIter _) _ _ _) | (with_reducible show wpAny _ _ (call (Value.ref _) _ _) _ _ _) | (with_reducible show wpAny _ _ (call (Value.builtin "list.extend") _ _) _ _ _) | (with_reducible show wpAny _ _ (binaryOp _ (Value.ref _) (Value.ref _)) _ _ _) | (with_reducible show Exists _) | (with_reducible show TurnEnd _ _ _ _ _ _ _ _ _) | (with_reducible show ForSrc _ _ _ _ _ _ _ _ _ _ _))); tb_rel)
  refine ForSrc.intro (vs := vs) (n := n) (LfJ R9 lst led f ws x t) F' N' ?_ (LfJ.mk [] 0 .nil rfl rfl rfl) ?_ ?_
  · intro i m' led' hJ93
    refine hideG fun PG9 hG9 => ?_
    obtain ⟨tv, c, rfl, _⟩ := hJ93
    refine hG9 ?_
    try clear hG9 PG9
    exact ⟨rfl, List.mem_cons_of_mem _ hm⟩
  · intro i v m₁ led₁ s₁ It E' hv hJ9 ok₁ F₁ N₁ lt
    refine hJ9.out fun tv c hled9 htv hm1 hm2 hm3 => ?_
    refine hideG fun PG9 hG9 => ?_
    obtain rfl := hled9
    refine hG9 ?_
    try clear hG9 PG9
    clear hJ9
    refine hideG fun PG9 hG9 => ?_
    obtain ⟨o, ou, ho, rfl⟩ := strs_get hs hv
    obtain ⟨u, hu9⟩ : ∃ u : Fm, m₁ = fun z => if z = Str.ofString "word" then some (.str x t) else if z = Str.ofString "told" then some (.ref R9) else if z = Str.ofString "known" then some (.ref lst) else u z := ⟨m₁, form3 hm1 hm2 hm3⟩
    subst hu9
    have hol := hl o (List.mem_of_getElem? ho)
    have htl := lfSum_len hn hf3 x (ws.take i)
    have htv' := strs_length htv
    have hti : (ws.take i).length ≤ 100 := by rw [List.length_take]; exact min_le_lit hn rfl
    change Fr g' L' s₁.heap _ at F₁
    change News g' L' s₁.heap _ at N₁
    refine hG9 ?_
    try clear hG9 PG9
    repeat' ((fail_if_success (first | (with_reducible show wpAny _ _ (exec (Stmt.While _ _ _ _) _) _ _ _) | (with_reducible show wpAny _ _ (exec (Stmt.For _ _ _ _ _) _) _ _ _) | (with_reducible show wpAny _ _ (exec (Stmt.Assign _ (Expr.ListComp _ _ _ _) _) _) _ _ _) | (with_reducible show wpAny _ _ (eval (Expr.ListComp _ _ _ _) _) _ _ _) | (with_reducible show wpAny _ _ (pyIter _) _ _ _) | (with_reducible show wpAny _ _ (call (Value.ref _) _ _) _ _ _) | (with_reducible show wpAny _ _ (call (Value.builtin "list.extend") _ _) _ _ _) | (with_reducible show wpAny _ _ (binaryOp _ (Value.ref _) (Value.ref _)) _ _ _) | (with_reducible show Exists _) | (with_reducible show TurnEnd _ _ _ _ _ _ _ _ _) | (with_reducible show ForSrc _ _ _ _ _ _ _ _ _ _ _))); tb_rel)
    · rename_i hlen hsl hcmp
      rename Fr g' L' _ _ => F5
      rename News g' L' _ _ => N5
      have hle : o.length = x.length + 1 := Int.ofNat.inj (by assumption)
      have hnx : isNext x o = true := by
        unfold isNext
        rw [show (o.length == x.length + 1) = true from beq_iff_eq.mpr hle]
        exact hcmp
      rcases IH with hf0 | ⟨g, rfl, IH⟩
      · rw [hf0] at hxf; rw [hle] at hol; exact absurd (Nat.le_trans (Nat.succ_le_succ hxf) hol) (by decide)
      refine IH o ou lst vs ws n (It :: (R9, listOf tv.toArray c) :: led) B' F5 X' N5 T' rfl rfl rfl rfl (by simp only [depth_deeper]; exact Nat.add_le_add_left (Nat.le_of_ble_eq_true rfl) _) (by simp only [units_deeper]; exact Nat.add_le_add_left (Nat.le_of_ble_eq_true rfl) _) (List.mem_cons_of_mem _ (List.mem_cons_of_mem _ hm)) hs hn hl hol (by rw [hle, Nat.add_right_comm]; exact hxf) (Nat.le_of_succ_le hf3) (fun R vs2 n2 s2 hv2 hR F6 N6 ok6 => ?_)
      repeat' ((fail_if_success (first | (with_reducible show wpAny _ _ (exec (Stmt.While _ _ _ _) _) _ _ _) | (with_reducible show wpAny _ _ (exec (Stmt.For _ _ _ _ _) _) _ _ _) | (with_reducible show wpAny _ _ (exec (Stmt.Assign _ (Expr.ListComp _ _ _ _) _) _) _ _ _) | (with_reducible show wpAny _ _ (eval (Expr.ListComp _ _ _ _) _) _ _ _) | (with_reducible show wpAny _ _ (pyIter _) _ _ _) | (with_reducible show wpAny _ _ (call (Value.ref _) _ _) _ _ _) | (with_reducible show wpAny _ _ (call (Value.builtin "list.extend") _ _) _ _ _) | (with_reducible show wpAny _ _ (binaryOp _ (Value.ref _) (Value.ref _)) _ _ _) | (with_reducible show Exists _) | (with_reducible show TurnEnd _ _ _ _ _ _ _ _ _) | (with_reducible show ForSrc _ _ _ _ _ _ _ _ _ _ _))); tb_rel)
      have hl2 := strs_length hv2
      have hl3 := lf_len hn g o
      have hl4 : 101 ^ g ≤ 101 ^ 2 := Nat.pow_le_pow_right (by decide) (Nat.le_of_succ_le_succ hf3)
      have hl5 : (101 : Nat) ^ 2 = 10201 := rfl
      have hRR : @LT.lt Nat _ R9 R := hR _ (List.mem_cons_of_mem _ (List.mem_cons_self ..))
      have hIt : @LT.lt Nat _ R9 It.1 := lt _ (List.mem_cons_self ..)
      refine extend_in (own := [(R, listOf vs2.toArray n2), It]) F6 N6 ?_ (fun q hq => Nat.ne_of_lt (hR9 q hq)) (N6 _ (List.mem_cons_self ..)).1 (fun h7 n7 F7 N7 => ?_) (by rw [List.size_toArray, sizeLine_eq]; exact add_lit (m := 1020100) (n := 10201) (Nat.le_trans (Nat.le_of_eq htv') (Nat.le_trans htl (Nat.mul_le_mul_right _ hti))) (Nat.le_trans (Nat.le_of_eq hl2) (Nat.le_trans hl3 hl4)) rfl)
      · intro q hq
        rcases List.mem_cons.mp hq with rfl | hq
        · exact Nat.ne_of_gt hRR
        · rw [List.mem_singleton.mp hq]; exact Nat.ne_of_gt hIt
      repeat' ((fail_if_success (first | (with_reducible show wpAny _ _ (exec (Stmt.While _ _ _ _) _) _ _ _) | (with_reducible show wpAny _ _ (exec (Stmt.For _ _ _ _ _) _) _ _ _) | (with_reducible show wpAny _ _ (exec (Stmt.Assign _ (Expr.ListComp _ _ _ _) _) _) _ _ _) | (with_reducible show wpAny _ _ (eval (Expr.ListComp _ _ _ _) _) _ _ _) | (with_reducible show wpAny _ _ (pyIter _) _ _ _) | (with_reducible show wpAny _ _ (call (Value.ref _) _ _) _ _ _) | (with_reducible show wpAny _ _ (call (Value.builtin "list.extend") _ _) _ _ _) | (with_reducible show wpAny _ _ (binaryOp _ (Value.ref _) (Value.ref _)) _ _ _) | (with_reducible show Exists _) | (with_reducible show TurnEnd _ _ _ _ _ _ _ _ _) | (with_reducible show ForSrc _ _ _ _ _ _ _ _ _ _ _))); tb_rel)
      refine ⟨_, _, F7, fun q hq => N7 q (List.mem_cons_of_mem _ hq), LfJ.mk (tv ++ vs2) n7 ?_ rfl rfl rfl, ⟨ok6.os, ok6.gens⟩⟩
      rw [List.take_add_one, ho, List.flatMap_append]
      show StrsAre _ (_ ++ ([o].flatMap _))
      rw [List.flatMap_cons, List.flatMap_nil, List.append_nil]
      show StrsAre _ (_ ++ (if isNext x o then lf g ws o else []))
      rw [hnx, if_pos rfl]
      exact strs_app htv hv2
    · rename_i hlen hsl hcmp
      rename Fr g' L' _ _ => F5
      rename News g' L' _ _ => N5
      have hnx : isNext x o = false := by
        unfold isNext
        rw [hcmp, Bool.and_false]
      refine ⟨_, _, F5, N5, LfJ.mk tv c ?_ rfl rfl rfl, ⟨rfl, id⟩⟩
      rw [List.take_add_one, ho, List.flatMap_append]
      show StrsAre _ (_ ++ ([o].flatMap _))
      rw [List.flatMap_cons, List.flatMap_nil, List.append_nil, lfOne_no hnx, List.append_nil]
      exact htv
    · rename Fr g' L' _ _ => F5
      rename News g' L' _ _ => N5
      have hnx : isNext x o = false := by
        unfold isNext
        rw [show (o.length == x.length + 1) = false from beq_eq_false_iff_ne.mpr (fun e => absurd (show (o.length : Int) = (x.length : Int) + 1 from congrArg Int.ofNat e) (by assumption))]
        rfl
      refine ⟨_, _, F5, N5, LfJ.mk tv c ?_ rfl rfl rfl, ⟨rfl, id⟩⟩
      rw [List.take_add_one, ho, List.flatMap_append]
      show StrsAre _ (_ ++ ([o].flatMap _))
      rw [List.flatMap_cons, List.flatMap_nil, List.append_nil, lfOne_no hnx, List.append_nil]
      exact htv
  · intro m₁ led₁ s₁ E' hJ9 ok₁ F₁ N₁
    refine hJ9.out fun tv c hled9 htv hm1 hm2 hm3 => ?_
    refine hideG fun PG9 hG9 => ?_
    obtain rfl := hled9
    refine hG9 ?_
    try clear hG9 PG9
    clear hJ9
    refine hideG fun PG9 hG9 => ?_
    obtain ⟨u, hu9⟩ : ∃ u : Fm, m₁ = fun z => if z = Str.ofString "word" then some (.str x t) else if z = Str.ofString "told" then some (.ref R9) else if z = Str.ofString "known" then some (.ref lst) else u z := ⟨m₁, form3 hm1 hm2 hm3⟩
    subst hu9
    have hvl := strs_length hs
    rw [hvl, List.take_length] at htv
    have htl := lfSum_len hn hf3 x ws
    have htv' := strs_length htv
    change Fr g' L' s₁.heap _ at F₁
    change News g' L' s₁.heap _ at N₁
    refine hG9 ?_
    try clear hG9 PG9
    repeat' ((fail_if_success (first | (with_reducible show wpAny _ _ (exec (Stmt.While _ _ _ _) _) _ _ _) | (with_reducible show wpAny _ _ (exec (Stmt.For _ _ _ _ _) _) _ _ _) | (with_reducible show wpAny _ _ (exec (Stmt.Assign _ (Expr.ListComp _ _ _ _) _) _) _ _ _) | (with_reducible show wpAny _ _ (eval (Expr.ListComp _ _ _ _) _) _ _ _) | (with_reducible show wpAny _ _ (pyIter _) _ _ _) | (with_reducible show wpAny _ _ (call (Value.ref _) _ _) _ _ _) | (with_reducible show wpAny _ _ (call (Value.builtin "list.extend") _ _) _ _ _) | (with_reducible show wpAny _ _ (binaryOp _ (Value.ref _) (Value.ref _)) _ _ _) | (with_reducible show Exists _) | (with_reducible show TurnEnd _ _ _ _ _ _ _ _ _) | (with_reducible show ForSrc _ _ _ _ _ _ _ _ _ _ _))); tb_rel)
    rename Fr g' L' _ _ => F8
    rename News g' L' _ _ => N8
    refine add_arrays F8 N8 ⟨_, (N8 _ (List.mem_cons_of_mem _ (List.mem_cons_self ..))).1, rfl, _, rfl⟩ ⟨_, (N8 _ (List.mem_cons_self ..)).1, rfl, _, rfl⟩ (fun h7 F7 N7 => ?_) (by simp only [List.size_toArray, List.length_cons, List.length_nil, sizeLine_eq]; exact add_lit (m := 1020100) (n := 1) (Nat.le_trans (Nat.le_of_eq htv') (Nat.le_trans htl (Nat.mul_le_mul_right _ hn))) (Nat.le_refl 1) rfl)
    repeat' ((fail_if_success (first | (with_reducible show wpAny _ _ (exec (Stmt.While _ _ _ _) _) _ _ _) | (with_reducible show wpAny _ _ (exec (Stmt.For _ _ _ _ _) _) _ _ _) | (with_reducible show wpAny _ _ (exec (Stmt.Assign _ (Expr.ListComp _ _ _ _) _) _) _ _ _) | (with_reducible show wpAny _ _ (eval (Expr.ListComp _ _ _ _) _) _ _ _) | (with_reducible show wpAny _ _ (pyIter _) _ _ _) | (with_reducible show wpAny _ _ (call (Value.ref _) _ _) _ _ _) | (with_reducible show wpAny _ _ (call (Value.builtin "list.extend") _ _) _ _ _) | (with_reducible show wpAny _ _ (binaryOp _ (Value.ref _) (Value.ref _)) _ _ _) | (with_reducible show Exists _) | (with_reducible show TurnEnd _ _ _ _ _ _ _ _ _) | (with_reducible show ForSrc _ _ _ _ _ _ _ _ _ _ _))); tb_rel)
    rename Fr h₀ L _ m => F9
    rename News h₀ L _ _ => N9
    refine ret _ (tv ++ [Value.str x t]) 0 _ ?_ ?_ F9 (fun q hq => N9 q ?_) ⟨ok₁.os, ok₁.gens⟩
    · rw [lf_eq]
      exact strs_snoc htv
    · intro q hq
      exact Heap.lt_size (N8 q (List.mem_cons_of_mem _ (List.mem_cons_of_mem _ hq))).1
    · rcases List.mem_cons.mp hq with rfl | hq
      · exact List.mem_cons_self ..
      · exact List.mem_cons_of_mem _ (List.mem_cons_of_mem _ (List.mem_cons_of_mem _ hq))

theorem lf_all : ∀ f, f ≤ 3 → ∀ w, LfOk w (390 - 10 * f) (3900 - 100 * f) f
  | 0, _, w => by
    intro x t lst vs ws n led B F X N T hh hA hf hk hd hu hm hs hn hl hx hxf hf3 ret
    exact c_lf x t lst vs ws n led 0 _ _ (Nat.le_of_ble_eq_true rfl) (Nat.le_of_ble_eq_true rfl) (.inl rfl) B F X N T hh hA hf hk hd hu hm hs hn hl hx hxf hf3 ret
  | f + 1, hf1, w => by
    intro x t lst vs ws n led B F X N T hh hA hf hk hd hu hm hs hn hl hx hxf hf3 ret
    refine c_lf x t lst vs ws n led (f + 1) (390 - 10 * (f + 1)) (3900 - 100 * (f + 1)) (lel (Nat.sub_le ..) rfl) (lel (Nat.sub_le ..) rfl) (.inr ⟨f, rfl, ?_⟩) B F X N T hh hA hf hk hd hu hm hs hn hl hx hxf hf3 ret
    have e1 : 390 - 10 * (f + 1) + 10 = 390 - 10 * f := by rcases le_two (Nat.le_of_succ_le_succ hf1) with rfl | rfl | rfl <;> rfl
    have e2 : 3900 - 100 * (f + 1) + 100 = 3900 - 100 * f := by rcases le_two (Nat.le_of_succ_le_succ hf1) with rfl | rfl | rfl <;> rfl
    exact e1 ▸ e2 ▸ @lf_all f (Nat.le_of_succ_le hf1) w
end
section
open PySem PySem.W PySem.Spec PySem.Calls PyProof.Rows
section
variable {prog : Program} {w : World} {A : Around} {E : Value → Shared → Prop} {s : Shared} {h₀ : Heap} {L : Addr} {m : Fm} {env cenv : Env} {led : List Ent}
/-- a name that is a cell of the frame takes a value -/
theorem asg_cell {x : Str} {px : Pos} {c : Addr} {o : Obj} {v₀ : Option Value} {v : Value} {pre post : List Ent} {Q : Unit → Shared → Prop} (hk : env.scope.kind = .function) (hl : env.kindOf x = some .cell) (hc : env.cells.lookup x = some c)
    (F : Fr h₀ L s.heap m) (N : News h₀ L s.heap (pre ++ (c, o) :: post)) (hd : o.data = .cell v₀) (h1 : ∀ p ∈ pre, p.1 ≠ c) (h2 : ∀ p ∈ post, p.1 ≠ c)
    (h : ∀ o' h', o'.data = .cell (some v) → Fr h₀ L h' m → News h₀ L h' (pre ++ (c, o') :: post) → Q () { s with heap := h' }) :
    wpAny (model prog w) A (assign (.Name x px) env v) Q E s := by
  have z := N (c, o) (List.mem_append.mpr (.inr (.head _)))
  refine wpAny_assign_Name (wpAny_storeName_cell hk hl hc ⟨o, z.1, hd⟩ fun h' hv hs => ?_)
  obtain ⟨o', ho, hd'⟩ := hv
  exact h o' h' hd' (F.change hs z.2.1 z.2.2) (news_set N h1 h2 hs ho)
theorem st_cell {x : Str} {c : Addr} {o : Obj} {v₀ : Option Value} {v : Value} {pre post : List Ent} {Q : Unit → Shared → Prop} (hk : env.scope.kind = .function) (hl : env.kindOf x = some .cell) (hc : env.cells.lookup x = some c)
    (F : Fr h₀ L s.heap m) (N : News h₀ L s.heap (pre ++ (c, o) :: post)) (hd : o.data = .cell v₀) (h1 : ∀ p ∈ pre, p.1 ≠ c) (h2 : ∀ p ∈ post, p.1 ≠ c)
    (h : ∀ o' h', o'.data = .cell (some v) → Fr h₀ L h' m → News h₀ L h' (pre ++ (c, o') :: post) → Q () { s with heap := h' }) :
    wpAny (model prog w) A (storeName env x v) Q E s := by
  have z := N (c, o) (List.mem_append.mpr (.inr (.head _)))
  refine wpAny_storeName_cell hk hl hc ⟨o, z.1, hd⟩ fun h' hv hs => ?_
  obtain ⟨o', ho, hd'⟩ := hv
  exact h o' h' hd' (F.change hs z.2.1 z.2.2) (news_set N h1 h2 hs ho)
theorem ld_cell {x : Str} {px : Pos} {c : Addr} {o : Obj} {v : Value} {Q : Value → Shared → Prop} (hk : env.scope.kind = .function) (hl : env.kindOf x = some .cell) (hc : env.cells.lookup x = some c)
    (N : News h₀ L s.heap led) (hm : (c, o) ∈ led) (hd : o.data = .cell (some v)) (h : Q v s) (hx : (x == ("__debug__" : Str)) = false := by decide) : wpAny (model prog w) A (eval (.Name x px) env) Q E s :=
  wpAny_Name (wpAny_loadName_cell hk hl hc ⟨o, (N _ hm).1, hd⟩ h) hx
theorem ld_free {x : Str} {px : Pos} {c : Addr} {o : Obj} {v : Value} {Q : Value → Shared → Prop} (hk : env.scope.kind = .function) (hl : env.kindOf x = some .free) (hc : env.cells.lookup x = some c)
    (N : News h₀ L s.heap led) (hm : (c, o) ∈ led) (hd : o.data = .cell (some v)) (h : Q v s) (hx : (x == ("__debug__" : Str)) = false := by decide) (hn : (x == ("__classdict__" : Str)) = false := by decide) : wpAny (model prog w) A (eval (.Name x px) env) Q E s :=
  wpAny_Name (wpAny_loadName_free hk hl hc ⟨o, (N _ hm).1, hd⟩ h hn) hx
theorem eq_nil_led {l b : Addr} {vs : List Value} {n k : Nat} {Q : Value → Shared → Prop} (N : News h₀ L s.heap led) (hm : (l, listOf vs.toArray n) ∈ led) (hb : (b, listOf #[] k) ∈ led) (hu : A.units < cLine) (h : Q (.bool vs.isEmpty) s) :
    wpAny (model prog w) A (compareOp .Eq (.ref l) (.ref b)) Q E s := by
  have hl : s.heap.IsList l vs.toArray := ⟨_, (N _ hm).1, rfl, _, rfl⟩
  have hb' : s.heap.IsList b #[] := ⟨_, (N _ hb).1, rfl, _, rfl⟩
  cases vs with
  | nil => exact SeqAt.eq_listAt (e := fun _ => true) hl hb' rfl hu (fun j h1 _ => absurd h1 (Nat.not_lt_zero _)) h
  | cons v r => exact SeqAt.eq_list_lengthsAt hl hb' (by simp) hu h
/-- xs[k:] -/
theorem from_led {l : Addr} {vs : List Value} {n k : Nat} {value slice : PySem.Expr} {u : Tok} {Q : Value → Shared → Prop}
    (F : Fr h₀ L s.heap m) (N : News h₀ L s.heap led) (hm : (l, listOf vs.toArray n) ∈ led) (hb : vs.length ≤ 100000)
    (h : ∀ D h', Fr h₀ L h' m → News h₀ L h' ((D, listOf (vs.drop k).toArray 0) :: led) → (∀ p ∈ led, p.1 < D) → Q (.ref D) { s with heap := h' })
    (hs : subscripted slice false (.ref l) (.ref s.heap.objs.size) = operate [.ref s.heap.objs.size, .ref l] (getItem (.ref l) (.ref s.heap.objs.size)) := by with_unfolding_all rfl)
    (ht : ∀ r, letTemporaryGo value (.ref l) r = pure () := by (intro _; with_unfolding_all rfl)) :
    wpAny (model prog w) A (subscriptTail value slice (.ref l) (.ref s.heap.objs.size)) Q E { s with heap := s.heap.push { cls := .type "slice", data := .fields #[.int k u, .none, .none] } } := by
  refine kmk_slice_lit F N ⟨_, (N _ hm).1, rfl, _, rfl⟩ (.int k u) .none ?_ h hs ht (by rw [List.size_toArray, sizeLine_eq]; exact lel (by assumption) (by rfl))
  have e : sliceBounds (some (k : Int)) none none vs.toArray.size = (((min k vs.length : Nat) : Int), ((vs.length : Nat) : Int), 1) := by
    simp only [sliceBounds, Option.getD_none, List.size_toArray, show (1 : Int) > 0 by decide, if_true, if_neg (show ¬ ((k : Int) < 0) from Int.not_lt.mpr (Int.natCast_nonneg k))]
    congr 1
    exact min_up
  rw [kmk_pick_nat _ e]
  show (vs.drop (min k vs.length)).take _ = _
  rw [kmk_drop_min, List.take_of_length_le (by rw [List.length_drop]; exact Nat.sub_le_sub_left (Nat.min_le_left ..) _)]
theorem tests_one {M : Model} {c : PySem.Expr} {Q : Bool → Shared → Prop} (h : wpAny M A (isTrue c cenv (eval c cenv)) Q E s) : wpAny M A (testsOf [c] cenv) Q E s := by
  unfold testsOf
  rw [List.forIn_cons]
  refine wpAny_bind ?_
  rw [if_pos rfl]
  refine wpAny_bind (wpAny_mono h (fun ok s' h' => wpAny_pure ?_) fun _ _ e => e)
  exact wpAny_pure h'
theorem tests_hide {M : Model} {c elt : PySem.Expr} {QY : Value → Shared → Prop} {QN : Shared → Prop} (h : ∀ (QY' : Value → Shared → Prop) (QN' : Shared → Prop), (∀ y s', QY y s' → QY' y s') → (∀ s', QN s' → QN' s') → wpAny M A (isTrue c cenv (eval c cenv)) (fun ok s' => if ok = true then wpAny M A (eval elt cenv) QY' E s' else QN' s') E s) :
    wpAny M A (testsOf [c] cenv) (fun ok s' => if ok = true then wpAny M A (eval elt cenv) QY E s' else QN s') E s := tests_one (h QY QN (fun _ _ x => x) fun _ x => x)
noncomputable def isS (x : Str) : Value → Bool
  | .str z _ => z == x
  | _ => false
theorem any_strs {x : Str} {vs : List Value} {ws : List Str} (h : StrsAre vs ws) : vs.any (isS x) = decide (x ∈ ws) := by
  induction h with
  | nil => rfl
  | cons y t _ ih =>
    rw [List.any_cons, ih]
    show ((y == x) || _) = _
    by_cases e : y = x
    · subst e; simp
    · have e2 : ¬ x = y := fun q => e q.symm
      simp [e, e2, List.mem_cons]
theorem strs_mem {vs : List Value} {ws : List Str} (h : StrsAre vs ws) : ∀ y ∈ vs, ∃ z t, y = .str z t := by
  induction h with
  | nil => intro y hy; cases hy
  | cons z t _ ih =>
    intro y hy
    rcases List.mem_cons.mp hy with rfl | hy
    · exact ⟨z, t, rfl⟩
    · exact ih y hy
theorem notin_led {l : Addr} {vs : List Value} {ws : List Str} {n : Nat} {x : Str} {t : Tok} {Q : Value → Shared → Prop} (N : News h₀ L s.heap led) (hm : (l, listOf vs.toArray n) ∈ led) (hs : StrsAre vs ws) (h : Q (.bool (!decide (x ∈ ws))) s) :
    wpAny (model prog w) A (compareOp .NotIn (.str x t) (.ref l)) Q E s := by
  refine SeqAt.notIn_listAt (isS x) (items := vs.toArray) ⟨_, (N _ hm).1, rfl, _, rfl⟩ (fun y hy => ?_) (by rw [List.any_toArray, any_strs hs]; exact h)
  obtain ⟨z, u, rfl⟩ := strs_mem hs y (by simpa using hy)
  exact SeqAt.EqAt.str_str z u x t
theorem asg_loc {x : Str} {px : Pos} {v : Value} {Q : Unit → Shared → Prop} (F : Fr h₀ L s.heap m) (N : News h₀ L s.heap led) (hl : env.kindOf x = some .local) (hL : env.locals = L)
    (h : ∀ h' tk, Fr h₀ L h' (fun y => if y = x then some v else m y) → News h₀ L h' led → Q () { s with heap := h', toks := tk }) (hp : (env.scope.kind == .class || (env.scope.kind == .module && env.locals != env.globals)) = false := by rfl) :
    wpAny (model prog w) A (assign (.Name x px) env v) Q E s := by
  subst hL
  exact wpAny_assign_Name (wpAny_storeName_local hl F.ns (fun h₂ hn₂ hs₂ => h _ _ (F.set hn₂ hs₂) (N.set hs₂)) hp)
theorem small_up_nat {n : Nat} (h : n ≤ 100000) : Builtin.Range.small 0 (n : Int) 1 = true :=
  small_one (by decide) (by decide) (Int.le_trans (by decide) (Int.natCast_nonneg n)) (Int.lt_of_le_of_lt (Int.ofNat_le.mpr h) (by decide))
theorem small_dn_nat {n : Nat} (h : n ≤ 100000) : Builtin.Range.small (n : Int) (-1) (-1) = true :=
  small_down (Int.le_trans (by decide) (Int.natCast_nonneg n)) (Int.lt_of_le_of_lt (Int.ofNat_le.mpr h) (by decide)) (by decide) (by decide)
theorem nat63 {k : Nat} (h : k ≤ 100000) : (k : Int) < 2 ^ 63 := Int.lt_of_le_of_lt (Int.ofNat_le.mpr h) (by decide)
theorem range_up (n : Nat) : Builtin.Range.rangeSize 0 (n : Int) 1 = ((n : Nat) : Int) := by
  rw [rangeSize_one]; split
  · exact Int.sub_zero _
  · rename_i h; exact Int.le_antisymm (Int.natCast_nonneg _) (Int.not_lt.mp h)
theorem range_dn (n : Nat) : Builtin.Range.rangeSize (n : Int) (-1) (-1) = ((n + 1 : Nat) : Int) := by
  rw [rangeSize_down]; split <;> omega
end
end
section
open PySem PySem.W PySem.Spec PySem.Calls PyProof.Rows
noncomputable def cut (n : Nat) (w : Str) : Str := Txt.slice w none (some (n : Int))
/-- the rows: each word that no row before it begins with -/
noncomputable def auRow (rows : List Str) (w : Str) : List Str := if (rows.filter fun r => cut w.length r == w) = [] then rows ++ [w] else rows
noncomputable def auRows (ws : List Str) : List Str := ws.foldl auRow []
theorem auRows_sub : ∀ (ws rows : List Str) (r : Str), r ∈ ws.foldl auRow rows → r ∈ rows ∨ r ∈ ws
  | [], _, _, h => .inl h
  | w :: ws, rows, r, h => by
    rcases auRows_sub ws _ r h with h | h
    · unfold auRow at h
      split at h
      · rcases List.mem_append.mp h with h | h
        · exact .inl h
        · exact .inr (List.mem_singleton.mp h ▸ List.mem_cons_self ..)
      · exact .inl h
    · exact .inr (List.mem_cons_of_mem _ h)
theorem auRows_len {ws : List Str} {i : Nat} {r : Str} (hl : ∀ o ∈ ws, o.length ≤ 3) (h : r ∈ auRows (ws.take i)) : r.length ≤ 3 := by
  rcases auRows_sub _ _ _ h with h | h
  · cases h
  · exact hl r (List.mem_of_mem_take h)
theorem auRows_card : ∀ (ws rows : List Str), (ws.foldl auRow rows).length ≤ rows.length + ws.length
  | [], _ => Nat.le_refl _
  | w :: ws, rows => by
    have h := auRows_card ws (auRow rows w)
    have h2 : (auRow rows w).length ≤ rows.length + 1 := by
      unfold auRow
      split
      · simp
      · exact Nat.le_succ _
    simp only [List.foldl_cons, List.length_cons]
    exact acc_1 h h2
theorem filter_in {l : List Str} {p : Str → Bool} {j : Nat} {z : Str} (hz : l[j]? = some z) (hp : p z = true) : (l.take (j + 1)).filter p = (l.take j).filter p ++ [z] := by
  rw [List.take_add_one, hz, List.filter_append]
  simp [hp]
theorem filter_out {l : List Str} {p : Str → Bool} {j : Nat} {z : Str} (hz : l[j]? = some z) (hp : p z = false) : (l.take (j + 1)).filter p = (l.take j).filter p := by
  rw [List.take_add_one, hz, List.filter_append]
  simp [hp]
theorem strs_nil {vs : List Value} {ws : List Str} (h : StrsAre vs ws) (e : vs.isEmpty = true) : ws = [] := by
  cases h with
  | nil => rfl
  | cons => cases e
theorem strs_some {vs : List Value} {ws : List Str} (h : StrsAre vs ws) (e : vs.isEmpty = false) : ws ≠ [] := by
  cases h with
  | nil => cases e
  | cons => exact List.cons_ne_nil _ _
theorem off_adr {led led' : List Ent} {I : Addr} (h : ∀ p ∈ led, p.1 ≠ I) (e : led'.map (·.1) = led.map (·.1)) : ∀ p ∈ led', p.1 ≠ I := ne_of_adr e h
theorem strs_at {vs : List Value} {ws : List Str} {x : Str} {i : Nat} (h : StrsAre vs ws) (e : ws[i]? = some x) : ∃ t, vs[i]? = some (.str x t) := by
  induction h generalizing i with
  | nil => cases e
  | cons y t _ ih =>
    cases i with
    | zero => cases e; exact ⟨t, rfl⟩
    | succ i => exact ih e
theorem auRows_n (ws : List Str) (i : Nat) : (auRows (ws.take i)).length ≤ ws.length := by
  have h := auRows_card (ws.take i) []
  rw [List.length_take, List.length_nil] at h
  change (auRows (ws.take i)).length ≤ _ at h
  exact Nat.le_trans h (Nat.le_trans (Nat.le_of_eq (Nat.zero_add _)) (Nat.min_le_right ..))
noncomputable def auTold (rows : List Str) (k : Nat) (told : List Str) (size : Nat) : List Str :=
  let w := cut size (rows.getD k (Str.ofString ""))
  if w ∉ told ∧ ((rows.drop (k + 1)).filter fun r => cut size r == w) = [] then told ++ [w] else told
theorem fold_step {α β : Type} {f : Nat → α} {g : β → α → β} {a : β} {j : Nat} : List.foldl g a (List.map f (List.range (j + 1))) = g (List.foldl g a (List.map f (List.range j))) (f j) := by
  rw [List.range_succ, List.map_append, List.foldl_append]
  rfl
theorem auTold_in {rows : List Str} {k size : Nat} {td : List Str} {row : Str} (hrow : rows[k]? = some row) (h : cut size row ∈ td) : auTold rows k td size = td := by
  unfold auTold
  rw [show rows.getD k (Str.ofString "") = row by rw [List.getD_eq_getElem?_getD, hrow]; rfl]
  exact if_neg fun q => q.1 h
theorem auTold_dup {rows : List Str} {k size : Nat} {td : List Str} {row : Str} (hrow : rows[k]? = some row) (h : ((rows.drop (k + 1)).filter fun r => cut size r == cut size row) ≠ []) : auTold rows k td size = td := by
  unfold auTold
  rw [show rows.getD k (Str.ofString "") = row by rw [List.getD_eq_getElem?_getD, hrow]; rfl]
  exact if_neg fun q => h q.2
theorem auTold_new {rows : List Str} {k size : Nat} {td : List Str} {row : Str} (hrow : rows[k]? = some row) (h1 : ¬ cut size row ∈ td) (h : ((rows.drop (k + 1)).filter fun r => cut size r == cut size row) = []) : auTold rows k td size = td ++ [cut size row] := by
  unfold auTold
  rw [show rows.getD k (Str.ofString "") = row by rw [List.getD_eq_getElem?_getD, hrow]; rfl]
  exact if_pos ⟨h1, h⟩
/-- sizes from the longest down to nothing -/
noncomputable def downs (n : Nat) : List Nat := (List.range (n + 1)).map (n - ·)
noncomputable def auOne (rows : List Str) (told : List Str) (k : Nat) : List Str := (downs (rows.getD k (Str.ofString "")).length).foldl (auTold rows k) told
noncomputable def auOf (ws : List Str) : List Str := (List.range (auRows ws).length).foldl (auOne (auRows ws)) []
theorem ne4 {a b c d : Ent} {x : Addr} (h1 : a.1 ≠ x) (h2 : b.1 ≠ x) (h3 : c.1 ≠ x) (h4 : d.1 ≠ x) : ∀ p ∈ [a, b, c, d], p.1 ≠ x := by
  intro p hp
  rcases List.mem_cons.mp hp with rfl | hp
  · exact h1
  rcases List.mem_cons.mp hp with rfl | hp
  · exact h2
  rcases List.mem_cons.mp hp with rfl | hp
  · exact h3
  rw [List.mem_singleton.mp hp]; exact h4
theorem ne5 {a b c d e : Ent} {x : Addr} (h1 : a.1 ≠ x) (h2 : b.1 ≠ x) (h3 : c.1 ≠ x) (h4 : d.1 ≠ x) (h5 : e.1 ≠ x) : ∀ p ∈ [a, b, c, d, e], p.1 ≠ x := by
  intro p hp
  rcases List.mem_cons.mp hp with rfl | hp
  · exact h1
  exact ne4 h2 h3 h4 h5 p hp
theorem auTold_len (rows : List Str) (k size : Nat) (td : List Str) : (auTold rows k td size).length ≤ td.length + 1 := by
  unfold auTold
  dsimp only
  split
  · simp
  · exact Nat.le_succ _
theorem auFold_len (rows : List Str) (k : Nat) : ∀ (l : List Nat) (td : List Str), (l.foldl (auTold rows k) td).length ≤ td.length + l.length
  | [], _ => Nat.le_refl _
  | x :: l, td => by
    have h1 := auFold_len rows k l (auTold rows k td x)
    have h2 := auTold_len rows k x td
    simp only [List.foldl_cons, List.length_cons]
    exact acc_1 h1 h2
theorem auSum_len {rows : List Str} (hl : ∀ r ∈ rows, r.length ≤ 3) : ∀ (l : List Nat) (td : List Str), (l.foldl (auOne rows) td).length ≤ td.length + 4 * l.length
  | [], _ => Nat.le_refl _
  | k :: l, td => by
    have h1 := auSum_len hl l (auOne rows td k)
    have h2 := auFold_len rows k (downs (rows.getD k (Str.ofString "")).length) td
    have h3 : (rows.getD k (Str.ofString "")).length ≤ 3 := by
      rw [List.getD_eq_getElem?_getD]
      cases e : rows[k]? with
      | none => decide +kernel
      | some r => exact hl r (List.mem_of_getElem? e)
    unfold downs at h2
    simp only [List.length_map, List.length_range] at h2
    have h4 : (auOne rows td k).length ≤ td.length + 4 := by
      unfold auOne downs
      exact Nat.le_trans h2 (Nat.add_le_add_left (Nat.succ_le_succ h3) _)
    simp only [List.foldl_cons, List.length_cons]
    exact acc_k h1 h4
/-- an invariant of a loop -/
noncomputable def AuJ1 (R9 L' lst : Addr) (led : List Ent) (ws : List Str) (i : Nat) (mm : Fm) (led' : List Ent) : Prop := ∃ (tv : List Value) (c : Nat) (oS oW : Obj) (vS vW : Option Value), led' = (R9, listOf tv.toArray c) :: (L' + 1 + 1, oS) :: (L' + 1, oW) :: led ∧ StrsAre tv (auRows (ws.take i)) ∧ oS.data = .cell vS ∧ oW.data = .cell vW ∧ mm (Str.ofString "rows") = some (.ref R9) ∧ mm (Str.ofString "words") = some (.ref lst)
theorem AuJ1.mk {R9 L' lst : Addr} {led : List Ent} {ws : List Str} {i : Nat} {mm : Fm} (tv : List Value) (c : Nat) (oS oW : Obj) (vS vW : Option Value) (h0 : StrsAre tv (auRows (ws.take i))) (h1 : oS.data = .cell vS) (h2 : oW.data = .cell vW) (h3 : mm (Str.ofString "rows") = some (.ref R9)) (h4 : mm (Str.ofString "words") = some (.ref lst)) : AuJ1 R9 L' lst led ws i mm ((R9, listOf tv.toArray c) :: (L' + 1 + 1, oS) :: (L' + 1, oW) :: led) := ⟨tv, c, oS, oW, vS, vW, rfl, h0, h1, h2, h3, h4⟩
theorem AuJ1.out {R9 L' lst : Addr} {led : List Ent} {ws : List Str} {i : Nat} {mm : Fm} {led' : List Ent} (h : AuJ1 R9 L' lst led ws i mm led') {P : Prop} (k : ∀ (tv : List Value) (c : Nat) (oS oW : Obj) (vS vW : Option Value), led' = (R9, listOf tv.toArray c) :: (L' + 1 + 1, oS) :: (L' + 1, oW) :: led → StrsAre tv (auRows (ws.take i)) → oS.data = .cell vS → oW.data = .cell vW → mm (Str.ofString "rows") = some (.ref R9) → mm (Str.ofString "words") = some (.ref lst) → P) : P := by
  refine hideG fun PG9 hG9 => ?_
  obtain ⟨tv, c, oS, oW, vS, vW, e, h0, h1, h2, h3, h4⟩ := h
  refine hG9 ?_
  try clear hG9 PG9
  exact k tv c oS oW vS vW e h0 h1 h2 h3 h4
/-- an invariant of a loop -/
noncomputable def AuJ3 (T9 R9 L' : Addr) (led : List Ent) (tv : List Value) (c : Nat) (ws : List Str) (i : Nat) (mm : Fm) (led' : List Ent) : Prop := ∃ (tw : List Value) (c2 : Nat) (oS oW : Obj) (vS vW : Option Value), led' = (T9, listOf tw.toArray c2) :: (R9, listOf tv.toArray c) :: (L' + 1 + 1, oS) :: (L' + 1, oW) :: led ∧ StrsAre tw ((List.range i).foldl (auOne (auRows ws)) []) ∧ oS.data = .cell vS ∧ oW.data = .cell vW ∧ mm (Str.ofString "told") = some (.ref T9) ∧ mm (Str.ofString "rows") = some (.ref R9)
theorem AuJ3.mk {T9 R9 L' : Addr} {led : List Ent} {tv : List Value} {c : Nat} {ws : List Str} {i : Nat} {mm : Fm} (tw : List Value) (c2 : Nat) (oS oW : Obj) (vS vW : Option Value) (h0 : StrsAre tw ((List.range i).foldl (auOne (auRows ws)) [])) (h1 : oS.data = .cell vS) (h2 : oW.data = .cell vW) (h3 : mm (Str.ofString "told") = some (.ref T9)) (h4 : mm (Str.ofString "rows") = some (.ref R9)) : AuJ3 T9 R9 L' led tv c ws i mm ((T9, listOf tw.toArray c2) :: (R9, listOf tv.toArray c) :: (L' + 1 + 1, oS) :: (L' + 1, oW) :: led) := ⟨tw, c2, oS, oW, vS, vW, rfl, h0, h1, h2, h3, h4⟩
theorem AuJ3.out {T9 R9 L' : Addr} {led : List Ent} {tv : List Value} {c : Nat} {ws : List Str} {i : Nat} {mm : Fm} {led' : List Ent} (h : AuJ3 T9 R9 L' led tv c ws i mm led') {P : Prop} (k : ∀ (tw : List Value) (c2 : Nat) (oS oW : Obj) (vS vW : Option Value), led' = (T9, listOf tw.toArray c2) :: (R9, listOf tv.toArray c) :: (L' + 1 + 1, oS) :: (L' + 1, oW) :: led → StrsAre tw ((List.range i).foldl (auOne (auRows ws)) []) → oS.data = .cell vS → oW.data = .cell vW → mm (Str.ofString "told") = some (.ref T9) → mm (Str.ofString "rows") = some (.ref R9) → P) : P := by
  refine hideG fun PG9 hG9 => ?_
  obtain ⟨tw, c2, oS, oW, vS, vW, e, h0, h1, h2, h3, h4⟩ := h
  refine hG9 ?_
  try clear hG9 PG9
  exact k tw c2 oS oW vS vW e h0 h1 h2 h3 h4
/-- an invariant of a loop -/
noncomputable def AuJ4 (I : Addr) (oI : Obj) (T9 R9 L' : Addr) (led : List Ent) (tv : List Value) (c : Nat) (ws : List Str) (k : Nat) (t2 : Tok) (rl : Nat) (i : Nat) (mm : Fm) (led' : List Ent) : Prop := ∃ (tw : List Value) (c2 : Nat) (oS oW : Obj) (vS vW : Option Value), led' = (I, oI) :: (T9, listOf tw.toArray c2) :: (R9, listOf tv.toArray c) :: (L' + 1 + 1, oS) :: (L' + 1, oW) :: led ∧ StrsAre tw (((List.range i).map (rl - ·)).foldl (auTold (auRows ws) k) ((List.range k).foldl (auOne (auRows ws)) [])) ∧ oS.data = .cell vS ∧ oW.data = .cell vW ∧ mm (Str.ofString "told") = some (.ref T9) ∧ mm (Str.ofString "rows") = some (.ref R9) ∧ mm (Str.ofString "k") = some (.int k t2)
theorem AuJ4.mk {I : Addr} {oI : Obj} {T9 R9 L' : Addr} {led : List Ent} {tv : List Value} {c : Nat} {ws : List Str} {k : Nat} {t2 : Tok} {rl : Nat} {i : Nat} {mm : Fm} (tw : List Value) (c2 : Nat) (oS oW : Obj) (vS vW : Option Value) (h0 : StrsAre tw (((List.range i).map (rl - ·)).foldl (auTold (auRows ws) k) ((List.range k).foldl (auOne (auRows ws)) []))) (h1 : oS.data = .cell vS) (h2 : oW.data = .cell vW) (h3 : mm (Str.ofString "told") = some (.ref T9)) (h4 : mm (Str.ofString "rows") = some (.ref R9)) (h5 : mm (Str.ofString "k") = some (.int k t2)) : AuJ4 I oI T9 R9 L' led tv c ws k t2 rl i mm ((I, oI) :: (T9, listOf tw.toArray c2) :: (R9, listOf tv.toArray c) :: (L' + 1 + 1, oS) :: (L' + 1, oW) :: led) := ⟨tw, c2, oS, oW, vS, vW, rfl, h0, h1, h2, h3, h4, h5⟩
theorem AuJ4.out {I : Addr} {oI : Obj} {T9 R9 L' : Addr} {led : List Ent} {tv : List Value} {c : Nat} {ws : List Str} {k : Nat} {t2 : Tok} {rl : Nat} {i : Nat} {mm : Fm} {led' : List Ent} (h : AuJ4 I oI T9 R9 L' led tv c ws k t2 rl i mm led') {P : Prop} (k : ∀ (tw : List Value) (c2 : Nat) (oS oW : Obj) (vS vW : Option Value), led' = (I, oI) :: (T9, listOf tw.toArray c2) :: (R9, listOf tv.toArray c) :: (L' + 1 + 1, oS) :: (L' + 1, oW) :: led → StrsAre tw (((List.range i).map (rl - ·)).foldl (auTold (auRows ws) k) ((List.range k).foldl (auOne (auRows ws)) [])) → oS.data = .cell vS → oW.data = .cell vW → mm (Str.ofString "told") = some (.ref T9) → mm (Str.ofString "rows") = some (.ref R9) → mm (Str.ofString "k") = some (.int k t2) → P) : P := by
  refine hideG fun PG9 hG9 => ?_
  obtain ⟨tw, c2, oS, oW, vS, vW, e, h0, h1, h2, h3, h4, h5⟩ := h
  refine hG9 ?_
  try clear hG9 PG9
  exact k tw c2 oS oW vS vW e h0 h1 h2 h3 h4 h5
theorem c_au : ∀ {w : World} {p : Program} {loose : List Str} {mean : ExcName → Option Value} {mg mb : Str → Option Value}
  {A : Around} {env : Env} {outer : List Env} {A₀ : Around} {base h₀ : Heap} {L : Addr} {m : Fm} {s : Shared} {Q E : Value → Shared → Prop}
  (lst : Addr) (vs : List Value) (ws : List Str) (n : Nat) (led : List Ent)
  (B : Below A₀ base outer h₀) (F : Fr h₀ L s.heap m) (X : (KK w.params).In h₀) (N : News h₀ L s.heap (led)) (T : Top p loose mean mg mb h₀) (hh : A.handled = none) (hA : A.frames = some (env :: outer)) (hf : env.frame = some L) (hk : env.scope.kind = .function) (hd : A.depth ≤ 450) (hu : A.units ≤ 4500)
  (hm : (lst, listOf vs.toArray n) ∈ led) (hs : StrsAre vs ws) (hn : ws.length ≤ 100) (hl : ∀ o ∈ ws, o.length ≤ 3)
  (ret : ∀ (R : Nat) vs n s', StrsAre vs (auOf ws) → (∀ q ∈ led, q.1 < R) → Fr h₀ L s'.heap m → News h₀ L s'.heap ((R, listOf vs.toArray n) :: led) → Ok s s' → Q (.ref R) s'),
  wpAny (model PySem.Challenge.rw_ik0072_01.row.toRowW.prog w) A (call (.ref 802) [.ref lst]) Q E s := by
  k_fill
  intro w p loose mean mg mb A env outer A₀ base h₀ L m s Q E lst vs ws n led B F X N T hh hA hf hk hd hu hm hs hn hl ret
  refine hideG fun PG9 hG9 => ?_
  obtain ⟨ah, dp, fr, gd, un⟩ := A
  refine hG9 ?_
  try clear hG9 PG9
  cases hh
  cases hA
  refine hideG fun PG9 hG9 => ?_
  obtain ⟨cs, lo, gl, cl, qn, fn, ccd, fr, bi⟩ := env
  refine hG9 ?_
  try clear hG9 PG9
  cases hf
  refine hideG fun PG9 hG9 => ?_
  obtain ⟨ck, cnm, cg1, cg2, cmo⟩ := cs
  refine hG9 ?_
  try clear hG9 PG9
  cases hk
  refine topA_mono hd hu ?_
  refine wpAny_call ?_
  k_enter
  repeat' ((fail_if_success (first | (with_reducible show wpAny _ _ (exec (Stmt.While _ _ _ _) _) _ _ _) | (with_reducible show wpAny _ _ (exec (Stmt.For _ _ _ _ _) _) _ _ _) | (with_reducible show wpAny _ _ (exec (Stmt.Assign _ (Expr.ListComp _ _ _ _) _) _) _ _ _) | (with_reducible show wpAny _ _ (eval (Expr.ListComp _ _ _ _) _) _ _ _) | (with_reducible show wpAny _ _ (pyIter _) _ _ _) | (with_reducible show wpAny _ _ (call (Value.ref _) _ _) _ _ _) | (with_reducible show wpAny _ _ (call (Value.builtin "list.append") _ _) _ _ _) | (with_reducible show wpAny _ _ (subscriptTail _ _ (Value.ref _) _) _ _ _) | (with_reducible show wpAny _ _ (storeName _ (Str.ofString "word") _) _ _ _) | (with_reducible show wpAny _ _ (compareOp CmpOp.NotIn _ _) _ _ _) | (with_reducible show wpAny _ _ (compareOp CmpOp.Eq (Value.ref _) (Value.ref _)) _ _ _) | (with_reducible show CmEnd _ _ _ _ _ _ _ _ _ _ _ _) | (with_reducible show FgEnd _ _ _ _ _ _ _ _ _ _ _) | (with_reducible show Exists _) | (with_reducible show TurnEnd _ _ _ _ _ _ _ _ _) | (with_reducible show ForSrc _ _ _ _ _ _ _ _ _ _ _))); tb_rel)
  rename_i g' L' h8 tk' FG' B' X' T' l7 oS oW dS dW R9 h7 l9 h6 F' N'
  have l7' : ∀ q ∈ led, q.1 < L' := l7
  
  refine ft_for ?_
  repeat' ((fail_if_success (first | (with_reducible show wpAny _ _ (exec (Stmt.While _ _ _ _) _) _ _ _) | (with_reducible show wpAny _ _ (exec (Stmt.For _ _ _ _ _) _) _ _ _) | (with_reducible show wpAny _ _ (exec (Stmt.Assign _ (Expr.ListComp _ _ _ _) _) _) _ _ _) | (with_reducible show wpAny _ _ (eval (Expr.ListComp _ _ _ _) _) _ _ _) | (with_reducible show wpAny _ _ (pyIter _) _ _ _) | (with_reducible show wpAny _ _ (call (Value.ref _) _ _) _ _ _) | (with_reducible show wpAny _ _ (call (Value.builtin "list.append") _ _) _ _ _) | (with_reducible show wpAny _ _ (subscriptTail _ _ (Value.ref _) _) _ _ _) | (with_reducible show wpAny _ _ (storeName _ (Str.ofString "word") _) _ _ _) | (with_reducible show wpAny _ _ (compareOp CmpOp.NotIn _ _) _ _ _) | (with_reducible show wpAny _ _ (compareOp CmpOp.Eq (Value.ref _) (Value.ref _)) _ _ _) | (with_reducible show CmEnd _ _ _ _ _ _ _ _ _ _ _ _) | (with_reducible show FgEnd _ _ _ _ _ _ _ _ _ _ _) | (with_reducible show Exists _) | (with_reducible show TurnEnd _ _ _ _ _ _ _ _ _) | (with_reducible show ForSrc _ _ _ _ _ _ _ _ _ _ _))); tb_rel)
  refine ft_list (vs := vs) (AuJ1 R9 L' lst led ws) rfl F' N' (.inr ⟨_, List.mem_cons_of_mem _ (List.mem_cons_of_mem _ (List.mem_cons_of_mem _ hm)), rfl, _, rfl⟩) (AuJ1.mk [] 0 oS oW _ _ .nil (by assumption) (by assumption) rfl rfl) (fun I s₃ ok lt => ⟨?_, ?_⟩)
  · intro i m₁ led' v s₁ oI E' hi hv hJ9 ok₁ F₁ N₁ off hS
    refine hJ9.out fun tv c oS1 oW1 vS vW hled9 htv dS dW hm1 hm2 => ?_
    refine hideG fun PG9 hG9 => ?_
    subst hled9
    refine hG9 ?_
    try clear hG9 PG9
    clear hJ9
    refine hideG fun PG9 hG9 => ?_
    obtain ⟨y, yu, hy, rfl⟩ := strs_get hs hv
    have hol := hl y (List.mem_of_getElem? hy)
    refine hG9 ?_
    try clear hG9 PG9
    refine asg_cell (pre := [(I, oI), (R9, listOf tv.toArray c), (L' + 1 + 1, oS1)]) (post := led) rfl rfl rfl F₁ N₁ dW ?e1 ?e2 (fun oW2 h2 dW2 F₂ N₂ => ?_)
    case e1 =>
      intro p hp
      rcases List.mem_cons.mp hp with rfl | hp
      · exact Ne.symm (off _ (List.mem_cons_of_mem _ (List.mem_cons_of_mem _ (List.mem_cons_self ..))))
      rcases List.mem_cons.mp hp with rfl | hp
      · exact Nat.ne_of_gt l9.2.1
      rw [List.mem_singleton.mp hp]
      exact Nat.ne_of_gt (Nat.lt_succ_self _)
    case e2 => exact fun q hq => Nat.ne_of_lt (Nat.lt_trans (l7' q hq) (Nat.lt_succ_self _))
    refine hideG fun PG9 hG9 => ?_
    obtain ⟨u, hu9⟩ : ∃ u : Fm, m₁ = fun z => if z = Str.ofString "rows" then some (.ref R9) else if z = Str.ofString "words" then some (.ref lst) else u z := form2 hm1 hm2
    subst hu9
    simp only [List.cons_append, List.nil_append] at N₂
    refine hG9 ?_
    try clear hG9 PG9
    refine hide fun Q' E' hQ hE => ?_
    repeat' ((fail_if_success (first | (with_reducible show wpAny _ _ (exec (Stmt.While _ _ _ _) _) _ _ _) | (with_reducible show wpAny _ _ (exec (Stmt.For _ _ _ _ _) _) _ _ _) | (with_reducible show wpAny _ _ (exec (Stmt.Assign _ (Expr.ListComp _ _ _ _) _) _) _ _ _) | (with_reducible show wpAny _ _ (eval (Expr.ListComp _ _ _ _) _) _ _ _) | (with_reducible show wpAny _ _ (pyIter _) _ _ _) | (with_reducible show wpAny _ _ (call (Value.ref _) _ _) _ _ _) | (with_reducible show wpAny _ _ (call (Value.builtin "list.append") _ _) _ _ _) | (with_reducible show wpAny _ _ (subscriptTail _ _ (Value.ref _) _) _ _ _) | (with_reducible show wpAny _ _ (storeName _ (Str.ofString "word") _) _ _ _) | (with_reducible show wpAny _ _ (compareOp CmpOp.NotIn _ _) _ _ _) | (with_reducible show wpAny _ _ (compareOp CmpOp.Eq (Value.ref _) (Value.ref _)) _ _ _) | (with_reducible show CmEnd _ _ _ _ _ _ _ _ _ _ _ _) | (with_reducible show FgEnd _ _ _ _ _ _ _ _ _ _ _) | (with_reducible show Exists _) | (with_reducible show TurnEnd _ _ _ _ _ _ _ _ _) | (with_reducible show ForSrc _ _ _ _ _ _ _ _ _ _ _))); tb_rel)
    refine cm_eval F₂ rfl (by decide) rfl (by decide) ?_
    repeat' ((fail_if_success (first | (with_reducible show wpAny _ _ (exec (Stmt.While _ _ _ _) _) _ _ _) | (with_reducible show wpAny _ _ (exec (Stmt.For _ _ _ _ _) _) _ _ _) | (with_reducible show wpAny _ _ (exec (Stmt.Assign _ (Expr.ListComp _ _ _ _) _) _) _ _ _) | (with_reducible show wpAny _ _ (eval (Expr.ListComp _ _ _ _) _) _ _ _) | (with_reducible show wpAny _ _ (pyIter _) _ _ _) | (with_reducible show wpAny _ _ (call (Value.ref _) _ _) _ _ _) | (with_reducible show wpAny _ _ (call (Value.builtin "list.append") _ _) _ _ _) | (with_reducible show wpAny _ _ (subscriptTail _ _ (Value.ref _) _) _ _ _) | (with_reducible show wpAny _ _ (storeName _ (Str.ofString "word") _) _ _ _) | (with_reducible show wpAny _ _ (compareOp CmpOp.NotIn _ _) _ _ _) | (with_reducible show wpAny _ _ (compareOp CmpOp.Eq (Value.ref _) (Value.ref _)) _ _ _) | (with_reducible show CmEnd _ _ _ _ _ _ _ _ _ _ _ _) | (with_reducible show FgEnd _ _ _ _ _ _ _ _ _ _ _) | (with_reducible show Exists _) | (with_reducible show TurnEnd _ _ _ _ _ _ _ _ _) | (with_reducible show ForSrc _ _ _ _ _ _ _ _ _ _ _))); tb_rel)
    refine src_list (vs := tv) (fun j ys led' => led' = (I, oI) :: (R9, listOf tv.toArray c) :: (L' + 1 + 1, oS1) :: (L' + 1, oW2) :: led ∧ StrsAre ys (((auRows (ws.take i)).take j).filter fun r => cut y.length r == y)) rfl F₂ N₂ (.inr ⟨_, List.mem_cons_of_mem _ (List.mem_cons_self ..), rfl, _, rfl⟩) (by rw [strs_length htv]; exact Nat.le_trans (auRows_n ws i) (lel hn rfl)) (fun I2 C D s₃ ok lt1 lt2 => ⟨⟨rfl, .nil⟩, ?_, ?_⟩)
    · rintro i2 ys led' v s₁ oI2 oC mC E' hi2 hv2 ⟨rfl, hys⟩ hC ok₁ F₁ N₁ off ne hS
      refine hideG fun PG9 hG9 => ?_
      obtain ⟨z, zu, hz, rfl⟩ := strs_get htv hv2
      have hzl := auRows_len hl (List.mem_of_getElem? hz)
      refine hG9 ?_
      try clear hG9 PG9
      refine asg_name rfl rfl F₁ N₁ hC ne off (fun oC' m2 h2 tk2 hC2 hm2 hm3 F₂ N₂ => ?_)
      refine tests_hide fun QY QN hY hN => ?_
      repeat' ((fail_if_success (first | (with_reducible show wpAny _ _ (exec (Stmt.While _ _ _ _) _) _ _ _) | (with_reducible show wpAny _ _ (exec (Stmt.For _ _ _ _ _) _) _ _ _) | (with_reducible show wpAny _ _ (exec (Stmt.Assign _ (Expr.ListComp _ _ _ _) _) _) _ _ _) | (with_reducible show wpAny _ _ (eval (Expr.ListComp _ _ _ _) _) _ _ _) | (with_reducible show wpAny _ _ (pyIter _) _ _ _) | (with_reducible show wpAny _ _ (call (Value.ref _) _ _) _ _ _) | (with_reducible show wpAny _ _ (call (Value.builtin "list.append") _ _) _ _ _) | (with_reducible show wpAny _ _ (subscriptTail _ _ (Value.ref _) _) _ _ _) | (with_reducible show wpAny _ _ (storeName _ (Str.ofString "word") _) _ _ _) | (with_reducible show wpAny _ _ (compareOp CmpOp.NotIn _ _) _ _ _) | (with_reducible show wpAny _ _ (compareOp CmpOp.Eq (Value.ref _) (Value.ref _)) _ _ _) | (with_reducible show CmEnd _ _ _ _ _ _ _ _ _ _ _ _) | (with_reducible show FgEnd _ _ _ _ _ _ _ _ _ _ _) | (with_reducible show Exists _) | (with_reducible show TurnEnd _ _ _ _ _ _ _ _ _) | (with_reducible show ForSrc _ _ _ _ _ _ _ _ _ _ _))); tb_rel)
      · rename_i hcmp
        rename Fr g' L' _ _ => F5
        rename News g' L' _ _ => N5
        refine hY _ _ ?_
        refine ⟨oC', m2, _, ⟨rfl, id⟩, F5, N5, hC2, off, hS, rfl, ?_⟩
        rw [filter_in hz (show (cut y.length z == y) = true from hcmp)]
        exact strs_snoc hys
      · rename_i hcmp
        rename Fr g' L' _ _ => F5
        rename News g' L' _ _ => N5
        refine hN _ ?_
        refine ⟨oC', m2, _, ⟨rfl, id⟩, F5, N5, hC2, off, hS, rfl, ?_⟩
        rw [filter_out hz (show (cut y.length z == y) = false from hcmp)]
        exact hys
    · rintro ys led' s' ⟨rfl, hys⟩ ok₁ F₁ N₁ offD offC
      rw [List.take_of_length_le (by rw [strs_length htv]; exact Nat.le_refl _)] at hys
      repeat' ((fail_if_success (first | (with_reducible show wpAny _ _ (exec (Stmt.While _ _ _ _) _) _ _ _) | (with_reducible show wpAny _ _ (exec (Stmt.For _ _ _ _ _) _) _ _ _) | (with_reducible show wpAny _ _ (exec (Stmt.Assign _ (Expr.ListComp _ _ _ _) _) _) _ _ _) | (with_reducible show wpAny _ _ (eval (Expr.ListComp _ _ _ _) _) _ _ _) | (with_reducible show wpAny _ _ (pyIter _) _ _ _) | (with_reducible show wpAny _ _ (call (Value.ref _) _ _) _ _ _) | (with_reducible show wpAny _ _ (call (Value.builtin "list.append") _ _) _ _ _) | (with_reducible show wpAny _ _ (subscriptTail _ _ (Value.ref _) _) _ _ _) | (with_reducible show wpAny _ _ (storeName _ (Str.ofString "word") _) _ _ _) | (with_reducible show wpAny _ _ (compareOp CmpOp.NotIn _ _) _ _ _) | (with_reducible show wpAny _ _ (compareOp CmpOp.Eq (Value.ref _) (Value.ref _)) _ _ _) | (with_reducible show CmEnd _ _ _ _ _ _ _ _ _ _ _ _) | (with_reducible show FgEnd _ _ _ _ _ _ _ _ _ _ _) | (with_reducible show Exists _) | (with_reducible show TurnEnd _ _ _ _ _ _ _ _ _) | (with_reducible show ForSrc _ _ _ _ _ _ _ _ _ _ _))); tb_rel)
      rename Fr g' L' _ _ => F5
      rename News g' L' _ _ => N5
      refine eq_nil_led N5 (List.mem_cons_of_mem _ (List.mem_cons_self ..)) (List.mem_cons_self ..) (by units_room) ?_
      repeat' ((fail_if_success (first | (with_reducible show wpAny _ _ (exec (Stmt.While _ _ _ _) _) _ _ _) | (with_reducible show wpAny _ _ (exec (Stmt.For _ _ _ _ _) _) _ _ _) | (with_reducible show wpAny _ _ (exec (Stmt.Assign _ (Expr.ListComp _ _ _ _) _) _) _ _ _) | (with_reducible show wpAny _ _ (eval (Expr.ListComp _ _ _ _) _) _ _ _) | (with_reducible show wpAny _ _ (pyIter _) _ _ _) | (with_reducible show wpAny _ _ (call (Value.ref _) _ _) _ _ _) | (with_reducible show wpAny _ _ (call (Value.builtin "list.append") _ _) _ _ _) | (with_reducible show wpAny _ _ (subscriptTail _ _ (Value.ref _) _) _ _ _) | (with_reducible show wpAny _ _ (storeName _ (Str.ofString "word") _) _ _ _) | (with_reducible show wpAny _ _ (compareOp CmpOp.NotIn _ _) _ _ _) | (with_reducible show wpAny _ _ (compareOp CmpOp.Eq (Value.ref _) (Value.ref _)) _ _ _) | (with_reducible show CmEnd _ _ _ _ _ _ _ _ _ _ _ _) | (with_reducible show FgEnd _ _ _ _ _ _ _ _ _ _ _) | (with_reducible show Exists _) | (with_reducible show TurnEnd _ _ _ _ _ _ _ _ _) | (with_reducible show ForSrc _ _ _ _ _ _ _ _ _ _ _))); tb_rel)
      · rename_i l8 h8 l7 hcmp
        have he : ((auRows (ws.take i)).filter fun r => cut y.length r == y) = [] := strs_nil hys hcmp
        have htc := auRows_card (ws.take i) []
        have htl := strs_length htv
        rw [List.length_take, List.length_nil] at htc
        change (auRows (ws.take i)).length ≤ _ at htc
        refine append_led (pre := [(l8, listOf #[] 0), (D, LCg.lst ys), (I, oI)]) F5 N5 ?_ ?_ (lee htl (Nat.le_trans htc (Nat.le_trans (Nat.le_of_eq (Nat.zero_add _)) (Nat.le_trans (Nat.min_le_right ..) hn))) rfl) (fun h4 F₄ N₄ => ?_)
        · intro p hp
          rcases List.mem_cons.mp hp with rfl | hp
          · exact Nat.ne_of_gt l7.2.2.1
          rcases List.mem_cons.mp hp with rfl | hp
          · exact Ne.symm (offD _ (List.mem_cons_of_mem _ (List.mem_cons_self ..)))
          rw [List.mem_singleton.mp hp]
          exact Ne.symm (off _ (List.mem_cons_self ..))
        · intro p hp
          rcases List.mem_cons.mp hp with rfl | hp
          · exact Nat.ne_of_lt l9.1
          rcases List.mem_cons.mp hp with rfl | hp
          · exact Nat.ne_of_lt l9.2.1
          exact Nat.ne_of_lt (Nat.lt_trans (l7' p hp) (Nat.lt_trans (Nat.lt_succ_self _) l9.2.1))
        repeat' ((fail_if_success (first | (with_reducible show wpAny _ _ (exec (Stmt.While _ _ _ _) _) _ _ _) | (with_reducible show wpAny _ _ (exec (Stmt.For _ _ _ _ _) _) _ _ _) | (with_reducible show wpAny _ _ (exec (Stmt.Assign _ (Expr.ListComp _ _ _ _) _) _) _ _ _) | (with_reducible show wpAny _ _ (eval (Expr.ListComp _ _ _ _) _) _ _ _) | (with_reducible show wpAny _ _ (pyIter _) _ _ _) | (with_reducible show wpAny _ _ (call (Value.ref _) _ _) _ _ _) | (with_reducible show wpAny _ _ (call (Value.builtin "list.append") _ _) _ _ _) | (with_reducible show wpAny _ _ (subscriptTail _ _ (Value.ref _) _) _ _ _) | (with_reducible show wpAny _ _ (storeName _ (Str.ofString "word") _) _ _ _) | (with_reducible show wpAny _ _ (compareOp CmpOp.NotIn _ _) _ _ _) | (with_reducible show wpAny _ _ (compareOp CmpOp.Eq (Value.ref _) (Value.ref _)) _ _ _) | (with_reducible show CmEnd _ _ _ _ _ _ _ _ _ _ _ _) | (with_reducible show FgEnd _ _ _ _ _ _ _ _ _ _ _) | (with_reducible show Exists _) | (with_reducible show TurnEnd _ _ _ _ _ _ _ _ _) | (with_reducible show ForSrc _ _ _ _ _ _ _ _ _ _ _))); tb_rel)
        rename Fr g' L' _ _ => F6
        rename News g' L' _ _ => N6
        refine hQ _ _ ?_
        refine ⟨_, _, ⟨ok₁.os, ok₁.gens⟩, F6, fun q hq => N6 q (List.mem_cons_of_mem _ (List.mem_cons_of_mem _ hq)), ?_, .inr ⟨_, List.mem_cons_of_mem _ (List.mem_cons_of_mem _ (List.mem_cons_of_mem _ hm)), rfl, _, rfl⟩, AuJ1.mk (tv ++ [.str y yu]) (c + 1) oS1 oW2 vS _ ?_ dS dW2 rfl rfl⟩
        · exact off_adr off rfl
        · rw [List.take_add_one, hy]
          show StrsAre _ (((ws.take i) ++ [y]).foldl auRow [])
          rw [List.foldl_append]
          show StrsAre _ (auRow (auRows (ws.take i)) y)
          unfold auRow
          rw [if_pos he]
          exact strs_snoc htv
      · rename_i l8 h8 l7 hcmp
        have he : ((auRows (ws.take i)).filter fun r => cut y.length r == y) ≠ [] := strs_some hys hcmp
        rename Fr g' L' _ _ => F6
        rename News g' L' _ _ => N6
        refine hQ _ _ ?_
        refine ⟨_, _, ⟨ok₁.os, ok₁.gens⟩, F6, fun q hq => N6 q (List.mem_cons_of_mem _ (List.mem_cons_of_mem _ hq)), ?_, .inr ⟨_, List.mem_cons_of_mem _ (List.mem_cons_of_mem _ (List.mem_cons_of_mem _ hm)), rfl, _, rfl⟩, AuJ1.mk tv c oS1 oW2 vS _ ?_ dS dW2 rfl rfl⟩
        · exact off_adr off rfl
        · rw [List.take_add_one, hy]
          show StrsAre _ (((ws.take i) ++ [y]).foldl auRow [])
          rw [List.foldl_append]
          show StrsAre _ (auRow (auRows (ws.take i)) y)
          unfold auRow
          rw [if_neg he]
          exact htv
  · intro m₁ led₁ s₁ E' hJ9 okA F₁ N₁ off
    refine hJ9.out fun tv c oS1 oW1 vS vW hled9 htv dS dW hm1 hm2 => ?_
    refine hideG fun PG9 hG9 => ?_
    subst hled9
    refine hG9 ?_
    try clear hG9 PG9
    clear hJ9
    rw [show ws.take vs.length = ws from List.take_of_length_le (by rw [strs_length hs]; exact Nat.le_refl _)] at htv
    refine hideG fun PG9 hG9 => ?_
    obtain ⟨u, hu9⟩ : ∃ u : Fm, m₁ = fun z => if z = Str.ofString "rows" then some (.ref R9) else if z = Str.ofString "words" then some (.ref lst) else u z := form2 hm1 hm2
    subst hu9
    have htc := auRows_card ws []
    have htl := strs_length htv
    rw [List.length_nil] at htc
    change (auRows ws).length ≤ _ at htc
    have hau := Nat.le_trans htc (Nat.le_trans (Nat.le_of_eq (Nat.zero_add _)) hn)
    refine hG9 ?_
    try clear hG9 PG9
    repeat' ((fail_if_success (first | (with_reducible show wpAny _ _ (exec (Stmt.While _ _ _ _) _) _ _ _) | (with_reducible show wpAny _ _ (exec (Stmt.For _ _ _ _ _) _) _ _ _) | (with_reducible show wpAny _ _ (exec (Stmt.Assign _ (Expr.ListComp _ _ _ _) _) _) _ _ _) | (with_reducible show wpAny _ _ (eval (Expr.ListComp _ _ _ _) _) _ _ _) | (with_reducible show wpAny _ _ (pyIter _) _ _ _) | (with_reducible show wpAny _ _ (call (Value.ref _) _ _) _ _ _) | (with_reducible show wpAny _ _ (call (Value.builtin "list.append") _ _) _ _ _) | (with_reducible show wpAny _ _ (subscriptTail _ _ (Value.ref _) _) _ _ _) | (with_reducible show wpAny _ _ (storeName _ (Str.ofString "word") _) _ _ _) | (with_reducible show wpAny _ _ (compareOp CmpOp.NotIn _ _) _ _ _) | (with_reducible show wpAny _ _ (compareOp CmpOp.Eq (Value.ref _) (Value.ref _)) _ _ _) | (with_reducible show CmEnd _ _ _ _ _ _ _ _ _ _ _ _) | (with_reducible show FgEnd _ _ _ _ _ _ _ _ _ _ _) | (with_reducible show Exists _) | (with_reducible show TurnEnd _ _ _ _ _ _ _ _ _) | (with_reducible show ForSrc _ _ _ _ _ _ _ _ _ _ _))); tb_rel)
    refine ft_for ?_
    repeat' ((fail_if_success (first | (with_reducible show wpAny _ _ (exec (Stmt.While _ _ _ _) _) _ _ _) | (with_reducible show wpAny _ _ (exec (Stmt.For _ _ _ _ _) _) _ _ _) | (with_reducible show wpAny _ _ (exec (Stmt.Assign _ (Expr.ListComp _ _ _ _) _) _) _ _ _) | (with_reducible show wpAny _ _ (eval (Expr.ListComp _ _ _ _) _) _ _ _) | (with_reducible show wpAny _ _ (pyIter _) _ _ _) | (with_reducible show wpAny _ _ (call (Value.ref _) _ _) _ _ _) | (with_reducible show wpAny _ _ (call (Value.builtin "list.append") _ _) _ _ _) | (with_reducible show wpAny _ _ (subscriptTail _ _ (Value.ref _) _) _ _ _) | (with_reducible show wpAny _ _ (storeName _ (Str.ofString "word") _) _ _ _) | (with_reducible show wpAny _ _ (compareOp CmpOp.NotIn _ _) _ _ _) | (with_reducible show wpAny _ _ (compareOp CmpOp.Eq (Value.ref _) (Value.ref _)) _ _ _) | (with_reducible show CmEnd _ _ _ _ _ _ _ _ _ _ _ _) | (with_reducible show FgEnd _ _ _ _ _ _ _ _ _ _ _) | (with_reducible show Exists _) | (with_reducible show TurnEnd _ _ _ _ _ _ _ _ _) | (with_reducible show ForSrc _ _ _ _ _ _ _ _ _ _ _))); tb_rel)
    rename StrsAre tv (auRows ws) => htv
    rename_i T9 h8 l8 h7 F7 N7 h5 tk5 t₁ u₁ v₁ hr F5 N5 k5
    have hT : ∀ q ∈ led, q.1 < T9 := fun q hq => Nat.lt_trans (l7' q hq) (Nat.lt_trans (Nat.lt_succ_self _) l8.2.2.1)
    refine fg_range (n := (auRows ws).length) (AuJ3 T9 R9 L' led tv c ws) rfl F5 N5 hr (small_up_nat (lel hau rfl)) (range_up _) (AuJ3.mk [] 0 oS1 oW1 _ _ .nil dS dW rfl rfl) (fun I s₃ ok lt => ⟨?_, ?_⟩)
    · intro k m₁ led' v s₁ oI E' hi hv9 hJ9 ok₁ F₁ N₁ off _
      refine hideG fun PG9 hG9 => ?_
      obtain ⟨tv2, rfl⟩ := hv9
      refine hG9 ?_
      try clear hG9 PG9
      refine hJ9.out fun tw c2 oS oW vS vW hled9 htw dS dW hm1 hm2 => ?_
      refine hideG fun PG9 hG9 => ?_
      subst hled9
      refine hG9 ?_
      try clear hG9 PG9
      clear hJ9
      rw [show (0 + (k : Int) * 1) = (k : Int) from int0]
      refine asg_loc F₁ N₁ rfl rfl (fun h2 tk2 F₂ N₂ => ?_)
      refine hideG fun PG9 hG9 => ?_
      obtain ⟨u2, hu9⟩ : ∃ u : Fm, m₁ = fun z => if z = Str.ofString "told" then some (.ref T9) else if z = Str.ofString "rows" then some (.ref R9) else u z := form2 hm1 hm2
      subst hu9
      obtain ⟨row, hrow⟩ : ∃ row, (auRows ws)[k]? = some row := ⟨_, List.getElem?_eq_getElem hi⟩
      obtain ⟨rt, hrt⟩ := strs_at htv hrow
      have hrl := auRows_len (i := ws.length) hl (by rw [List.take_length]; exact List.mem_of_getElem? hrow)
      refine hG9 ?_
      try clear hG9 PG9
      refine hide fun Q' E' hQ hE => ?_
      repeat' ((fail_if_success (first | (with_reducible show wpAny _ _ (exec (Stmt.While _ _ _ _) _) _ _ _) | (with_reducible show wpAny _ _ (exec (Stmt.For _ _ _ _ _) _) _ _ _) | (with_reducible show wpAny _ _ (exec (Stmt.Assign _ (Expr.ListComp _ _ _ _) _) _) _ _ _) | (with_reducible show wpAny _ _ (eval (Expr.ListComp _ _ _ _) _) _ _ _) | (with_reducible show wpAny _ _ (pyIter _) _ _ _) | (with_reducible show wpAny _ _ (call (Value.ref _) _ _) _ _ _) | (with_reducible show wpAny _ _ (call (Value.builtin "list.append") _ _) _ _ _) | (with_reducible show wpAny _ _ (subscriptTail _ _ (Value.ref _) _) _ _ _) | (with_reducible show wpAny _ _ (storeName _ (Str.ofString "word") _) _ _ _) | (with_reducible show wpAny _ _ (compareOp CmpOp.NotIn _ _) _ _ _) | (with_reducible show wpAny _ _ (compareOp CmpOp.Eq (Value.ref _) (Value.ref _)) _ _ _) | (with_reducible show CmEnd _ _ _ _ _ _ _ _ _ _ _ _) | (with_reducible show FgEnd _ _ _ _ _ _ _ _ _ _ _) | (with_reducible show Exists _) | (with_reducible show TurnEnd _ _ _ _ _ _ _ _ _) | (with_reducible show ForSrc _ _ _ _ _ _ _ _ _ _ _))); tb_rel)
      dsimp only at F₂
      refine ft_for ?_
      repeat' ((fail_if_success (first | (with_reducible show wpAny _ _ (exec (Stmt.While _ _ _ _) _) _ _ _) | (with_reducible show wpAny _ _ (exec (Stmt.For _ _ _ _ _) _) _ _ _) | (with_reducible show wpAny _ _ (exec (Stmt.Assign _ (Expr.ListComp _ _ _ _) _) _) _ _ _) | (with_reducible show wpAny _ _ (eval (Expr.ListComp _ _ _ _) _) _ _ _) | (with_reducible show wpAny _ _ (pyIter _) _ _ _) | (with_reducible show wpAny _ _ (call (Value.ref _) _ _) _ _ _) | (with_reducible show wpAny _ _ (call (Value.builtin "list.append") _ _) _ _ _) | (with_reducible show wpAny _ _ (subscriptTail _ _ (Value.ref _) _) _ _ _) | (with_reducible show wpAny _ _ (storeName _ (Str.ofString "word") _) _ _ _) | (with_reducible show wpAny _ _ (compareOp CmpOp.NotIn _ _) _ _ _) | (with_reducible show wpAny _ _ (compareOp CmpOp.Eq (Value.ref _) (Value.ref _)) _ _ _) | (with_reducible show CmEnd _ _ _ _ _ _ _ _ _ _ _ _) | (with_reducible show FgEnd _ _ _ _ _ _ _ _ _ _ _) | (with_reducible show Exists _) | (with_reducible show TurnEnd _ _ _ _ _ _ _ _ _) | (with_reducible show ForSrc _ _ _ _ _ _ _ _ _ _ _))); tb_rel)
      refine item_led N₂ (List.mem_cons_of_mem _ (List.mem_cons_of_mem _ (List.mem_cons_self ..))) (Int.natCast_nonneg _) (nat63 (Nat.le_trans (Nat.le_of_lt hi) (lel hau rfl))) hrt ?_
      repeat' ((fail_if_success (first | (with_reducible show wpAny _ _ (exec (Stmt.While _ _ _ _) _) _ _ _) | (with_reducible show wpAny _ _ (exec (Stmt.For _ _ _ _ _) _) _ _ _) | (with_reducible show wpAny _ _ (exec (Stmt.Assign _ (Expr.ListComp _ _ _ _) _) _) _ _ _) | (with_reducible show wpAny _ _ (eval (Expr.ListComp _ _ _ _) _) _ _ _) | (with_reducible show wpAny _ _ (pyIter _) _ _ _) | (with_reducible show wpAny _ _ (call (Value.ref _) _ _) _ _ _) | (with_reducible show wpAny _ _ (call (Value.builtin "list.append") _ _) _ _ _) | (with_reducible show wpAny _ _ (subscriptTail _ _ (Value.ref _) _) _ _ _) | (with_reducible show wpAny _ _ (storeName _ (Str.ofString "word") _) _ _ _) | (with_reducible show wpAny _ _ (compareOp CmpOp.NotIn _ _) _ _ _) | (with_reducible show wpAny _ _ (compareOp CmpOp.Eq (Value.ref _) (Value.ref _)) _ _ _) | (with_reducible show CmEnd _ _ _ _ _ _ _ _ _ _ _ _) | (with_reducible show FgEnd _ _ _ _ _ _ _ _ _ _ _) | (with_reducible show Exists _) | (with_reducible show TurnEnd _ _ _ _ _ _ _ _ _) | (with_reducible show ForSrc _ _ _ _ _ _ _ _ _ _ _))); tb_rel)
      rename Fr g' L' _ _ => F5
      rename News g' L' _ _ => N5
      rename IsRange _ _ _ _ _ _ _ _ => hr2
      refine fg_range (n := row.length + 1) (AuJ4 I oI T9 R9 L' led tv c ws k tv2 row.length) rfl F5 N5 hr2 (small_dn_nat (lel hrl rfl)) (range_dn _) (AuJ4.mk tw c2 oS oW _ _ htw dS dW rfl rfl rfl) (fun I2 s₄ ok4 lt4 => ⟨?_, ?_⟩)
      · intro j m₁ led' v s₁ oI2 E' hj hv9 hJ9 ok₁ F₁ N₁ off4 _
        refine hideG fun PG9 hG9 => ?_
        obtain ⟨tv3, rfl⟩ := hv9
        refine hG9 ?_
        try clear hG9 PG9
        refine hJ9.out fun tw c2 oS oW vS vW hled9 htw dS dW hm1 hm2 hm3 => ?_
        refine hideG fun PG9 hG9 => ?_
        subst hled9
        refine hG9 ?_
        try clear hG9 PG9
        clear hJ9
        rw [show ((row.length : Int) + (j : Int) * (-1)) = ((row.length - j : Nat) : Int) from int_dn hj]
        refine asg_cell (pre := [(I2, oI2), (I, oI), (T9, listOf tw.toArray c2), (R9, listOf tv.toArray c)]) (post := (L' + 1, oW) :: led) rfl rfl rfl F₁ N₁ dS ?e1 ?e2 (fun oS2 h2 dS2 F₂ N₂ => ?_)
        case e1 =>
          refine ne4 ?_ ?_ ?_ ?_
          · exact Ne.symm (off4 _ (List.mem_cons_of_mem _ (List.mem_cons_of_mem _ (List.mem_cons_of_mem _ (List.mem_cons_self ..)))))
          · exact Ne.symm (off _ (List.mem_cons_of_mem _ (List.mem_cons_of_mem _ (List.mem_cons_self ..))))
          · exact Nat.ne_of_gt l8.2.1
          · exact Nat.ne_of_gt l9.1
        case e2 =>
          intro p hp
          rcases List.mem_cons.mp hp with rfl | hp
          · exact Nat.ne_of_lt (Nat.lt_succ_self _)
          · exact Nat.ne_of_lt (Nat.lt_trans (l7' p hp) (Nat.lt_trans (Nat.lt_succ_self _) (Nat.lt_succ_self _)))
        refine hideG fun PG9 hG9 => ?_
        obtain ⟨u2, hu9⟩ : ∃ u : Fm, m₁ = fun z => if z = Str.ofString "told" then some (.ref T9) else if z = Str.ofString "rows" then some (.ref R9) else if z = Str.ofString "k" then some (.int k tv2) else u z := ⟨m₁, form3 hm1 hm2 hm3⟩
        subst hu9
        simp only [List.cons_append, List.nil_append] at N₂
        refine hG9 ?_
        try clear hG9 PG9
        generalize htd : List.foldl (auTold (auRows ws) k) (List.foldl (auOne (auRows ws)) [] (List.range k)) (List.map (fun x => row.length - x) (List.range j)) = td at htw
        generalize hsz : row.length - j = size at *
        have hsl : size ≤ row.length := hsz ▸ Nat.sub_le row.length j
        refine hide fun Q'' E'' hQ hE => ?_
        repeat' ((fail_if_success (first | (with_reducible show wpAny _ _ (exec (Stmt.While _ _ _ _) _) _ _ _) | (with_reducible show wpAny _ _ (exec (Stmt.For _ _ _ _ _) _) _ _ _) | (with_reducible show wpAny _ _ (exec (Stmt.Assign _ (Expr.ListComp _ _ _ _) _) _) _ _ _) | (with_reducible show wpAny _ _ (eval (Expr.ListComp _ _ _ _) _) _ _ _) | (with_reducible show wpAny _ _ (pyIter _) _ _ _) | (with_reducible show wpAny _ _ (call (Value.ref _) _ _) _ _ _) | (with_reducible show wpAny _ _ (call (Value.builtin "list.append") _ _) _ _ _) | (with_reducible show wpAny _ _ (subscriptTail _ _ (Value.ref _) _) _ _ _) | (with_reducible show wpAny _ _ (storeName _ (Str.ofString "word") _) _ _ _) | (with_reducible show wpAny _ _ (compareOp CmpOp.NotIn _ _) _ _ _) | (with_reducible show wpAny _ _ (compareOp CmpOp.Eq (Value.ref _) (Value.ref _)) _ _ _) | (with_reducible show CmEnd _ _ _ _ _ _ _ _ _ _ _ _) | (with_reducible show FgEnd _ _ _ _ _ _ _ _ _ _ _) | (with_reducible show Exists _) | (with_reducible show TurnEnd _ _ _ _ _ _ _ _ _) | (with_reducible show ForSrc _ _ _ _ _ _ _ _ _ _ _))); tb_rel)
        refine item_led N₂ (List.mem_cons_of_mem _ (List.mem_cons_of_mem _ (List.mem_cons_of_mem _ (List.mem_cons_self ..)))) (Int.natCast_nonneg _) (nat63 (Nat.le_trans (Nat.le_of_lt hi) (lel hau rfl))) hrt ?_
        repeat' ((fail_if_success (first | (with_reducible show wpAny _ _ (exec (Stmt.While _ _ _ _) _) _ _ _) | (with_reducible show wpAny _ _ (exec (Stmt.For _ _ _ _ _) _) _ _ _) | (with_reducible show wpAny _ _ (exec (Stmt.Assign _ (Expr.ListComp _ _ _ _) _) _) _ _ _) | (with_reducible show wpAny _ _ (eval (Expr.ListComp _ _ _ _) _) _ _ _) | (with_reducible show wpAny _ _ (pyIter _) _ _ _) | (with_reducible show wpAny _ _ (call (Value.ref _) _ _) _ _ _) | (with_reducible show wpAny _ _ (call (Value.builtin "list.append") _ _) _ _ _) | (with_reducible show wpAny _ _ (subscriptTail _ _ (Value.ref _) _) _ _ _) | (with_reducible show wpAny _ _ (storeName _ (Str.ofString "word") _) _ _ _) | (with_reducible show wpAny _ _ (compareOp CmpOp.NotIn _ _) _ _ _) | (with_reducible show wpAny _ _ (compareOp CmpOp.Eq (Value.ref _) (Value.ref _)) _ _ _) | (with_reducible show CmEnd _ _ _ _ _ _ _ _ _ _ _ _) | (with_reducible show FgEnd _ _ _ _ _ _ _ _ _ _ _) | (with_reducible show Exists _) | (with_reducible show TurnEnd _ _ _ _ _ _ _ _ _) | (with_reducible show ForSrc _ _ _ _ _ _ _ _ _ _ _))); tb_rel)
        rename Fr g' L' _ _ => F6
        rename News g' L' _ _ => N6
        refine st_cell (pre := [(I2, oI2), (I, oI), (T9, listOf tw.toArray c2), (R9, listOf tv.toArray c), (L' + 1 + 1, oS2)]) (post := led) rfl rfl rfl F6 N6 dW ?e3 ?e4 (fun oW2 h3 dW2 F₃ N₃ => ?_)
        case e3 =>
          refine ne5 ?_ ?_ ?_ ?_ ?_
          · exact Ne.symm (off4 _ (List.mem_cons_of_mem _ (List.mem_cons_of_mem _ (List.mem_cons_of_mem _ (List.mem_cons_of_mem _ (List.mem_cons_self ..))))))
          · exact Ne.symm (off _ (List.mem_cons_of_mem _ (List.mem_cons_of_mem _ (List.mem_cons_of_mem _ (List.mem_cons_self ..)))))
          · exact Nat.ne_of_gt l8.2.2.1
          · exact Nat.ne_of_gt l9.2.1
          · exact Nat.ne_of_gt (Nat.lt_succ_self _)
        case e4 => exact fun q hq => Nat.ne_of_lt (Nat.lt_trans (l7' q hq) (Nat.lt_succ_self _))
        simp only [List.cons_append, List.nil_append] at N₃
        repeat' ((fail_if_success (first | (with_reducible show wpAny _ _ (exec (Stmt.While _ _ _ _) _) _ _ _) | (with_reducible show wpAny _ _ (exec (Stmt.For _ _ _ _ _) _) _ _ _) | (with_reducible show wpAny _ _ (exec (Stmt.Assign _ (Expr.ListComp _ _ _ _) _) _) _ _ _) | (with_reducible show wpAny _ _ (eval (Expr.ListComp _ _ _ _) _) _ _ _) | (with_reducible show wpAny _ _ (pyIter _) _ _ _) | (with_reducible show wpAny _ _ (call (Value.ref _) _ _) _ _ _) | (with_reducible show wpAny _ _ (call (Value.builtin "list.append") _ _) _ _ _) | (with_reducible show wpAny _ _ (subscriptTail _ _ (Value.ref _) _) _ _ _) | (with_reducible show wpAny _ _ (storeName _ (Str.ofString "word") _) _ _ _) | (with_reducible show wpAny _ _ (compareOp CmpOp.NotIn _ _) _ _ _) | (with_reducible show wpAny _ _ (compareOp CmpOp.Eq (Value.ref _) (Value.ref _)) _ _ _) | (with_reducible show CmEnd _ _ _ _ _ _ _ _ _ _ _ _) | (with_reducible show FgEnd _ _ _ _ _ _ _ _ _ _ _) | (with_reducible show Exists _) | (with_reducible show TurnEnd _ _ _ _ _ _ _ _ _) | (with_reducible show ForSrc _ _ _ _ _ _ _ _ _ _ _))); tb_rel)
        refine notin_led N₃ (List.mem_cons_of_mem _ (List.mem_cons_of_mem _ (List.mem_cons_self ..))) htw ?_
        repeat' ((fail_if_success (first | (with_reducible show wpAny _ _ (exec (Stmt.While _ _ _ _) _) _ _ _) | (with_reducible show wpAny _ _ (exec (Stmt.For _ _ _ _ _) _) _ _ _) | (with_reducible show wpAny _ _ (exec (Stmt.Assign _ (Expr.ListComp _ _ _ _) _) _) _ _ _) | (with_reducible show wpAny _ _ (eval (Expr.ListComp _ _ _ _) _) _ _ _) | (with_reducible show wpAny _ _ (pyIter _) _ _ _) | (with_reducible show wpAny _ _ (call (Value.ref _) _ _) _ _ _) | (with_reducible show wpAny _ _ (call (Value.builtin "list.append") _ _) _ _ _) | (with_reducible show wpAny _ _ (subscriptTail _ _ (Value.ref _) _) _ _ _) | (with_reducible show wpAny _ _ (storeName _ (Str.ofString "word") _) _ _ _) | (with_reducible show wpAny _ _ (compareOp CmpOp.NotIn _ _) _ _ _) | (with_reducible show wpAny _ _ (compareOp CmpOp.Eq (Value.ref _) (Value.ref _)) _ _ _) | (with_reducible show CmEnd _ _ _ _ _ _ _ _ _ _ _ _) | (with_reducible show FgEnd _ _ _ _ _ _ _ _ _ _ _) | (with_reducible show Exists _) | (with_reducible show TurnEnd _ _ _ _ _ _ _ _ _) | (with_reducible show ForSrc _ _ _ _ _ _ _ _ _ _ _))); tb_rel)
        · rename_i hin
          rename Fr g' L' _ _ => F6
          rename News g' L' _ _ => N6
          refine hQ _ _ ?_
          refine ⟨_, _, ⟨rfl, id⟩, F6, N6, off_adr off4 rfl, trivial, AuJ4.mk tw c2 oS2 oW2 _ _ ?_ dS2 dW2 rfl rfl rfl⟩
          rw [fold_step, htd, hsz, auTold_in hrow hin]
          exact htw
        · rename_i hin
          refine cm_eval F₃ rfl (by decide) rfl (by decide) ?_
          repeat' ((fail_if_success (first | (with_reducible show wpAny _ _ (exec (Stmt.While _ _ _ _) _) _ _ _) | (with_reducible show wpAny _ _ (exec (Stmt.For _ _ _ _ _) _) _ _ _) | (with_reducible show wpAny _ _ (exec (Stmt.Assign _ (Expr.ListComp _ _ _ _) _) _) _ _ _) | (with_reducible show wpAny _ _ (eval (Expr.ListComp _ _ _ _) _) _ _ _) | (with_reducible show wpAny _ _ (pyIter _) _ _ _) | (with_reducible show wpAny _ _ (call (Value.ref _) _ _) _ _ _) | (with_reducible show wpAny _ _ (call (Value.builtin "list.append") _ _) _ _ _) | (with_reducible show wpAny _ _ (subscriptTail _ _ (Value.ref _) _) _ _ _) | (with_reducible show wpAny _ _ (storeName _ (Str.ofString "word") _) _ _ _) | (with_reducible show wpAny _ _ (compareOp CmpOp.NotIn _ _) _ _ _) | (with_reducible show wpAny _ _ (compareOp CmpOp.Eq (Value.ref _) (Value.ref _)) _ _ _) | (with_reducible show CmEnd _ _ _ _ _ _ _ _ _ _ _ _) | (with_reducible show FgEnd _ _ _ _ _ _ _ _ _ _ _) | (with_reducible show Exists _) | (with_reducible show TurnEnd _ _ _ _ _ _ _ _ _) | (with_reducible show ForSrc _ _ _ _ _ _ _ _ _ _ _))); tb_rel)
          refine from_led (k := k + 1) F₃ N₃ (List.mem_cons_of_mem _ (List.mem_cons_of_mem _ (List.mem_cons_of_mem _ (List.mem_cons_self ..)))) (lee htl hau rfl) (fun D9 h4 F₄ N₄ l4 => ?_)
          repeat' ((fail_if_success (first | (with_reducible show wpAny _ _ (exec (Stmt.While _ _ _ _) _) _ _ _) | (with_reducible show wpAny _ _ (exec (Stmt.For _ _ _ _ _) _) _ _ _) | (with_reducible show wpAny _ _ (exec (Stmt.Assign _ (Expr.ListComp _ _ _ _) _) _) _ _ _) | (with_reducible show wpAny _ _ (eval (Expr.ListComp _ _ _ _) _) _ _ _) | (with_reducible show wpAny _ _ (pyIter _) _ _ _) | (with_reducible show wpAny _ _ (call (Value.ref _) _ _) _ _ _) | (with_reducible show wpAny _ _ (call (Value.builtin "list.append") _ _) _ _ _) | (with_reducible show wpAny _ _ (subscriptTail _ _ (Value.ref _) _) _ _ _) | (with_reducible show wpAny _ _ (storeName _ (Str.ofString "word") _) _ _ _) | (with_reducible show wpAny _ _ (compareOp CmpOp.NotIn _ _) _ _ _) | (with_reducible show wpAny _ _ (compareOp CmpOp.Eq (Value.ref _) (Value.ref _)) _ _ _) | (with_reducible show CmEnd _ _ _ _ _ _ _ _ _ _ _ _) | (with_reducible show FgEnd _ _ _ _ _ _ _ _ _ _ _) | (with_reducible show Exists _) | (with_reducible show TurnEnd _ _ _ _ _ _ _ _ _) | (with_reducible show ForSrc _ _ _ _ _ _ _ _ _ _ _))); tb_rel)
          refine src_list (vs := tv.drop (k + 1)) (fun j ys led' => led' = (D9, listOf (tv.drop (k + 1)).toArray 0) :: (I2, oI2) :: (I, oI) :: (T9, listOf tw.toArray c2) :: (R9, listOf tv.toArray c) :: (L' + 1 + 1, oS2) :: (L' + 1, oW2) :: led ∧ StrsAre ys ((((auRows ws).drop (k + 1)).take j).filter fun r => cut size r == cut size row)) rfl F₄ N₄ (.inr ⟨_, List.mem_cons_self .., rfl, _, rfl⟩) (by rw [List.length_drop]; exact Nat.le_trans (Nat.sub_le ..) (lee htl hau rfl)) (fun I3 C D s₃ ok lt1 lt2 => ⟨⟨rfl, .nil⟩, ?_, ?_⟩)
          · rintro i2 ys led' v s₁ oI3 oC mC E' hi2 hv2 ⟨rfl, hys⟩ hC ok₁ F₁ N₁ off ne hS
            refine hideG fun PG9 hG9 => ?_
            obtain ⟨z, zu, hz, rfl⟩ := strs_get (strs_drop htv (k + 1)) hv2
            have hzl := auRows_len (i := ws.length) hl (by rw [List.take_length]; exact List.mem_of_mem_drop (List.mem_of_getElem? hz))
            refine hG9 ?_
            try clear hG9 PG9
            refine asg_name rfl rfl F₁ N₁ hC ne off (fun oC' m2 h2 tk2 hC2 hm2 hm3 F₂ N₂ => ?_)
            refine tests_hide fun QY QN hY hN => ?_
            repeat' ((fail_if_success (first | (with_reducible show wpAny _ _ (exec (Stmt.While _ _ _ _) _) _ _ _) | (with_reducible show wpAny _ _ (exec (Stmt.For _ _ _ _ _) _) _ _ _) | (with_reducible show wpAny _ _ (exec (Stmt.Assign _ (Expr.ListComp _ _ _ _) _) _) _ _ _) | (with_reducible show wpAny _ _ (eval (Expr.ListComp _ _ _ _) _) _ _ _) | (with_reducible show wpAny _ _ (pyIter _) _ _ _) | (with_reducible show wpAny _ _ (call (Value.ref _) _ _) _ _ _) | (with_reducible show wpAny _ _ (call (Value.builtin "list.append") _ _) _ _ _) | (with_reducible show wpAny _ _ (subscriptTail _ _ (Value.ref _) _) _ _ _) | (with_reducible show wpAny _ _ (storeName _ (Str.ofString "word") _) _ _ _) | (with_reducible show wpAny _ _ (compareOp CmpOp.NotIn _ _) _ _ _) | (with_reducible show wpAny _ _ (compareOp CmpOp.Eq (Value.ref _) (Value.ref _)) _ _ _) | (with_reducible show CmEnd _ _ _ _ _ _ _ _ _ _ _ _) | (with_reducible show FgEnd _ _ _ _ _ _ _ _ _ _ _) | (with_reducible show Exists _) | (with_reducible show TurnEnd _ _ _ _ _ _ _ _ _) | (with_reducible show ForSrc _ _ _ _ _ _ _ _ _ _ _))); tb_rel)
            · rename_i hcmp
              rename Fr g' L' _ _ => F5
              rename News g' L' _ _ => N5
              refine hY _ _ ?_
              refine ⟨oC', m2, _, ⟨rfl, id⟩, F5, N5, hC2, off, hS, rfl, ?_⟩
              rw [filter_in hz (show (cut size z == cut size row) = true from hcmp)]
              exact strs_snoc hys
            · rename_i hcmp
              rename Fr g' L' _ _ => F5
              rename News g' L' _ _ => N5
              refine hN _ ?_
              refine ⟨oC', m2, _, ⟨rfl, id⟩, F5, N5, hC2, off, hS, rfl, ?_⟩
              rw [filter_out hz (show (cut size z == cut size row) = false from hcmp)]
              exact hys
          · rintro ys led' s' ⟨rfl, hys⟩ ok₁ F₁ N₁ offD offC
            rw [List.take_of_length_le (by rw [List.length_drop, List.length_drop, htl]; exact Nat.le_refl _)] at hys
            repeat' ((fail_if_success (first | (with_reducible show wpAny _ _ (exec (Stmt.While _ _ _ _) _) _ _ _) | (with_reducible show wpAny _ _ (exec (Stmt.For _ _ _ _ _) _) _ _ _) | (with_reducible show wpAny _ _ (exec (Stmt.Assign _ (Expr.ListComp _ _ _ _) _) _) _ _ _) | (with_reducible show wpAny _ _ (eval (Expr.ListComp _ _ _ _) _) _ _ _) | (with_reducible show wpAny _ _ (pyIter _) _ _ _) | (with_reducible show wpAny _ _ (call (Value.ref _) _ _) _ _ _) | (with_reducible show wpAny _ _ (call (Value.builtin "list.append") _ _) _ _ _) | (with_reducible show wpAny _ _ (subscriptTail _ _ (Value.ref _) _) _ _ _) | (with_reducible show wpAny _ _ (storeName _ (Str.ofString "word") _) _ _ _) | (with_reducible show wpAny _ _ (compareOp CmpOp.NotIn _ _) _ _ _) | (with_reducible show wpAny _ _ (compareOp CmpOp.Eq (Value.ref _) (Value.ref _)) _ _ _) | (with_reducible show CmEnd _ _ _ _ _ _ _ _ _ _ _ _) | (with_reducible show FgEnd _ _ _ _ _ _ _ _ _ _ _) | (with_reducible show Exists _) | (with_reducible show TurnEnd _ _ _ _ _ _ _ _ _) | (with_reducible show ForSrc _ _ _ _ _ _ _ _ _ _ _))); tb_rel)
            rename Fr g' L' _ _ => F5
            rename News g' L' _ _ => N5
            refine eq_nil_led N5 (List.mem_cons_of_mem _ (List.mem_cons_self ..)) (List.mem_cons_self ..) (by units_room) ?_
            repeat' ((fail_if_success (first | (with_reducible show wpAny _ _ (exec (Stmt.While _ _ _ _) _) _ _ _) | (with_reducible show wpAny _ _ (exec (Stmt.For _ _ _ _ _) _) _ _ _) | (with_reducible show wpAny _ _ (exec (Stmt.Assign _ (Expr.ListComp _ _ _ _) _) _) _ _ _) | (with_reducible show wpAny _ _ (eval (Expr.ListComp _ _ _ _) _) _ _ _) | (with_reducible show wpAny _ _ (pyIter _) _ _ _) | (with_reducible show wpAny _ _ (call (Value.ref _) _ _) _ _ _) | (with_reducible show wpAny _ _ (call (Value.builtin "list.append") _ _) _ _ _) | (with_reducible show wpAny _ _ (subscriptTail _ _ (Value.ref _) _) _ _ _) | (with_reducible show wpAny _ _ (storeName _ (Str.ofString "word") _) _ _ _) | (with_reducible show wpAny _ _ (compareOp CmpOp.NotIn _ _) _ _ _) | (with_reducible show wpAny _ _ (compareOp CmpOp.Eq (Value.ref _) (Value.ref _)) _ _ _) | (with_reducible show CmEnd _ _ _ _ _ _ _ _ _ _ _ _) | (with_reducible show FgEnd _ _ _ _ _ _ _ _ _ _ _) | (with_reducible show Exists _) | (with_reducible show TurnEnd _ _ _ _ _ _ _ _ _) | (with_reducible show ForSrc _ _ _ _ _ _ _ _ _ _ _))); tb_rel)
            · rename_i l18 h18 l17 hcmp
              have he := strs_nil hys hcmp
              refine append_led (pre := [(l18, listOf #[] 0), (D, LCg.lst ys), (D9, listOf (tv.drop (k + 1)).toArray 0), (I2, oI2), (I, oI)]) F5 N5 ?_ ?_ ?_ (fun h4 F₄ N₄ => ?_)
              · refine ne5 ?_ ?_ ?_ ?_ ?_
                · exact Nat.ne_of_gt l17.2.2.2.2.1
                · exact Ne.symm (offD _ (List.mem_cons_of_mem _ (List.mem_cons_of_mem _ (List.mem_cons_of_mem _ (List.mem_cons_self ..)))))
                · exact Nat.ne_of_gt (l4 _ (List.mem_cons_of_mem _ (List.mem_cons_of_mem _ (List.mem_cons_self ..))))
                · exact Ne.symm (off4 _ (List.mem_cons_of_mem _ (List.mem_cons_self ..)))
                · exact Ne.symm (off _ (List.mem_cons_self ..))
              · intro p hp
                rcases List.mem_cons.mp hp with rfl | hp
                · exact Nat.ne_of_lt l8.1
                rcases List.mem_cons.mp hp with rfl | hp
                · exact Nat.ne_of_lt l8.2.1
                rcases List.mem_cons.mp hp with rfl | hp
                · exact Nat.ne_of_lt l8.2.2.1
                · exact Nat.ne_of_lt (hT p hp)
              · rw [strs_length htw, ← htd]
                have hb1 := auFold_len (auRows ws) k ((List.range j).map (row.length - ·)) ((List.range k).foldl (auOne (auRows ws)) [])
                have hb2 := auSum_len (rows := auRows ws) (fun r hr => auRows_len (i := ws.length) hl (by rw [List.take_length]; exact hr)) (List.range k) []
                simp only [List.length_map, List.length_range, List.length_nil] at hb1 hb2
                exact Nat.le_trans hb1 (add_lit (le4 (k := 400) (Nat.le_trans hb2 (Nat.le_of_eq (Nat.zero_add _))) (Nat.le_trans (Nat.le_of_lt hi) hau) rfl) (Nat.le_trans (Nat.le_of_lt_succ hj) hrl) rfl)
              repeat' ((fail_if_success (first | (with_reducible show wpAny _ _ (exec (Stmt.While _ _ _ _) _) _ _ _) | (with_reducible show wpAny _ _ (exec (Stmt.For _ _ _ _ _) _) _ _ _) | (with_reducible show wpAny _ _ (exec (Stmt.Assign _ (Expr.ListComp _ _ _ _) _) _) _ _ _) | (with_reducible show wpAny _ _ (eval (Expr.ListComp _ _ _ _) _) _ _ _) | (with_reducible show wpAny _ _ (pyIter _) _ _ _) | (with_reducible show wpAny _ _ (call (Value.ref _) _ _) _ _ _) | (with_reducible show wpAny _ _ (call (Value.builtin "list.append") _ _) _ _ _) | (with_reducible show wpAny _ _ (subscriptTail _ _ (Value.ref _) _) _ _ _) | (with_reducible show wpAny _ _ (storeName _ (Str.ofString "word") _) _ _ _) | (with_reducible show wpAny _ _ (compareOp CmpOp.NotIn _ _) _ _ _) | (with_reducible show wpAny _ _ (compareOp CmpOp.Eq (Value.ref _) (Value.ref _)) _ _ _) | (with_reducible show CmEnd _ _ _ _ _ _ _ _ _ _ _ _) | (with_reducible show FgEnd _ _ _ _ _ _ _ _ _ _ _) | (with_reducible show Exists _) | (with_reducible show TurnEnd _ _ _ _ _ _ _ _ _) | (with_reducible show ForSrc _ _ _ _ _ _ _ _ _ _ _))); tb_rel)
              rename Fr g' L' _ _ => F6
              rename News g' L' _ _ => N6
              refine hQ _ _ ?_
              refine ⟨_, _, ⟨ok₁.os, ok₁.gens⟩, F6, fun q hq => N6 q (List.mem_cons_of_mem _ (List.mem_cons_of_mem _ (List.mem_cons_of_mem _ hq))), off_adr off4 rfl, trivial, AuJ4.mk (tw ++ [_]) _ oS2 oW2 _ _ ?_ dS2 dW2 rfl rfl rfl⟩
              rw [fold_step, htd, hsz, auTold_new hrow hin he]
              exact strs_snoc htw
            · rename_i l8 h8 l7 hcmp
              have he := strs_some hys hcmp
              rename Fr g' L' _ _ => F6
              rename News g' L' _ _ => N6
              refine hQ _ _ ?_
              refine ⟨_, _, ⟨ok₁.os, ok₁.gens⟩, F6, fun q hq => N6 q (List.mem_cons_of_mem _ (List.mem_cons_of_mem _ (List.mem_cons_of_mem _ hq))), off_adr off4 rfl, trivial, AuJ4.mk tw _ oS2 oW2 _ _ ?_ dS2 dW2 rfl rfl rfl⟩
              rw [fold_step, htd, hsz, auTold_dup hrow he]
              exact htw
      · intro m₁ led₁ s₁ E' hJ9 ok₁ F₁ N₁ off4
        refine hJ9.out fun tw c2 oS oW vS vW hled9 htw dS dW hm1 hm2 hm3 => ?_
        refine hideG fun PG9 hG9 => ?_
        subst hled9
        refine hG9 ?_
        try clear hG9 PG9
        clear hJ9
        repeat' ((fail_if_success (first | (with_reducible show wpAny _ _ (exec (Stmt.While _ _ _ _) _) _ _ _) | (with_reducible show wpAny _ _ (exec (Stmt.For _ _ _ _ _) _) _ _ _) | (with_reducible show wpAny _ _ (exec (Stmt.Assign _ (Expr.ListComp _ _ _ _) _) _) _ _ _) | (with_reducible show wpAny _ _ (eval (Expr.ListComp _ _ _ _) _) _ _ _) | (with_reducible show wpAny _ _ (pyIter _) _ _ _) | (with_reducible show wpAny _ _ (call (Value.ref _) _ _) _ _ _) | (with_reducible show wpAny _ _ (call (Value.builtin "list.append") _ _) _ _ _) | (with_reducible show wpAny _ _ (subscriptTail _ _ (Value.ref _) _) _ _ _) | (with_reducible show wpAny _ _ (storeName _ (Str.ofString "word") _) _ _ _) | (with_reducible show wpAny _ _ (compareOp CmpOp.NotIn _ _) _ _ _) | (with_reducible show wpAny _ _ (compareOp CmpOp.Eq (Value.ref _) (Value.ref _)) _ _ _) | (with_reducible show CmEnd _ _ _ _ _ _ _ _ _ _ _ _) | (with_reducible show FgEnd _ _ _ _ _ _ _ _ _ _ _) | (with_reducible show Exists _) | (with_reducible show TurnEnd _ _ _ _ _ _ _ _ _) | (with_reducible show ForSrc _ _ _ _ _ _ _ _ _ _ _))); tb_rel)
        refine hQ _ _ ?_
        refine ⟨_, _, ⟨ok₁.os, ok₁.gens⟩, F₁, N₁, off_adr off rfl, trivial, AuJ3.mk tw c2 oS oW _ _ ?_ dS dW hm1 hm2⟩
        rw [List.range_succ, List.foldl_append]
        show StrsAre _ (auOne (auRows ws) ((List.range k).foldl (auOne (auRows ws)) []) k)
        unfold auOne downs
        rw [show (auRows ws).getD k (Str.ofString "") = row by rw [List.getD_eq_getElem?_getD, hrow]; rfl]
        exact htw
    · intro m₁ led₁ s₁ E' hJ9 ok₁ F₁ N₁ off4
      refine hJ9.out fun tw c2 oS oW vS vW hled9 htw dS dW hm1 hm2 => ?_
      refine hideG fun PG9 hG9 => ?_
      subst hled9
      refine hG9 ?_
      try clear hG9 PG9
      clear hJ9
      refine hideG fun PG9 hG9 => ?_
      obtain ⟨u2, hu9⟩ : ∃ u : Fm, m₁ = fun z => if z = Str.ofString "told" then some (.ref T9) else if z = Str.ofString "rows" then some (.ref R9) else u z := form2 hm1 hm2
      subst hu9
      refine hG9 ?_
      try clear hG9 PG9
      repeat' ((fail_if_success (first | (with_reducible show wpAny _ _ (exec (Stmt.While _ _ _ _) _) _ _ _) | (with_reducible show wpAny _ _ (exec (Stmt.For _ _ _ _ _) _) _ _ _) | (with_reducible show wpAny _ _ (exec (Stmt.Assign _ (Expr.ListComp _ _ _ _) _) _) _ _ _) | (with_reducible show wpAny _ _ (eval (Expr.ListComp _ _ _ _) _) _ _ _) | (with_reducible show wpAny _ _ (pyIter _) _ _ _) | (with_reducible show wpAny _ _ (call (Value.ref _) _ _) _ _ _) | (with_reducible show wpAny _ _ (call (Value.builtin "list.append") _ _) _ _ _) | (with_reducible show wpAny _ _ (subscriptTail _ _ (Value.ref _) _) _ _ _) | (with_reducible show wpAny _ _ (storeName _ (Str.ofString "word") _) _ _ _) | (with_reducible show wpAny _ _ (compareOp CmpOp.NotIn _ _) _ _ _) | (with_reducible show wpAny _ _ (compareOp CmpOp.Eq (Value.ref _) (Value.ref _)) _ _ _) | (with_reducible show CmEnd _ _ _ _ _ _ _ _ _ _ _ _) | (with_reducible show FgEnd _ _ _ _ _ _ _ _ _ _ _) | (with_reducible show Exists _) | (with_reducible show TurnEnd _ _ _ _ _ _ _ _ _) | (with_reducible show ForSrc _ _ _ _ _ _ _ _ _ _ _))); tb_rel)
      rename Fr h₀ L _ m => F9
      rename News h₀ L _ _ => N9
      refine ret _ tw c2 _ htw hT F9 (fun q hq => N9 q ?_) ⟨ok₁.os.trans okA.os, fun h => ok₁.gens (okA.gens h)⟩
      rcases List.mem_cons.mp hq with rfl | hq
      · exact List.mem_cons_self ..
      · exact List.mem_cons_of_mem _ (List.mem_cons_of_mem _ (List.mem_cons_of_mem _ (List.mem_cons_of_mem _ hq)))
end
section
open PySem PySem.W PySem.Spec PySem.Calls PyProof.Rows
section
variable {prog : Program} {w : World} {A : Around} {E : Value → Shared → Prop} {s : Shared} {h₀ : Heap} {L I l : Addr} {m : Fm} {env : Env} {led : List Ent} {vs : List Value} {n i : Nat}
/-- the walker of a list, as it stands in the ledger -/
noncomputable def LiObj (o : Obj) (l : Addr) (i : Nat) : Prop := o.cls = .type "list_iterator" ∧ o.data = .fields #[.ref l, .int i 0]
theorem LiObj.at {h : Heap} {o : Obj} (a : LiObj o l i) (ho : h.get? I = some o) : h.IsListIter I l i := ⟨o, ho, a.1, a.2⟩
theorem iter_led {Q : Value → Shared → Prop} (F : Fr h₀ L s.heap m) (N : News h₀ L s.heap led) (hm : (l, listOf vs.toArray n) ∈ led)
    (h : ∀ (I : Addr) h' oI, Fr h₀ L h' m → News h₀ L h' ((I, oI) :: led) → (∀ p ∈ led, p.1 < I) → LiObj oI l 0 → Q (.ref I) { s with heap := h' }) :
    wpAny (model prog w) A (call (.builtin "iter") [.ref l]) Q E s := by
  have hl : s.heap.IsList l vs.toArray := ⟨_, (N _ hm).1, rfl, _, rfl⟩
  refine call_function_entry (by decide +kernel) (by decide +kernel) kdk_entry_iter (kdk_args_iter _) ?_
  unfold Builtin.«iter»
  refine wpAny_bind (m := someArgs "iter" 1 2 _) (wpAny_of_eq (a := [Value.ref l]) (by first | rfl | kernel_rfl!) ?_)
  show wpAny _ _ (pyIter (.ref l) >>= _) _ _ _
  refine wpAny_bind (wpAny_pyIter_list hl ?_)
  exact wpAny_pure ⟨_, rfl, h _ _ _ (F.push _) (News.push F N _ rfl) (fun q hq => Heap.lt_size (N q hq).1) ⟨rfl, rfl⟩⟩
theorem next_special {items : Array Value} {x : Value} {Q : Option Value → Shared → Prop} (hit : s.heap.IsListIter I l i) (hl : s.heap.IsList l items) (hx : items[i]? = some x)
    (hQ : ∀ h', h'.IsListIter I l (i + 1) → Heap.SameBut I s.heap h' → Q (some x) { s with heap := h' }) : wpAny (model prog w) A (callSpecial? (.ref I) (Str.ofString "__next__")) Q E s := by
  obtain ⟨o, ho, hc, hd⟩ := id hit
  obtain ⟨ol, hol, _, nl, hdl⟩ := hl
  refine wpAny_callSpecial?_slot (name := Str.ofString "__next__") hit.typeIs slot_listiter_next
    (wpAny_call_entry slot_listiter_next hit.typeIs entry_listiter_next ?_ (args_listiter_next _))
  show wpAny _ _ (field (.ref I) 0 >>= _) _ _ s
  refine wpAny_bind (wpAny_field ho hd (x := .ref l) rfl ?_)
  show wpAny _ _ (if (Value.ref l == Value.none) = true then _ else _) _ _ s
  rw [if_neg (show ¬ ((Value.ref l == Value.none) = true) from Bool.false_ne_true)]
  show wpAny _ _ (field (.ref I) 1 >>= _) _ _ s
  refine wpAny_bind (wpAny_field ho hd (x := .int i 0) rfl ?_)
  show wpAny _ _ (seqItems? (.ref l) >>= _) _ _ s
  refine wpAny_bind (wpAny_seqItems hol hdl ?_)
  simp only [Int.toNat_natCast, hx]
  refine wpAny_bind (wpAny_setField ho hd (by simp) (wpAny_pure ⟨x, rfl, hQ _ ?_ (Heap.SameBut.update ..)⟩))
  exact ⟨_, Heap.get?_update_self _ ho (Obj.isFreed_of_fields (Obj.data_mapFields hd _)), (Obj.cls_mapFields ..).trans hc, by
    rw [Obj.data_mapFields hd]; simp [rawInt]⟩
theorem next_led {oI : Obj} {x : Value} {Q : Value → Shared → Prop} (F : Fr h₀ L s.heap m) (N : News h₀ L s.heap ((I, oI) :: led)) (hi : LiObj oI l i) (hm : (l, listOf vs.toArray n) ∈ led) (off : ∀ p ∈ led, p.1 ≠ I) (hx : vs[i]? = some x)
    (h : ∀ h' o', Fr h₀ L h' m → News h₀ L h' ((I, o') :: led) → LiObj o' l (i + 1) → Q x { s with heap := h' }) :
    wpAny (model prog w) A (call (.builtin "next") [.ref I]) Q E s := by
  have hmem := N (I, oI) (List.mem_cons_self ..)
  have hit := hi.at hmem.1
  have hl : s.heap.IsList l vs.toArray := ⟨_, (N _ (List.mem_cons_of_mem _ hm)).1, rfl, _, rfl⟩
  refine call_function_entry (by decide +kernel) (by decide +kernel) kdk_entry_next (kdk_args_next _) ?_
  unfold Builtin.«next»
  refine wpAny_bind (m := someArgs "next" 1 2 _) (wpAny_of_eq (a := [Value.ref I]) (by first | rfl | kernel_rfl!) ?_)
  dsimp only
  refine wpAny_bind (wpAny_specialOf (name := Str.ofString "__next__") hit.typeIs slot_listiter_next.lookup ?_)
  refine wpAny_ite_split (fun hab => absurd hab (by decide)) (fun _ => ?_)
  refine wpAny_bind (next_special hit hl (by simpa using hx) fun h' hit' hs => ?_)
  obtain ⟨o', ho', hc', hd'⟩ := hit'
  exact wpAny_pure ⟨_, rfl, h h' o' (F.change hs hmem.2.1 hmem.2.2) (news_set (pre := []) N (fun p hp => nomatch hp) off hs ho') ⟨hc', hd'⟩⟩
/-- a for over a walker that stands -/
theorem fg_iter {target : PySem.Expr} {body orelse : List Stmt} {Q : Flow → Shared → Prop} {oI : Obj} (J : Nat → Fm → List Ent → Prop)
    (hh : A.handled = none) (F : Fr h₀ L s.heap m) (N : News h₀ L s.heap ((I, oI) :: led)) (hi : LiObj oI l i) (hS : LCg.SrcAt h₀ l vs.toArray led) (off : ∀ p ∈ led, p.1 ≠ I) (hne : @Ne Nat l I) (hi0 : i ≤ vs.length) (hJ : J i m led)
    (h : ∀ s₃, Ok s s₃ → FgTurn prog w A h₀ L env target body s₃ I vs.length (fun i v => vs[i]? = some v) (LCg.SrcAt h₀ l vs.toArray) J (fun s₃ => Q .next s₃) (fun v s₃ => Q (.ret v) s₃) ∧
      ∀ m₁ led s' (E' : Value → Shared → Prop), J vs.length m₁ led → Ok s s' → Fr h₀ L s'.heap m₁ → News h₀ L s'.heap led → (∀ p ∈ led, p.1 ≠ I) → wpAny (model prog w) A (execs orelse env) Q E' s') :
    wpAny (model prog w) A (pyIter (.ref I)) (FtSrc prog w A env target body orelse Q) E s := by
  have z := N (I, oI) (List.mem_cons_self ..)
  have N' : News h₀ L s.heap led := fun p hp => N p (List.mem_cons_of_mem _ hp)
  have hit := hi.at z.1
  refine wpAny_pyIter_listiter hit ?_
  have ez : vs.toArray.size = vs.length := by simp
  obtain ⟨turn, done⟩ := h s (Ok.refl s)
  refine ft_mk (J := J) (iter_list hh hne) (Ne.symm z.2.1) z.2.2 F N' off ⟨hit, hS.list F.keep N'⟩ (by rw [ez]; exact hi0) hS hJ ?_ ?_ (fun i v s Q E st q => letGo_listiter st.1 q)
  · rw [ez]
    have e : (fun (i : Nat) (v : Value) => vs.toArray[i]? = some v) = fun i v => vs[i]? = some v := by funext i v; simp
    rw [e]
    exact turn
  · rw [ez]
    exact done
end
end
section
open PySem PySem.W PySem.Spec PySem.Calls PyProof.Rows
noncomputable def RedFn (w : World) (D9 U9 : Nat) (f : Addr) (vs : List Value) (J : Nat → Value → List Ent → Prop) : Prop := ∀ {p : Program} {loose : List Str} {mean : ExcName → Option Value} {mg mb : Str → Option Value}
  {A : Around} {env : Env} {outer : List Env} {A₀ : Around} {base h₀ : Heap} {L : Addr} {m : Fm} {s : Shared} {Q E : Value → Shared → Prop}
  (i : Nat) (v x : Value) (led own : List Ent) (hx : vs[i]? = some x) (hJ : J i v led)
  (B : Below A₀ base outer h₀) (F : Fr h₀ L s.heap m) (X : (KK w.params).In h₀) (N : News h₀ L s.heap (own ++ led)) (T : Top p loose mean mg mb h₀) (hh : A.handled = none) (hA : A.frames = some (env :: outer)) (hf : env.frame = some L) (hk : env.scope.kind = .function) (hd : A.depth ≤ D9) (hu : A.units ≤ U9)
  (dis : ∀ p ∈ own, ∀ q ∈ led, p.1 ≠ q.1)
  (ret : ∀ v' led' s', J (i + 1) v' led' → (∀ p ∈ own, ∀ q ∈ led', p.1 ≠ q.1) → Fr h₀ L s'.heap m → News h₀ L s'.heap (own ++ led') → Ok s s' → Q v' s'),
  wpAny (model PySem.Challenge.rw_ik0072_01.row.toRowW.prog w) A (call (.ref f) [v, x]) Q E s
theorem c_re3 : ∀ {w : World} {p : Program} {loose : List Str} {mean : ExcName → Option Value} {mg mb : Str → Option Value}
  {A : Around} {env : Env} {outer : List Env} {A₀ : Around} {base h₀ : Heap} {L : Addr} {m : Fm} {s : Shared} {Q E : Value → Shared → Prop}
  (oc : Value) (od : Option Addr) (fd : FuncData) (sl : Array (Option Value)) (f lst : Addr) (vs : List Value) (n : Nat) (led : List Ent) (J : Nat → Value → List Ent → Prop) (r0 : Addr) (v0 : List Value) (n0 : Nat)
  (B : Below A₀ base outer h₀) (F : Fr h₀ L s.heap m) (X : (KK w.params).In h₀) (N : News h₀ L s.heap (led)) (T : Top p loose mean mg mb h₀) (hh : A.handled = none) (hA : A.frames = some (env :: outer)) (hf : env.frame = some L) (hk : env.scope.kind = .function) (hd : A.depth ≤ 450) (hu : A.units ≤ 4500)
  (hm : (lst, listOf vs.toArray n) ∈ led) (fn9 : RedFn w 480 4800 f vs J) (mJ : ∀ i v led', J i v led' → (lst, listOf vs.toArray n) ∈ led') (mF : ∀ i v led', J i v led' → (f, (⟨oc, od, .func fd, sl⟩ : Obj)) ∈ led') (h0 : (r0, listOf v0.toArray n0) ∈ led) (h45 : @Ne Nat r0 45) (hJ : J 0 (.ref r0) led)
  (ret : ∀ v led' s', J vs.length v led' → Fr h₀ L s'.heap m → News h₀ L s'.heap led' → Ok s s' → Q v s'),
  wpAny (model PySem.Challenge.rw_ik0072_01.row.toRowW.prog w) A (call (.ref 53) [.ref f, .ref lst, .ref r0]) Q E s := by
  k_fill
  intro w p loose mean mg mb A env outer A₀ base h₀ L m s Q E oc od fd sl f lst vs n led J r0 v0 n0 B F X N T hh hA hf hk hd hu hm fn9 mJ mF h0 h45 hJ ret
  refine hideG fun PG9 hG9 => ?_
  obtain ⟨ah, dp, fr, gd, un⟩ := A
  refine hG9 ?_
  try clear hG9 PG9
  cases hh
  cases hA
  refine hideG fun PG9 hG9 => ?_
  obtain ⟨cs, lo, gl, cl, qn, fn, ccd, fr, bi⟩ := env
  refine hG9 ?_
  try clear hG9 PG9
  cases hf
  refine hideG fun PG9 hG9 => ?_
  obtain ⟨ck, cnm, cg1, cg2, cmo⟩ := cs
  refine hG9 ?_
  try clear hG9 PG9
  cases hk
  refine topA_mono hd hu ?_
  refine wpAny_call ?_
  k_enter
  repeat' ((fail_if_success (first | (with_reducible show wpAny _ _ (exec (Stmt.While _ _ _ _) _) _ _ _) | (with_reducible show wpAny _ _ (exec (Stmt.For _ _ _ _ _) _) _ _ _) | (with_reducible show wpAny _ _ (exec (Stmt.Assign _ (Expr.ListComp _ _ _ _) _) _) _ _ _) | (with_reducible show wpAny _ _ (eval (Expr.ListComp _ _ _ _) _) _ _ _) | (with_reducible show wpAny _ _ (pyIter _) _ _ _) | (with_reducible show wpAny _ _ (call (Value.ref _) _) _ _ _) | (with_reducible show wpAny _ _ (call (Value.builtin "iter") _) _ _ _) | (with_reducible show wpAny _ _ (call (Value.builtin "next") _) _ _ _) | (with_reducible show wpAny _ _ (truthy (Value.ref _)) _ _ _) | (with_reducible show And _ _) | (with_reducible show CmEnd _ _ _ _ _ _ _ _ _ _ _ _) | (with_reducible show FgEnd _ _ _ _ _ _ _ _ _ _ _) | (with_reducible show Exists _) | (with_reducible show TurnEnd _ _ _ _ _ _ _ _ _) | (with_reducible show ForSrc _ _ _ _ _ _ _ _ _ _ _))); tb_rel)
  rename_i g' L' h5 FG F1 N1 B' X' T'
  refine iter_led F1 N1 hm (fun I h2 oI F₂ N₂ lt hi => ?_)
  repeat' ((fail_if_success (first | (with_reducible show wpAny _ _ (exec (Stmt.While _ _ _ _) _) _ _ _) | (with_reducible show wpAny _ _ (exec (Stmt.For _ _ _ _ _) _) _ _ _) | (with_reducible show wpAny _ _ (exec (Stmt.Assign _ (Expr.ListComp _ _ _ _) _) _) _ _ _) | (with_reducible show wpAny _ _ (eval (Expr.ListComp _ _ _ _) _) _ _ _) | (with_reducible show wpAny _ _ (pyIter _) _ _ _) | (with_reducible show wpAny _ _ (call (Value.ref _) _) _ _ _) | (with_reducible show wpAny _ _ (call (Value.builtin "iter") _) _ _ _) | (with_reducible show wpAny _ _ (call (Value.builtin "next") _) _ _ _) | (with_reducible show wpAny _ _ (truthy (Value.ref _)) _ _ _) | (with_reducible show And _ _) | (with_reducible show CmEnd _ _ _ _ _ _ _ _ _ _ _ _) | (with_reducible show FgEnd _ _ _ _ _ _ _ _ _ _ _) | (with_reducible show Exists _) | (with_reducible show TurnEnd _ _ _ _ _ _ _ _ _) | (with_reducible show ForSrc _ _ _ _ _ _ _ _ _ _ _))); tb_rel)
  rename Fr g' L' _ _ => F9
  rename News g' L' _ _ => N9
  refine ft_for ?_
  repeat' ((fail_if_success (first | (with_reducible show wpAny _ _ (exec (Stmt.While _ _ _ _) _) _ _ _) | (with_reducible show wpAny _ _ (exec (Stmt.For _ _ _ _ _) _) _ _ _) | (with_reducible show wpAny _ _ (exec (Stmt.Assign _ (Expr.ListComp _ _ _ _) _) _) _ _ _) | (with_reducible show wpAny _ _ (eval (Expr.ListComp _ _ _ _) _) _ _ _) | (with_reducible show wpAny _ _ (pyIter _) _ _ _) | (with_reducible show wpAny _ _ (call (Value.ref _) _) _ _ _) | (with_reducible show wpAny _ _ (call (Value.builtin "iter") _) _ _ _) | (with_reducible show wpAny _ _ (call (Value.builtin "next") _) _ _ _) | (with_reducible show wpAny _ _ (truthy (Value.ref _)) _ _ _) | (with_reducible show And _ _) | (with_reducible show CmEnd _ _ _ _ _ _ _ _ _ _ _ _) | (with_reducible show FgEnd _ _ _ _ _ _ _ _ _ _ _) | (with_reducible show Exists _) | (with_reducible show TurnEnd _ _ _ _ _ _ _ _ _) | (with_reducible show ForSrc _ _ _ _ _ _ _ _ _ _ _))); tb_rel)
  refine fg_iter (vs := vs) (fun i mm led' => ∃ v, J i v led' ∧ mm (Str.ofString "value") = some v ∧ mm (Str.ofString "function") = some (.ref f)) rfl F9 N9 hi (.inr ⟨_, hm, rfl, _, rfl⟩) (fun p hp => Nat.ne_of_lt (lt p hp)) (Nat.ne_of_lt (lt _ hm)) (Nat.zero_le _) ⟨_, hJ, rfl, rfl⟩ (fun s₃ ok => ⟨?_, ?_⟩)
  · intro i m₁ led' x s₁ oI E' hi hx hJ99 ok₁ F₁ N₁ off hS
    refine hideG fun PG9 hG9 => ?_
    obtain ⟨v, hJi, hm1, hm2⟩ := hJ99
    refine hG9 ?_
    try clear hG9 PG9
    refine asg_loc F₁ N₁ rfl rfl (fun h2 tk2 F₂ N₂ => ?_)
    refine hideG fun PG9 hG9 => ?_
    obtain ⟨u, hu9⟩ : ∃ u : Fm, m₁ = fun z => if z = Str.ofString "value" then some v else if z = Str.ofString "function" then some (.ref f) else u z := form2 hm1 hm2
    subst hu9
    refine hG9 ?_
    try clear hG9 PG9
    dsimp only at F₂
    refine hide fun Q' E' hQ hE => ?_
    repeat' ((fail_if_success (first | (with_reducible show wpAny _ _ (exec (Stmt.While _ _ _ _) _) _ _ _) | (with_reducible show wpAny _ _ (exec (Stmt.For _ _ _ _ _) _) _ _ _) | (with_reducible show wpAny _ _ (exec (Stmt.Assign _ (Expr.ListComp _ _ _ _) _) _) _ _ _) | (with_reducible show wpAny _ _ (eval (Expr.ListComp _ _ _ _) _) _ _ _) | (with_reducible show wpAny _ _ (pyIter _) _ _ _) | (with_reducible show wpAny _ _ (call (Value.ref _) _) _ _ _) | (with_reducible show wpAny _ _ (call (Value.builtin "iter") _) _ _ _) | (with_reducible show wpAny _ _ (call (Value.builtin "next") _) _ _ _) | (with_reducible show wpAny _ _ (truthy (Value.ref _)) _ _ _) | (with_reducible show And _ _) | (with_reducible show CmEnd _ _ _ _ _ _ _ _ _ _ _ _) | (with_reducible show FgEnd _ _ _ _ _ _ _ _ _ _ _) | (with_reducible show Exists _) | (with_reducible show TurnEnd _ _ _ _ _ _ _ _ _) | (with_reducible show ForSrc _ _ _ _ _ _ _ _ _ _ _))); tb_rel)
    refine callWith_F (FnAt.of N₂ (List.mem_cons_of_mem _ (mF _ _ _ hJi))) ?_
    repeat' ((fail_if_success (first | (with_reducible show wpAny _ _ (exec (Stmt.While _ _ _ _) _) _ _ _) | (with_reducible show wpAny _ _ (exec (Stmt.For _ _ _ _ _) _) _ _ _) | (with_reducible show wpAny _ _ (exec (Stmt.Assign _ (Expr.ListComp _ _ _ _) _) _) _ _ _) | (with_reducible show wpAny _ _ (eval (Expr.ListComp _ _ _ _) _) _ _ _) | (with_reducible show wpAny _ _ (pyIter _) _ _ _) | (with_reducible show wpAny _ _ (call (Value.ref _) _) _ _ _) | (with_reducible show wpAny _ _ (call (Value.builtin "iter") _) _ _ _) | (with_reducible show wpAny _ _ (call (Value.builtin "next") _) _ _ _) | (with_reducible show wpAny _ _ (truthy (Value.ref _)) _ _ _) | (with_reducible show And _ _) | (with_reducible show CmEnd _ _ _ _ _ _ _ _ _ _ _ _) | (with_reducible show FgEnd _ _ _ _ _ _ _ _ _ _ _) | (with_reducible show Exists _) | (with_reducible show TurnEnd _ _ _ _ _ _ _ _ _) | (with_reducible show ForSrc _ _ _ _ _ _ _ _ _ _ _))); tb_rel)
    refine ⟨FnAt.of N₂ (List.mem_cons_of_mem _ (mF _ _ _ hJi)), ?_⟩
    repeat' ((fail_if_success (first | (with_reducible show wpAny _ _ (exec (Stmt.While _ _ _ _) _) _ _ _) | (with_reducible show wpAny _ _ (exec (Stmt.For _ _ _ _ _) _) _ _ _) | (with_reducible show wpAny _ _ (exec (Stmt.Assign _ (Expr.ListComp _ _ _ _) _) _) _ _ _) | (with_reducible show wpAny _ _ (eval (Expr.ListComp _ _ _ _) _) _ _ _) | (with_reducible show wpAny _ _ (pyIter _) _ _ _) | (with_reducible show wpAny _ _ (call (Value.ref _) _) _ _ _) | (with_reducible show wpAny _ _ (call (Value.builtin "iter") _) _ _ _) | (with_reducible show wpAny _ _ (call (Value.builtin "next") _) _ _ _) | (with_reducible show wpAny _ _ (truthy (Value.ref _)) _ _ _) | (with_reducible show And _ _) | (with_reducible show CmEnd _ _ _ _ _ _ _ _ _ _ _ _) | (with_reducible show FgEnd _ _ _ _ _ _ _ _ _ _ _) | (with_reducible show Exists _) | (with_reducible show TurnEnd _ _ _ _ _ _ _ _ _) | (with_reducible show ForSrc _ _ _ _ _ _ _ _ _ _ _))); tb_rel)
    unfold RedFn at fn9
    refine fn9 i v x led' [(I, oI)] hx hJi B' F₂ X' N₂ T' rfl rfl rfl rfl (Nat.le_of_ble_eq_true rfl) (Nat.le_of_ble_eq_true rfl) (fun p hp q hq => by rw [List.mem_singleton.mp hp]; exact Ne.symm (off q hq)) (fun v' led2 s2 hJ2 dis2 F6 N6 ok6 => ?_)
    repeat' ((fail_if_success (first | (with_reducible show wpAny _ _ (exec (Stmt.While _ _ _ _) _) _ _ _) | (with_reducible show wpAny _ _ (exec (Stmt.For _ _ _ _ _) _) _ _ _) | (with_reducible show wpAny _ _ (exec (Stmt.Assign _ (Expr.ListComp _ _ _ _) _) _) _ _ _) | (with_reducible show wpAny _ _ (eval (Expr.ListComp _ _ _ _) _) _ _ _) | (with_reducible show wpAny _ _ (pyIter _) _ _ _) | (with_reducible show wpAny _ _ (call (Value.ref _) _) _ _ _) | (with_reducible show wpAny _ _ (call (Value.builtin "iter") _) _ _ _) | (with_reducible show wpAny _ _ (call (Value.builtin "next") _) _ _ _) | (with_reducible show wpAny _ _ (truthy (Value.ref _)) _ _ _) | (with_reducible show And _ _) | (with_reducible show CmEnd _ _ _ _ _ _ _ _ _ _ _ _) | (with_reducible show FgEnd _ _ _ _ _ _ _ _ _ _ _) | (with_reducible show Exists _) | (with_reducible show TurnEnd _ _ _ _ _ _ _ _ _) | (with_reducible show ForSrc _ _ _ _ _ _ _ _ _ _ _))); tb_rel)
    rename Fr g' L' _ _ => F7
    rename News g' L' _ _ => N7
    refine hQ _ _ ?_
    exact ⟨_, led2, ⟨ok6.os, ok6.gens⟩, F7, N7, fun q hq => Ne.symm (dis2 _ (List.mem_singleton.mpr rfl) q hq), .inr ⟨_, mJ _ _ _ hJ2, rfl, _, rfl⟩, v', hJ2, rfl, rfl⟩
  · intro m₁ led' s₁ E' hJ94 ok₁ F₁ N₁ off
    refine hideG fun PG9 hG9 => ?_
    obtain ⟨v, hJi, hm1, hm2⟩ := hJ94
    obtain ⟨u, hu9⟩ : ∃ u : Fm, m₁ = fun z => if z = Str.ofString "value" then some v else if z = Str.ofString "function" then some (.ref f) else u z := form2 hm1 hm2
    subst hu9
    refine hG9 ?_
    try clear hG9 PG9
    repeat' ((fail_if_success (first | (with_reducible show wpAny _ _ (exec (Stmt.While _ _ _ _) _) _ _ _) | (with_reducible show wpAny _ _ (exec (Stmt.For _ _ _ _ _) _) _ _ _) | (with_reducible show wpAny _ _ (exec (Stmt.Assign _ (Expr.ListComp _ _ _ _) _) _) _ _ _) | (with_reducible show wpAny _ _ (eval (Expr.ListComp _ _ _ _) _) _ _ _) | (with_reducible show wpAny _ _ (pyIter _) _ _ _) | (with_reducible show wpAny _ _ (call (Value.ref _) _) _ _ _) | (with_reducible show wpAny _ _ (call (Value.builtin "iter") _) _ _ _) | (with_reducible show wpAny _ _ (call (Value.builtin "next") _) _ _ _) | (with_reducible show wpAny _ _ (truthy (Value.ref _)) _ _ _) | (with_reducible show And _ _) | (with_reducible show CmEnd _ _ _ _ _ _ _ _ _ _ _ _) | (with_reducible show FgEnd _ _ _ _ _ _ _ _ _ _ _) | (with_reducible show Exists _) | (with_reducible show TurnEnd _ _ _ _ _ _ _ _ _) | (with_reducible show ForSrc _ _ _ _ _ _ _ _ _ _ _))); tb_rel)
    rename Fr h₀ L _ m => F9
    rename News h₀ L _ _ => N9
    exact ret _ led' _ hJi F9 N9 ⟨ok₁.os, ok₁.gens⟩

theorem c_re2 : ∀ {w : World} {p : Program} {loose : List Str} {mean : ExcName → Option Value} {mg mb : Str → Option Value}
  {A : Around} {env : Env} {outer : List Env} {A₀ : Around} {base h₀ : Heap} {L : Addr} {m : Fm} {s : Shared} {Q E : Value → Shared → Prop}
  (oc : Value) (od : Option Addr) (fd : FuncData) (sl : Array (Option Value)) (f lst : Addr) (vs : List Value) (n : Nat) (led : List Ent) (J : Nat → Value → List Ent → Prop) (x0 : Value)
  (B : Below A₀ base outer h₀) (F : Fr h₀ L s.heap m) (X : (KK w.params).In h₀) (N : News h₀ L s.heap (led)) (T : Top p loose mean mg mb h₀) (hh : A.handled = none) (hA : A.frames = some (env :: outer)) (hf : env.frame = some L) (hk : env.scope.kind = .function) (hd : A.depth ≤ 450) (hu : A.units ≤ 4500)
  (hm : (lst, listOf vs.toArray n) ∈ led) (fn9 : RedFn w 480 4800 f vs J) (mJ : ∀ i v led', J i v led' → (lst, listOf vs.toArray n) ∈ led') (mF : ∀ i v led', J i v led' → (f, (⟨oc, od, .func fd, sl⟩ : Obj)) ∈ led') (hx0 : vs[0]? = some x0) (hJ : J 1 x0 led)
  (ret : ∀ v led' s', J vs.length v led' → Fr h₀ L s'.heap m → News h₀ L s'.heap led' → Ok s s' → Q v s'),
  wpAny (model PySem.Challenge.rw_ik0072_01.row.toRowW.prog w) A (call (.ref 53) [.ref f, .ref lst]) Q E s := by
  k_fill
  intro w p loose mean mg mb A env outer A₀ base h₀ L m s Q E oc od fd sl f lst vs n led J x0 B F X N T hh hA hf hk hd hu hm fn9 mJ mF hx0 hJ ret
  refine hideG fun PG9 hG9 => ?_
  obtain ⟨ah, dp, fr, gd, un⟩ := A
  refine hG9 ?_
  try clear hG9 PG9
  cases hh
  cases hA
  refine hideG fun PG9 hG9 => ?_
  obtain ⟨cs, lo, gl, cl, qn, fn, ccd, fr, bi⟩ := env
  refine hG9 ?_
  try clear hG9 PG9
  cases hf
  refine hideG fun PG9 hG9 => ?_
  obtain ⟨ck, cnm, cg1, cg2, cmo⟩ := cs
  refine hG9 ?_
  try clear hG9 PG9
  cases hk
  refine topA_mono hd hu ?_
  refine wpAny_call ?_
  k_enter
  repeat' ((fail_if_success (first | (with_reducible show wpAny _ _ (exec (Stmt.While _ _ _ _) _) _ _ _) | (with_reducible show wpAny _ _ (exec (Stmt.For _ _ _ _ _) _) _ _ _) | (with_reducible show wpAny _ _ (exec (Stmt.Assign _ (Expr.ListComp _ _ _ _) _) _) _ _ _) | (with_reducible show wpAny _ _ (eval (Expr.ListComp _ _ _ _) _) _ _ _) | (with_reducible show wpAny _ _ (pyIter _) _ _ _) | (with_reducible show wpAny _ _ (call (Value.ref _) _) _ _ _) | (with_reducible show wpAny _ _ (call (Value.builtin "iter") _) _ _ _) | (with_reducible show wpAny _ _ (call (Value.builtin "next") _) _ _ _) | (with_reducible show wpAny _ _ (truthy (Value.ref _)) _ _ _) | (with_reducible show And _ _) | (with_reducible show CmEnd _ _ _ _ _ _ _ _ _ _ _ _) | (with_reducible show FgEnd _ _ _ _ _ _ _ _ _ _ _) | (with_reducible show Exists _) | (with_reducible show TurnEnd _ _ _ _ _ _ _ _ _) | (with_reducible show ForSrc _ _ _ _ _ _ _ _ _ _ _))); tb_rel)
  rename_i g' L' h5 FG F1 N1 B' X' T'
  refine iter_led F1 N1 hm (fun I h2 oI F₂ N₂ lt hi => ?_)
  repeat' ((fail_if_success (first | (with_reducible show wpAny _ _ (exec (Stmt.While _ _ _ _) _) _ _ _) | (with_reducible show wpAny _ _ (exec (Stmt.For _ _ _ _ _) _) _ _ _) | (with_reducible show wpAny _ _ (exec (Stmt.Assign _ (Expr.ListComp _ _ _ _) _) _) _ _ _) | (with_reducible show wpAny _ _ (eval (Expr.ListComp _ _ _ _) _) _ _ _) | (with_reducible show wpAny _ _ (pyIter _) _ _ _) | (with_reducible show wpAny _ _ (call (Value.ref _) _) _ _ _) | (with_reducible show wpAny _ _ (call (Value.builtin "iter") _) _ _ _) | (with_reducible show wpAny _ _ (call (Value.builtin "next") _) _ _ _) | (with_reducible show wpAny _ _ (truthy (Value.ref _)) _ _ _) | (with_reducible show And _ _) | (with_reducible show CmEnd _ _ _ _ _ _ _ _ _ _ _ _) | (with_reducible show FgEnd _ _ _ _ _ _ _ _ _ _ _) | (with_reducible show Exists _) | (with_reducible show TurnEnd _ _ _ _ _ _ _ _ _) | (with_reducible show ForSrc _ _ _ _ _ _ _ _ _ _ _))); tb_rel)
  rename Fr g' L' _ _ => F1
  rename News g' L' _ _ => N1
  refine next_led F1 N1 hi hm (fun p hp => Nat.ne_of_lt (lt p hp)) hx0 (fun h3 oI3 F₃ N₃ hi3 => ?_)
  repeat' ((fail_if_success (first | (with_reducible show wpAny _ _ (exec (Stmt.While _ _ _ _) _) _ _ _) | (with_reducible show wpAny _ _ (exec (Stmt.For _ _ _ _ _) _) _ _ _) | (with_reducible show wpAny _ _ (exec (Stmt.Assign _ (Expr.ListComp _ _ _ _) _) _) _ _ _) | (with_reducible show wpAny _ _ (eval (Expr.ListComp _ _ _ _) _) _ _ _) | (with_reducible show wpAny _ _ (pyIter _) _ _ _) | (with_reducible show wpAny _ _ (call (Value.ref _) _) _ _ _) | (with_reducible show wpAny _ _ (call (Value.builtin "iter") _) _ _ _) | (with_reducible show wpAny _ _ (call (Value.builtin "next") _) _ _ _) | (with_reducible show wpAny _ _ (truthy (Value.ref _)) _ _ _) | (with_reducible show And _ _) | (with_reducible show CmEnd _ _ _ _ _ _ _ _ _ _ _ _) | (with_reducible show FgEnd _ _ _ _ _ _ _ _ _ _ _) | (with_reducible show Exists _) | (with_reducible show TurnEnd _ _ _ _ _ _ _ _ _) | (with_reducible show ForSrc _ _ _ _ _ _ _ _ _ _ _))); tb_rel)
  rename Fr g' L' _ _ => F9
  rename News g' L' _ _ => N9
  refine ft_for ?_
  repeat' ((fail_if_success (first | (with_reducible show wpAny _ _ (exec (Stmt.While _ _ _ _) _) _ _ _) | (with_reducible show wpAny _ _ (exec (Stmt.For _ _ _ _ _) _) _ _ _) | (with_reducible show wpAny _ _ (exec (Stmt.Assign _ (Expr.ListComp _ _ _ _) _) _) _ _ _) | (with_reducible show wpAny _ _ (eval (Expr.ListComp _ _ _ _) _) _ _ _) | (with_reducible show wpAny _ _ (pyIter _) _ _ _) | (with_reducible show wpAny _ _ (call (Value.ref _) _) _ _ _) | (with_reducible show wpAny _ _ (call (Value.builtin "iter") _) _ _ _) | (with_reducible show wpAny _ _ (call (Value.builtin "next") _) _ _ _) | (with_reducible show wpAny _ _ (truthy (Value.ref _)) _ _ _) | (with_reducible show And _ _) | (with_reducible show CmEnd _ _ _ _ _ _ _ _ _ _ _ _) | (with_reducible show FgEnd _ _ _ _ _ _ _ _ _ _ _) | (with_reducible show Exists _) | (with_reducible show TurnEnd _ _ _ _ _ _ _ _ _) | (with_reducible show ForSrc _ _ _ _ _ _ _ _ _ _ _))); tb_rel)
  refine fg_iter (vs := vs) (fun i mm led' => ∃ v, J i v led' ∧ mm (Str.ofString "value") = some v ∧ mm (Str.ofString "function") = some (.ref f)) rfl F9 N9 hi3 (.inr ⟨_, hm, rfl, _, rfl⟩) (fun p hp => Nat.ne_of_lt (lt p hp)) (Nat.ne_of_lt (lt _ hm)) (List.getElem?_eq_some_iff.mp hx0).1 ⟨_, hJ, rfl, rfl⟩ (fun s₃ ok => ⟨?_, ?_⟩)
  · intro i m₁ led' x s₁ oI E' hi hx hJ99 ok₁ F₁ N₁ off hS
    refine hideG fun PG9 hG9 => ?_
    obtain ⟨v, hJi, hm1, hm2⟩ := hJ99
    refine hG9 ?_
    try clear hG9 PG9
    refine asg_loc F₁ N₁ rfl rfl (fun h2 tk2 F₂ N₂ => ?_)
    refine hideG fun PG9 hG9 => ?_
    obtain ⟨u, hu9⟩ : ∃ u : Fm, m₁ = fun z => if z = Str.ofString "value" then some v else if z = Str.ofString "function" then some (.ref f) else u z := form2 hm1 hm2
    subst hu9
    refine hG9 ?_
    try clear hG9 PG9
    dsimp only at F₂
    refine hide fun Q' E' hQ hE => ?_
    repeat' ((fail_if_success (first | (with_reducible show wpAny _ _ (exec (Stmt.While _ _ _ _) _) _ _ _) | (with_reducible show wpAny _ _ (exec (Stmt.For _ _ _ _ _) _) _ _ _) | (with_reducible show wpAny _ _ (exec (Stmt.Assign _ (Expr.ListComp _ _ _ _) _) _) _ _ _) | (with_reducible show wpAny _ _ (eval (Expr.ListComp _ _ _ _) _) _ _ _) | (with_reducible show wpAny _ _ (pyIter _) _ _ _) | (with_reducible show wpAny _ _ (call (Value.ref _) _) _ _ _) | (with_reducible show wpAny _ _ (call (Value.builtin "iter") _) _ _ _) | (with_reducible show wpAny _ _ (call (Value.builtin "next") _) _ _ _) | (with_reducible show wpAny _ _ (truthy (Value.ref _)) _ _ _) | (with_reducible show And _ _) | (with_reducible show CmEnd _ _ _ _ _ _ _ _ _ _ _ _) | (with_reducible show FgEnd _ _ _ _ _ _ _ _ _ _ _) | (with_reducible show Exists _) | (with_reducible show TurnEnd _ _ _ _ _ _ _ _ _) | (with_reducible show ForSrc _ _ _ _ _ _ _ _ _ _ _))); tb_rel)
    refine callWith_F (FnAt.of N₂ (List.mem_cons_of_mem _ (mF _ _ _ hJi))) ?_
    repeat' ((fail_if_success (first | (with_reducible show wpAny _ _ (exec (Stmt.While _ _ _ _) _) _ _ _) | (with_reducible show wpAny _ _ (exec (Stmt.For _ _ _ _ _) _) _ _ _) | (with_reducible show wpAny _ _ (exec (Stmt.Assign _ (Expr.ListComp _ _ _ _) _) _) _ _ _) | (with_reducible show wpAny _ _ (eval (Expr.ListComp _ _ _ _) _) _ _ _) | (with_reducible show wpAny _ _ (pyIter _) _ _ _) | (with_reducible show wpAny _ _ (call (Value.ref _) _) _ _ _) | (with_reducible show wpAny _ _ (call (Value.builtin "iter") _) _ _ _) | (with_reducible show wpAny _ _ (call (Value.builtin "next") _) _ _ _) | (with_reducible show wpAny _ _ (truthy (Value.ref _)) _ _ _) | (with_reducible show And _ _) | (with_reducible show CmEnd _ _ _ _ _ _ _ _ _ _ _ _) | (with_reducible show FgEnd _ _ _ _ _ _ _ _ _ _ _) | (with_reducible show Exists _) | (with_reducible show TurnEnd _ _ _ _ _ _ _ _ _) | (with_reducible show ForSrc _ _ _ _ _ _ _ _ _ _ _))); tb_rel)
    refine ⟨FnAt.of N₂ (List.mem_cons_of_mem _ (mF _ _ _ hJi)), ?_⟩
    repeat' ((fail_if_success (first | (with_reducible show wpAny _ _ (exec (Stmt.While _ _ _ _) _) _ _ _) | (with_reducible show wpAny _ _ (exec (Stmt.For _ _ _ _ _) _) _ _ _) | (with_reducible show wpAny _ _ (exec (Stmt.Assign _ (Expr.ListComp _ _ _ _) _) _) _ _ _) | (with_reducible show wpAny _ _ (eval (Expr.ListComp _ _ _ _) _) _ _ _) | (with_reducible show wpAny _ _ (pyIter _) _ _ _) | (with_reducible show wpAny _ _ (call (Value.ref _) _) _ _ _) | (with_reducible show wpAny _ _ (call (Value.builtin "iter") _) _ _ _) | (with_reducible show wpAny _ _ (call (Value.builtin "next") _) _ _ _) | (with_reducible show wpAny _ _ (truthy (Value.ref _)) _ _ _) | (with_reducible show And _ _) | (with_reducible show CmEnd _ _ _ _ _ _ _ _ _ _ _ _) | (with_reducible show FgEnd _ _ _ _ _ _ _ _ _ _ _) | (with_reducible show Exists _) | (with_reducible show TurnEnd _ _ _ _ _ _ _ _ _) | (with_reducible show ForSrc _ _ _ _ _ _ _ _ _ _ _))); tb_rel)
    unfold RedFn at fn9
    refine fn9 i v x led' [(I, oI)] hx hJi B' F₂ X' N₂ T' rfl rfl rfl rfl (Nat.le_of_ble_eq_true rfl) (Nat.le_of_ble_eq_true rfl) (fun p hp q hq => by rw [List.mem_singleton.mp hp]; exact Ne.symm (off q hq)) (fun v' led2 s2 hJ2 dis2 F6 N6 ok6 => ?_)
    repeat' ((fail_if_success (first | (with_reducible show wpAny _ _ (exec (Stmt.While _ _ _ _) _) _ _ _) | (with_reducible show wpAny _ _ (exec (Stmt.For _ _ _ _ _) _) _ _ _) | (with_reducible show wpAny _ _ (exec (Stmt.Assign _ (Expr.ListComp _ _ _ _) _) _) _ _ _) | (with_reducible show wpAny _ _ (eval (Expr.ListComp _ _ _ _) _) _ _ _) | (with_reducible show wpAny _ _ (pyIter _) _ _ _) | (with_reducible show wpAny _ _ (call (Value.ref _) _) _ _ _) | (with_reducible show wpAny _ _ (call (Value.builtin "iter") _) _ _ _) | (with_reducible show wpAny _ _ (call (Value.builtin "next") _) _ _ _) | (with_reducible show wpAny _ _ (truthy (Value.ref _)) _ _ _) | (with_reducible show And _ _) | (with_reducible show CmEnd _ _ _ _ _ _ _ _ _ _ _ _) | (with_reducible show FgEnd _ _ _ _ _ _ _ _ _ _ _) | (with_reducible show Exists _) | (with_reducible show TurnEnd _ _ _ _ _ _ _ _ _) | (with_reducible show ForSrc _ _ _ _ _ _ _ _ _ _ _))); tb_rel)
    rename Fr g' L' _ _ => F7
    rename News g' L' _ _ => N7
    refine hQ _ _ ?_
    exact ⟨_, led2, ⟨ok6.os, ok6.gens⟩, F7, N7, fun q hq => Ne.symm (dis2 _ (List.mem_singleton.mpr rfl) q hq), .inr ⟨_, mJ _ _ _ hJ2, rfl, _, rfl⟩, v', hJ2, rfl, rfl⟩
  · intro m₁ led' s₁ E' hJ94 ok₁ F₁ N₁ off
    refine hideG fun PG9 hG9 => ?_
    obtain ⟨v, hJi, hm1, hm2⟩ := hJ94
    obtain ⟨u, hu9⟩ : ∃ u : Fm, m₁ = fun z => if z = Str.ofString "value" then some v else if z = Str.ofString "function" then some (.ref f) else u z := form2 hm1 hm2
    subst hu9
    refine hG9 ?_
    try clear hG9 PG9
    repeat' ((fail_if_success (first | (with_reducible show wpAny _ _ (exec (Stmt.While _ _ _ _) _) _ _ _) | (with_reducible show wpAny _ _ (exec (Stmt.For _ _ _ _ _) _) _ _ _) | (with_reducible show wpAny _ _ (exec (Stmt.Assign _ (Expr.ListComp _ _ _ _) _) _) _ _ _) | (with_reducible show wpAny _ _ (eval (Expr.ListComp _ _ _ _) _) _ _ _) | (with_reducible show wpAny _ _ (pyIter _) _ _ _) | (with_reducible show wpAny _ _ (call (Value.ref _) _) _ _ _) | (with_reducible show wpAny _ _ (call (Value.builtin "iter") _) _ _ _) | (with_reducible show wpAny _ _ (call (Value.builtin "next") _) _ _ _) | (with_reducible show wpAny _ _ (truthy (Value.ref _)) _ _ _) | (with_reducible show And _ _) | (with_reducible show CmEnd _ _ _ _ _ _ _ _ _ _ _ _) | (with_reducible show FgEnd _ _ _ _ _ _ _ _ _ _ _) | (with_reducible show Exists _) | (with_reducible show TurnEnd _ _ _ _ _ _ _ _ _) | (with_reducible show ForSrc _ _ _ _ _ _ _ _ _ _ _))); tb_rel)
    rename Fr h₀ L _ m => F9
    rename News h₀ L _ _ => N9
    exact ret _ led' _ hJi F9 N9 ⟨ok₁.os, ok₁.gens⟩
end
section
open PySem PySem.W PySem.Spec PySem.Calls PyProof.Rows
theorem c3_any : ∀ {w : World} {p : Program} {loose : List Str} {mean : ExcName → Option Value} {mg mb : Str → Option Value}
  {A : Around} {env : Env} {outer : List Env} {A₀ : Around} {base h₀ : Heap} {L : Addr} {m : Fm} {s : Shared} {Q E : Value → Shared → Prop}
  (lst : Addr) (cur : List Row) (k₀ k : Nat) (rest : List Ent) (out : Option (List Str))
  (B : Below A₀ base outer h₀) (F : Fr h₀ L s.heap m) (X : (KK w.params).In h₀) (N : News h₀ L s.heap ((lst, listOf (cur.map Row.ref).toArray k₀) :: (cur.map Row.ent ++ rest))) (T : Top p loose mean mg mb h₀) (hh : A.handled = none) (hA : A.frames = some (env :: outer)) (hf : env.frame = some L) (hk : env.scope.kind = .function) (hd : A.depth ≤ 500) (hu : A.units ≤ 5000)
  (good : ∀ r ∈ cur, r.Good) (nd : (cur.map (·.a)).Nodup) (rr : ∀ p ∈ rest, ∀ r ∈ cur, p.1 ≠ r.a) (few : cur.length ≤ 100) (sz : (cur.map (·.ws.length)).sum ≤ 100000) (hc : c3 k (cur.map (·.ws)) [] = some out)
  (ret : ∀ o R kr rv s', out = some o → StrsAre rv o → Fr h₀ L s'.heap m → News h₀ L s'.heap ((R, listOf rv.toArray kr) :: rest) → (∀ p ∈ rest, p.1 ≠ R) → Ok s s' → Q (.ref R) s')
  (exc : out = none → ∀ g e led s', (∀ q ∈ rest, q ∈ led) → Fr h₀ L g m → RaisedN base (env :: outer) e (.type "RuntimeError") led s'.heap → g.UpToSlots s'.heap → Ok s s' → E (.ref e) s'),
  wpAny (model PySem.Challenge.rw_ik0072_01.row.toRowW.prog w) A (call (.ref 58) [.ref lst]) Q E s := by
  k_fill
  intro w p loose mean mg mb A env outer A₀ base h₀ L m s Q E lst cur k₀ k rest out B F X N T hh hA hf hk hd hu good nd rr few sz hc ret exc
  obtain ⟨ah, dp, fr, gd, un⟩ := A
  cases hh
  cases hA
  obtain ⟨cs, lo, gl, cl, qn, fn, ccd, fr, bi⟩ := env
  cases hf
  obtain ⟨ck, cnm, cg1, cg2, cmo⟩ := cs
  cases hk
  refine topA_mono hd hu ?_
  exact c_c3 (news := []) lst 500 5000 gd _ lo gl cl qn fn ccd bi outer A₀ base h₀ L m s Q E cur k₀ k rest out B F X N T rfl (Nat.le_refl _) (Nat.le_refl _) good nd rr few sz hc ret exc
end
section
open PySem PySem.W PySem.Spec PySem.Calls PyProof.Rows
open LCg in
section
variable {prog : Program} {w : World} {A : Around} {E : Value → Shared → Prop} {s : Shared} {h₀ : Heap} {L : Addr} {m : Fm} {env : Env}
/-- a for over enumerate of a list of the ledger -/
noncomputable def EnEnd (h₀ : Heap) (L : Addr) (s₁ : Shared) (e it : Addr) (o1 o2 : Obj) (l : Ent) (J' : Fm → List Ent → Prop) (Qb : Shared → Prop) (Qr : Value → Shared → Prop) (f : Flow) (s₂ : Shared) : Prop := match f with
  | .brk => Qb s₂
  | .ret v => Qr v s₂
  | _ => ∃ m₂ led, Ok s₁ s₂ ∧ Fr h₀ L s₂.heap m₂ ∧ News h₀ L s₂.heap ((e, o1) :: (it, o2) :: led) ∧ (∀ p ∈ led, p.1 ≠ e ∧ p.1 ≠ it) ∧ l ∈ led ∧ J' m₂ led
theorem ft_enum {elts : List PySem.Expr} {k : Nat} {pos : Pos} {body orelse : List Stmt} {Q : Flow → Shared → Prop} {l : Addr} {lo : Obj} {vs : List Value} {n : Nat} {led : List Ent} (J : Nat → Fm → List Ent → Prop)
    (hh : A.handled = none) (F : Fr h₀ L s.heap m) (N : News h₀ L s.heap led) (hm : (l, lo) ∈ led) (hc : lo.cls = .type "list") (hd : lo.data = .seq vs.toArray n)
    (h : ∀ (e it : Addr) s₃, Ok s s₃ → (∀ p ∈ led, p.1 < it) → it < e → J 0 m led ∧
      (∀ i m₁ led' T t x s₁ o1 o2 (E' : Value → Shared → Prop), i < vs.length → vs[i]? = some x → IsTup s₁.heap T #[.int (i : Nat) t, x] → J i m₁ led' → Ok s s₁ → Fr h₀ L s₁.heap m₁ → News h₀ L s₁.heap ((e, o1) :: (it, o2) :: led') → (∀ p ∈ led', p.1 ≠ e ∧ p.1 ≠ it) → (l, lo) ∈ led' →
        wpAny (model prog w) A (assign (.Tuple elts k pos) env (.ref T)) (fun _ s₂ => wpAny (model prog w) A (execs body env) (EnEnd h₀ L s₁ e it o1 o2 (l, lo) (J (i + 1)) (fun s₃ => Q .next s₃) (fun v s₃ => Q (.ret v) s₃)) E' s₂) E' s₁) ∧
      ∀ m₁ led s' (E' : Value → Shared → Prop), J vs.length m₁ led → Ok s s' → Fr h₀ L s'.heap m₁ → News h₀ L s'.heap led → wpAny (model prog w) A (execs orelse env) Q E' s') :
    wpAny (model prog w) A (call (.type "enumerate") [.ref l]) (fun xv s₁ => wpAny (model prog w) A (pyIter xv) (FtSrc prog w A env (.Tuple elts k pos) body orelse Q) E s₁) E s := by
  have hax := N _ hm
  have hl : s.heap.IsList l vs.toArray := ⟨lo, hax.1, hc, n, hd⟩
  have hlt : l < s.heap.objs.size := Heap.lt_size hax.1
  have hLs : L < s.heap.objs.size := F.ns.lt
  have ltl : ∀ p ∈ led, p.1 < s.heap.objs.size := fun p hp => Heap.lt_size (N p hp).1
  refine call_enumerate_list hl fun h' hE hI hsz hk => wpAny_pyIter_enum hE fun R hR => ?_
  have fresh₀ : ∀ a, s.heap.objs.size ≤ a → h₀.get? a = none := fun a ha => by
    cases e : h₀.get? a with
    | none => rfl
    | some o' => exact absurd (Heap.lt_size (F.keep a o' e)) (Nat.not_lt.mpr ha)
  have hIL : L ≠ s.heap.objs.size := Nat.ne_of_lt hLs
  have hEL : L ≠ s.heap.objs.size + 1 := Nat.ne_of_lt (Nat.lt_succ_of_lt hLs)
  refine hideG fun PG9 hG9 => ?_
  obtain ⟨hJ, turn, done⟩ := h (s.heap.objs.size + 1) s.heap.objs.size s (Ok.refl s) ltl (Nat.lt_succ_self _)
  have W := KTurns.ofWalksU (prog := prog) (w := w) (A := A) (elts := elts) (k := k) (pos := pos) (WalksT.enumerate (prog := prog) (w := w) (A := A) hh (s.heap.objs.size + 1) s.heap.objs.size l (Nat.succ_ne_self _) (Nat.ne_of_lt (Nat.lt_succ_of_lt hlt)) (Nat.ne_of_lt hlt) vs.toArray).toU
  refine hG9 ?_
  try clear hG9 PG9
  generalize hIg : s.heap.objs.size = I at *
  have ez : vs.toArray.size = vs.length := by simp
  refine codeAny_forLoop_any (fun k s' => ∃ i m' led', Ok s s' ∧ i ≤ vs.length ∧ k = vs.length + 1 - i ∧ ((∃ old, IsEnum s'.heap (I + 1) I i old) ∧ s'.heap.IsListIter I l i ∧ s'.heap.IsList l vs.toArray) ∧ Fr h₀ L s'.heap m' ∧ News h₀ L s'.heap led' ∧ (∀ p ∈ led', p.1 ≠ I + 1 ∧ p.1 ≠ I) ∧ (l, lo) ∈ led' ∧ J i m' led') ?_ (vs.length + 1)
    ⟨0, m, led, ⟨rfl, id⟩, Nat.zero_le _, rfl, ⟨⟨_, hE⟩, hI, hl.at fun o e => hk l o e⟩, F.keeps hk, N.grown hk, fun p hp => ⟨Nat.ne_of_lt (Nat.lt_succ_of_lt (ltl p hp)), Nat.ne_of_lt (ltl p hp)⟩, hm, hJ⟩
  intro k' s' hJ92
  refine hideG fun PG9 hG9 => ?_
  obtain ⟨i, m', led', ok, hi, rfl, hst, F', N', off, hm', hJ'⟩ := hJ92
  have next : ∀ h₁ : Heap, (∀ b o, b ∉ [I + 1, I] → s'.heap.get? b = some o → h₁.get? b = some o) → Fr h₀ L h₁ m' ∧ News h₀ L h₁ led' := fun h₁ hk₁ =>
    ⟨⟨F'.ns.at' fun o e => hk₁ _ o (by simp [hIL, hEL]) e, fun b o e => hk₁ b o (fun hb => by
        rcases List.mem_cons.mp hb with rfl | hb
        · rw [fresh₀ _ (Nat.le_succ _)] at e; cases e
        · rw [List.mem_singleton.mp hb, fresh₀ _ (Nat.le_refl _)] at e; cases e) (F'.keep b o e), F'.above⟩, fun p hp => ⟨hk₁ _ _ (by have := off p hp; simp [this.1, this.2]) (N' p hp).1, (N' p hp).2⟩⟩
  refine hG9 ?_
  try clear hG9 PG9
  by_cases hlt' : i < vs.length
  · refine W.item i _ _ _ (by rw [ez]; exact hlt') hst fun v h₁ tk₁ hMd hk₁ => ?_
    refine W.go i v _ _ _ hMd fun h₂ hP hst₂ hk₂ => ?_
    refine hideG fun PG9 hG9 => ?_
    obtain ⟨F₂, N₂⟩ := next h₂ fun b o hb x => hk₂ b o hb (hk₁ b o hb x)
    obtain ⟨T, vals, rfl, ⟨t, x, hx, rfl⟩, hT⟩ := hP
    obtain ⟨⟨old, he⟩, ⟨oi, hoi, hoi2⟩, hl₂⟩ := hst₂
    obtain ⟨oe, hoe⟩ : ∃ oe, h₂.get? (I + 1) = some oe := ⟨_, he⟩
    have N₃ : News h₀ L h₂ ((I + 1, oe) :: (I, oi) :: led') := fun p hp => by
      rcases List.mem_cons.mp hp with rfl | hp
      · exact ⟨hoe, Ne.symm hEL, fresh₀ _ (Nat.le_succ _)⟩
      rcases List.mem_cons.mp hp with rfl | hp
      · exact ⟨hoi, Ne.symm hIL, fresh₀ _ (Nat.le_refl _)⟩
      · exact N₂ p hp
    refine hG9 ?_
    try clear hG9 PG9
    refine wpAny_mono (turn i m' led' T t x _ oe oi _ hlt' (by simpa using hx) hT hJ' ⟨ok.os, ok.gens⟩ F₂ N₃ off hm') (fun _ s₂ hx₂ => wpAny_mono hx₂ (fun f s₃ h₃ => ?_) fun _ _ e => e) fun _ _ e => e
    have fin : (∃ m₂ led, Ok { s' with heap := h₂, toks := tk₁ } s₃ ∧ Fr h₀ L s₃.heap m₂ ∧ News h₀ L s₃.heap ((I + 1, oe) :: (I, oi) :: led) ∧ (∀ p ∈ led, p.1 ≠ I + 1 ∧ p.1 ≠ I) ∧ (l, lo) ∈ led ∧ J (i + 1) m₂ led) →
        ∃ k, k < vs.length + 1 - i ∧ ∃ i m' led', Ok s s₃ ∧ i ≤ vs.length ∧ k = vs.length + 1 - i ∧ ((∃ old, IsEnum s₃.heap (I + 1) I i old) ∧ s₃.heap.IsListIter I l i ∧ s₃.heap.IsList l vs.toArray) ∧ Fr h₀ L s₃.heap m' ∧ News h₀ L s₃.heap led' ∧ (∀ p ∈ led', p.1 ≠ I + 1 ∧ p.1 ≠ I) ∧ (l, lo) ∈ led' ∧ J i m' led' := by
      intro hJ90
      refine hideG fun PG9 hG9 => ?_
      obtain ⟨m₂, led₂, ok₄, F₄, N₄, off₄, hm₄, hJ₄⟩ := hJ90
      refine hG9 ?_
      try clear hG9 PG9
      refine ⟨vs.length + 1 - (i + 1), turn_lt hlt', i + 1, m₂, led₂, ⟨ok₄.os.trans ok.os, fun h => ok₄.gens (ok.gens h)⟩, hlt', rfl, ⟨⟨old, ?_⟩, ⟨oi, (N₄ _ (List.mem_cons_of_mem _ (List.mem_cons_self ..))).1, hoi2⟩, ⟨lo, (N₄ _ (List.mem_cons_of_mem _ (List.mem_cons_of_mem _ hm₄))).1, hc, n, hd⟩⟩, F₄, fun p hp => N₄ p (List.mem_cons_of_mem _ (List.mem_cons_of_mem _ hp)), off₄, hm₄, hJ₄⟩
      have e1 := (N₄ _ (List.mem_cons_self ..)).1
      show s₃.heap.get? (I + 1) = some _
      rw [e1, ← hoe]
      exact he
    cases f with
    | ret v => exact hR _ _ h₃
    | brk => exact hR _ _ h₃
    | next => exact fin h₃
    | cont => exact fin h₃
  · obtain rfl : i = vs.length := Nat.le_antisymm hi (Nat.not_lt.mp hlt')
    refine W.done _ _ _ (by rw [ez]; exact hst) fun h₁ tk₁ hk₁ => ?_
    refine hideG fun PG9 hG9 => ?_
    obtain ⟨F₁, N₁⟩ := next h₁ hk₁
    refine hG9 ?_
    try clear hG9 PG9
    exact wpAny_mono (done m' led' _ _ hJ' ⟨ok.os, ok.gens⟩ F₁ N₁) (fun f s₃ q => hR _ _ q) fun _ _ e => e
end
end
section
open PySem PySem.W PySem.Spec PySem.Calls PyProof.Rows
/-- a row of the numbers: the sign and the figures -/
structure Num where
  ra : Addr
  fa : Addr
  nr : Nat
  nf : Nat
  sg : Int
  ts : Tok
  fv : List Value
  fs : List Nat
noncomputable def Num.ents (n : Num) : List Ent := [(n.ra, listOf #[.int n.sg n.ts, .ref n.fa] n.nr), (n.fa, listOf n.fv.toArray n.nf)]
structure Num.Good (n : Num) : Prop where
  sg : n.sg = 1 ∨ n.sg = -1
  are : IntsAre n.fv (n.fs.map Int.ofNat)
  len : n.fs.length ≤ 3
  le : ∀ f ∈ n.fs, f ≤ 2
  hd : ∀ f, n.fs.head? = some f → 1 ≤ f
theorem hideAB {M : Model} {A : Around} {E : Value → Shared → Prop} {s : Shared} {t : Sem Unit} {u : Sem Flow} {Q : Flow → Shared → Prop} (h : ∀ Q' : Flow → Shared → Prop, (∀ f s', Q f s' → Q' f s') → wpAny M A t (fun _ s₂ => wpAny M A u Q' E s₂) E s) : wpAny M A t (fun _ s₂ => wpAny M A u Q E s₂) E s := h Q fun _ _ x => x
section
variable {prog : Program} {w : World} {A : Around} {E : Value → Shared → Prop} {s : Shared} {env : Env} {h₀ : Heap} {target : Expr} {body : List Stmt} {Q : Flow → Shared → Prop}
theorem sum_led {L l : Addr} {m : Fm} {led : List Ent} {vs : List Value} {ns : List Int} {n : Nat} {Q : Value → Shared → Prop} (hh : A.handled = none) (F : Fr h₀ L s.heap m) (N : News h₀ L s.heap led) (hm : (l, listOf vs.toArray n) ∈ led) (hi : IntsAre vs ns)
    (h : ∀ h' tk t', Fr h₀ L h' m → News h₀ L h' led → Q (.int ns.sum t') { s with heap := h', toks := tk }) : wpAny (model prog w) A (call (.builtin "sum") [.ref l]) Q E s := by
  have hl : s.heap.IsList l vs.toArray := ⟨_, (N _ hm).1, rfl, _, rfl⟩
  refine hideG fun PG9 hG9 => ?_
  obtain ⟨xs, hx⟩ := hi.allInts.items
  have hn : numsOf vs.toArray.toList = ns := by rw [show vs.toArray.toList = vs from rfl, hi.numsOf]
  rw [hx] at hl hn
  rw [nums_intItems] at hn
  refine hG9 ?_
  try clear hG9 PG9
  refine sum_intListG hh hl fun h' tk t' hk => ?_
  have := h h' tk t' (F.keeps hk) (N.grown hk)
  rw [preSum_eq, List.take_of_length_le (by simp), hn]
  exact this
end
theorem num_ok (v : Int) {t1 t2 t3 : Tok} : ∃ fs : List Nat, IntsAre (slicePick #[Value.int ((v.fdiv 4).fmod 2 + 1) t1, Value.int ((v.fdiv 8).fmod 3) t2, Value.int ((v.fdiv 24).fmod 3) t3] none (some (v.fmod 4)) none).toList (fs.map Int.ofNat) ∧ fs.length ≤ 3 ∧ (∀ f ∈ fs, f ≤ 2) ∧ ∀ f, fs.head? = some f → 1 ≤ f := by
  have e2 : ∀ x : Int, x.fmod 2 = x % 2 := fun x => Int.fmod_eq_emod_of_nonneg x (by decide)
  have e3 : ∀ x : Int, x.fmod 3 = x % 3 := fun x => Int.fmod_eq_emod_of_nonneg x (by decide)
  have e4 : v.fmod 4 = v % 4 := Int.fmod_eq_emod_of_nonneg v (by decide)
  have h4 : 0 ≤ v.fmod 4 := by rw [e4]; exact Int.emod_nonneg v (by decide)
  have key := kmk_upto (vs := [Value.int ((v.fdiv 4).fmod 2 + 1) t1, Value.int ((v.fdiv 8).fmod 3) t2, Value.int ((v.fdiv 24).fmod 3) t3]) (ns := [(v.fdiv 4).fmod 2 + 1, (v.fdiv 8).fmod 3, (v.fdiv 24).fmod 3]) (.cons _ _ (.cons _ _ (.cons _ _ .nil))) h4
  refine hideG fun PG9 hG9 => ?_
  obtain ⟨a, ha⟩ : ∃ a : Nat, (v.fdiv 4).fmod 2 + 1 = (a : Int) ∧ 1 ≤ a ∧ a ≤ 2 := by
    obtain ⟨a, ha, la⟩ := fm_nat (v.fdiv 4) 2 (by decide)
    exact ⟨a + 1, congrArg (· + 1) ha, Nat.succ_le_succ (Nat.zero_le a), la⟩
  obtain ⟨b, hb⟩ : ∃ b : Nat, (v.fdiv 8).fmod 3 = (b : Int) ∧ b ≤ 2 := by
    obtain ⟨a, ha, la⟩ := fm_nat (v.fdiv 8) 3 (by decide)
    exact ⟨a, ha, Nat.le_of_lt_succ la⟩
  obtain ⟨c, hc⟩ : ∃ c : Nat, (v.fdiv 24).fmod 3 = (c : Int) ∧ c ≤ 2 := by
    obtain ⟨a, ha, la⟩ := fm_nat (v.fdiv 24) 3 (by decide)
    exact ⟨a, ha, Nat.le_of_lt_succ la⟩
  refine hG9 ?_
  try clear hG9 PG9
  refine ⟨[a, b, c].take (v.fmod 4).toNat, ?_, by rw [List.length_take]; exact Nat.min_le_right _ _, fun f hf => ?_, fun f hf => ?_⟩
  · rw [List.map_take]
    have : [a, b, c].map Int.ofNat = [(v.fdiv 4).fmod 2 + 1, (v.fdiv 8).fmod 3, (v.fdiv 24).fmod 3] := by rw [ha.1, hb.1, hc.1]; rfl
    rw [this]
    exact key
  · have := List.mem_of_mem_take hf
    simp at this
    rcases this with rfl | rfl | rfl
    · exact ha.2.2
    · exact hb.2
    · exact hc.2
  · cases h : (v.fmod 4).toNat with
    | zero => rw [h] at hf; cases hf
    | succ n =>
      rw [h] at hf
      have : a = f := by simpa using hf
      exact this ▸ ha.2.1
theorem sign_ok (v : Int) : (1 - (v.fdiv 72).fmod 2 * 2 : Int) = 1 ∨ (1 - (v.fdiv 72).fmod 2 * 2 : Int) = -1 := by
  refine hideG fun PG9 hG9 => ?_
  obtain ⟨a, ha, la⟩ := fm_nat (v.fdiv 72) 2 (by decide)
  have ha : (v.fdiv 72).fmod 2 = (a : Int) := ha
  refine hG9 ?_
  try clear hG9 PG9
  rw [ha]
  rcases lt_two la with rfl | rfl
  · exact .inl rfl
  · exact .inr rfl
/-- an invariant of a loop -/
noncomputable def NbJ (D : Addr) (oD : Obj) (R9 lst : Addr) (led : List Ent) (i : Nat) (mm : Fm) (led' : List Ent) : Prop := ∃ (c : Nat) (nums : List Num), led' = (D, oD) :: (R9, listOf (nums.map fun n : Num => Value.ref n.ra).toArray c) :: (nums.flatMap Num.ents ++ led) ∧ nums.length = i ∧ (∀ n ∈ nums, n.Good) ∧ (∀ p ∈ nums.flatMap Num.ents, @LT.lt Nat _ R9 p.1) ∧ mm (Str.ofString "rows") = some (.ref R9) ∧ mm (Str.ofString "script") = some (.ref lst)
theorem NbJ.mk {D : Addr} {oD : Obj} {R9 lst : Addr} {led : List Ent} {i : Nat} {mm : Fm} (c : Nat) (nums : List Num) (h0 : nums.length = i) (h1 : (∀ n ∈ nums, n.Good)) (h2 : (∀ p ∈ nums.flatMap Num.ents, @LT.lt Nat _ R9 p.1)) (h3 : mm (Str.ofString "rows") = some (.ref R9)) (h4 : mm (Str.ofString "script") = some (.ref lst)) : NbJ D oD R9 lst led i mm ((D, oD) :: (R9, listOf (nums.map fun n : Num => Value.ref n.ra).toArray c) :: (nums.flatMap Num.ents ++ led)) := ⟨c, nums, rfl, h0, h1, h2, h3, h4⟩
theorem NbJ.out {D : Addr} {oD : Obj} {R9 lst : Addr} {led : List Ent} {i : Nat} {mm : Fm} {led' : List Ent} (h : NbJ D oD R9 lst led i mm led') {P : Prop} (k : ∀ (c : Nat) (nums : List Num), led' = (D, oD) :: (R9, listOf (nums.map fun n : Num => Value.ref n.ra).toArray c) :: (nums.flatMap Num.ents ++ led) → nums.length = i → (∀ n ∈ nums, n.Good) → (∀ p ∈ nums.flatMap Num.ents, @LT.lt Nat _ R9 p.1) → mm (Str.ofString "rows") = some (.ref R9) → mm (Str.ofString "script") = some (.ref lst) → P) : P := by
  refine hideG fun PG9 hG9 => ?_
  obtain ⟨c, nums, e, h0, h1, h2, h3, h4⟩ := h
  refine hG9 ?_
  try clear hG9 PG9
  exact k c nums e h0 h1 h2 h3 h4
noncomputable def NbC (l : List Ent) (j : Nat) (ys : List Value) (led' : List Ent) : Prop := led' = l ∧ ∃ ks, IntsAre ys ks
theorem NbC.mk {l : List Ent} {j : Nat} {ys : List Value} {ks : List Int} (h : IntsAre ys ks) : NbC l j ys l := ⟨rfl, ks, h⟩
theorem NbC.out {l : List Ent} {j : Nat} {ys : List Value} {led' : List Ent} (h : NbC l j ys led') {P : Prop} (k : ∀ ks, led' = l → IntsAre ys ks → P) : P := k h.2.choose h.1 h.2.choose_spec
theorem c_nb : ∀ {w : World} {p : Program} {loose : List Str} {mean : ExcName → Option Value} {mg mb : Str → Option Value}
  {A : Around} {env : Env} {outer : List Env} {A₀ : Around} {base h₀ : Heap} {L : Addr} {m : Fm} {s : Shared} {Q E : Value → Shared → Prop}
  (lst : Addr) (vs : List Value) (ns : List Int) (led : List Ent)
  (B : Below A₀ base outer h₀) (F : Fr h₀ L s.heap m) (X : (KK w.params).In h₀) (N : News h₀ L s.heap (led)) (T : Top p loose mean mg mb h₀) (hh : A.handled = none) (hA : A.frames = some (env :: outer)) (hf : env.frame = some L) (hk : env.scope.kind = .function) (hd : A.depth ≤ 450) (hu : A.units ≤ 4500)
  (hl : h₀.IsList lst vs.toArray) (hi : IntsAre vs ns) (hn : ns.length ≤ 63)
  (ret : ∀ (R : Nat) (c : Nat) (nums : List Num) (z : Num) s', nums.length = 9 → (∀ n ∈ nums, n.Good) → z.Good → z.fs = [1, 1] → (∀ q ∈ led, q.1 < R) → Fr h₀ L s'.heap m → News h₀ L s'.heap ((R, listOf ((nums ++ [z]).map fun n => Value.ref n.ra).toArray c) :: ((nums ++ [z]).flatMap Num.ents ++ led)) → Ok s s' → Q (.ref R) s'),
  wpAny (model PySem.Challenge.rw_ik0072_01.row.toRowW.prog w) A (call (.ref 785) [.ref lst]) Q E s := by
  k_fill
  intro w p loose mean mg mb A env outer A₀ base h₀ L m s Q E lst vs ns led B F X N T hh hA hf hk hd hu hl hi hn ret
  refine hideG fun PG9 hG9 => ?_
  obtain ⟨ah, dp, fr, gd, un⟩ := A
  refine hG9 ?_
  try clear hG9 PG9
  cases hh
  cases hA
  refine hideG fun PG9 hG9 => ?_
  obtain ⟨cs, lo, gl, cl, qn, fn, ccd, fr, bi⟩ := env
  refine hG9 ?_
  try clear hG9 PG9
  cases hf
  refine hideG fun PG9 hG9 => ?_
  obtain ⟨ck, cnm, cg1, cg2, cmo⟩ := cs
  refine hG9 ?_
  try clear hG9 PG9
  cases hk
  refine topA_mono hd hu ?_
  refine wpAny_call ?_
  k_enter
  repeat' ((fail_if_success (first | (with_reducible show wpAny _ _ (exec (Stmt.While _ _ _ _) _) _ _ _) | (with_reducible show wpAny _ _ (exec (Stmt.For _ _ _ _ _) _) _ _ _) | (with_reducible show wpAny _ _ (exec (Stmt.Assign _ (Expr.ListComp _ _ _ _) _) _) _ _ _) | (with_reducible show wpAny _ _ (eval (Expr.ListComp _ _ _ _) _) _ _ _) | (with_reducible show wpAny _ _ (pyIter _) _ _ _) | (with_reducible show wpAny _ _ (call (Value.type "enumerate") _) _ _ _) | (with_reducible show wpAny _ _ (call (Value.builtin "list.append") _) _ _ _) | (with_reducible show wpAny _ _ (subscriptTail _ _ (Value.ref _) _) _ _ _) | (with_reducible show wpAny _ _ (call (Value.builtin "sum") _) _ _ _) | (with_reducible show wpAny _ _ (binaryOp _ (Value.ref _) (Value.ref _)) _ _ _) | (with_reducible show CmEnd _ _ _ _ _ _ _ _ _ _ _ _) | (with_reducible show EnEnd _ _ _ _ _ _ _ _ _ _ _ _ _) | (with_reducible show Exists _) | (with_reducible show TurnEnd _ _ _ _ _ _ _ _ _) | (with_reducible show ForSrc _ _ _ _ _ _ _ _ _ _ _))); tb_rel)
  rename Fr h₀ L _ _ => FG
  rename Fr _ _ _ _ => F'
  rename News _ _ _ _ => N'
  refine hideQ fun Q0 hQ0 => ?_
  refine ft_for ?_
  repeat' ((fail_if_success (first | (with_reducible show wpAny _ _ (exec (Stmt.While _ _ _ _) _) _ _ _) | (with_reducible show wpAny _ _ (exec (Stmt.For _ _ _ _ _) _) _ _ _) | (with_reducible show wpAny _ _ (exec (Stmt.Assign _ (Expr.ListComp _ _ _ _) _) _) _ _ _) | (with_reducible show wpAny _ _ (eval (Expr.ListComp _ _ _ _) _) _ _ _) | (with_reducible show wpAny _ _ (pyIter _) _ _ _) | (with_reducible show wpAny _ _ (call (Value.type "enumerate") _) _ _ _) | (with_reducible show wpAny _ _ (call (Value.builtin "list.append") _) _ _ _) | (with_reducible show wpAny _ _ (subscriptTail _ _ (Value.ref _) _) _ _ _) | (with_reducible show wpAny _ _ (call (Value.builtin "sum") _) _ _ _) | (with_reducible show wpAny _ _ (binaryOp _ (Value.ref _) (Value.ref _)) _ _ _) | (with_reducible show CmEnd _ _ _ _ _ _ _ _ _ _ _ _) | (with_reducible show EnEnd _ _ _ _ _ _ _ _ _ _ _ _ _) | (with_reducible show Exists _) | (with_reducible show TurnEnd _ _ _ _ _ _ _ _ _) | (with_reducible show ForSrc _ _ _ _ _ _ _ _ _ _ _))); tb_rel)
  rename_i g' L' h5 B' X' T' tk1 R9 h8 l8 h7 D h6 F2 N2 l9
  refine hideG fun PG9 hG9 => ?_
  obtain ⟨us, oD, N3, hc9, hd9, hu9⟩ : ∃ (us : List Value) (oD : Obj), News g' L' h6 ((D, oD) :: (R9, listOf #[] 0) :: led) ∧ oD.cls = .type "list" ∧ oD.data = .seq us.toArray 0 ∧ (us.length = 9 ∧ ∀ v ∈ us, ∃ z t, v = Value.int z t) := ⟨[_, _, _, _, _, _, _, _, _], _, N2, rfl, rfl, rfl, by simp⟩
  refine hG9 ?_
  try clear hG9 PG9
  clear N2
  refine ft_enum (vs := us) (NbJ D oD R9 lst led) rfl F2 N3 (List.mem_cons_self ..) hc9 hd9 (fun I1 I s₃ ok₃ lt ltI => ⟨NbJ.mk 0 [] rfl (fun n h => nomatch h) (fun n h => nomatch h) rfl rfl, ?_, ?_⟩)
  · rintro i mm led' T9 t9 x s₁ o1 o2 E' hil hx hT hJ9 ok₁ F₁ N₁ off₁ hmD
    refine hJ9.out fun c nums hled9 hlen hg hfr hm1 hm2 => ?_
    refine hideG fun PG9 hG9 => ?_
    obtain rfl := hled9
    refine hG9 ?_
    try clear hG9 PG9
    clear hJ9
    refine hideG fun PG9 hG9 => ?_
    obtain ⟨z, zt, rfl⟩ := hu9.2 x (List.mem_of_getElem? hx)
    obtain ⟨u, hu⟩ : ∃ u : Fm, mm = fun z => if z = Str.ofString "rows" then some (.ref R9) else if z = Str.ofString "script" then some (.ref lst) else u z := form2 hm1 hm2
    subst hu
    change Fr g' L' s₁.heap _ at F₁
    change News g' L' s₁.heap ((I1, o1) :: (I, o2) :: (D, oD) :: _) at N₁
    have hlg : g'.IsList lst vs.toArray := hl.at fun o e => FG.keep lst o e
    refine hG9 ?_
    try clear hG9 PG9
    refine hideAB fun Q1 hQ1 => ?_
    repeat' ((fail_if_success (first | (with_reducible show wpAny _ _ (exec (Stmt.While _ _ _ _) _) _ _ _) | (with_reducible show wpAny _ _ (exec (Stmt.For _ _ _ _ _) _) _ _ _) | (with_reducible show wpAny _ _ (exec (Stmt.Assign _ (Expr.ListComp _ _ _ _) _) _) _ _ _) | (with_reducible show wpAny _ _ (eval (Expr.ListComp _ _ _ _) _) _ _ _) | (with_reducible show wpAny _ _ (pyIter _) _ _ _) | (with_reducible show wpAny _ _ (call (Value.type "enumerate") _) _ _ _) | (with_reducible show wpAny _ _ (call (Value.builtin "list.append") _) _ _ _) | (with_reducible show wpAny _ _ (subscriptTail _ _ (Value.ref _) _) _ _ _) | (with_reducible show wpAny _ _ (call (Value.builtin "sum") _) _ _ _) | (with_reducible show wpAny _ _ (binaryOp _ (Value.ref _) (Value.ref _)) _ _ _) | (with_reducible show CmEnd _ _ _ _ _ _ _ _ _ _ _ _) | (with_reducible show EnEnd _ _ _ _ _ _ _ _ _ _ _ _ _) | (with_reducible show Exists _) | (with_reducible show TurnEnd _ _ _ _ _ _ _ _ _) | (with_reducible show ForSrc _ _ _ _ _ _ _ _ _ _ _))); tb_rel)
    rename Fr g' L' _ _ => F5
    rename News g' L' _ _ => N5
    refine cm_eval F5 rfl (by decide) rfl (by decide) ?_
    repeat' ((fail_if_success (first | (with_reducible show wpAny _ _ (exec (Stmt.While _ _ _ _) _) _ _ _) | (with_reducible show wpAny _ _ (exec (Stmt.For _ _ _ _ _) _) _ _ _) | (with_reducible show wpAny _ _ (exec (Stmt.Assign _ (Expr.ListComp _ _ _ _) _) _) _ _ _) | (with_reducible show wpAny _ _ (eval (Expr.ListComp _ _ _ _) _) _ _ _) | (with_reducible show wpAny _ _ (pyIter _) _ _ _) | (with_reducible show wpAny _ _ (call (Value.type "enumerate") _) _ _ _) | (with_reducible show wpAny _ _ (call (Value.builtin "list.append") _) _ _ _) | (with_reducible show wpAny _ _ (subscriptTail _ _ (Value.ref _) _) _ _ _) | (with_reducible show wpAny _ _ (call (Value.builtin "sum") _) _ _ _) | (with_reducible show wpAny _ _ (binaryOp _ (Value.ref _) (Value.ref _)) _ _ _) | (with_reducible show CmEnd _ _ _ _ _ _ _ _ _ _ _ _) | (with_reducible show EnEnd _ _ _ _ _ _ _ _ _ _ _ _ _) | (with_reducible show Exists _) | (with_reducible show TurnEnd _ _ _ _ _ _ _ _ _) | (with_reducible show ForSrc _ _ _ _ _ _ _ _ _ _ _))); tb_rel)
    rename Fr g' L' _ _ => F6
    rename News g' L' _ _ => N6
    have hms := hi.pick (some ((i : Nat) : Int)) (some 63) (some 9)
    have hsz := slicePick_size_le vs.toArray (some ((i : Nat) : Int)) (some 63) (some 9)
    generalize hzs : (slicePick vs.toArray (some ((i : Nat) : Int)) (some 63) (some 9)).toList = zs at hms
    have hzl : zs.length ≤ 100000 := by
      rw [← hzs, Array.length_toList]
      exact Nat.le_trans hsz (by rw [List.size_toArray, hi.length]; exact lel (by assumption) (by rfl))
    refine kmk_slice3_lit F6 N6 (hlg.at fun o e => F6.keep lst o e) (.int _ _) (.int _ _) (.int _ _) (by decide) hzs (fun S9 h7 F7 N7 lt7 => ?_) (by with_unfolding_all rfl) (by (intro _; with_unfolding_all rfl)) (by rw [List.size_toArray, hi.length, sizeLine_eq]; exact lel (by assumption) (by rfl))
    repeat' ((fail_if_success (first | (with_reducible show wpAny _ _ (exec (Stmt.While _ _ _ _) _) _ _ _) | (with_reducible show wpAny _ _ (exec (Stmt.For _ _ _ _ _) _) _ _ _) | (with_reducible show wpAny _ _ (exec (Stmt.Assign _ (Expr.ListComp _ _ _ _) _) _) _ _ _) | (with_reducible show wpAny _ _ (eval (Expr.ListComp _ _ _ _) _) _ _ _) | (with_reducible show wpAny _ _ (pyIter _) _ _ _) | (with_reducible show wpAny _ _ (call (Value.type "enumerate") _) _ _ _) | (with_reducible show wpAny _ _ (call (Value.builtin "list.append") _) _ _ _) | (with_reducible show wpAny _ _ (subscriptTail _ _ (Value.ref _) _) _ _ _) | (with_reducible show wpAny _ _ (call (Value.builtin "sum") _) _ _ _) | (with_reducible show wpAny _ _ (binaryOp _ (Value.ref _) (Value.ref _)) _ _ _) | (with_reducible show CmEnd _ _ _ _ _ _ _ _ _ _ _ _) | (with_reducible show EnEnd _ _ _ _ _ _ _ _ _ _ _ _ _) | (with_reducible show Exists _) | (with_reducible show TurnEnd _ _ _ _ _ _ _ _ _) | (with_reducible show ForSrc _ _ _ _ _ _ _ _ _ _ _))); tb_rel)
    refine src_list (vs := zs) (NbC ((S9, listOf zs.toArray 0) :: (I1, o1) :: (I, o2) :: (D, oD) :: (R9, listOf (nums.map fun n : Num => Value.ref n.ra).toArray c) :: (nums.flatMap Num.ents ++ led))) rfl F7 N7 (.inr ⟨_, List.mem_cons_self .., rfl, _, rfl⟩) hzl (fun J9 C9 E9 s₃ ok3 lt1 lt2 => ⟨NbC.mk .nil, ?_, ?_⟩)
    · rintro j ys led' v s₁ oJ oC mC E' hj hv hJ9 hC ok₁ F₁ N₁ off ne hS
      refine hJ9.out fun ks hled9 hks => ?_
      refine hideG fun PG9 hG9 => ?_
      obtain rfl := hled9
      refine hG9 ?_
      try clear hG9 PG9
      clear hJ9
      refine hideG fun PG9 hG9 => ?_
      obtain ⟨y, yt, hy, rfl⟩ := Mine.ints_get hms hv
      refine hG9 ?_
      try clear hG9 PG9
      refine asg_name rfl rfl F₁ N₁ hC ne off (fun oC' m2 h2 tk2 hC2 hm2 hm3 F₂ N₂ => ?_)
      refine wpAny_pure ?_
      rw [if_pos rfl]
      repeat' ((fail_if_success (first | (with_reducible show wpAny _ _ (exec (Stmt.While _ _ _ _) _) _ _ _) | (with_reducible show wpAny _ _ (exec (Stmt.For _ _ _ _ _) _) _ _ _) | (with_reducible show wpAny _ _ (exec (Stmt.Assign _ (Expr.ListComp _ _ _ _) _) _) _ _ _) | (with_reducible show wpAny _ _ (eval (Expr.ListComp _ _ _ _) _) _ _ _) | (with_reducible show wpAny _ _ (pyIter _) _ _ _) | (with_reducible show wpAny _ _ (call (Value.type "enumerate") _) _ _ _) | (with_reducible show wpAny _ _ (call (Value.builtin "list.append") _) _ _ _) | (with_reducible show wpAny _ _ (subscriptTail _ _ (Value.ref _) _) _ _ _) | (with_reducible show wpAny _ _ (call (Value.builtin "sum") _) _ _ _) | (with_reducible show wpAny _ _ (binaryOp _ (Value.ref _) (Value.ref _)) _ _ _) | (with_reducible show CmEnd _ _ _ _ _ _ _ _ _ _ _ _) | (with_reducible show EnEnd _ _ _ _ _ _ _ _ _ _ _ _ _) | (with_reducible show Exists _) | (with_reducible show TurnEnd _ _ _ _ _ _ _ _ _) | (with_reducible show ForSrc _ _ _ _ _ _ _ _ _ _ _))); tb_rel)
      exact ⟨oC', m2, _, ⟨rfl, id⟩, F₂, N₂, hC2, off, hS, NbC.mk (ints_snoc hks _ _)⟩
    · rintro ys led' s' hJ9 ok5 F₁ N₁ offD offC
      refine hJ9.out fun ks hled9 hks => ?_
      refine hideG fun PG9 hG9 => ?_
      obtain rfl := hled9
      refine hG9 ?_
      try clear hG9 PG9
      clear hJ9
      repeat' ((fail_if_success (first | (with_reducible show wpAny _ _ (exec (Stmt.While _ _ _ _) _) _ _ _) | (with_reducible show wpAny _ _ (exec (Stmt.For _ _ _ _ _) _) _ _ _) | (with_reducible show wpAny _ _ (exec (Stmt.Assign _ (Expr.ListComp _ _ _ _) _) _) _ _ _) | (with_reducible show wpAny _ _ (eval (Expr.ListComp _ _ _ _) _) _ _ _) | (with_reducible show wpAny _ _ (pyIter _) _ _ _) | (with_reducible show wpAny _ _ (call (Value.type "enumerate") _) _ _ _) | (with_reducible show wpAny _ _ (call (Value.builtin "list.append") _) _ _ _) | (with_reducible show wpAny _ _ (subscriptTail _ _ (Value.ref _) _) _ _ _) | (with_reducible show wpAny _ _ (call (Value.builtin "sum") _) _ _ _) | (with_reducible show wpAny _ _ (binaryOp _ (Value.ref _) (Value.ref _)) _ _ _) | (with_reducible show CmEnd _ _ _ _ _ _ _ _ _ _ _ _) | (with_reducible show EnEnd _ _ _ _ _ _ _ _ _ _ _ _ _) | (with_reducible show Exists _) | (with_reducible show TurnEnd _ _ _ _ _ _ _ _ _) | (with_reducible show ForSrc _ _ _ _ _ _ _ _ _ _ _))); tb_rel)
      refine sum_led rfl F₁ N₁ (List.mem_cons_self ..) hks (fun h8 tk8 t8 F8 N8 => ?_)
      repeat' ((fail_if_success (first | (with_reducible show wpAny _ _ (exec (Stmt.While _ _ _ _) _) _ _ _) | (with_reducible show wpAny _ _ (exec (Stmt.For _ _ _ _ _) _) _ _ _) | (with_reducible show wpAny _ _ (exec (Stmt.Assign _ (Expr.ListComp _ _ _ _) _) _) _ _ _) | (with_reducible show wpAny _ _ (eval (Expr.ListComp _ _ _ _) _) _ _ _) | (with_reducible show wpAny _ _ (pyIter _) _ _ _) | (with_reducible show wpAny _ _ (call (Value.type "enumerate") _) _ _ _) | (with_reducible show wpAny _ _ (call (Value.builtin "list.append") _) _ _ _) | (with_reducible show wpAny _ _ (subscriptTail _ _ (Value.ref _) _) _ _ _) | (with_reducible show wpAny _ _ (call (Value.builtin "sum") _) _ _ _) | (with_reducible show wpAny _ _ (binaryOp _ (Value.ref _) (Value.ref _)) _ _ _) | (with_reducible show CmEnd _ _ _ _ _ _ _ _ _ _ _ _) | (with_reducible show EnEnd _ _ _ _ _ _ _ _ _ _ _ _ _) | (with_reducible show Exists _) | (with_reducible show TurnEnd _ _ _ _ _ _ _ _ _) | (with_reducible show ForSrc _ _ _ _ _ _ _ _ _ _ _))); tb_rel)
      rename Fr g' L' _ _ => F9
      rename News g' L' _ _ => N9
      rename _ ∧ _ => l10
      refine hideG fun PG9 hG9 => ?_
      obtain ⟨j1, j2, j3, j4, j5, j6, j7⟩ := l10
      refine hG9 ?_
      try clear hG9 PG9
      refine kba_turn (value' := PySem.Expr.Name (PySem.Str.ofString "_") ⟨0, 0, 0, 0⟩) (fun _ => rfl) ?_
      refine kmk_slice_lit F9 N9 ⟨_, (N9 _ (List.mem_cons_self ..)).1, rfl, _, rfl⟩ .none (.int _ _) rfl (fun G9 h10 F10 N10 lt10 => ?_) (by with_unfolding_all rfl) (by (intro _; with_unfolding_all rfl)) (by show (3 : Nat) ≤ sizeLine; rw [sizeLine_eq]; exact Nat.le_of_ble_eq_true rfl)
      repeat' ((fail_if_success (first | (with_reducible show wpAny _ _ (exec (Stmt.While _ _ _ _) _) _ _ _) | (with_reducible show wpAny _ _ (exec (Stmt.For _ _ _ _ _) _) _ _ _) | (with_reducible show wpAny _ _ (exec (Stmt.Assign _ (Expr.ListComp _ _ _ _) _) _) _ _ _) | (with_reducible show wpAny _ _ (eval (Expr.ListComp _ _ _ _) _) _ _ _) | (with_reducible show wpAny _ _ (pyIter _) _ _ _) | (with_reducible show wpAny _ _ (call (Value.type "enumerate") _) _ _ _) | (with_reducible show wpAny _ _ (call (Value.builtin "list.append") _) _ _ _) | (with_reducible show wpAny _ _ (subscriptTail _ _ (Value.ref _) _) _ _ _) | (with_reducible show wpAny _ _ (call (Value.builtin "sum") _) _ _ _) | (with_reducible show wpAny _ _ (binaryOp _ (Value.ref _) (Value.ref _)) _ _ _) | (with_reducible show CmEnd _ _ _ _ _ _ _ _ _ _ _ _) | (with_reducible show EnEnd _ _ _ _ _ _ _ _ _ _ _ _ _) | (with_reducible show Exists _) | (with_reducible show TurnEnd _ _ _ _ _ _ _ _ _) | (with_reducible show ForSrc _ _ _ _ _ _ _ _ _ _ _))); tb_rel)
      rename Fr g' L' _ _ => F11
      rename News g' L' _ _ => N11
      rename _ ∧ _ => l11
      have lR : @LT.lt Nat _ R9 D := by have := l9; exact this.1
      have ltR : @LT.lt Nat _ R9 I := lt _ (List.mem_cons_of_mem _ (List.mem_cons_self ..))
      have ltD : @LT.lt Nat _ D I := lt _ (List.mem_cons_self ..)
      refine hideG fun PG9 hG9 => ?_
      obtain ⟨k1, k2, k3, k4, k5, k6, k7, k8, k9⟩ := l11
      have rG : @LT.lt Nat _ R9 G9 := lt10 (R9, _) (by repeat' (first | exact List.mem_cons_self .. | refine List.mem_cons_of_mem _ ?_))
      have iG : @LT.lt Nat _ I1 G9 := lt10 (I1, o1) (by repeat' (first | exact List.mem_cons_self .. | refine List.mem_cons_of_mem _ ?_))
      have rE : @LT.lt Nat _ R9 E9 := lt2 (R9, _) (by repeat' (first | exact List.mem_cons_self .. | refine List.mem_cons_of_mem _ ?_))
      have rS : @LT.lt Nat _ R9 S9 := lt7 (R9, _) (by repeat' (first | exact List.mem_cons_self .. | refine List.mem_cons_of_mem _ ?_))
      refine hG9 ?_
      try clear hG9 PG9
      refine append_led (pre := [_, _, _, _, _, _, _, _]) F11 N11 ?e1 ?e2 (by rw [List.length_map]; exact lee hlen (Nat.le_of_lt (Nat.lt_of_lt_of_eq (show i < us.length by assumption) hu9.1)) rfl) (fun h12 F12 N12 => ?_)
      case e1 =>
        intro p hp
        simp only [List.mem_cons, List.not_mem_nil, or_false] at hp
        rcases hp with rfl | rfl | rfl | rfl | rfl | rfl | rfl | rfl
        · exact Nat.ne_of_gt k8
        · exact Nat.ne_of_gt rG
        · exact Nat.ne_of_gt j6
        · exact Nat.ne_of_gt rE
        · exact Nat.ne_of_gt rS
        · exact Nat.ne_of_gt (Nat.lt_trans ltR ltI)
        · exact Nat.ne_of_gt ltR
        · exact Nat.ne_of_gt lR
      case e2 =>
        intro p hp
        rcases List.mem_append.mp hp with hp | hp
        · exact Nat.ne_of_gt (hfr p hp)
        · exact Nat.ne_of_lt (l8 p hp)
      repeat' ((fail_if_success (first | (with_reducible show wpAny _ _ (exec (Stmt.While _ _ _ _) _) _ _ _) | (with_reducible show wpAny _ _ (exec (Stmt.For _ _ _ _ _) _) _ _ _) | (with_reducible show wpAny _ _ (exec (Stmt.Assign _ (Expr.ListComp _ _ _ _) _) _) _ _ _) | (with_reducible show wpAny _ _ (eval (Expr.ListComp _ _ _ _) _) _ _ _) | (with_reducible show wpAny _ _ (pyIter _) _ _ _) | (with_reducible show wpAny _ _ (call (Value.type "enumerate") _) _ _ _) | (with_reducible show wpAny _ _ (call (Value.builtin "list.append") _) _ _ _) | (with_reducible show wpAny _ _ (subscriptTail _ _ (Value.ref _) _) _ _ _) | (with_reducible show wpAny _ _ (call (Value.builtin "sum") _) _ _ _) | (with_reducible show wpAny _ _ (binaryOp _ (Value.ref _) (Value.ref _)) _ _ _) | (with_reducible show CmEnd _ _ _ _ _ _ _ _ _ _ _ _) | (with_reducible show EnEnd _ _ _ _ _ _ _ _ _ _ _ _ _) | (with_reducible show Exists _) | (with_reducible show TurnEnd _ _ _ _ _ _ _ _ _) | (with_reducible show ForSrc _ _ _ _ _ _ _ _ _ _ _))); tb_rel)
      refine hideG fun PG9 hG9 => ?_
      obtain ⟨fs, f1, f2, f3, f4⟩ := num_ok (z + ks.sum)
      obtain ⟨rA, sg, ts, fv, hsg, hfv, hrI, N13⟩ : ∃ (rA : Addr) (sg : Int) (ts : Tok) (fv : List Value), (sg = 1 ∨ sg = -1) ∧ IntsAre fv (fs.map Int.ofNat) ∧ @LT.lt Nat _ I1 rA ∧ News g' L' h12 ((I1, o1) :: (I, o2) :: (D, oD) :: (R9, listOf (nums.map (fun n : Num => Value.ref n.ra) ++ [Value.ref rA]).toArray (c + 1)) :: (rA, listOf #[.int sg ts, .ref G9] 0) :: (G9, listOf fv.toArray 0) :: (nums.flatMap Num.ents ++ led)) := by
        refine' ⟨_, _, _, _, sign_ok (z + ks.sum), f1, k5, ?main⟩
        case main =>
          intro q hq
          rcases List.mem_cons.mp hq with rfl | hq
          · exact N12 _ (by repeat' (first | exact List.mem_cons_self .. | refine List.mem_cons_of_mem _ ?_))
          rcases List.mem_cons.mp hq with rfl | hq
          · exact N12 _ (by repeat' (first | exact List.mem_cons_self .. | refine List.mem_cons_of_mem _ ?_))
          rcases List.mem_cons.mp hq with rfl | hq
          · exact N12 _ (by repeat' (first | exact List.mem_cons_self .. | refine List.mem_cons_of_mem _ ?_))
          rcases List.mem_cons.mp hq with rfl | hq
          · exact N12 _ (by repeat' (first | exact List.mem_cons_self .. | refine List.mem_cons_of_mem _ ?_))
          rcases List.mem_cons.mp hq with rfl | hq
          · exact N12 _ (by repeat' (first | exact List.mem_cons_self .. | refine List.mem_cons_of_mem _ ?_))
          rcases List.mem_cons.mp hq with rfl | hq
          · exact N12 _ (by repeat' (first | exact List.mem_cons_self .. | refine List.mem_cons_of_mem _ ?_))
          exact N12 _ (List.mem_append_right _ (List.mem_cons_of_mem _ hq))
      have hnew : ∀ p ∈ ((nums ++ [(⟨rA, G9, 0, 0, sg, ts, fv, fs⟩ : Num)]).flatMap Num.ents), @LT.lt Nat _ R9 p.1 := by
        intro p hp
        rw [List.flatMap_append] at hp
        rcases List.mem_append.mp hp with hp | hp
        · exact hfr p hp
        · have hp' : p = (rA, listOf #[.int sg ts, .ref G9] 0) ∨ p = (G9, listOf fv.toArray 0) := by simpa [Num.ents] using hp
          rcases hp' with rfl | rfl
          · exact Nat.lt_trans (Nat.lt_trans ltR ltI) hrI
          · exact rG
      refine hG9 ?_
      try clear hG9 PG9
      refine hQ1 _ _ ?_
      dsimp only [EnEnd]
      refine ⟨_, (D, oD) :: (R9, listOf ((nums ++ [(⟨rA, G9, 0, 0, sg, ts, fv, fs⟩ : Num)]).map fun n : Num => Value.ref n.ra).toArray (c + 1)) :: ((nums ++ [(⟨rA, G9, 0, 0, sg, ts, fv, fs⟩ : Num)]).flatMap Num.ents ++ led), ⟨ok5.os, ok5.gens⟩, F12, ?_, ?_, List.mem_cons_self .., NbJ.mk (c + 1) (nums ++ [(⟨rA, G9, 0, 0, sg, ts, fv, fs⟩ : Num)]) (by rw [List.length_append, hlen]; rfl) ?_ hnew rfl rfl⟩
      · rw [List.map_append]
        intro q hq
        rcases List.mem_cons.mp hq with rfl | hq
        · exact N13 _ (by repeat' (first | exact List.mem_cons_self .. | refine List.mem_cons_of_mem _ ?_))
        rcases List.mem_cons.mp hq with rfl | hq
        · exact N13 _ (by repeat' (first | exact List.mem_cons_self .. | refine List.mem_cons_of_mem _ ?_))
        rcases List.mem_cons.mp hq with rfl | hq
        · exact N13 _ (by repeat' (first | exact List.mem_cons_self .. | refine List.mem_cons_of_mem _ ?_))
        rcases List.mem_cons.mp hq with rfl | hq
        · exact N13 _ (by repeat' (first | exact List.mem_cons_self .. | refine List.mem_cons_of_mem _ ?_))
        rw [List.flatMap_append, List.append_assoc] at hq
        rcases List.mem_append.mp hq with hq | hq
        · exact N13 _ (by repeat' (first | exact List.mem_append_left _ hq | refine List.mem_cons_of_mem _ ?_))
        rcases List.mem_cons.mp hq with rfl | hq
        · exact N13 _ (by repeat' (first | exact List.mem_cons_self .. | refine List.mem_cons_of_mem _ ?_))
        rcases List.mem_cons.mp hq with rfl | hq
        · exact N13 _ (by repeat' (first | exact List.mem_cons_self .. | refine List.mem_cons_of_mem _ ?_))
        exact N13 _ (by repeat' (first | exact List.mem_append_right _ hq | refine List.mem_cons_of_mem _ ?_))
      · intro p hp
        rcases List.mem_cons.mp hp with rfl | hp
        · exact off₁ _ (List.mem_cons_self ..)
        rcases List.mem_cons.mp hp with rfl | hp
        · exact ⟨Nat.ne_of_lt (Nat.lt_trans ltR ltI), Nat.ne_of_lt ltR⟩
        rcases List.mem_append.mp hp with hp | hp
        · rw [List.flatMap_append] at hp
          rcases List.mem_append.mp hp with hp | hp
          · exact off₁ p (List.mem_cons_of_mem _ (List.mem_cons_of_mem _ (List.mem_append_left _ hp)))
          · have hp' : p = (rA, listOf #[.int sg ts, .ref G9] 0) ∨ p = (G9, listOf fv.toArray 0) := by simpa [Num.ents] using hp
            rcases hp' with rfl | rfl
            · exact ⟨Nat.ne_of_gt hrI, Nat.ne_of_gt (Nat.lt_trans ltI hrI)⟩
            · exact ⟨Nat.ne_of_gt iG, Nat.ne_of_gt (Nat.lt_trans ltI iG)⟩
        · exact off₁ p (List.mem_cons_of_mem _ (List.mem_cons_of_mem _ (List.mem_append_right _ hp)))
      · intro n hn9
        rcases List.mem_append.mp hn9 with hn9 | hn9
        · exact hg n hn9
        · rw [List.mem_singleton.mp hn9]
          exact ⟨hsg, hfv, f2, f3, f4⟩
  · rintro mm led' s₁ E' hJ9 ok₁ F₁ N₁
    refine hJ9.out fun c nums hled9 hlen hg hfr hm1 hm2 => ?_
    refine hideG fun PG9 hG9 => ?_
    obtain rfl := hled9
    refine hG9 ?_
    try clear hG9 PG9
    clear hJ9
    refine hideG fun PG9 hG9 => ?_
    obtain ⟨u, hu⟩ : ∃ u : Fm, mm = fun z => if z = Str.ofString "rows" then some (.ref R9) else if z = Str.ofString "script" then some (.ref lst) else u z := form2 hm1 hm2
    subst hu
    change Fr g' L' s₁.heap _ at F₁
    change News g' L' s₁.heap ((D, oD) :: _) at N₁
    have hl9 : nums.length = 9 := by rw [hlen, hu9.1]
    refine hG9 ?_
    try clear hG9 PG9
    repeat' ((fail_if_success (first | (with_reducible show wpAny _ _ (exec (Stmt.While _ _ _ _) _) _ _ _) | (with_reducible show wpAny _ _ (exec (Stmt.For _ _ _ _ _) _) _ _ _) | (with_reducible show wpAny _ _ (exec (Stmt.Assign _ (Expr.ListComp _ _ _ _) _) _) _ _ _) | (with_reducible show wpAny _ _ (eval (Expr.ListComp _ _ _ _) _) _ _ _) | (with_reducible show wpAny _ _ (pyIter _) _ _ _) | (with_reducible show wpAny _ _ (call (Value.type "enumerate") _) _ _ _) | (with_reducible show wpAny _ _ (call (Value.builtin "list.append") _) _ _ _) | (with_reducible show wpAny _ _ (subscriptTail _ _ (Value.ref _) _) _ _ _) | (with_reducible show wpAny _ _ (call (Value.builtin "sum") _) _ _ _) | (with_reducible show wpAny _ _ (binaryOp _ (Value.ref _) (Value.ref _)) _ _ _) | (with_reducible show CmEnd _ _ _ _ _ _ _ _ _ _ _ _) | (with_reducible show EnEnd _ _ _ _ _ _ _ _ _ _ _ _ _) | (with_reducible show Exists _) | (with_reducible show TurnEnd _ _ _ _ _ _ _ _ _) | (with_reducible show ForSrc _ _ _ _ _ _ _ _ _ _ _))); tb_rel)
    refine hQ0 _ _ ?_
    repeat' ((fail_if_success (first | (with_reducible show wpAny _ _ (exec (Stmt.While _ _ _ _) _) _ _ _) | (with_reducible show wpAny _ _ (exec (Stmt.For _ _ _ _ _) _) _ _ _) | (with_reducible show wpAny _ _ (exec (Stmt.Assign _ (Expr.ListComp _ _ _ _) _) _) _ _ _) | (with_reducible show wpAny _ _ (eval (Expr.ListComp _ _ _ _) _) _ _ _) | (with_reducible show wpAny _ _ (pyIter _) _ _ _) | (with_reducible show wpAny _ _ (call (Value.type "enumerate") _) _ _ _) | (with_reducible show wpAny _ _ (call (Value.builtin "list.append") _) _ _ _) | (with_reducible show wpAny _ _ (subscriptTail _ _ (Value.ref _) _) _ _ _) | (with_reducible show wpAny _ _ (call (Value.builtin "sum") _) _ _ _) | (with_reducible show wpAny _ _ (binaryOp _ (Value.ref _) (Value.ref _)) _ _ _) | (with_reducible show CmEnd _ _ _ _ _ _ _ _ _ _ _ _) | (with_reducible show EnEnd _ _ _ _ _ _ _ _ _ _ _ _ _) | (with_reducible show Exists _) | (with_reducible show TurnEnd _ _ _ _ _ _ _ _ _) | (with_reducible show ForSrc _ _ _ _ _ _ _ _ _ _ _))); tb_rel)
    rename Fr g' L' _ _ => F11
    rename News g' L' _ _ => N11
    refine add_arrays F11 N11 ⟨_, (N11 (R9, _) (by repeat' (first | exact List.mem_cons_self .. | refine List.mem_cons_of_mem _ ?_))).1, rfl, _, rfl⟩ ⟨_, (N11 _ (List.mem_cons_self ..)).1, rfl, _, rfl⟩ (fun h7 F7 N7 => ?_) (by simp only [List.size_toArray, List.length_cons, List.length_nil, List.length_map, sizeLine_eq]; exact add_lit (m := 9) (Nat.le_of_eq hl9) (Nat.le_refl 1) (by rfl))
    repeat' ((fail_if_success (first | (with_reducible show wpAny _ _ (exec (Stmt.While _ _ _ _) _) _ _ _) | (with_reducible show wpAny _ _ (exec (Stmt.For _ _ _ _ _) _) _ _ _) | (with_reducible show wpAny _ _ (exec (Stmt.Assign _ (Expr.ListComp _ _ _ _) _) _) _ _ _) | (with_reducible show wpAny _ _ (eval (Expr.ListComp _ _ _ _) _) _ _ _) | (with_reducible show wpAny _ _ (pyIter _) _ _ _) | (with_reducible show wpAny _ _ (call (Value.type "enumerate") _) _ _ _) | (with_reducible show wpAny _ _ (call (Value.builtin "list.append") _) _ _ _) | (with_reducible show wpAny _ _ (subscriptTail _ _ (Value.ref _) _) _ _ _) | (with_reducible show wpAny _ _ (call (Value.builtin "sum") _) _ _ _) | (with_reducible show wpAny _ _ (binaryOp _ (Value.ref _) (Value.ref _)) _ _ _) | (with_reducible show CmEnd _ _ _ _ _ _ _ _ _ _ _ _) | (with_reducible show EnEnd _ _ _ _ _ _ _ _ _ _ _ _ _) | (with_reducible show Exists _) | (with_reducible show TurnEnd _ _ _ _ _ _ _ _ _) | (with_reducible show ForSrc _ _ _ _ _ _ _ _ _ _ _))); tb_rel)
    rename Fr h₀ L _ m => F9
    rename News h₀ L _ _ => N9
    refine' ret _ 0 nums ⟨_, _, 0, 0, 1, _, [_, _], [1, 1]⟩ _ hl9 hg ⟨.inl rfl, .cons _ _ (.cons _ _ .nil), Nat.le_of_ble_eq_true rfl, (fun f hf => by simp at hf; rw [hf]; exact Nat.le_succ 1), (fun f hf => by simp at hf; exact Nat.le_of_eq hf)⟩ rfl ?lows F9 (fun q hq => N9 q ?main) ⟨ok₁.os, ok₁.gens⟩
    case main =>
      rw [List.map_append, List.flatMap_append, List.append_assoc] at hq
      rcases List.mem_cons.mp hq with rfl | hq
      · exact List.mem_cons_self ..
      rcases List.mem_append.mp hq with hq | hq
      · repeat' (first | exact List.mem_append_left _ hq | refine List.mem_cons_of_mem _ ?_)
      rcases List.mem_cons.mp hq with rfl | hq
      · exact (by repeat' (first | exact List.mem_cons_self .. | refine List.mem_cons_of_mem _ ?_))
      rcases List.mem_cons.mp hq with rfl | hq
      · exact (by repeat' (first | exact List.mem_cons_self .. | refine List.mem_cons_of_mem _ ?_))
      repeat' (first | exact List.mem_append_right _ hq | refine List.mem_cons_of_mem _ ?_)
    case lows =>
      intro q hq
      exact Heap.lt_size (N11 q (by repeat' (first | exact List.mem_append_right _ hq | refine List.mem_cons_of_mem _ ?_))).1
end
section
open PySem PySem.W PySem.Spec PySem.Calls PyProof.Rows
namespace Pl
/-- what of a row is not told yet -/
noncomputable def rest (T : List Str) (s : List Str) : List Str := s.filter fun x => decide (x ∉ T)
noncomputable def some1 (s : List Str) : Bool := !s.isEmpty
theorem first_of {α : Type} {p : α → Prop} [DecidablePred p] : ∀ {L : List α}, (∃ s ∈ L, p s) → ∃ L1 s L2, L = L1 ++ s :: L2 ∧ p s ∧ ∀ x ∈ L1, ¬ p x
  | [], h => by obtain ⟨s, hs, _⟩ := h; cases hs
  | a :: L, h => by
    by_cases ha : p a
    · exact ⟨[], a, L, rfl, ha, fun x hx => by cases hx⟩
    · obtain ⟨s, hs, hp⟩ := h
      have h2 : ∃ s ∈ L, p s := by
        rcases List.mem_cons.mp hs with rfl | hs
        · exact absurd hp ha
        · exact ⟨s, hs, hp⟩
      obtain ⟨L1, t, L2, rfl, ht, hf⟩ := first_of h2
      refine ⟨a :: L1, t, L2, rfl, ht, fun x hx => ?_⟩
      rcases List.mem_cons.mp hx with rfl | hx
      · exact ha
      · exact hf x hx
theorem pick_none {all : List (List Str)} : ∀ {l : List (List Str)}, (∀ t ∈ l, blocked all (t.headD Str.empty) = true) → pick all l = none
  | [], _ => rfl
  | t :: l, h => by
    rw [pick_cons, h t (List.mem_cons_self ..), if_pos rfl]
    exact pick_none fun t ht => h t (List.mem_cons_of_mem _ ht)
theorem pick_at {all l1 l2 : List (List Str)} {s : List Str} {c : Str} (h1 : ∀ t ∈ l1, blocked all (t.headD Str.empty) = true) (hc : s.headD Str.empty = c) (hb : blocked all c = false) : pick all (l1 ++ s :: l2) = some c := by
  rw [pick_app all _ _ (pick_none h1), pick_cons, hc, hb]
  rfl
theorem sub_head {α : Type} {l t : List α} {c : α} (h : List.Sublist l (c :: t)) (hc : c ∈ l) (hn : c ∉ t) : ∃ r, l = c :: r ∧ List.Sublist r t := by
  cases h with
  | cons _ h => exact absurd (h.subset hc) hn
  | cons_cons _ h => exact ⟨_, rfl, h⟩
theorem pair_tail {α : Type} {x h : α} {l : List α} (e : List.Sublist [x, h] l) : h ∈ l.tail := by
  have := e.tail
  exact this.subset (List.mem_cons_self ..)
theorem rest_O {T T' : List Str} (nd : (T ++ T').Nodup) : rest T (T ++ T') = T' := by
  unfold rest
  rw [List.filter_append]
  have h1 : T.filter (fun x => decide (x ∉ T)) = [] := by
    rw [List.filter_eq_nil_iff]
    intro a ha
    simp [ha]
  have h2 : T'.filter (fun x => decide (x ∉ T)) = T' := by
    rw [List.filter_eq_self]
    intro a ha
    have := List.nodup_append.mp nd
    simpa using fun h => this.2.2 a h a ha rfl
  rw [h1, h2]
  rfl
theorem rest_sub {T T' s : List Str} (nd : (T ++ T').Nodup) (h : List.Sublist s (T ++ T')) : List.Sublist (rest T s) T' := by
  have := h.filter fun x => decide (x ∉ T)
  exact (rest_O nd) ▸ this
theorem rest_snoc {T : List Str} {c : Str} {s : List Str} : rest (T ++ [c]) s = (rest T s).filter fun x => decide (x ≠ c) := by
  unfold rest
  rw [List.filter_filter]
  congr 1
  funext x
  by_cases h1 : x ∈ T <;> by_cases h2 : x = c <;> simp [h1, h2]
theorem popc_rest {T T' s : List Str} {c : Str} (hs : List.Sublist (rest T s) (c :: T')) (hn : c ∉ T') : popc c (rest T s) = rest (T ++ [c]) s := by
  rw [rest_snoc]
  cases h : rest T s with
  | nil => rfl
  | cons x t =>
    rw [h] at hs
    by_cases hx : x = c
    · subst hx
      have ht : List.Sublist t T' := by cases hs with
        | cons _ h => exact ((List.sublist_cons_self ..).trans h)
        | cons_cons _ h => exact h
      have : t.filter (fun z => decide (z ≠ x)) = t := by
        rw [List.filter_eq_self]
        intro a ha
        have : a ≠ x := fun e => hn (e ▸ ht.subset ha)
        simpa using this
      rw [List.filter_cons, if_neg (by simp), this]
      simp [popc]
    · have hnc : c ∉ x :: t := fun hc => by
        obtain ⟨r, e, _⟩ := sub_head hs hc hn
        cases e
        exact hx rfl
      have : (x :: t).filter (fun z => decide (z ≠ c)) = x :: t := by
        rw [List.filter_eq_self]
        intro a ha
        have : a ≠ c := fun e => hnc (e ▸ ha)
        simpa using this
      rw [this]
      simp [popc, hx]
theorem pop_all {T T' : List Str} {c : Str} (hn : c ∉ T') : ∀ {L : List (List Str)}, (∀ s ∈ L, List.Sublist (rest T s) (c :: T')) → (((L.map (rest T)).filter some1).map (popc c)).filter some1 = (L.map (rest (T ++ [c]))).filter some1
  | [], _ => rfl
  | s :: L, h => by
    have ih := pop_all hn fun x hx => h x (List.mem_cons_of_mem _ hx)
    have hp := popc_rest (h s (List.mem_cons_self ..)) hn
    rw [List.map_cons, List.map_cons, List.filter_cons, List.filter_cons]
    by_cases he : some1 (rest T s) = true
    · rw [if_pos he, List.map_cons, List.filter_cons, hp, ih]
    · rw [if_neg he, ih]
      have e0 : rest T s = [] := by
        cases h0 : rest T s with
        | nil => rfl
        | cons a b => rw [h0] at he; exact absurd rfl he
      have e1 : rest (T ++ [c]) s = [] := by rw [rest_snoc, e0]; rfl
      rw [if_neg (by rw [e1]; decide)]
theorem c3_run {L : List (List Str)} {O : List Str} (nd : O.Nodup) (hs : ∀ s ∈ L, List.Sublist s O) (hc : ∀ c ∈ O, ∃ s ∈ L, c ∈ s)
    (hp : ∀ T c T', O = T ++ c :: T' → ∀ L1 s L2, L = L1 ++ s :: L2 → (∀ s' ∈ L1, c ∉ s') → c ∉ s → ∀ h ∈ s, h ∉ T → ∃ s' ∈ L, ∃ x, x ∉ T ∧ List.Sublist [x, h] s') :
    ∀ (T' T : List Str) (cur : List (List Str)) (k : Nat), O = T ++ T' → cur.filter some1 = (L.map (rest T)).filter some1 → T'.length < k → c3 k cur T = some (some O)
  | [], T, cur, k, hO, hcur, hk => by
    rw [List.append_nil] at hO
    subst hO
    have e : (L.map (rest O)).filter some1 = [] := by
      rw [List.filter_eq_nil_iff]
      intro t ht
      obtain ⟨s, hsL, rfl⟩ := List.mem_map.mp ht
      have := rest_sub (T' := []) (by rw [List.append_nil]; exact nd) (by rw [List.append_nil]; exact hs s hsL)
      rw [List.sublist_nil.mp this]
      decide
    rw [e] at hcur
    obtain ⟨n, rfl⟩ : ∃ n, k = n + 1 := ⟨k - 1, sub_add_1 hk⟩
    unfold c3
    have : cur.filter (fun s => !s.isEmpty) = [] := hcur
    rw [this]
  | c :: T', T, cur, k, hO, hcur, hk => by
    have nd' : (T ++ c :: T').Nodup := hO ▸ nd
    have hcT' : c ∉ T' := (List.nodup_cons.mp (List.nodup_append.mp nd').2.1).1
    have hcT : c ∉ T := fun h => (List.nodup_append.mp nd').2.2 c h c (List.mem_cons_self ..) rfl
    have hrs : ∀ s ∈ L, List.Sublist (rest T s) (c :: T') := fun s hsL => rest_sub nd' (hO ▸ hs s hsL)
    obtain ⟨L1, s, L2, hL, hcs, hL1⟩ := first_of (hc c (hO ▸ List.mem_append_right _ (List.mem_cons_self ..)))
    have hcr : c ∈ rest T s := List.mem_filter.mpr ⟨hcs, by simpa using hcT⟩
    obtain ⟨r, hr, _⟩ := sub_head (hrs s (hL ▸ List.mem_append_right _ (List.mem_cons_self ..))) hcr hcT'
    have hS : (L.map (rest T)).filter some1 = (L1.map (rest T)).filter some1 ++ rest T s :: (L2.map (rest T)).filter some1 := by
      rw [hL, List.map_append, List.filter_append, List.map_cons, List.filter_cons, if_pos (by rw [hr]; rfl)]
    have inS : ∀ s' ∈ L, rest T s' ≠ [] → rest T s' ∈ (L.map (rest T)).filter some1 := fun s' h1 h2 => by
      refine List.mem_filter.mpr ⟨List.mem_map_of_mem h1, ?_⟩
      cases h : rest T s' with
      | nil => exact absurd h h2
      | cons a b => rfl
    have hpk : pick ((L.map (rest T)).filter some1) ((L.map (rest T)).filter some1) = some c := by
      conv => lhs; rw [show pick ((L.map (rest T)).filter some1) ((L.map (rest T)).filter some1) = pick ((L.map (rest T)).filter some1) ((L1.map (rest T)).filter some1 ++ rest T s :: (L2.map (rest T)).filter some1) from congrArg _ hS]
      refine pick_at (fun t ht => ?_) (by rw [hr]; rfl) ?_
      · obtain ⟨ht1, ht2⟩ := List.mem_filter.mp ht
        obtain ⟨s', hs', rfl⟩ := List.mem_map.mp ht1
        obtain ⟨M1, M2, hM⟩ := List.append_of_mem hs'
        cases hh : rest T s' with
        | nil => rw [hh] at ht2; cases ht2
        | cons h t =>
          have hh2 : h ∈ rest T s' := hh ▸ List.mem_cons_self ..
          obtain ⟨hh3, hh4⟩ := List.mem_filter.mp hh2
          obtain ⟨s2, hs2, x, hx, hxs⟩ := hp T c T' hO M1 s' (M2 ++ s :: L2) (by rw [hL, hM]; simp) (fun y hy => hL1 y (hM ▸ List.mem_append_left _ hy)) (hL1 s' hs') h hh3 (by simpa using hh4)
          have hxr : List.Sublist [x, h] (rest T s2) := by
            have := hxs.filter fun z => decide (z ∉ T)
            rwa [List.filter_cons, if_pos (by simpa using hx), List.filter_cons, if_pos hh4] at this
          have htl := pair_tail hxr
          refine List.any_eq_true.mpr ⟨rest T s2, inS s2 hs2 (fun e => by rw [e] at htl; cases htl), ?_⟩
          exact List.any_eq_true.mpr ⟨h, htl, beq_self_eq_true h⟩
      · rw [Bool.eq_false_iff]
        intro hb
        obtain ⟨t, ht, hb⟩ := List.any_eq_true.mp hb
        obtain ⟨y, hy, hyc⟩ := List.any_eq_true.mp hb
        have := eq_of_beq hyc
        subst this
        obtain ⟨s', hs', rfl⟩ := List.mem_map.mp (List.mem_filter.mp ht).1
        exact hcT' ((hrs s' hs').tail.subset hy)
    obtain ⟨n, rfl⟩ : ∃ n, k = n + 1 := ⟨k - 1, sub_add_1 hk⟩
    have hne : cur.filter (fun s => !s.isEmpty) = (L.map (rest T)).filter some1 := hcur
    unfold c3
    rw [hne]
    have hpop := pop_all hcT' hrs
    cases hSe : (L.map (rest T)).filter some1 with
    | nil =>
      rw [hSe] at hS
      have := congrArg List.length hS
      simp at this
    | cons a r' =>
      dsimp only
      rw [← hSe, hpk]
      dsimp only
      refine c3_run nd hs hc hp T' (T ++ [c]) _ n (by rw [hO]; simp) hpop (by simp at hk; omega)
end Pl
end
section
open PySem PySem.W PySem.Spec PySem.Calls PyProof.Rows
namespace Pl
/-- words stand here last letter first, so that a beginning is a suffix -/
noncomputable abbrev Wd := List Nat
noncomputable def st (r : Wd) : Str := ⟨r.reverse.toArray⟩
theorem st_inj {a b : Wd} (h : st a = st b) : a = b := by
  have h1 : a.reverse.toArray = b.reverse.toArray := congrArg Str.cps h
  have h2 : a.reverse = b.reverse := by simpa using congrArg Array.toList h1
  simpa using congrArg List.reverse h2
theorem mem_st {a : Wd} {l : List Wd} (h : st a ∈ l.map st) : a ∈ l := by
  obtain ⟨b, hb, e⟩ := List.mem_map.mp h
  exact st_inj e ▸ hb
theorem nodup_st {l : List Wd} (h : l.Nodup) : (l.map st).Nodup := by
  induction l with
  | nil => exact List.nodup_nil
  | cons a l ih =>
    obtain ⟨h1, h2⟩ := List.nodup_cons.mp h
    exact List.nodup_cons.mpr ⟨fun hm => h1 (mem_st hm), ih h2⟩
/-- a word and all its beginnings, the longer ones first -/
noncomputable def chain : Wd → List Wd
  | [] => [[]]
  | a :: r => (a :: r) :: chain r
noncomputable def chS (w : Wd) : List Str := (chain w).map st
theorem mem_chain {u : Wd} : ∀ {w : Wd}, u ∈ chain w ↔ u <:+ w
  | [] => by simp [chain]
  | a :: r => by
    rw [chain, List.mem_cons, List.suffix_cons_iff, mem_chain]
theorem mem_chS {u w : Wd} : st u ∈ chS w ↔ u <:+ w := ⟨fun h => mem_chain.mp (mem_st h), fun h => List.mem_map_of_mem (mem_chain.mpr h)⟩
theorem chain_nodup : ∀ w : Wd, (chain w).Nodup
  | [] => by simp [chain]
  | a :: r => by
    rw [chain]
    refine List.nodup_cons.mpr ⟨fun h => ?_, chain_nodup r⟩
    have := (mem_chain.mp h).length_le
    simp at this
    omega
theorem chain_head (w : Wd) : ∃ t, chain w = w :: t := by
  cases w with
  | nil => exact ⟨_, rfl⟩
  | cons a r => exact ⟨_, rfl⟩
theorem chain_suf {u : Wd} : ∀ {w : Wd}, u <:+ w → chain u <:+ chain w
  | [], h => by rw [List.suffix_nil.mp h]; exact List.suffix_refl _
  | a :: r, h => by
    rcases List.suffix_cons_iff.mp h with rfl | h
    · exact List.suffix_refl _
    · exact (chain_suf h).trans (List.suffix_cons ..)
theorem pair_chain {x h r : Wd} (h1 : h <:+ x) (hn : h ≠ x) (h2 : x <:+ r) : List.Sublist [x, h] (chain r) := by
  refine List.Sublist.trans ?_ (chain_suf h2).sublist
  cases x with
  | nil => exact absurd (List.suffix_nil.mp h1) hn
  | cons a t =>
    rw [chain]
    refine List.Sublist.cons_cons _ (List.singleton_sublist.mpr (mem_chain.mpr ?_))
    rcases List.suffix_cons_iff.mp h1 with e | h
    · exact absurd e hn
    · exact h
theorem sub_two {α : Type} {a b : α} {l : List α} (h1 : List.Sublist [a, b] l) (h2 : List.Sublist [b, a] l) (nd : l.Nodup) : a = b := by
  induction l with
  | nil => cases h1
  | cons x l ih =>
    obtain ⟨n1, n2⟩ := List.nodup_cons.mp nd
    cases h1 with
    | cons _ h1 =>
      cases h2 with
      | cons _ h2 => exact ih h1 h2 n2
      | cons_cons _ h2 => exact absurd (h1.subset (List.mem_cons_of_mem _ (List.mem_cons_self ..))) n1
    | cons_cons _ h1 =>
      cases h2 with
      | cons _ h2 => exact absurd (h2.subset (List.mem_cons_of_mem _ (List.mem_cons_self ..))) n1
      | cons_cons _ h2 => rfl
/-- the rows, each told when no later row begins with it -/
noncomputable def auG : List Wd → List Wd
  | [] => []
  | r :: rs => (chain r).filter (fun u => decide (∀ r' ∈ rs, ¬ u <:+ r')) ++ auG rs
theorem auG_mem {u : Wd} : ∀ {rows : List Wd}, u ∈ auG rows → ∃ r ∈ rows, u <:+ r
  | r :: rs, h => by
    rcases List.mem_append.mp h with h | h
    · exact ⟨r, List.mem_cons_self .., mem_chain.mp (List.mem_filter.mp h).1⟩
    · obtain ⟨r', h1, h2⟩ := auG_mem h
      exact ⟨r', List.mem_cons_of_mem _ h1, h2⟩
theorem auG_nodup : ∀ rows : List Wd, (auG rows).Nodup
  | [] => List.nodup_nil
  | r :: rs => by
    rw [auG]
    refine List.nodup_append.mpr ⟨(chain_nodup r).filter _, auG_nodup rs, fun a ha b hb e => ?_⟩
    subst e
    obtain ⟨r', h1, h2⟩ := auG_mem hb
    exact of_decide_eq_true (List.mem_filter.mp ha).2 r' h1 h2
theorem auG_chain {r : Wd} : ∀ {rows : List Wd}, r ∈ rows → List.Sublist (chain r) (auG rows)
  | r0 :: rs, h => by
    rcases List.mem_cons.mp h with rfl | h
    · rw [auG]
      have key : ∀ w : Wd, List.Sublist (chain w) ((chain w).filter (fun u => decide (∀ r' ∈ rs, ¬ u <:+ r')) ++ auG rs) := by
        intro w
        have no : ∀ u : Wd, ¬ (∀ r' ∈ rs, ¬ u <:+ r') → List.Sublist (chain u) (auG rs) := by
          intro u hu
          have ⟨r', h1, h2⟩ : ∃ r' ∈ rs, u <:+ r' := by simpa using hu
          exact (chain_suf h2).sublist.trans (auG_chain h1)
        induction w with
        | nil =>
          by_cases hp : ∀ r' ∈ rs, ¬ ([] : Wd) <:+ r'
          · rw [chain, List.filter_cons, if_pos (decide_eq_true hp)]
            exact List.Sublist.cons_cons _ (List.nil_sublist _)
          · exact (no _ hp).trans (List.sublist_append_right ..)
        | cons a t ih =>
          by_cases hp : ∀ r' ∈ rs, ¬ (a :: t) <:+ r'
          · rw [chain, List.filter_cons, if_pos (decide_eq_true hp)]
            exact List.Sublist.cons_cons _ ih
          · exact (no _ hp).trans (List.sublist_append_right ..)
      exact key r
    · rw [auG]
      exact (auG_chain h).trans (List.sublist_append_right ..)
theorem auG_order {c h : Wd} {T' : List Wd} : ∀ {rows : List Wd} (T : List Wd), auG rows = T ++ c :: T' → h ∈ T' → (h <:+ c ∧ h ≠ c) ∨ ∃ P rk S rm, rows = P ++ rk :: S ∧ c <:+ rk ∧ rm ∈ S ∧ h <:+ rm ∧ rm ∉ T
  | [], T, e, _ => by
    have := congrArg List.length e
    simp [auG] at this
  | r :: rs, T, e, hh => by
    have nF : ∀ rm ∈ rs, rm ∉ (chain r).filter (fun u => decide (∀ r' ∈ rs, ¬ u <:+ r')) := fun rm h1 h2 => of_decide_eq_true (List.mem_filter.mp h2).2 rm h1 (List.suffix_refl _)
    have late : ∀ a : List Wd, T = (chain r).filter (fun u => decide (∀ r' ∈ rs, ¬ u <:+ r')) ++ a → auG rs = a ++ c :: T' → (h <:+ c ∧ h ≠ c) ∨ ∃ P rk S rm, r :: rs = P ++ rk :: S ∧ c <:+ rk ∧ rm ∈ S ∧ h <:+ rm ∧ rm ∉ T := by
      intro a e1 e2
      rcases auG_order a e2 hh with x | ⟨P, rk, S, rm, h1, h2, h3, h4, h5⟩
      · exact .inl x
      · refine .inr ⟨r :: P, rk, S, rm, by rw [h1]; rfl, h2, h3, h4, fun hm => ?_⟩
        rw [e1] at hm
        rcases List.mem_append.mp hm with hm | hm
        · exact nF rm (h1 ▸ List.mem_append_right _ (List.mem_cons_of_mem _ h3)) hm
        · exact h5 hm
    rw [auG] at e
    rcases List.append_eq_append_iff.mp e with ⟨a, e1, e2⟩ | ⟨a, e1, e2⟩
    · exact late a e1 e2
    · cases a with
      | nil =>
        rw [List.append_nil] at e1
        exact late [] (by rw [List.append_nil]; exact e1.symm) (by simpa using e2.symm)
      | cons c' a' =>
        obtain ⟨rfl, rfl⟩ : c = c' ∧ T' = a' ++ auG rs := by
          have := e2
          simp only [List.cons_append, List.cons.injEq] at this
          exact ⟨this.1, this.2⟩
        have hcF : c ∈ (chain r).filter (fun u => decide (∀ r' ∈ rs, ¬ u <:+ r')) := e1 ▸ List.mem_append_right _ (List.mem_cons_self ..)
        have hcr : c <:+ r := mem_chain.mp (List.mem_filter.mp hcF).1
        rcases List.mem_append.mp hh with hh | hh
        · refine .inl ?_
          have hsub : List.Sublist [c, h] (chain r) := by
            refine List.Sublist.trans ?_ (List.filter_sublist (p := fun u => decide (∀ r' ∈ rs, ¬ u <:+ r')))
            rw [e1]
            exact (List.Sublist.cons_cons _ (List.singleton_sublist.mpr hh)).trans (List.sublist_append_right ..)
          have hhr : h <:+ r := mem_chain.mp (hsub.subset (List.mem_cons_of_mem _ (List.mem_cons_self ..)))
          have hne : h ≠ c := fun q => by
            have := hsub.nodup (chain_nodup r)
            rw [q] at this
            simp at this
          refine ⟨?_, hne⟩
          rcases List.suffix_or_suffix_of_suffix hhr hcr with x | x
          · exact x
          · exfalso
            have h2 := pair_chain x (Ne.symm hne) hhr
            have := sub_two hsub h2 (chain_nodup r)
            exact hne this.symm
        · obtain ⟨r', h1, h2⟩ := auG_mem hh
          refine .inr ⟨[], r, rs, r', rfl, hcr, h1, h2, fun hm => nF r' h1 ?_⟩
          rw [e1]
          exact List.mem_append_left _ hm
noncomputable def rowR (rows : List Wd) (w : Wd) : List Wd := if ∃ r ∈ rows, w <:+ r then rows else rows ++ [w]
theorem rowR_spec : ∀ (ws acc : List Wd), ∃ S, ws.foldl rowR acc = acc ++ S ∧ (∀ r ∈ S, r ∈ ws) ∧ (∀ r ∈ S, ∀ a ∈ acc, ¬ r <:+ a) ∧ ∀ w ∈ ws, ∃ r ∈ acc ++ S, w <:+ r
  | [], acc => ⟨[], by simp, fun r h => (by cases h), fun r h => (by cases h), fun r h => (by cases h)⟩
  | w :: ws, acc => by
    obtain ⟨S, h1, h2, h3, h4⟩ := rowR_spec ws (rowR acc w)
    by_cases hw : ∃ r ∈ acc, w <:+ r
    · have e : rowR acc w = acc := if_pos hw
      rw [e] at h1 h3 h4
      refine ⟨S, by rw [List.foldl_cons, e, h1], fun r hr => List.mem_cons_of_mem _ (h2 r hr), h3, fun x hx => ?_⟩
      rcases List.mem_cons.mp hx with rfl | hx
      · obtain ⟨r, hr, hs⟩ := hw
        exact ⟨r, List.mem_append_left _ hr, hs⟩
      · exact h4 x hx
    · have e : rowR acc w = acc ++ [w] := if_neg hw
      rw [e] at h1 h3 h4
      refine ⟨w :: S, by rw [List.foldl_cons, e, h1]; simp, fun r hr => ?_, fun r hr a ha hs => ?_, fun x hx => ?_⟩
      · rcases List.mem_cons.mp hr with rfl | hr
        · exact List.mem_cons_self ..
        · exact List.mem_cons_of_mem _ (h2 r hr)
      · rcases List.mem_cons.mp hr with rfl | hr
        · exact hw ⟨a, ha, hs⟩
        · exact h3 r hr a (List.mem_append_left _ ha) hs
      · rcases List.mem_cons.mp hx with rfl | hx
        · exact ⟨x, List.mem_append_right _ (List.mem_cons_self ..), List.suffix_refl _⟩
        · obtain ⟨r, hr, hs⟩ := h4 x hx
          exact ⟨r, by simpa using hr, hs⟩
noncomputable def auW (ws : List Wd) : List Wd := auG (ws.foldl rowR [])
theorem mem_sf {T : List Wd} {x : Wd} (h : x ∉ T) : st x ∉ T.map st := fun hm => h (mem_st hm)
theorem at_once (ws : List Wd) (k : Nat) (hk : (auW ws).length < k) : c3 k (ws.map chS) [] = some (some ((auW ws).map st)) := by
  obtain ⟨S, h1, h2, h3, h4⟩ := rowR_spec ws []
  rw [List.nil_append] at h1 h4
  have hrows : ∀ r ∈ ws.foldl rowR [], r ∈ ws := fun r hr => h2 r (h1 ▸ hr)
  have hcov : ∀ w ∈ ws, ∃ r ∈ ws.foldl rowR [], w <:+ r := fun w hw => h1 ▸ h4 w hw
  refine c3_run (L := ws.map chS) (O := (auW ws).map st) (nodup_st (auG_nodup _)) ?_ ?_ ?_ ((auW ws).map st) [] (ws.map chS) k rfl ?_ (by rw [List.length_map]; exact hk)
  · intro s hs
    obtain ⟨w, hw, rfl⟩ := List.mem_map.mp hs
    obtain ⟨r, hr, hwr⟩ := hcov w hw
    exact ((chain_suf hwr).sublist.trans (auG_chain hr)).map st
  · intro c hc
    obtain ⟨u, hu, rfl⟩ := List.mem_map.mp hc
    obtain ⟨r, hr, hur⟩ := auG_mem hu
    exact ⟨chS r, List.mem_map_of_mem (hrows r hr), mem_chS.mpr hur⟩
  · intro T c T' hO L1 s L2 hL hL1 hcs h hhs hhT
    obtain ⟨T0, R0, hO1, rfl, hO2⟩ := List.map_eq_append_iff.mp hO
    obtain ⟨c0, T0', rfl, rfl, rfl⟩ := List.map_eq_cons_iff.mp hO2
    obtain ⟨W1, R1, hW, rfl, hW2⟩ := List.map_eq_append_iff.mp hL
    obtain ⟨w, W2, rfl, rfl, rfl⟩ := List.map_eq_cons_iff.mp hW2
    obtain ⟨h0, hh0, rfl⟩ := List.mem_map.mp hhs
    have hh0w := mem_chain.mp hh0
    have hT0 : h0 ∉ T0 := fun q => hhT (List.mem_map_of_mem q)
    have hc0w : ¬ c0 <:+ w := fun q => hcs (mem_chS.mpr q)
    have hc0W : ∀ x ∈ W1, ¬ c0 <:+ x := fun x hx q => hL1 (chS x) (List.mem_map_of_mem hx) (mem_chS.mpr q)
    have hwW : w ∈ ws := hW ▸ List.mem_append_right _ (List.mem_cons_self ..)
    have nd : (auW ws).Nodup := auG_nodup _
    have hin : h0 ∈ auW ws := by
      obtain ⟨r, hr, hwr⟩ := hcov w hwW
      exact (auG_chain hr).subset (mem_chain.mpr (hh0w.trans hwr))
    have hT0' : h0 ∈ T0' := by
      rw [hO1] at hin
      rcases List.mem_append.mp hin with q | q
      · exact absurd q hT0
      · rcases List.mem_cons.mp q with rfl | q
        · exact absurd hh0w hc0w
        · exact q
    have hcT : c0 ∉ T0 := fun q => by
      rw [hO1] at nd
      exact (List.nodup_append.mp nd).2.2 c0 q c0 (List.mem_cons_self ..) rfl
    rcases auG_order T0 hO1 hT0' with ⟨k1, k2⟩ | ⟨P, rk, S', rm, k1, k2, k3, k4, k5⟩
    · have hcin : c0 ∈ auW ws := hO1 ▸ List.mem_append_right _ (List.mem_cons_self ..)
      obtain ⟨r, hr, hcr⟩ := auG_mem hcin
      exact ⟨chS r, List.mem_map_of_mem (hrows r hr), st c0, mem_sf hcT, (pair_chain k1 k2 hcr).map st⟩
    · have hrm : rm ∈ ws.foldl rowR [] := k1 ▸ List.mem_append_right _ (List.mem_cons_of_mem _ k3)
      by_cases hne : h0 = rm
      · exfalso
        subst hne
        obtain ⟨P0, p1, p2, p3, p4⟩ := rowR_spec (W1 ++ [w]) []
        obtain ⟨S0, s1, s2, s3, s4⟩ := rowR_spec W2 ((W1 ++ [w]).foldl rowR [])
        rw [List.nil_append] at p1 p4
        have e : ws.foldl rowR [] = P0 ++ S0 := by
          rw [← p1, ← s1, ← List.foldl_append]
          rw [hW]; simp
        rw [p1] at s3
        have hrkP : rk ∉ P0 := fun q => by
          have := p2 rk q
          rcases List.mem_append.mp this with z | z
          · exact hc0W rk z k2
          · rw [List.mem_singleton.mp z] at k2; exact hc0w k2
        rw [e] at k1
        have hS0 : h0 ∈ S0 := by
          rcases List.append_eq_append_iff.mp k1 with ⟨a, e1, e2⟩ | ⟨a, e1, e2⟩
          · rw [e2]
            exact List.mem_append_right _ (List.mem_cons_of_mem _ k3)
          · cases a with
            | nil =>
              rw [List.nil_append] at e2
              rw [← e2]
              exact List.mem_cons_of_mem _ k3
            | cons z a =>
              exfalso
              refine hrkP (e1 ▸ List.mem_append_right _ ?_)
              have : rk = z := by
                have := congrArg (fun l => l.head?) e2
                simpa using this
              rw [this]
              exact List.mem_cons_self ..
        obtain ⟨a, ha, hwa⟩ := p4 w (List.mem_append_right _ (List.mem_cons_self ..))
        exact s3 h0 hS0 a ha (hh0w.trans hwa)
      · exact ⟨chS rm, List.mem_map_of_mem (hrows rm hrm), st rm, mem_sf k5, (pair_chain k4 hne (List.suffix_refl _)).map st⟩
  · have : (ws.map chS).map (rest []) = ws.map chS := by
      rw [List.map_congr_left (g := id) (fun s _ => ?_)]
      · simp
      · unfold rest
        rw [List.filter_eq_self.mpr]
        · rfl
        · intro a _; simp
    rw [this]
end Pl
end
section
open PySem PySem.W PySem.Spec PySem.Calls PyProof.Rows
namespace Pl
/-- o goes on from x by one letter -/
noncomputable def kid (x o : Wd) : Bool := match o with
  | [] => false
  | _ :: t => decide (t = x)
theorem kid_iff {x o : Wd} : kid x o = true ↔ ∃ a, o = a :: x := by
  cases o with
  | nil => simp [kid]
  | cons a t => simp [kid]
noncomputable def lfR : Nat → List Wd → Wd → List Wd
  | 0, _, w => [w]
  | f + 1, kn, w => (kn.flatMap fun o => if kid w o = true then lfR f kn o else []) ++ [w]
theorem lfR_succ (f : Nat) (kn : List Wd) (w : Wd) : lfR (f + 1) kn w = (kn.flatMap fun o => if kid w o = true then lfR f kn o else []) ++ [w] := rfl
/-- all beginnings of what stands in it stand in it -/
noncomputable def Closed (kn : List Wd) : Prop := ∀ a t, a :: t ∈ kn → t ∈ kn
theorem Closed.suf {kn : List Wd} (h : Closed kn) {v : Wd} : ∀ {u : Wd}, u ∈ kn → v <:+ u → v ∈ kn
  | [], hu, hv => by rw [List.suffix_nil.mp hv]; exact hu
  | a :: t, hu, hv => by
    rcases List.suffix_cons_iff.mp hv with rfl | hv
    · exact hu
    · exact h.suf (h a t hu) hv
theorem flat_same {α β : Type} {f g : α → List β} : ∀ {l : List α}, (∀ x ∈ l, f x = g x) → l.flatMap f = l.flatMap g
  | [], _ => rfl
  | x :: l, h => by rw [List.flatMap_cons, List.flatMap_cons, h x (List.mem_cons_self ..), flat_same fun y hy => h y (List.mem_cons_of_mem _ hy)]
theorem flat_nil {α β : Type} {f : α → List β} {l : List α} (h : ∀ x ∈ l, f x = []) : l.flatMap f = [] := by
  rw [flat_same (g := fun _ => []) h]
  induction l with
  | nil => rfl
  | cons a l ih => rw [List.flatMap_cons, ih fun x hx => h x (List.mem_cons_of_mem _ hx)]; rfl
theorem flat_one {α β : Type} {f : α → List β} {l : List α} {z : α} (hz : z ∈ l) (nd : l.Nodup) (h : ∀ x ∈ l, x ≠ z → f x = []) : l.flatMap f = f z := by
  obtain ⟨l1, l2, rfl⟩ := List.append_of_mem hz
  have n2 := List.nodup_append.mp nd
  have n3 := List.nodup_cons.mp n2.2.1
  rw [List.flatMap_append, List.flatMap_cons, flat_nil (l := l1), flat_nil (l := l2)]
  · simp
  · intro x hx
    exact h x (List.mem_append_right _ (List.mem_cons_of_mem _ hx)) fun e => n3.1 (e ▸ hx)
  · intro x hx
    exact h x (List.mem_append_left _ hx) fun e => n2.2.2 x hx z (List.mem_cons_self ..) e
/-- the new words: from w down to what goes on from u -/
structure NewSeg (kn : List Wd) (w u : Wd) (seg : List Wd) : Prop where
  cl : Closed kn
  nd : kn.Nodup
  uin : u ∈ kn
  eq : chain w = seg ++ chain u
  out : ∀ s ∈ seg, s ∉ kn
theorem seg_parent : ∀ {w u : Wd} {S1 S2 : List Wd} {s : Wd}, chain w = (S1 ++ s :: S2) ++ chain u → ∃ a t, s = a :: t ∧ (t = (S2 ++ [u]).headD []) ∧ ∀ x ∈ S1, s <:+ x ∧ x ≠ s
  | [], u, S1, S2, s, h => by
    have h1 := congrArg List.length h
    obtain ⟨t, ht⟩ := chain_head u
    rw [ht] at h1
    simp [chain] at h1
    exact absurd (Nat.succ.inj h1).symm (Nat.succ_ne_zero _)
  | a :: r, u, [], S2, s, h => by
    rw [chain, List.nil_append, List.cons_append] at h
    obtain ⟨h1, h2⟩ := List.cons.inj h
    refine ⟨a, r, h1.symm, ?_, fun x hx => by cases hx⟩
    obtain ⟨t, ht⟩ := chain_head r
    rw [ht] at h2
    cases S2 with
    | nil =>
      obtain ⟨t', ht'⟩ := chain_head u
      rw [List.nil_append, ht'] at h2
      exact (List.cons.inj h2).1
    | cons b S2 => exact (List.cons.inj h2).1
  | a :: r, u, x :: S1, S2, s, h => by
    rw [chain, List.cons_append, List.cons_append] at h
    obtain ⟨h1, h2⟩ := List.cons.inj h
    obtain ⟨b, t, e1, e2, e3⟩ := seg_parent h2
    refine ⟨b, t, e1, e2, fun y hy => ?_⟩
    rcases List.mem_cons.mp hy with rfl | hy
    · have hs : s <:+ r := mem_chain.mp (by rw [h2]; simp)
      rw [← h1]
      refine ⟨hs.trans (List.suffix_cons ..), fun q => ?_⟩
      have := hs.length_le
      rw [← q] at this
      simp at this
      omega
    · exact e3 y hy
theorem seg_nodup {kn : List Wd} {w u : Wd} {seg : List Wd} (h : NewSeg kn w u seg) : seg.Nodup := by
  have := chain_nodup w
  rw [h.eq] at this
  exact (List.nodup_append.mp this).1
/-- the path of new words, told from its leaf -/
theorem lf_path {kn : List Wd} {w u : Wd} {seg : List Wd} (h : NewSeg kn w u seg) : ∀ (S1 : List Wd) (s : Wd) (S2 : List Wd) (f : Nat), seg = S1 ++ s :: S2 → S1.length ≤ f → lfR f (kn ++ seg.reverse) s = S1 ++ [s] := by
  intro S1
  induction hn : S1.length generalizing S1 with
  | zero =>
    intro s S2 f e hf
    obtain rfl : S1 = [] := List.length_eq_zero_iff.mp hn
    cases f with
    | zero => rfl
    | succ f =>
      rw [lfR_succ, flat_nil]
      intro o ho
      refine if_neg fun hk => ?_
      obtain ⟨a, rfl⟩ := kid_iff.mp hk
      rcases List.mem_append.mp ho with ho | ho
      · exact h.out s (e ▸ List.mem_cons_self ..) (h.cl a s ho)
      · have ho' : a :: s ∈ seg := List.mem_reverse.mp ho
        rw [e, List.nil_append] at ho'
        have hlen : (a :: s).length ≤ w.length := (mem_chain.mp (show a :: s ∈ chain w by rw [h.eq]; exact List.mem_append_left _ (by rw [e]; exact ho'))).length_le
        have hsw : s = w := by
          obtain ⟨t, ht⟩ := chain_head w
          have := h.eq
          rw [ht, e, List.nil_append, List.cons_append] at this
          exact (List.cons.inj this).1.symm
        rw [hsw] at hlen
        simp at hlen
        omega
  | succ n ih =>
    intro s S2 f e hf
    obtain ⟨f, rfl⟩ : ∃ g, f = g + 1 := ⟨f - 1, sub_add_1 hf⟩
    obtain ⟨S0, x, rfl⟩ : ∃ S0 x, S1 = S0 ++ [x] := by
      rcases List.eq_nil_or_concat S1 with rfl | ⟨S0, x, e⟩
      · simp at hn
      · exact ⟨S0, x, by simpa using e⟩
    have hl0 : S0.length = n := by simpa using hn
    have e' : seg = S0 ++ x :: (s :: S2) := by rw [e]; simp
    have ihx := ih S0 hl0 x (s :: S2) f e' (Nat.le_of_succ_le_succ hf)
    obtain ⟨a, t, e1, e2, _⟩ := seg_parent (by rw [← e']; exact h.eq)
    have ets : t = s := by simpa using e2
    rw [ets] at e1
    subst e1
    have hxin : (a :: s) ∈ seg := e' ▸ List.mem_append_right _ (List.mem_cons_self ..)
    rw [lfR_succ, List.flatMap_append, flat_nil (l := kn), List.nil_append, flat_one (z := a :: s) (List.mem_reverse.mpr hxin) ((List.reverse_perm seg).nodup_iff.mpr (seg_nodup h)), if_pos (kid_iff.mpr ⟨a, rfl⟩), ihx]
    · intro o ho hne
      refine if_neg fun hk => hne ?_
      obtain ⟨b, rfl⟩ := kid_iff.mp hk
      have ho' : b :: s ∈ seg := List.mem_reverse.mp ho
      have c1 : (b :: s) <:+ w := mem_chain.mp (by rw [h.eq]; exact List.mem_append_left _ ho')
      have c2 : (a :: s) <:+ w := mem_chain.mp (by rw [h.eq]; exact List.mem_append_left _ hxin)
      rcases List.suffix_or_suffix_of_suffix c1 c2 with z | z
      · exact z.eq_of_length (by simp)
      · exact (z.eq_of_length (by simp)).symm
    · intro o ho
      refine if_neg fun hk => ?_
      obtain ⟨b, rfl⟩ := kid_iff.mp hk
      exact h.out s (e ▸ List.mem_append_right _ (List.mem_cons_self ..)) (h.cl b s ho)
/-- the tree with the new words: they stand ahead of u -/
theorem lf_ins {kn : List Wd} {w u : Wd} {seg : List Wd} (h : NewSeg kn w u seg) {B : Nat} (hw : w.length ≤ B) (hB : ∀ x ∈ kn, x.length ≤ B) : ∀ (f : Nat) (x : Wd), x ∈ kn → B ≤ x.length + f →
    (¬ x <:+ u → lfR f (kn ++ seg.reverse) x = lfR f kn x) ∧ (x <:+ u → ∃ P R, lfR f kn x = P ++ u :: R ∧ lfR f (kn ++ seg.reverse) x = P ++ seg ++ u :: R)
  | 0, x, hx, hf => by
    refine ⟨fun _ => rfl, fun hs => ?_⟩
    have hu := hB u h.uin
    obtain rfl : x = u := hs.eq_of_length (Nat.le_antisymm hs.length_le (Nat.le_trans hu hf))
    have hseg : seg = [] := by
      cases hseg : seg with
      | nil => rfl
      | cons s S =>
        exfalso
        have hxw : x <:+ w := mem_chain.mp (by rw [h.eq]; exact List.mem_append_right _ (mem_chain.mpr (List.suffix_refl _)))
        obtain rfl : x = w := hxw.eq_of_length (Nat.le_antisymm hxw.length_le (Nat.le_trans hw hf))
        have := congrArg List.length h.eq
        rw [hseg] at this
        simp at this
        omega
    exact ⟨[], [], rfl, by rw [hseg]; rfl⟩
  | f + 1, x, hx, hf => by
    have one : ∀ o ∈ kn, kid x o = true → (¬ o <:+ u → lfR f (kn ++ seg.reverse) o = lfR f kn o) ∧ (o <:+ u → ∃ P R, lfR f kn o = P ++ u :: R ∧ lfR f (kn ++ seg.reverse) o = P ++ seg ++ u :: R) := by
      intro o ho hk
      obtain ⟨a, rfl⟩ := kid_iff.mp hk
      exact lf_ins h hw hB f (a :: x) ho (by rw [List.length_cons, Nat.add_right_comm]; exact hf)
    have new : x ≠ u → (seg.reverse.flatMap fun o => if kid x o = true then lfR f (kn ++ seg.reverse) o else []) = [] := by
      intro hne
      refine flat_nil fun o ho => if_neg fun hk => ?_
      obtain ⟨a, rfl⟩ := kid_iff.mp hk
      obtain ⟨S1, S2, e⟩ := List.append_of_mem (List.mem_reverse.mp ho)
      obtain ⟨b, t, e1, e2, _⟩ := seg_parent (by rw [← e]; exact h.eq)
      cases e1
      cases S2 with
      | nil => exact hne (by simpa using e2)
      | cons y S2 =>
        have : x = y := by simpa using e2
        exact h.out y (e ▸ List.mem_append_right _ (List.mem_cons_of_mem _ (List.mem_cons_self ..))) (this ▸ hx)
    refine ⟨fun hn => ?_, fun hs => ?_⟩
    · rw [lfR_succ, lfR_succ, List.flatMap_append, new fun e => hn (e ▸ List.suffix_refl _), List.append_nil]
      congr 1
      refine flat_same fun o ho => ?_
      by_cases hk : kid x o = true
      · rw [if_pos hk, if_pos hk]
        refine (one o ho hk).1 fun q => hn ?_
        obtain ⟨a, rfl⟩ := kid_iff.mp hk
        exact (List.suffix_cons ..).trans q
      · rw [if_neg hk, if_neg hk]
    · by_cases hxu : x = u
      · subst hxu
        refine ⟨kn.flatMap fun o => if kid x o = true then lfR f kn o else [], [], rfl, ?_⟩
        rw [lfR_succ, List.flatMap_append]
        have e1 : (kn.flatMap fun o => if kid x o = true then lfR f (kn ++ seg.reverse) o else []) = kn.flatMap fun o => if kid x o = true then lfR f kn o else [] := by
          refine flat_same fun o ho => ?_
          by_cases hk : kid x o = true
          · rw [if_pos hk, if_pos hk]
            refine (one o ho hk).1 fun q => ?_
            obtain ⟨a, rfl⟩ := kid_iff.mp hk
            have := q.length_le
            simp at this
            omega
          · rw [if_neg hk, if_neg hk]
        have e2 : (seg.reverse.flatMap fun o => if kid x o = true then lfR f (kn ++ seg.reverse) o else []) = seg := by
          rcases List.eq_nil_or_concat seg with e | ⟨S1, s, e⟩
          · rw [e]; rfl
          · rw [List.concat_eq_append] at e
            obtain ⟨a, t, e1, e2, _⟩ := seg_parent (S2 := []) (by rw [← e]; exact h.eq)
            have : t = x := by simpa using e2
            rw [this] at e1
            have hin : s ∈ seg := e ▸ List.mem_append_right _ (List.mem_cons_self ..)
            rw [flat_one (z := s) (List.mem_reverse.mpr hin) ((List.reverse_perm seg).nodup_iff.mpr (seg_nodup h)), if_pos (kid_iff.mpr ⟨a, e1⟩), lf_path h S1 s [] f e, ← e]
            · have h1 : S1.length + 1 + x.length + 1 ≤ w.length + 1 := by
                have := congrArg List.length h.eq
                have cl : ∀ v : Wd, (chain v).length = v.length + 1 := by
                  intro v
                  induction v with
                  | nil => rfl
                  | cons a v ih => rw [chain, List.length_cons, ih]; rfl
                rw [List.length_append, cl, cl, e] at this
                simp at this
                exact Nat.le_of_eq this.symm
              have := Nat.le_trans (Nat.le_of_succ_le_succ h1) (Nat.le_trans hw hf)
              rw [Nat.add_comm x.length] at this
              exact Nat.le_of_succ_le_succ (Nat.le_of_add_le_add_right this)
            · intro o ho hne
              refine if_neg fun hk => hne ?_
              obtain ⟨b, rfl⟩ := kid_iff.mp hk
              rw [e1]
              have c1 : (b :: x) <:+ w := mem_chain.mp (by rw [h.eq]; exact List.mem_append_left _ (List.mem_reverse.mp ho))
              have c2 : (a :: x) <:+ w := mem_chain.mp (by rw [h.eq, ← e1]; exact List.mem_append_left _ hin)
              rcases List.suffix_or_suffix_of_suffix c1 c2 with z | z
              · exact z.eq_of_length (by simp)
              · exact (z.eq_of_length (by simp)).symm
        rw [e1, e2]
      · have hlt : x.length < u.length := by
          have := hs.length_le
          rcases Nat.lt_or_ge x.length u.length with z | z
          · exact z
          · exact absurd (hs.eq_of_length (Nat.le_antisymm this z)) hxu
        obtain ⟨z, hzx, hzu⟩ : ∃ z, kid x z = true ∧ z <:+ u := by
          have key : ∀ v : Wd, x <:+ v → x ≠ v → ∃ z, kid x z = true ∧ z <:+ v := by
            intro v
            induction v with
            | nil => intro h1 h2; exact absurd (List.suffix_nil.mp h1) h2
            | cons a v ih =>
              intro h1 h2
              rcases List.suffix_cons_iff.mp h1 with q | q
              · exact absurd q h2
              · by_cases hv : x = v
                · exact ⟨a :: v, kid_iff.mpr ⟨a, by rw [hv]⟩, List.suffix_refl _⟩
                · obtain ⟨z, z1, z2⟩ := ih q hv
                  exact ⟨z, z1, z2.trans (List.suffix_cons ..)⟩
          exact key u hs hxu
        have hzk : z ∈ kn := h.cl.suf h.uin hzu
        obtain ⟨P, R, p1, p2⟩ := (one z hzk hzx).2 hzu
        obtain ⟨K1, K2, hK⟩ := List.append_of_mem hzk
        have n2 := List.nodup_append.mp (hK ▸ h.nd)
        have n3 := List.nodup_cons.mp n2.2.1
        have others : ∀ o ∈ kn, o ≠ z → (if kid x o = true then lfR f (kn ++ seg.reverse) o else []) = if kid x o = true then lfR f kn o else [] := by
          intro o ho hne
          by_cases hk : kid x o = true
          · rw [if_pos hk, if_pos hk]
            refine (one o ho hk).1 fun q => hne ?_
            obtain ⟨a, rfl⟩ := kid_iff.mp hk
            obtain ⟨b, rfl⟩ := kid_iff.mp hzx
            rcases List.suffix_or_suffix_of_suffix q hzu with y | y
            · exact y.eq_of_length (by simp)
            · exact (y.eq_of_length (by simp)).symm
          · rw [if_neg hk, if_neg hk]
        refine ⟨(K1.flatMap fun o => if kid x o = true then lfR f kn o else []) ++ P, R ++ (K2.flatMap fun o => if kid x o = true then lfR f kn o else []) ++ [x], ?_, ?_⟩
        · show (kn.flatMap fun o => if kid x o = true then lfR f kn o else []) ++ [x] = _
          conv => lhs; rw [show (kn.flatMap fun o => if kid x o = true then lfR f kn o else []) = ((K1 ++ z :: K2).flatMap fun o => if kid x o = true then lfR f kn o else []) from congrArg (fun l => List.flatMap (fun o => if kid x o = true then lfR f kn o else []) l) hK]
          rw [List.flatMap_append, List.flatMap_cons, if_pos hzx, p1]
          simp
        · show ((kn ++ seg.reverse).flatMap fun o => if kid x o = true then lfR f (kn ++ seg.reverse) o else []) ++ [x] = _
          rw [List.flatMap_append, new hxu, List.append_nil]
          conv => lhs; rw [show (kn.flatMap fun o => if kid x o = true then lfR f (kn ++ seg.reverse) o else []) = ((K1 ++ z :: K2).flatMap fun o => if kid x o = true then lfR f (kn ++ seg.reverse) o else []) from congrArg (fun l => List.flatMap (fun o => if kid x o = true then lfR f (kn ++ seg.reverse) o else []) l) hK]
          rw [List.flatMap_append, List.flatMap_cons, if_pos hzx, p2]
          rw [flat_same (l := K1) fun o ho => others o (hK ▸ List.mem_append_left _ ho) fun e => n2.2.2 o ho z (List.mem_cons_self ..) e]
          rw [flat_same (l := K2) fun o ho => others o (hK ▸ List.mem_append_right _ (List.mem_cons_of_mem _ ho)) fun e => n3.1 (e ▸ ho)]
          simp
end Pl
end
section
open PySem PySem.W PySem.Spec PySem.Calls PyProof.Rows
namespace Pl
noncomputable def newOf (kn : List Wd) (w : Wd) : List Wd := (chain w).filter fun x => decide (x ∉ kn)
noncomputable def knAdd (kn : List Wd) (w : Wd) : List Wd := kn ++ (newOf kn w).reverse
noncomputable def knOf (ws : List Wd) : List Wd := ws.foldl knAdd []
noncomputable def tld (ws : List Wd) : List Wd := if ws = [] then [] else lfR 3 (knOf ws) []
theorem chain_len (v : Wd) : (chain v).length = v.length + 1 := by
  induction v with
  | nil => rfl
  | cons a v ih => rw [chain, List.length_cons, ih]; rfl
theorem seg_of {kn : List Wd} (cl : Closed kn) (nd : kn.Nodup) (h0 : [] ∈ kn) : ∀ w : Wd, ∃ u, NewSeg kn w u (newOf kn w)
  | [] => ⟨[], cl, nd, h0, by simp [newOf, chain, h0], by simp [newOf, chain, h0]⟩
  | a :: t => by
    by_cases ha : (a :: t) ∈ kn
    · have e : newOf kn (a :: t) = [] := by
        unfold newOf
        rw [List.filter_eq_nil_iff]
        intro x hx
        have := cl.suf ha (mem_chain.mp hx)
        simpa using this
      exact ⟨a :: t, cl, nd, ha, by rw [e]; rfl, by rw [e]; intro s hs; cases hs⟩
    · obtain ⟨u, h⟩ := seg_of cl nd h0 t
      have e : newOf kn (a :: t) = (a :: t) :: newOf kn t := by
        unfold newOf
        rw [chain, List.filter_cons, if_pos (by simpa using ha)]
      refine ⟨u, cl, nd, h.uin, by rw [e, chain, h.eq]; rfl, fun s hs => ?_⟩
      rw [e] at hs
      rcases List.mem_cons.mp hs with rfl | hs
      · exact ha
      · exact h.out s hs
theorem split_eq {α : Type} {c : α} : ∀ {A B X Y : List α}, c ∉ A → c ∉ B → A ++ c :: X = B ++ c :: Y → A = B
  | [], [], _, _, _, _, _ => rfl
  | [], b :: B, _, _, _, hB, e => absurd ((List.cons.inj e).1 ▸ List.mem_cons_self ..) hB
  | a :: A, [], _, _, hA, _, e => absurd ((List.cons.inj e).1.symm ▸ List.mem_cons_self ..) hA
  | a :: A, b :: B, _, _, hA, hB, e => by
    obtain ⟨h1, h2⟩ := List.cons.inj e
    rw [h1, split_eq (fun q => hA (List.mem_cons_of_mem _ q)) (fun q => hB (List.mem_cons_of_mem _ q)) h2]
structure Inv (kn : List Wd) : Prop where
  cl : Closed kn
  nd : kn.Nodup
  nil : [] ∈ kn
  le : ∀ x ∈ kn, x.length ≤ 3
  tnd : (lfR 3 kn []).Nodup
  tch : ∀ v ∈ kn, List.Sublist (chain v) (lfR 3 kn [])
  tin : ∀ v ∈ lfR 3 kn [], v ∈ kn
theorem inv0 : Inv [[]] where
  cl := fun a t h => by simp at h
  nd := by simp
  nil := by simp
  le := fun x h => by simp at h; simp [h]
  tnd := by decide
  tch := fun v h => by simp at h; subst h; decide
  tin := fun v h => by
    have : lfR 3 [[]] ([] : Wd) = [[]] := by decide
    rw [this] at h
    exact h
theorem inv_step {kn : List Wd} (I : Inv kn) {w : Wd} (hw : w.length ≤ 3) : Inv (knAdd kn w) ∧ ∀ k, (lfR 3 (knAdd kn w) []).length < k → c3 k [(lfR 3 kn []).map st, chS w] [] = some (some ((lfR 3 (knAdd kn w) []).map st)) := by
  obtain ⟨u, S⟩ := seg_of I.cl I.nd I.nil w
  obtain ⟨P, R, e1, e2⟩ := (lf_ins S hw I.le 3 [] I.nil (by simp)).2 (List.nil_suffix)
  have e2' : lfR 3 (knAdd kn w) [] = P ++ newOf kn w ++ u :: R := e2
  have hin : ∀ v ∈ knAdd kn w, v ∈ kn ∨ v ∈ newOf kn w := fun v hv => (List.mem_append.mp hv).imp id List.mem_reverse.mp
  have nsw : ∀ v ∈ newOf kn w, v <:+ w := fun v hv => mem_chain.mp (by rw [S.eq]; exact List.mem_append_left _ hv)
  have uP : u ∉ P := fun h => by
    have := I.tnd
    rw [e1] at this
    exact (List.nodup_append.mp this).2.2 u h u (List.mem_cons_self ..) rfl
  have tsub : List.Sublist (lfR 3 kn []) (lfR 3 (knAdd kn w) []) := by
    rw [e1, e2', List.append_assoc]
    exact (List.Sublist.refl P).append (List.sublist_append_right ..)
  have after : ∀ {l : List Wd}, List.Sublist (u :: l) (P ++ u :: R) → List.Sublist (u :: l) (u :: R) := by
    intro l h
    have key : ∀ Q : List Wd, u ∉ Q → List.Sublist (u :: l) (Q ++ u :: R) → List.Sublist (u :: l) (u :: R) := by
      intro Q
      induction Q with
      | nil => intro _ h; exact h
      | cons q Q ih =>
        intro hq h
        cases h with
        | cons _ h => exact ih (fun z => hq (List.mem_cons_of_mem _ z)) h
        | cons_cons _ h => exact absurd (List.mem_cons_self ..) hq
    exact key P uP h
  have wsub : List.Sublist (chain w) (lfR 3 (knAdd kn w) []) := by
    rw [e2', S.eq, List.append_assoc]
    refine List.Sublist.trans ?_ (List.sublist_append_right ..)
    refine (List.Sublist.refl _).append ?_
    have := I.tch u S.uin
    rw [e1] at this
    obtain ⟨t, ht⟩ := chain_head u
    rw [ht] at this ⊢
    exact after this
  have nd' : (knAdd kn w).Nodup := List.nodup_append.mpr ⟨I.nd, (List.reverse_perm _).nodup_iff.mpr (seg_nodup S), fun a ha b hb e => S.out b (List.mem_reverse.mp hb) (e ▸ ha)⟩
  have tnd' : (lfR 3 (knAdd kn w) []).Nodup := by
    have := I.tnd
    rw [e1] at this
    obtain ⟨n1, n2, n3⟩ := List.nodup_append.mp this
    have tkn : ∀ v ∈ P ++ u :: R, v ∈ kn := fun v hv => I.tin v (e1 ▸ hv)
    rw [e2', List.append_assoc]
    refine List.nodup_append.mpr ⟨n1, List.nodup_append.mpr ⟨seg_nodup S, n2, fun a ha b hb e => S.out a ha (e ▸ tkn b (List.mem_append_right _ hb))⟩, fun a ha b hb e => ?_⟩
    rcases List.mem_append.mp hb with hb | hb
    · exact S.out b hb (e ▸ tkn a (List.mem_append_left _ ha))
    · exact n3 a ha b hb e
  have J : Inv (knAdd kn w) := by
    refine ⟨fun a t h => ?_, nd', List.mem_append_left _ I.nil, fun x hx => ?_, tnd', fun v hv => ?_, fun v hv => ?_⟩
    · rcases hin _ h with h | h
      · exact List.mem_append_left _ (I.cl a t h)
      · have ht : t ∈ chain w := mem_chain.mpr ((List.suffix_cons a t).trans (nsw _ h))
        by_cases hk : t ∈ kn
        · exact List.mem_append_left _ hk
        · exact List.mem_append_right _ (List.mem_reverse.mpr (List.mem_filter.mpr ⟨ht, by simpa using hk⟩))
    · rcases hin _ hx with h | h
      · exact I.le x h
      · exact Nat.le_trans (nsw _ h).length_le hw
    · rcases hin _ hv with h | h
      · exact (I.tch v h).trans tsub
      · exact (chain_suf (nsw _ h)).sublist.trans wsub
    · rw [e2', List.append_assoc] at hv
      rcases List.mem_append.mp hv with h | h
      · exact List.mem_append_left _ (I.tin v (e1 ▸ List.mem_append_left _ h))
      · rcases List.mem_append.mp h with h | h
        · exact List.mem_append_right _ (List.mem_reverse.mpr h)
        · exact List.mem_append_left _ (I.tin v (e1 ▸ List.mem_append_right _ h))
  refine ⟨J, fun k hk => ?_⟩
  refine c3_run (L := [(lfR 3 kn []).map st, chS w]) (O := (lfR 3 (knAdd kn w) []).map st) (nodup_st tnd') ?_ ?_ ?_ ((lfR 3 (knAdd kn w) []).map st) [] _ k rfl ?_ (by rw [List.length_map]; exact hk)
  · intro s hs
    rcases List.mem_cons.mp hs with rfl | hs
    · exact tsub.map st
    · rw [List.mem_singleton.mp hs]
      exact wsub.map st
  · intro c hc
    obtain ⟨v, hv, rfl⟩ := List.mem_map.mp hc
    rcases hin v (J.tin v hv) with h | h
    · obtain ⟨t, ht⟩ := chain_head v
      exact ⟨_, List.mem_cons_self .., List.mem_map_of_mem ((I.tch v h).subset (ht ▸ List.mem_cons_self ..))⟩
    · exact ⟨_, List.mem_cons_of_mem _ (List.mem_cons_self ..), mem_chS.mpr (nsw v h)⟩
  · intro T c T' hO L1 s L2 hL hL1 hcs h hhs hhT
    obtain ⟨T0, R0, hO1, rfl, hO2⟩ := List.map_eq_append_iff.mp hO
    obtain ⟨c0, T0', rfl, rfl, rfl⟩ := List.map_eq_cons_iff.mp hO2
    have hcO : c0 ∈ lfR 3 (knAdd kn w) [] := hO1 ▸ List.mem_append_right _ (List.mem_cons_self ..)
    have hc0 : c0 ∉ lfR 3 kn [] → c0 ∈ newOf kn w := fun hn => by
      rcases hin c0 (J.tin c0 hcO) with z | z
      · obtain ⟨t, ht⟩ := chain_head c0
        exact absurd ((I.tch c0 z).subset (ht ▸ List.mem_cons_self ..)) hn
      · exact z
    cases L1 with
    | cons s1 L1 =>
      exfalso
      rw [List.cons_append] at hL
      obtain ⟨rfl, e⟩ := List.cons.inj hL
      have hc1 : c0 ∉ lfR 3 kn [] := fun q => hL1 _ (List.mem_cons_self ..) (List.mem_map_of_mem q)
      have hc2 := hc0 hc1
      cases L1 with
      | nil =>
        rw [List.nil_append] at e
        have : chS w = s := (List.cons.inj e).1
        exact hcs (this ▸ mem_chS.mpr (nsw c0 hc2))
      | cons s2 L1 =>
        have := congrArg List.length e
        simp at this
    | nil =>
      rw [List.nil_append] at hL
      obtain rfl : (lfR 3 kn []).map st = s := (List.cons.inj hL).1
      have hc1 : c0 ∉ lfR 3 kn [] := fun q => hcs (List.mem_map_of_mem q)
      have hc2 := hc0 hc1
      obtain ⟨h0, hh0, rfl⟩ := List.mem_map.mp hhs
      have hT0 : h0 ∉ T0 := fun q => hhT (List.mem_map_of_mem q)
      -- where c stands
      obtain ⟨S1, S2, eS⟩ := List.append_of_mem hc2
      have eO : T0 ++ c0 :: T0' = (P ++ S1) ++ c0 :: (S2 ++ u :: R) := by
        rw [← hO1, e2', eS]; simp
      have eT : T0 = P ++ S1 := by
        have n1 : c0 ∉ T0 := fun q => by
          rw [hO1] at tnd'
          exact (List.nodup_append.mp tnd').2.2 c0 q c0 (List.mem_cons_self ..) rfl
        have n2 : c0 ∉ P ++ S1 := fun q => by
          rw [hO1, eO] at tnd'
          exact (List.nodup_append.mp tnd').2.2 c0 q c0 (List.mem_cons_self ..) rfl
        exact split_eq n1 n2 eO
      have uT : u ∉ T0 := fun q => by
        rw [eT] at q
        rcases List.mem_append.mp q with q | q
        · exact uP q
        · exact S.out u (eS ▸ List.mem_append_left _ q) S.uin
      rw [e1] at hh0
      have hh1 : h0 ∈ u :: R := by
        rcases List.mem_append.mp hh0 with q | q
        · exact absurd (eT ▸ List.mem_append_left _ q) hT0
        · exact q
      rcases List.mem_cons.mp hh1 with rfl | hR
      · refine ⟨chS w, List.mem_cons_of_mem _ (List.mem_cons_self ..), st c0, mem_sf (fun q => ?_), ?_⟩
        · rw [hO1] at tnd'
          exact (List.nodup_append.mp tnd').2.2 c0 q c0 (List.mem_cons_self ..) rfl
        · have : List.Sublist [c0, h0] (chain w) := by
            rw [S.eq, eS]
            obtain ⟨t, ht⟩ := chain_head h0
            rw [ht, List.append_assoc]
            refine List.Sublist.trans ?_ (List.sublist_append_right ..)
            refine List.Sublist.cons_cons _ (List.singleton_sublist.mpr ?_)
            exact List.mem_append_right _ (List.mem_cons_self ..)
          exact this.map st
      · refine ⟨_, List.mem_cons_self .., st u, mem_sf uT, ?_⟩
        rw [e1]
        have : List.Sublist [u, h0] (P ++ u :: R) := List.Sublist.trans (List.Sublist.cons_cons _ (List.singleton_sublist.mpr hR)) (List.sublist_append_right ..)
        exact this.map st
  · have : [(lfR 3 kn []).map st, chS w].map (rest []) = [(lfR 3 kn []).map st, chS w] := by
      have e : ∀ s, rest [] s = s := fun s => by
        unfold rest
        rw [List.filter_eq_self]
        intro a _; simp
      simp [e]
    rw [this]
end Pl
end
section
open PySem PySem.W PySem.Spec PySem.Calls PyProof.Rows PySem.Builtin.Str
namespace Pl
theorem st_len (r : Wd) : (st r).length = r.length := by simp [st, Str.length]
theorem slice_all {x : Str} {n : Nat} (h : x.length ≤ n) : Txt.slice x none (some (n : Int)) = x := by
  have e : (strSliceIndices none (some (n : Int)) 1 x.length).length = x.length := by
    unfold strSliceIndices sliceRange
    simp only [show (1 : Int) > 0 by decide, if_true, if_neg (show ¬ ((n : Int) < 0) from Int.not_lt.mpr (Int.natCast_nonneg n)), List.length_map, List.length_range]
    rw [show max 0 (min (n : Int) (x.length : Int)) = (x.length : Int) by rw [min_up, Nat.min_eq_right h]]
    split
    · rw [Int.sub_zero, Int.add_sub_cancel, Int.ediv_one, Int.toNat_natCast]
    · exact (int_npos (by assumption)).symm
  unfold Txt.slice
  rw [e]
  simp
theorem cut_st (n : Nat) (r : Wd) : cut n (st r) = st (r.drop (r.length - n)) := by
  unfold cut
  rcases Nat.lt_or_ge n r.length with h | h
  · have h1 := eq_of_beq (slice_closes_to (x := st r) (j := (n : Int)) ⟨Int.natCast_nonneg _, Int.ofNat_le.mpr (Nat.le_trans (Nat.le_of_lt h) (Nat.le_of_eq (st_len r).symm))⟩)
    rw [h1]
    show Str.mk _ = Str.mk _
    congr 1
    simp only [st, List.reverse_drop]
    simp
    congr 1
    rw [Nat.min_eq_left (Nat.le_of_lt h), Nat.sub_sub_self (Nat.le_of_lt h)]
  · rw [slice_all (by rw [st_len]; exact h), show r.length - n = 0 from Nat.sub_eq_zero_of_le h, List.drop_zero]
theorem cut_eq {w r : Wd} : (cut w.length (st r) == st w) = decide (w <:+ r) := by
  rw [cut_st]
  by_cases h : w <:+ r
  · rw [decide_eq_true h, ← List.suffix_iff_eq_drop.mp h]
    exact beq_self_eq_true _
  · rw [decide_eq_false h]
    refine beq_eq_false_iff_ne.mpr fun e => h ?_
    exact List.suffix_iff_eq_drop.mpr (st_inj e).symm
theorem row_st (rows : List Wd) (w : Wd) : auRow (rows.map st) (st w) = (rowR rows w).map st := by
  unfold auRow rowR
  rw [st_len, List.filter_map]
  have e : ((fun r => cut w.length r == st w) ∘ st) = fun r => decide (w <:+ r) := by
    funext r
    exact cut_eq
  rw [e]
  by_cases h : ∃ r ∈ rows, w <:+ r
  · rw [if_pos h, if_neg]
    obtain ⟨r, h1, h2⟩ := h
    intro q
    rw [List.map_eq_nil_iff, List.filter_eq_nil_iff] at q
    exact q r h1 (decide_eq_true h2)
  · rw [if_neg h, if_pos]
    · rw [List.map_append]; rfl
    · rw [List.map_eq_nil_iff, List.filter_eq_nil_iff]
      intro r h1 h2
      exact h ⟨r, h1, of_decide_eq_true h2⟩
theorem rows_st (ws : List Wd) : ∀ acc : List Wd, (ws.map st).foldl auRow (acc.map st) = (ws.foldl rowR acc).map st := by
  induction ws with
  | nil => intro acc; rfl
  | cons w ws ih =>
    intro acc
    rw [List.map_cons, List.foldl_cons, row_st, ih]
    rfl
/-- the sizes of a word downwards -/
theorem downs_succ (n : Nat) : downs (n + 1) = (n + 1) :: downs n := by
  unfold downs
  rw [List.range_succ_eq_map, List.map_cons, List.map_map]
  congr 1
  refine List.map_congr_left fun a _ => ?_
  simp
noncomputable def nl (rs : List Wd) (u : Wd) : Bool := decide (∀ r' ∈ rs, ¬ u <:+ r')
theorem auG_nl (r : Wd) (rs : List Wd) : auG (r :: rs) = (chain r).filter (nl rs) ++ auG rs := rfl
theorem told_one {rows : List Wd} {k : Nat} {r : Wd} (hr : rows[k]? = some r) : ∀ (t : Wd) (T : List Str), t <:+ r → (∀ u, u <:+ t → (∀ r' ∈ rows.drop (k + 1), ¬ u <:+ r') → st u ∉ T) →
    (downs t.length).foldl (auTold (rows.map st) k) T = T ++ ((chain t).filter (nl (rows.drop (k + 1)))).map st := by
  have step : ∀ (t : Wd) (T : List Str), t <:+ r → (∀ u, u <:+ t → (∀ r' ∈ rows.drop (k + 1), ¬ u <:+ r') → st u ∉ T) →
      auTold (rows.map st) k T t.length = if nl (rows.drop (k + 1)) t = true then T ++ [st t] else T := by
    intro t T hs hT
    unfold auTold
    have e1 : (rows.map st).getD k (Str.ofString "") = st r := by
      rw [List.getD_eq_getElem?_getD, List.getElem?_map, hr]; rfl
    have e2 : cut t.length (st r) = st t := eq_of_beq (cut_eq.trans (decide_eq_true hs))
    rw [e1]
    dsimp only
    rw [e2, ← List.map_drop, List.filter_map]
    have e : ((fun r' => cut t.length r' == st t) ∘ st) = fun r' => decide (t <:+ r') := by
      funext r'
      exact cut_eq
    rw [e]
    by_cases hl : ∀ r' ∈ rows.drop (k + 1), ¬ t <:+ r'
    · rw [if_pos (show nl _ t = true from decide_eq_true hl), if_pos]
      refine ⟨hT t (List.suffix_refl _) hl, ?_⟩
      rw [List.map_eq_nil_iff, List.filter_eq_nil_iff]
      intro r' h1 h2
      exact hl r' h1 (of_decide_eq_true h2)
    · rw [if_neg (show ¬ nl _ t = true from fun q => hl (of_decide_eq_true q)), if_neg]
      rintro ⟨_, q⟩
      rw [List.map_eq_nil_iff, List.filter_eq_nil_iff] at q
      exact hl fun r' h1 h2 => q r' h1 (decide_eq_true h2)
  intro t
  induction t with
  | nil =>
    intro T hs hT
    show auTold (rows.map st) k T ([] : Wd).length = _
    rw [step [] T hs hT, chain, List.filter_cons]
    by_cases hl : nl (rows.drop (k + 1)) [] = true
    · rw [if_pos hl, if_pos hl]; rfl
    · rw [if_neg hl, if_neg hl]; simp
  | cons a t ih =>
    intro T hs hT
    have hst : t <:+ r := (List.suffix_cons a t).trans hs
    rw [List.length_cons, downs_succ, List.foldl_cons]
    rw [show t.length + 1 = (a :: t).length from rfl, step (a :: t) T hs hT, chain, List.filter_cons]
    by_cases hl : nl (rows.drop (k + 1)) (a :: t) = true
    · rw [if_pos hl, if_pos hl, ih _ hst]
      · simp
      · intro u hu hl' hm
        rcases List.mem_append.mp hm with hm | hm
        · exact hT u (hu.trans (List.suffix_cons a t)) hl' hm
        · have := st_inj (List.mem_singleton.mp hm)
          rw [this] at hu
          have := hu.length_le
          simp at this
          omega
    · rw [if_neg hl, if_neg hl, ih _ hst]
      exact fun u hu hl' => hT u (hu.trans (List.suffix_cons a t)) hl'
theorem told_all (rows : List Wd) : ∀ (post pre : List Wd) (T : List Wd), rows = pre ++ post → (∀ u ∈ T, ¬ ∀ r' ∈ post, ¬ u <:+ r') ∨ (∀ u ∈ T, ∀ r' ∈ post, ¬ u <:+ r') →
    (List.range' pre.length post.length).foldl (auOne (rows.map st)) (T.map st) = (T ++ auG post).map st ∨ ¬ (∀ u ∈ T, ∀ r' ∈ post, ¬ u <:+ r') := by
  intro post
  induction post with
  | nil => intro pre T _ _; left; simp [auG]
  | cons r post ih =>
    intro pre T e _
    by_cases hT : ∀ u ∈ T, ∀ r' ∈ r :: post, ¬ u <:+ r'
    · left
      have hr : rows[pre.length]? = some r := by rw [e]; simp
      have hd : rows.drop (pre.length + 1) = post := by rw [e]; simp
      rw [List.length_cons, List.range'_succ, List.foldl_cons]
      have e1 : auOne (rows.map st) (T.map st) pre.length = (T ++ (chain r).filter (nl post)).map st := by
        unfold auOne
        have e2 : (rows.map st).getD pre.length (Str.ofString "") = st r := by
          rw [List.getD_eq_getElem?_getD, List.getElem?_map, hr]; rfl
        rw [e2, st_len, told_one hr r _ (List.suffix_refl _), hd, List.map_append]
        intro u hu _ hm
        exact hT u (mem_st hm) r (List.mem_cons_self ..) hu
      rw [e1]
      have hT2 : ∀ u ∈ T ++ (chain r).filter (nl post), ∀ r' ∈ post, ¬ u <:+ r' := by
        intro u hu
        rcases List.mem_append.mp hu with hu | hu
        · exact fun r' h => hT u hu r' (List.mem_cons_of_mem _ h)
        · exact of_decide_eq_true (List.mem_filter.mp hu).2
      have := ih (pre ++ [r]) _ (by rw [e]; simp) (.inr hT2)
      rw [List.length_append, List.length_singleton] at this
      rcases this with h | h
      · rw [h, auG_nl, List.append_assoc]
      · exact absurd hT2 h
    · right; exact hT
theorem au_st (ws : List Wd) : auOf (ws.map st) = (auW ws).map st := by
  have h1 : auRows (ws.map st) = (ws.foldl rowR []).map st := rows_st ws []
  unfold auOf auW
  rw [h1, List.length_map, List.range_eq_range']
  rcases told_all (ws.foldl rowR []) (ws.foldl rowR []) [] [] rfl (.inr fun u h => by cases h) with h | h
  · simpa using h
  · exact absurd (fun u h => by cases h) h
theorem next_st (x o : Wd) : isNext (st x) (st o) = kid x o := by
  unfold isNext
  rw [st_len, st_len]
  have := cut_eq (w := x) (r := o)
  unfold cut at this
  rw [this]
  cases o with
  | nil => simp [kid]
  | cons a t =>
    show _ = decide (t = x)
    rw [List.length_cons]
    by_cases h : t = x
    · subst h
      simp
    · rw [decide_eq_false h]
      rw [Bool.and_eq_false_iff]
      by_cases hl : t.length = x.length
      · right
        refine decide_eq_false fun q => h ?_
        rcases List.suffix_cons_iff.mp q with e | q
        · rw [e] at hl; simp at hl
        · exact (q.eq_of_length hl.symm).symm
      · left
        simpa using hl
theorem lf_st (kn : List Wd) : ∀ (f : Nat) (x : Wd), lf f (kn.map st) (st x) = (lfR f kn x).map st
  | 0, x => rfl
  | f + 1, x => by
    rw [lfR_succ, List.map_append]
    show (kn.map st).flatMap _ ++ [st x] = _
    congr 1
    have : ∀ l : List Wd, (l.map st).flatMap (fun o => if isNext (st x) o = true then lf f (kn.map st) o else []) = (l.flatMap fun o => if kid x o = true then lfR f kn o else []).map st := by
      intro l
      induction l with
      | nil => rfl
      | cons o l ih =>
        rw [List.map_cons, List.flatMap_cons, List.flatMap_cons, List.map_append, ih, next_st]
        congr 1
        by_cases h : kid x o = true
        · rw [if_pos h, if_pos h, lf_st kn f o]
        · rw [if_neg h, if_neg h]; rfl
    exact this kn
/-- what one word adds to what is known -/
noncomputable def upTo (w : Wd) : List Str := (List.range (w.length + 1)).map fun n => cut n (st w)
theorem chS_downs (w : Wd) : chS w = (downs w.length).map fun n => cut n (st w) := by
  have key : ∀ t : Wd, t <:+ w → (chain t).map st = (downs t.length).map fun n => cut n (st w) := by
    intro t
    induction t with
    | nil =>
      intro _
      show [st []] = [cut 0 (st w)]
      rw [cut_st]
      simp
    | cons a t ih =>
      intro h
      rw [chain, List.map_cons, List.length_cons, downs_succ, List.map_cons, ih ((List.suffix_cons a t).trans h)]
      congr 1
      exact (eq_of_beq (cut_eq.trans (decide_eq_true h))).symm
  exact key w (List.suffix_refl _)
theorem range_downs (n : Nat) : List.range (n + 1) = (downs n).reverse := by
  induction n with
  | zero => rfl
  | succ n ih => rw [List.range_succ, ih, downs_succ, List.reverse_cons]
theorem upTo_chS (w : Wd) : upTo w = (chS w).reverse := by
  unfold upTo
  rw [range_downs, chS_downs, ← List.map_reverse]
theorem known_st (kn : List Wd) (w : Wd) : kn.map st ++ (upTo w).filter (fun y => decide (y ∉ kn.map st)) = (knAdd kn w).map st := by
  unfold knAdd
  rw [List.map_append]
  congr 1
  rw [upTo_chS]
  unfold chS newOf
  rw [← List.map_reverse, List.filter_map]
  have e : ((fun y => decide (y ∉ kn.map st)) ∘ st) = fun x => decide (x ∉ kn) := by
    funext x
    show decide (st x ∉ kn.map st) = _
    by_cases h : x ∈ kn
    · rw [decide_eq_false (fun q => q (List.mem_map_of_mem h)), decide_eq_false (fun q => q h)]
    · rw [decide_eq_true (mem_sf h), decide_eq_true h]
  rw [e, List.filter_reverse]
end Pl
end
section
open PySem PySem.W PySem.Spec PySem.Calls PyProof.Rows PySem.Builtin.Str
namespace Pl
theorem newOf_nil (w : Wd) : newOf [] w = chain w := by
  unfold newOf
  rw [List.filter_eq_self]
  intro a _; simp
theorem newOf_one (w : Wd) : chain w = newOf [[]] w ++ [[]] := by
  induction w with
  | nil => rfl
  | cons a t ih =>
    unfold newOf at ih ⊢
    rw [chain, List.filter_cons, if_pos (by simp), List.cons_append, ← ih]
theorem knAdd_nil (w : Wd) : knAdd [] w = knAdd [[]] w := by
  unfold knAdd
  rw [newOf_nil, newOf_one]
  simp
theorem inv_one {w : Wd} (hw : w.length ≤ 3) : Inv (knAdd [] w) := by
  rw [knAdd_nil]
  exact (inv_step inv0 hw).1
theorem tld_one {w : Wd} (hw : w.length ≤ 3) : lfR 3 (knAdd [] w) [] = chain w := by
  obtain ⟨u, S⟩ := seg_of inv0.cl inv0.nd inv0.nil w
  obtain ⟨P, R, e1, e2⟩ := (lf_ins S hw inv0.le 3 [] inv0.nil (by simp)).2 (List.nil_suffix)
  have hu : u = [] := by simpa using S.uin
  subst hu
  have e0 : lfR 3 [[]] ([] : Wd) = [[]] := by decide
  rw [e0] at e1
  have hP : P = [] := by
    cases P with
    | nil => rfl
    | cons a P => have := congrArg List.length e1; simp at this
  subst hP
  have hR : R = [] := by
    have := congrArg List.length e1
    simp at this
    exact this
  subst hR
  rw [knAdd_nil]
  show lfR 3 ([[]] ++ (newOf [[]] w).reverse) [] = _
  rw [e2, List.nil_append, ← S.eq.symm]
  simp [chain]
theorem c3_one (w : Wd) (k : Nat) (hk : (chain w).length < k) : c3 k [[], chS w] [] = some (some (chS w)) := by
  refine c3_run (L := [[], chS w]) (O := chS w) (nodup_st (chain_nodup w)) ?_ ?_ ?_ (chS w) [] _ k rfl ?_ (by unfold chS; rw [List.length_map]; exact hk)
  · intro s hs
    rcases List.mem_cons.mp hs with rfl | hs
    · exact List.nil_sublist _
    · rw [List.mem_singleton.mp hs]; exact List.Sublist.refl _
  · intro c hc
    exact ⟨_, List.mem_cons_of_mem _ (List.mem_cons_self ..), hc⟩
  · intro T c T' hO L1 s L2 hL hL1 hcs h hhs hhT
    cases L1 with
    | nil =>
      rw [List.nil_append] at hL
      obtain rfl := (List.cons.inj hL).1
      cases hhs
    | cons s1 L1 =>
      exfalso
      rw [List.cons_append] at hL
      obtain ⟨rfl, e⟩ := List.cons.inj hL
      cases L1 with
      | nil =>
        rw [List.nil_append] at e
        obtain rfl := (List.cons.inj e).1
        exact hcs (hO ▸ List.mem_append_right _ (List.mem_cons_self ..))
      | cons s2 L1 =>
        have := congrArg List.length e
        simp at this
  · have e : ∀ s, rest [] s = s := fun s => by
      unfold rest
      rw [List.filter_eq_self]
      intro a _; simp
    simp [e]
theorem knOf_inv : ∀ (ws : List Wd) (kn : List Wd), Inv kn → (∀ w ∈ ws, w.length ≤ 3) → Inv (ws.foldl knAdd kn)
  | [], _, I, _ => I
  | w :: ws, kn, I, h => knOf_inv ws _ (inv_step I (h w (List.mem_cons_self ..))).1 fun x hx => h x (List.mem_cons_of_mem _ hx)
theorem known_inv {ws : List Wd} (hne : ws ≠ []) (h : ∀ w ∈ ws, w.length ≤ 3) : Inv (knOf ws) := by
  cases ws with
  | nil => exact absurd rfl hne
  | cons w ws => exact knOf_inv ws _ (inv_one (h w (List.mem_cons_self ..))) fun x hx => h x (List.mem_cons_of_mem _ hx)
theorem knOf_snoc (ws : List Wd) (w : Wd) : knOf (ws ++ [w]) = knAdd (knOf ws) w := by
  unfold knOf
  rw [List.foldl_append]
  rfl
theorem tld_one' {w : Wd} (hw : w.length ≤ 3) : tld [w] = chain w := by
  unfold tld
  rw [if_neg (by simp)]
  exact tld_one hw
/-- one merge more -/
theorem tld_step {ws : List Wd} {w : Wd} (h : ∀ x ∈ ws, x.length ≤ 3) (hw : w.length ≤ 3) : ∃ k, c3 k [(tld ws).map st, chS w] [] = some (some ((tld (ws ++ [w])).map st)) := by
  by_cases hne : ws = []
  · subst hne
    rw [List.nil_append, tld_one' hw]
    exact ⟨_, c3_one w _ (Nat.lt_succ_self _)⟩
  · have e : tld (ws ++ [w]) = lfR 3 (knAdd (knOf ws) w) [] := by
      unfold tld
      rw [if_neg (by simp), knOf_snoc]
    have e' : tld ws = lfR 3 (knOf ws) [] := if_neg hne
    rw [e, e']
    exact ⟨_, (inv_step (known_inv hne h) hw).2 _ (Nat.lt_succ_self _)⟩
theorem nodup_le {α : Type} : ∀ {l m : List α}, l.Nodup → (∀ x ∈ l, x ∈ m) → l.length ≤ m.length
  | [], _, _, _ => Nat.zero_le _
  | x :: l, m, nd, h => by
    obtain ⟨A, B, rfl⟩ := List.append_of_mem (h x (List.mem_cons_self ..))
    obtain ⟨n1, n2⟩ := List.nodup_cons.mp nd
    have : l.length ≤ (A ++ B).length := nodup_le n2 fun y hy => by
      rcases List.mem_append.mp (h y (List.mem_cons_of_mem _ hy)) with z | z
      · exact List.mem_append_left _ z
      · rcases List.mem_cons.mp z with rfl | z
        · exact absurd hy n1
        · exact List.mem_append_right _ z
    rw [List.length_append] at this ⊢
    exact Nat.succ_le_succ this
/-- the words of the law: no longer than three, of A, B and C -/
noncomputable def Good (w : Wd) : Prop := w.length ≤ 3 ∧ ∀ c ∈ w, c = 65 ∨ c = 66 ∨ c = 67
theorem Good.suf {u w : Wd} (h : Good w) (hs : u <:+ w) : Good u := ⟨Nat.le_trans hs.length_le h.1, fun c hc => h.2 c (hs.subset hc)⟩
theorem good40 {w : Wd} (h : Good w) : st w ∈ W40 := by
  obtain ⟨hl, hc⟩ := h
  match w, hl, hc with
  | [], _, _ => decide +kernel
  | [a], _, hc =>
    rcases hc a (by simp) with rfl | rfl | rfl <;> decide +kernel
  | [a, b], _, hc =>
    rcases hc a (by simp) with rfl | rfl | rfl <;> rcases hc b (by simp) with rfl | rfl | rfl <;> decide +kernel
  | [a, b, c], _, hc =>
    rcases hc a (by simp) with rfl | rfl | rfl <;> rcases hc b (by simp) with rfl | rfl | rfl <;> rcases hc c (by simp) with rfl | rfl | rfl <;> decide +kernel
  | _ :: _ :: _ :: _ :: _, hl, _ => simp at hl
theorem chS40 {w : Wd} (h : Good w) : ∀ x ∈ chS w, x ∈ W40 := by
  intro x hx
  obtain ⟨u, hu, rfl⟩ := List.mem_map.mp hx
  exact good40 (h.suf (mem_chain.mp hu))
theorem knOf_good : ∀ (ws : List Wd) (kn : List Wd), (∀ x ∈ kn, Good x) → (∀ w ∈ ws, Good w) → ∀ x ∈ ws.foldl knAdd kn, Good x
  | [], _, h, _ => h
  | w :: ws, kn, h, hw => knOf_good ws _ (fun x hx => by
      rcases List.mem_append.mp hx with hx | hx
      · exact h x hx
      · exact (hw w (List.mem_cons_self ..)).suf (mem_chain.mp (List.mem_filter.mp (List.mem_reverse.mp hx)).1)) fun x hx => hw x (List.mem_cons_of_mem _ hx)
theorem knOf_len : ∀ (ws : List Wd) (kn : List Wd), (∀ w ∈ ws, Good w) → (ws.foldl knAdd kn).length ≤ kn.length + 4 * ws.length
  | [], _, _ => Nat.le_refl _
  | w :: ws, kn, hw => by
    have h1 := knOf_len ws (knAdd kn w) fun x hx => hw x (List.mem_cons_of_mem _ hx)
    have h2 : (knAdd kn w).length ≤ kn.length + 4 := by
      unfold knAdd newOf
      have h3 := List.length_filter_le (fun x => decide (x ∉ kn)) (chain w)
      have h4 := (hw w (List.mem_cons_self ..)).1
      rw [chain_len] at h3
      rw [List.length_append, List.length_reverse]
      exact Nat.add_le_add_left (Nat.le_trans h3 (Nat.succ_le_succ h4)) _
    simp only [List.foldl_cons, List.length_cons]
    exact acc_k h1 h2
theorem tld_good {ws : List Wd} (h : ∀ w ∈ ws, Good w) : (tld ws).length ≤ 4 * ws.length ∧ ∀ x ∈ (tld ws).map st, x ∈ W40 := by
  by_cases hne : ws = []
  · subst hne
    exact ⟨Nat.le_refl _, fun x hx => by cases hx⟩
  · have e' : tld ws = lfR 3 (knOf ws) [] := if_neg hne
    have I := known_inv hne fun w hw => (h w hw).1
    rw [e']
    refine ⟨Nat.le_trans (nodup_le I.tnd I.tin) ?_, fun x hx => ?_⟩
    · have := knOf_len ws [] h
      simpa [knOf] using this
    · obtain ⟨u, hu, rfl⟩ := List.mem_map.mp hx
      exact good40 (knOf_good ws [] (fun x hx => by cases hx) h u (I.tin u hu))
theorem auW_good {ws : List Wd} (h : ∀ w ∈ ws, Good w) : ∀ x ∈ (auW ws).map st, x ∈ W40 := by
  intro x hx
  obtain ⟨u, hu, rfl⟩ := List.mem_map.mp hx
  obtain ⟨r, hr, hur⟩ := auG_mem hu
  obtain ⟨S, h1, h2, _⟩ := rowR_spec ws []
  exact good40 ((h r (h2 r (by rw [h1] at hr; simpa using hr))).suf hur)
theorem auG_len (rows : List Wd) (h : ∀ w ∈ rows, Good w) : (auG rows).length ≤ 4 * rows.length := by
  induction rows with
  | nil => exact Nat.le_refl _
  | cons r rs ih =>
    have := ih fun w hw => h w (List.mem_cons_of_mem _ hw)
    have h3 := List.length_filter_le (fun u => decide (∀ r' ∈ rs, ¬ u <:+ r')) (chain r)
    have h4 := (h r (List.mem_cons_self ..)).1
    rw [chain_len] at h3
    rw [auG, List.length_append, List.length_cons, Nat.mul_succ]
    exact add2 (Nat.le_trans h3 (Nat.succ_le_succ h4)) this
theorem sum_chS {ws : List Wd} (h : ∀ w ∈ ws, Good w) : ((ws.map chS).map List.length).sum ≤ 4 * ws.length := by
  induction ws with
  | nil => exact Nat.le_refl _
  | cons w ws ih =>
    have h1 := ih fun x hx => h x (List.mem_cons_of_mem _ hx)
    have h2 : (chS w).length ≤ 4 := by
      unfold chS
      rw [List.length_map, chain_len]
      have := (h w (List.mem_cons_self ..)).1
      exact Nat.succ_le_succ this
    simp only [List.map_cons, List.sum_cons, List.length_cons] at h1 ⊢
    rw [Nat.mul_succ]
    exact add2 h2 h1
/-- a row more, of the empty word and then the tenth's: it raises -/
theorem pick_spec {all : List (List Str)} {c : Str} : ∀ {l : List (List Str)}, pick all l = some c → (∃ s ∈ l, s.headD Str.empty = c) ∧ blocked all c = false
  | s :: l, h => by
    rw [pick_cons] at h
    by_cases hb : blocked all (s.headD Str.empty) = true
    · rw [if_pos hb] at h
      obtain ⟨⟨x, hx, e⟩, h2⟩ := pick_spec h
      exact ⟨⟨x, List.mem_cons_of_mem _ hx, e⟩, h2⟩
    · rw [if_neg hb] at h
      cases h
      exact ⟨⟨s, List.mem_cons_self .., rfl⟩, by simpa using hb⟩
theorem sum_ne (l : List (List Str)) : ((l.filter some1).map (·.length)).sum = (l.map (·.length)).sum := by
  induction l with
  | nil => rfl
  | cons s l ih =>
    rw [List.filter_cons]
    cases s with
    | nil => simpa [some1] using ih
    | cons a s => simpa [some1] using ih
theorem raises (x y : Str) (hxy : x ≠ y) (mid : List Str) (hy : y ∈ mid) : ∀ (k : Nat) (cur : List (List Str)) (res : List Str), (cur.map (·.length)).sum < k → (x :: mid) ∈ cur → [y, x] ∈ cur → c3 k cur res = some none
  | 0, _, _, h, _, _ => absurd h (Nat.not_lt_zero _)
  | k + 1, cur, res, h, hA, hZ => by
    have hA' : (x :: mid) ∈ cur.filter some1 := List.mem_filter.mpr ⟨hA, rfl⟩
    have hZ' : [y, x] ∈ cur.filter some1 := List.mem_filter.mpr ⟨hZ, rfl⟩
    have hne : cur.filter (fun s => !s.isEmpty) = cur.filter some1 := rfl
    unfold c3
    rw [hne]
    cases hS : cur.filter some1 with
    | nil => rw [hS] at hA'; cases hA'
    | cons a r =>
      dsimp only
      rw [← hS]
      cases hp : pick (cur.filter some1) (cur.filter some1) with
      | none => rfl
      | some c =>
        dsimp only
        obtain ⟨⟨s, hs, hc⟩, hb⟩ := pick_spec hp
        have bl : ∀ s ∈ cur.filter some1, c ∉ s.tail := fun s hs hm => by
          rw [Bool.eq_false_iff] at hb
          exact hb (List.any_eq_true.mpr ⟨s, hs, List.any_eq_true.mpr ⟨c, hm, beq_self_eq_true c⟩⟩)
        have hcx : x ≠ c := fun e => bl _ hZ' (by rw [← e]; exact List.mem_cons_self ..)
        have hcy : y ≠ c := fun e => bl _ hA' (by rw [← e]; exact hy)
        have pA : popc c (x :: mid) = x :: mid := by
          show (if (x == c) = true then mid else x :: mid) = _
          rw [if_neg (by simpa using hcx)]
        have pZ : popc c [y, x] = [y, x] := by
          show (if (y == c) = true then [x] else [y, x]) = _
          rw [if_neg (by simpa using hcy)]
        refine raises x y hxy mid hy k _ _ ?_ (pA ▸ List.mem_map_of_mem hA') (pZ ▸ List.mem_map_of_mem hZ')
        have hs2 := (List.mem_filter.mp hs).2
        cases s with
        | nil => cases hs2
        | cons z t =>
          have hz : z = c := hc
          subst hz
          obtain ⟨i, hi⟩ := List.getElem?_of_mem hs
          have := sum_popc z hi
          rw [sum_ne] at this
          omega
end Pl
end
section
open PySem PySem.W PySem.Spec PySem.Calls PyProof.Rows
noncomputable def lawBody : List Stmt := match stAt 40 with
  | .FunctionDef _ _ body .. => body
  | _ => []
noncomputable def lawAt (k : Nat) : Stmt := nth lawBody k
noncomputable def lawScope : Scope := match stAt 40 with
  | .FunctionDef _ _ _ _ _ _ scope .. => scope
  | _ => default
noncomputable def lawEnv (L fa : Addr) : Env := envOfC (Str.ofString "law") lawScope L fa (.ref 813)
noncomputable def lawA (L fa : Addr) : Around := callerA.deeper (lawEnv L fa)
end
section
open PySem PySem.W PySem.Spec PySem.Calls PyProof.Rows
theorem seg0 : ∀ {w : World} {p : Program} {loose : List Str} {mean : ExcName → Option Value} {mg mb : Str → Option Value}
  {A₀ : Around} {base h₀ : Heap} {L fa : Addr} {m : Fm} {s : Shared} {Q : Flow → Shared → Prop} {E : Value → Shared → Prop}
  (lst : Addr) (vs : List Value) (ns : List Int) (led : List Ent)
  (B : Below A₀ base [] h₀) (F : Fr h₀ L s.heap m) (X : (KK w.params).In h₀) (N : News h₀ L s.heap (led)) (T : Top p loose mean mg mb h₀)
  (hm1 : m (Str.ofString "script") = some (.ref lst)) (hl : h₀.IsList lst vs.toArray) (hi : IntsAre vs ns) (hn : ns.length ≤ 63)
  (ret : ∀ (R : Nat) (c : Nat) (nums : List Num) (z : Num) s', nums.length = 9 → (∀ n ∈ nums, n.Good) → z.Good → z.fs = [1, 1] → (∀ q ∈ led, q.1 < R) → Fr h₀ L s'.heap (fun y => if y = Str.ofString "numbers" then some (.ref R) else m y) → News h₀ L s'.heap ((R, listOf ((nums ++ [z]).map fun n => Value.ref n.ra).toArray c) :: ((nums ++ [z]).flatMap Num.ents ++ led)) → Ok s s' → Q .next s'),
  wpAny (model PySem.Challenge.rw_ik0072_01.row.toRowW.prog w) (lawA L fa) (exec (lawAt 0) (lawEnv L fa)) Q E s := by
  k_fill
  intro w p loose mean mg mb A₀ base h₀ L fa m s Q E lst vs ns led B F X N T hm1 hl hi hn ret
  unfold lawA lawEnv
  generalize hsc : lawScope = sc
  generalize hst : lawAt 0 = stm
  conv at hsc => lhs; whnf
  conv at hst => lhs; whnf
  subst hsc
  subst hst
  obtain ⟨u, hu⟩ : ∃ u : Fm, m = fun z => if z = Str.ofString "script" then some (.ref lst) else u z := ⟨m, by
    funext z
    by_cases h1 : z = Str.ofString "script"
    · rw [h1, if_pos rfl]; exact hm1
    · rw [if_neg h1]⟩
  subst hu
  repeat' ((fail_if_success (first | (with_reducible show wpAny _ _ (exec (Stmt.While _ _ _ _) _) _ _ _) | (with_reducible show wpAny _ _ (exec (Stmt.For _ _ _ _ _) _) _ _ _) | (with_reducible show wpAny _ _ (exec (Stmt.Assign _ (Expr.ListComp _ _ _ _) _) _) _ _ _) | (with_reducible show wpAny _ _ (eval (Expr.ListComp _ _ _ _) _) _ _ _) | (with_reducible show wpAny _ _ (pyIter _) _ _ _) | (with_reducible show wpAny _ _ (call (Value.ref _) _ _) _ _ _) | (with_reducible show Exists _) | (with_reducible show TurnEnd _ _ _ _ _ _ _ _ _) | (with_reducible show ForSrc _ _ _ _ _ _ _ _ _ _ _))); tb_rel)
  refine c_nb lst vs ns led B F X N T rfl rfl rfl rfl (Nat.le_of_ble_eq_true rfl) (Nat.le_of_ble_eq_true rfl) hl hi hn (fun R c nums z s' h1 h2 h3 h4 h5 F₁ N₁ ok₁ => ?_)
  repeat' ((fail_if_success (first | (with_reducible show wpAny _ _ (exec (Stmt.While _ _ _ _) _) _ _ _) | (with_reducible show wpAny _ _ (exec (Stmt.For _ _ _ _ _) _) _ _ _) | (with_reducible show wpAny _ _ (exec (Stmt.Assign _ (Expr.ListComp _ _ _ _) _) _) _ _ _) | (with_reducible show wpAny _ _ (eval (Expr.ListComp _ _ _ _) _) _ _ _) | (with_reducible show wpAny _ _ (pyIter _) _ _ _) | (with_reducible show wpAny _ _ (call (Value.ref _) _ _) _ _ _) | (with_reducible show Exists _) | (with_reducible show TurnEnd _ _ _ _ _ _ _ _ _) | (with_reducible show ForSrc _ _ _ _ _ _ _ _ _ _ _))); tb_rel)
  rename Fr h₀ L _ _ => F₂
  rename News h₀ L _ _ => N₂
  exact ret R c nums z _ h1 h2 h3 h4 h5 F₂ N₂ ⟨ok₁.os, ok₁.gens⟩
end
section
open PySem PySem.W PySem.Spec PySem.Calls PyProof.Rows
/-- the word that the figures tell, last letter first -/
noncomputable def wdOf (fs : List Nat) : Pl.Wd := (fs.map (65 + ·)).reverse
noncomputable def wordOf (fs : List Nat) : Str := Pl.st (wdOf fs)
noncomputable def letterOf (f : Nat) : Str := ⟨#[65 + f]⟩
theorem join_letters {fs : List Nat} (hl : fs.length ≤ 3) (hb : ∀ f ∈ fs, f ≤ 2) : Txt.join (Str.ofString "") (fs.map letterOf) = wordOf fs := by
  have c3 := @le_two
  match fs, hl, hb with
  | [], _, _ => decide +kernel
  | [a], _, hb =>
    rcases c3 (hb a (by simp)) with rfl | rfl | rfl <;> decide +kernel
  | [a, b], _, hb =>
    rcases c3 (hb a (by simp)) with rfl | rfl | rfl <;> rcases c3 (hb b (by simp)) with rfl | rfl | rfl <;> decide +kernel
  | [a, b, c], _, hb =>
    rcases c3 (hb a (by simp)) with rfl | rfl | rfl <;> rcases c3 (hb b (by simp)) with rfl | rfl | rfl <;> rcases c3 (hb c (by simp)) with rfl | rfl | rfl <;> decide +kernel
  | _ :: _ :: _ :: _ :: _, hl, _ => simp at hl
section
variable {prog : Program} {w : World} {A : Around} {E : Value → Shared → Prop} {s : Shared} {h₀ : Heap} {L : Addr} {m : Fm} {env : Env}
theorem st_name {x : Str} {scope : Scope} {cl : List (Str × Addr)} {I C D : Addr} {oI oC oD : Obj} {mC : Fm} {v : Value} {led : List Ent} {Q : Unit → Shared → Prop} (hx : scope.names.lookup x = some .local) (hkind : scope.kind = .function)
    (F : Fr h₀ L s.heap m) (N : News h₀ L s.heap ((I, oI) :: (C, oC) :: (D, oD) :: led)) (hC : LCg.NsObj oC mC) (ne : (@Ne Nat I C) ∧ (@Ne Nat I D) ∧ (@Ne Nat C D)) (off : LCg.Off3 I C D led)
    (h : ∀ oC' m₂ h' tk, LCg.NsObj oC' m₂ → m₂ x = some v → (∀ z, z ≠ x → m₂ z = mC z) → Fr h₀ L h' m → News h₀ L h' ((I, oI) :: (C, oC') :: (D, oD) :: led) → Q () { s with heap := h', toks := tk }) :
    wpAny (model prog w) A (storeName (compEnvC scope cl C env) x v) Q E s := by
  have zC := N (C, oC) (List.mem_cons_of_mem _ (List.mem_cons_self ..))
  refine wpAny_storeName_local (lookup_relabel_local hx) (hC.ns zC.1) (fun h₃ hn₃ hs₃ => ?_) (by simp [compEnvC, relabel, hkind])
  obtain ⟨oC', heC, hoC⟩ := LCg.ns_obj hn₃
  have o3 := off.mem
  refine h oC' _ h₃ _ hoC (if_pos rfl) (fun z hz => if_neg hz) (F.change hs₃ zC.2.1 zC.2.2) fun p hp => ?_
  rcases List.mem_cons.mp hp with rfl | hp
  · have z := N (I, oI) (List.mem_cons_self ..)
    exact ⟨hs₃.extBut _ _ ne.1 z.1, z.2⟩
  · rcases List.mem_cons.mp hp with rfl | hp
    · exact ⟨heC, zC.2⟩
    · have z := N p (List.mem_cons_of_mem _ (List.mem_cons_of_mem _ hp))
      refine ⟨hs₃.extBut _ _ ?_ z.1, z.2⟩
      rcases List.mem_cons.mp hp with rfl | hp
      · exact Ne.symm ne.2.2
      · exact (o3 p hp).2.1
end
theorem form1 {m : Fm} {x : Str} {a : Value} (h1 : m x = some a) : ∃ u : Fm, m = fun z => if z = x then some a else u z := ⟨m, by
  funext z
  by_cases e : z = x
  · rw [e, if_pos rfl]; exact h1
  · rw [if_neg e]⟩
theorem good_wd {fs : List Nat} (hl : fs.length ≤ 3) (hb : ∀ f ∈ fs, f ≤ 2) : Pl.Good (wdOf fs) := by
  refine ⟨by simp [wdOf]; exact hl, fun c hc => ?_⟩
  obtain ⟨f, hf, rfl⟩ := List.mem_map.mp (List.mem_reverse.mp hc)
  rcases le_two (hb f hf) with rfl | rfl | rfl
  · exact .inl rfl
  · exact .inr (.inl rfl)
  · exact .inr (.inr rfl)
theorem seg1 : ∀ {w : World} {p : Program} {loose : List Str} {mean : ExcName → Option Value} {mg mb : Str → Option Value}
  {A₀ : Around} {base h₀ : Heap} {L fa : Addr} {m : Fm} {s : Shared} {Q : Flow → Shared → Prop} {E : Value → Shared → Prop}
  (R : Addr) (c : Nat) (nums : List Num) (led : List Ent)
  (B : Below A₀ base [] h₀) (F : Fr h₀ L s.heap m) (X : (KK w.params).In h₀) (N : News h₀ L s.heap (led)) (T : Top p loose mean mg mb h₀)
  (hm1 : m (Str.ofString "numbers") = some (.ref R)) (hn : nums.length ≤ 1000) (hg : ∀ n ∈ nums, n.Good) (hR : (R, listOf (nums.map fun n => Value.ref n.ra).toArray c) ∈ led) (hE : ∀ n ∈ nums, ∀ p ∈ n.ents, p ∈ led)
  (ret : ∀ (W : Addr) vs k s', StrsAre vs (nums.map fun n => wordOf n.fs) → (∀ q ∈ led, q.1 < W) → Fr h₀ L s'.heap (fun y => if y = Str.ofString "words" then some (.ref W) else m y) → News h₀ L s'.heap ((W, listOf vs.toArray k) :: led) → Ok s s' → Q .next s'),
  wpAny (model PySem.Challenge.rw_ik0072_01.row.toRowW.prog w) (lawA L fa) (exec (lawAt 1) (lawEnv L fa)) Q E s := by
  k_fill
  intro w p loose mean mg mb A₀ base h₀ L fa m s Q E R c nums led B F X N T hm1 hn hg hR hE ret
  unfold lawA lawEnv
  generalize hsc : lawScope = sc
  generalize hst : lawAt 1 = stm
  conv at hsc => lhs; whnf
  conv at hst => lhs; whnf
  subst hsc
  subst hst
  obtain ⟨u, hu⟩ := form1 hm1
  subst hu
  repeat' ((fail_if_success (first | (with_reducible show wpAny _ _ (exec (Stmt.While _ _ _ _) _) _ _ _) | (with_reducible show wpAny _ _ (exec (Stmt.For _ _ _ _ _) _) _ _ _) | (with_reducible show wpAny _ _ (exec (Stmt.Assign _ (Expr.ListComp _ _ _ _) _) _) _ _ _) | (with_reducible show wpAny _ _ (eval (Expr.ListComp _ _ _ _) _) _ _ _) | (with_reducible show wpAny _ _ (pyIter _) _ _ _) | (with_reducible show wpAny _ _ (call (Value.ref _) _ _) _ _ _) | (with_reducible show wpAny _ _ (call (Value.builtin "str.join") _ _) _ _ _) | (with_reducible show wpAny _ _ (subscriptTail _ _ (Value.ref _) _) _ _ _) | (with_reducible show wpAny _ _ (subscriptTail _ _ (Value.str _ _) (Value.int _ _)) _ _ _) | (with_reducible show wpAny _ _ (storeName _ (Str.ofString "sign") _) _ _ _) | (with_reducible show wpAny _ _ (storeName _ (Str.ofString "figures") _) _ _ _) | (with_reducible show CmEnd _ _ _ _ _ _ _ _ _ _ _ _) | (with_reducible show Exists _) | (with_reducible show TurnEnd _ _ _ _ _ _ _ _ _) | (with_reducible show ForSrc _ _ _ _ _ _ _ _ _ _ _))); tb_rel)
  refine cx_assign (fun _ => []) (fun _ => []) F rfl rfl rfl (fun _ => rfl) (fun _ _ h => nomatch h) rfl (by decide) rfl rfl ?_
  repeat' ((fail_if_success (first | (with_reducible show wpAny _ _ (exec (Stmt.While _ _ _ _) _) _ _ _) | (with_reducible show wpAny _ _ (exec (Stmt.For _ _ _ _ _) _) _ _ _) | (with_reducible show wpAny _ _ (exec (Stmt.Assign _ (Expr.ListComp _ _ _ _) _) _) _ _ _) | (with_reducible show wpAny _ _ (eval (Expr.ListComp _ _ _ _) _) _ _ _) | (with_reducible show wpAny _ _ (pyIter _) _ _ _) | (with_reducible show wpAny _ _ (call (Value.ref _) _ _) _ _ _) | (with_reducible show wpAny _ _ (call (Value.builtin "str.join") _ _) _ _ _) | (with_reducible show wpAny _ _ (subscriptTail _ _ (Value.ref _) _) _ _ _) | (with_reducible show wpAny _ _ (subscriptTail _ _ (Value.str _ _) (Value.int _ _)) _ _ _) | (with_reducible show wpAny _ _ (storeName _ (Str.ofString "sign") _) _ _ _) | (with_reducible show wpAny _ _ (storeName _ (Str.ofString "figures") _) _ _ _) | (with_reducible show CmEnd _ _ _ _ _ _ _ _ _ _ _ _) | (with_reducible show Exists _) | (with_reducible show TurnEnd _ _ _ _ _ _ _ _ _) | (with_reducible show ForSrc _ _ _ _ _ _ _ _ _ _ _))); tb_rel)
  refine cx_list (vs := nums.map fun n => Value.ref n.ra) (fun _ i ys led' => led' = led ∧ StrsAre ys ((nums.take i).map fun n => wordOf n.fs)) rfl F N (.inr ⟨_, hR, rfl, _, rfl⟩) (by rw [List.length_map]; exact lel (by assumption) (by rfl)) (fun I C D s₃ ok₀ lt1 lt2 => ⟨⟨rfl, .nil⟩, ?_, ?_⟩)
  · rintro i ys led' v s₁ oI oC mC E' hi hv ⟨rfl, hys⟩ hC ok₁ F₁ N₁ off ne hS
    obtain ⟨n, hn9, rfl⟩ : ∃ n, nums[i]? = some n ∧ v = Value.ref n.ra := by
      rw [List.getElem?_map] at hv
      obtain ⟨n, h1, h2⟩ := Option.map_eq_some_iff.mp hv
      exact ⟨n, h1, h2.symm⟩
    have hnm := List.mem_of_getElem? hn9
    have hra := hE n hnm _ (List.mem_cons_self ..)
    have hfa := hE n hnm _ (List.mem_cons_of_mem _ (List.mem_cons_self ..))
    have gn := hg n hnm
    repeat' ((fail_if_success (first | (with_reducible show wpAny _ _ (exec (Stmt.While _ _ _ _) _) _ _ _) | (with_reducible show wpAny _ _ (exec (Stmt.For _ _ _ _ _) _) _ _ _) | (with_reducible show wpAny _ _ (exec (Stmt.Assign _ (Expr.ListComp _ _ _ _) _) _) _ _ _) | (with_reducible show wpAny _ _ (eval (Expr.ListComp _ _ _ _) _) _ _ _) | (with_reducible show wpAny _ _ (pyIter _) _ _ _) | (with_reducible show wpAny _ _ (call (Value.ref _) _ _) _ _ _) | (with_reducible show wpAny _ _ (call (Value.builtin "str.join") _ _) _ _ _) | (with_reducible show wpAny _ _ (subscriptTail _ _ (Value.ref _) _) _ _ _) | (with_reducible show wpAny _ _ (subscriptTail _ _ (Value.str _ _) (Value.int _ _)) _ _ _) | (with_reducible show wpAny _ _ (storeName _ (Str.ofString "sign") _) _ _ _) | (with_reducible show wpAny _ _ (storeName _ (Str.ofString "figures") _) _ _ _) | (with_reducible show CmEnd _ _ _ _ _ _ _ _ _ _ _ _) | (with_reducible show Exists _) | (with_reducible show TurnEnd _ _ _ _ _ _ _ _ _) | (with_reducible show ForSrc _ _ _ _ _ _ _ _ _ _ _))); tb_rel)
    rename Fr h₀ L _ _ => F₂
    rename News h₀ L _ _ => N₂
    refine st_name rfl rfl F₂ N₂ hC ne off (fun oC1 m1 h3 tk3 hC1 e1 e1' F₃ N₃ => ?_)
    repeat' ((fail_if_success (first | (with_reducible show wpAny _ _ (exec (Stmt.While _ _ _ _) _) _ _ _) | (with_reducible show wpAny _ _ (exec (Stmt.For _ _ _ _ _) _) _ _ _) | (with_reducible show wpAny _ _ (exec (Stmt.Assign _ (Expr.ListComp _ _ _ _) _) _) _ _ _) | (with_reducible show wpAny _ _ (eval (Expr.ListComp _ _ _ _) _) _ _ _) | (with_reducible show wpAny _ _ (pyIter _) _ _ _) | (with_reducible show wpAny _ _ (call (Value.ref _) _ _) _ _ _) | (with_reducible show wpAny _ _ (call (Value.builtin "str.join") _ _) _ _ _) | (with_reducible show wpAny _ _ (subscriptTail _ _ (Value.ref _) _) _ _ _) | (with_reducible show wpAny _ _ (subscriptTail _ _ (Value.str _ _) (Value.int _ _)) _ _ _) | (with_reducible show wpAny _ _ (storeName _ (Str.ofString "sign") _) _ _ _) | (with_reducible show wpAny _ _ (storeName _ (Str.ofString "figures") _) _ _ _) | (with_reducible show CmEnd _ _ _ _ _ _ _ _ _ _ _ _) | (with_reducible show Exists _) | (with_reducible show TurnEnd _ _ _ _ _ _ _ _ _) | (with_reducible show ForSrc _ _ _ _ _ _ _ _ _ _ _))); tb_rel)
    refine st_name rfl rfl F₃ N₃ hC1 ne off (fun oC2 m2 h4 tk4 hC2 e2 e2' F₄ N₄ => ?_)
    repeat' ((fail_if_success (first | (with_reducible show wpAny _ _ (exec (Stmt.While _ _ _ _) _) _ _ _) | (with_reducible show wpAny _ _ (exec (Stmt.For _ _ _ _ _) _) _ _ _) | (with_reducible show wpAny _ _ (exec (Stmt.Assign _ (Expr.ListComp _ _ _ _) _) _) _ _ _) | (with_reducible show wpAny _ _ (eval (Expr.ListComp _ _ _ _) _) _ _ _) | (with_reducible show wpAny _ _ (pyIter _) _ _ _) | (with_reducible show wpAny _ _ (call (Value.ref _) _ _) _ _ _) | (with_reducible show wpAny _ _ (call (Value.builtin "str.join") _ _) _ _ _) | (with_reducible show wpAny _ _ (subscriptTail _ _ (Value.ref _) _) _ _ _) | (with_reducible show wpAny _ _ (subscriptTail _ _ (Value.str _ _) (Value.int _ _)) _ _ _) | (with_reducible show wpAny _ _ (storeName _ (Str.ofString "sign") _) _ _ _) | (with_reducible show wpAny _ _ (storeName _ (Str.ofString "figures") _) _ _ _) | (with_reducible show CmEnd _ _ _ _ _ _ _ _ _ _ _ _) | (with_reducible show Exists _) | (with_reducible show TurnEnd _ _ _ _ _ _ _ _ _) | (with_reducible show ForSrc _ _ _ _ _ _ _ _ _ _ _))); tb_rel)
    rename Fr h₀ L _ _ => F₅
    rename News h₀ L _ _ => N₅
    refine cm_eval F₅ rfl (by decide) rfl (by decide) ?_
    obtain ⟨u2, hu2⟩ := form1 e2
    subst hu2
    repeat' ((fail_if_success (first | (with_reducible show wpAny _ _ (exec (Stmt.While _ _ _ _) _) _ _ _) | (with_reducible show wpAny _ _ (exec (Stmt.For _ _ _ _ _) _) _ _ _) | (with_reducible show wpAny _ _ (exec (Stmt.Assign _ (Expr.ListComp _ _ _ _) _) _) _ _ _) | (with_reducible show wpAny _ _ (eval (Expr.ListComp _ _ _ _) _) _ _ _) | (with_reducible show wpAny _ _ (pyIter _) _ _ _) | (with_reducible show wpAny _ _ (call (Value.ref _) _ _) _ _ _) | (with_reducible show wpAny _ _ (call (Value.builtin "str.join") _ _) _ _ _) | (with_reducible show wpAny _ _ (subscriptTail _ _ (Value.ref _) _) _ _ _) | (with_reducible show wpAny _ _ (subscriptTail _ _ (Value.str _ _) (Value.int _ _)) _ _ _) | (with_reducible show wpAny _ _ (storeName _ (Str.ofString "sign") _) _ _ _) | (with_reducible show wpAny _ _ (storeName _ (Str.ofString "figures") _) _ _ _) | (with_reducible show CmEnd _ _ _ _ _ _ _ _ _ _ _ _) | (with_reducible show Exists _) | (with_reducible show TurnEnd _ _ _ _ _ _ _ _ _) | (with_reducible show ForSrc _ _ _ _ _ _ _ _ _ _ _))); tb_rel)
    have flen := ints_len gn.are
    rw [List.length_map] at flen
    have fl3 := gn.len
    refine src_list (vs := n.fv) (fun j zs led2 => led2 = (I, oI) :: (C, oC2) :: (D, LCg.lst ys) :: led' ∧ StrsAre zs ((n.fs.take j).map letterOf)) rfl F₅ N₅ (.inr ⟨_, List.mem_cons_of_mem _ (List.mem_cons_of_mem _ (List.mem_cons_of_mem _ hfa)), rfl, _, rfl⟩) (lee (by assumption) (by assumption) (by rfl)) (fun I2 C2 D2 s4 ok4 lt3 lt4 => ⟨⟨rfl, .nil⟩, ?_, ?_⟩)
    · rintro j zs led2 v s5 oI2 oC3 mC3 E5 hj hv5 ⟨rfl, hzs⟩ hC5 ok5 F6 N6 off5 ne5 hS5
      obtain ⟨y, yt, hy, rfl⟩ := Mine.ints_get gn.are hv5
      rw [List.getElem?_map] at hy
      obtain ⟨f, hf, rfl⟩ := Option.map_eq_some_iff.mp hy
      have hf2 := gn.le f (List.mem_of_getElem? hf)
      refine asg_name rfl rfl F6 N6 hC5 ne5 off5 (fun oC4 m4 h6 tk6 hC6 e6 e6' F7 N7 => ?_)
      refine wpAny_pure ?_
      rw [if_pos rfl]
      have c3 := le_two (show f ≤ 2 by assumption)
      rcases c3 with rfl | rfl | rfl
      all_goals repeat' ((fail_if_success (first | (with_reducible show wpAny _ _ (exec (Stmt.While _ _ _ _) _) _ _ _) | (with_reducible show wpAny _ _ (exec (Stmt.For _ _ _ _ _) _) _ _ _) | (with_reducible show wpAny _ _ (exec (Stmt.Assign _ (Expr.ListComp _ _ _ _) _) _) _ _ _) | (with_reducible show wpAny _ _ (eval (Expr.ListComp _ _ _ _) _) _ _ _) | (with_reducible show wpAny _ _ (pyIter _) _ _ _) | (with_reducible show wpAny _ _ (call (Value.ref _) _ _) _ _ _) | (with_reducible show wpAny _ _ (call (Value.builtin "str.join") _ _) _ _ _) | (with_reducible show wpAny _ _ (subscriptTail _ _ (Value.ref _) _) _ _ _) | (with_reducible show wpAny _ _ (subscriptTail _ _ (Value.str _ _) (Value.int _ _)) _ _ _) | (with_reducible show wpAny _ _ (storeName _ (Str.ofString "sign") _) _ _ _) | (with_reducible show wpAny _ _ (storeName _ (Str.ofString "figures") _) _ _ _) | (with_reducible show CmEnd _ _ _ _ _ _ _ _ _ _ _ _) | (with_reducible show Exists _) | (with_reducible show TurnEnd _ _ _ _ _ _ _ _ _) | (with_reducible show ForSrc _ _ _ _ _ _ _ _ _ _ _))); tb_rel)
      all_goals refine item_str (by decide) (by decide) (by decide) (fun _ => ?_)
      all_goals repeat' ((fail_if_success (first | (with_reducible show wpAny _ _ (exec (Stmt.While _ _ _ _) _) _ _ _) | (with_reducible show wpAny _ _ (exec (Stmt.For _ _ _ _ _) _) _ _ _) | (with_reducible show wpAny _ _ (exec (Stmt.Assign _ (Expr.ListComp _ _ _ _) _) _) _ _ _) | (with_reducible show wpAny _ _ (eval (Expr.ListComp _ _ _ _) _) _ _ _) | (with_reducible show wpAny _ _ (pyIter _) _ _ _) | (with_reducible show wpAny _ _ (call (Value.ref _) _ _) _ _ _) | (with_reducible show wpAny _ _ (call (Value.builtin "str.join") _ _) _ _ _) | (with_reducible show wpAny _ _ (subscriptTail _ _ (Value.ref _) _) _ _ _) | (with_reducible show wpAny _ _ (subscriptTail _ _ (Value.str _ _) (Value.int _ _)) _ _ _) | (with_reducible show wpAny _ _ (storeName _ (Str.ofString "sign") _) _ _ _) | (with_reducible show wpAny _ _ (storeName _ (Str.ofString "figures") _) _ _ _) | (with_reducible show CmEnd _ _ _ _ _ _ _ _ _ _ _ _) | (with_reducible show Exists _) | (with_reducible show TurnEnd _ _ _ _ _ _ _ _ _) | (with_reducible show ForSrc _ _ _ _ _ _ _ _ _ _ _))); tb_rel)
      all_goals refine ⟨oC4, m4, _, ⟨rfl, id⟩, F7, N7, hC6, off5, hS5, rfl, ?_⟩
      all_goals rw [List.take_add_one, hf, List.map_append]
      · exact strs_snoc (y := letterOf 0) hzs
      · exact strs_snoc (y := letterOf 1) hzs
      · exact strs_snoc (y := letterOf 2) hzs
    · rintro zs led2 s5 ⟨rfl, hzs⟩ ok5 F6 N6 offD5 offC5
      rw [show n.fs.take n.fv.length = n.fs from List.take_of_length_le (Nat.le_of_eq (by first | assumption | (symm; assumption)))] at hzs
      repeat' ((fail_if_success (first | (with_reducible show wpAny _ _ (exec (Stmt.While _ _ _ _) _) _ _ _) | (with_reducible show wpAny _ _ (exec (Stmt.For _ _ _ _ _) _) _ _ _) | (with_reducible show wpAny _ _ (exec (Stmt.Assign _ (Expr.ListComp _ _ _ _) _) _) _ _ _) | (with_reducible show wpAny _ _ (eval (Expr.ListComp _ _ _ _) _) _ _ _) | (with_reducible show wpAny _ _ (pyIter _) _ _ _) | (with_reducible show wpAny _ _ (call (Value.ref _) _ _) _ _ _) | (with_reducible show wpAny _ _ (call (Value.builtin "str.join") _ _) _ _ _) | (with_reducible show wpAny _ _ (subscriptTail _ _ (Value.ref _) _) _ _ _) | (with_reducible show wpAny _ _ (subscriptTail _ _ (Value.str _ _) (Value.int _ _)) _ _ _) | (with_reducible show wpAny _ _ (storeName _ (Str.ofString "sign") _) _ _ _) | (with_reducible show wpAny _ _ (storeName _ (Str.ofString "figures") _) _ _ _) | (with_reducible show CmEnd _ _ _ _ _ _ _ _ _ _ _ _) | (with_reducible show Exists _) | (with_reducible show TurnEnd _ _ _ _ _ _ _ _ _) | (with_reducible show ForSrc _ _ _ _ _ _ _ _ _ _ _))); tb_rel)
      have hsm : ((n.fs.map letterOf).map (·.length)).sum + (n.fs.map letterOf).length * (Str.ofString "").length ≤ 100000 := by
        have e1 : (n.fs.map letterOf).map (·.length) = n.fs.map fun _ => 1 := by
          rw [List.map_map]
          exact List.map_congr_left fun _ _ => rfl
        have e2 : ∀ l : List Nat, (l.map fun _ => 1).sum = l.length := by
          intro l
          induction l with
          | nil => rfl
          | cons a l ih => rw [List.map_cons, List.sum_cons, ih, List.length_cons]; exact Nat.add_comm 1 _
        have e3 : (Str.ofString "").length = 0 := by decide +kernel
        rw [e1, e2, e3]
        exact add_lit (by assumption) (Nat.le_refl _) (by rfl)
      refine join_led N6 (List.mem_cons_self ..) hzs hsm (fun t' k => ?_)
      rw [join_letters fl3 gn.le]
      repeat' ((fail_if_success (first | (with_reducible show wpAny _ _ (exec (Stmt.While _ _ _ _) _) _ _ _) | (with_reducible show wpAny _ _ (exec (Stmt.For _ _ _ _ _) _) _ _ _) | (with_reducible show wpAny _ _ (exec (Stmt.Assign _ (Expr.ListComp _ _ _ _) _) _) _ _ _) | (with_reducible show wpAny _ _ (eval (Expr.ListComp _ _ _ _) _) _ _ _) | (with_reducible show wpAny _ _ (pyIter _) _ _ _) | (with_reducible show wpAny _ _ (call (Value.ref _) _ _) _ _ _) | (with_reducible show wpAny _ _ (call (Value.builtin "str.join") _ _) _ _ _) | (with_reducible show wpAny _ _ (subscriptTail _ _ (Value.ref _) _) _ _ _) | (with_reducible show wpAny _ _ (subscriptTail _ _ (Value.str _ _) (Value.int _ _)) _ _ _) | (with_reducible show wpAny _ _ (storeName _ (Str.ofString "sign") _) _ _ _) | (with_reducible show wpAny _ _ (storeName _ (Str.ofString "figures") _) _ _ _) | (with_reducible show CmEnd _ _ _ _ _ _ _ _ _ _ _ _) | (with_reducible show Exists _) | (with_reducible show TurnEnd _ _ _ _ _ _ _ _ _) | (with_reducible show ForSrc _ _ _ _ _ _ _ _ _ _ _))); tb_rel)
      refine ⟨oC2, _, led', ⟨ok5.os, ok5.gens⟩, F6, fun q hq => N6 q ?_, hC2, off, hS, rfl, ?_⟩
      · exact List.mem_cons_of_mem _ hq
      · rw [List.take_add_one, hn9, List.map_append]
        exact strs_snoc hys
  · rintro ys led' s' ⟨rfl, hys⟩ ok₁ F₁ N₁ offD offC h' F₂ N₂
    rw [show nums.take (nums.map fun n => Value.ref n.ra).length = nums from List.take_of_length_le (by simp)] at hys
    repeat' ((fail_if_success (first | (with_reducible show wpAny _ _ (exec (Stmt.While _ _ _ _) _) _ _ _) | (with_reducible show wpAny _ _ (exec (Stmt.For _ _ _ _ _) _) _ _ _) | (with_reducible show wpAny _ _ (exec (Stmt.Assign _ (Expr.ListComp _ _ _ _) _) _) _ _ _) | (with_reducible show wpAny _ _ (eval (Expr.ListComp _ _ _ _) _) _ _ _) | (with_reducible show wpAny _ _ (pyIter _) _ _ _) | (with_reducible show wpAny _ _ (call (Value.ref _) _ _) _ _ _) | (with_reducible show wpAny _ _ (call (Value.builtin "str.join") _ _) _ _ _) | (with_reducible show wpAny _ _ (subscriptTail _ _ (Value.ref _) _) _ _ _) | (with_reducible show wpAny _ _ (subscriptTail _ _ (Value.str _ _) (Value.int _ _)) _ _ _) | (with_reducible show wpAny _ _ (storeName _ (Str.ofString "sign") _) _ _ _) | (with_reducible show wpAny _ _ (storeName _ (Str.ofString "figures") _) _ _ _) | (with_reducible show CmEnd _ _ _ _ _ _ _ _ _ _ _ _) | (with_reducible show Exists _) | (with_reducible show TurnEnd _ _ _ _ _ _ _ _ _) | (with_reducible show ForSrc _ _ _ _ _ _ _ _ _ _ _))); tb_rel)
    exact ret D ys _ _ hys (fun q hq => lt2 q hq) F₂ N₂ ⟨ok₁.os, ok₁.gens⟩
end
section
open PySem PySem.W PySem.Spec PySem.Calls PyProof.Rows
noncomputable def apW (k : Nat) : Str := ⟨(apF 6 k).toArray⟩
theorem chain_ap {fs : List Nat} (hl : fs.length ≤ 3) (hb : ∀ f ∈ fs, f ≤ 2) (hd : ∀ f, fs.head? = some f → 1 ≤ f) : (chn 4 (numOf fs)).map apW = Pl.chS (wdOf fs) := by
  have c3 := @le_two
  have c2 := @one_two
  match fs, hl, hb, hd with
  | [], _, _, _ => decide +kernel
  | [a], _, hb, hd =>
    rcases c2 (hb a (by simp)) (hd a rfl) with rfl | rfl <;> decide +kernel
  | [a, b], _, hb, hd =>
    rcases c2 (hb a (by simp)) (hd a rfl) with rfl | rfl <;> rcases c3 (hb b (by simp)) with rfl | rfl | rfl <;> decide +kernel
  | [a, b, c], _, hb, hd =>
    rcases c2 (hb a (by simp)) (hd a rfl) with rfl | rfl <;> rcases c3 (hb b (by simp)) with rfl | rfl | rfl <;> rcases c3 (hb c (by simp)) with rfl | rfl | rfl <;> decide +kernel
  | _ :: _ :: _ :: _ :: _, hl, _, _ => simp at hl
theorem sum_ones : ∀ l : List Nat, (l.map fun _ => 1).sum = l.length
  | [] => rfl
  | a :: l => by rw [List.map_cons, List.sum_cons, sum_ones l, List.length_cons]; exact Nat.add_comm 1 _
theorem fold_chars : ∀ (l : List Nat) (acc : Array Nat), (l.map fun c => (⟨#[c]⟩ : Str)).foldl (fun acc p => acc ++ (Str.ofString "").cps ++ p.cps) acc = acc ++ l.toArray
  | [], acc => by simp
  | c :: l, acc => by
    have e : (Str.ofString "").cps = #[] := by decide +kernel
    rw [List.map_cons, List.foldl_cons, fold_chars l, e]
    apply Array.ext'
    simp
theorem join_chars (l : List Nat) : Txt.join (Str.ofString "") (l.map fun c => (⟨#[c]⟩ : Str)) = ⟨l.toArray⟩ := by
  cases l with
  | nil => decide +kernel
  | cons c l =>
    unfold Txt.join PySem.Builtin.Str.glued
    rw [List.map_cons, List.drop_one, List.tail_cons, List.headD_cons, fold_chars]
    congr 1
    apply Array.ext'
    simp
theorem chn_le : ∀ (f n x : Nat), x ∈ chn f n → x ≤ n
  | 0, n, x, h => by rw [chn, List.mem_singleton] at h; exact Nat.le_of_eq h
  | f + 1, n, x, h => by
    rw [chn] at h
    split at h
    · rw [List.mem_singleton] at h; exact Nat.le_of_eq h
    · rcases List.mem_cons.mp h with h | h
      · exact Nat.le_of_eq h
      · exact Nat.le_trans (chn_le f (n / 16) x h) (Nat.div_le_self ..)
theorem ap_len : ∀ (f n : Nat), (apF f n).length ≤ f
  | 0, n => Nat.le_refl _
  | f + 1, n => by
    unfold apF
    split
    · simp
    · have := ap_len f (n / 16)
      rw [List.length_append, List.length_singleton]
      exact Nat.succ_le_succ this
section
variable {prog : Program} {w : World} {A : Around} {E : Value → Shared → Prop} {s : Shared} {h₀ : Heap} {L : Addr} {m : Fm} {env : Env}
theorem iter_bytes {I : Addr} {b : Array UInt8} {t : Tok} (hh : A.handled = none) : IterOk prog w A h₀ L I b.size (fun i v => ∃ c u, b[i]? = some c ∧ v = .int (c.toNat : Int) u) [I] (fun i h => KBw.IsBytesIter h I b t i) (fun _ => True) :=
  ⟨KBw.walks hh I b t, fun i h st => by obtain ⟨o, e, _⟩ := st; exact ⟨o, e⟩, fun i h h' o nw st e e' _ _ _ => by
    refine hideG fun PG9 hG9 => ?_
    obtain ⟨o', e1, e2⟩ := st
    rw [e1] at e
    refine hG9 ?_
    try clear hG9 PG9
    cases e
    exact ⟨_, e', e2⟩⟩
theorem src_bytes {elt target : PySem.Expr} {ifs : List PySem.Expr} {scope : Scope} {cl : List (Str × Addr)} {Fin : List Value → List Ent → Addr → Shared → Prop} {b : Array UInt8} {t : Tok} {led : List Ent} (J : Nat → List Value → List Ent → Prop)
    (hh : A.handled = none) (F : Fr h₀ L s.heap m) (N : News h₀ L s.heap led) (hsz : b.size ≤ 100000)
    (h : ∀ I C D s₃, Ok s s₃ → @LT.lt Nat _ D C → (∀ p ∈ led, p.1 < D) → J 0 [] led ∧ CmTurn prog w A h₀ L m (compEnvC scope cl C env) elt target ifs s₃ (fun _ => True) (fun i v => ∃ c u, b[i]? = some c ∧ v = .int (c.toNat : Int) u) J b.size I C D ∧
      (∀ ys led' s', J b.size ys led' → Ok s s' → Fr h₀ L s'.heap m → News h₀ L s'.heap ((D, LCg.lst ys) :: led') → (∀ p ∈ led', p.1 ≠ D) → (∀ p ∈ led', p.1 ≠ C) → Fin ys led' D s'))
    (ht : ∀ I v, letOwnedTupleGo target (.ref I) v = pure () := by intro _ _; rfl) :
    wpAny (model prog w) A (pyIter (.bytes b t)) (CmSrc prog w A h₀ L m env elt target ifs scope cl Fin) E s := by
  refine KBw.pyIter_bytes ?_
  refine ⟨s.heap.objs.size, b.size, _, _, _, _, fun _ => J, led, rfl, iter_bytes hh, by rw [sizeLine_eq]; exact lel hsz rfl, ?_, Nat.ne_of_lt F.ns.lt, next_is_new F, F.keeps fun _ _ e => Heap.get?_push_of_some _ e, N.grown fun _ _ e => Heap.get?_push_of_some _ e, fun p hp => Nat.ne_of_lt (Heap.lt_size (N p hp).1),
    ⟨_, Heap.get?_push_size _ rfl, rfl, rfl⟩, (fun _ _ _ _ _ _ q => go_of ht q), fun C D s₃ ok lt1 lt2 => ?_⟩
  · intro b' hb
    show b' < (s.heap.push _).objs.size
    rw [Heap.size_push]
    rcases List.mem_cons.mp hb with rfl | hb
    · exact Nat.lt_succ_self _
    · rw [List.mem_singleton.mp hb]; exact Nat.lt_succ_self _
  · obtain ⟨x, y, z⟩ := h s.heap.objs.size C D s₃ ⟨ok.os, ok.gens⟩ lt1 lt2
    exact ⟨trivial, x, y, fun ys led' s' hJ ok' => z ys led' s' hJ ⟨ok'.os, ok'.gens⟩⟩
end
/-- an invariant of a loop -/
noncomputable def L3J (R lsA : Addr) (led : List Ent) (nums : List Num) (u : Fm) (i : Nat) (mm : Fm) (led' : List Ent) : Prop := ∃ (ps' : Array Value) (vs : List Value) (k : Nat), led' = (767, tabObj ps') :: (lsA, listOf vs.toArray k) :: led ∧ TriplesOk ps'.toList ∧ StrsAre vs ((nums.take i).map fun n => joinP (Pl.chS (wdOf n.fs))) ∧ mm (Str.ofString "numbers") = some (.ref R) ∧ mm (Str.ofString "lines") = some (.ref lsA) ∧ ((∀ y, y ≠ Str.ofString "sign" → y ≠ Str.ofString "figures" → mm y = (fun z => if z = Str.ofString "numbers" then some (.ref R) else if z = Str.ofString "lines" then some (.ref lsA) else u z : Fm) y))
theorem L3J.mk {R lsA : Addr} {led : List Ent} {nums : List Num} {u : Fm} {i : Nat} {mm : Fm} (ps' : Array Value) (vs : List Value) (k : Nat) (h0 : TriplesOk ps'.toList) (h1 : StrsAre vs ((nums.take i).map fun n => joinP (Pl.chS (wdOf n.fs)))) (h2 : mm (Str.ofString "numbers") = some (.ref R)) (h3 : mm (Str.ofString "lines") = some (.ref lsA)) (h4 : (∀ y, y ≠ Str.ofString "sign" → y ≠ Str.ofString "figures" → mm y = (fun z => if z = Str.ofString "numbers" then some (.ref R) else if z = Str.ofString "lines" then some (.ref lsA) else u z : Fm) y)) : L3J R lsA led nums u i mm ((767, tabObj ps') :: (lsA, listOf vs.toArray k) :: led) := ⟨ps', vs, k, rfl, h0, h1, h2, h3, h4⟩
theorem L3J.out {R lsA : Addr} {led : List Ent} {nums : List Num} {u : Fm} {i : Nat} {mm : Fm} {led' : List Ent} (h : L3J R lsA led nums u i mm led') {P : Prop} (kk9 : ∀ (ps' : Array Value) (vs : List Value) (k : Nat), led' = (767, tabObj ps') :: (lsA, listOf vs.toArray k) :: led → TriplesOk ps'.toList → StrsAre vs ((nums.take i).map fun n => joinP (Pl.chS (wdOf n.fs))) → mm (Str.ofString "numbers") = some (.ref R) → mm (Str.ofString "lines") = some (.ref lsA) → ((∀ y, y ≠ Str.ofString "sign" → y ≠ Str.ofString "figures" → mm y = (fun z => if z = Str.ofString "numbers" then some (.ref R) else if z = Str.ofString "lines" then some (.ref lsA) else u z : Fm) y)) → P) : P := by
  refine hideG fun PG9 hG9 => ?_
  obtain ⟨ps', vs, k, e, h0, h1, h2, h3, h4⟩ := h
  refine hG9 ?_
  try clear hG9 PG9
  exact kk9 ps' vs k e h0 h1 h2 h3 h4
noncomputable def L3C (l : List Ent) (fs : List Nat) (j : Nat) (zs : List Value) (led2 : List Ent) : Prop := led2 = l ∧ StrsAre zs (((chn 4 (numOf fs)).take j).map apW)
theorem L3C.mk {l : List Ent} {fs : List Nat} {j : Nat} {zs : List Value} (h : StrsAre zs (((chn 4 (numOf fs)).take j).map apW)) : L3C l fs j zs l := ⟨rfl, h⟩
theorem L3C.out {l : List Ent} {fs : List Nat} {j : Nat} {zs : List Value} {led2 : List Ent} (h : L3C l fs j zs led2) {P : Prop} (k : led2 = l → StrsAre zs (((chn 4 (numOf fs)).take j).map apW) → P) : P := k h.1 h.2
theorem seg3 : ∀ {w : World} {p : Program} {loose : List Str} {mean : ExcName → Option Value} {mg mb : Str → Option Value}
  {A₀ : Around} {base h₀ : Heap} {L fa : Addr} {m : Fm} {s : Shared} {Q : Flow → Shared → Prop} {E : Value → Shared → Prop}
  (R lsA : Addr) (c : Nat) (nums : List Num) (ps : Array Value) (led : List Ent)
  (B : Below A₀ base [] h₀) (F : Fr h₀ L s.heap m) (X : (KK w.params).In h₀) (N : News h₀ L s.heap ((767, tabObj ps) :: (lsA, listOf #[] 0) :: led)) (T : Top p loose mean mg mb h₀)
  (hm1 : m (Str.ofString "numbers") = some (.ref R)) (hm2 : m (Str.ofString "lines") = some (.ref lsA)) (hn : nums.length ≤ 1000) (hg : ∀ n ∈ nums, n.Good) (hR : (R, listOf (nums.map fun n => Value.ref n.ra).toArray c) ∈ led) (hE : ∀ n ∈ nums, ∀ p ∈ n.ents, p ∈ led) (ht : TriplesOk ps.toList) (hP : ∀ q ∈ led, q.1 ≠ 767 ∧ q.1 ≠ lsA) (hP2 : @Ne Nat lsA 767)
  (ret : ∀ ps' vs k s' m', TriplesOk ps'.toList → StrsAre vs (nums.map fun n => joinP (Pl.chS (wdOf n.fs))) → (∀ y, y ≠ Str.ofString "sign" → y ≠ Str.ofString "figures" → m' y = m y) → Fr h₀ L s'.heap m' → News h₀ L s'.heap ((767, tabObj ps') :: (lsA, listOf vs.toArray k) :: led) → Ok s s' → Q .next s'),
  wpAny (model PySem.Challenge.rw_ik0072_01.row.toRowW.prog w) (lawA L fa) (exec (lawAt 3) (lawEnv L fa)) Q E s := by
  k_fill
  intro w p loose mean mg mb A₀ base h₀ L fa m s Q E R lsA c nums ps led B F X N T hm1 hm2 hn hg hR hE ht hP hP2 ret
  unfold lawA lawEnv
  generalize hsc : lawScope = sc
  generalize hst : lawAt 3 = stm
  conv at hsc => lhs; whnf
  conv at hst => lhs; whnf
  refine hideG fun PG9 hG9 => ?_
  subst hsc
  subst hst
  obtain ⟨u, hu⟩ := form2 hm1 hm2
  subst hu
  refine hG9 ?_
  try clear hG9 PG9
  repeat' ((fail_if_success (first | (with_reducible show wpAny _ _ (exec (Stmt.While _ _ _ _) _) _ _ _) | (with_reducible show wpAny _ _ (exec (Stmt.For _ _ _ _ _) _) _ _ _) | (with_reducible show wpAny _ _ (exec (Stmt.Assign _ (Expr.ListComp _ _ _ _) _) _) _ _ _) | (with_reducible show wpAny _ _ (eval (Expr.ListComp _ _ _ _) _) _ _ _) | (with_reducible show wpAny _ _ (pyIter _) _ _ _) | (with_reducible show wpAny _ _ (call (Value.ref _) _ _) _ _ _) | (with_reducible show wpAny _ _ (call (Value.builtin "chr") _) _ _ _) | (with_reducible show wpAny _ _ (call (Value.builtin "str.join") _ _) _ _ _) | (with_reducible show wpAny _ _ (call (Value.builtin "list.append") _) _ _ _) | (with_reducible show wpAny _ _ (subscriptTail _ _ (Value.ref _) _) _ _ _) | (with_reducible show CmEnd _ _ _ _ _ _ _ _ _ _ _ _) | (with_reducible show FgEnd _ _ _ _ _ _ _ _ _ _ _) | (with_reducible show Exists _) | (with_reducible show TurnEnd _ _ _ _ _ _ _ _ _) | (with_reducible show ForSrc _ _ _ _ _ _ _ _ _ _ _))); tb_rel)
  refine ft_for ?_
  repeat' ((fail_if_success (first | (with_reducible show wpAny _ _ (exec (Stmt.While _ _ _ _) _) _ _ _) | (with_reducible show wpAny _ _ (exec (Stmt.For _ _ _ _ _) _) _ _ _) | (with_reducible show wpAny _ _ (exec (Stmt.Assign _ (Expr.ListComp _ _ _ _) _) _) _ _ _) | (with_reducible show wpAny _ _ (eval (Expr.ListComp _ _ _ _) _) _ _ _) | (with_reducible show wpAny _ _ (pyIter _) _ _ _) | (with_reducible show wpAny _ _ (call (Value.ref _) _ _) _ _ _) | (with_reducible show wpAny _ _ (call (Value.builtin "chr") _) _ _ _) | (with_reducible show wpAny _ _ (call (Value.builtin "str.join") _ _) _ _ _) | (with_reducible show wpAny _ _ (call (Value.builtin "list.append") _) _ _ _) | (with_reducible show wpAny _ _ (subscriptTail _ _ (Value.ref _) _) _ _ _) | (with_reducible show CmEnd _ _ _ _ _ _ _ _ _ _ _ _) | (with_reducible show FgEnd _ _ _ _ _ _ _ _ _ _ _) | (with_reducible show Exists _) | (with_reducible show TurnEnd _ _ _ _ _ _ _ _ _) | (with_reducible show ForSrc _ _ _ _ _ _ _ _ _ _ _))); tb_rel)
  refine ft_list (vs := nums.map fun n => Value.ref n.ra) (L3J R lsA led nums u) rfl F N (.inr ⟨_, List.mem_cons_of_mem _ (List.mem_cons_of_mem _ hR), rfl, _, rfl⟩) (L3J.mk ps [] 0 ht .nil rfl rfl fun _ _ _ => rfl) (fun I s₃ ok₃ lt => ⟨?_, ?_⟩)
  · intro i m₁ led' v s₁ oI E' hi hv hJ9 ok₁ F₁ N₁ off hS
    refine hJ9.out fun ps' vs k hled9 ht' hvs hm3 hm4 hmm => ?_
    refine hideG fun PG9 hG9 => ?_
    obtain rfl := hled9
    refine hG9 ?_
    try clear hG9 PG9
    clear hJ9
    refine hideG fun PG9 hG9 => ?_
    obtain ⟨n, hn9, rfl⟩ : ∃ n, nums[i]? = some n ∧ v = Value.ref n.ra := by
      rw [List.getElem?_map] at hv
      obtain ⟨n, h1, h2⟩ := Option.map_eq_some_iff.mp hv
      exact ⟨n, h1, h2.symm⟩
    have hnm := List.mem_of_getElem? hn9
    have hra := hE n hnm _ (List.mem_cons_self ..)
    have hfa := hE n hnm _ (List.mem_cons_of_mem _ (List.mem_cons_self ..))
    have gn := hg n hnm
    obtain ⟨u1, hu1⟩ := form2 hm3 hm4
    subst hu1
    refine hG9 ?_
    try clear hG9 PG9
    repeat' ((fail_if_success (first | (with_reducible show wpAny _ _ (exec (Stmt.While _ _ _ _) _) _ _ _) | (with_reducible show wpAny _ _ (exec (Stmt.For _ _ _ _ _) _) _ _ _) | (with_reducible show wpAny _ _ (exec (Stmt.Assign _ (Expr.ListComp _ _ _ _) _) _) _ _ _) | (with_reducible show wpAny _ _ (eval (Expr.ListComp _ _ _ _) _) _ _ _) | (with_reducible show wpAny _ _ (pyIter _) _ _ _) | (with_reducible show wpAny _ _ (call (Value.ref _) _ _) _ _ _) | (with_reducible show wpAny _ _ (call (Value.builtin "chr") _) _ _ _) | (with_reducible show wpAny _ _ (call (Value.builtin "str.join") _ _) _ _ _) | (with_reducible show wpAny _ _ (call (Value.builtin "list.append") _) _ _ _) | (with_reducible show wpAny _ _ (subscriptTail _ _ (Value.ref _) _) _ _ _) | (with_reducible show CmEnd _ _ _ _ _ _ _ _ _ _ _ _) | (with_reducible show FgEnd _ _ _ _ _ _ _ _ _ _ _) | (with_reducible show Exists _) | (with_reducible show TurnEnd _ _ _ _ _ _ _ _ _) | (with_reducible show ForSrc _ _ _ _ _ _ _ _ _ _ _))); tb_rel)
    rename Fr h₀ L _ _ => F₂
    rename News h₀ L _ _ => N₂
    refine cm_eval F₂ rfl (by decide) rfl (by decide) ?_
    repeat' ((fail_if_success (first | (with_reducible show wpAny _ _ (exec (Stmt.While _ _ _ _) _) _ _ _) | (with_reducible show wpAny _ _ (exec (Stmt.For _ _ _ _ _) _) _ _ _) | (with_reducible show wpAny _ _ (exec (Stmt.Assign _ (Expr.ListComp _ _ _ _) _) _) _ _ _) | (with_reducible show wpAny _ _ (eval (Expr.ListComp _ _ _ _) _) _ _ _) | (with_reducible show wpAny _ _ (pyIter _) _ _ _) | (with_reducible show wpAny _ _ (call (Value.ref _) _ _) _ _ _) | (with_reducible show wpAny _ _ (call (Value.builtin "chr") _) _ _ _) | (with_reducible show wpAny _ _ (call (Value.builtin "str.join") _ _) _ _ _) | (with_reducible show wpAny _ _ (call (Value.builtin "list.append") _) _ _ _) | (with_reducible show wpAny _ _ (subscriptTail _ _ (Value.ref _) _) _ _ _) | (with_reducible show CmEnd _ _ _ _ _ _ _ _ _ _ _ _) | (with_reducible show FgEnd _ _ _ _ _ _ _ _ _ _ _) | (with_reducible show Exists _) | (with_reducible show TurnEnd _ _ _ _ _ _ _ _ _) | (with_reducible show ForSrc _ _ _ _ _ _ _ _ _ _ _))); tb_rel)
    have g0 := gn.sg
    refine c_ch n.sg n.ts n.fa n.fv n.fs n.nf _ B F₂ X N₂ T rfl rfl rfl rfl (Nat.le_of_ble_eq_true rfl) (Nat.le_of_ble_eq_true rfl) g0 (List.mem_cons_of_mem _ (List.mem_cons_of_mem _ (List.mem_cons_of_mem _ hfa))) gn.are gn.len gn.le (fun R2 iv c2 s2 hiv hR2 F₃ N₃ ok₂ => ?_)
    repeat' ((fail_if_success (first | (with_reducible show wpAny _ _ (exec (Stmt.While _ _ _ _) _) _ _ _) | (with_reducible show wpAny _ _ (exec (Stmt.For _ _ _ _ _) _) _ _ _) | (with_reducible show wpAny _ _ (exec (Stmt.Assign _ (Expr.ListComp _ _ _ _) _) _) _ _ _) | (with_reducible show wpAny _ _ (eval (Expr.ListComp _ _ _ _) _) _ _ _) | (with_reducible show wpAny _ _ (pyIter _) _ _ _) | (with_reducible show wpAny _ _ (call (Value.ref _) _ _) _ _ _) | (with_reducible show wpAny _ _ (call (Value.builtin "chr") _) _ _ _) | (with_reducible show wpAny _ _ (call (Value.builtin "str.join") _ _) _ _ _) | (with_reducible show wpAny _ _ (call (Value.builtin "list.append") _) _ _ _) | (with_reducible show wpAny _ _ (subscriptTail _ _ (Value.ref _) _) _ _ _) | (with_reducible show CmEnd _ _ _ _ _ _ _ _ _ _ _ _) | (with_reducible show FgEnd _ _ _ _ _ _ _ _ _ _ _) | (with_reducible show Exists _) | (with_reducible show TurnEnd _ _ _ _ _ _ _ _ _) | (with_reducible show ForSrc _ _ _ _ _ _ _ _ _ _ _))); tb_rel)
    have ilen := ints_len hiv
    rw [List.length_map] at ilen
    have clen : (chn 4 (numOf n.fs)).length ≤ 5 := by
      have h1 := congrArg List.length (chain_ap gn.len gn.le gn.hd)
      unfold Pl.chS at h1
      rw [List.length_map, List.length_map, Pl.chain_len] at h1
      have h2 : (wdOf n.fs).length = n.fs.length := by simp [wdOf]
      have := gn.len
      rw [h1, h2]; exact Nat.succ_le_succ (lel this rfl)
    refine src_list (vs := iv) (L3C ((R2, listOf iv.toArray c2) :: (I, oI) :: (767, tabObj ps') :: (lsA, listOf vs.toArray k) :: led) n.fs) rfl F₃ N₃ (.inr ⟨_, List.mem_cons_self .., rfl, _, rfl⟩) (lee (by assumption) (by assumption) (by rfl)) (fun I2 C2 D2 s4 ok4 lt3 lt4 => ⟨L3C.mk .nil, ?_, ?_⟩)
    · rintro j zs led2 v s5 oI2 oC3 mC3 E5 hj hv5 ⟨rfl, hzs⟩ hC5 ok5 F6 N6 off5 ne5 hS5
      refine hideG fun PG9 hG9 => ?_
      obtain ⟨y, yt, hy, rfl⟩ := Mine.ints_get hiv hv5
      rw [List.getElem?_map] at hy
      obtain ⟨f, hf, rfl⟩ := Option.map_eq_some_iff.mp hy
      refine hG9 ?_
      try clear hG9 PG9
      refine asg_name rfl rfl F6 N6 hC5 ne5 off5 (fun oC4 m4 h6 tk6 hC6 e6 e6' F7 N7 => ?_)
      refine wpAny_pure ?_
      rw [if_pos rfl]
      refine hideG fun PG9 hG9 => ?_
      obtain ⟨u4, hu4⟩ := form1 e6
      subst hu4
      refine hG9 ?_
      try clear hG9 PG9
      repeat' ((fail_if_success (first | (with_reducible show wpAny _ _ (exec (Stmt.While _ _ _ _) _) _ _ _) | (with_reducible show wpAny _ _ (exec (Stmt.For _ _ _ _ _) _) _ _ _) | (with_reducible show wpAny _ _ (exec (Stmt.Assign _ (Expr.ListComp _ _ _ _) _) _) _ _ _) | (with_reducible show wpAny _ _ (eval (Expr.ListComp _ _ _ _) _) _ _ _) | (with_reducible show wpAny _ _ (pyIter _) _ _ _) | (with_reducible show wpAny _ _ (call (Value.ref _) _ _) _ _ _) | (with_reducible show wpAny _ _ (call (Value.builtin "chr") _) _ _ _) | (with_reducible show wpAny _ _ (call (Value.builtin "str.join") _ _) _ _ _) | (with_reducible show wpAny _ _ (call (Value.builtin "list.append") _) _ _ _) | (with_reducible show wpAny _ _ (subscriptTail _ _ (Value.ref _) _) _ _ _) | (with_reducible show CmEnd _ _ _ _ _ _ _ _ _ _ _ _) | (with_reducible show FgEnd _ _ _ _ _ _ _ _ _ _ _) | (with_reducible show Exists _) | (with_reducible show TurnEnd _ _ _ _ _ _ _ _ _) | (with_reducible show ForSrc _ _ _ _ _ _ _ _ _ _ _))); tb_rel)
      refine cm_eval F7 rfl (by decide) rfl (by decide) ?_
      repeat' ((fail_if_success (first | (with_reducible show wpAny _ _ (exec (Stmt.While _ _ _ _) _) _ _ _) | (with_reducible show wpAny _ _ (exec (Stmt.For _ _ _ _ _) _) _ _ _) | (with_reducible show wpAny _ _ (exec (Stmt.Assign _ (Expr.ListComp _ _ _ _) _) _) _ _ _) | (with_reducible show wpAny _ _ (eval (Expr.ListComp _ _ _ _) _) _ _ _) | (with_reducible show wpAny _ _ (pyIter _) _ _ _) | (with_reducible show wpAny _ _ (call (Value.ref _) _ _) _ _ _) | (with_reducible show wpAny _ _ (call (Value.builtin "chr") _) _ _ _) | (with_reducible show wpAny _ _ (call (Value.builtin "str.join") _ _) _ _ _) | (with_reducible show wpAny _ _ (call (Value.builtin "list.append") _) _ _ _) | (with_reducible show wpAny _ _ (subscriptTail _ _ (Value.ref _) _) _ _ _) | (with_reducible show CmEnd _ _ _ _ _ _ _ _ _ _ _ _) | (with_reducible show FgEnd _ _ _ _ _ _ _ _ _ _ _) | (with_reducible show Exists _) | (with_reducible show TurnEnd _ _ _ _ _ _ _ _ _) | (with_reducible show ForSrc _ _ _ _ _ _ _ _ _ _ _))); tb_rel)
      have fle : f < 4096 := Nat.lt_of_le_of_lt (chn_le _ _ _ (List.mem_of_getElem? hf)) (Nat.lt_of_lt_of_eq (num_lt gn.len gn.le) rfl)
      have fab : (n.sg * (f : Int)).natAbs = f := by
        rcases gn.sg with e | e <;> rw [e]
        · rw [Int.one_mul]; rfl
        · rw [Int.neg_one_mul, Int.natAbs_neg]; rfl
      refine c_ap (n.sg * (f : Int)) yt _ B F7 X N7 T rfl rfl rfl rfl (Nat.le_of_ble_eq_true rfl) (Nat.le_of_ble_eq_true rfl) (by rw [fab]; exact Nat.lt_of_lt_of_le fle (Nat.le_of_ble_eq_true rfl)) (fun ba bt s6 hba F8 N8 ok8 => ?_)
      rw [fab] at hba
      repeat' ((fail_if_success (first | (with_reducible show wpAny _ _ (exec (Stmt.While _ _ _ _) _) _ _ _) | (with_reducible show wpAny _ _ (exec (Stmt.For _ _ _ _ _) _) _ _ _) | (with_reducible show wpAny _ _ (exec (Stmt.Assign _ (Expr.ListComp _ _ _ _) _) _) _ _ _) | (with_reducible show wpAny _ _ (eval (Expr.ListComp _ _ _ _) _) _ _ _) | (with_reducible show wpAny _ _ (pyIter _) _ _ _) | (with_reducible show wpAny _ _ (call (Value.ref _) _ _) _ _ _) | (with_reducible show wpAny _ _ (call (Value.builtin "chr") _) _ _ _) | (with_reducible show wpAny _ _ (call (Value.builtin "str.join") _ _) _ _ _) | (with_reducible show wpAny _ _ (call (Value.builtin "list.append") _) _ _ _) | (with_reducible show wpAny _ _ (subscriptTail _ _ (Value.ref _) _) _ _ _) | (with_reducible show CmEnd _ _ _ _ _ _ _ _ _ _ _ _) | (with_reducible show FgEnd _ _ _ _ _ _ _ _ _ _ _) | (with_reducible show Exists _) | (with_reducible show TurnEnd _ _ _ _ _ _ _ _ _) | (with_reducible show ForSrc _ _ _ _ _ _ _ _ _ _ _))); tb_rel)
      have blen : ba.size = (apF 6 f).length := by
        have := congrArg List.length hba
        rw [KBw.ints_length, List.length_map] at this
        exact this
      have alen := ap_len 6 f
      refine src_bytes (fun q zz led3 => led3 = (I2, oI2) :: (C2, oC4) :: (D2, LCg.lst zs) :: (R2, listOf iv.toArray c2) :: (I, oI) :: (767, tabObj ps') :: (lsA, listOf vs.toArray k) :: led ∧ StrsAre zz (((apF 6 f).take q).map fun c => (⟨#[c]⟩ : Str))) rfl F8 N8 (lee (by assumption) alen (by rfl)) (fun I3 C3 D3 s7 ok7 lt5 lt6 => ⟨⟨rfl, .nil⟩, ?_, ?_⟩)
      · intro q zz led3 v s8 oI3 oC5 mC5 E8 hq hJ910 hJ911 hC8 ok9 F9 N9 off9 ne9 hS9
        refine hideG fun PG9 hG9 => ?_
        obtain ⟨cb, cu, hcb, rfl⟩ := hJ910
        obtain ⟨rfl, hzz⟩ := hJ911
        have hcn : (apF 6 f)[q]? = some cb.toNat := by
          have h1 := KBw.ints_get hcb
          rw [hba, List.getElem?_map] at h1
          obtain ⟨x, hx1, hx2⟩ := Option.map_eq_some_iff.mp h1
          rw [hx1]
          congr 1
          exact Int.ofNat.inj hx2
        refine hG9 ?_
        try clear hG9 PG9
        refine asg_name rfl rfl F9 N9 hC8 ne9 off9 (fun oC6 m6 h9 tk9 hC9 e9 e9' F10 N10 => ?_)
        refine wpAny_pure ?_
        rw [if_pos rfl]
        refine hideG fun PG9 hG9 => ?_
        obtain ⟨u6, hu6⟩ := form1 e9
        subst hu6
        refine hG9 ?_
        try clear hG9 PG9
        repeat' ((fail_if_success (first | (with_reducible show wpAny _ _ (exec (Stmt.While _ _ _ _) _) _ _ _) | (with_reducible show wpAny _ _ (exec (Stmt.For _ _ _ _ _) _) _ _ _) | (with_reducible show wpAny _ _ (exec (Stmt.Assign _ (Expr.ListComp _ _ _ _) _) _) _ _ _) | (with_reducible show wpAny _ _ (eval (Expr.ListComp _ _ _ _) _) _ _ _) | (with_reducible show wpAny _ _ (pyIter _) _ _ _) | (with_reducible show wpAny _ _ (call (Value.ref _) _ _) _ _ _) | (with_reducible show wpAny _ _ (call (Value.builtin "chr") _) _ _ _) | (with_reducible show wpAny _ _ (call (Value.builtin "str.join") _ _) _ _ _) | (with_reducible show wpAny _ _ (call (Value.builtin "list.append") _) _ _ _) | (with_reducible show wpAny _ _ (subscriptTail _ _ (Value.ref _) _) _ _ _) | (with_reducible show CmEnd _ _ _ _ _ _ _ _ _ _ _ _) | (with_reducible show FgEnd _ _ _ _ _ _ _ _ _ _ _) | (with_reducible show Exists _) | (with_reducible show TurnEnd _ _ _ _ _ _ _ _ _) | (with_reducible show ForSrc _ _ _ _ _ _ _ _ _ _ _))); tb_rel)
        have hb9 : (decide (((cb.toNat : Nat) : Int) < 0) || decide (((cb.toNat : Nat) : Int) > 0x10FFFF)) = false := by
          have := cb.toNat_lt
          simp only [Bool.or_eq_false_iff, decide_eq_false_iff_not]
          omega
        refine P.chr_of_int hb9 ?_
        repeat' ((fail_if_success (first | (with_reducible show wpAny _ _ (exec (Stmt.While _ _ _ _) _) _ _ _) | (with_reducible show wpAny _ _ (exec (Stmt.For _ _ _ _ _) _) _ _ _) | (with_reducible show wpAny _ _ (exec (Stmt.Assign _ (Expr.ListComp _ _ _ _) _) _) _ _ _) | (with_reducible show wpAny _ _ (eval (Expr.ListComp _ _ _ _) _) _ _ _) | (with_reducible show wpAny _ _ (pyIter _) _ _ _) | (with_reducible show wpAny _ _ (call (Value.ref _) _ _) _ _ _) | (with_reducible show wpAny _ _ (call (Value.builtin "chr") _) _ _ _) | (with_reducible show wpAny _ _ (call (Value.builtin "str.join") _ _) _ _ _) | (with_reducible show wpAny _ _ (call (Value.builtin "list.append") _) _ _ _) | (with_reducible show wpAny _ _ (subscriptTail _ _ (Value.ref _) _) _ _ _) | (with_reducible show CmEnd _ _ _ _ _ _ _ _ _ _ _ _) | (with_reducible show FgEnd _ _ _ _ _ _ _ _ _ _ _) | (with_reducible show Exists _) | (with_reducible show TurnEnd _ _ _ _ _ _ _ _ _) | (with_reducible show ForSrc _ _ _ _ _ _ _ _ _ _ _))); tb_rel)
        refine ⟨oC6, _, _, ⟨rfl, id⟩, F10, N10, hC9, off9, trivial, rfl, ?_⟩
        rw [List.take_add_one, hcn, List.map_append]
        exact strs_snoc (y := ⟨#[cb.toNat]⟩) hzz
      · rintro zz led3 s8 ⟨rfl, hzz⟩ ok9 F9 N9 offD9 offC9
        rw [show (apF 6 f).take ba.size = apF 6 f from List.take_of_length_le (Nat.le_of_eq (by first | assumption | (symm; assumption)))] at hzz
        repeat' ((fail_if_success (first | (with_reducible show wpAny _ _ (exec (Stmt.While _ _ _ _) _) _ _ _) | (with_reducible show wpAny _ _ (exec (Stmt.For _ _ _ _ _) _) _ _ _) | (with_reducible show wpAny _ _ (exec (Stmt.Assign _ (Expr.ListComp _ _ _ _) _) _) _ _ _) | (with_reducible show wpAny _ _ (eval (Expr.ListComp _ _ _ _) _) _ _ _) | (with_reducible show wpAny _ _ (pyIter _) _ _ _) | (with_reducible show wpAny _ _ (call (Value.ref _) _ _) _ _ _) | (with_reducible show wpAny _ _ (call (Value.builtin "chr") _) _ _ _) | (with_reducible show wpAny _ _ (call (Value.builtin "str.join") _ _) _ _ _) | (with_reducible show wpAny _ _ (call (Value.builtin "list.append") _) _ _ _) | (with_reducible show wpAny _ _ (subscriptTail _ _ (Value.ref _) _) _ _ _) | (with_reducible show CmEnd _ _ _ _ _ _ _ _ _ _ _ _) | (with_reducible show FgEnd _ _ _ _ _ _ _ _ _ _ _) | (with_reducible show Exists _) | (with_reducible show TurnEnd _ _ _ _ _ _ _ _ _) | (with_reducible show ForSrc _ _ _ _ _ _ _ _ _ _ _))); tb_rel)
        have hsm : (((apF 6 f).map fun c => (⟨#[c]⟩ : Str)).map (·.length)).sum + ((apF 6 f).map fun c => (⟨#[c]⟩ : Str)).length * (Str.ofString "").length ≤ 100000 := by
          have e1 : ((apF 6 f).map fun c => (⟨#[c]⟩ : Str)).map (·.length) = (apF 6 f).map fun _ => 1 := by
            rw [List.map_map]
            exact List.map_congr_left fun _ _ => rfl
          have e3 : (Str.ofString "").length = 0 := by decide +kernel
          rw [e1, e3, sum_ones]
          exact add_lit alen (Nat.le_refl _) (by rfl)
        refine join_led N9 (List.mem_cons_self ..) hzz hsm (fun t' k9 => ?_)
        rw [join_chars]
        repeat' ((fail_if_success (first | (with_reducible show wpAny _ _ (exec (Stmt.While _ _ _ _) _) _ _ _) | (with_reducible show wpAny _ _ (exec (Stmt.For _ _ _ _ _) _) _ _ _) | (with_reducible show wpAny _ _ (exec (Stmt.Assign _ (Expr.ListComp _ _ _ _) _) _) _ _ _) | (with_reducible show wpAny _ _ (eval (Expr.ListComp _ _ _ _) _) _ _ _) | (with_reducible show wpAny _ _ (pyIter _) _ _ _) | (with_reducible show wpAny _ _ (call (Value.ref _) _ _) _ _ _) | (with_reducible show wpAny _ _ (call (Value.builtin "chr") _) _ _ _) | (with_reducible show wpAny _ _ (call (Value.builtin "str.join") _ _) _ _ _) | (with_reducible show wpAny _ _ (call (Value.builtin "list.append") _) _ _ _) | (with_reducible show wpAny _ _ (subscriptTail _ _ (Value.ref _) _) _ _ _) | (with_reducible show CmEnd _ _ _ _ _ _ _ _ _ _ _ _) | (with_reducible show FgEnd _ _ _ _ _ _ _ _ _ _ _) | (with_reducible show Exists _) | (with_reducible show TurnEnd _ _ _ _ _ _ _ _ _) | (with_reducible show ForSrc _ _ _ _ _ _ _ _ _ _ _))); tb_rel)
        refine ⟨oC4, _, _, ⟨ok9.os.trans ok8.os, fun h => ok9.gens (ok8.gens h)⟩, F9, fun q hq => N9 q (List.mem_cons_of_mem _ hq), hC6, off5, hS5, rfl, ?_⟩
        rw [List.take_add_one, hf, List.map_append]
        exact strs_snoc (y := apW f) hzs
    · rintro zs led2 s5 ⟨rfl, hzs⟩ ok5 F6 N6 offD5 offC5
      rw [show (chn 4 (numOf n.fs)).take iv.length = chn 4 (numOf n.fs) from List.take_of_length_le (Nat.le_of_eq (by first | assumption | (symm; assumption))), chain_ap gn.len gn.le gn.hd] at hzs
      repeat' ((fail_if_success (first | (with_reducible show wpAny _ _ (exec (Stmt.While _ _ _ _) _) _ _ _) | (with_reducible show wpAny _ _ (exec (Stmt.For _ _ _ _ _) _) _ _ _) | (with_reducible show wpAny _ _ (exec (Stmt.Assign _ (Expr.ListComp _ _ _ _) _) _) _ _ _) | (with_reducible show wpAny _ _ (eval (Expr.ListComp _ _ _ _) _) _ _ _) | (with_reducible show wpAny _ _ (pyIter _) _ _ _) | (with_reducible show wpAny _ _ (call (Value.ref _) _ _) _ _ _) | (with_reducible show wpAny _ _ (call (Value.builtin "chr") _) _ _ _) | (with_reducible show wpAny _ _ (call (Value.builtin "str.join") _ _) _ _ _) | (with_reducible show wpAny _ _ (call (Value.builtin "list.append") _) _ _ _) | (with_reducible show wpAny _ _ (subscriptTail _ _ (Value.ref _) _) _ _ _) | (with_reducible show CmEnd _ _ _ _ _ _ _ _ _ _ _ _) | (with_reducible show FgEnd _ _ _ _ _ _ _ _ _ _ _) | (with_reducible show Exists _) | (with_reducible show TurnEnd _ _ _ _ _ _ _ _ _) | (with_reducible show ForSrc _ _ _ _ _ _ _ _ _ _ _))); tb_rel)
      have NJ : News h₀ L s5.heap ((767, tabObj ps') :: (D2, LCg.lst zs) :: (R2, listOf iv.toArray c2) :: (I, oI) :: (lsA, listOf vs.toArray k) :: led) := fun q hq => N6 q (by
        rcases List.mem_cons.mp hq with rfl | hq
        · exact List.mem_cons_of_mem _ (List.mem_cons_of_mem _ (List.mem_cons_of_mem _ (List.mem_cons_self ..)))
        rcases List.mem_cons.mp hq with rfl | hq
        · exact List.mem_cons_self ..
        rcases List.mem_cons.mp hq with rfl | hq
        · exact List.mem_cons_of_mem _ (List.mem_cons_self ..)
        rcases List.mem_cons.mp hq with rfl | hq
        · exact List.mem_cons_of_mem _ (List.mem_cons_of_mem _ (List.mem_cons_self ..))
        exact List.mem_cons_of_mem _ (List.mem_cons_of_mem _ (List.mem_cons_of_mem _ (List.mem_cons_of_mem _ hq))))
      have hgood : Pl.Good (wdOf n.fs) := good_wd gn.len gn.le
      have hclen : (Pl.chS (wdOf n.fs)).length ≤ 1000 := by
        unfold Pl.chS
        rw [List.length_map, Pl.chain_len]
        have := hgood.1
        exact Nat.succ_le_succ (lel this rfl)
      refine c_join D2 zs (Pl.chS (wdOf n.fs)) _ ps' _ B F6 X NJ T rfl rfl rfl rfl (Nat.le_of_ble_eq_true rfl) (Nat.le_of_ble_eq_true rfl) (List.mem_cons_self ..) hzs (Pl.chS40 hgood) hclen ht' ?h767 (fun t9 ps9 s9 ht9 F9 N9 ok9 => ?_)
      case h767 =>
        intro q hq
        rcases List.mem_cons.mp hq with rfl | hq
        · exact Nat.ne_of_gt (lt4 (767, _) (List.mem_cons_of_mem _ (List.mem_cons_of_mem _ (List.mem_cons_self ..))))
        rcases List.mem_cons.mp hq with rfl | hq
        · exact Nat.ne_of_gt (hR2 (767, _) (List.mem_cons_of_mem _ (List.mem_cons_self ..)))
        rcases List.mem_cons.mp hq with rfl | hq
        · exact Ne.symm (off (767, _) (List.mem_cons_self ..))
        rcases List.mem_cons.mp hq with rfl | hq
        · exact hP2
        exact (hP q hq).1
      repeat' ((fail_if_success (first | (with_reducible show wpAny _ _ (exec (Stmt.While _ _ _ _) _) _ _ _) | (with_reducible show wpAny _ _ (exec (Stmt.For _ _ _ _ _) _) _ _ _) | (with_reducible show wpAny _ _ (exec (Stmt.Assign _ (Expr.ListComp _ _ _ _) _) _) _ _ _) | (with_reducible show wpAny _ _ (eval (Expr.ListComp _ _ _ _) _) _ _ _) | (with_reducible show wpAny _ _ (pyIter _) _ _ _) | (with_reducible show wpAny _ _ (call (Value.ref _) _ _) _ _ _) | (with_reducible show wpAny _ _ (call (Value.builtin "chr") _) _ _ _) | (with_reducible show wpAny _ _ (call (Value.builtin "str.join") _ _) _ _ _) | (with_reducible show wpAny _ _ (call (Value.builtin "list.append") _) _ _ _) | (with_reducible show wpAny _ _ (subscriptTail _ _ (Value.ref _) _) _ _ _) | (with_reducible show CmEnd _ _ _ _ _ _ _ _ _ _ _ _) | (with_reducible show FgEnd _ _ _ _ _ _ _ _ _ _ _) | (with_reducible show Exists _) | (with_reducible show TurnEnd _ _ _ _ _ _ _ _ _) | (with_reducible show ForSrc _ _ _ _ _ _ _ _ _ _ _))); tb_rel)
      have vlen := strs_length hvs
      rw [List.length_map] at vlen
      have tlen : (nums.take i).length ≤ nums.length := by rw [List.length_take]; exact Nat.min_le_right ..
      refine append_led (pre := [(767, tabObj ps9), (D2, LCg.lst zs), (R2, listOf iv.toArray c2), (I, oI)]) F9 N9 ?e1 ?e2 (lee vlen (Nat.le_trans tlen (by assumption)) (by rfl)) (fun h12 F12 N12 => ?_)
      case e1 =>
        intro q hq
        rcases List.mem_cons.mp hq with rfl | hq
        · exact Ne.symm hP2
        rcases List.mem_cons.mp hq with rfl | hq
        · exact Nat.ne_of_gt (lt4 (lsA, _) (List.mem_cons_of_mem _ (List.mem_cons_of_mem _ (List.mem_cons_of_mem _ (List.mem_cons_self ..)))))
        rcases List.mem_cons.mp hq with rfl | hq
        · exact Nat.ne_of_gt (hR2 (lsA, _) (List.mem_cons_of_mem _ (List.mem_cons_of_mem _ (List.mem_cons_self ..))))
        rw [List.mem_singleton.mp hq]
        exact Ne.symm (off (lsA, _) (List.mem_cons_of_mem _ (List.mem_cons_self ..)))
      case e2 => exact fun q hq => (hP q hq).2
      repeat' ((fail_if_success (first | (with_reducible show wpAny _ _ (exec (Stmt.While _ _ _ _) _) _ _ _) | (with_reducible show wpAny _ _ (exec (Stmt.For _ _ _ _ _) _) _ _ _) | (with_reducible show wpAny _ _ (exec (Stmt.Assign _ (Expr.ListComp _ _ _ _) _) _) _ _ _) | (with_reducible show wpAny _ _ (eval (Expr.ListComp _ _ _ _) _) _ _ _) | (with_reducible show wpAny _ _ (pyIter _) _ _ _) | (with_reducible show wpAny _ _ (call (Value.ref _) _ _) _ _ _) | (with_reducible show wpAny _ _ (call (Value.builtin "chr") _) _ _ _) | (with_reducible show wpAny _ _ (call (Value.builtin "str.join") _ _) _ _ _) | (with_reducible show wpAny _ _ (call (Value.builtin "list.append") _) _ _ _) | (with_reducible show wpAny _ _ (subscriptTail _ _ (Value.ref _) _) _ _ _) | (with_reducible show CmEnd _ _ _ _ _ _ _ _ _ _ _ _) | (with_reducible show FgEnd _ _ _ _ _ _ _ _ _ _ _) | (with_reducible show Exists _) | (with_reducible show TurnEnd _ _ _ _ _ _ _ _ _) | (with_reducible show ForSrc _ _ _ _ _ _ _ _ _ _ _))); tb_rel)
      refine ⟨_, (767, tabObj ps9) :: (lsA, listOf (vs ++ [Value.str (joinP (Pl.chS (wdOf n.fs))) t9]).toArray (k + 1)) :: led, ⟨(ok9.os.trans ok5.os).trans ok₂.os, fun h => ok9.gens (ok5.gens (ok₂.gens h))⟩, F12, fun q hq => N12 q ?_, ?_, .inr ⟨_, List.mem_cons_of_mem _ (List.mem_cons_of_mem _ hR), rfl, _, rfl⟩, L3J.mk ps9 _ (k + 1) ht9 ?_ rfl rfl ?_⟩
      · rcases List.mem_cons.mp hq with rfl | hq
        · exact List.mem_cons_of_mem _ (List.mem_cons_of_mem _ (List.mem_cons_of_mem _ (List.mem_cons_self ..)))
        rcases List.mem_cons.mp hq with rfl | hq
        · exact List.mem_cons_self ..
        exact List.mem_cons_of_mem _ (List.mem_cons_of_mem _ (List.mem_cons_of_mem _ (List.mem_cons_of_mem _ hq)))
      · intro q hq
        rcases List.mem_cons.mp hq with rfl | hq
        · exact off (767, tabObj ps') (List.mem_cons_self ..)
        rcases List.mem_cons.mp hq with rfl | hq
        · exact off (lsA, listOf vs.toArray k) (List.mem_cons_of_mem _ (List.mem_cons_self ..))
        exact off q (List.mem_cons_of_mem _ (List.mem_cons_of_mem _ hq))
      · rw [List.take_add_one, hn9, List.map_append]
        exact strs_snoc hvs
      · intro y h1 h2
        show (if y = Str.ofString "figures" then _ else if y = Str.ofString "sign" then _ else _) = _
        rw [if_neg h2, if_neg h1]
        exact hmm y h1 h2
  · intro m₁ led' s₁ E' hJ9 ok₁ F₁ N₁ off
    refine hJ9.out fun ps' vs k hled9 ht' hvs hm3 hm4 hmm => ?_
    refine hideG fun PG9 hG9 => ?_
    obtain rfl := hled9
    refine hG9 ?_
    try clear hG9 PG9
    clear hJ9
    rw [show nums.take (nums.map fun n => Value.ref n.ra).length = nums from List.take_of_length_le (by simp)] at hvs
    repeat' ((fail_if_success (first | (with_reducible show wpAny _ _ (exec (Stmt.While _ _ _ _) _) _ _ _) | (with_reducible show wpAny _ _ (exec (Stmt.For _ _ _ _ _) _) _ _ _) | (with_reducible show wpAny _ _ (exec (Stmt.Assign _ (Expr.ListComp _ _ _ _) _) _) _ _ _) | (with_reducible show wpAny _ _ (eval (Expr.ListComp _ _ _ _) _) _ _ _) | (with_reducible show wpAny _ _ (pyIter _) _ _ _) | (with_reducible show wpAny _ _ (call (Value.ref _) _ _) _ _ _) | (with_reducible show wpAny _ _ (call (Value.builtin "chr") _) _ _ _) | (with_reducible show wpAny _ _ (call (Value.builtin "str.join") _ _) _ _ _) | (with_reducible show wpAny _ _ (call (Value.builtin "list.append") _) _ _ _) | (with_reducible show wpAny _ _ (subscriptTail _ _ (Value.ref _) _) _ _ _) | (with_reducible show CmEnd _ _ _ _ _ _ _ _ _ _ _ _) | (with_reducible show FgEnd _ _ _ _ _ _ _ _ _ _ _) | (with_reducible show Exists _) | (with_reducible show TurnEnd _ _ _ _ _ _ _ _ _) | (with_reducible show ForSrc _ _ _ _ _ _ _ _ _ _ _))); tb_rel)
    exact ret ps' vs k _ m₁ ht' hvs hmm F₁ N₁ ⟨ok₁.os, ok₁.gens⟩
end
section
open PySem PySem.W PySem.Spec PySem.Calls PyProof.Rows
theorem ex_cell {names : List (Str × NameKind)} (h1 : ∀ h : Heap, pushCells h names = h.push cellObj) : ∀ h : Heap, ∀ p ∈ [(h.objs.size, cellObj)], (pushCells h names).get? p.1 = some p.2 ∧ h.objs.size ≤ p.1 := by
  intro h p hp
  rw [List.mem_singleton.mp hp, h1]
  exact ⟨Heap.get?_push_size _ rfl, Nat.le_refl _⟩
theorem off3_adr {I C D : Addr} {l l' : List Ent} (h : LCg.Off3 I C D l) (e : l'.map (·.1) = l.map (·.1)) : LCg.Off3 I C D l' := LCg.Off3.of fun p hp => by
  have h1 : p.1 ∈ l'.map (·.1) := List.mem_map_of_mem hp
  rw [e] at h1
  refine hideG fun PG9 hG9 => ?_
  obtain ⟨r, hr, hq⟩ := List.mem_map.mp h1
  have := h.mem r hr
  rw [hq] at this
  refine hG9 ?_
  try clear hG9 PG9
  exact this
section
variable {prog : Program} {w : World} {A : Around} {E : Value → Shared → Prop} {s : Shared} {h₀ : Heap} {L : Addr} {led : List Ent}
theorem strs_eqAt {B : Around} {vs us : List Value} {ws : List Str} (hv : StrsAre vs ws) (hu : StrsAre us ws) : ∀ (j : Nat) (h1 : j < vs.length) (h2 : j < us.length), SeqAt.EqAt B s vs[j] us[j] true := by
  induction hv generalizing us with
  | nil => intro j h1; exact absurd h1 (Nat.not_lt_zero _)
  | cons y t _ ih =>
    cases hu with
    | cons _ u hu =>
      intro j h1 h2
      cases j with
      | zero =>
        have := SeqAt.EqAt.str_str (A := B) (s := s) y t y u
        rw [show (y == y) = true from beq_self_eq_true y] at this
        exact this
      | succ j => exact ih hu j (Nat.lt_of_succ_lt_succ h1) (Nat.lt_of_succ_lt_succ h2)
theorem ne_strs_led {l b : Addr} {vs us : List Value} {ws : List Str} {n k : Nat} {Q : Value → Shared → Prop} (N : News h₀ L s.heap led) (ha : (l, listOf vs.toArray n) ∈ led) (hb : (b, listOf us.toArray k) ∈ led) (hv : StrsAre vs ws) (hu : StrsAre us ws) (hr : A.units < cLine) (h : Q (.bool false) s) :
    wpAny (model prog w) A (compareOp .NotEq (.ref l) (.ref b)) Q E s := by
  have hl : s.heap.IsList l vs.toArray := ⟨_, (N _ ha).1, rfl, _, rfl⟩
  have hb' : s.heap.IsList b us.toArray := ⟨_, (N _ hb).1, rfl, _, rfl⟩
  have e1 := strs_length hv
  have e2 := strs_length hu
  refine SeqAt.RcNeAt.lists (e := fun _ => true) hl hb' (by simp; omega) hr (fun j h1 h2 => ?_) prog w E Q ?_
  · have := strs_eqAt (B := A.in1) (s := s) hv hu j (by simpa using h1) (by simpa using h2)
    simpa using this
  · have : (List.range vs.toArray.size).all (fun _ => true) = true := by simp
    rw [this]
    exact h
end
theorem seg4 : ∀ {w : World} {p : Program} {loose : List Str} {mean : ExcName → Option Value} {mg mb : Str → Option Value}
  {A₀ : Around} {base h₀ : Heap} {L fa : Addr} {m : Fm} {s : Shared} {Q : Flow → Shared → Prop} {E : Value → Shared → Prop}
  (lsA wA : Addr) (lv wv : List Value) (k1 k2 : Nat) (nums : List Num) (led : List Ent)
  (B : Below A₀ base [] h₀) (F : Fr h₀ L s.heap m) (X : (KK w.params).In h₀) (N : News h₀ L s.heap (led)) (T : Top p loose mean mg mb h₀)
  (hm1 : m (Str.ofString "lines") = some (.ref lsA)) (hm2 : m (Str.ofString "words") = some (.ref wA)) (hn : nums.length ≤ 1000) (hg : ∀ n ∈ nums, n.Good) (hls : (lsA, listOf lv.toArray k1) ∈ led) (hlv : StrsAre lv (nums.map fun n => joinP (Pl.chS (wdOf n.fs)))) (hws : (wA, listOf wv.toArray k2) ∈ led) (hwv : StrsAre wv (nums.map fun n => wordOf n.fs))
  (ret : ∀ s', Fr h₀ L s'.heap m → News h₀ L s'.heap led → Ok s s' → Q .next s'),
  wpAny (model PySem.Challenge.rw_ik0072_01.row.toRowW.prog w) (lawA L fa) (exec (lawAt 4) (lawEnv L fa)) Q E s := by
  k_fill
  intro w p loose mean mg mb A₀ base h₀ L fa m s Q E lsA wA lv wv k1 k2 nums led B F X N T hm1 hm2 hn hg hls hlv hws hwv ret
  unfold lawA lawEnv
  generalize hsc : lawScope = sc
  generalize hst : lawAt 4 = stm
  conv at hsc => lhs; whnf
  conv at hst => lhs; whnf
  refine hideG fun PG9 hG9 => ?_
  subst hsc
  subst hst
  obtain ⟨u, hu⟩ := form2 hm1 hm2
  subst hu
  refine hG9 ?_
  try clear hG9 PG9
  repeat' ((fail_if_success (first | (with_reducible show wpAny _ _ (exec (Stmt.While _ _ _ _) _) _ _ _) | (with_reducible show wpAny _ _ (exec (Stmt.For _ _ _ _ _) _) _ _ _) | (with_reducible show wpAny _ _ (exec (Stmt.Assign _ (Expr.ListComp _ _ _ _) _) _) _ _ _) | (with_reducible show wpAny _ _ (eval (Expr.ListComp _ _ _ _) _) _ _ _) | (with_reducible show wpAny _ _ (pyIter _) _ _ _) | (with_reducible show wpAny _ _ (call (Value.ref _) _ _) _ _ _) | (with_reducible show wpAny _ _ (subscriptTail _ _ (Value.ref _) _) _ _ _) | (with_reducible show wpAny _ _ (storeName _ (Str.ofString "word") _) _ _ _) | (with_reducible show wpAny _ _ (compareOp _ (Value.ref _) (Value.ref _)) _ _ _) | (with_reducible show CmEnd _ _ _ _ _ _ _ _ _ _ _ _) | (with_reducible show Exists _) | (with_reducible show TurnEnd _ _ _ _ _ _ _ _ _) | (with_reducible show ForSrc _ _ _ _ _ _ _ _ _ _ _))); tb_rel)
  refine cx_eval (fun n => [(Str.ofString "word", n)]) (fun n => [(n, cellObj)]) F rfl (fun _ => rfl) (ex_cell fun _ => rfl) rfl (by decide) ?_
  repeat' ((fail_if_success (first | (with_reducible show wpAny _ _ (exec (Stmt.While _ _ _ _) _) _ _ _) | (with_reducible show wpAny _ _ (exec (Stmt.For _ _ _ _ _) _) _ _ _) | (with_reducible show wpAny _ _ (exec (Stmt.Assign _ (Expr.ListComp _ _ _ _) _) _) _ _ _) | (with_reducible show wpAny _ _ (eval (Expr.ListComp _ _ _ _) _) _ _ _) | (with_reducible show wpAny _ _ (pyIter _) _ _ _) | (with_reducible show wpAny _ _ (call (Value.ref _) _ _) _ _ _) | (with_reducible show wpAny _ _ (subscriptTail _ _ (Value.ref _) _) _ _ _) | (with_reducible show wpAny _ _ (storeName _ (Str.ofString "word") _) _ _ _) | (with_reducible show wpAny _ _ (compareOp _ (Value.ref _) (Value.ref _)) _ _ _) | (with_reducible show CmEnd _ _ _ _ _ _ _ _ _ _ _ _) | (with_reducible show Exists _) | (with_reducible show TurnEnd _ _ _ _ _ _ _ _ _) | (with_reducible show ForSrc _ _ _ _ _ _ _ _ _ _ _))); tb_rel)
  have wlen := strs_length hwv
  rw [List.length_map] at wlen
  refine cx_list (vs := wv) (fun C i ys led' => ∃ oW vW, led' = (C + 1, oW) :: led ∧ oW.data = .cell vW ∧ StrsAre ys ((nums.take i).map fun n => joinP (Pl.chS (wdOf n.fs)))) rfl F N (.inr ⟨_, hws, rfl, _, rfl⟩) (lee wlen (by assumption) (by rfl)) (fun I C D s₃ ok₀ lt1 lt2 => ⟨⟨_, _, rfl, rfl, .nil⟩, ?_, ?_⟩)
  · intro i ys led' v s₁ oI oC mC E' hi hv hJ911 hC ok₁ F₁ N₁ off ne hS
    refine hideG fun PG9 hG9 => ?_
    obtain ⟨oW, vW, rfl, dW, hys⟩ := hJ911
    obtain ⟨y, yt, hy, rfl⟩ := strs_get hwv hv
    rw [List.getElem?_map] at hy
    obtain ⟨n, hn9, rfl⟩ := Option.map_eq_some_iff.mp hy
    have gn := hg n (List.mem_of_getElem? hn9)
    have hyl : (wordOf n.fs).length ≤ 3 := by
      unfold wordOf
      rw [Pl.st_len]
      exact (good_wd gn.len gn.le).1
    refine hG9 ?_
    try clear hG9 PG9
    generalize hwd : wordOf n.fs = y at hyl hv hy
    have o3 := off.mem
    have zw := o3 (C + 1, oW) (List.mem_cons_self ..)
    have lC : ∀ p ∈ led, @Ne Nat p.1 (C + 1) := fun p hp => Nat.ne_of_lt (Nat.lt_trans (lt2 p hp) (Nat.lt_succ_of_lt lt1))
    refine asg_cell (pre := [(I, oI), (C, oC), (D, LCg.lst ys)]) (post := led) rfl rfl rfl F₁ N₁ dW ?e1 lC (fun oW2 h2 dW2 F₂ N₂ => ?_)
    case e1 =>
      intro p hp
      rcases List.mem_cons.mp hp with rfl | hp
      · exact Ne.symm zw.1
      rcases List.mem_cons.mp hp with rfl | hp
      · exact Ne.symm zw.2.1
      rw [List.mem_singleton.mp hp]
      exact Ne.symm zw.2.2
    refine wpAny_pure ?_
    rw [if_pos rfl]
    simp only [List.cons_append, List.nil_append] at N₂
    repeat' ((fail_if_success (first | (with_reducible show wpAny _ _ (exec (Stmt.While _ _ _ _) _) _ _ _) | (with_reducible show wpAny _ _ (exec (Stmt.For _ _ _ _ _) _) _ _ _) | (with_reducible show wpAny _ _ (exec (Stmt.Assign _ (Expr.ListComp _ _ _ _) _) _) _ _ _) | (with_reducible show wpAny _ _ (eval (Expr.ListComp _ _ _ _) _) _ _ _) | (with_reducible show wpAny _ _ (pyIter _) _ _ _) | (with_reducible show wpAny _ _ (call (Value.ref _) _ _) _ _ _) | (with_reducible show wpAny _ _ (subscriptTail _ _ (Value.ref _) _) _ _ _) | (with_reducible show wpAny _ _ (storeName _ (Str.ofString "word") _) _ _ _) | (with_reducible show wpAny _ _ (compareOp _ (Value.ref _) (Value.ref _)) _ _ _) | (with_reducible show CmEnd _ _ _ _ _ _ _ _ _ _ _ _) | (with_reducible show Exists _) | (with_reducible show TurnEnd _ _ _ _ _ _ _ _ _) | (with_reducible show ForSrc _ _ _ _ _ _ _ _ _ _ _))); tb_rel)
    refine cm_eval F₂ rfl (by decide) rfl (by decide) ?_
    repeat' ((fail_if_success (first | (with_reducible show wpAny _ _ (exec (Stmt.While _ _ _ _) _) _ _ _) | (with_reducible show wpAny _ _ (exec (Stmt.For _ _ _ _ _) _) _ _ _) | (with_reducible show wpAny _ _ (exec (Stmt.Assign _ (Expr.ListComp _ _ _ _) _) _) _ _ _) | (with_reducible show wpAny _ _ (eval (Expr.ListComp _ _ _ _) _) _ _ _) | (with_reducible show wpAny _ _ (pyIter _) _ _ _) | (with_reducible show wpAny _ _ (call (Value.ref _) _ _) _ _ _) | (with_reducible show wpAny _ _ (subscriptTail _ _ (Value.ref _) _) _ _ _) | (with_reducible show wpAny _ _ (storeName _ (Str.ofString "word") _) _ _ _) | (with_reducible show wpAny _ _ (compareOp _ (Value.ref _) (Value.ref _)) _ _ _) | (with_reducible show CmEnd _ _ _ _ _ _ _ _ _ _ _ _) | (with_reducible show Exists _) | (with_reducible show TurnEnd _ _ _ _ _ _ _ _ _) | (with_reducible show ForSrc _ _ _ _ _ _ _ _ _ _ _))); tb_rel)
    rename Fr h₀ L _ _ => F5
    rename News h₀ L _ _ => N5
    try rename IsRange _ _ _ _ _ _ _ _ => hr2
    refine src_range (n := y.length + 1) (fun j zs led2 => led2 = (I, oI) :: (C, oC) :: (D, LCg.lst ys) :: (C + 1, oW2) :: led ∧ StrsAre zs (((downs y.length).take j).map fun n => cut n y)) rfl F5 N5 hr2 ?sm (range_dn _) (by omega) (fun I2 C2 D2 s4 ok4 lt3 lt4 => ⟨⟨rfl, .nil⟩, ?_, ?_⟩)
    case sm => exact small_dn_nat (lel (by assumption) (by rfl))
    · rintro j zs led2 v s5 oI2 oC3 mC3 E5 hj ⟨t9, rfl⟩ ⟨rfl, hzs⟩ hC5 ok5 F6 N6 off5 ne5 hS5
      have hd9 : (downs y.length)[j]? = some (y.length - j) := by
        unfold downs
        rw [List.getElem?_map, List.getElem?_range hj]
        rfl
      rw [show ((y.length : Int) + (j : Int) * (-1)) = ((y.length - j : Nat) : Int) from int_dn hj]
      refine asg_name rfl rfl F6 N6 hC5 ne5 off5 (fun oC4 m4 h6 tk6 hC6 e6 e6' F7 N7 => ?_)
      refine wpAny_pure ?_
      rw [if_pos rfl]
      refine hideG fun PG9 hG9 => ?_
      obtain ⟨u4, hu4⟩ := form1 e6
      subst hu4
      refine hG9 ?_
      try clear hG9 PG9
      repeat' ((fail_if_success (first | (with_reducible show wpAny _ _ (exec (Stmt.While _ _ _ _) _) _ _ _) | (with_reducible show wpAny _ _ (exec (Stmt.For _ _ _ _ _) _) _ _ _) | (with_reducible show wpAny _ _ (exec (Stmt.Assign _ (Expr.ListComp _ _ _ _) _) _) _ _ _) | (with_reducible show wpAny _ _ (eval (Expr.ListComp _ _ _ _) _) _ _ _) | (with_reducible show wpAny _ _ (pyIter _) _ _ _) | (with_reducible show wpAny _ _ (call (Value.ref _) _ _) _ _ _) | (with_reducible show wpAny _ _ (subscriptTail _ _ (Value.ref _) _) _ _ _) | (with_reducible show wpAny _ _ (storeName _ (Str.ofString "word") _) _ _ _) | (with_reducible show wpAny _ _ (compareOp _ (Value.ref _) (Value.ref _)) _ _ _) | (with_reducible show CmEnd _ _ _ _ _ _ _ _ _ _ _ _) | (with_reducible show Exists _) | (with_reducible show TurnEnd _ _ _ _ _ _ _ _ _) | (with_reducible show ForSrc _ _ _ _ _ _ _ _ _ _ _))); tb_rel)
      rename Fr h₀ L _ _ => F8
      rename News h₀ L _ _ => N8
      refine ⟨oC4, _, _, ⟨rfl, id⟩, F8, N8, hC6, off5, hS5, rfl, ?_⟩
      rw [List.take_add_one, hd9, List.map_append]
      exact strs_snoc (y := cut (y.length - j) y) hzs
    · rintro zs led2 s5 ⟨rfl, hzs⟩ ok5 F6 N6 offD5 offC5
      have hdl : (downs y.length).length = y.length + 1 := by unfold downs; simp
      rw [show (downs y.length).take (y.length + 1) = downs y.length from List.take_of_length_le (Nat.le_of_eq hdl)] at hzs
      have hch : (downs y.length).map (fun n => cut n y) = Pl.chS (wdOf n.fs) := by
        rw [Pl.chS_downs, ← hwd]
        unfold wordOf
        rw [Pl.st_len]
      rw [hch] at hzs
      have hgood : Pl.Good (wdOf n.fs) := good_wd gn.len gn.le
      have hclen : (Pl.chS (wdOf n.fs)).length ≤ 1000 := by
        unfold Pl.chS
        rw [List.length_map, Pl.chain_len]
        have := hgood.1
        exact Nat.succ_le_succ (lel this rfl)
      repeat' ((fail_if_success (first | (with_reducible show wpAny _ _ (exec (Stmt.While _ _ _ _) _) _ _ _) | (with_reducible show wpAny _ _ (exec (Stmt.For _ _ _ _ _) _) _ _ _) | (with_reducible show wpAny _ _ (exec (Stmt.Assign _ (Expr.ListComp _ _ _ _) _) _) _ _ _) | (with_reducible show wpAny _ _ (eval (Expr.ListComp _ _ _ _) _) _ _ _) | (with_reducible show wpAny _ _ (pyIter _) _ _ _) | (with_reducible show wpAny _ _ (call (Value.ref _) _ _) _ _ _) | (with_reducible show wpAny _ _ (subscriptTail _ _ (Value.ref _) _) _ _ _) | (with_reducible show wpAny _ _ (storeName _ (Str.ofString "word") _) _ _ _) | (with_reducible show wpAny _ _ (compareOp _ (Value.ref _) (Value.ref _)) _ _ _) | (with_reducible show CmEnd _ _ _ _ _ _ _ _ _ _ _ _) | (with_reducible show Exists _) | (with_reducible show TurnEnd _ _ _ _ _ _ _ _ _) | (with_reducible show ForSrc _ _ _ _ _ _ _ _ _ _ _))); tb_rel)
      refine c_ll D2 zs (Pl.chS (wdOf n.fs)) _ _ B F6 X N6 T rfl rfl rfl rfl (Nat.le_of_ble_eq_true rfl) (Nat.le_of_ble_eq_true rfl) (List.mem_cons_self ..) hzs (Pl.chS40 hgood) hclen (fun t9 s9 F9 N9 ok9 => ?_)
      repeat' ((fail_if_success (first | (with_reducible show wpAny _ _ (exec (Stmt.While _ _ _ _) _) _ _ _) | (with_reducible show wpAny _ _ (exec (Stmt.For _ _ _ _ _) _) _ _ _) | (with_reducible show wpAny _ _ (exec (Stmt.Assign _ (Expr.ListComp _ _ _ _) _) _) _ _ _) | (with_reducible show wpAny _ _ (eval (Expr.ListComp _ _ _ _) _) _ _ _) | (with_reducible show wpAny _ _ (pyIter _) _ _ _) | (with_reducible show wpAny _ _ (call (Value.ref _) _ _) _ _ _) | (with_reducible show wpAny _ _ (subscriptTail _ _ (Value.ref _) _) _ _ _) | (with_reducible show wpAny _ _ (storeName _ (Str.ofString "word") _) _ _ _) | (with_reducible show wpAny _ _ (compareOp _ (Value.ref _) (Value.ref _)) _ _ _) | (with_reducible show CmEnd _ _ _ _ _ _ _ _ _ _ _ _) | (with_reducible show Exists _) | (with_reducible show TurnEnd _ _ _ _ _ _ _ _ _) | (with_reducible show ForSrc _ _ _ _ _ _ _ _ _ _ _))); tb_rel)
      refine ⟨oC, mC, (C + 1, oW2) :: led, ⟨ok9.os.trans ok5.os, fun h => ok9.gens (ok5.gens h)⟩, F9, fun q hq => N9 q (List.mem_cons_of_mem _ hq), hC, off3_adr off rfl, .inr ⟨_, List.mem_cons_of_mem _ hws, rfl, _, rfl⟩, oW2, _, rfl, dW2, ?_⟩
      rw [List.take_add_one, hn9, List.map_append]
      exact strs_snoc hys
  · intro ys led' s' hJ93 ok₁ F₁ N₁ offD offC
    refine hideG fun PG9 hG9 => ?_
    obtain ⟨oW, vW, rfl, dW, hys⟩ := hJ93
    rw [show nums.take wv.length = nums from List.take_of_length_le (Nat.le_of_eq wlen.symm)] at hys
    refine hG9 ?_
    try clear hG9 PG9
    repeat' ((fail_if_success (first | (with_reducible show wpAny _ _ (exec (Stmt.While _ _ _ _) _) _ _ _) | (with_reducible show wpAny _ _ (exec (Stmt.For _ _ _ _ _) _) _ _ _) | (with_reducible show wpAny _ _ (exec (Stmt.Assign _ (Expr.ListComp _ _ _ _) _) _) _ _ _) | (with_reducible show wpAny _ _ (eval (Expr.ListComp _ _ _ _) _) _ _ _) | (with_reducible show wpAny _ _ (pyIter _) _ _ _) | (with_reducible show wpAny _ _ (call (Value.ref _) _ _) _ _ _) | (with_reducible show wpAny _ _ (subscriptTail _ _ (Value.ref _) _) _ _ _) | (with_reducible show wpAny _ _ (storeName _ (Str.ofString "word") _) _ _ _) | (with_reducible show wpAny _ _ (compareOp _ (Value.ref _) (Value.ref _)) _ _ _) | (with_reducible show CmEnd _ _ _ _ _ _ _ _ _ _ _ _) | (with_reducible show Exists _) | (with_reducible show TurnEnd _ _ _ _ _ _ _ _ _) | (with_reducible show ForSrc _ _ _ _ _ _ _ _ _ _ _))); tb_rel)
    refine ne_strs_led N₁ (List.mem_cons_of_mem _ (List.mem_cons_of_mem _ hls)) (List.mem_cons_self ..) hlv hys (Nat.le_of_ble_eq_true rfl) ?_
    repeat' ((fail_if_success (first | (with_reducible show wpAny _ _ (exec (Stmt.While _ _ _ _) _) _ _ _) | (with_reducible show wpAny _ _ (exec (Stmt.For _ _ _ _ _) _) _ _ _) | (with_reducible show wpAny _ _ (exec (Stmt.Assign _ (Expr.ListComp _ _ _ _) _) _) _ _ _) | (with_reducible show wpAny _ _ (eval (Expr.ListComp _ _ _ _) _) _ _ _) | (with_reducible show wpAny _ _ (pyIter _) _ _ _) | (with_reducible show wpAny _ _ (call (Value.ref _) _ _) _ _ _) | (with_reducible show wpAny _ _ (subscriptTail _ _ (Value.ref _) _) _ _ _) | (with_reducible show wpAny _ _ (storeName _ (Str.ofString "word") _) _ _ _) | (with_reducible show wpAny _ _ (compareOp _ (Value.ref _) (Value.ref _)) _ _ _) | (with_reducible show CmEnd _ _ _ _ _ _ _ _ _ _ _ _) | (with_reducible show Exists _) | (with_reducible show TurnEnd _ _ _ _ _ _ _ _ _) | (with_reducible show ForSrc _ _ _ _ _ _ _ _ _ _ _))); tb_rel)
    exact ret _ F₁ (fun q hq => N₁ q (List.mem_cons_of_mem _ (List.mem_cons_of_mem _ hq))) ⟨ok₁.os, ok₁.gens⟩
end
section
open PySem PySem.W PySem.Spec PySem.Calls PyProof.Rows
theorem seg2 : ∀ {w : World} {p : Program} {loose : List Str} {mean : ExcName → Option Value} {mg mb : Str → Option Value}
  {A₀ : Around} {base h₀ : Heap} {L fa : Addr} {m : Fm} {s : Shared} {Q : Flow → Shared → Prop} {E : Value → Shared → Prop}
  (led : List Ent)
  (B : Below A₀ base [] h₀) (F : Fr h₀ L s.heap m) (X : (KK w.params).In h₀) (N : News h₀ L s.heap (led)) (T : Top p loose mean mg mb h₀)
  
  (ret : ∀ (D : Nat) s', (∀ q ∈ led, q.1 < D) → Fr h₀ L s'.heap (fun y => if y = Str.ofString "lines" then some (.ref D) else m y) → News h₀ L s'.heap ((D, listOf #[] 0) :: led) → Ok s s' → Q .next s'),
  wpAny (model PySem.Challenge.rw_ik0072_01.row.toRowW.prog w) (lawA L fa) (exec (lawAt 2) (lawEnv L fa)) Q E s := by
  k_fill
  intro w p loose mean mg mb A₀ base h₀ L fa m s Q E led B F X N T ret
  unfold lawA lawEnv
  generalize hsc : lawScope = sc
  generalize hst : lawAt 2 = stm
  conv at hsc => lhs; whnf
  conv at hst => lhs; whnf
  refine hideG fun PG9 hG9 => ?_
  subst hsc
  subst hst
  refine hG9 ?_
  try clear hG9 PG9
  repeat' ((fail_if_success (first | (with_reducible show wpAny _ _ (exec (Stmt.While _ _ _ _) _) _ _ _) | (with_reducible show wpAny _ _ (exec (Stmt.For _ _ _ _ _) _) _ _ _) | (with_reducible show wpAny _ _ (exec (Stmt.Assign _ (Expr.ListComp _ _ _ _) _) _) _ _ _) | (with_reducible show wpAny _ _ (eval (Expr.ListComp _ _ _ _) _) _ _ _) | (with_reducible show wpAny _ _ (pyIter _) _ _ _) | (with_reducible show wpAny _ _ (call (Value.ref _) _ _) _ _ _) | (with_reducible show wpAny _ _ (subscriptTail _ _ (Value.ref _) _) _ _ _) | (with_reducible show CmEnd _ _ _ _ _ _ _ _ _ _ _ _) | (with_reducible show Exists _) | (with_reducible show TurnEnd _ _ _ _ _ _ _ _ _) | (with_reducible show ForSrc _ _ _ _ _ _ _ _ _ _ _))); tb_rel)
  rename Fr h₀ L _ _ => F₂
  rename News h₀ L _ _ => N₂
  exact ret _ _ (by assumption) F₂ N₂ ⟨rfl, id⟩

theorem fold_sep : ∀ (l : List Str) (acc : Array Nat), (l.foldl (fun acc p => acc ++ (Str.ofString " ").cps ++ p.cps) acc).toList = acc.toList ++ l.flatMap fun p => 32 :: p.cps.toList
  | [], acc => by simp
  | p :: l, acc => by
    have e : (Str.ofString " ").cps = #[32] := by decide +kernel
    rw [List.foldl_cons, fold_sep l, e, List.flatMap_cons]
    simp
theorem enc_flat (w : Str) : ∀ r : List Str, enc (w :: r) = qn w ++ (r.map quoteP).flatMap fun p => 32 :: p.cps.toList
  | [] => by simp [enc]
  | v :: r => by
    show qn w ++ 32 :: enc (v :: r) = _
    rw [enc_flat v r, List.map_cons, List.flatMap_cons]
    rfl
theorem join_enc (w : Str) (r : List Str) : (joinP (w :: r)).cps.toList = enc (w :: r) := by
  rw [enc_flat]
  unfold joinP Txt.join PySem.Builtin.Str.glued
  rw [List.map_cons, List.drop_one, List.tail_cons, List.headD_cons, fold_sep]
theorem seg5 : ∀ {w : World} {p : Program} {loose : List Str} {mean : ExcName → Option Value} {mg mb : Str → Option Value}
  {A₀ : Around} {base h₀ : Heap} {L fa : Addr} {m : Fm} {s : Shared} {Q : Flow → Shared → Prop} {E : Value → Shared → Prop}
  (lsA : Addr) (lv : List Value) (k1 : Nat) (nums : List Num) (led : List Ent)
  (B : Below A₀ base [] h₀) (F : Fr h₀ L s.heap m) (X : (KK w.params).In h₀) (N : News h₀ L s.heap (led)) (T : Top p loose mean mg mb h₀)
  (hm1 : m (Str.ofString "lines") = some (.ref lsA)) (hn : nums.length ≤ 100) (hg : ∀ n ∈ nums, n.Good) (hls : (lsA, listOf lv.toArray k1) ∈ led) (hlv : StrsAre lv (nums.map fun n => joinP (Pl.chS (wdOf n.fs))))
  (ret : ∀ (D : Nat) (c : Nat) (rs : List Row) s', rs.map (·.ws) = nums.map (fun n => Pl.chS (wdOf n.fs)) → (∀ r ∈ rs, r.Good ∧ ∀ q ∈ led, q.1 < r.a) → (rs.map (·.a)).Nodup → Fr h₀ L s'.heap (fun y => if y = Str.ofString "rows" then some (.ref D) else m y) → (∀ r ∈ rs, @Ne Nat r.a D) → (∀ q ∈ led, q.1 < D) → News h₀ L s'.heap ((D, listOf (rs.map Row.ref).toArray c) :: (rs.reverse.map Row.ent ++ led)) → Ok s s' → Q .next s'),
  wpAny (model PySem.Challenge.rw_ik0072_01.row.toRowW.prog w) (lawA L fa) (exec (lawAt 5) (lawEnv L fa)) Q E s := by
  k_fill
  intro w p loose mean mg mb A₀ base h₀ L fa m s Q E lsA lv k1 nums led B F X N T hm1 hn hg hls hlv ret
  unfold lawA lawEnv
  generalize hsc : lawScope = sc
  generalize hst : lawAt 5 = stm
  conv at hsc => lhs; whnf
  conv at hst => lhs; whnf
  refine hideG fun PG9 hG9 => ?_
  subst hsc
  subst hst
  obtain ⟨u, hu⟩ := form1 hm1
  subst hu
  refine hG9 ?_
  try clear hG9 PG9
  refine cm_assign F rfl rfl rfl (by decide) rfl (by decide) rfl rfl ?_
  repeat' ((fail_if_success (first | (with_reducible show wpAny _ _ (exec (Stmt.While _ _ _ _) _) _ _ _) | (with_reducible show wpAny _ _ (exec (Stmt.For _ _ _ _ _) _) _ _ _) | (with_reducible show wpAny _ _ (exec (Stmt.Assign _ (Expr.ListComp _ _ _ _) _) _) _ _ _) | (with_reducible show wpAny _ _ (eval (Expr.ListComp _ _ _ _) _) _ _ _) | (with_reducible show wpAny _ _ (pyIter _) _ _ _) | (with_reducible show wpAny _ _ (call (Value.ref _) _ _) _ _ _) | (with_reducible show wpAny _ _ (subscriptTail _ _ (Value.ref _) _) _ _ _) | (with_reducible show CmEnd _ _ _ _ _ _ _ _ _ _ _ _) | (with_reducible show Exists _) | (with_reducible show TurnEnd _ _ _ _ _ _ _ _ _) | (with_reducible show ForSrc _ _ _ _ _ _ _ _ _ _ _))); tb_rel)
  have llen := strs_length hlv
  rw [List.length_map] at llen
  refine src_list (vs := lv) (fun i ys led' => ∃ rs : List Row, ys = rs.map Row.ref ∧ led' = rs.reverse.map Row.ent ++ led ∧ rs.map (·.ws) = (nums.take i).map (fun n => Pl.chS (wdOf n.fs)) ∧ (∀ r ∈ rs, r.Good ∧ ∀ q ∈ led, @LT.lt Nat _ q.1 r.a) ∧ (rs.map (·.a)).Nodup) rfl F N (.inr ⟨_, hls, rfl, _, rfl⟩) (lee llen (by assumption) (by rfl)) (fun I C D s₃ ok₀ lt1 lt2 => ⟨⟨[], rfl, rfl, rfl, (fun r h => nomatch h), List.nodup_nil⟩, ?_, ?_⟩)
  · intro i ys led' v s₁ oI oC mC E' hi hv hJ911 hC ok₁ F₁ N₁ off ne hS
    refine hideG fun PG9 hG9 => ?_
    obtain ⟨rs, rfl, rfl, hws, hrs, hnd⟩ := hJ911
    obtain ⟨y, yt, hy, rfl⟩ := strs_get hlv hv
    rw [List.getElem?_map] at hy
    obtain ⟨n, hn9, rfl⟩ := Option.map_eq_some_iff.mp hy
    have gn := hg n (List.mem_of_getElem? hn9)
    have hgood : Pl.Good (wdOf n.fs) := good_wd gn.len gn.le
    refine hG9 ?_
    try clear hG9 PG9
    refine asg_name rfl rfl F₁ N₁ hC ne off (fun oC1 m1 h3 tk3 hC1 e1 e1' F₃ N₃ => ?_)
    refine wpAny_pure ?_
    rw [if_pos rfl]
    refine hideG fun PG9 hG9 => ?_
    obtain ⟨u1, hu1⟩ := form1 e1
    subst hu1
    refine hG9 ?_
    try clear hG9 PG9
    repeat' ((fail_if_success (first | (with_reducible show wpAny _ _ (exec (Stmt.While _ _ _ _) _) _ _ _) | (with_reducible show wpAny _ _ (exec (Stmt.For _ _ _ _ _) _) _ _ _) | (with_reducible show wpAny _ _ (exec (Stmt.Assign _ (Expr.ListComp _ _ _ _) _) _) _ _ _) | (with_reducible show wpAny _ _ (eval (Expr.ListComp _ _ _ _) _) _ _ _) | (with_reducible show wpAny _ _ (pyIter _) _ _ _) | (with_reducible show wpAny _ _ (call (Value.ref _) _ _) _ _ _) | (with_reducible show wpAny _ _ (subscriptTail _ _ (Value.ref _) _) _ _ _) | (with_reducible show CmEnd _ _ _ _ _ _ _ _ _ _ _ _) | (with_reducible show Exists _) | (with_reducible show TurnEnd _ _ _ _ _ _ _ _ _) | (with_reducible show ForSrc _ _ _ _ _ _ _ _ _ _ _))); tb_rel)
    have hclen : (Pl.chS (wdOf n.fs)).length ≤ 4 := by
      unfold Pl.chS
      rw [List.length_map, Pl.chain_len]
      have := hgood.1
      exact Nat.succ_le_succ (lel this rfl)
    refine hideG fun PG9 hG9 => ?_
    obtain ⟨cw, cr, hce⟩ : ∃ cw cr, Pl.chS (wdOf n.fs) = cw :: cr := by
      obtain ⟨t, ht⟩ := Pl.chain_head (wdOf n.fs)
      exact ⟨_, _, by unfold Pl.chS; rw [ht]; rfl⟩
    have h40 := Pl.chS40 hgood
    have hxl : (joinP (Pl.chS (wdOf n.fs))).length ≤ 1000 := by
      unfold joinP
      have h1 := quote_sum h40
      have h2 := StrLaws.join_length_le (Str.ofString " ") ((Pl.chS (wdOf n.fs)).map quoteP)
      have h3 : Txt.join (Str.ofString " ") ((Pl.chS (wdOf n.fs)).map quoteP) = Str.join (Str.ofString " ") ((Pl.chS (wdOf n.fs)).map quoteP) := StrLaws.glued_eq_join _ _
      have h4 : (Str.ofString " ").length = 1 := by decide +kernel
      rw [h3]
      rw [List.length_map, h4] at h2
      omega
    refine hG9 ?_
    try clear hG9 PG9
    refine c_split (joinP (Pl.chS (wdOf n.fs))) yt _ (Pl.chS (wdOf n.fs)) B F₃ X N₃ T rfl rfl rfl rfl (Nat.le_of_ble_eq_true rfl) (Nat.le_of_ble_eq_true rfl) hxl (by rw [hce]; exact List.cons_ne_nil _ _) h40 (lel (by assumption) (by rfl)) (by rw [hce]; exact join_enc _ _) (fun R9 rv c9 s9 hrv hR9 F₄ N₄ ok₄ => ?_)
    repeat' ((fail_if_success (first | (with_reducible show wpAny _ _ (exec (Stmt.While _ _ _ _) _) _ _ _) | (with_reducible show wpAny _ _ (exec (Stmt.For _ _ _ _ _) _) _ _ _) | (with_reducible show wpAny _ _ (exec (Stmt.Assign _ (Expr.ListComp _ _ _ _) _) _) _ _ _) | (with_reducible show wpAny _ _ (eval (Expr.ListComp _ _ _ _) _) _ _ _) | (with_reducible show wpAny _ _ (pyIter _) _ _ _) | (with_reducible show wpAny _ _ (call (Value.ref _) _ _) _ _ _) | (with_reducible show wpAny _ _ (subscriptTail _ _ (Value.ref _) _) _ _ _) | (with_reducible show CmEnd _ _ _ _ _ _ _ _ _ _ _ _) | (with_reducible show Exists _) | (with_reducible show TurnEnd _ _ _ _ _ _ _ _ _) | (with_reducible show ForSrc _ _ _ _ _ _ _ _ _ _ _))); tb_rel)
    have hR9' : ∀ q ∈ rs.reverse.map Row.ent ++ led, @LT.lt Nat _ q.1 R9 := fun q hq => hR9 q (List.mem_cons_of_mem _ (List.mem_cons_of_mem _ (List.mem_cons_of_mem _ hq)))
    have ro3 := off.mem
    refine ⟨oC1, _, (R9, listOf rv.toArray c9) :: (rs.reverse.map Row.ent ++ led), ⟨ok₄.os, ok₄.gens⟩, F₄, fun q hq => N₄ q ?_, hC1, LCg.Off3.of fun p hp => ?_, ?_, rs ++ [⟨R9, rv, Pl.chS (wdOf n.fs), c9⟩], ?_, ?_, ?_, ?_, ?_⟩
    · rcases List.mem_cons.mp hq with rfl | hq
      · exact List.mem_cons_of_mem _ (List.mem_cons_self ..)
      rcases List.mem_cons.mp hq with rfl | hq
      · exact List.mem_cons_of_mem _ (List.mem_cons_of_mem _ (List.mem_cons_self ..))
      rcases List.mem_cons.mp hq with rfl | hq
      · exact List.mem_cons_of_mem _ (List.mem_cons_of_mem _ (List.mem_cons_of_mem _ (List.mem_cons_self ..)))
      rcases List.mem_cons.mp hq with rfl | hq
      · exact List.mem_cons_self ..
      exact List.mem_cons_of_mem _ (List.mem_cons_of_mem _ (List.mem_cons_of_mem _ (List.mem_cons_of_mem _ hq)))
    · rcases List.mem_cons.mp hp with rfl | hp
      · exact ⟨Nat.ne_of_gt (hR9 (I, oI) (List.mem_cons_self ..)), Nat.ne_of_gt (hR9 (C, oC1) (List.mem_cons_of_mem _ (List.mem_cons_self ..))), Nat.ne_of_gt (hR9 (D, _) (List.mem_cons_of_mem _ (List.mem_cons_of_mem _ (List.mem_cons_self ..))))⟩
      · exact ro3 p hp
    · exact .inr ⟨_, List.mem_cons_of_mem _ (List.mem_append_right _ hls), rfl, _, rfl⟩
    · simp [Row.ref]
    · simp [Row.ent]
    · rw [List.take_add_one, hn9, List.map_append, List.map_append, hws]
      rfl
    · intro r hr
      rcases List.mem_append.mp hr with hr | hr
      · exact hrs r hr
      · rw [List.mem_singleton.mp hr]
        exact ⟨⟨hrv, by show (Pl.chS (wdOf n.fs)).length ≤ 1000; exact lel (by assumption) (by rfl)⟩, fun q hq => hR9' q (List.mem_append_right _ hq)⟩
    · rw [List.map_append]
      refine List.nodup_append.mpr ⟨hnd, by simp, fun a ha b hb e => ?_⟩
      refine hideG fun PG9 hG9 => ?_
      obtain ⟨r, hr, rfl⟩ := List.mem_map.mp ha
      have hb' : b = R9 := List.mem_singleton.mp hb
      have := hR9' r.ent (List.mem_append_left _ (List.mem_map_of_mem (List.mem_reverse.mpr hr)))
      have h2 : r.a = R9 := e.trans hb'
      refine hG9 ?_
      try clear hG9 PG9
      exact Nat.ne_of_lt this h2
  · intro ys led' s' hJ93 ok₁ F₁ N₁ offD offC h' F₂ N₂
    refine hideG fun PG9 hG9 => ?_
    obtain ⟨rs, rfl, rfl, hws, hrs, hnd⟩ := hJ93
    rw [show nums.take lv.length = nums from List.take_of_length_le (Nat.le_of_eq llen.symm)] at hws
    refine hG9 ?_
    try clear hG9 PG9
    repeat' ((fail_if_success (first | (with_reducible show wpAny _ _ (exec (Stmt.While _ _ _ _) _) _ _ _) | (with_reducible show wpAny _ _ (exec (Stmt.For _ _ _ _ _) _) _ _ _) | (with_reducible show wpAny _ _ (exec (Stmt.Assign _ (Expr.ListComp _ _ _ _) _) _) _ _ _) | (with_reducible show wpAny _ _ (eval (Expr.ListComp _ _ _ _) _) _ _ _) | (with_reducible show wpAny _ _ (pyIter _) _ _ _) | (with_reducible show wpAny _ _ (call (Value.ref _) _ _) _ _ _) | (with_reducible show wpAny _ _ (subscriptTail _ _ (Value.ref _) _) _ _ _) | (with_reducible show CmEnd _ _ _ _ _ _ _ _ _ _ _ _) | (with_reducible show Exists _) | (with_reducible show TurnEnd _ _ _ _ _ _ _ _ _) | (with_reducible show ForSrc _ _ _ _ _ _ _ _ _ _ _))); tb_rel)
    exact ret D _ rs _ hws hrs hnd F₂ (fun r hr => offD r.ent (List.mem_append_left _ (List.mem_map_of_mem (List.mem_reverse.mpr hr)))) lt2 N₂ ⟨ok₁.os, ok₁.gens⟩
end
section
open PySem PySem.W PySem.Spec PySem.Calls PyProof.Rows
theorem seg6 : ∀ {w : World} {p : Program} {loose : List Str} {mean : ExcName → Option Value} {mg mb : Str → Option Value}
  {A₀ : Around} {base h₀ : Heap} {L fa : Addr} {m : Fm} {s : Shared} {Q : Flow → Shared → Prop} {E : Value → Shared → Prop}
  (wA rA : Addr) (wv : List Value) (k1 k2 : Nat) (nums : List Num) (rs : List Row) (ps : Array Value) (led : List Ent)
  (B : Below A₀ base [] h₀) (F : Fr h₀ L s.heap m) (X : (KK w.params).In h₀) (N : News h₀ L s.heap ((767, tabObj ps) :: led)) (T : Top p loose mean mg mb h₀)
  (hm1 : m (Str.ofString "words") = some (.ref wA)) (hm2 : m (Str.ofString "rows") = some (.ref rA)) (hn : nums.length ≤ 100) (hg : ∀ n ∈ nums, n.Good) (hws : (wA, listOf wv.toArray k1) ∈ led) (hwv : StrsAre wv (nums.map fun n => wordOf n.fs)) (hrA : (rA, listOf (rs.map Row.ref).toArray k2) ∈ led) (hrs : rs.map (·.ws) = nums.map (fun n => Pl.chS (wdOf n.fs))) (hrg : ∀ r ∈ rs, r.Good ∧ r.ent ∈ led) (ht : TriplesOk ps.toList) (hP : ∀ q ∈ led, q.1 ≠ 767)
  (ret : ∀ ps' s', TriplesOk ps'.toList → Fr h₀ L s'.heap m → News h₀ L s'.heap ((767, tabObj ps') :: led) → Ok s s' → Q .next s'),
  wpAny (model PySem.Challenge.rw_ik0072_01.row.toRowW.prog w) (lawA L fa) (exec (lawAt 6) (lawEnv L fa)) Q E s := by
  k_fill
  intro w p loose mean mg mb A₀ base h₀ L fa m s Q E wA rA wv k1 k2 nums rs ps led B F X N T hm1 hm2 hn hg hws hwv hrA hrs hrg ht hP ret
  unfold lawA lawEnv
  generalize hsc : lawScope = sc
  generalize hst : lawAt 6 = stm
  conv at hsc => lhs; whnf
  conv at hst => lhs; whnf
  refine hideG fun PG9 hG9 => ?_
  subst hsc
  subst hst
  obtain ⟨u, hu⟩ := form2 hm1 hm2
  subst hu
  refine hG9 ?_
  try clear hG9 PG9
  repeat' ((fail_if_success (first | (with_reducible show wpAny _ _ (exec (Stmt.While _ _ _ _) _) _ _ _) | (with_reducible show wpAny _ _ (exec (Stmt.For _ _ _ _ _) _) _ _ _) | (with_reducible show wpAny _ _ (exec (Stmt.Assign _ (Expr.ListComp _ _ _ _) _) _) _ _ _) | (with_reducible show wpAny _ _ (eval (Expr.ListComp _ _ _ _) _) _ _ _) | (with_reducible show wpAny _ _ (pyIter _) _ _ _) | (with_reducible show wpAny _ _ (call (Value.ref _) _ _) _ _ _) | (with_reducible show wpAny _ _ (call (Value.type "list") _) _ _ _) | (with_reducible show wpAny _ _ (compareOp _ (Value.str _ _) (Value.str _ _)) _ _ _) | (with_reducible show wpAny _ _ (subscriptTail _ _ (Value.ref _) _) _ _ _) | (with_reducible show CmEnd _ _ _ _ _ _ _ _ _ _ _ _) | (with_reducible show Exists _) | (with_reducible show TurnEnd _ _ _ _ _ _ _ _ _) | (with_reducible show ForSrc _ _ _ _ _ _ _ _ _ _ _))); tb_rel)
  refine cm_eval F rfl (by decide) rfl (by decide) ?_
  repeat' ((fail_if_success (first | (with_reducible show wpAny _ _ (exec (Stmt.While _ _ _ _) _) _ _ _) | (with_reducible show wpAny _ _ (exec (Stmt.For _ _ _ _ _) _) _ _ _) | (with_reducible show wpAny _ _ (exec (Stmt.Assign _ (Expr.ListComp _ _ _ _) _) _) _ _ _) | (with_reducible show wpAny _ _ (eval (Expr.ListComp _ _ _ _) _) _ _ _) | (with_reducible show wpAny _ _ (pyIter _) _ _ _) | (with_reducible show wpAny _ _ (call (Value.ref _) _ _) _ _ _) | (with_reducible show wpAny _ _ (call (Value.type "list") _) _ _ _) | (with_reducible show wpAny _ _ (compareOp _ (Value.str _ _) (Value.str _ _)) _ _ _) | (with_reducible show wpAny _ _ (subscriptTail _ _ (Value.ref _) _) _ _ _) | (with_reducible show CmEnd _ _ _ _ _ _ _ _ _ _ _ _) | (with_reducible show Exists _) | (with_reducible show TurnEnd _ _ _ _ _ _ _ _ _) | (with_reducible show ForSrc _ _ _ _ _ _ _ _ _ _ _))); tb_rel)
  have rlen := congrArg List.length hrs
  rw [List.length_map, List.length_map] at rlen
  have hSr : (rA, listOf (rs.map Row.ref).toArray k2) ∈ (767, tabObj ps) :: led := List.mem_cons_of_mem _ hrA
  refine src_list (vs := rs.map Row.ref) (fun i ys led' => ∃ rs2 : List Row, ys = rs2.map Row.ref ∧ led' = rs2.map Row.ent ++ (767, tabObj ps) :: led ∧ rs2.map (·.ws) = (rs.take i).map (·.ws) ∧ (∀ r ∈ rs2, r.Good ∧ ∀ q ∈ (767, tabObj ps) :: led, @LT.lt Nat _ q.1 r.a) ∧ (rs2.map (·.a)).Nodup) rfl F N (.inr ⟨_, hSr, rfl, _, rfl⟩) (by rw [List.length_map]; exact lee (by assumption) (by assumption) (by rfl)) (fun I C D s₃ ok₀ lt1 lt2 => ⟨⟨[], rfl, rfl, rfl, (fun r h => nomatch h), List.nodup_nil⟩, ?_, ?_⟩)
  · intro i ys led' v s₁ oI oC mC E' hi hv hJ911 hC ok₁ F₁ N₁ off ne hS
    refine hideG fun PG9 hG9 => ?_
    obtain ⟨rs2, rfl, rfl, hws2, hrs2, hnd⟩ := hJ911
    obtain ⟨r, hr9, rfl⟩ := map_get hv
    obtain ⟨gr, hre⟩ := hrg r (List.mem_of_getElem? hr9)
    refine hG9 ?_
    try clear hG9 PG9
    refine asg_name rfl rfl F₁ N₁ hC ne off (fun oC1 m1 h3 tk3 hC1 e1 e1' F₃ N₃ => ?_)
    refine wpAny_pure ?_
    rw [if_pos rfl]
    refine hideG fun PG9 hG9 => ?_
    obtain ⟨u1, hu1⟩ := form1 e1
    subst hu1
    refine hG9 ?_
    try clear hG9 PG9
    repeat' ((fail_if_success (first | (with_reducible show wpAny _ _ (exec (Stmt.While _ _ _ _) _) _ _ _) | (with_reducible show wpAny _ _ (exec (Stmt.For _ _ _ _ _) _) _ _ _) | (with_reducible show wpAny _ _ (exec (Stmt.Assign _ (Expr.ListComp _ _ _ _) _) _) _ _ _) | (with_reducible show wpAny _ _ (eval (Expr.ListComp _ _ _ _) _) _ _ _) | (with_reducible show wpAny _ _ (pyIter _) _ _ _) | (with_reducible show wpAny _ _ (call (Value.ref _) _ _) _ _ _) | (with_reducible show wpAny _ _ (call (Value.type "list") _) _ _ _) | (with_reducible show wpAny _ _ (compareOp _ (Value.str _ _) (Value.str _ _)) _ _ _) | (with_reducible show wpAny _ _ (subscriptTail _ _ (Value.ref _) _) _ _ _) | (with_reducible show CmEnd _ _ _ _ _ _ _ _ _ _ _ _) | (with_reducible show Exists _) | (with_reducible show TurnEnd _ _ _ _ _ _ _ _ _) | (with_reducible show ForSrc _ _ _ _ _ _ _ _ _ _ _))); tb_rel)
    have glen := gr.len
    have gvl := gr.vlen
    refine kup_listOf F₃ N₃ (List.mem_cons_of_mem _ (List.mem_cons_of_mem _ (List.mem_cons_of_mem _ (List.mem_append_right _ (List.mem_cons_of_mem _ hre))))) rfl (fun R9 c9 h9 F₄ N₄ hR9 => ?_) (by rw [sizeLine_eq]; show r.vs.length ≤ _; exact lee gvl glen (by rfl))
    repeat' ((fail_if_success (first | (with_reducible show wpAny _ _ (exec (Stmt.While _ _ _ _) _) _ _ _) | (with_reducible show wpAny _ _ (exec (Stmt.For _ _ _ _ _) _) _ _ _) | (with_reducible show wpAny _ _ (exec (Stmt.Assign _ (Expr.ListComp _ _ _ _) _) _) _ _ _) | (with_reducible show wpAny _ _ (eval (Expr.ListComp _ _ _ _) _) _ _ _) | (with_reducible show wpAny _ _ (pyIter _) _ _ _) | (with_reducible show wpAny _ _ (call (Value.ref _) _ _) _ _ _) | (with_reducible show wpAny _ _ (call (Value.type "list") _) _ _ _) | (with_reducible show wpAny _ _ (compareOp _ (Value.str _ _) (Value.str _ _)) _ _ _) | (with_reducible show wpAny _ _ (subscriptTail _ _ (Value.ref _) _) _ _ _) | (with_reducible show CmEnd _ _ _ _ _ _ _ _ _ _ _ _) | (with_reducible show Exists _) | (with_reducible show TurnEnd _ _ _ _ _ _ _ _ _) | (with_reducible show ForSrc _ _ _ _ _ _ _ _ _ _ _))); tb_rel)
    have ro3 := off.mem
    refine ⟨oC1, _, (rs2 ++ [(⟨R9, r.vs, r.ws, c9⟩ : Row)]).map Row.ent ++ (767, tabObj ps) :: led, ⟨rfl, id⟩, F₄, fun q hq => N₄ q ?_, hC1, LCg.Off3.of fun p hp => ?_, ?_, rs2 ++ [(⟨R9, r.vs, r.ws, c9⟩ : Row)], ?_, rfl, ?_, ?_, ?_⟩
    · rcases List.mem_cons.mp hq with rfl | hq
      · exact List.mem_cons_of_mem _ (List.mem_cons_self ..)
      rcases List.mem_cons.mp hq with rfl | hq
      · exact List.mem_cons_of_mem _ (List.mem_cons_of_mem _ (List.mem_cons_self ..))
      rcases List.mem_cons.mp hq with rfl | hq
      · exact List.mem_cons_of_mem _ (List.mem_cons_of_mem _ (List.mem_cons_of_mem _ (List.mem_cons_self ..)))
      rw [List.map_append, List.append_assoc] at hq
      rcases List.mem_append.mp hq with hq | hq
      · exact List.mem_cons_of_mem _ (List.mem_cons_of_mem _ (List.mem_cons_of_mem _ (List.mem_cons_of_mem _ (List.mem_append_left _ hq))))
      rcases List.mem_cons.mp hq with rfl | hq
      · exact List.mem_cons_self ..
      exact List.mem_cons_of_mem _ (List.mem_cons_of_mem _ (List.mem_cons_of_mem _ (List.mem_cons_of_mem _ (List.mem_append_right _ hq))))
    · rw [List.map_append, List.append_assoc] at hp
      rcases List.mem_append.mp hp with hp | hp
      · exact ro3 p (List.mem_append_left _ hp)
      rcases List.mem_cons.mp hp with rfl | hp
      · exact ⟨Nat.ne_of_gt (hR9 (I, oI) (List.mem_cons_self ..)), Nat.ne_of_gt (hR9 (C, oC1) (List.mem_cons_of_mem _ (List.mem_cons_self ..))), Nat.ne_of_gt (hR9 (D, _) (List.mem_cons_of_mem _ (List.mem_cons_of_mem _ (List.mem_cons_self ..))))⟩
      · exact ro3 p (List.mem_append_right _ hp)
    · exact .inr ⟨_, List.mem_append_right _ hSr, rfl, _, rfl⟩
    · simp [Row.ref]
    · rw [List.take_add_one, hr9, List.map_append, List.map_append, hws2]
      rfl
    · intro r' hr'
      rcases List.mem_append.mp hr' with hr' | hr'
      · exact hrs2 r' hr'
      · rw [List.mem_singleton.mp hr']
        exact ⟨⟨gr.are, gr.len⟩, fun q hq => hR9 q (List.mem_cons_of_mem _ (List.mem_cons_of_mem _ (List.mem_cons_of_mem _ (List.mem_append_right _ hq))))⟩
    · rw [List.map_append]
      refine List.nodup_append.mpr ⟨hnd, by simp, fun a ha b hb e => ?_⟩
      refine hideG fun PG9 hG9 => ?_
      obtain ⟨r', hr', rfl⟩ := List.mem_map.mp ha
      have hb' : b = R9 := List.mem_singleton.mp hb
      have := hR9 r'.ent (List.mem_cons_of_mem _ (List.mem_cons_of_mem _ (List.mem_cons_of_mem _ (List.mem_append_left _ (List.mem_map_of_mem hr')))))
      have h2 : r'.a = R9 := e.trans hb'
      refine hG9 ?_
      try clear hG9 PG9
      exact Nat.ne_of_lt this h2
  · intro ys led' s' hJ93 ok₁ F₁ N₁ offD offC
    refine hideG fun PG9 hG9 => ?_
    obtain ⟨rs2, rfl, rfl, hws2, hrs2, hnd⟩ := hJ93
    rw [List.length_map, List.take_length, hrs] at hws2
    refine hG9 ?_
    try clear hG9 PG9
    repeat' ((fail_if_success (first | (with_reducible show wpAny _ _ (exec (Stmt.While _ _ _ _) _) _ _ _) | (with_reducible show wpAny _ _ (exec (Stmt.For _ _ _ _ _) _) _ _ _) | (with_reducible show wpAny _ _ (exec (Stmt.Assign _ (Expr.ListComp _ _ _ _) _) _) _ _ _) | (with_reducible show wpAny _ _ (eval (Expr.ListComp _ _ _ _) _) _ _ _) | (with_reducible show wpAny _ _ (pyIter _) _ _ _) | (with_reducible show wpAny _ _ (call (Value.ref _) _ _) _ _ _) | (with_reducible show wpAny _ _ (call (Value.type "list") _) _ _ _) | (with_reducible show wpAny _ _ (compareOp _ (Value.str _ _) (Value.str _ _)) _ _ _) | (with_reducible show wpAny _ _ (subscriptTail _ _ (Value.ref _) _) _ _ _) | (with_reducible show CmEnd _ _ _ _ _ _ _ _ _ _ _ _) | (with_reducible show Exists _) | (with_reducible show TurnEnd _ _ _ _ _ _ _ _ _) | (with_reducible show ForSrc _ _ _ _ _ _ _ _ _ _ _))); tb_rel)
    have hW : rs2.map (·.ws) = (nums.map fun n => wdOf n.fs).map Pl.chS := by rw [hws2, List.map_map]; rfl
    have hGW : ∀ w ∈ nums.map (fun n => wdOf n.fs), Pl.Good w := by
      intro w hw
      refine hideG fun PG9 hG9 => ?_
      obtain ⟨n, hn9, rfl⟩ := List.mem_map.mp hw
      refine hG9 ?_
      try clear hG9 PG9
      exact good_wd (hg n hn9).len (hg n hn9).le
    have rlen2 := congrArg List.length hws2
    rw [List.length_map, List.length_map] at rlen2
    have hsum : (rs2.map (·.ws.length)).sum ≤ 100000 := by
      have e1 : rs2.map (·.ws.length) = (rs2.map (·.ws)).map List.length := by rw [List.map_map]; rfl
      rw [e1, hW]
      have := Pl.sum_chS hGW
      rw [List.length_map] at this
      exact le4 this (by assumption) (by rfl)
    have hau40 := Pl.auW_good hGW
    have haul : ((Pl.auW (nums.map fun n => wdOf n.fs)).map Pl.st).length ≤ 1000 := Nat.le_trans (Pl.nodup_le (Pl.nodup_st (Pl.auG_nodup _)) hau40) (by decide +kernel)
    refine c3_any D rs2 _ _ ((767, tabObj ps) :: led) _ B F₁ X N₁ T rfl rfl rfl rfl (Nat.le_of_ble_eq_true rfl) (Nat.le_of_ble_eq_true rfl) (fun r hr => (hrs2 r hr).1) hnd (fun q hq r hr => Nat.ne_of_lt ((hrs2 r hr).2 q hq)) (lee (by assumption) (by assumption) (by rfl)) hsum (by rw [hW]; exact Pl.at_once _ _ (Nat.lt_succ_self _)) (fun o R kr rv s3 ho hrv F₃ N₃ hR ok₃ => ?_) (fun h => by cases h)
    cases ho
    repeat' ((fail_if_success (first | (with_reducible show wpAny _ _ (exec (Stmt.While _ _ _ _) _) _ _ _) | (with_reducible show wpAny _ _ (exec (Stmt.For _ _ _ _ _) _) _ _ _) | (with_reducible show wpAny _ _ (exec (Stmt.Assign _ (Expr.ListComp _ _ _ _) _) _) _ _ _) | (with_reducible show wpAny _ _ (eval (Expr.ListComp _ _ _ _) _) _ _ _) | (with_reducible show wpAny _ _ (pyIter _) _ _ _) | (with_reducible show wpAny _ _ (call (Value.ref _) _ _) _ _ _) | (with_reducible show wpAny _ _ (call (Value.type "list") _) _ _ _) | (with_reducible show wpAny _ _ (compareOp _ (Value.str _ _) (Value.str _ _)) _ _ _) | (with_reducible show wpAny _ _ (subscriptTail _ _ (Value.ref _) _) _ _ _) | (with_reducible show CmEnd _ _ _ _ _ _ _ _ _ _ _ _) | (with_reducible show Exists _) | (with_reducible show TurnEnd _ _ _ _ _ _ _ _ _) | (with_reducible show ForSrc _ _ _ _ _ _ _ _ _ _ _))); tb_rel)
    have NJ : News h₀ L s3.heap ((767, tabObj ps) :: (R, listOf rv.toArray kr) :: led) := fun q hq => N₃ q (by
      rcases List.mem_cons.mp hq with rfl | hq
      · exact List.mem_cons_of_mem _ (List.mem_cons_self ..)
      rcases List.mem_cons.mp hq with rfl | hq
      · exact List.mem_cons_self ..
      exact List.mem_cons_of_mem _ (List.mem_cons_of_mem _ hq))
    refine c_join R rv _ _ ps _ B F₃ X NJ T rfl rfl rfl rfl (Nat.le_of_ble_eq_true rfl) (Nat.le_of_ble_eq_true rfl) (List.mem_cons_self ..) hrv hau40 haul ht ?h767 (fun t9 ps9 s9 ht9 F9 N9 ok9 => ?_)
    case h767 =>
      intro q hq
      rcases List.mem_cons.mp hq with rfl | hq
      · exact Ne.symm (hR (767, _) (List.mem_cons_self ..))
      exact hP q hq
    repeat' ((fail_if_success (first | (with_reducible show wpAny _ _ (exec (Stmt.While _ _ _ _) _) _ _ _) | (with_reducible show wpAny _ _ (exec (Stmt.For _ _ _ _ _) _) _ _ _) | (with_reducible show wpAny _ _ (exec (Stmt.Assign _ (Expr.ListComp _ _ _ _) _) _) _ _ _) | (with_reducible show wpAny _ _ (eval (Expr.ListComp _ _ _ _) _) _ _ _) | (with_reducible show wpAny _ _ (pyIter _) _ _ _) | (with_reducible show wpAny _ _ (call (Value.ref _) _ _) _ _ _) | (with_reducible show wpAny _ _ (call (Value.type "list") _) _ _ _) | (with_reducible show wpAny _ _ (compareOp _ (Value.str _ _) (Value.str _ _)) _ _ _) | (with_reducible show wpAny _ _ (subscriptTail _ _ (Value.ref _) _) _ _ _) | (with_reducible show CmEnd _ _ _ _ _ _ _ _ _ _ _ _) | (with_reducible show Exists _) | (with_reducible show TurnEnd _ _ _ _ _ _ _ _ _) | (with_reducible show ForSrc _ _ _ _ _ _ _ _ _ _ _))); tb_rel)
    have wl9 : ∀ o ∈ nums.map (fun n => wordOf n.fs), o.length ≤ 3 := by
      intro o ho
      refine hideG fun PG9 hG9 => ?_
      obtain ⟨n, hn9, rfl⟩ := List.mem_map.mp ho
      refine hG9 ?_
      try clear hG9 PG9
      unfold wordOf
      rw [Pl.st_len]
      exact (good_wd (hg n hn9).len (hg n hn9).le).1
    refine c_au wA wv (nums.map fun n => wordOf n.fs) k1 _ B F9 X N9 T rfl rfl rfl rfl (Nat.le_of_ble_eq_true rfl) (Nat.le_of_ble_eq_true rfl) (List.mem_cons_of_mem _ (List.mem_cons_of_mem _ hws)) hwv (by rw [List.length_map]; exact hn) wl9 (fun R5 v5 n5 s5 hv5 hR5 F5 N5 ok5 => ?_)
    have e5 : auOf (nums.map fun n => wordOf n.fs) = (Pl.auW (nums.map fun n => wdOf n.fs)).map Pl.st := by
      rw [← Pl.au_st, List.map_map]
      rfl
    rw [e5] at hv5
    repeat' ((fail_if_success (first | (with_reducible show wpAny _ _ (exec (Stmt.While _ _ _ _) _) _ _ _) | (with_reducible show wpAny _ _ (exec (Stmt.For _ _ _ _ _) _) _ _ _) | (with_reducible show wpAny _ _ (exec (Stmt.Assign _ (Expr.ListComp _ _ _ _) _) _) _ _ _) | (with_reducible show wpAny _ _ (eval (Expr.ListComp _ _ _ _) _) _ _ _) | (with_reducible show wpAny _ _ (pyIter _) _ _ _) | (with_reducible show wpAny _ _ (call (Value.ref _) _ _) _ _ _) | (with_reducible show wpAny _ _ (call (Value.type "list") _) _ _ _) | (with_reducible show wpAny _ _ (compareOp _ (Value.str _ _) (Value.str _ _)) _ _ _) | (with_reducible show wpAny _ _ (subscriptTail _ _ (Value.ref _) _) _ _ _) | (with_reducible show CmEnd _ _ _ _ _ _ _ _ _ _ _ _) | (with_reducible show Exists _) | (with_reducible show TurnEnd _ _ _ _ _ _ _ _ _) | (with_reducible show ForSrc _ _ _ _ _ _ _ _ _ _ _))); tb_rel)
    refine c_ll R5 v5 _ n5 _ B F5 X N5 T rfl rfl rfl rfl (Nat.le_of_ble_eq_true rfl) (Nat.le_of_ble_eq_true rfl) (List.mem_cons_self ..) hv5 hau40 haul (fun t6 s6 F6 N6 ok6 => ?_)
    repeat' ((fail_if_success (first | (with_reducible show wpAny _ _ (exec (Stmt.While _ _ _ _) _) _ _ _) | (with_reducible show wpAny _ _ (exec (Stmt.For _ _ _ _ _) _) _ _ _) | (with_reducible show wpAny _ _ (exec (Stmt.Assign _ (Expr.ListComp _ _ _ _) _) _) _ _ _) | (with_reducible show wpAny _ _ (eval (Expr.ListComp _ _ _ _) _) _ _ _) | (with_reducible show wpAny _ _ (pyIter _) _ _ _) | (with_reducible show wpAny _ _ (call (Value.ref _) _ _) _ _ _) | (with_reducible show wpAny _ _ (call (Value.type "list") _) _ _ _) | (with_reducible show wpAny _ _ (compareOp _ (Value.str _ _) (Value.str _ _)) _ _ _) | (with_reducible show wpAny _ _ (subscriptTail _ _ (Value.ref _) _) _ _ _) | (with_reducible show CmEnd _ _ _ _ _ _ _ _ _ _ _ _) | (with_reducible show Exists _) | (with_reducible show TurnEnd _ _ _ _ _ _ _ _ _) | (with_reducible show ForSrc _ _ _ _ _ _ _ _ _ _ _))); tb_rel)
    refine ne_str ?_
    rw [bne_self_eq_false]
    repeat' ((fail_if_success (first | (with_reducible show wpAny _ _ (exec (Stmt.While _ _ _ _) _) _ _ _) | (with_reducible show wpAny _ _ (exec (Stmt.For _ _ _ _ _) _) _ _ _) | (with_reducible show wpAny _ _ (exec (Stmt.Assign _ (Expr.ListComp _ _ _ _) _) _) _ _ _) | (with_reducible show wpAny _ _ (eval (Expr.ListComp _ _ _ _) _) _ _ _) | (with_reducible show wpAny _ _ (pyIter _) _ _ _) | (with_reducible show wpAny _ _ (call (Value.ref _) _ _) _ _ _) | (with_reducible show wpAny _ _ (call (Value.type "list") _) _ _ _) | (with_reducible show wpAny _ _ (compareOp _ (Value.str _ _) (Value.str _ _)) _ _ _) | (with_reducible show wpAny _ _ (subscriptTail _ _ (Value.ref _) _) _ _ _) | (with_reducible show CmEnd _ _ _ _ _ _ _ _ _ _ _ _) | (with_reducible show Exists _) | (with_reducible show TurnEnd _ _ _ _ _ _ _ _ _) | (with_reducible show ForSrc _ _ _ _ _ _ _ _ _ _ _))); tb_rel)
    exact ret ps9 _ ht9 F6 (fun q hq => N6 q (by
      rcases List.mem_cons.mp hq with rfl | hq
      · exact List.mem_cons_of_mem _ (List.mem_cons_self ..)
      exact List.mem_cons_of_mem _ (List.mem_cons_of_mem _ (List.mem_cons_of_mem _ hq)))) ⟨(((ok6.os.trans ok5.os).trans ok9.os).trans ok₃.os).trans ok₁.os, fun h => ok6.gens (ok5.gens (ok9.gens (ok₃.gens (ok₁.gens h))))⟩
end
section
open PySem PySem.W PySem.Spec PySem.Calls PyProof.Rows
theorem seg7 : ∀ {w : World} {p : Program} {loose : List Str} {mean : ExcName → Option Value} {mg mb : Str → Option Value}
  {A₀ : Around} {base h₀ : Heap} {L fa : Addr} {m : Fm} {s : Shared} {Q : Flow → Shared → Prop} {E : Value → Shared → Prop}
  (oW oK : Obj) (vW vK : Option Value) (led : List Ent)
  (B : Below A₀ base [] h₀) (F : Fr h₀ L s.heap m) (X : (KK w.params).In h₀) (N : News h₀ L s.heap ((L + 1, oW) :: (L + 1 + 1, oK) :: led)) (T : Top p loose mean mg mb h₀)
  (dK : oK.data = .cell vK) (fr : ∀ q ∈ (L + 1, oW) :: led, q.1 ≠ L + 1 + 1)
  (ret : ∀ (D : Nat) oK2 s', oK2.data = .cell (some (.ref D)) → (∀ q ∈ (L + 1, oW) :: (L + 1 + 1, oK2) :: led, q.1 < D) → Fr h₀ L s'.heap m → News h₀ L s'.heap ((D, listOf #[] 0) :: (L + 1, oW) :: (L + 1 + 1, oK2) :: led) → Ok s s' → Q .next s'),
  wpAny (model PySem.Challenge.rw_ik0072_01.row.toRowW.prog w) (lawA L fa) (exec (lawAt 7) (lawEnv L fa)) Q E s := by
  k_fill
  intro w p loose mean mg mb A₀ base h₀ L fa m s Q E oW oK vW vK led B F X N T dK fr ret
  unfold lawA lawEnv
  generalize hsc : lawScope = sc
  generalize hst : lawAt 7 = stm
  conv at hsc => lhs; whnf
  conv at hst => lhs; whnf
  refine hideG fun PG9 hG9 => ?_
  subst hsc
  subst hst
  refine hG9 ?_
  try clear hG9 PG9
  repeat' ((fail_if_success (first | (with_reducible show wpAny _ _ (exec (Stmt.While _ _ _ _) _) _ _ _) | (with_reducible show wpAny _ _ (exec (Stmt.For _ _ _ _ _) _) _ _ _) | (with_reducible show wpAny _ _ (exec (Stmt.Assign _ (Expr.ListComp _ _ _ _) _) _) _ _ _) | (with_reducible show wpAny _ _ (eval (Expr.ListComp _ _ _ _) _) _ _ _) | (with_reducible show wpAny _ _ (pyIter _) _ _ _) | (with_reducible show wpAny _ _ (call (Value.ref _) _ _) _ _ _) | (with_reducible show wpAny _ _ (call (Value.builtin "list.extend") _) _ _ _) | (with_reducible show wpAny _ _ (storeName _ (Str.ofString "known") _) _ _ _) | (with_reducible show wpAny _ _ (storeName _ (Str.ofString "word") _) _ _ _) | (with_reducible show wpAny _ _ (compareOp CmpOp.NotIn _ _) _ _ _) | (with_reducible show CmEnd _ _ _ _ _ _ _ _ _ _ _ _) | (with_reducible show FgEnd _ _ _ _ _ _ _ _ _ _ _) | (with_reducible show Exists _) | (with_reducible show TurnEnd _ _ _ _ _ _ _ _ _) | (with_reducible show ForSrc _ _ _ _ _ _ _ _ _ _ _))); tb_rel)
  rename Fr h₀ L _ _ => F₂
  rename News h₀ L _ _ => N₂
  rename _ ∧ _ => l9
  refine hideG fun PG9 hG9 => ?_
  obtain ⟨k1, k2, k3⟩ := l9
  refine hG9 ?_
  try clear hG9 PG9
  refine st_cell (pre := [_, (L + 1, oW)]) (post := led) rfl rfl rfl F₂ N₂ dK ?e1 ?e2 (fun oK2 h3 dK2 F₃ N₃ => ?_)
  case e1 =>
    intro p hp
    rcases List.mem_cons.mp hp with rfl | hp
    · exact Nat.ne_of_gt k2
    rw [List.mem_singleton.mp hp]
    exact fr (L + 1, oW) (List.mem_cons_self ..)
  case e2 => exact fun p hp => fr p (List.mem_cons_of_mem _ hp)
  repeat' ((fail_if_success (first | (with_reducible show wpAny _ _ (exec (Stmt.While _ _ _ _) _) _ _ _) | (with_reducible show wpAny _ _ (exec (Stmt.For _ _ _ _ _) _) _ _ _) | (with_reducible show wpAny _ _ (exec (Stmt.Assign _ (Expr.ListComp _ _ _ _) _) _) _ _ _) | (with_reducible show wpAny _ _ (eval (Expr.ListComp _ _ _ _) _) _ _ _) | (with_reducible show wpAny _ _ (pyIter _) _ _ _) | (with_reducible show wpAny _ _ (call (Value.ref _) _ _) _ _ _) | (with_reducible show wpAny _ _ (call (Value.builtin "list.extend") _) _ _ _) | (with_reducible show wpAny _ _ (storeName _ (Str.ofString "known") _) _ _ _) | (with_reducible show wpAny _ _ (storeName _ (Str.ofString "word") _) _ _ _) | (with_reducible show wpAny _ _ (compareOp CmpOp.NotIn _ _) _ _ _) | (with_reducible show CmEnd _ _ _ _ _ _ _ _ _ _ _ _) | (with_reducible show FgEnd _ _ _ _ _ _ _ _ _ _ _) | (with_reducible show Exists _) | (with_reducible show TurnEnd _ _ _ _ _ _ _ _ _) | (with_reducible show ForSrc _ _ _ _ _ _ _ _ _ _ _))); tb_rel)
  refine ret _ oK2 _ dK2 (fun q hq => ?_) F₃ N₃ ⟨rfl, id⟩
  rcases List.mem_cons.mp hq with rfl | hq
  · exact k1
  rcases List.mem_cons.mp hq with rfl | hq
  · exact k2
  exact allLt_mem k3 q hq

theorem filter_cut_in {l : List Str} {kn : List Str} {j : Nat} {z : Str} (hz : l[j]? = some z) (h : z ∉ kn) : (l.take (j + 1)).filter (fun y => decide (y ∉ kn)) = (l.take j).filter (fun y => decide (y ∉ kn)) ++ [z] := filter_in hz (decide_eq_true h)
theorem filter_cut_out {l : List Str} {kn : List Str} {j : Nat} {z : Str} (hz : l[j]? = some z) (h : z ∈ kn) : (l.take (j + 1)).filter (fun y => decide (y ∉ kn)) = (l.take j).filter (fun y => decide (y ∉ kn)) := filter_out hz (decide_eq_false fun q => q h)
noncomputable def knS (nums : List Num) : List Str := (Pl.knOf (nums.map fun n => wdOf n.fs)).map Pl.st
theorem knS_snoc (nums : List Num) (n : Num) : knS (nums ++ [n]) = knS nums ++ (Pl.upTo (wdOf n.fs)).filter (fun y => decide (y ∉ knS nums)) := by
  unfold knS
  rw [List.map_append]
  show (Pl.knOf (_ ++ [wdOf n.fs])).map Pl.st = _
  rw [Pl.knOf_snoc, ← Pl.known_st]
theorem knS_len {nums : List Num} (hg : ∀ n ∈ nums, n.Good) : (knS nums).length ≤ 4 * nums.length := by
  unfold knS
  rw [List.length_map]
  have := Pl.knOf_len (nums.map fun n => wdOf n.fs) [] (by
    intro w hw
    refine hideG fun PG9 hG9 => ?_
    obtain ⟨n, hn9, rfl⟩ := List.mem_map.mp hw
    refine hG9 ?_
    try clear hG9 PG9
    exact good_wd (hg n hn9).len (hg n hn9).le)
  rw [List.length_map] at this
  simpa [Pl.knOf] using this
theorem seg8 : ∀ {w : World} {p : Program} {loose : List Str} {mean : ExcName → Option Value} {mg mb : Str → Option Value}
  {A₀ : Around} {base h₀ : Heap} {L fa : Addr} {m : Fm} {s : Shared} {Q : Flow → Shared → Prop} {E : Value → Shared → Prop}
  (wA K : Addr) (wv : List Value) (k1 : Nat) (nums : List Num) (oW oK : Obj) (vW : Option Value) (led : List Ent)
  (B : Below A₀ base [] h₀) (F : Fr h₀ L s.heap m) (X : (KK w.params).In h₀) (N : News h₀ L s.heap ((K, listOf #[] 0) :: (L + 1, oW) :: (L + 1 + 1, oK) :: led)) (T : Top p loose mean mg mb h₀)
  (hm1 : m (Str.ofString "words") = some (.ref wA)) (hn : nums.length ≤ 100) (hg : ∀ n ∈ nums, n.Good) (hws : (wA, listOf wv.toArray k1) ∈ led) (hwv : StrsAre wv (nums.map fun n => wordOf n.fs)) (dW : oW.data = .cell vW) (dK : oK.data = .cell (some (.ref K))) (fr : ∀ q ∈ (L + 1 + 1, oK) :: led, q.1 ≠ L + 1) (lK : ∀ q ∈ (L + 1, oW) :: (L + 1 + 1, oK) :: led, q.1 < K)
  (ret : ∀ kv kc oW2 s', StrsAre kv (knS nums) → Fr h₀ L s'.heap m → News h₀ L s'.heap ((K, listOf kv.toArray kc) :: (L + 1, oW2) :: (L + 1 + 1, oK) :: led) → Ok s s' → Q .next s'),
  wpAny (model PySem.Challenge.rw_ik0072_01.row.toRowW.prog w) (lawA L fa) (exec (lawAt 8) (lawEnv L fa)) Q E s := by
  k_fill
  intro w p loose mean mg mb A₀ base h₀ L fa m s Q E wA K wv k1 nums oW oK vW led B F X N T hm1 hn hg hws hwv dW dK fr lK ret
  unfold lawA lawEnv
  generalize hsc : lawScope = sc
  generalize hst : lawAt 8 = stm
  conv at hsc => lhs; whnf
  conv at hst => lhs; whnf
  refine hideG fun PG9 hG9 => ?_
  subst hsc
  subst hst
  obtain ⟨u, hu⟩ := form1 hm1
  subst hu
  refine hG9 ?_
  try clear hG9 PG9
  repeat' ((fail_if_success (first | (with_reducible show wpAny _ _ (exec (Stmt.While _ _ _ _) _) _ _ _) | (with_reducible show wpAny _ _ (exec (Stmt.For _ _ _ _ _) _) _ _ _) | (with_reducible show wpAny _ _ (exec (Stmt.Assign _ (Expr.ListComp _ _ _ _) _) _) _ _ _) | (with_reducible show wpAny _ _ (eval (Expr.ListComp _ _ _ _) _) _ _ _) | (with_reducible show wpAny _ _ (pyIter _) _ _ _) | (with_reducible show wpAny _ _ (call (Value.ref _) _ _) _ _ _) | (with_reducible show wpAny _ _ (call (Value.builtin "list.extend") _) _ _ _) | (with_reducible show wpAny _ _ (storeName _ (Str.ofString "known") _) _ _ _) | (with_reducible show wpAny _ _ (storeName _ (Str.ofString "word") _) _ _ _) | (with_reducible show wpAny _ _ (compareOp CmpOp.NotIn _ _) _ _ _) | (with_reducible show CmEnd _ _ _ _ _ _ _ _ _ _ _ _) | (with_reducible show FgEnd _ _ _ _ _ _ _ _ _ _ _) | (with_reducible show Exists _) | (with_reducible show TurnEnd _ _ _ _ _ _ _ _ _) | (with_reducible show ForSrc _ _ _ _ _ _ _ _ _ _ _))); tb_rel)
  refine ft_for ?_
  repeat' ((fail_if_success (first | (with_reducible show wpAny _ _ (exec (Stmt.While _ _ _ _) _) _ _ _) | (with_reducible show wpAny _ _ (exec (Stmt.For _ _ _ _ _) _) _ _ _) | (with_reducible show wpAny _ _ (exec (Stmt.Assign _ (Expr.ListComp _ _ _ _) _) _) _ _ _) | (with_reducible show wpAny _ _ (eval (Expr.ListComp _ _ _ _) _) _ _ _) | (with_reducible show wpAny _ _ (pyIter _) _ _ _) | (with_reducible show wpAny _ _ (call (Value.ref _) _ _) _ _ _) | (with_reducible show wpAny _ _ (call (Value.builtin "list.extend") _) _ _ _) | (with_reducible show wpAny _ _ (storeName _ (Str.ofString "known") _) _ _ _) | (with_reducible show wpAny _ _ (storeName _ (Str.ofString "word") _) _ _ _) | (with_reducible show wpAny _ _ (compareOp CmpOp.NotIn _ _) _ _ _) | (with_reducible show CmEnd _ _ _ _ _ _ _ _ _ _ _ _) | (with_reducible show FgEnd _ _ _ _ _ _ _ _ _ _ _) | (with_reducible show Exists _) | (with_reducible show TurnEnd _ _ _ _ _ _ _ _ _) | (with_reducible show ForSrc _ _ _ _ _ _ _ _ _ _ _))); tb_rel)
  have wlen := strs_length hwv
  rw [List.length_map] at wlen
  refine ft_list (vs := wv) (fun i mm led' => ∃ oW2 vW2 kv kc, mm = (fun z => if z = Str.ofString "words" then some (Value.ref wA) else u z) ∧ led' = (K, listOf kv.toArray kc) :: (L + 1, oW2) :: (L + 1 + 1, oK) :: led ∧ oW2.data = .cell vW2 ∧ StrsAre kv (knS (nums.take i))) rfl F N (.inr ⟨_, List.mem_cons_of_mem _ (List.mem_cons_of_mem _ (List.mem_cons_of_mem _ hws)), rfl, _, rfl⟩) ⟨_, _, [], 0, rfl, rfl, dW, .nil⟩ (fun I s₃ ok₃ lt => ⟨?_, ?_⟩)
  · intro i m₁ led' v s₁ oI E' hi hv hJ99 ok₁ F₁ N₁ off hS
    refine hideG fun PG9 hG9 => ?_
    obtain ⟨oW2, vW2, kv, kc, rfl, rfl, dW2, hkv⟩ := hJ99
    obtain ⟨y, yt, hy, rfl⟩ := strs_get hwv hv
    rw [List.getElem?_map] at hy
    obtain ⟨n, hn9, rfl⟩ := Option.map_eq_some_iff.mp hy
    have gn := hg n (List.mem_of_getElem? hn9)
    have hyl : (wordOf n.fs).length ≤ 3 := by
      unfold wordOf
      rw [Pl.st_len]
      exact (good_wd gn.len gn.le).1
    refine hG9 ?_
    try clear hG9 PG9
    generalize hwd : wordOf n.fs = y at hyl hv hy
    refine asg_cell (pre := [(I, oI), (K, listOf kv.toArray kc)]) (post := (L + 1 + 1, oK) :: led) rfl rfl rfl F₁ N₁ dW2 ?e1 fr (fun oW3 h2 dW3 F₂ N₂ => ?_)
    case e1 =>
      intro p hp
      rcases List.mem_cons.mp hp with rfl | hp
      · exact Ne.symm (off _ (List.mem_cons_of_mem _ (List.mem_cons_self ..)))
      rw [List.mem_singleton.mp hp]
      exact Nat.ne_of_gt (lK _ (List.mem_cons_self ..))
    simp only [List.cons_append, List.nil_append] at N₂
    refine hide fun Q' E' hQ hE => ?_
    repeat' ((fail_if_success (first | (with_reducible show wpAny _ _ (exec (Stmt.While _ _ _ _) _) _ _ _) | (with_reducible show wpAny _ _ (exec (Stmt.For _ _ _ _ _) _) _ _ _) | (with_reducible show wpAny _ _ (exec (Stmt.Assign _ (Expr.ListComp _ _ _ _) _) _) _ _ _) | (with_reducible show wpAny _ _ (eval (Expr.ListComp _ _ _ _) _) _ _ _) | (with_reducible show wpAny _ _ (pyIter _) _ _ _) | (with_reducible show wpAny _ _ (call (Value.ref _) _ _) _ _ _) | (with_reducible show wpAny _ _ (call (Value.builtin "list.extend") _) _ _ _) | (with_reducible show wpAny _ _ (storeName _ (Str.ofString "known") _) _ _ _) | (with_reducible show wpAny _ _ (storeName _ (Str.ofString "word") _) _ _ _) | (with_reducible show wpAny _ _ (compareOp CmpOp.NotIn _ _) _ _ _) | (with_reducible show CmEnd _ _ _ _ _ _ _ _ _ _ _ _) | (with_reducible show FgEnd _ _ _ _ _ _ _ _ _ _ _) | (with_reducible show Exists _) | (with_reducible show TurnEnd _ _ _ _ _ _ _ _ _) | (with_reducible show ForSrc _ _ _ _ _ _ _ _ _ _ _))); tb_rel)
    refine cm_eval F₂ rfl (by decide) rfl (by decide) ?_
    repeat' ((fail_if_success (first | (with_reducible show wpAny _ _ (exec (Stmt.While _ _ _ _) _) _ _ _) | (with_reducible show wpAny _ _ (exec (Stmt.For _ _ _ _ _) _) _ _ _) | (with_reducible show wpAny _ _ (exec (Stmt.Assign _ (Expr.ListComp _ _ _ _) _) _) _ _ _) | (with_reducible show wpAny _ _ (eval (Expr.ListComp _ _ _ _) _) _ _ _) | (with_reducible show wpAny _ _ (pyIter _) _ _ _) | (with_reducible show wpAny _ _ (call (Value.ref _) _ _) _ _ _) | (with_reducible show wpAny _ _ (call (Value.builtin "list.extend") _) _ _ _) | (with_reducible show wpAny _ _ (storeName _ (Str.ofString "known") _) _ _ _) | (with_reducible show wpAny _ _ (storeName _ (Str.ofString "word") _) _ _ _) | (with_reducible show wpAny _ _ (compareOp CmpOp.NotIn _ _) _ _ _) | (with_reducible show CmEnd _ _ _ _ _ _ _ _ _ _ _ _) | (with_reducible show FgEnd _ _ _ _ _ _ _ _ _ _ _) | (with_reducible show Exists _) | (with_reducible show TurnEnd _ _ _ _ _ _ _ _ _) | (with_reducible show ForSrc _ _ _ _ _ _ _ _ _ _ _))); tb_rel)
    rename Fr h₀ L _ _ => F5
    rename News h₀ L _ _ => N5
    rename IsRange _ _ _ _ _ _ _ _ => hr2
    generalize hkn : knS (nums.take i) = kn at hkv
    have knl : kn.length ≤ 400 := by
      rw [← hkn]
      have h1 := knS_len (nums := nums.take i) fun n hn9 => hg n (List.mem_of_mem_take hn9)
      have h2 : (nums.take i).length ≤ nums.length := by rw [List.length_take]; exact Nat.min_le_right ..
      exact le4 h1 (Nat.le_trans h2 (by assumption)) (by rfl)
    have kvl := strs_length hkv
    refine src_range (n := y.length + 1) (fun j zs led2 => led2 = (I, oI) :: (K, listOf kv.toArray kc) :: (L + 1, oW3) :: (L + 1 + 1, oK) :: led ∧ StrsAre zs ((((List.range (y.length + 1)).map fun q => cut q y).take j).filter fun x => decide (x ∉ kn))) rfl F5 N5 hr2 (small_up_nat (n := y.length + 1) (lel (Nat.succ_le_succ (show y.length ≤ 3 by assumption)) (by rfl))) (by have := range_up (y.length + 1); simpa using this) (lel (Nat.succ_le_succ (show y.length ≤ 3 by assumption)) (by rfl)) (fun I2 C2 D2 s4 ok4 lt3 lt4 => ⟨⟨rfl, .nil⟩, ?_, ?_⟩)
    · rintro j zs led2 v s5 oI2 oC3 mC3 E5 hj ⟨t9, rfl⟩ ⟨rfl, hzs⟩ hC5 ok5 F6 N6 off5 ne5 hS5
      have hd9 : ((List.range (y.length + 1)).map fun q => cut q y)[j]? = some (cut j y) := by
        rw [List.getElem?_map, List.getElem?_range hj]
        rfl
      rw [show ((0 : Int) + (j : Int) * 1) = ((j : Nat) : Int) from int0]
      refine asg_name rfl rfl F6 N6 hC5 ne5 off5 (fun oC4 m4 h6 tk6 hC6 e6 e6' F7 N7 => ?_)
      refine hideG fun PG9 hG9 => ?_
      obtain ⟨u4, hu4⟩ := form1 e6
      subst hu4
      refine hG9 ?_
      try clear hG9 PG9
      refine tests_hide fun QY QN hY hN => ?_
      repeat' ((fail_if_success (first | (with_reducible show wpAny _ _ (exec (Stmt.While _ _ _ _) _) _ _ _) | (with_reducible show wpAny _ _ (exec (Stmt.For _ _ _ _ _) _) _ _ _) | (with_reducible show wpAny _ _ (exec (Stmt.Assign _ (Expr.ListComp _ _ _ _) _) _) _ _ _) | (with_reducible show wpAny _ _ (eval (Expr.ListComp _ _ _ _) _) _ _ _) | (with_reducible show wpAny _ _ (pyIter _) _ _ _) | (with_reducible show wpAny _ _ (call (Value.ref _) _ _) _ _ _) | (with_reducible show wpAny _ _ (call (Value.builtin "list.extend") _) _ _ _) | (with_reducible show wpAny _ _ (storeName _ (Str.ofString "known") _) _ _ _) | (with_reducible show wpAny _ _ (storeName _ (Str.ofString "word") _) _ _ _) | (with_reducible show wpAny _ _ (compareOp CmpOp.NotIn _ _) _ _ _) | (with_reducible show CmEnd _ _ _ _ _ _ _ _ _ _ _ _) | (with_reducible show FgEnd _ _ _ _ _ _ _ _ _ _ _) | (with_reducible show Exists _) | (with_reducible show TurnEnd _ _ _ _ _ _ _ _ _) | (with_reducible show ForSrc _ _ _ _ _ _ _ _ _ _ _))); tb_rel)
      rename Fr h₀ L _ _ => F8
      rename News h₀ L _ _ => N8
      refine notin_led N8 (List.mem_cons_of_mem _ (List.mem_cons_of_mem _ (List.mem_cons_of_mem _ (List.mem_cons_of_mem _ (List.mem_cons_self ..))))) hkv ?_
      repeat' ((fail_if_success (first | (with_reducible show wpAny _ _ (exec (Stmt.While _ _ _ _) _) _ _ _) | (with_reducible show wpAny _ _ (exec (Stmt.For _ _ _ _ _) _) _ _ _) | (with_reducible show wpAny _ _ (exec (Stmt.Assign _ (Expr.ListComp _ _ _ _) _) _) _ _ _) | (with_reducible show wpAny _ _ (eval (Expr.ListComp _ _ _ _) _) _ _ _) | (with_reducible show wpAny _ _ (pyIter _) _ _ _) | (with_reducible show wpAny _ _ (call (Value.ref _) _ _) _ _ _) | (with_reducible show wpAny _ _ (call (Value.builtin "list.extend") _) _ _ _) | (with_reducible show wpAny _ _ (storeName _ (Str.ofString "known") _) _ _ _) | (with_reducible show wpAny _ _ (storeName _ (Str.ofString "word") _) _ _ _) | (with_reducible show wpAny _ _ (compareOp CmpOp.NotIn _ _) _ _ _) | (with_reducible show CmEnd _ _ _ _ _ _ _ _ _ _ _ _) | (with_reducible show FgEnd _ _ _ _ _ _ _ _ _ _ _) | (with_reducible show Exists _) | (with_reducible show TurnEnd _ _ _ _ _ _ _ _ _) | (with_reducible show ForSrc _ _ _ _ _ _ _ _ _ _ _))); tb_rel)
      · rename Txt.slice _ _ _ ∈ kn => hin0
        have hin : cut j y ∈ kn := hin0
        refine hN _ ?_
        refine ⟨oC4, _, _, ⟨rfl, id⟩, F8, N8, hC6, off5, trivial, rfl, ?_⟩
        rw [filter_cut_out hd9 hin]
        exact hzs
      · rename ¬ Txt.slice _ _ _ ∈ kn => hin0
        have hin : cut j y ∉ kn := hin0
        rename Fr h₀ L _ _ => F9
        rename News h₀ L _ _ => N9
        refine hY _ _ ?_
        refine ⟨oC4, _, _, ⟨rfl, id⟩, F9, N9, hC6, off5, trivial, rfl, ?_⟩
        rw [filter_cut_in hd9 hin]
        exact strs_snoc (y := cut j y) hzs
    · rintro zs led2 s5 ⟨rfl, hzs⟩ ok5 F6 N6 offD5 offC5
      have hdl : ((List.range (y.length + 1)).map fun q => cut q y).length = y.length + 1 := by simp
      rw [List.take_of_length_le (Nat.le_of_eq hdl)] at hzs
      repeat' ((fail_if_success (first | (with_reducible show wpAny _ _ (exec (Stmt.While _ _ _ _) _) _ _ _) | (with_reducible show wpAny _ _ (exec (Stmt.For _ _ _ _ _) _) _ _ _) | (with_reducible show wpAny _ _ (exec (Stmt.Assign _ (Expr.ListComp _ _ _ _) _) _) _ _ _) | (with_reducible show wpAny _ _ (eval (Expr.ListComp _ _ _ _) _) _ _ _) | (with_reducible show wpAny _ _ (pyIter _) _ _ _) | (with_reducible show wpAny _ _ (call (Value.ref _) _ _) _ _ _) | (with_reducible show wpAny _ _ (call (Value.builtin "list.extend") _) _ _ _) | (with_reducible show wpAny _ _ (storeName _ (Str.ofString "known") _) _ _ _) | (with_reducible show wpAny _ _ (storeName _ (Str.ofString "word") _) _ _ _) | (with_reducible show wpAny _ _ (compareOp CmpOp.NotIn _ _) _ _ _) | (with_reducible show CmEnd _ _ _ _ _ _ _ _ _ _ _ _) | (with_reducible show FgEnd _ _ _ _ _ _ _ _ _ _ _) | (with_reducible show Exists _) | (with_reducible show TurnEnd _ _ _ _ _ _ _ _ _) | (with_reducible show ForSrc _ _ _ _ _ _ _ _ _ _ _))); tb_rel)
      have zlen := strs_length hzs
      have zle := List.length_filter_le (fun x => decide (x ∉ kn)) ((List.range (y.length + 1)).map fun q => cut q y)
      refine extend_in (own := [(D2, LCg.lst zs), (I, oI)]) F6 N6 ?e5 ?e6 (N6 _ (List.mem_cons_self ..)).1 (fun h7 n7 F7 N7 => ?_) (by rw [List.size_toArray, sizeLine_eq]; exact add_lit (m := 400) (n := 4) (Nat.le_trans (Nat.le_of_eq kvl) knl) (Nat.le_trans (Nat.le_of_eq zlen) (Nat.le_trans zle (Nat.le_trans (Nat.le_of_eq hdl) (Nat.succ_le_succ (by assumption))))) rfl)
      case e5 =>
        intro p hp
        rcases List.mem_cons.mp hp with rfl | hp
        · exact Nat.ne_of_gt (lt4 (K, _) (List.mem_cons_of_mem _ (List.mem_cons_self ..)))
        rw [List.mem_singleton.mp hp]
        exact Ne.symm (off (K, _) (List.mem_cons_self ..))
      case e6 =>
        intro p hp
        rcases List.mem_cons.mp hp with rfl | hp
        · exact Nat.ne_of_lt (lK (L + 1, oW) (List.mem_cons_self ..))
        exact Nat.ne_of_lt (lK p (List.mem_cons_of_mem _ hp))
      repeat' ((fail_if_success (first | (with_reducible show wpAny _ _ (exec (Stmt.While _ _ _ _) _) _ _ _) | (with_reducible show wpAny _ _ (exec (Stmt.For _ _ _ _ _) _) _ _ _) | (with_reducible show wpAny _ _ (exec (Stmt.Assign _ (Expr.ListComp _ _ _ _) _) _) _ _ _) | (with_reducible show wpAny _ _ (eval (Expr.ListComp _ _ _ _) _) _ _ _) | (with_reducible show wpAny _ _ (pyIter _) _ _ _) | (with_reducible show wpAny _ _ (call (Value.ref _) _ _) _ _ _) | (with_reducible show wpAny _ _ (call (Value.builtin "list.extend") _) _ _ _) | (with_reducible show wpAny _ _ (storeName _ (Str.ofString "known") _) _ _ _) | (with_reducible show wpAny _ _ (storeName _ (Str.ofString "word") _) _ _ _) | (with_reducible show wpAny _ _ (compareOp CmpOp.NotIn _ _) _ _ _) | (with_reducible show CmEnd _ _ _ _ _ _ _ _ _ _ _ _) | (with_reducible show FgEnd _ _ _ _ _ _ _ _ _ _ _) | (with_reducible show Exists _) | (with_reducible show TurnEnd _ _ _ _ _ _ _ _ _) | (with_reducible show ForSrc _ _ _ _ _ _ _ _ _ _ _))); tb_rel)
      refine hQ _ _ ?_
      refine ⟨_, (K, listOf (kv ++ zs).toArray n7) :: (L + 1, oW3) :: (L + 1 + 1, oK) :: led, ⟨ok5.os, ok5.gens⟩, F7, fun q hq => N7 q (List.mem_cons_of_mem _ hq), ?_, .inr ⟨_, List.mem_cons_of_mem _ (List.mem_cons_of_mem _ (List.mem_cons_of_mem _ hws)), rfl, _, rfl⟩, oW3, _, kv ++ zs, n7, rfl, rfl, dW3, ?_⟩
      · intro p hp
        rcases List.mem_cons.mp hp with rfl | hp
        · exact off (K, listOf kv.toArray kc) (List.mem_cons_self ..)
        rcases List.mem_cons.mp hp with rfl | hp
        · exact off (L + 1, oW2) (List.mem_cons_of_mem _ (List.mem_cons_self ..))
        exact off p (List.mem_cons_of_mem _ (List.mem_cons_of_mem _ hp))
      · rw [List.take_add_one, hn9]
        show StrsAre _ (knS (nums.take i ++ [n]))
        rw [knS_snoc, hkn]
        have hup : Pl.upTo (wdOf n.fs) = (List.range (y.length + 1)).map fun q => cut q y := by
          unfold Pl.upTo
          rw [← hwd]
          unfold wordOf
          rw [Pl.st_len]
        rw [hup]
        exact strs_app hkv hzs
  · intro m₁ led' s₁ E' hJ94 ok₁ F₁ N₁ off
    refine hideG fun PG9 hG9 => ?_
    obtain ⟨oW2, vW2, kv, kc, rfl, rfl, dW2, hkv⟩ := hJ94
    refine hG9 ?_
    try clear hG9 PG9
    rw [show nums.take wv.length = nums from List.take_of_length_le (Nat.le_of_eq (by first | assumption | (symm; assumption)))] at hkv
    repeat' ((fail_if_success (first | (with_reducible show wpAny _ _ (exec (Stmt.While _ _ _ _) _) _ _ _) | (with_reducible show wpAny _ _ (exec (Stmt.For _ _ _ _ _) _) _ _ _) | (with_reducible show wpAny _ _ (exec (Stmt.Assign _ (Expr.ListComp _ _ _ _) _) _) _ _ _) | (with_reducible show wpAny _ _ (eval (Expr.ListComp _ _ _ _) _) _ _ _) | (with_reducible show wpAny _ _ (pyIter _) _ _ _) | (with_reducible show wpAny _ _ (call (Value.ref _) _ _) _ _ _) | (with_reducible show wpAny _ _ (call (Value.builtin "list.extend") _) _ _ _) | (with_reducible show wpAny _ _ (storeName _ (Str.ofString "known") _) _ _ _) | (with_reducible show wpAny _ _ (storeName _ (Str.ofString "word") _) _ _ _) | (with_reducible show wpAny _ _ (compareOp CmpOp.NotIn _ _) _ _ _) | (with_reducible show CmEnd _ _ _ _ _ _ _ _ _ _ _ _) | (with_reducible show FgEnd _ _ _ _ _ _ _ _ _ _ _) | (with_reducible show Exists _) | (with_reducible show TurnEnd _ _ _ _ _ _ _ _ _) | (with_reducible show ForSrc _ _ _ _ _ _ _ _ _ _ _))); tb_rel)
    exact ret kv kc oW2 _ hkv F₁ N₁ ⟨ok₁.os, ok₁.gens⟩
end
section
open PySem PySem.W PySem.Spec PySem.Calls PyProof.Rows
noncomputable def dueS (nums : List Num) : List Str := (Pl.tld (nums.map fun n => wdOf n.fs)).map Pl.st
theorem good_nums {nums : List Num} (hg : ∀ n ∈ nums, n.Good) : ∀ w ∈ nums.map (fun n => wdOf n.fs), Pl.Good w := by
  intro w hw
  obtain ⟨n, hn9, rfl⟩ := List.mem_map.mp hw
  exact good_wd (hg n hn9).len (hg n hn9).le
theorem lf_due {nums : List Num} (hne : nums ≠ []) : lf 3 (knS nums) (Str.ofString "") = dueS nums := by
  have e : Str.ofString "" = Pl.st [] := by decide +kernel
  unfold knS dueS
  rw [e, Pl.lf_st]
  unfold Pl.tld
  rw [if_neg (by simpa using hne)]
theorem due_good {nums : List Num} (hg : ∀ n ∈ nums, n.Good) (hn : nums.length ≤ 100) : (dueS nums).length ≤ 400 ∧ ∀ x ∈ dueS nums, x ∈ W40 := by
  have h := Pl.tld_good (good_nums hg)
  refine ⟨?_, h.2⟩
  have := h.1
  rw [List.length_map] at this
  unfold dueS
  rw [List.length_map]
  exact le4 this (by assumption) (by rfl)
theorem seg9 : ∀ {w : World} {p : Program} {loose : List Str} {mean : ExcName → Option Value} {mg mb : Str → Option Value}
  {A₀ : Around} {base h₀ : Heap} {L fa : Addr} {m : Fm} {s : Shared} {Q : Flow → Shared → Prop} {E : Value → Shared → Prop}
  (K : Addr) (kv : List Value) (kc : Nat) (nums : List Num) (oK : Obj) (led : List Ent)
  (B : Below A₀ base [] h₀) (F : Fr h₀ L s.heap m) (X : (KK w.params).In h₀) (N : News h₀ L s.heap ((K, listOf kv.toArray kc) :: (L + 1 + 1, oK) :: led)) (T : Top p loose mean mg mb h₀)
  (hn : nums.length ≤ 20) (hne : nums ≠ []) (hg : ∀ n ∈ nums, n.Good) (dK : oK.data = .cell (some (.ref K))) (hkv : StrsAre kv (knS nums))
  (ret : ∀ t s', Fr h₀ L s'.heap (fun y => if y = Str.ofString "due" then some (.str (joinP (dueS nums)) t) else m y) → News h₀ L s'.heap ((K, listOf kv.toArray kc) :: (L + 1 + 1, oK) :: led) → Ok s s' → Q .next s'),
  wpAny (model PySem.Challenge.rw_ik0072_01.row.toRowW.prog w) (lawA L fa) (exec (lawAt 9) (lawEnv L fa)) Q E s := by
  k_fill
  intro w p loose mean mg mb A₀ base h₀ L fa m s Q E K kv kc nums oK led B F X N T hn hne hg dK hkv ret
  unfold lawA lawEnv
  generalize hsc : lawScope = sc
  generalize hst : lawAt 9 = stm
  conv at hsc => lhs; whnf
  conv at hst => lhs; whnf
  subst hsc
  subst hst
  repeat' ((fail_if_success (first | (with_reducible show wpAny _ _ (exec (Stmt.While _ _ _ _) _) _ _ _) | (with_reducible show wpAny _ _ (exec (Stmt.For _ _ _ _ _) _) _ _ _) | (with_reducible show wpAny _ _ (exec (Stmt.Assign _ (Expr.ListComp _ _ _ _) _) _) _ _ _) | (with_reducible show wpAny _ _ (eval (Expr.ListComp _ _ _ _) _) _ _ _) | (with_reducible show wpAny _ _ (pyIter _) _ _ _) | (with_reducible show wpAny _ _ (call (Value.ref _) _ _) _ _ _) | (with_reducible show Exists _) | (with_reducible show TurnEnd _ _ _ _ _ _ _ _ _) | (with_reducible show ForSrc _ _ _ _ _ _ _ _ _ _ _))); tb_rel)
  have knl := knS_len hg
  have h40 : ∀ o ∈ knS nums, o.length ≤ 3 := by
    intro o ho
    obtain ⟨w, hw, rfl⟩ := List.mem_map.mp ho
    rw [Pl.st_len]
    exact (Pl.knOf_good _ [] (fun x hx => nomatch hx) (good_nums hg) w hw).1
  have key := @lf_all 3 (Nat.le_refl _) w
  unfold LfOk at key

  refine key (Str.ofString "") _ K kv (knS nums) kc _ B F X N T rfl rfl rfl rfl (Nat.le_of_ble_eq_true rfl) (Nat.le_of_ble_eq_true rfl) (List.mem_cons_self ..) hkv (le4 knl (by assumption) (by rfl)) h40 (by decide +kernel) (by decide +kernel) (Nat.le_refl _) (fun R5 v5 n5 s5 hv5 hR5 F5 N5 ok5 => ?_)
  rw [lf_due hne] at hv5
  have hd := due_good hg (lel (by assumption) (by rfl))
  repeat' ((fail_if_success (first | (with_reducible show wpAny _ _ (exec (Stmt.While _ _ _ _) _) _ _ _) | (with_reducible show wpAny _ _ (exec (Stmt.For _ _ _ _ _) _) _ _ _) | (with_reducible show wpAny _ _ (exec (Stmt.Assign _ (Expr.ListComp _ _ _ _) _) _) _ _ _) | (with_reducible show wpAny _ _ (eval (Expr.ListComp _ _ _ _) _) _ _ _) | (with_reducible show wpAny _ _ (pyIter _) _ _ _) | (with_reducible show wpAny _ _ (call (Value.ref _) _ _) _ _ _) | (with_reducible show Exists _) | (with_reducible show TurnEnd _ _ _ _ _ _ _ _ _) | (with_reducible show ForSrc _ _ _ _ _ _ _ _ _ _ _))); tb_rel)
  refine c_ll R5 v5 _ n5 _ B F5 X N5 T rfl rfl rfl rfl (Nat.le_of_ble_eq_true rfl) (Nat.le_of_ble_eq_true rfl) (List.mem_cons_self ..) hv5 hd.2 (lel hd.1 rfl) (fun t6 s6 F6 N6 ok6 => ?_)
  repeat' ((fail_if_success (first | (with_reducible show wpAny _ _ (exec (Stmt.While _ _ _ _) _) _ _ _) | (with_reducible show wpAny _ _ (exec (Stmt.For _ _ _ _ _) _) _ _ _) | (with_reducible show wpAny _ _ (exec (Stmt.Assign _ (Expr.ListComp _ _ _ _) _) _) _ _ _) | (with_reducible show wpAny _ _ (eval (Expr.ListComp _ _ _ _) _) _ _ _) | (with_reducible show wpAny _ _ (pyIter _) _ _ _) | (with_reducible show wpAny _ _ (call (Value.ref _) _ _) _ _ _) | (with_reducible show Exists _) | (with_reducible show TurnEnd _ _ _ _ _ _ _ _ _) | (with_reducible show ForSrc _ _ _ _ _ _ _ _ _ _ _))); tb_rel)
  rename Fr h₀ L _ _ => F7
  rename News h₀ L _ _ => N7
  exact ret t6 _ F7 (fun q hq => N7 q (List.mem_cons_of_mem _ hq)) ⟨ok6.os.trans ok5.os, fun h => ok6.gens (ok5.gens h)⟩
end
section
open PySem PySem.W PySem.Spec PySem.Calls PyProof.Rows
/-- what is merged so far of the rows -/
noncomputable def toldS (nums : List Num) (i : Nat) : List Str := (Pl.tld ((nums.take i).map fun n => wdOf n.fs)).map Pl.st
noncomputable def redJ (rs : List Row) (nums : List Num) (D : Addr) (c : Nat) (led1 : List Ent) (i : Nat) (v : Value) (led' : List Ent) : Prop :=
  ∃ (ta : Addr) (tv : List Value) (tn : Nat), v = .ref ta ∧ StrsAre tv (toldS nums i) ∧ led' = (ta, listOf tv.toArray tn) :: ((rs.drop i).map Row.ent ++ (D, listOf (rs.map Row.ref).toArray c) :: led1) ∧ (∀ r ∈ rs.drop i, @Ne Nat r.a ta) ∧ ∀ q ∈ (D, listOf (rs.map Row.ref).toArray c) :: led1, @Ne Nat q.1 ta
theorem seg10 : ∀ {w : World} {p : Program} {loose : List Str} {mean : ExcName → Option Value} {mg mb : Str → Option Value}
  {A₀ : Around} {base h₀ : Heap} {L fa : Addr} {m : Fm} {s : Shared} {Q : Flow → Shared → Prop} {E : Value → Shared → Prop}
  (rA : Addr) (k2 : Nat) (nums : List Num) (rs : List Row) (ps : Array Value) (td : Tok) (led : List Ent)
  (B : Below A₀ base [] h₀) (F : Fr h₀ L s.heap m) (X : (KK w.params).In h₀) (N : News h₀ L s.heap ((767, tabObj ps) :: (811, tabObj #[]) :: led)) (T : Top p loose mean mg mb h₀)
  (hm1 : m (Str.ofString "rows") = some (.ref rA)) (hm2 : m (Str.ofString "due") = some (.str (joinP (dueS nums)) td)) (hn : nums.length ≤ 20) (hne : nums ≠ []) (hg : ∀ n ∈ nums, n.Good) (hrA : (rA, listOf (rs.map Row.ref).toArray k2) ∈ led) (hrs : rs.map (·.ws) = nums.map (fun n => Pl.chS (wdOf n.fs))) (hrg : ∀ r ∈ rs, r.Good ∧ r.ent ∈ led) (ht : TriplesOk ps.toList) (hP : ∀ q ∈ led, q.1 ≠ 767 ∧ q.1 ≠ 811) (CH : CodeHd h₀ 813 811)
  (ret : ∀ ps' (c' : Nat) s', TriplesOk ps'.toList → Fr h₀ L s'.heap m → News h₀ L s'.heap ((767, tabObj ps') :: (811, tabObj #[rawInt 838, rawInt 25, .ref c']) :: led) → Ok s s' → Q .next s'),
  wpAny (model PySem.Challenge.rw_ik0072_01.row.toRowW.prog w) (lawA L fa) (exec (lawAt 10) (lawEnv L fa)) Q E s := by
  k_fill
  intro w p loose mean mg mb A₀ base h₀ L fa m s Q E rA k2 nums rs ps td led B F X N T hm1 hm2 hn hne hg hrA hrs hrg ht hP CH ret
  unfold lawA lawEnv
  generalize hsc : lawScope = sc
  generalize hst : lawAt 10 = stm
  conv at hsc => lhs; whnf
  conv at hst => lhs; whnf
  refine hideG fun PG9 hG9 => ?_
  subst hsc
  subst hst
  obtain ⟨u, hu⟩ := form2 hm1 hm2
  subst hu
  refine hG9 ?_
  try clear hG9 PG9
  repeat' ((fail_if_success (first | (with_reducible show wpAny _ _ (exec (Stmt.While _ _ _ _) _) _ _ _) | (with_reducible show wpAny _ _ (exec (Stmt.For _ _ _ _ _) _) _ _ _) | (with_reducible show wpAny _ _ (exec (Stmt.Assign _ (Expr.ListComp _ _ _ _) _) _) _ _ _) | (with_reducible show wpAny _ _ (eval (Expr.ListComp _ _ _ _) _) _ _ _) | (with_reducible show wpAny _ _ (pyIter _) _ _ _) | (with_reducible show wpAny _ _ (call (Value.ref _) _ _) _ _ _) | (with_reducible show wpAny _ _ (call (Value.type "list") _) _ _ _) | (with_reducible show wpAny _ _ (compareOp _ (Value.str _ _) (Value.str _ _)) _ _ _) | (with_reducible show CmEnd _ _ _ _ _ _ _ _ _ _ _ _) | (with_reducible show Exists _) | (with_reducible show TurnEnd _ _ _ _ _ _ _ _ _) | (with_reducible show ForSrc _ _ _ _ _ _ _ _ _ _ _))); tb_rel)
  refine kla_eval rfl ?_
  show wpAny _ _ (makeFunction _ _ _ (.expr _) _ (envX (Str.ofString "law") _ L fa (.ref 813) _) [] [] [] _ _) _ _ _
  refine kla_nest F N T CH rfl (UpdF.tail ?u1 (UpdF.head ?u2)) trivial rfl rfl (fun f c' oc cvs ct ctv h' tk F₁ N₁ hoc hcv lc1 lc2 => ?_)
  case u1 => exact (show (767 : Nat) ≠ 811 by decide)
  case u2 => exact fun q hq => (hP q hq).2
  refine hideG fun PG9 hG9 => ?_
  obtain ⟨led1, hled1, N₂⟩ : ∃ led1, led1 = _ ∧ News h₀ L h' led1 := ⟨_, rfl, N₁⟩
  refine hG9 ?_
  try clear hG9 PG9
  clear N₁
  repeat' ((fail_if_success (first | (with_reducible show wpAny _ _ (exec (Stmt.While _ _ _ _) _) _ _ _) | (with_reducible show wpAny _ _ (exec (Stmt.For _ _ _ _ _) _) _ _ _) | (with_reducible show wpAny _ _ (exec (Stmt.Assign _ (Expr.ListComp _ _ _ _) _) _) _ _ _) | (with_reducible show wpAny _ _ (eval (Expr.ListComp _ _ _ _) _) _ _ _) | (with_reducible show wpAny _ _ (pyIter _) _ _ _) | (with_reducible show wpAny _ _ (call (Value.ref _) _ _) _ _ _) | (with_reducible show wpAny _ _ (call (Value.type "list") _) _ _ _) | (with_reducible show wpAny _ _ (compareOp _ (Value.str _ _) (Value.str _ _)) _ _ _) | (with_reducible show CmEnd _ _ _ _ _ _ _ _ _ _ _ _) | (with_reducible show Exists _) | (with_reducible show TurnEnd _ _ _ _ _ _ _ _ _) | (with_reducible show ForSrc _ _ _ _ _ _ _ _ _ _ _))); tb_rel)
  refine cm_eval F₁ rfl (by decide) rfl (by decide) ?_
  repeat' ((fail_if_success (first | (with_reducible show wpAny _ _ (exec (Stmt.While _ _ _ _) _) _ _ _) | (with_reducible show wpAny _ _ (exec (Stmt.For _ _ _ _ _) _) _ _ _) | (with_reducible show wpAny _ _ (exec (Stmt.Assign _ (Expr.ListComp _ _ _ _) _) _) _ _ _) | (with_reducible show wpAny _ _ (eval (Expr.ListComp _ _ _ _) _) _ _ _) | (with_reducible show wpAny _ _ (pyIter _) _ _ _) | (with_reducible show wpAny _ _ (call (Value.ref _) _ _) _ _ _) | (with_reducible show wpAny _ _ (call (Value.type "list") _) _ _ _) | (with_reducible show wpAny _ _ (compareOp _ (Value.str _ _) (Value.str _ _)) _ _ _) | (with_reducible show CmEnd _ _ _ _ _ _ _ _ _ _ _ _) | (with_reducible show Exists _) | (with_reducible show TurnEnd _ _ _ _ _ _ _ _ _) | (with_reducible show ForSrc _ _ _ _ _ _ _ _ _ _ _))); tb_rel)
  have rlen := congrArg List.length hrs
  rw [List.length_map, List.length_map] at rlen
  have hSr : (rA, listOf (rs.map Row.ref).toArray k2) ∈ led1 := by rw [hled1]; exact List.mem_cons_of_mem _ (List.mem_cons_of_mem _ (List.mem_cons_of_mem _ (List.mem_cons_of_mem _ hrA)))
  have hrg1 : ∀ r ∈ rs, r.Good ∧ r.ent ∈ led1 := fun r hr => ⟨(hrg r hr).1, by rw [hled1]; exact List.mem_cons_of_mem _ (List.mem_cons_of_mem _ (List.mem_cons_of_mem _ (List.mem_cons_of_mem _ (hrg r hr).2)))⟩
  clear hrg
  rename ∀ r ∈ rs, r.Good ∧ r.ent ∈ led1 => hrg
  refine src_list (vs := rs.map Row.ref) (fun i ys led' => ∃ rs2 : List Row, ys = rs2.map Row.ref ∧ led' = rs2.map Row.ent ++ led1 ∧ rs2.map (·.ws) = (rs.take i).map (·.ws) ∧ (∀ r ∈ rs2, r.Good ∧ ∀ q ∈ led1, @LT.lt Nat _ q.1 r.a) ∧ (rs2.map (·.a)).Nodup) rfl F₁ N₂ (.inr ⟨_, hSr, rfl, _, rfl⟩) (by rw [List.length_map]; exact lee (by assumption) (by assumption) (by rfl)) (fun I C D s₃ ok₀ lt1 lt2 => ⟨⟨[], rfl, rfl, rfl, (fun r h => nomatch h), List.nodup_nil⟩, ?_, ?_⟩)
  · intro i ys led' v s₁ oI oC mC E' hi hv hJ911 hC ok₁ F₁ N₁ off ne hS
    refine hideG fun PG9 hG9 => ?_
    obtain ⟨rs2, rfl, rfl, hws2, hrs2, hnd⟩ := hJ911
    obtain ⟨r, hr9, rfl⟩ := map_get hv
    obtain ⟨gr, hre⟩ := hrg r (List.mem_of_getElem? hr9)
    refine hG9 ?_
    try clear hG9 PG9
    refine asg_name rfl rfl F₁ N₁ hC ne off (fun oC1 m1 h3 tk3 hC1 e1 e1' F₃ N₃ => ?_)
    refine wpAny_pure ?_
    rw [if_pos rfl]
    refine hideG fun PG9 hG9 => ?_
    obtain ⟨u1, hu1⟩ := form1 e1
    subst hu1
    refine hG9 ?_
    try clear hG9 PG9
    repeat' ((fail_if_success (first | (with_reducible show wpAny _ _ (exec (Stmt.While _ _ _ _) _) _ _ _) | (with_reducible show wpAny _ _ (exec (Stmt.For _ _ _ _ _) _) _ _ _) | (with_reducible show wpAny _ _ (exec (Stmt.Assign _ (Expr.ListComp _ _ _ _) _) _) _ _ _) | (with_reducible show wpAny _ _ (eval (Expr.ListComp _ _ _ _) _) _ _ _) | (with_reducible show wpAny _ _ (pyIter _) _ _ _) | (with_reducible show wpAny _ _ (call (Value.ref _) _ _) _ _ _) | (with_reducible show wpAny _ _ (call (Value.type "list") _) _ _ _) | (with_reducible show wpAny _ _ (compareOp _ (Value.str _ _) (Value.str _ _)) _ _ _) | (with_reducible show CmEnd _ _ _ _ _ _ _ _ _ _ _ _) | (with_reducible show Exists _) | (with_reducible show TurnEnd _ _ _ _ _ _ _ _ _) | (with_reducible show ForSrc _ _ _ _ _ _ _ _ _ _ _))); tb_rel)
    have glen := gr.len
    have gvl := gr.vlen
    refine kup_listOf F₃ N₃ (List.mem_cons_of_mem _ (List.mem_cons_of_mem _ (List.mem_cons_of_mem _ (List.mem_append_right _ hre)))) rfl (fun R9 c9 h9 F₄ N₄ hR9 => ?_) (by rw [sizeLine_eq]; show r.vs.length ≤ _; exact lee gvl glen (by rfl))
    repeat' ((fail_if_success (first | (with_reducible show wpAny _ _ (exec (Stmt.While _ _ _ _) _) _ _ _) | (with_reducible show wpAny _ _ (exec (Stmt.For _ _ _ _ _) _) _ _ _) | (with_reducible show wpAny _ _ (exec (Stmt.Assign _ (Expr.ListComp _ _ _ _) _) _) _ _ _) | (with_reducible show wpAny _ _ (eval (Expr.ListComp _ _ _ _) _) _ _ _) | (with_reducible show wpAny _ _ (pyIter _) _ _ _) | (with_reducible show wpAny _ _ (call (Value.ref _) _ _) _ _ _) | (with_reducible show wpAny _ _ (call (Value.type "list") _) _ _ _) | (with_reducible show wpAny _ _ (compareOp _ (Value.str _ _) (Value.str _ _)) _ _ _) | (with_reducible show CmEnd _ _ _ _ _ _ _ _ _ _ _ _) | (with_reducible show Exists _) | (with_reducible show TurnEnd _ _ _ _ _ _ _ _ _) | (with_reducible show ForSrc _ _ _ _ _ _ _ _ _ _ _))); tb_rel)
    have ro3 := off.mem
    refine ⟨oC1, _, (rs2 ++ [(⟨R9, r.vs, r.ws, c9⟩ : Row)]).map Row.ent ++ led1, ⟨rfl, id⟩, F₄, fun q hq => N₄ q ?_, hC1, LCg.Off3.of fun p hp => ?_, ?_, rs2 ++ [(⟨R9, r.vs, r.ws, c9⟩ : Row)], ?_, rfl, ?_, ?_, ?_⟩
    · rcases List.mem_cons.mp hq with rfl | hq
      · exact List.mem_cons_of_mem _ (List.mem_cons_self ..)
      rcases List.mem_cons.mp hq with rfl | hq
      · exact List.mem_cons_of_mem _ (List.mem_cons_of_mem _ (List.mem_cons_self ..))
      rcases List.mem_cons.mp hq with rfl | hq
      · exact List.mem_cons_of_mem _ (List.mem_cons_of_mem _ (List.mem_cons_of_mem _ (List.mem_cons_self ..)))
      rw [List.map_append, List.append_assoc] at hq
      rcases List.mem_append.mp hq with hq | hq
      · exact List.mem_cons_of_mem _ (List.mem_cons_of_mem _ (List.mem_cons_of_mem _ (List.mem_cons_of_mem _ (List.mem_append_left _ hq))))
      rcases List.mem_cons.mp hq with rfl | hq
      · exact List.mem_cons_self ..
      exact List.mem_cons_of_mem _ (List.mem_cons_of_mem _ (List.mem_cons_of_mem _ (List.mem_cons_of_mem _ (List.mem_append_right _ hq))))
    · rw [List.map_append, List.append_assoc] at hp
      rcases List.mem_append.mp hp with hp | hp
      · exact ro3 p (List.mem_append_left _ hp)
      rcases List.mem_cons.mp hp with rfl | hp
      · exact ⟨Nat.ne_of_gt (hR9 (I, oI) (List.mem_cons_self ..)), Nat.ne_of_gt (hR9 (C, oC1) (List.mem_cons_of_mem _ (List.mem_cons_self ..))), Nat.ne_of_gt (hR9 (D, _) (List.mem_cons_of_mem _ (List.mem_cons_of_mem _ (List.mem_cons_self ..))))⟩
      · exact ro3 p (List.mem_append_right _ hp)
    · exact .inr ⟨_, List.mem_append_right _ hSr, rfl, _, rfl⟩
    · simp [Row.ref]
    · rw [List.take_add_one, hr9, List.map_append, List.map_append, hws2]
      rfl
    · intro r' hr'
      rcases List.mem_append.mp hr' with hr' | hr'
      · exact hrs2 r' hr'
      · rw [List.mem_singleton.mp hr']
        exact ⟨⟨gr.are, gr.len⟩, fun q hq => hR9 q (List.mem_cons_of_mem _ (List.mem_cons_of_mem _ (List.mem_cons_of_mem _ (List.mem_append_right _ hq))))⟩
    · rw [List.map_append]
      refine List.nodup_append.mpr ⟨hnd, by simp, fun a ha b hb e => ?_⟩
      refine hideG fun PG9 hG9 => ?_
      obtain ⟨r', hr', rfl⟩ := List.mem_map.mp ha
      have hb' : b = R9 := List.mem_singleton.mp hb
      have := hR9 r'.ent (List.mem_cons_of_mem _ (List.mem_cons_of_mem _ (List.mem_cons_of_mem _ (List.mem_append_left _ (List.mem_map_of_mem hr')))))
      have h2 : r'.a = R9 := e.trans hb'
      refine hG9 ?_
      try clear hG9 PG9
      exact Nat.ne_of_lt this h2
  · intro ys led' s' hJ93 ok₁ F₁ N₁ offD offC
    refine hideG fun PG9 hG9 => ?_
    obtain ⟨rs2, rfl, rfl, hws2, hrs2, hnd⟩ := hJ93
    rw [List.length_map, List.take_length, hrs] at hws2
    refine hG9 ?_
    try clear hG9 PG9
    repeat' ((fail_if_success (first | (with_reducible show wpAny _ _ (exec (Stmt.While _ _ _ _) _) _ _ _) | (with_reducible show wpAny _ _ (exec (Stmt.For _ _ _ _ _) _) _ _ _) | (with_reducible show wpAny _ _ (exec (Stmt.Assign _ (Expr.ListComp _ _ _ _) _) _) _ _ _) | (with_reducible show wpAny _ _ (eval (Expr.ListComp _ _ _ _) _) _ _ _) | (with_reducible show wpAny _ _ (pyIter _) _ _ _) | (with_reducible show wpAny _ _ (call (Value.ref _) _ _) _ _ _) | (with_reducible show wpAny _ _ (call (Value.type "list") _) _ _ _) | (with_reducible show wpAny _ _ (compareOp _ (Value.str _ _) (Value.str _ _)) _ _ _) | (with_reducible show CmEnd _ _ _ _ _ _ _ _ _ _ _ _) | (with_reducible show Exists _) | (with_reducible show TurnEnd _ _ _ _ _ _ _ _ _) | (with_reducible show ForSrc _ _ _ _ _ _ _ _ _ _ _))); tb_rel)
    have rlen2 := congrArg List.length hws2
    rw [List.length_map, List.length_map] at rlen2
    generalize hc9 : (rs2.map Row.ref).length = c9
    have N₁' : News h₀ L s'.heap ((D, listOf (rs2.map Row.ref).toArray c9) :: (rs2.map Row.ent ++ led1)) := by rw [← hc9]; exact N₁
    clear N₁
    have hJ9 : RedFn w 480 4800 f (rs2.map Row.ref) (redJ rs2 nums D c9 led1) := by
      unfold RedFn
      intro p loose mean mg mb A env outer A₀ base h₀ L m s Q E i v x led' own hx hJ B F X N T hh hA hf hk hd hu dis ret
      refine hideG fun PG9 hG9 => ?_
      obtain ⟨r, hr9, rfl⟩ := map_get hx
      obtain ⟨ta, tv, tn, rfl, htv, hled', hne1, hne2⟩ := hJ
      have hfm : (f, _) ∈ own ++ led' := List.mem_append_right _ (by rw [hled']; exact List.mem_cons_of_mem _ (List.mem_append_right _ (List.mem_cons_of_mem _ (by rw [hled1]; exact List.mem_cons_self ..))))
      have hcm : (c', oc) ∈ own ++ led' := List.mem_append_right _ (by rw [hled']; exact List.mem_cons_of_mem _ (List.mem_append_right _ (List.mem_cons_of_mem _ (by rw [hled1]; exact List.mem_cons_of_mem _ (List.mem_cons_self ..)))))
      obtain ⟨ah, dp, fr, gd, un⟩ := A
      refine hG9 ?_
      try clear hG9 PG9
      cases hh
      cases hA
      refine hideG fun PG9 hG9 => ?_
      obtain ⟨cs, lo, gl, cl, qn, fn, ccd, fr, bi⟩ := env
      refine hG9 ?_
      try clear hG9 PG9
      cases hf
      refine hideG fun PG9 hG9 => ?_
      obtain ⟨ck, cnm, cg1, cg2, cmo⟩ := cs
      refine hG9 ?_
      try clear hG9 PG9
      cases hk
      refine topA_mono hd hu ?_
      refine wpAny_call ?_
      refine kla_code B F X N T rfl rfl rfl hfm (codeRec_news N hcm hoc hcv) (Nat.le_of_ble_eq_true rfl) rfl (locs rfl) (fun g L2 h2 FG F' N' B' X' T' => ?_) rfl rfl rfl (by decide)
      repeat' ((fail_if_success (first | (with_reducible show wpAny _ _ (exec (Stmt.While _ _ _ _) _) _ _ _) | (with_reducible show wpAny _ _ (exec (Stmt.For _ _ _ _ _) _) _ _ _) | (with_reducible show wpAny _ _ (exec (Stmt.Assign _ (Expr.ListComp _ _ _ _) _) _) _ _ _) | (with_reducible show wpAny _ _ (eval (Expr.ListComp _ _ _ _) _) _ _ _) | (with_reducible show wpAny _ _ (pyIter _) _ _ _) | (with_reducible show wpAny _ _ (call (Value.ref _) _ _) _ _ _) | (with_reducible show wpAny _ _ (call (Value.type "list") _) _ _ _) | (with_reducible show wpAny _ _ (compareOp _ (Value.str _ _) (Value.str _ _)) _ _ _) | (with_reducible show CmEnd _ _ _ _ _ _ _ _ _ _ _ _) | (with_reducible show Exists _) | (with_reducible show TurnEnd _ _ _ _ _ _ _ _ _) | (with_reducible show ForSrc _ _ _ _ _ _ _ _ _ _ _))); tb_rel)
      rename Fr g L2 _ _ => F5
      rename News g L2 _ _ => N5
      have hrl : i < rs2.length := (List.getElem?_eq_some_iff.mp hr9).1
      have hdr : rs2.drop i = r :: rs2.drop (i + 1) := by
        rw [List.drop_eq_getElem_cons hrl]
        congr 1
        exact (List.getElem?_eq_some_iff.mp hr9).2
      refine hideG fun PG9 hG9 => ?_
      obtain ⟨n, hn9, hrw⟩ : ∃ n, nums[i]? = some n ∧ r.ws = Pl.chS (wdOf n.fs) := by
        have h1 : (rs2.map (·.ws))[i]? = some r.ws := by rw [List.getElem?_map, hr9]; rfl
        rw [hws2, List.getElem?_map] at h1
        obtain ⟨n, h2, h3⟩ := Option.map_eq_some_iff.mp h1
        exact ⟨n, h2, h3.symm⟩
      have hGn : ∀ w ∈ (nums.take i).map (fun n => wdOf n.fs), Pl.Good w := good_nums fun n hn => hg n (List.mem_of_mem_take hn)
      have gn := hg n (List.mem_of_getElem? hn9)
      obtain ⟨kk, hkk⟩ := Pl.tld_step (w := wdOf n.fs) (fun w hw => (hGn w hw).1) (good_wd gn.len gn.le).1
      have htl : (toldS nums i).length ≤ 400 := by
        have h1 := (Pl.tld_good hGn).1
        rw [List.length_map] at h1
        have h2 : (nums.take i).length ≤ nums.length := by rw [List.length_take]; exact Nat.min_le_right ..
        unfold toldS
        rw [List.length_map]
        exact le4 h1 (Nat.le_trans h2 (by assumption)) (by rfl)
      have hts : toldS nums (i + 1) = (Pl.tld ((nums.take i).map (fun n => wdOf n.fs) ++ [wdOf n.fs])).map Pl.st := by
        unfold toldS
        rw [List.take_add_one, hn9, List.map_append]
        rfl
      have hr2 := hrs2 r (List.mem_of_getElem? hr9)
      have hra : @Ne Nat r.a ta := hne1 r (hdr ▸ List.mem_cons_self ..)
      have hndr : (∀ x ∈ rs2.drop (i + 1), x.a ≠ r.a) := (nodup_split hnd hr9).2
      subst hled'
      refine hG9 ?_
      try clear hG9 PG9
      refine c3_any _ [(⟨ta, tv, toldS nums i, tn⟩ : Row), r] 0 kk (own ++ ((rs2.drop (i + 1)).map Row.ent ++ (D, listOf (rs2.map Row.ref).toArray c9) :: led1)) _ B' F5 X' (fun q hq => N5 q ?memC) T' rfl rfl rfl rfl (Nat.le_of_ble_eq_true rfl) (Nat.le_of_ble_eq_true rfl) ?good ?nd ?rr (show (2 : Nat) ≤ 100 by decide) ?sz (by show c3 kk [toldS nums i, r.ws] [] = _; rw [hrw]; exact hkk) (fun o R kr rv s3 ho hrv F6 N6 hR ok6 => ?_) (fun h => by cases h)
      case memC =>
        rcases List.mem_cons.mp hq with rfl | hq
        · exact List.mem_cons_self ..
        refine List.mem_cons_of_mem _ ?_
        rcases List.mem_cons.mp hq with rfl | hq
        · exact List.mem_append_right _ (List.mem_cons_self ..)
        rcases List.mem_cons.mp hq with rfl | hq
        · exact List.mem_append_right _ (List.mem_cons_of_mem _ (List.mem_append_left _ (by rw [hdr]; exact List.mem_cons_self ..)))
        change q ∈ own ++ ((rs2.drop (i + 1)).map Row.ent ++ (D, listOf (rs2.map Row.ref).toArray c9) :: led1) at hq
        rcases List.mem_append.mp hq with hq | hq
        · exact List.mem_append_left _ hq
        refine List.mem_append_right _ (List.mem_cons_of_mem _ ?_)
        rcases List.mem_append.mp hq with hq | hq
        · exact List.mem_append_left _ (by rw [hdr]; exact List.mem_cons_of_mem _ hq)
        · exact List.mem_append_right _ hq
      case good =>
        intro x hx
        rcases List.mem_cons.mp hx with rfl | hx
        · exact ⟨htv, by show (toldS nums i).length ≤ 1000; exact lel htl rfl⟩
        · rw [List.mem_singleton.mp hx]
          exact hr2.1
      case nd =>
        show [ta, r.a].Nodup
        simp
        exact fun e => hra e.symm
      case rr =>
        intro p hp x hx
        have hp' : p.1 ≠ ta ∧ p.1 ≠ r.a := by
          rcases List.mem_append.mp hp with hp | hp
          · exact ⟨dis p hp _ (List.mem_cons_self ..), dis p hp r.ent (List.mem_cons_of_mem _ (List.mem_append_left _ (by rw [hdr]; exact List.mem_cons_self ..)))⟩
          rcases List.mem_append.mp hp with hp | hp
          · obtain ⟨x, hx, rfl⟩ := List.mem_map.mp hp
            exact ⟨hne1 x (by rw [hdr]; exact List.mem_cons_of_mem _ hx), hndr x hx⟩
          rcases List.mem_cons.mp hp with rfl | hp
          · exact ⟨hne2 _ (List.mem_cons_self ..), Ne.symm (offD r.ent (List.mem_append_left _ (List.mem_map_of_mem (List.mem_of_getElem? hr9))))⟩
          · exact ⟨hne2 p (List.mem_cons_of_mem _ hp), Nat.ne_of_lt (hr2.2 p hp)⟩
        rcases List.mem_cons.mp hx with rfl | hx
        · exact hp'.1
        · rw [List.mem_singleton.mp hx]
          exact hp'.2
      case sz =>
        have := hr2.1.len
        show (toldS nums i).length + (r.ws.length + 0) ≤ 100000
        exact add_lit htl this rfl
      cases ho
      rw [← hts] at hrv
      repeat' ((fail_if_success (first | (with_reducible show wpAny _ _ (exec (Stmt.While _ _ _ _) _) _ _ _) | (with_reducible show wpAny _ _ (exec (Stmt.For _ _ _ _ _) _) _ _ _) | (with_reducible show wpAny _ _ (exec (Stmt.Assign _ (Expr.ListComp _ _ _ _) _) _) _ _ _) | (with_reducible show wpAny _ _ (eval (Expr.ListComp _ _ _ _) _) _ _ _) | (with_reducible show wpAny _ _ (pyIter _) _ _ _) | (with_reducible show wpAny _ _ (call (Value.ref _) _ _) _ _ _) | (with_reducible show wpAny _ _ (call (Value.type "list") _) _ _ _) | (with_reducible show wpAny _ _ (compareOp _ (Value.str _ _) (Value.str _ _)) _ _ _) | (with_reducible show CmEnd _ _ _ _ _ _ _ _ _ _ _ _) | (with_reducible show Exists _) | (with_reducible show TurnEnd _ _ _ _ _ _ _ _ _) | (with_reducible show ForSrc _ _ _ _ _ _ _ _ _ _ _))); tb_rel)
      rename Fr h₀ L _ m => F7
      rename News h₀ L _ _ => N7
      refine ret (.ref R) ((R, listOf rv.toArray kr) :: ((rs2.drop (i + 1)).map Row.ent ++ (D, listOf (rs2.map Row.ref).toArray c9) :: led1)) _ ⟨R, rv, kr, rfl, hrv, rfl, ?_, ?_⟩ ?_ F7 (fun q hq => N7 q ?_) ⟨ok6.os, ok6.gens⟩
      · exact fun x hx => hR x.ent (List.mem_append_right _ (List.mem_append_left _ (List.mem_map_of_mem hx)))
      · exact fun q hq => hR q (List.mem_append_right _ (List.mem_append_right _ hq))
      · intro p hp q hq
        rcases List.mem_cons.mp hq with rfl | hq
        · exact hR p (List.mem_append_left _ hp)
        refine dis p hp q (List.mem_cons_of_mem _ ?_)
        rcases List.mem_append.mp hq with hq | hq
        · exact List.mem_append_left _ (by rw [hdr]; exact List.mem_cons_of_mem _ hq)
        · exact List.mem_append_right _ hq
      · rcases List.mem_append.mp hq with hq | hq
        · exact List.mem_cons_of_mem _ (List.mem_append_left _ hq)
        rcases List.mem_cons.mp hq with rfl | hq
        · exact List.mem_cons_self ..
        exact List.mem_cons_of_mem _ (List.mem_append_right _ hq)
    refine hideG fun PG9 hG9 => ?_
    obtain ⟨r0, rs3, hr0⟩ : ∃ r0 rs3, rs2 = r0 :: rs3 := by
      cases rs2 with
      | nil =>
        exfalso
        apply hne
        exact List.length_eq_zero_iff.mp rlen2.symm
      | cons a b => exact ⟨a, b, rfl⟩
    have h0 : rs2[0]? = some r0 := by rw [hr0]; rfl
    have hd1 : rs2.drop 1 = rs3 := by rw [hr0]; rfl
    obtain ⟨n0, hn0, hw0⟩ : ∃ n, nums[0]? = some n ∧ r0.ws = Pl.chS (wdOf n.fs) := by
      have h1 : (rs2.map (·.ws))[0]? = some r0.ws := by rw [List.getElem?_map, h0]; rfl
      rw [hws2, List.getElem?_map] at h1
      obtain ⟨n, h2, h3⟩ := Option.map_eq_some_iff.mp h1
      exact ⟨n, h2, h3.symm⟩
    have gn0 := hg n0 (List.mem_of_getElem? hn0)
    have ht1 : toldS nums 1 = r0.ws := by
      unfold toldS
      rw [List.take_add_one, hn0, hw0]
      show (Pl.tld [wdOf n0.fs]).map Pl.st = _
      rw [Pl.tld_one' (good_wd gn0.len gn0.le).1]
      rfl
    have hr02 := hrs2 r0 (List.mem_of_getElem? h0)
    have NR : News h₀ L s'.heap ((r0.a, listOf r0.vs.toArray r0.n) :: ((rs2.drop 1).map Row.ent ++ (D, listOf (rs2.map Row.ref).toArray c9) :: led1)) := fun q hq => N₁' q (by
      rcases List.mem_cons.mp hq with rfl | hq
      · exact List.mem_cons_of_mem _ (List.mem_append_left _ (by rw [hr0]; exact List.mem_cons_self ..))
      rcases List.mem_append.mp hq with hq | hq
      · exact List.mem_cons_of_mem _ (List.mem_append_left _ (by rw [hr0]; rw [hd1] at hq; exact List.mem_cons_of_mem _ hq))
      rcases List.mem_cons.mp hq with rfl | hq
      · exact List.mem_cons_self ..
      exact List.mem_cons_of_mem _ (List.mem_append_right _ hq))
    have hJ1 : redJ rs2 nums D c9 led1 1 (.ref r0.a) ((r0.a, listOf r0.vs.toArray r0.n) :: ((rs2.drop 1).map Row.ent ++ (D, listOf (rs2.map Row.ref).toArray c9) :: led1)) := by
      refine ⟨r0.a, r0.vs, r0.n, rfl, by rw [ht1]; exact hr02.1.are, rfl, ?_, ?_⟩
      · intro x hx
        exact (nodup_split hnd h0).2 x hx
      · intro q hq
        rcases List.mem_cons.mp hq with rfl | hq
        · exact Ne.symm (offD r0.ent (List.mem_append_left _ (List.mem_map_of_mem (List.mem_of_getElem? h0))))
        · exact Nat.ne_of_lt (hr02.2 q hq)
    have hD9 : ∀ i v led', redJ rs2 nums D c9 led1 i v led' → (D, listOf (rs2.map Row.ref).toArray c9) ∈ led' := by
      rintro i v led' ⟨ta, tv, tn, rfl, htv, rfl, _, _⟩
      exact List.mem_cons_of_mem _ (List.mem_append_right _ (List.mem_cons_self ..))
    refine hG9 ?_
    try clear hG9 PG9
    refine' c_re2 _ _ _ _ f D (rs2.map Row.ref) c9 _ (redJ rs2 nums D c9 led1) (.ref r0.a) B F₁ X NR T rfl rfl rfl rfl (Nat.le_of_ble_eq_true rfl) (Nat.le_of_ble_eq_true rfl) (List.mem_cons_of_mem _ (List.mem_append_right _ (List.mem_cons_self ..))) hJ9 hD9 ?F9 (by rw [hr0]; rfl) hJ1 (fun v led' s4 hJ4 F4 N4 ok4 => ?_)
    case F9 =>
      intro i v led' hJ93
      refine hideG fun PG9 hG9 => ?_
      obtain ⟨ta, tv, tn, rfl, htv, rfl, _, _⟩ := hJ93
      refine hG9 ?_
      try clear hG9 PG9
      exact List.mem_cons_of_mem _ (List.mem_append_right _ (List.mem_cons_of_mem _ (by rw [hled1]; exact List.mem_cons_self ..)))
    refine hideG fun PG9 hG9 => ?_
    obtain ⟨ta, tv, tn, rfl, htv, rfl, hne1, hne2⟩ := hJ4
    have hfin : toldS nums (rs2.map Row.ref).length = dueS nums := by
      unfold toldS dueS
      rw [List.length_map, List.take_of_length_le (Nat.le_of_eq (by first | assumption | (symm; assumption)))]
    rw [hfin] at htv
    refine hG9 ?_
    try clear hG9 PG9
    repeat' ((fail_if_success (first | (with_reducible show wpAny _ _ (exec (Stmt.While _ _ _ _) _) _ _ _) | (with_reducible show wpAny _ _ (exec (Stmt.For _ _ _ _ _) _) _ _ _) | (with_reducible show wpAny _ _ (exec (Stmt.Assign _ (Expr.ListComp _ _ _ _) _) _) _ _ _) | (with_reducible show wpAny _ _ (eval (Expr.ListComp _ _ _ _) _) _ _ _) | (with_reducible show wpAny _ _ (pyIter _) _ _ _) | (with_reducible show wpAny _ _ (call (Value.ref _) _ _) _ _ _) | (with_reducible show wpAny _ _ (call (Value.type "list") _) _ _ _) | (with_reducible show wpAny _ _ (compareOp _ (Value.str _ _) (Value.str _ _)) _ _ _) | (with_reducible show CmEnd _ _ _ _ _ _ _ _ _ _ _ _) | (with_reducible show Exists _) | (with_reducible show TurnEnd _ _ _ _ _ _ _ _ _) | (with_reducible show ForSrc _ _ _ _ _ _ _ _ _ _ _))); tb_rel)
    have hdg := due_good hg (lel (by assumption) (by rfl))
    have h811 : (811, tabObj #[rawInt 838, rawInt 25, Value.ref c']) ∈ led1 := by
      rw [hled1]
      exact List.mem_cons_of_mem _ (List.mem_cons_of_mem _ (List.mem_cons_of_mem _ (List.mem_cons_self ..)))
    have h767 : (767, tabObj ps) ∈ led1 := by
      rw [hled1]
      exact List.mem_cons_of_mem _ (List.mem_cons_of_mem _ (List.mem_cons_self ..))
    have hled : ∀ q ∈ led, q ∈ led1 := fun q hq => by
      rw [hled1]
      exact List.mem_cons_of_mem _ (List.mem_cons_of_mem _ (List.mem_cons_of_mem _ (List.mem_cons_of_mem _ hq)))
    have NJ : News h₀ L s4.heap ((767, tabObj ps) :: (ta, listOf tv.toArray tn) :: (811, tabObj #[rawInt 838, rawInt 25, Value.ref c']) :: led) := fun q hq => N4 q (by
      rcases List.mem_cons.mp hq with rfl | hq
      · exact List.mem_cons_of_mem _ (List.mem_append_right _ (List.mem_cons_of_mem _ h767))
      rcases List.mem_cons.mp hq with rfl | hq
      · exact List.mem_cons_self ..
      rcases List.mem_cons.mp hq with rfl | hq
      · exact List.mem_cons_of_mem _ (List.mem_append_right _ (List.mem_cons_of_mem _ h811))
      exact List.mem_cons_of_mem _ (List.mem_append_right _ (List.mem_cons_of_mem _ (hled q hq))))
    refine c_join ta tv _ tn ps _ B F4 X NJ T rfl rfl rfl rfl (Nat.le_of_ble_eq_true rfl) (Nat.le_of_ble_eq_true rfl) (List.mem_cons_self ..) htv hdg.2 (lel hdg.1 rfl) ht ?h767 (fun t9 ps9 s9 ht9 F9 N9 ok9 => ?_)
    case h767 =>
      intro q hq
      rcases List.mem_cons.mp hq with rfl | hq
      · exact Ne.symm (hne2 (767, tabObj ps) (List.mem_cons_of_mem _ h767))
      rcases List.mem_cons.mp hq with rfl | hq
      · exact (show (811 : Nat) ≠ 767 by decide)
      exact (hP q hq).1
    repeat' ((fail_if_success (first | (with_reducible show wpAny _ _ (exec (Stmt.While _ _ _ _) _) _ _ _) | (with_reducible show wpAny _ _ (exec (Stmt.For _ _ _ _ _) _) _ _ _) | (with_reducible show wpAny _ _ (exec (Stmt.Assign _ (Expr.ListComp _ _ _ _) _) _) _ _ _) | (with_reducible show wpAny _ _ (eval (Expr.ListComp _ _ _ _) _) _ _ _) | (with_reducible show wpAny _ _ (pyIter _) _ _ _) | (with_reducible show wpAny _ _ (call (Value.ref _) _ _) _ _ _) | (with_reducible show wpAny _ _ (call (Value.type "list") _) _ _ _) | (with_reducible show wpAny _ _ (compareOp _ (Value.str _ _) (Value.str _ _)) _ _ _) | (with_reducible show CmEnd _ _ _ _ _ _ _ _ _ _ _ _) | (with_reducible show Exists _) | (with_reducible show TurnEnd _ _ _ _ _ _ _ _ _) | (with_reducible show ForSrc _ _ _ _ _ _ _ _ _ _ _))); tb_rel)
    refine ne_str ?_
    rw [bne_self_eq_false]
    repeat' ((fail_if_success (first | (with_reducible show wpAny _ _ (exec (Stmt.While _ _ _ _) _) _ _ _) | (with_reducible show wpAny _ _ (exec (Stmt.For _ _ _ _ _) _) _ _ _) | (with_reducible show wpAny _ _ (exec (Stmt.Assign _ (Expr.ListComp _ _ _ _) _) _) _ _ _) | (with_reducible show wpAny _ _ (eval (Expr.ListComp _ _ _ _) _) _ _ _) | (with_reducible show wpAny _ _ (pyIter _) _ _ _) | (with_reducible show wpAny _ _ (call (Value.ref _) _ _) _ _ _) | (with_reducible show wpAny _ _ (call (Value.type "list") _) _ _ _) | (with_reducible show wpAny _ _ (compareOp _ (Value.str _ _) (Value.str _ _)) _ _ _) | (with_reducible show CmEnd _ _ _ _ _ _ _ _ _ _ _ _) | (with_reducible show Exists _) | (with_reducible show TurnEnd _ _ _ _ _ _ _ _ _) | (with_reducible show ForSrc _ _ _ _ _ _ _ _ _ _ _))); tb_rel)
    exact ret ps9 c' _ ht9 F9 (fun q hq => N9 q (by
      rcases List.mem_cons.mp hq with rfl | hq
      · exact List.mem_cons_self ..
      exact List.mem_cons_of_mem _ (List.mem_cons_of_mem _ hq))) ⟨(ok9.os.trans ok4.os).trans ok₁.os, fun h => ok9.gens (ok4.gens (ok₁.gens h))⟩
end
section
open PySem PySem.W PySem.Spec PySem.Calls PyProof.Rows
theorem seg11 : ∀ {w : World} {p : Program} {loose : List Str} {mean : ExcName → Option Value} {mg mb : Str → Option Value}
  {A₀ : Around} {base h₀ : Heap} {L fa : Addr} {m : Fm} {s : Shared} {Q : Flow → Shared → Prop} {E : Value → Shared → Prop}
  (cq : Nat) (rA : Addr) (k2 : Nat) (nums : List Num) (rs : List Row) (ps : Array Value) (td : Tok) (led : List Ent)
  (B : Below A₀ base [] h₀) (F : Fr h₀ L s.heap m) (X : (KK w.params).In h₀) (N : News h₀ L s.heap ((767, tabObj ps) :: (811, tabObj #[rawInt 838, rawInt 25, .ref cq]) :: led)) (T : Top p loose mean mg mb h₀)
  (hm1 : m (Str.ofString "rows") = some (.ref rA)) (hm2 : m (Str.ofString "due") = some (.str (joinP (dueS nums)) td)) (hn : nums.length ≤ 20) (hne : nums ≠ []) (hg : ∀ n ∈ nums, n.Good) (hrA : (rA, listOf (rs.map Row.ref).toArray k2) ∈ led) (hrs : rs.map (·.ws) = nums.map (fun n => Pl.chS (wdOf n.fs))) (hrg : ∀ r ∈ rs, r.Good ∧ r.ent ∈ led) (ht : TriplesOk ps.toList) (hP : ∀ q ∈ led, q.1 ≠ 767 ∧ q.1 ≠ 811) (CH : CodeHd h₀ 813 811)
  (ret : ∀ ps' qs' s', Fr h₀ L s'.heap m → News h₀ L s'.heap ((767, tabObj ps') :: (811, tabObj qs') :: led) → Ok s s' → Q .next s'),
  wpAny (model PySem.Challenge.rw_ik0072_01.row.toRowW.prog w) (lawA L fa) (exec (lawAt 11) (lawEnv L fa)) Q E s := by
  k_fill
  intro w p loose mean mg mb A₀ base h₀ L fa m s Q E cq rA k2 nums rs ps td led B F X N T hm1 hm2 hn hne hg hrA hrs hrg ht hP CH ret
  unfold lawA lawEnv
  generalize hsc : lawScope = sc
  generalize hst : lawAt 11 = stm
  conv at hsc => lhs; whnf
  conv at hst => lhs; whnf
  refine hideG fun PG9 hG9 => ?_
  subst hsc
  subst hst
  obtain ⟨u, hu⟩ := form2 hm1 hm2
  subst hu
  refine hG9 ?_
  try clear hG9 PG9
  repeat' ((fail_if_success (first | (with_reducible show wpAny _ _ (exec (Stmt.While _ _ _ _) _) _ _ _) | (with_reducible show wpAny _ _ (exec (Stmt.For _ _ _ _ _) _) _ _ _) | (with_reducible show wpAny _ _ (exec (Stmt.Assign _ (Expr.ListComp _ _ _ _) _) _) _ _ _) | (with_reducible show wpAny _ _ (eval (Expr.ListComp _ _ _ _) _) _ _ _) | (with_reducible show wpAny _ _ (pyIter _) _ _ _) | (with_reducible show wpAny _ _ (call (Value.ref _) _ _) _ _ _) | (with_reducible show wpAny _ _ (call (Value.type "list") _) _ _ _) | (with_reducible show wpAny _ _ (compareOp _ (Value.str _ _) (Value.str _ _)) _ _ _) | (with_reducible show CmEnd _ _ _ _ _ _ _ _ _ _ _ _) | (with_reducible show Exists _) | (with_reducible show TurnEnd _ _ _ _ _ _ _ _ _) | (with_reducible show ForSrc _ _ _ _ _ _ _ _ _ _ _))); tb_rel)
  refine kla_eval rfl ?_
  show wpAny _ _ (makeFunction _ _ _ (.expr _) _ (envX (Str.ofString "law") _ L fa (.ref 813) _) [] [] [] _ _) _ _ _
  refine kla_nest F N T CH rfl (UpdF.tail ?u1 (UpdF.head ?u2)) ?tr ?am rfl (fun f c' oc cvs ct ctv h' tk F₁ N₁ hoc hcv lc1 lc2 => ?_)
  case tr => simp [TriplesOk, rawInt]
  case am => first | rfl | simp [codeAmong, rawInt]
  case u1 => exact (show (767 : Nat) ≠ 811 by decide)
  case u2 => exact fun q hq => (hP q hq).2
  refine hideG fun PG9 hG9 => ?_
  obtain ⟨led1, hled1, N₂⟩ : ∃ led1, led1 = _ ∧ News h₀ L h' led1 := ⟨_, rfl, N₁⟩
  refine hG9 ?_
  try clear hG9 PG9
  clear N₁
  repeat' ((fail_if_success (first | (with_reducible show wpAny _ _ (exec (Stmt.While _ _ _ _) _) _ _ _) | (with_reducible show wpAny _ _ (exec (Stmt.For _ _ _ _ _) _) _ _ _) | (with_reducible show wpAny _ _ (exec (Stmt.Assign _ (Expr.ListComp _ _ _ _) _) _) _ _ _) | (with_reducible show wpAny _ _ (eval (Expr.ListComp _ _ _ _) _) _ _ _) | (with_reducible show wpAny _ _ (pyIter _) _ _ _) | (with_reducible show wpAny _ _ (call (Value.ref _) _ _) _ _ _) | (with_reducible show wpAny _ _ (call (Value.type "list") _) _ _ _) | (with_reducible show wpAny _ _ (compareOp _ (Value.str _ _) (Value.str _ _)) _ _ _) | (with_reducible show CmEnd _ _ _ _ _ _ _ _ _ _ _ _) | (with_reducible show Exists _) | (with_reducible show TurnEnd _ _ _ _ _ _ _ _ _) | (with_reducible show ForSrc _ _ _ _ _ _ _ _ _ _ _))); tb_rel)
  refine cm_eval F₁ rfl (by decide) rfl (by decide) ?_
  repeat' ((fail_if_success (first | (with_reducible show wpAny _ _ (exec (Stmt.While _ _ _ _) _) _ _ _) | (with_reducible show wpAny _ _ (exec (Stmt.For _ _ _ _ _) _) _ _ _) | (with_reducible show wpAny _ _ (exec (Stmt.Assign _ (Expr.ListComp _ _ _ _) _) _) _ _ _) | (with_reducible show wpAny _ _ (eval (Expr.ListComp _ _ _ _) _) _ _ _) | (with_reducible show wpAny _ _ (pyIter _) _ _ _) | (with_reducible show wpAny _ _ (call (Value.ref _) _ _) _ _ _) | (with_reducible show wpAny _ _ (call (Value.type "list") _) _ _ _) | (with_reducible show wpAny _ _ (compareOp _ (Value.str _ _) (Value.str _ _)) _ _ _) | (with_reducible show CmEnd _ _ _ _ _ _ _ _ _ _ _ _) | (with_reducible show Exists _) | (with_reducible show TurnEnd _ _ _ _ _ _ _ _ _) | (with_reducible show ForSrc _ _ _ _ _ _ _ _ _ _ _))); tb_rel)
  have rlen := congrArg List.length hrs
  rw [List.length_map, List.length_map] at rlen
  have hSr : (rA, listOf (rs.map Row.ref).toArray k2) ∈ led1 := by rw [hled1]; exact List.mem_cons_of_mem _ (List.mem_cons_of_mem _ (List.mem_cons_of_mem _ (List.mem_cons_of_mem _ hrA)))
  have hrg1 : ∀ r ∈ rs, r.Good ∧ r.ent ∈ led1 := fun r hr => ⟨(hrg r hr).1, by rw [hled1]; exact List.mem_cons_of_mem _ (List.mem_cons_of_mem _ (List.mem_cons_of_mem _ (List.mem_cons_of_mem _ (hrg r hr).2)))⟩
  clear hrg
  rename ∀ r ∈ rs, r.Good ∧ r.ent ∈ led1 => hrg
  refine src_list (vs := rs.map Row.ref) (fun i ys led' => ∃ rs2 : List Row, ys = rs2.map Row.ref ∧ led' = rs2.map Row.ent ++ led1 ∧ rs2.map (·.ws) = (rs.take i).map (·.ws) ∧ (∀ r ∈ rs2, r.Good ∧ ∀ q ∈ led1, @LT.lt Nat _ q.1 r.a) ∧ (rs2.map (·.a)).Nodup) rfl F₁ N₂ (.inr ⟨_, hSr, rfl, _, rfl⟩) (by rw [List.length_map]; exact lee (by assumption) (by assumption) (by rfl)) (fun I C D s₃ ok₀ lt1 lt2 => ⟨⟨[], rfl, rfl, rfl, (fun r h => nomatch h), List.nodup_nil⟩, ?_, ?_⟩)
  · intro i ys led' v s₁ oI oC mC E' hi hv hJ911 hC ok₁ F₁ N₁ off ne hS
    refine hideG fun PG9 hG9 => ?_
    obtain ⟨rs2, rfl, rfl, hws2, hrs2, hnd⟩ := hJ911
    obtain ⟨r, hr9, rfl⟩ := map_get hv
    obtain ⟨gr, hre⟩ := hrg r (List.mem_of_getElem? hr9)
    refine hG9 ?_
    try clear hG9 PG9
    refine asg_name rfl rfl F₁ N₁ hC ne off (fun oC1 m1 h3 tk3 hC1 e1 e1' F₃ N₃ => ?_)
    refine wpAny_pure ?_
    rw [if_pos rfl]
    refine hideG fun PG9 hG9 => ?_
    obtain ⟨u1, hu1⟩ := form1 e1
    subst hu1
    refine hG9 ?_
    try clear hG9 PG9
    repeat' ((fail_if_success (first | (with_reducible show wpAny _ _ (exec (Stmt.While _ _ _ _) _) _ _ _) | (with_reducible show wpAny _ _ (exec (Stmt.For _ _ _ _ _) _) _ _ _) | (with_reducible show wpAny _ _ (exec (Stmt.Assign _ (Expr.ListComp _ _ _ _) _) _) _ _ _) | (with_reducible show wpAny _ _ (eval (Expr.ListComp _ _ _ _) _) _ _ _) | (with_reducible show wpAny _ _ (pyIter _) _ _ _) | (with_reducible show wpAny _ _ (call (Value.ref _) _ _) _ _ _) | (with_reducible show wpAny _ _ (call (Value.type "list") _) _ _ _) | (with_reducible show wpAny _ _ (compareOp _ (Value.str _ _) (Value.str _ _)) _ _ _) | (with_reducible show CmEnd _ _ _ _ _ _ _ _ _ _ _ _) | (with_reducible show Exists _) | (with_reducible show TurnEnd _ _ _ _ _ _ _ _ _) | (with_reducible show ForSrc _ _ _ _ _ _ _ _ _ _ _))); tb_rel)
    have glen := gr.len
    have gvl := gr.vlen
    refine kup_listOf F₃ N₃ (List.mem_cons_of_mem _ (List.mem_cons_of_mem _ (List.mem_cons_of_mem _ (List.mem_append_right _ hre)))) rfl (fun R9 c9 h9 F₄ N₄ hR9 => ?_) (by rw [sizeLine_eq]; show r.vs.length ≤ _; exact lee gvl glen (by rfl))
    repeat' ((fail_if_success (first | (with_reducible show wpAny _ _ (exec (Stmt.While _ _ _ _) _) _ _ _) | (with_reducible show wpAny _ _ (exec (Stmt.For _ _ _ _ _) _) _ _ _) | (with_reducible show wpAny _ _ (exec (Stmt.Assign _ (Expr.ListComp _ _ _ _) _) _) _ _ _) | (with_reducible show wpAny _ _ (eval (Expr.ListComp _ _ _ _) _) _ _ _) | (with_reducible show wpAny _ _ (pyIter _) _ _ _) | (with_reducible show wpAny _ _ (call (Value.ref _) _ _) _ _ _) | (with_reducible show wpAny _ _ (call (Value.type "list") _) _ _ _) | (with_reducible show wpAny _ _ (compareOp _ (Value.str _ _) (Value.str _ _)) _ _ _) | (with_reducible show CmEnd _ _ _ _ _ _ _ _ _ _ _ _) | (with_reducible show Exists _) | (with_reducible show TurnEnd _ _ _ _ _ _ _ _ _) | (with_reducible show ForSrc _ _ _ _ _ _ _ _ _ _ _))); tb_rel)
    have ro3 := off.mem
    refine ⟨oC1, _, (rs2 ++ [(⟨R9, r.vs, r.ws, c9⟩ : Row)]).map Row.ent ++ led1, ⟨rfl, id⟩, F₄, fun q hq => N₄ q ?_, hC1, LCg.Off3.of fun p hp => ?_, ?_, rs2 ++ [(⟨R9, r.vs, r.ws, c9⟩ : Row)], ?_, rfl, ?_, ?_, ?_⟩
    · rcases List.mem_cons.mp hq with rfl | hq
      · exact List.mem_cons_of_mem _ (List.mem_cons_self ..)
      rcases List.mem_cons.mp hq with rfl | hq
      · exact List.mem_cons_of_mem _ (List.mem_cons_of_mem _ (List.mem_cons_self ..))
      rcases List.mem_cons.mp hq with rfl | hq
      · exact List.mem_cons_of_mem _ (List.mem_cons_of_mem _ (List.mem_cons_of_mem _ (List.mem_cons_self ..)))
      rw [List.map_append, List.append_assoc] at hq
      rcases List.mem_append.mp hq with hq | hq
      · exact List.mem_cons_of_mem _ (List.mem_cons_of_mem _ (List.mem_cons_of_mem _ (List.mem_cons_of_mem _ (List.mem_append_left _ hq))))
      rcases List.mem_cons.mp hq with rfl | hq
      · exact List.mem_cons_self ..
      exact List.mem_cons_of_mem _ (List.mem_cons_of_mem _ (List.mem_cons_of_mem _ (List.mem_cons_of_mem _ (List.mem_append_right _ hq))))
    · rw [List.map_append, List.append_assoc] at hp
      rcases List.mem_append.mp hp with hp | hp
      · exact ro3 p (List.mem_append_left _ hp)
      rcases List.mem_cons.mp hp with rfl | hp
      · exact ⟨Nat.ne_of_gt (hR9 (I, oI) (List.mem_cons_self ..)), Nat.ne_of_gt (hR9 (C, oC1) (List.mem_cons_of_mem _ (List.mem_cons_self ..))), Nat.ne_of_gt (hR9 (D, _) (List.mem_cons_of_mem _ (List.mem_cons_of_mem _ (List.mem_cons_self ..))))⟩
      · exact ro3 p (List.mem_append_right _ hp)
    · exact .inr ⟨_, List.mem_append_right _ hSr, rfl, _, rfl⟩
    · simp [Row.ref]
    · rw [List.take_add_one, hr9, List.map_append, List.map_append, hws2]
      rfl
    · intro r' hr'
      rcases List.mem_append.mp hr' with hr' | hr'
      · exact hrs2 r' hr'
      · rw [List.mem_singleton.mp hr']
        exact ⟨⟨gr.are, gr.len⟩, fun q hq => hR9 q (List.mem_cons_of_mem _ (List.mem_cons_of_mem _ (List.mem_cons_of_mem _ (List.mem_append_right _ hq))))⟩
    · rw [List.map_append]
      refine List.nodup_append.mpr ⟨hnd, by simp, fun a ha b hb e => ?_⟩
      refine hideG fun PG9 hG9 => ?_
      obtain ⟨r', hr', rfl⟩ := List.mem_map.mp ha
      have hb' : b = R9 := List.mem_singleton.mp hb
      have := hR9 r'.ent (List.mem_cons_of_mem _ (List.mem_cons_of_mem _ (List.mem_cons_of_mem _ (List.mem_append_left _ (List.mem_map_of_mem hr')))))
      have h2 : r'.a = R9 := e.trans hb'
      refine hG9 ?_
      try clear hG9 PG9
      exact Nat.ne_of_lt this h2
  · intro ys led' s' hJ93 ok₁ F₁ N₁ offD offC
    refine hideG fun PG9 hG9 => ?_
    obtain ⟨rs2, rfl, rfl, hws2, hrs2, hnd⟩ := hJ93
    rw [List.length_map, List.take_length, hrs] at hws2
    refine hG9 ?_
    try clear hG9 PG9
    repeat' ((fail_if_success (first | (with_reducible show wpAny _ _ (exec (Stmt.While _ _ _ _) _) _ _ _) | (with_reducible show wpAny _ _ (exec (Stmt.For _ _ _ _ _) _) _ _ _) | (with_reducible show wpAny _ _ (exec (Stmt.Assign _ (Expr.ListComp _ _ _ _) _) _) _ _ _) | (with_reducible show wpAny _ _ (eval (Expr.ListComp _ _ _ _) _) _ _ _) | (with_reducible show wpAny _ _ (pyIter _) _ _ _) | (with_reducible show wpAny _ _ (call (Value.ref _) _ _) _ _ _) | (with_reducible show wpAny _ _ (call (Value.type "list") _) _ _ _) | (with_reducible show wpAny _ _ (compareOp _ (Value.str _ _) (Value.str _ _)) _ _ _) | (with_reducible show CmEnd _ _ _ _ _ _ _ _ _ _ _ _) | (with_reducible show Exists _) | (with_reducible show TurnEnd _ _ _ _ _ _ _ _ _) | (with_reducible show ForSrc _ _ _ _ _ _ _ _ _ _ _))); tb_rel)
    have rlen2 := congrArg List.length hws2
    rw [List.length_map, List.length_map] at rlen2
    rename Addr => Z
    rename Fr h₀ L _ _ => F₅
    rename News h₀ L _ _ => N₅
    rename _ ∧ AllLt _ _ => lZ
    refine hideG fun PG9 hG9 => ?_
    obtain ⟨lZ1, lZ2⟩ := lZ
    have lZ3 := allLt_mem lZ2
    refine hG9 ?_
    try clear hG9 PG9
    generalize hc9 : (rs2.map Row.ref).length = c9
    have e9 : LCg.lst (rs2.map Row.ref) = listOf (rs2.map Row.ref).toArray c9 := by rw [← hc9]
    rw [e9] at N₅
    have hJ9 : RedFn w 480 4800 f (rs2.map Row.ref) (redJ rs2 nums D c9 led1) := by
      unfold RedFn
      intro p loose mean mg mb A env outer A₀ base h₀ L m s Q E i v x led' own hx hJ B F X N T hh hA hf hk hd hu dis ret
      refine hideG fun PG9 hG9 => ?_
      obtain ⟨r, hr9, rfl⟩ := map_get hx
      obtain ⟨ta, tv, tn, rfl, htv, hled', hne1, hne2⟩ := hJ
      have hfm : (f, _) ∈ own ++ led' := List.mem_append_right _ (by rw [hled']; exact List.mem_cons_of_mem _ (List.mem_append_right _ (List.mem_cons_of_mem _ (by rw [hled1]; exact List.mem_cons_self ..))))
      have hcm : (c', oc) ∈ own ++ led' := List.mem_append_right _ (by rw [hled']; exact List.mem_cons_of_mem _ (List.mem_append_right _ (List.mem_cons_of_mem _ (by rw [hled1]; exact List.mem_cons_of_mem _ (List.mem_cons_self ..)))))
      obtain ⟨ah, dp, fr, gd, un⟩ := A
      refine hG9 ?_
      try clear hG9 PG9
      cases hh
      cases hA
      refine hideG fun PG9 hG9 => ?_
      obtain ⟨cs, lo, gl, cl, qn, fn, ccd, fr, bi⟩ := env
      refine hG9 ?_
      try clear hG9 PG9
      cases hf
      refine hideG fun PG9 hG9 => ?_
      obtain ⟨ck, cnm, cg1, cg2, cmo⟩ := cs
      refine hG9 ?_
      try clear hG9 PG9
      cases hk
      refine topA_mono hd hu ?_
      refine wpAny_call ?_
      refine kla_code B F X N T rfl rfl rfl hfm (codeRec_news N hcm hoc hcv) (Nat.le_of_ble_eq_true rfl) rfl (locs rfl) (fun g L2 h2 FG F' N' B' X' T' => ?_) rfl rfl rfl (by decide)
      repeat' ((fail_if_success (first | (with_reducible show wpAny _ _ (exec (Stmt.While _ _ _ _) _) _ _ _) | (with_reducible show wpAny _ _ (exec (Stmt.For _ _ _ _ _) _) _ _ _) | (with_reducible show wpAny _ _ (exec (Stmt.Assign _ (Expr.ListComp _ _ _ _) _) _) _ _ _) | (with_reducible show wpAny _ _ (eval (Expr.ListComp _ _ _ _) _) _ _ _) | (with_reducible show wpAny _ _ (pyIter _) _ _ _) | (with_reducible show wpAny _ _ (call (Value.ref _) _ _) _ _ _) | (with_reducible show wpAny _ _ (call (Value.type "list") _) _ _ _) | (with_reducible show wpAny _ _ (compareOp _ (Value.str _ _) (Value.str _ _)) _ _ _) | (with_reducible show CmEnd _ _ _ _ _ _ _ _ _ _ _ _) | (with_reducible show Exists _) | (with_reducible show TurnEnd _ _ _ _ _ _ _ _ _) | (with_reducible show ForSrc _ _ _ _ _ _ _ _ _ _ _))); tb_rel)
      rename Fr g L2 _ _ => F5
      rename News g L2 _ _ => N5
      have hrl : i < rs2.length := (List.getElem?_eq_some_iff.mp hr9).1
      have hdr : rs2.drop i = r :: rs2.drop (i + 1) := by
        rw [List.drop_eq_getElem_cons hrl]
        congr 1
        exact (List.getElem?_eq_some_iff.mp hr9).2
      refine hideG fun PG9 hG9 => ?_
      obtain ⟨n, hn9, hrw⟩ : ∃ n, nums[i]? = some n ∧ r.ws = Pl.chS (wdOf n.fs) := by
        have h1 : (rs2.map (·.ws))[i]? = some r.ws := by rw [List.getElem?_map, hr9]; rfl
        rw [hws2, List.getElem?_map] at h1
        obtain ⟨n, h2, h3⟩ := Option.map_eq_some_iff.mp h1
        exact ⟨n, h2, h3.symm⟩
      have hGn : ∀ w ∈ (nums.take i).map (fun n => wdOf n.fs), Pl.Good w := good_nums fun n hn => hg n (List.mem_of_mem_take hn)
      have gn := hg n (List.mem_of_getElem? hn9)
      obtain ⟨kk, hkk⟩ := Pl.tld_step (w := wdOf n.fs) (fun w hw => (hGn w hw).1) (good_wd gn.len gn.le).1
      have htl : (toldS nums i).length ≤ 400 := by
        have h1 := (Pl.tld_good hGn).1
        rw [List.length_map] at h1
        have h2 : (nums.take i).length ≤ nums.length := by rw [List.length_take]; exact Nat.min_le_right ..
        unfold toldS
        rw [List.length_map]
        exact le4 h1 (Nat.le_trans h2 (by assumption)) (by rfl)
      have hts : toldS nums (i + 1) = (Pl.tld ((nums.take i).map (fun n => wdOf n.fs) ++ [wdOf n.fs])).map Pl.st := by
        unfold toldS
        rw [List.take_add_one, hn9, List.map_append]
        rfl
      have hr2 := hrs2 r (List.mem_of_getElem? hr9)
      have hra : @Ne Nat r.a ta := hne1 r (hdr ▸ List.mem_cons_self ..)
      have hndr : (∀ x ∈ rs2.drop (i + 1), x.a ≠ r.a) := (nodup_split hnd hr9).2
      subst hled'
      refine hG9 ?_
      try clear hG9 PG9
      refine c3_any _ [(⟨ta, tv, toldS nums i, tn⟩ : Row), r] 0 kk (own ++ ((rs2.drop (i + 1)).map Row.ent ++ (D, listOf (rs2.map Row.ref).toArray c9) :: led1)) _ B' F5 X' (fun q hq => N5 q ?memC) T' rfl rfl rfl rfl (Nat.le_of_ble_eq_true rfl) (Nat.le_of_ble_eq_true rfl) ?good ?nd ?rr (show (2 : Nat) ≤ 100 by decide) ?sz (by show c3 kk [toldS nums i, r.ws] [] = _; rw [hrw]; exact hkk) (fun o R kr rv s3 ho hrv F6 N6 hR ok6 => ?_) (fun h => by cases h)
      case memC =>
        rcases List.mem_cons.mp hq with rfl | hq
        · exact List.mem_cons_self ..
        refine List.mem_cons_of_mem _ ?_
        rcases List.mem_cons.mp hq with rfl | hq
        · exact List.mem_append_right _ (List.mem_cons_self ..)
        rcases List.mem_cons.mp hq with rfl | hq
        · exact List.mem_append_right _ (List.mem_cons_of_mem _ (List.mem_append_left _ (by rw [hdr]; exact List.mem_cons_self ..)))
        change q ∈ own ++ ((rs2.drop (i + 1)).map Row.ent ++ (D, listOf (rs2.map Row.ref).toArray c9) :: led1) at hq
        rcases List.mem_append.mp hq with hq | hq
        · exact List.mem_append_left _ hq
        refine List.mem_append_right _ (List.mem_cons_of_mem _ ?_)
        rcases List.mem_append.mp hq with hq | hq
        · exact List.mem_append_left _ (by rw [hdr]; exact List.mem_cons_of_mem _ hq)
        · exact List.mem_append_right _ hq
      case good =>
        intro x hx
        rcases List.mem_cons.mp hx with rfl | hx
        · exact ⟨htv, by show (toldS nums i).length ≤ 1000; exact lel htl rfl⟩
        · rw [List.mem_singleton.mp hx]
          exact hr2.1
      case nd =>
        show [ta, r.a].Nodup
        simp
        exact fun e => hra e.symm
      case rr =>
        intro p hp x hx
        have hp' : p.1 ≠ ta ∧ p.1 ≠ r.a := by
          rcases List.mem_append.mp hp with hp | hp
          · exact ⟨dis p hp _ (List.mem_cons_self ..), dis p hp r.ent (List.mem_cons_of_mem _ (List.mem_append_left _ (by rw [hdr]; exact List.mem_cons_self ..)))⟩
          rcases List.mem_append.mp hp with hp | hp
          · obtain ⟨x, hx, rfl⟩ := List.mem_map.mp hp
            exact ⟨hne1 x (by rw [hdr]; exact List.mem_cons_of_mem _ hx), hndr x hx⟩
          rcases List.mem_cons.mp hp with rfl | hp
          · exact ⟨hne2 _ (List.mem_cons_self ..), Ne.symm (offD r.ent (List.mem_append_left _ (List.mem_map_of_mem (List.mem_of_getElem? hr9))))⟩
          · exact ⟨hne2 p (List.mem_cons_of_mem _ hp), Nat.ne_of_lt (hr2.2 p hp)⟩
        rcases List.mem_cons.mp hx with rfl | hx
        · exact hp'.1
        · rw [List.mem_singleton.mp hx]
          exact hp'.2
      case sz =>
        have := hr2.1.len
        show (toldS nums i).length + (r.ws.length + 0) ≤ 100000
        exact add_lit htl this rfl
      cases ho
      rw [← hts] at hrv
      repeat' ((fail_if_success (first | (with_reducible show wpAny _ _ (exec (Stmt.While _ _ _ _) _) _ _ _) | (with_reducible show wpAny _ _ (exec (Stmt.For _ _ _ _ _) _) _ _ _) | (with_reducible show wpAny _ _ (exec (Stmt.Assign _ (Expr.ListComp _ _ _ _) _) _) _ _ _) | (with_reducible show wpAny _ _ (eval (Expr.ListComp _ _ _ _) _) _ _ _) | (with_reducible show wpAny _ _ (pyIter _) _ _ _) | (with_reducible show wpAny _ _ (call (Value.ref _) _ _) _ _ _) | (with_reducible show wpAny _ _ (call (Value.type "list") _) _ _ _) | (with_reducible show wpAny _ _ (compareOp _ (Value.str _ _) (Value.str _ _)) _ _ _) | (with_reducible show CmEnd _ _ _ _ _ _ _ _ _ _ _ _) | (with_reducible show Exists _) | (with_reducible show TurnEnd _ _ _ _ _ _ _ _ _) | (with_reducible show ForSrc _ _ _ _ _ _ _ _ _ _ _))); tb_rel)
      rename Fr h₀ L _ m => F7
      rename News h₀ L _ _ => N7
      refine ret (.ref R) ((R, listOf rv.toArray kr) :: ((rs2.drop (i + 1)).map Row.ent ++ (D, listOf (rs2.map Row.ref).toArray c9) :: led1)) _ ⟨R, rv, kr, rfl, hrv, rfl, ?_, ?_⟩ ?_ F7 (fun q hq => N7 q ?_) ⟨ok6.os, ok6.gens⟩
      · exact fun x hx => hR x.ent (List.mem_append_right _ (List.mem_append_left _ (List.mem_map_of_mem hx)))
      · exact fun q hq => hR q (List.mem_append_right _ (List.mem_append_right _ hq))
      · intro p hp q hq
        rcases List.mem_cons.mp hq with rfl | hq
        · exact hR p (List.mem_append_left _ hp)
        refine dis p hp q (List.mem_cons_of_mem _ ?_)
        rcases List.mem_append.mp hq with hq | hq
        · exact List.mem_append_left _ (by rw [hdr]; exact List.mem_cons_of_mem _ hq)
        · exact List.mem_append_right _ hq
      · rcases List.mem_append.mp hq with hq | hq
        · exact List.mem_cons_of_mem _ (List.mem_append_left _ hq)
        rcases List.mem_cons.mp hq with rfl | hq
        · exact List.mem_cons_self ..
        exact List.mem_cons_of_mem _ (List.mem_append_right _ hq)
    have NR : News h₀ L _ ((Z, listOf (([] : List Value)).toArray 0) :: ((rs2.drop 0).map Row.ent ++ (D, listOf (rs2.map Row.ref).toArray c9) :: led1)) := fun q hq => N₅ q (by
      rcases List.mem_cons.mp hq with rfl | hq
      · exact List.mem_cons_self ..
      rcases List.mem_append.mp hq with hq | hq
      · exact List.mem_cons_of_mem _ (List.mem_cons_of_mem _ (List.mem_append_left _ hq))
      rcases List.mem_cons.mp hq with rfl | hq
      · exact List.mem_cons_of_mem _ (List.mem_cons_self ..)
      exact List.mem_cons_of_mem _ (List.mem_cons_of_mem _ (List.mem_append_right _ hq)))
    have hJ0 : redJ rs2 nums D c9 led1 0 (.ref Z) ((Z, listOf (([] : List Value)).toArray 0) :: ((rs2.drop 0).map Row.ent ++ (D, listOf (rs2.map Row.ref).toArray c9) :: led1)) := by
      refine ⟨Z, [], 0, rfl, .nil, rfl, ?_, ?_⟩
      · intro x hx
        exact Nat.ne_of_lt (lZ3 x.ent (List.mem_append_left _ (List.mem_map_of_mem hx)))
      · intro q hq
        rcases List.mem_cons.mp hq with rfl | hq
        · exact Nat.ne_of_lt lZ1
        · exact Nat.ne_of_lt (lZ3 q (List.mem_append_right _ hq))
    have hD9 : ∀ i v led', redJ rs2 nums D c9 led1 i v led' → (D, listOf (rs2.map Row.ref).toArray c9) ∈ led' := by
      intro i v led' hJ93
      refine hideG fun PG9 hG9 => ?_
      obtain ⟨ta, tv, tn, rfl, htv, rfl, _, _⟩ := hJ93
      refine hG9 ?_
      try clear hG9 PG9
      exact List.mem_cons_of_mem _ (List.mem_append_right _ (List.mem_cons_self ..))
    have h45 : @Ne Nat Z 45 := fun e => by
      have z := (N₅ _ (List.mem_cons_self ..)).2.2
      have e45 := X 45 _ rfl
      have e' : h₀.get? Z = h₀.get? 45 := congrArg h₀.get? e
      have z' : h₀.get? Z = none := z
      rw [z', e45] at e'
      cases e'
    refine' c_re3 _ _ _ _ f D (rs2.map Row.ref) c9 _ (redJ rs2 nums D c9 led1) Z [] 0 B F₅ X NR T rfl rfl rfl rfl (Nat.le_of_ble_eq_true rfl) (Nat.le_of_ble_eq_true rfl) (List.mem_cons_of_mem _ (List.mem_append_right _ (List.mem_cons_self ..))) hJ9 hD9 ?F9 (List.mem_cons_self ..) h45 hJ0 (fun v led' s4 hJ4 F4 N4 ok4 => ?_)
    case F9 =>
      intro i v led' hJ93
      refine hideG fun PG9 hG9 => ?_
      obtain ⟨ta, tv, tn, rfl, htv, rfl, _, _⟩ := hJ93
      refine hG9 ?_
      try clear hG9 PG9
      exact List.mem_cons_of_mem _ (List.mem_append_right _ (List.mem_cons_of_mem _ (by rw [hled1]; exact List.mem_cons_self ..)))
    refine hideG fun PG9 hG9 => ?_
    obtain ⟨ta, tv, tn, rfl, htv, rfl, hne1, hne2⟩ := hJ4
    have hfin : toldS nums (rs2.map Row.ref).length = dueS nums := by
      unfold toldS dueS
      rw [List.length_map, List.take_of_length_le (Nat.le_of_eq (by first | assumption | (symm; assumption)))]
    rw [hfin] at htv
    refine hG9 ?_
    try clear hG9 PG9
    repeat' ((fail_if_success (first | (with_reducible show wpAny _ _ (exec (Stmt.While _ _ _ _) _) _ _ _) | (with_reducible show wpAny _ _ (exec (Stmt.For _ _ _ _ _) _) _ _ _) | (with_reducible show wpAny _ _ (exec (Stmt.Assign _ (Expr.ListComp _ _ _ _) _) _) _ _ _) | (with_reducible show wpAny _ _ (eval (Expr.ListComp _ _ _ _) _) _ _ _) | (with_reducible show wpAny _ _ (pyIter _) _ _ _) | (with_reducible show wpAny _ _ (call (Value.ref _) _ _) _ _ _) | (with_reducible show wpAny _ _ (call (Value.type "list") _) _ _ _) | (with_reducible show wpAny _ _ (compareOp _ (Value.str _ _) (Value.str _ _)) _ _ _) | (with_reducible show CmEnd _ _ _ _ _ _ _ _ _ _ _ _) | (with_reducible show Exists _) | (with_reducible show TurnEnd _ _ _ _ _ _ _ _ _) | (with_reducible show ForSrc _ _ _ _ _ _ _ _ _ _ _))); tb_rel)
    have hdg := due_good hg (lel (by assumption) (by rfl))
    refine hideG fun PG9 hG9 => ?_
    obtain ⟨qs9, h811⟩ : ∃ qs9, (811, tabObj qs9) ∈ led1 := by
      rw [hled1]
      exact ⟨_, List.mem_cons_of_mem _ (List.mem_cons_of_mem _ (List.mem_cons_of_mem _ (List.mem_cons_self ..)))⟩
    have h767 : (767, tabObj ps) ∈ led1 := by
      rw [hled1]
      exact List.mem_cons_of_mem _ (List.mem_cons_of_mem _ (List.mem_cons_self ..))
    have hled : ∀ q ∈ led, q ∈ led1 := fun q hq => by
      rw [hled1]
      exact List.mem_cons_of_mem _ (List.mem_cons_of_mem _ (List.mem_cons_of_mem _ (List.mem_cons_of_mem _ hq)))
    have NJ : News h₀ L s4.heap ((767, tabObj ps) :: (ta, listOf tv.toArray tn) :: (811, tabObj qs9) :: led) := fun q hq => N4 q (by
      rcases List.mem_cons.mp hq with rfl | hq
      · exact List.mem_cons_of_mem _ (List.mem_append_right _ (List.mem_cons_of_mem _ h767))
      rcases List.mem_cons.mp hq with rfl | hq
      · exact List.mem_cons_self ..
      rcases List.mem_cons.mp hq with rfl | hq
      · exact List.mem_cons_of_mem _ (List.mem_append_right _ (List.mem_cons_of_mem _ h811))
      exact List.mem_cons_of_mem _ (List.mem_append_right _ (List.mem_cons_of_mem _ (hled q hq))))
    refine hG9 ?_
    try clear hG9 PG9
    refine c_join ta tv _ tn ps _ B F4 X NJ T rfl rfl rfl rfl (Nat.le_of_ble_eq_true rfl) (Nat.le_of_ble_eq_true rfl) (List.mem_cons_self ..) htv hdg.2 (lel hdg.1 rfl) ht ?h767 (fun t9 ps9 s9 ht9 F9 N9 ok9 => ?_)
    case h767 =>
      intro q hq
      rcases List.mem_cons.mp hq with rfl | hq
      · exact Ne.symm (hne2 (767, tabObj ps) (List.mem_cons_of_mem _ h767))
      rcases List.mem_cons.mp hq with rfl | hq
      · exact (show (811 : Nat) ≠ 767 by decide)
      exact (hP q hq).1
    repeat' ((fail_if_success (first | (with_reducible show wpAny _ _ (exec (Stmt.While _ _ _ _) _) _ _ _) | (with_reducible show wpAny _ _ (exec (Stmt.For _ _ _ _ _) _) _ _ _) | (with_reducible show wpAny _ _ (exec (Stmt.Assign _ (Expr.ListComp _ _ _ _) _) _) _ _ _) | (with_reducible show wpAny _ _ (eval (Expr.ListComp _ _ _ _) _) _ _ _) | (with_reducible show wpAny _ _ (pyIter _) _ _ _) | (with_reducible show wpAny _ _ (call (Value.ref _) _ _) _ _ _) | (with_reducible show wpAny _ _ (call (Value.type "list") _) _ _ _) | (with_reducible show wpAny _ _ (compareOp _ (Value.str _ _) (Value.str _ _)) _ _ _) | (with_reducible show CmEnd _ _ _ _ _ _ _ _ _ _ _ _) | (with_reducible show Exists _) | (with_reducible show TurnEnd _ _ _ _ _ _ _ _ _) | (with_reducible show ForSrc _ _ _ _ _ _ _ _ _ _ _))); tb_rel)
    refine ne_str ?_
    rw [bne_self_eq_false]
    repeat' ((fail_if_success (first | (with_reducible show wpAny _ _ (exec (Stmt.While _ _ _ _) _) _ _ _) | (with_reducible show wpAny _ _ (exec (Stmt.For _ _ _ _ _) _) _ _ _) | (with_reducible show wpAny _ _ (exec (Stmt.Assign _ (Expr.ListComp _ _ _ _) _) _) _ _ _) | (with_reducible show wpAny _ _ (eval (Expr.ListComp _ _ _ _) _) _ _ _) | (with_reducible show wpAny _ _ (pyIter _) _ _ _) | (with_reducible show wpAny _ _ (call (Value.ref _) _ _) _ _ _) | (with_reducible show wpAny _ _ (call (Value.type "list") _) _ _ _) | (with_reducible show wpAny _ _ (compareOp _ (Value.str _ _) (Value.str _ _)) _ _ _) | (with_reducible show CmEnd _ _ _ _ _ _ _ _ _ _ _ _) | (with_reducible show Exists _) | (with_reducible show TurnEnd _ _ _ _ _ _ _ _ _) | (with_reducible show ForSrc _ _ _ _ _ _ _ _ _ _ _))); tb_rel)
    exact ret ps9 qs9 _ F9 (fun q hq => N9 q (by
      rcases List.mem_cons.mp hq with rfl | hq
      · exact List.mem_cons_self ..
      exact List.mem_cons_of_mem _ (List.mem_cons_of_mem _ hq))) ⟨(ok9.os.trans ok4.os).trans ok₁.os, fun h => ok9.gens (ok4.gens (ok₁.gens h))⟩
end
section
open PySem PySem.W PySem.Spec PySem.Calls PyProof.Rows
section
variable {prog : Program} {w : World} {A₀ : Around} {E : Value → Shared → Prop} {s' : Shared} {h₀ h : Heap} {outer : List Env} {L e : Addr} {m : Fm} {env : Env} {b₀ : Stmt} {suite : List Stmt} {pos np : Pos} {rest : List ExceptHandler} {Q : Flow → Shared → Prop} {news : List Ent} {x : Str} {X T' : String}
/-- an exception of a callee that a frame with cells catches by a built-in's name -/
theorem caught_X (hfr : A₀.frames = some outer) (hL9 : env.frame = some L) (F : Fr h₀ L h m) (hsm : h.UpToSlots s'.heap) (R : RaisedN h₀ (env :: outer) e (.type X) news s'.heap)
    (hv : ∀ (A : Around) s (Q : Value → Shared → Prop) (E : Value → Shared → Prop), Fr h₀ L s.heap m → Q (.type T') s → wpAny (model prog w) A (eval (.Name x np) env) Q E s)
    (hexc : isSubtype (.type T') (.type "BaseException") = pure true) (hnt : isSubtype (.type ((Manifest.find? T').elim "type" fun y => y.metatype)) (.type "tuple") = pure false) (hsub : isSubtype (.type X) (.type T') = pure true)
    (k : ∀ h', Fr h₀ L h' m → News h₀ L h' news → wpAny (model prog w) ((A₀.deeper env).mark (some (.ref e))) (execs (b₀ :: suite) env) Q E { s' with heap := h' })
    (hE : PassesOwnAt (model prog w) ((A₀.deeper env).mark (some (.ref e))) (A₀.deeper env) env E) :
    wpAny (model prog w) (A₀.deeper env) (noteFrame (.ref e) env)
      (fun _ s₂ => wpAny (model prog w) (A₀.deeper env) (setFlight (.ref e) none) (fun _ s₃ =>
        wpAny (model prog w) (A₀.deeper env) (handleBy (.ref e) env (.ExceptHandler (some (.Name x np)) none (b₀ :: suite) pos :: rest)) Q E s₃) E s₂) E s' := by
  refine hideG fun PG9 hG9 => ?_
  obtain ⟨B, a0, hB, hl, hfl⟩ := R
  have hL : B.get? L = none := by
    obtain ⟨_, ⟨L', _, hf, hn', _⟩, _⟩ := hfl.2.2.1
    have : L = L' := Option.some.inj (hL9.symm.trans hf)
    rw [this]
    exact hn'
  refine hG9 ?_
  try clear hG9 PG9
  refine wpAny_looks_onW (Around.frames_deeper hfr) hL9 hfl fun h₄ hheld₄ hsm₄ => ?_
  refine wpAny_landsW hheld₄ fun h₅ hheld hsm₅' => ?_
  have hsm₅ := hsm₄.trans hsm₅'
  have hheld' := flyingW_base hB hheld
  have F₅ := F.of_stays hheld'.1 (hsm.trans hsm₅)
  refine hideG fun PG9 hG9 => ?_
  obtain ⟨ob, hob, hobc⟩ := hheld'.there
  refine hG9 ?_
  try clear hG9 PG9
  refine wpAny_handleBy_builtin (X := X) (T := T') (b := true) hexc hnt hsub (hv _ _ _ _ F₅ ⟨rfl, ⟨ob, hob, hobc⟩, ?_⟩)
  refine lands_againW hheld fun h₆ hfl₆ hsm₆ => ?_
  have F₆ := F.of_stays (flyingW_base hB hfl₆).1 ((hsm.trans hsm₅).trans hsm₆)
  exact wpAny_passesOwnAt hE (k h₆ F₆ fun q hq => ⟨hfl₆.1 _ _ (hl q hq).1, (fun z => by have := (hl q hq).1; rw [z, hL] at this; cases this), (hl q hq).2⟩)
end
theorem seg12 : ∀ {w : World} {p : Program} {loose : List Str} {mean : ExcName → Option Value} {mg mb : Str → Option Value}
  {A₀ : Around} {base h₀ : Heap} {L fa : Addr} {m : Fm} {s : Shared} {Q : Flow → Shared → Prop} {E : Value → Shared → Prop}
  (rA : Addr) (k2 : Nat) (nums : List Num) (rs : List Row) (led : List Ent)
  (B : Below A₀ base [] h₀) (F : Fr h₀ L s.heap m) (X : (KK w.params).In h₀) (N : News h₀ L s.heap (rs.reverse.map Row.ent ++ (rA, listOf (rs.map Row.ref).toArray k2) :: led)) (T : Top p loose mean mg mb h₀)
  (hbase : h₀ = base) (hm1 : m (Str.ofString "rows") = some (.ref rA)) (hn : nums.length ≤ 20) (hg : ∀ n ∈ nums, n.Good) (hBB : ∃ n ∈ nums, n.fs = [1, 1]) (hrs : rs.map (·.ws) = nums.map (fun n => Pl.chS (wdOf n.fs))) (hrg : ∀ r ∈ rs, r.Good) (hnd : (rs.map (·.a)).Nodup) (hoff : ∀ q ∈ (rA, listOf (rs.map Row.ref).toArray k2) :: led, ∀ r ∈ rs, q.1 ≠ r.a)
  (ret : ∀ s' led', Fr h₀ L s'.heap m → News h₀ L s'.heap led' → (∀ q ∈ led, q ∈ led') → Ok s s' → Q (.ret (.bool true)) s'),
  wpAny (model PySem.Challenge.rw_ik0072_01.row.toRowW.prog w) (lawA L fa) (exec (lawAt 12) (lawEnv L fa)) Q E s := by
  k_fill
  intro w p loose mean mg mb A₀ base h₀ L fa m s Q E rA k2 nums rs led B F X N T hbase hm1 hn hg hBB hrs hrg hnd hoff ret
  unfold lawA lawEnv
  generalize hsc : lawScope = sc
  generalize hst : lawAt 12 = stm
  conv at hsc => lhs; whnf
  conv at hst => lhs; whnf
  refine hideG fun PG9 hG9 => ?_
  subst hsc
  subst hst
  obtain ⟨u, hu⟩ := form1 hm1
  subst hu
  subst hbase
  refine hG9 ?_
  try clear hG9 PG9
  refine wpAny_noRaise ?_
  refine wpAny_Try_except ?_
  repeat' ((fail_if_success (first | (with_reducible show wpAny _ _ (exec (Stmt.While _ _ _ _) _) _ _ _) | (with_reducible show wpAny _ _ (exec (Stmt.For _ _ _ _ _) _) _ _ _) | (with_reducible show wpAny _ _ (exec (Stmt.Assign _ (Expr.ListComp _ _ _ _) _) _) _ _ _) | (with_reducible show wpAny _ _ (eval (Expr.ListComp _ _ _ _) _) _ _ _) | (with_reducible show wpAny _ _ (pyIter _) _ _ _) | (with_reducible show wpAny _ _ (call (Value.ref _) _ _) _ _ _) | (with_reducible show wpAny _ _ (binaryOp _ (Value.ref _) (Value.ref _)) _ _ _) | (with_reducible show Exists _) | (with_reducible show TurnEnd _ _ _ _ _ _ _ _ _) | (with_reducible show ForSrc _ _ _ _ _ _ _ _ _ _ _))); tb_rel)
  rename_i zA h5 lz1 lA h6 F₁ N₁ lz2
  have rlen := congrArg List.length hrs
  rw [List.length_map, List.length_map] at rlen
  refine add_arrays (its := (rs.map Row.ref).toArray) F₁ N₁ ⟨_, (N₁ (rA, listOf (rs.map Row.ref).toArray k2) (List.mem_cons_of_mem _ (List.mem_cons_of_mem _ (List.mem_append_right _ (List.mem_cons_self ..))))).1, rfl, _, rfl⟩ ⟨_, (N₁ (lA, _) (List.mem_cons_self ..)).1, rfl, _, rfl⟩ (fun h7 F7 N7 => ?_) ?sz
  case sz => 
    simp only [List.size_toArray, List.length_cons, List.length_nil, List.length_map, sizeLine_eq]
    exact add_lit (m := 20) (Nat.le_trans (Nat.le_of_eq (by assumption)) (by assumption)) (Nat.le_refl 1) (by rfl)
  repeat' ((fail_if_success (first | (with_reducible show wpAny _ _ (exec (Stmt.While _ _ _ _) _) _ _ _) | (with_reducible show wpAny _ _ (exec (Stmt.For _ _ _ _ _) _) _ _ _) | (with_reducible show wpAny _ _ (exec (Stmt.Assign _ (Expr.ListComp _ _ _ _) _) _) _ _ _) | (with_reducible show wpAny _ _ (eval (Expr.ListComp _ _ _ _) _) _ _ _) | (with_reducible show wpAny _ _ (pyIter _) _ _ _) | (with_reducible show wpAny _ _ (call (Value.ref _) _ _) _ _ _) | (with_reducible show wpAny _ _ (binaryOp _ (Value.ref _) (Value.ref _)) _ _ _) | (with_reducible show Exists _) | (with_reducible show TurnEnd _ _ _ _ _ _ _ _ _) | (with_reducible show ForSrc _ _ _ _ _ _ _ _ _ _ _))); tb_rel)
  have eS : ((rs.map Row.ref).toArray.toList ++ #[Value.ref zA].toList) = (rs ++ [(⟨zA, [Value.str (Str.ofString "") s.toks, Value.str (Str.ofString "BB") (s.toks + 1)], [Str.ofString "", Str.ofString "BB"], 0⟩ : Row)]).map Row.ref := by simp [Row.ref]
  rw [eS] at N7
  have hz1 : ∀ q ∈ rs.reverse.map Row.ent ++ (rA, listOf (rs.map Row.ref).toArray k2) :: led, @LT.lt Nat _ q.1 zA := lz1
  refine hideG fun PG9 hG9 => ?_
  obtain ⟨nB, hnB, hfB⟩ := hBB
  have hBB1 : wdOf nB.fs = [66, 66] := by rw [hfB]; rfl
  have hA1 : Pl.chS [66, 66] ∈ (rs ++ [(⟨zA, [Value.str (Str.ofString "") s.toks, Value.str (Str.ofString "BB") (s.toks + 1)], [Str.ofString "", Str.ofString "BB"], 0⟩ : Row)]).map (·.ws) := by
    rw [List.map_append, hrs]
    refine List.mem_append_left _ ?_
    rw [← hBB1]
    exact List.mem_map_of_mem (f := fun n : Num => Pl.chS (wdOf n.fs)) hnB
  have hZ1 : [Str.ofString "", Str.ofString "BB"] ∈ (rs ++ [(⟨zA, [Value.str (Str.ofString "") s.toks, Value.str (Str.ofString "BB") (s.toks + 1)], [Str.ofString "", Str.ofString "BB"], 0⟩ : Row)]).map (·.ws) := by
    rw [List.map_append]
    exact List.mem_append_right _ (List.mem_cons_self ..)
  have e66 : Pl.chS [66, 66] = Str.ofString "BB" :: [Pl.st [66], Str.ofString ""] := by decide +kernel
  rw [e66] at hA1
  have hsum : ((rs ++ [(⟨zA, [Value.str (Str.ofString "") s.toks, Value.str (Str.ofString "BB") (s.toks + 1)], [Str.ofString "", Str.ofString "BB"], 0⟩ : Row)]).map (·.ws.length)).sum ≤ 1000 := by
    have e1 : rs.map (·.ws.length) = (rs.map (·.ws)).map List.length := by rw [List.map_map]; rfl
    have e2 : nums.map (fun n => Pl.chS (wdOf n.fs)) = (nums.map fun n => wdOf n.fs).map Pl.chS := by rw [List.map_map]; rfl
    have := Pl.sum_chS (good_nums hg)
    rw [List.length_map] at this
    rw [List.map_append, List.sum_append, e1, hrs, e2]
    show _ + (2 + 0) ≤ 1000
    exact add_lit (le4 (k := 80) (by assumption) (by assumption) (by rfl)) (Nat.le_refl 2) (by rfl)
  refine hG9 ?_
  try clear hG9 PG9
  refine c3_any _ (rs ++ [(⟨zA, [Value.str (Str.ofString "") s.toks, Value.str (Str.ofString "BB") (s.toks + 1)], [Str.ofString "", Str.ofString "BB"], 0⟩ : Row)]) 0 2000 ((rA, listOf (rs.map Row.ref).toArray k2) :: led) none B F7 X (fun (q : Ent) hq => N7 q ?memC) T rfl rfl rfl rfl (Nat.le_of_ble_eq_true rfl) (Nat.le_of_ble_eq_true rfl) ?good ?nd ?rr ?few (Nat.le_trans hsum (by decide)) (Pl.raises (Str.ofString "BB") (Str.ofString "") (by decide +kernel) [Pl.st [66], Str.ofString ""] (by simp) 2000 _ [] ?sm hA1 hZ1) (fun o R kr rv s3 ho => by cases ho) (fun _ g e led9 s3 hsub F9 R9 U9 ok9 => ?_)
  case memC =>
    simp only [List.map_append, List.map_cons, List.map_nil, List.mem_cons, List.mem_append, List.map_reverse, List.mem_reverse, List.not_mem_nil, or_false] at hq ⊢
    rcases hq with h | (h | h) | h | h
    · exact .inl h
    · exact .inr (.inr (.inr (.inl h)))
    · exact .inr (.inr (.inl h))
    · exact .inr (.inr (.inr (.inr (.inl h))))
    · exact .inr (.inr (.inr (.inr (.inr h))))
  case good =>
    intro r hr
    rcases List.mem_append.mp hr with h | h
    · exact hrg r h
    · rw [List.mem_singleton.mp h]
      exact ⟨.cons _ _ (.cons _ _ .nil), by show 2 ≤ 1000; decide⟩
  case nd =>
    rw [List.map_append]
    refine List.nodup_append.mpr ⟨hnd, by simp, ?_⟩
    intro a ha b hb
    refine hideG fun PG9 hG9 => ?_
    obtain ⟨r, hr, rfl⟩ := List.mem_map.mp ha
    have hb' : b = zA := by simpa using hb
    subst hb'
    refine hG9 ?_
    try clear hG9 PG9
    exact Nat.ne_of_lt (hz1 r.ent (List.mem_append_left _ (List.mem_map_of_mem (List.mem_reverse.mpr hr))))
  case rr =>
    intro p hp r hr
    rcases List.mem_append.mp hr with h | h
    · exact hoff p hp r h
    · rw [List.mem_singleton.mp h]
      exact Nat.ne_of_lt (hz1 p (List.mem_append_right _ hp))
  case few =>
    rw [List.length_append]
    show _ + 1 ≤ 100
    exact add_lit (m := 20) (Nat.le_trans (Nat.le_of_eq (by assumption)) (by assumption)) (Nat.le_refl 1) (by rfl)
  case sm =>
    rw [List.map_map]
    exact Nat.lt_of_le_of_lt hsum (by decide)
  refine caught_X (T' := "RuntimeError") rfl rfl F9 U9 R9 (fun A s Q E F h => ?_) PySem.F.isExc_RuntimeError PySem.F.notTuple_RuntimeError (by rw [isSubtype_type]; kernel_rfl) (fun h' F10 N10 => ?_) PassesOwnAt.never
  · repeat' ((fail_if_success (first | (with_reducible show wpAny _ _ (exec (Stmt.While _ _ _ _) _) _ _ _) | (with_reducible show wpAny _ _ (exec (Stmt.For _ _ _ _ _) _) _ _ _) | (with_reducible show wpAny _ _ (exec (Stmt.Assign _ (Expr.ListComp _ _ _ _) _) _) _ _ _) | (with_reducible show wpAny _ _ (eval (Expr.ListComp _ _ _ _) _) _ _ _) | (with_reducible show wpAny _ _ (pyIter _) _ _ _) | (with_reducible show wpAny _ _ (call (Value.ref _) _ _) _ _ _) | (with_reducible show wpAny _ _ (binaryOp _ (Value.ref _) (Value.ref _)) _ _ _) | (with_reducible show Exists _) | (with_reducible show TurnEnd _ _ _ _ _ _ _ _ _) | (with_reducible show ForSrc _ _ _ _ _ _ _ _ _ _ _))); tb_rel)
    exact h
  · repeat' ((fail_if_success (first | (with_reducible show wpAny _ _ (exec (Stmt.While _ _ _ _) _) _ _ _) | (with_reducible show wpAny _ _ (exec (Stmt.For _ _ _ _ _) _) _ _ _) | (with_reducible show wpAny _ _ (exec (Stmt.Assign _ (Expr.ListComp _ _ _ _) _) _) _ _ _) | (with_reducible show wpAny _ _ (eval (Expr.ListComp _ _ _ _) _) _ _ _) | (with_reducible show wpAny _ _ (pyIter _) _ _ _) | (with_reducible show wpAny _ _ (call (Value.ref _) _ _) _ _ _) | (with_reducible show wpAny _ _ (binaryOp _ (Value.ref _) (Value.ref _)) _ _ _) | (with_reducible show Exists _) | (with_reducible show TurnEnd _ _ _ _ _ _ _ _ _) | (with_reducible show ForSrc _ _ _ _ _ _ _ _ _ _ _))); tb_rel)
    exact ret _ led9 F10 N10 (fun q hq => hsub q (List.mem_cons_of_mem _ hq)) ⟨ok9.os, ok9.gens⟩
end
section
open PySem PySem.W PySem.Spec PySem.Calls PyProof.Rows
theorem law_list : lawBody = [lawAt 0, lawAt 1, lawAt 2, lawAt 3, lawAt 4, lawAt 5, lawAt 6, lawAt 7, lawAt 8, lawAt 9, lawAt 10, lawAt 11, lawAt 12, lawAt 13] := by kernel_rfl
theorem News.sub {h₀ h : Heap} {L : Addr} {l l' : List Ent} (N : News h₀ L h l) (k : ∀ q ∈ l', q ∈ l) : News h₀ L h l' := fun q hq => N q (k q hq)
theorem News.ap {h₀ h : Heap} {L : Addr} {l : List Ent} {p q : Ent} (N : News h₀ L h l) (hp : p ∈ l) (hq : q ∈ l) (hne : p.2 ≠ q.2) : p.1 ≠ q.1 := fun e => by
  have h1 := (N p hp).1
  have h2 := (N q hq).1
  rw [e, h2] at h1
  exact hne (Option.some.inj h1).symm
/-- the entries are lists -/
noncomputable def AllL (l : List Ent) : Prop := ∀ q ∈ l, ∃ a n, q.2.data = .seq a n
theorem AllL.nil : AllL [] := fun q h => nomatch h
theorem AllL.cons {a : Addr} {vs : Array Value} {n : Nat} {l : List Ent} (h : AllL l) : AllL ((a, listOf vs n) :: l) := fun q hq => by
  rcases List.mem_cons.mp hq with rfl | hq
  · exact ⟨_, _, rfl⟩
  · exact h q hq
theorem AllL.app {l l' : List Ent} (h : AllL l) (h' : AllL l') : AllL (l ++ l') := fun q hq => (List.mem_append.mp hq).elim (h q) (h' q)
theorem all_nums (nums : List Num) : AllL (nums.flatMap Num.ents) := fun q hq => by
  refine hideG fun PG9 hG9 => ?_
  obtain ⟨n, _, hn⟩ := List.mem_flatMap.mp hq
  have : q = (n.ra, listOf #[.int n.sg n.ts, .ref n.fa] n.nr) ∨ q = (n.fa, listOf n.fv.toArray n.nf) := by simpa [Num.ents] using hn
  refine hG9 ?_
  try clear hG9 PG9
  rcases this with rfl | rfl <;> exact ⟨_, _, rfl⟩
theorem all_rows (rs : List Row) : AllL (rs.map Row.ent) := fun q hq => by
  refine hideG fun PG9 hG9 => ?_
  obtain ⟨r, _, rfl⟩ := List.mem_map.mp hq
  refine hG9 ?_
  try clear hG9 PG9
  exact ⟨_, _, rfl⟩
section
variable {h₀ h : Heap} {L : Addr} {ps qs : Array Value} {oW oK : Obj} {vW vK : Option Value} {ls : List Ent}
/-- the ledger of the law: the two tables, the two cells, and lists -/
noncomputable abbrev lawL (L : Addr) (ps qs : Array Value) (oW oK : Obj) (ls : List Ent) : List Ent := (767, tabObj ps) :: (811, tabObj qs) :: (L + 1, oW) :: (L + 1 + 1, oK) :: ls
theorem off_tab (N : News h₀ L h (lawL L ps qs oW oK ls)) (hl : AllL ls) (hL : 811 < L) : ∀ q ∈ (L + 1, oW) :: (L + 1 + 1, oK) :: ls, q.1 ≠ 767 ∧ q.1 ≠ 811 := by
  intro q hq
  have big : ∀ {a : Nat}, @LT.lt Nat _ 811 a → a ≠ 767 ∧ a ≠ 811 := fun h => ⟨Nat.ne_of_gt (Nat.lt_trans (Nat.le_of_ble_eq_true rfl) h), Nat.ne_of_gt h⟩
  have hL' : @LT.lt Nat _ 811 L := hL
  rcases List.mem_cons.mp hq with rfl | hq
  · exact big (show @LT.lt Nat _ 811 (L + 1) from Nat.lt_succ_of_lt hL')
  rcases List.mem_cons.mp hq with rfl | hq
  · exact big (show @LT.lt Nat _ 811 (L + 1 + 1) from Nat.lt_succ_of_lt (Nat.lt_succ_of_lt hL'))
  have hq' : q ∈ lawL L ps qs oW oK ls := List.mem_cons_of_mem _ (List.mem_cons_of_mem _ (List.mem_cons_of_mem _ (List.mem_cons_of_mem _ hq)))
  refine hideG fun PG9 hG9 => ?_
  obtain ⟨a, n, hc⟩ := hl q hq
  have ne : ∀ zs : Array Value, q.2 ≠ tabObj zs := fun zs e => by rw [e] at hc; cases hc
  refine hG9 ?_
  try clear hG9 PG9
  exact ⟨News.ap N hq' (q := (767, tabObj ps)) (List.mem_cons_self ..) (ne _), News.ap N hq' (q := (811, tabObj qs)) (List.mem_cons_of_mem _ (List.mem_cons_self ..)) (ne _)⟩
theorem off_767 (N : News h₀ L h (lawL L ps qs oW oK ls)) (hl : AllL ls) (hL : 811 < L) : ∀ q ∈ (811, tabObj qs) :: (L + 1, oW) :: (L + 1 + 1, oK) :: ls, q.1 ≠ 767 := by
  intro q hq
  rcases List.mem_cons.mp hq with rfl | hq
  · exact (show (811 : Nat) ≠ 767 by decide)
  · exact (off_tab N hl hL q hq).1
theorem off_cell (N : News h₀ L h (lawL L ps qs oW oK ls)) (hl : AllL ls) (hL : 811 < L) (hW : oW.data = .cell vW) (hK : oK.data = .cell vK) : ∀ q ∈ (767, tabObj ps) :: (811, tabObj qs) :: ls, q.1 ≠ L + 1 ∧ q.1 ≠ L + 1 + 1 := by
  intro q hq
  have hL' : @LT.lt Nat _ 811 L := hL
  have low : ∀ {a : Nat}, a ≤ 811 → @Ne Nat a (L + 1) ∧ @Ne Nat a (L + 1 + 1) := fun {a} h => by
    have h1 : @LT.lt Nat _ a L := Nat.lt_of_le_of_lt h hL'
    exact ⟨Nat.ne_of_lt (Nat.lt_succ_of_lt h1), Nat.ne_of_lt (Nat.lt_succ_of_lt (Nat.lt_succ_of_lt h1))⟩
  rcases List.mem_cons.mp hq with rfl | hq
  · exact low (show 767 ≤ 811 by decide)
  rcases List.mem_cons.mp hq with rfl | hq
  · exact low (Nat.le_refl _)
  have hq' : q ∈ lawL L ps qs oW oK ls := List.mem_cons_of_mem _ (List.mem_cons_of_mem _ (List.mem_cons_of_mem _ (List.mem_cons_of_mem _ hq)))
  refine hideG fun PG9 hG9 => ?_
  obtain ⟨a, n, hc⟩ := hl q hq
  have ne : ∀ (o : Obj) v, o.data = .cell v → q.2 ≠ o := fun o v ho e => by rw [e, ho] at hc; cases hc
  refine hG9 ?_
  try clear hG9 PG9
  exact ⟨News.ap N hq' (q := (L + 1, oW)) (List.mem_cons_of_mem _ (List.mem_cons_of_mem _ (List.mem_cons_self ..))) (ne _ _ hW), News.ap N hq' (q := (L + 1 + 1, oK)) (List.mem_cons_of_mem _ (List.mem_cons_of_mem _ (List.mem_cons_of_mem _ (List.mem_cons_self ..)))) (ne _ _ hK)⟩
end
theorem in2 {α} {a b q : α} {l : List α} (h : q ∈ l) : q ∈ a :: b :: l := List.mem_cons_of_mem _ (List.mem_cons_of_mem _ h)
theorem in3 {α} {a b c q : α} {l : List α} (h : q ∈ l) : q ∈ a :: b :: c :: l := List.mem_cons_of_mem _ (in2 h)
theorem in4 {α} {a b c d q : α} {l : List α} (h : q ∈ l) : q ∈ a :: b :: c :: d :: l := in2 (in2 h)
theorem fm_ne {m : Fm} {x y : Str} {v : Option Value} (h : y ≠ x) : (fun z => if z = x then v else m z : Fm) y = m y := if_neg h
theorem fm_eq {m : Fm} {x : Str} {v : Option Value} : (fun z => if z = x then v else m z : Fm) x = v := if_pos rfl
theorem law_body : ∀ {w : World} {p : Program} {loose : List Str} {mean : ExcName → Option Value} {mg mb : Str → Option Value}
  {A₀ : Around} {h₀ : Heap} {L fa : Addr} {m : Fm} {s : Shared} {Q : Flow → Shared → Prop} {E : Value → Shared → Prop}
  (lst : Addr) (vs : List Value) (ns : List Int) (oW oK : Obj) (vW vK : Option Value)
  (B : Below A₀ h₀ [] h₀) (F : Fr h₀ L s.heap m) (X : (KK w.params).In h₀) (N : News h₀ L s.heap (lawL L #[] #[] oW oK [])) (T : Top p loose mean mg mb h₀) (CH : CodeHd h₀ 813 811) (hL : 811 < L) (dW : oW.data = .cell vW) (dK : oK.data = .cell vK)
  (hm1 : m (Str.ofString "script") = some (.ref lst)) (hl : h₀.IsList lst vs.toArray) (hi : IntsAre vs ns) (hn : ns.length ≤ 63)
  (ret : ∀ m' s' led' ps qs, Fr h₀ L s'.heap m' → News h₀ L s'.heap led' → (767, tabObj ps) ∈ led' → (811, tabObj qs) ∈ led' → Ok s s' → Q (.ret (.bool true)) s'),
  wpAny (model PySem.Challenge.rw_ik0072_01.row.toRowW.prog w) (lawA L fa) (execs lawBody (lawEnv L fa)) Q E s := by
  k_fill
  intro w p loose mean mg mb A₀ h₀ L fa m s Q E lst vs ns oW oK vW vK B F X N T CH hL dW dK hm1 hl hi hn ret
  rw [law_list]
  refine wpAny_execs_cons (seg0 lst vs ns _ B F X N T hm1 hl hi hn fun R c nums z s1 hlen hgs hz hzf hlt1 F1 N1 ok1 => ?_)
  have hlen9 : (nums ++ [z]).length = 10 := by rw [List.length_append, hlen]; rfl
  have hg9 : ∀ n ∈ nums ++ [z], n.Good := fun n hn => (List.mem_append.mp hn).elim (hgs n) (fun h => List.mem_singleton.mp h ▸ hz)
  have hBB : ∃ n ∈ nums ++ [z], n.fs = [1, 1] := ⟨z, List.mem_append_right _ (List.mem_cons_self ..), hzf⟩
  generalize nums ++ [z] = n9 at *
  have hne9 : n9 ≠ [] := fun h => by rw [h] at hlen9; cases hlen9
  have a1 : AllL ((R, listOf (n9.map fun n => Value.ref n.ra).toArray c) :: n9.flatMap Num.ents) := AllL.cons (all_nums n9)
  have N1' : News h₀ L s1.heap (lawL L #[] #[] oW oK ((R, listOf (n9.map fun n => Value.ref n.ra).toArray c) :: n9.flatMap Num.ents)) := News.sub N1 fun q hq => by
    simp only [lawL, List.mem_cons, List.mem_append, List.not_mem_nil, or_false] at hq ⊢
    grind
  have hE1 : ∀ n ∈ n9, ∀ p ∈ n.ents, p ∈ (R, listOf (n9.map fun n => Value.ref n.ra).toArray c) :: n9.flatMap Num.ents := fun n hn p hp => List.mem_cons_of_mem _ (List.mem_flatMap.mpr ⟨n, hn, hp⟩)
  have hR1 : (R, listOf (n9.map fun n => Value.ref n.ra).toArray c) ∈ (R, listOf (n9.map fun n => Value.ref n.ra).toArray c) :: n9.flatMap Num.ents := List.mem_cons_self ..
  generalize (R, listOf (n9.map fun n => Value.ref n.ra).toArray c) :: n9.flatMap Num.ents = ls1 at *
  -- words
  refine wpAny_execs_cons (seg1 R c n9 _ B F1 X N1' T fm_eq (lee hlen9 (Nat.le_refl _) rfl) hg9 (in4 hR1) (fun n hn p hp => in4 (hE1 n hn p hp)) fun W wv wk s2 hwv hlt2 F2 N2 ok2 => ?_)
  -- lines
  refine wpAny_execs_cons (seg2 _ B F2 X N2 T fun D s3 hlt3 F3 N3 ok3 => ?_)
  have a3 : AllL ((W, listOf wv.toArray wk) :: ls1) := AllL.cons a1
  have N3' : News h₀ L s3.heap (lawL L #[] #[] oW oK ((W, listOf wv.toArray wk) :: ls1)) := News.sub N3 fun q hq => by
    simp only [lawL, List.mem_cons] at hq ⊢
    grind
  have hD7 : @LT.lt Nat _ 767 D := hlt3 (767, tabObj #[]) (List.mem_cons_of_mem _ (List.mem_cons_self ..))
  refine wpAny_execs_cons (seg3 R D c n9 #[] ((811, tabObj #[]) :: (L + 1, oW) :: (L + 1 + 1, oK) :: (W, listOf wv.toArray wk) :: ls1) B F3 X (News.sub N3 fun q hq => by
    simp only [lawL, List.mem_cons] at hq ⊢
    grind) T ?m1 fm_eq (lee hlen9 (Nat.le_refl _) rfl) hg9 (List.mem_cons_of_mem _ (List.mem_cons_of_mem _ (List.mem_cons_of_mem _ (List.mem_cons_of_mem _ hR1)))) (fun n hn p hp => List.mem_cons_of_mem _ (List.mem_cons_of_mem _ (List.mem_cons_of_mem _ (List.mem_cons_of_mem _ (hE1 n hn p hp))))) ?t0 (fun q hq => ⟨off_767 N3' a3 hL q hq, Nat.ne_of_lt (hlt3 q ?_)⟩) (Nat.ne_of_gt hD7) fun ps4 lv lk s4 m4 ht4 hlv hm4 F4 N4 ok4 => ?_)
  case m1 => 
    show (if Str.ofString "numbers" = Str.ofString "lines" then _ else if Str.ofString "numbers" = Str.ofString "words" then _ else if Str.ofString "numbers" = Str.ofString "numbers" then _ else _) = _
    rw [if_neg (show Str.ofString "numbers" ≠ Str.ofString "lines" by decide +kernel), if_neg (show Str.ofString "numbers" ≠ Str.ofString "words" by decide +kernel), if_pos rfl]
  case t0 => exact trivial
  · simp only [lawL, List.mem_cons] at hq ⊢
    grind
  have a4 : AllL ((D, listOf lv.toArray lk) :: (W, listOf wv.toArray wk) :: ls1) := AllL.cons a3
  have N4' : News h₀ L s4.heap (lawL L ps4 #[] oW oK ((D, listOf lv.toArray lk) :: (W, listOf wv.toArray wk) :: ls1)) := News.sub N4 fun q hq => by
    simp only [lawL, List.mem_cons] at hq ⊢
    grind
  have m4l : m4 (Str.ofString "lines") = some (.ref D) := (hm4 _ (by decide +kernel) (by decide +kernel)).trans fm_eq
  have m4w : m4 (Str.ofString "words") = some (.ref W) := (hm4 _ (by decide +kernel) (by decide +kernel)).trans (by
    show (if Str.ofString "words" = Str.ofString "lines" then _ else if Str.ofString "words" = Str.ofString "words" then _ else _) = _
    rw [if_neg (show Str.ofString "words" ≠ Str.ofString "lines" by decide +kernel), if_pos rfl])
  have hlsM : (D, listOf lv.toArray lk) ∈ (D, listOf lv.toArray lk) :: (W, listOf wv.toArray wk) :: ls1 := List.mem_cons_self ..
  have hwsM : (W, listOf wv.toArray wk) ∈ (D, listOf lv.toArray lk) :: (W, listOf wv.toArray wk) :: ls1 := List.mem_cons_of_mem _ (List.mem_cons_self ..)
  generalize (D, listOf lv.toArray lk) :: (W, listOf wv.toArray wk) :: ls1 = ls4 at *
  clear N3' N3 N4
  refine wpAny_execs_cons (seg4 D W lv wv lk wk n9 _ B F4 X N4' T m4l m4w (lee hlen9 (Nat.le_refl _) rfl) hg9 (in4 hlsM) hlv (in4 hwsM) hwv fun s5 F5 N5 ok5 => ?_)
  refine wpAny_execs_cons (seg5 D lv lk n9 _ B F5 X N5 T m4l (lee hlen9 (Nat.le_refl _) rfl) hg9 (in4 hlsM) hlv fun D5 c5 rs s6 hrs hrg hnd F6 hrD hlt6 N6 ok6 => ?_)
  have a6 : AllL ((D5, listOf (rs.map Row.ref).toArray c5) :: (rs.reverse.map Row.ent ++ ls4)) := AllL.cons (AllL.app (all_rows _) a4)
  have N6' : News h₀ L s6.heap (lawL L ps4 #[] oW oK ((D5, listOf (rs.map Row.ref).toArray c5) :: (rs.reverse.map Row.ent ++ ls4))) := News.sub N6 fun q hq => by
    simp only [lawL, List.mem_cons, List.mem_append] at hq ⊢
    grind
  have hrsM : (D5, listOf (rs.map Row.ref).toArray c5) ∈ (D5, listOf (rs.map Row.ref).toArray c5) :: (rs.reverse.map Row.ent ++ ls4) := List.mem_cons_self ..
  have hrE : ∀ r ∈ rs, r.Good ∧ r.ent ∈ (D5, listOf (rs.map Row.ref).toArray c5) :: (rs.reverse.map Row.ent ++ ls4) := fun r hr => ⟨(hrg r hr).1, List.mem_cons_of_mem _ (List.mem_append_left _ (List.mem_map_of_mem (List.mem_reverse.mpr hr)))⟩
  have hwsM' : (W, listOf wv.toArray wk) ∈ (D5, listOf (rs.map Row.ref).toArray c5) :: (rs.reverse.map Row.ent ++ ls4) := List.mem_cons_of_mem _ (List.mem_append_right _ hwsM)
  have back6 : ∀ q ∈ rs.reverse.map Row.ent ++ (D5, listOf (rs.map Row.ref).toArray c5) :: ls4, q ∈ (D5, listOf (rs.map Row.ref).toArray c5) :: (rs.reverse.map Row.ent ++ ls4) := fun q hq => by
    simp only [List.mem_cons, List.mem_append] at hq ⊢
    grind
  generalize hls6 : (D5, listOf (rs.map Row.ref).toArray c5) :: (rs.reverse.map Row.ent ++ ls4) = ls6 at *
  have m6w : (fun y => if y = Str.ofString "rows" then some (.ref D5) else m4 y : Fm) (Str.ofString "words") = some (.ref W) := (fm_ne (x := Str.ofString "rows") (y := Str.ofString "words") (by decide +kernel)).trans m4w
  have m6r : (fun y => if y = Str.ofString "rows" then some (.ref D5) else m4 y : Fm) (Str.ofString "rows") = some (.ref D5) := fm_eq
  generalize (fun y => if y = Str.ofString "rows" then some (.ref D5) else m4 y : Fm) = m6 at *
  refine wpAny_execs_cons (seg6 W D5 wv wk c5 n9 rs ps4 ((811, tabObj #[]) :: (L + 1, oW) :: (L + 1 + 1, oK) :: ls6) B F6 X N6' T m6w m6r (lee hlen9 (Nat.le_refl _) rfl) hg9 (in3 hwsM') hwv (in3 hrsM) hrs (fun r hr => ⟨(hrE r hr).1, in3 (hrE r hr).2⟩) ht4 (off_767 N6' a6 hL) fun ps7 s7 ht7 F7 N7 ok7 => ?_)
  refine wpAny_execs_cons (seg7 oW oK vW vK ((767, tabObj ps7) :: (811, tabObj #[]) :: ls6) B F7 X (News.sub N7 fun q hq => by
    simp only [lawL, List.mem_cons] at hq ⊢
    grind) T dK ?fr7 fun K oK2 s8 dK2 hlt8 F8 N8 ok8 => ?_)
  case fr7 =>
    intro q hq
    rcases List.mem_cons.mp hq with rfl | hq
    · exact Nat.ne_of_lt (Nat.lt_succ_self (L + 1))
    · exact (off_cell N7 a6 hL dW dK q hq).2
  have N8' : News h₀ L s8.heap (lawL L ps7 #[] oW oK2 ls6) := News.sub N8 fun q hq => by
    simp only [lawL, List.mem_cons] at hq ⊢
    grind
  refine wpAny_execs_cons (seg8 W K wv wk n9 oW oK2 vW ((767, tabObj ps7) :: (811, tabObj #[]) :: ls6) B F8 X N8 T m6w (lee hlen9 (Nat.le_refl _) rfl) hg9 (in2 hwsM') hwv dW dK2 ?fr8 hlt8 fun kv kc oW2 s9 hkv F9 N9 ok9 => ?_)
  case fr8 =>
    intro q hq
    rcases List.mem_cons.mp hq with rfl | hq
    · exact Nat.ne_of_gt (Nat.lt_succ_self (L + 1))
    · exact (off_cell N8' a6 hL dW dK2 q hq).1
  refine wpAny_execs_cons (seg9 K kv kc n9 oK2 ((L + 1, oW2) :: (767, tabObj ps7) :: (811, tabObj #[]) :: ls6) B F9 X (News.sub N9 fun q hq => by
    simp only [lawL, List.mem_cons] at hq ⊢
    grind) T (lee hlen9 (Nat.le_refl _) rfl) hne9 hg9 dK2 hkv fun td s10 F10 N10 ok10 => ?_)
  have m10r : (fun y => if y = Str.ofString "due" then some (.str (joinP (dueS n9)) td) else m6 y : Fm) (Str.ofString "rows") = some (.ref D5) := (fm_ne (x := Str.ofString "due") (y := Str.ofString "rows") (by decide +kernel)).trans m6r
  have m10d : (fun y => if y = Str.ofString "due" then some (.str (joinP (dueS n9)) td) else m6 y : Fm) (Str.ofString "due") = some (.str (joinP (dueS n9)) td) := fm_eq
  generalize (fun y => if y = Str.ofString "due" then some (.str (joinP (dueS n9)) td) else m6 y : Fm) = m10 at *
  have a10 : AllL ((K, listOf kv.toArray kc) :: ls6) := AllL.cons a6
  have N10' : News h₀ L s10.heap (lawL L ps7 #[] oW2 oK2 ((K, listOf kv.toArray kc) :: ls6)) := News.sub N10 fun q hq => by
    simp only [lawL, List.mem_cons] at hq ⊢
    grind
  refine wpAny_execs_cons (seg10 D5 c5 n9 rs ps7 td ((L + 1, oW2) :: (L + 1 + 1, oK2) :: (K, listOf kv.toArray kc) :: ls6) B F10 X N10' T m10r m10d (lee hlen9 (Nat.le_refl _) rfl) hne9 hg9 (in3 hrsM) hrs (fun r hr => ⟨(hrE r hr).1, in3 (hrE r hr).2⟩) ht7 (off_tab N10' a10 hL) CH fun ps11 c11 s11 ht11 F11 N11 ok11 => ?_)
  refine wpAny_execs_cons (seg11 c11 D5 c5 n9 rs ps11 td ((L + 1, oW2) :: (L + 1 + 1, oK2) :: (K, listOf kv.toArray kc) :: ls6) B F11 X N11 T m10r m10d (lee hlen9 (Nat.le_refl _) rfl) hne9 hg9 (in3 hrsM) hrs (fun r hr => ⟨(hrE r hr).1, in3 (hrE r hr).2⟩) ht11 (off_tab N10' a10 hL) CH fun ps12 qs12 s12 F12 N12 ok12 => ?_)
  refine wpAny_execs_cons (seg12 D5 c5 n9 rs ((767, tabObj ps12) :: (811, tabObj qs12) :: (L + 1, oW2) :: (L + 1 + 1, oK2) :: (K, listOf kv.toArray kc) :: ls4) B F12 X (News.sub N12 fun q hq => ?memN) T rfl m10r (lee hlen9 (Nat.le_refl _) rfl) hg9 hBB hrs (fun r hr => (hrg r hr).1) hnd ?hoff fun s13 led13 F13 N13 sub13 ok13 => ?_)
  case memN =>
    have : q ∈ ls6 ∨ q = (767, tabObj ps12) ∨ q = (811, tabObj qs12) ∨ q = (L + 1, oW2) ∨ q = (L + 1 + 1, oK2) ∨ q = (K, listOf kv.toArray kc) := by
      have b := back6 q
      simp only [List.mem_cons, List.mem_append] at hq b ⊢
      grind
    simp only [List.mem_cons]
    grind
  case hoff =>
    intro q hq r hr
    have lo : ∀ q' ∈ lawL L ps4 #[] oW oK ls4, @LT.lt Nat _ q'.1 r.a := fun q' hq' => (hrg r hr).2 q' hq'
    rcases List.mem_cons.mp hq with rfl | hq
    · exact Ne.symm (hrD r hr)
    rcases List.mem_cons.mp hq with rfl | hq
    · exact Nat.ne_of_lt (lo (767, tabObj ps4) (List.mem_cons_self ..))
    rcases List.mem_cons.mp hq with rfl | hq
    · exact Nat.ne_of_lt (lo (811, tabObj #[]) (List.mem_cons_of_mem _ (List.mem_cons_self ..)))
    rcases List.mem_cons.mp hq with rfl | hq
    · exact Nat.ne_of_lt (lo (L + 1, oW) (List.mem_cons_of_mem _ (List.mem_cons_of_mem _ (List.mem_cons_self ..))))
    rcases List.mem_cons.mp hq with rfl | hq
    · exact Nat.ne_of_lt (lo (L + 1 + 1, oK) (List.mem_cons_of_mem _ (List.mem_cons_of_mem _ (List.mem_cons_of_mem _ (List.mem_cons_self ..)))))
    rcases List.mem_cons.mp hq with rfl | hq
    · exact Nat.ne_of_gt (hlt8 r.ent (in2 (in2 (hrE r hr).2)))
    · exact Nat.ne_of_lt (lo q (in4 hq))
  exact ret m10 s13 led13 ps12 qs12 F13 N13 (sub13 _ (List.mem_cons_self ..)) (sub13 _ (List.mem_cons_of_mem _ (List.mem_cons_self ..))) (ok1.trans (ok2.trans (ok3.trans (ok4.trans (ok5.trans (ok6.trans (ok7.trans (ok8.trans (ok9.trans (ok10.trans (ok11.trans (ok12.trans ok13))))))))))))
end
section
open PySem PySem.W PySem.Spec PySem.Calls PyProof.Rows
theorem said : PySem.Challenge.rw_ik0072_01.wellSaid = true := by
  refine (congrFun PySem.W.Fast.te9446332074065402090 _).trans ?_
  unfold PySem.W.Fast.tw9446332074065402090
  unfold PySem.W.Fast.tw17960256430627541270
  unfold PySem.W.Fast.tw2436336058641802641
  unfold PySem.W.Fast.tw12908688711261696721
  repeat' (with_reducible refine look_both ?_ ?_)
  all_goals decide +kernel
end
section
open PySem PySem.W PySem.Spec PySem.Calls PyProof.Rows
section
variable {tabs : List (Addr × Addr)}
theorem bare_old {h h' : Heap} (hT : TabsAt tabs h) (k : ∀ b o, (ghostOf h tabs).get? b = some o → h'.get? b = some o) (g : GrownAll tabs h') : OldK h h' := by
  have here : ∀ b o, h.get? b = some o → asItWas h h' b o ∧ ∃ o', h'.get? b = some o' := fun b o e => by
    by_cases hb : b ∈ tabs.map (·.2)
    · obtain ⟨q, hq, rfl⟩ := List.mem_map.mp hb
      have e2 := (hT q hq).2
      obtain ⟨ps, hP⟩ := g.get q hq
      have ho : o = tabObj #[] := Option.some.inj (e.symm.trans e2)
      subst ho
      exact ⟨.inr (.inl ⟨((hT q hq).1.tab e2).isCodeTable, rfl, #[], ps, rfl, by rw [Array.empty_append]; exact hP⟩), _, hP⟩
    · exact ⟨.inl (k b o (ghost_ne e hb)), o, k b o (ghost_ne e hb)⟩
  exact ⟨fun b o e => (here b o e).1, fun b o e => (here b o e).2⟩
/-- the law's own end: True came back, what stood still stands, and the generators are at rest -/
noncomputable def BoolEnd (tabs : List (Addr × Addr)) (s₁ : Shared) (r : Result) (s' : Shared) : Prop :=
  r = .ok (.ret (.bool true)) ∧ (∀ b o, (ghostOf s₁.heap tabs).get? b = some o → s'.heap.get? b = some o) ∧ s'.os = s₁.os ∧ AllBare s'.gens ∧ GrownAll tabs s'.heap
theorem post_bool {M : Model} {A : Around} {cd : Code} {s s₁ : Shared} {cw : ClaimW} {cl : Str → Option Addr} {mean : ExcName → Option Value} {args : List WData} (hT : TabsAt tabs s₁.heap) (hr : ∀ x, cw.raises args x = false) (hp : cw.post args (.bool true) args = true)
    (h : codeAny M A cd (BoolEnd tabs s₁) s) : codeAny M A cd (GoodWG cw cl mean args s₁) s :=
  codeAny_mono h fun r s' ⟨hv, hk, hos, hg, hgr⟩ => ⟨.inl ⟨_, .bool true, [], hv, hr, .bool true, hp, fun _ => ⟨.nil, fun _ ha => nomatch ha⟩⟩, bare_old hT hk hgr, hos, hg⟩
end
theorem law_frame : ∀ {w : World} {p : Program} {loose : List Str} {mean : ExcName → Option Value} {mg mb : Str → Option Value}
  {A₀ : Around} {h₀ : Heap} {L fa : Addr} {m : Fm} {s : Shared} {Q : Flow → Shared → Prop} {E : Value → Shared → Prop} {body : List Stmt} {env : Env} {A : Around}
  (lst : Addr) (vs : List Value) (ns : List Int) (oW oK : Obj) (vW vK : Option Value) (hb : body = lawBody) (he : env = lawEnv L fa) (hA : A = lawA L fa)
  (B : Below A₀ h₀ [] h₀) (F : Fr h₀ L s.heap m) (X : (KK w.params).In h₀) (N : News h₀ L s.heap [(L + 1 + 1, oK), (L + 1, oW), (767, tabObj #[]), (811, tabObj #[])]) (T : Top p loose mean mg mb h₀) (CH : CodeHd h₀ 813 811) (hL : 811 < L) (dW : oW.data = .cell vW) (dK : oK.data = .cell vK)
  (hm1 : m (Str.ofString "script") = some (.ref lst)) (hl : h₀.IsList lst vs.toArray) (hi : IntsAre vs ns) (hn : ¬ ((63 : Nat) : Int) < (ns.length : Int))
  (ret : ∀ m' s' led' ps qs, Fr h₀ L s'.heap m' → News h₀ L s'.heap led' → (767, tabObj ps) ∈ led' → (811, tabObj qs) ∈ led' → Ok s s' → Q (.ret (.bool true)) s'),
  wpAny (model PySem.Challenge.rw_ik0072_01.row.prog w) A (execs body env) Q E s := by
  intro w p loose mean mg mb A₀ h₀ L fa m s Q E body env A lst vs ns oW oK vW vK hb he hA B F X N T CH hL dW dK hm1 hl hi hn ret
  subst hb
  subst he
  subst hA
  exact law_body lst vs ns oW oK vW vK B F X (News.sub N fun q hq => by
    simp only [lawL, List.mem_cons, List.not_mem_nil, or_false] at hq ⊢
    grind) T CH hL dW dK hm1 hl hi (by omega) ret
set_option maxHeartbeats 80000000 in
theorem fin : PySem.Challenge.rw_ik0072_01.Holds := by
  w_on
  refine holds_law said fun said9 => ?_
  refine holds_open (q := Mine.qv) (loose := Mine.loose) (Xt := Mine.Xt) (XP := XL Mine.qv []) (Yf := Hook.obs Mine.KH) (Ya := Hook.val Mine.KH) (YP := Hook.says Mine.KH) (N := 12000) Mine.left (Hook.of Mine.KH) (Hook.keeps Mine.KH) (fun s e => xl_of s (Bool.and_eq_true_iff.mp e).1) XL.keeps (by rfl) (by rfl) (by rfl) (fun s e => recFacts_of (Bool.and_eq_true_iff.mp e).2) (by rfl) (by first | assumption | decide +kernel) (by decide +kernel) ⟨rfl, rfl, rfl, rfl, rfl, by decide +kernel⟩ ?hw ?hc
  case hw => w_witness2
  case hc =>
    k_fill
    intro w s₀ s₁ mg mb G Y fa o pm cd doc dV kV ho hd hcd hD hmg hg args vals as hpre hlay hrd hwl hlo
    have KX := km_in_of Y
    km_tabs Y
    have X := (Ground.X G).1
    have V := (Ground.X G).2
    refine Ground.open G ?_
    intro T B D TE TW
    try (refine guard_noD D (by decide +kernel) ?_; clear D)
    have hT9 : TabsAt ([(771, 767), (813, 811)] : List (Addr × Addr)) s₁.heap := List.forall_mem_cons.mpr ⟨⟨codeHd_of_K (c := 771) (P := 767) KX (by kernel_rfl), hT8 767 (by decide)⟩, List.forall_mem_cons.mpr ⟨⟨codeHd_of_K (c := 813) (P := 811) KX (by kernel_rfl), hT8 811 (by decide)⟩, fun _ h => nomatch h⟩⟩
    have he9 : cd = PySem.Value.ref 813 := law_code (x := PySem.Str.ofString "law") (c := 813) (P := 811) KX (Top.g T) (by kernel_rfl) hmg ho hd
    subst he9
    clear hmg
    wrow_args hpre hlay hrd hwl hlo
    all_goals (
      first | refine callC_kw (enter_call ?_) | refine enter_call ?_
      w_top on
      refine post_bool hT9 (fun _ => rfl) ?post ?_
      case post => first | rfl | decide | wrow_post
      w_call any ho hd hcd hD T F
      clear hd)
    kn_ghosts F T
    rename_i i1 i2 i3 i4 i5 i6 i7 i8 i9 i10 i11 i12
    rename IntsAre _ _ => I9
    rename ¬ _ < _ => c9
    refine law_frame (L := s₁.heap.objs.size) (fa := fa) _ _ _ i2 i1 _ _ (by kernel_rfl) (by kernel_rfl) (by kernel_rfl) i8 i9 i6 i11 i7 (by assumption) i12.2 i4 i3 ?hm1 (by assumption) I9 c9 (fun m' s' led' ps qs F9 N9 mp mq ok9 => ?ret)
    case hm1 => kernel_rfl
    case ret =>
      exact ⟨rfl, F9.keep, ok9.os, ok9.gens (AllBare.of_eq hg), GrownAt.of N9 mp, GrownAt.of N9 mq, trivial⟩
end
end Mine
open PySem PySem.W PyProof.Rows
theorem PySem.Challenge.cw_ik0072_01_holds : PySem.Challenge.rw_ik0072_01.Holds := by
  exact Mine.fin
