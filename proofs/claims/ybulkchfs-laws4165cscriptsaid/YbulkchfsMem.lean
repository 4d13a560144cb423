/- LAWS OF SINGLE OPERATIONS: '==' of ids, contacts and entries built, the map from ids to entries. -/
import Derived.Test.YbulkchfsCmp
import Derived.MapKept
import Derived.ChangeMaps5
namespace Go.Proofs.Ybulkchfs
open Go.RowKit
set_option linter.unusedVariables false
set_option linter.unusedSimpArgs false

/-! ### '==' -/
def eqI (a b : Value) : Sem Value := binOp .eql 62 a b
def neI (a b : Value) : Sem Value := binOp .neq 62 a b
def egI (op : BinOp) (x y : Operand) (a b : Value) : Sem Unit := eqGuard op 62 x y a b
theorem eqI_eq (a b : Value) : binOp .eql 62 a b = eqI a b := rfl
theorem neI_eq (a b : Value) : binOp .neq 62 a b = neI a b := rfl
theorem egI_eq (op : BinOp) (x y : Operand) (a b : Value) : eqGuard op 62 x y a b = egI op x y a b := rfl
theorem guard_id (x y : Operand) (A B : Nat → Int) (w : World) : (egI .eql x y (aV A) (aV B)).run Yba.prog w = .ok () w := by kernel_rfl
theorem guard_id' (x y : Operand) (A B : Nat → Int) (w : World) : (egI .neq x y (aV A) (aV B)).run Yba.prog w = .ok () w := by kernel_rfl

def eqF (A B : Nat → Int) : Bool := (List.range 20).all fun i => A i == B i

theorem part_id (F : Nat → Int) (k : Nat) (hk : k < 20) (w : World) : (part 5 (aL F).toArray (k * Yba.prog.cellsOf 5)).run Yba.prog w = .ok (.int .u8 (F k)) w := by
  rcases (by omega : k = 0 ∨ k = 1 ∨ k = 2 ∨ k = 3 ∨ k = 4 ∨ k = 5 ∨ k = 6 ∨ k = 7 ∨ k = 8 ∨ k = 9 ∨ k = 10 ∨ k = 11 ∨ k = 12 ∨ k = 13 ∨ k = 14 ∨ k = 15 ∨ k = 16 ∨ k = 17 ∨ k = 18 ∨ k = 19) with rfl | rfl | rfl | rfl | rfl | rfl | rfl | rfl | rfl | rfl | rfl | rfl | rfl | rfl | rfl | rfl | rfl | rfl | rfl | rfl
  all_goals kernel_rfl

theorem items_id (A B : Nat → Int) (d : Nat) (w : World) : ∀ (is : List Nat), (∀ i ∈ is, i < 20) → (Op.eqItems (d + 1) 5 (Yba.prog.cellsOf 5) (aL A).toArray (aL B).toArray is).run Yba.prog w = .ok (is.all fun i => A i == B i) w
  | [], _ => by simp [Op.eqItems]
  | i :: is, h => by
    have hp := part_id A i (h i (by simp)) w
    have hq := part_id B i (h i (by simp)) w
    have he := run_equalIn_int (P := Yba.prog) w d 5 .u8 .u8 (A i) (B i) (by kernel_rfl)
    have ih := items_id A B d w is (fun j hj => h j (by simp [hj]))
    simp only [Op.eqItems, Sem.run_bind, hp, hq, Result.andThen_ok, he]
    cases hc : (A i == B i)
    · simp [hc]
    · simp [hc, ih]

theorem equal_id (A B : Nat → Int) (d : Nat) (w : World) : (Op.equalIn (d + 2) 62 (aV A) (aV B)).run Yba.prog w = .ok (eqF A B) w := by
  have hu : Yba.prog.underlying 62 = some (.array 20 5) := by kernel_rfl
  have hs : (Yba.prog.info? 5).isSome = true := by kernel_rfl
  obtain ⟨j, hj⟩ := Option.isSome_iff_exists.1 hs
  unfold aV
  rw [run_equalIn_array w (d + 1) _ _ hu hj]
  exact items_id A B d w _ (fun i hi => by simpa using hi)

theorem eq_id (A B : Nat → Int) (w : World) : (eqI (aV A) (aV B)).run Yba.prog w = .ok (.bool (eqF A B)) w := by
  have h : (Op.equal 62 (aV A) (aV B)).run Yba.prog w = .ok (eqF A B) w := equal_id A B 9998 w
  show ((do pure (Value.bool (← Op.equal 62 (aV A) (aV B))) : Sem Value)).run Yba.prog w = _
  simp [Sem.run_bind, h]
theorem ne_id (A B : Nat → Int) (w : World) : (neI (aV A) (aV B)).run Yba.prog w = .ok (.bool (!(eqF A B))) w := by
  have h : (Op.equal 62 (aV A) (aV B)).run Yba.prog w = .ok (eqF A B) w := equal_id A B 9998 w
  show ((do pure (Value.bool (!(← Op.equal 62 (aV A) (aV B)))) : Sem Value)).run Yba.prog w = _
  simp [Sem.run_bind, h]

theorem eqF_id (a b : Int) : eqF (idF a) (idF b) = (a == b) := by
  unfold eqF idF
  rw [Bool.eq_iff_iff, List.all_eq_true]
  constructor
  · intro h
    have := h 19 (by simp)
    simpa using this
  · intro h i _
    simp at h
    subst h
    simp

/-! ### Distances -/
/-- The distance of two ids' last bytes. -/
def dst (a b : Int) : Int := bits BinOp.xor IntKind.u8 a b
theorem dst_eq {a b : Int} (ha : 0 ≤ a ∧ a ≤ 255) (hb : 0 ≤ b ∧ b ≤ 255) : dst a b = ((a.toNat ^^^ b.toNat : Nat) : Int) := u8_xor a b ha.1 (by omega) hb.1 (by omega)
theorem dst_byte {a b : Int} (ha : 0 ≤ a ∧ a ≤ 255) (hb : 0 ≤ b ∧ b ≤ 255) : 0 ≤ dst a b ∧ dst a b ≤ 255 := by
  rw [dst_eq ha hb]
  have : a.toNat ^^^ b.toNat < 2 ^ 8 := Nat.xor_lt_two_pow (by omega) (by omega)
  omega
theorem dst_inj {a b t : Int} (ha : 0 ≤ a ∧ a ≤ 255) (hb : 0 ≤ b ∧ b ≤ 255) (ht : 0 ≤ t ∧ t ≤ 255) (h : dst a t = dst b t) : a = b := by
  rw [dst_eq ha ht, dst_eq hb ht] at h
  have h' : a.toNat ^^^ t.toNat = b.toNat ^^^ t.toNat := by omega
  have : a.toNat = b.toNat := by
    have h2 := congrArg (· ^^^ t.toNat) h'
    simpa [Nat.xor_assoc] using h2
  omega
theorem xorF_id (a b : Int) : xorF (idF a) (idF b) = idF (dst a b) := by
  funext i
  unfold xorF idF dst
  by_cases e : i = 19
  · simp [e]
  · simp only [e, if_false]; decide
theorem byt_id {a : Int} (h : 0 ≤ a ∧ a ≤ 255) : Byt (idF a) := fun i => by unfold idF; split <;> omega
/-- The greatest distance: all bytes 255. -/
def ffF : Nat → Int := fun _ => 255
theorem byt_ff : Byt ffF := fun _ => by unfold ffF; omega

theorem cmpFrom_id (a b : Int) : ∀ n k, k + n = 20 → cmpFrom (idF a) (idF b) n k = if n = 0 then 0 else if a < b then -1 else if b < a then 1 else 0
  | 0, _, _ => rfl
  | n + 1, k, h => by
    have ih := cmpFrom_id a b n (k + 1) (by omega)
    rw [cmpFrom, ih, if_neg (by omega : ¬ n + 1 = 0)]
    by_cases e : k = 19
    · obtain rfl : n = 0 := by omega
      simp [idF, e]
    · rw [if_neg (by omega : ¬ n = 0)]
      simp [idF, e]
theorem cmpF_id (a b : Int) : cmpF (idF a) (idF b) = if a < b then -1 else if b < a then 1 else 0 := by
  unfold cmpF; rw [cmpFrom_id a b 20 0 rfl]; simp
theorem cmpF_ff (a : Int) : cmpF (idF a) ffF = -1 := by
  unfold cmpF cmpFrom idF ffF; simp

/-! ### Contacts and entries built -/
def eL (F : Nat → Int) (st d s : Int) : List Value := cL F ++ [.int .i64 st, .int .i64 d, .int .i64 s]
def eV (F : Nat → Int) (st d s : Int) : Value := .agg (eL F st d s).toArray
def bdC (parts : Array (Nat × Value)) : Sem Value := Instr.build 73 parts
def bdE (parts : Array (Nat × Value)) : Sem Value := Instr.build 83 parts
def bxE (v : Value) : Sem Value := Instr.box 83 v
theorem bdC_eq (p : Array (Nat × Value)) : Instr.build 73 p = bdC p := rfl
theorem bdE_eq (p : Array (Nat × Value)) : Instr.build 83 p = bdE p := rfl
theorem bxE_eq (v : Value) : Instr.box 83 v = bxE v := rfl
theorem build_contact (F : Nat → Int) (w : World) : (bdC #[(0, aV F)]).run Yba.prog w = .ok (cV F) w := by kernel_rfl
theorem build_zero (w : World) : (bdC #[]).run Yba.prog w = .ok (cV zeroF) w := by kernel_rfl
theorem build_entry (F : Nat → Int) (d : Int) (w : World) : (bdE #[(0, cV F), (2, .int .i64 d)]).run Yba.prog w = .ok (eV F 0 d 0) w := by kernel_rfl
theorem box_entry (F : Nat → Int) (st d s : Int) (w : World) : (bxE (eV F st d s)).run Yba.prog w = .ok (.pointer (some ⟨w.heap.size, 0, none⟩)) (w.alloc (.cells (eL F st d s).toArray 83)) := rfl

/-! ### The map from ids to entries -/
/-- A pointer to the head of block b. -/
abbrev pb (b : Nat) : Value := .pointer (some ⟨b, 0, none⟩)
/-- A pointer to a block's head, or nil. -/
def ptOf : Option Nat → Value
  | none => .pointer none
  | some b => pb b
/-- Which block the id is led to. -/
def findK : List (Int × Nat) → Int → Option Nat
  | [], _ => none
  | p :: r, b => if b = p.1 then some p.2 else findK r b
/-- The map at block r leads each id of K to its block. -/
def MapIs (w : World) (r : Nat) (K : List (Int × Nat)) : Prop :=
  ∃ es clock, w.heap[r]? = some (.map es clock) ∧ es.toList.map (fun e => (e.key, e.val)) = K.map (fun p => (aV (idF p.1), pb p.2))

theorem MapIs.of_block {w w' : World} {r : Nat} {K : List (Int × Nat)} (h : MapIs w r K) (e : w'.heap[r]? = w.heap[r]?) : MapIs w' r K := by
  obtain ⟨es, c, h1, h2⟩ := h
  exact ⟨es, c, e.trans h1, h2⟩
theorem MapIs.lt {w : World} {r : Nat} {K : List (Int × Nat)} (h : MapIs w r K) : r < w.heap.size := by
  obtain ⟨es, c, h1, _⟩ := h
  exact (Array.getElem?_eq_some_iff.1 h1).1

theorem check_id (e : Bool) (F : Nat → Int) (w : World) : (Instr.checkKey e 10000 62 (aV F)).run Yba.prog w = .ok () w := by kernel_rfl
theorem zero_74 (w : World) : (zeroValue 74).run Yba.prog w = .ok (.pointer none) w := by kernel_rfl

theorem ask_id (b : Int) (w : World) : ∀ (es : List MapEntry) (K : List (Int × Nat)) (i : Nat), es.map (fun e => (e.key, e.val)) = K.map (fun p => (aV (idF p.1), pb p.2)) →
    ∃ j, (Instr.findAsking 62 (aV (idF b)) es i).run Yba.prog w = .ok ((findK K b).map fun x => (j, pb x)) w
  | [], K, i, h => by
    have : K = [] := by simpa using h.symm
    subst this
    exact ⟨0, by simp [Instr.findAsking, findK]⟩
  | e :: es, [], i, h => by simp at h
  | e :: es, p :: K, i, h => by
    simp only [List.map_cons, List.cons.injEq, Prod.mk.injEq] at h
    obtain ⟨⟨h1, h2⟩, h3⟩ := h
    have he : (Op.equal 62 (aV (idF b)) e.key).run Yba.prog w = .ok (b == p.1) w := by
      rw [h1, ← eqF_id]; exact equal_id _ _ 9998 w
    by_cases hb : b = p.1
    · refine ⟨i, ?_⟩
      have : (b == p.1) = true := by simpa using hb
      rw [this] at he
      subst hb
      simp [Instr.findAsking, Sem.run_bind, he, findK, h2]
    · obtain ⟨j, ih⟩ := ask_id b w es K (i + 1) h3
      refine ⟨j, ?_⟩
      have : (b == p.1) = false := by simpa using hb
      rw [this] at he
      simp [Instr.findAsking, Sem.run_bind, he, findK, hb, ih]

theorem find_id (b : Int) (w : World) (es : List MapEntry) (K : List (Int × Nat)) (h : es.map (fun e => (e.key, e.val)) = K.map (fun p => (aV (idF p.1), pb p.2))) :
    ∃ j, (Instr.findKey 62 (aV (idF b)) es).run Yba.prog w = .ok ((findK K b).map fun x => (j, pb x)) w := by
  have hu : Yba.prog.underlying 62 = some (.array 20 5) := by kernel_rfl
  cases es with
  | nil =>
    have : K = [] := by simpa using h.symm
    subst this
    exact ⟨0, by simp [Instr.findKey, Sem.run_bind, run_underlying hu, Instr.findNow, findK]⟩
  | cons e es =>
    obtain ⟨j, hj⟩ := ask_id b w (e :: es) K 0 h
    refine ⟨j, ?_⟩
    have : Instr.findNow (.array 20 5) (aV (idF b)) (e :: es) 0 = none := by simp [Instr.findNow, Instr.sameNow]
    simp [Instr.findKey, Sem.run_bind, run_underlying hu, this, hj]

def lkM (m k : Value) : Sem Value := Instr.lookup 78 m k false
theorem lkM_eq (m k : Value) : Instr.lookup 78 m k false = lkM m k := rfl
/-- 'l.known[id]'. -/
theorem look_known {w : World} {r : Nat} {K : List (Int × Nat)} (h : MapIs w r K) (b : Int) : (lkM (.map (some r)) (aV (idF b))).run Yba.prog w = .ok (ptOf (findK K b)) w := by
  obtain ⟨es, clock, hb, hes⟩ := h
  have ht : Yba.prog.underlying 78 = some (.map 62 74) := by kernel_rfl
  obtain ⟨j, hj⟩ := find_id b w es.toList K hes
  unfold lkM
  cases hf : findK K b with
  | none =>
    rw [hf] at hj
    simp [Instr.lookup, run_underlying ht, MapKept.run_getObj_map hb, check_id, hj, zero_74, Result.andThen, ptOf]
  | some x =>
    rw [hf] at hj
    simp [Instr.lookup, run_underlying ht, MapKept.run_getObj_map hb, check_id, hj, Result.andThen, ptOf]

def upM (m k v : Value) : Sem Unit := Instr.mapUpdate 78 m k v
theorem upM_eq (m k v : Value) : Instr.mapUpdate 78 m k v = upM m k v := rfl
/-- 'l.known[id] = e', the id not yet known. -/
theorem put_known {w : World} {r : Nat} {K : List (Int × Nat)} (h : MapIs w r K) (b : Int) (x : Nat) (hn : findK K b = none) :
    ∃ w', (upM (.map (some r)) (aV (idF b)) (pb x)).run Yba.prog w = .ok () w' ∧ MapIs w' r (K ++ [(b, x)]) ∧ (∀ k, k ≠ r → w'.heap[k]? = w.heap[k]?) ∧ w'.heap.size = w.heap.size ∧ w'.os = w.os ∧ w'.tape = w.tape ∧ w'.output = w.output := by
  obtain ⟨es, clock, hb, hes⟩ := h
  have ht : Yba.prog.underlying 78 = some (.map 62 74) := by kernel_rfl
  obtain ⟨j, hj⟩ := find_id b w es.toList K hes
  rw [hn] at hj
  refine ⟨ChangeMaps.setBlock w r (.map (es.push ⟨aV (idF b), pb x, clock⟩) (clock + 1)), ?_, ⟨_, _, ChangeMaps.heap_setBlock_same hb _, by simp [hes]⟩, fun k hk => ChangeMaps.heap_setBlock_other hb _ hk, by simp [ChangeMaps.setBlock], rfl, rfl, rfl⟩
  unfold upM
  simp [Instr.mapUpdate, run_underlying ht, MapKept.run_getObj_map hb, check_id, hj, MapKept.run_setObj_map _ hb, Result.andThen, ChangeMaps.setBlock]

theorem findK_append (K : List (Int × Nat)) (b : Int) (x : Nat) (c : Int) : findK (K ++ [(b, x)]) c = (findK K c).or (if c = b then some x else none) := by
  induction K with
  | nil => simp [findK]
  | cons p r ih =>
    simp only [List.cons_append, findK]
    split
    · simp
    · exact ih

end Go.Proofs.Ybulkchfs
