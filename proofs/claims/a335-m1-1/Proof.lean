import JvmDerived
import JvmDerived.Pilot.@@N@@Statement
import JvmDerived.Pilot.@@N@@Code
set_option linter.unusedVariables false
set_option linter.unusedSimpArgs false
@@BLOCK:NumsL.lean.txt@@
namespace Jvm.Own
open Sem ClassFile Op Lib Jvm.Stand Jvm.Free Jvm.LawKit Jvm.RoadKit
/-! own layer: a run of plain instructions by evaluation (go), and a predicate WP that the steps carry backwards -/
abbrev Row := Nat × Instr × Nat × Int32 × Int64
def put {β : Type} : List Slot → Nat → Slot → (List Slot → Option β) → Option β
  | [], _, _, _ => none
  | _ :: r, 0, v, k => k (v :: r)
  | a :: r, n + 1, v, k => put r n v (fun r' => k (a :: r'))
theorem put_ok {β : Type} : ∀ (ls : List Slot) (i : Nat) (v : Slot) (k : List Slot → Option β) (b : β), put ls i v k = some b → i < ls.length ∧ k (ls.set i v) = some b
  | [], _, _, _, _, h => by cases h
  | _ :: r, 0, v, k, b, h => ⟨Nat.zero_lt_succ _, h⟩
  | a :: r, n + 1, v, k, b, h => by
    obtain ⟨h1, h2⟩ := put_ok r n v (fun r' => k (a :: r')) b h
    exact ⟨Nat.succ_lt_succ h1, h2⟩
def st1 {β : Type} (ls : List Slot) (i : Nat) (v : Value) (k : List Slot → Option β) : Option β :=
  match ls[i]? with
  | some .unset => put ls i (.val v) k
  | some (.val (.int _)) => put ls i (.val v) k
  | some (.val (.ref _)) => put ls i (.val v) k
  | some (.val .null) => put ls i (.val v) k
  | some (.val (.long _)) => put ls (i + 1) .unset fun l => put l i (.val v) k
  | _ => none
def st2 {β : Type} (ls : List Slot) (i : Nat) (v : Value) (k : List Slot → Option β) : Option β :=
  match ls[i]? with
  | some .unset => (match ls[i + 1]? with
    | some .unset => put ls i (.val v) fun l => put l (i + 1) .second k
    | some (.val (.int _)) => put ls i (.val v) fun l => put l (i + 1) .second k
    | some (.val (.ref _)) => put ls i (.val v) fun l => put l (i + 1) .second k
    | some (.val .null) => put ls i (.val v) fun l => put l (i + 1) .second k
    | _ => none)
  | some (.val (.long _)) => (match ls[i + 1]? with
    | some .second => put ls i (.val v) fun l => put l (i + 1) .second k
    | _ => none)
  | some (.val (.int _)) => (match ls[i + 1]? with
    | some .unset => put ls i (.val v) fun l => put l (i + 1) .second k
    | some (.val (.int _)) => put ls i (.val v) fun l => put l (i + 1) .second k
    | some (.val (.ref _)) => put ls i (.val v) fun l => put l (i + 1) .second k
    | some (.val .null) => put ls i (.val v) fun l => put l (i + 1) .second k
    | _ => none)
  | _ => none
theorem st1_ok {β : Type} {ls : List Slot} {i : Nat} {v : Value} {k : List Slot → Option β} {b : β} (hv : v.category = 1) (h : st1 ls i v k = some b) : ∃ ls', k ls' = some b ∧ ls'.length = ls.length ∧ storeLocals ls.toArray i v = some ls'.toArray := by
  have key : ∀ o : Slot, ls[i]? = some o → (o = .unset ∨ ∃ w, o = .val w ∧ w.category = 1) → put ls i (.val v) k = some b → ∃ ls', k ls' = some b ∧ ls'.length = ls.length ∧ storeLocals ls.toArray i v = some ls'.toArray := fun o ho hc hp => by
    obtain ⟨h1, h2⟩ := put_ok _ _ _ _ _ hp
    refine ⟨_, h2, by simp, ?_⟩
    rw [XS.store1 (l := ls.toArray) (o := o) (by simpa using ho) hc hv]
    simp
  unfold st1 at h
  split at h
  · rename_i e; exact key _ e (Or.inl rfl) h
  · rename_i e; exact key _ e (Or.inr ⟨_, rfl, rfl⟩) h
  · rename_i e; exact key _ e (Or.inr ⟨_, rfl, rfl⟩) h
  · rename_i e; exact key _ e (Or.inr ⟨_, rfl, rfl⟩) h
  · rename_i w e
    obtain ⟨h1, h2⟩ := put_ok _ _ _ _ _ h
    obtain ⟨h3, h4⟩ := put_ok _ _ _ _ _ h2
    refine ⟨_, h4, by simp, ?_⟩
    have h5 : i < ls.length := by simpa using h3
    have g1 : ls[i] = .val (.long w) := by rw [List.getElem?_eq_getElem h5] at e; exact Option.some.inj e
    simp [storeLocals, storeSelf, setAt, hv, h1, h5, g1, show (Value.long w).category = 2 from rfl]
  · cases h
theorem st2_ok {β : Type} {ls : List Slot} {i : Nat} {z : Int64} {k : List Slot → Option β} {b : β} (h : st2 ls i (.long z) k = some b) : ∃ ls', k ls' = some b ∧ ls'.length = ls.length ∧ storeLocals ls.toArray i (.long z) = some ls'.toArray := by
  have key : ∀ o o' : Slot, ls[i]? = some o → ls[i + 1]? = some o' → ((o = .unset ∨ ∃ w, o = .val w ∧ w.category = 1) ∧ (o' = .unset ∨ ∃ w, o' = .val w ∧ w.category = 1) ∨ ∃ w, o = .val (.long w) ∧ o' = .second) → put ls i (.val (.long z)) (fun l => put l (i + 1) .second k) = some b → ∃ ls', k ls' = some b ∧ ls'.length = ls.length ∧ storeLocals ls.toArray i (.long z) = some ls'.toArray := fun o o' ho ho' hc hp => by
    obtain ⟨h1, h2⟩ := put_ok _ _ _ _ _ hp
    obtain ⟨h3, h4⟩ := put_ok _ _ _ _ _ h2
    refine ⟨_, h4, by simp, ?_⟩
    have h5 : i + 1 < ls.length := by simpa using h3
    have g1 : ls[i] = o := by rw [List.getElem?_eq_getElem h1] at ho; exact Option.some.inj ho
    have g2 : ls[i + 1] = o' := by rw [List.getElem?_eq_getElem h5] at ho'; exact Option.some.inj ho'
    rcases hc with ⟨hc, hc'⟩ | ⟨w, rfl, rfl⟩
    · rcases hc with rfl | ⟨w, rfl, hw⟩ <;> rcases hc' with rfl | ⟨w', rfl, hw'⟩ <;> simp [storeLocals, storeSelf, setAt, Value.category, h1, h5, g1, g2, List.getElem?_set, *] <;> simp_all [Value.category]
    · simp [storeLocals, storeSelf, setAt, Value.category, h1, h5, g1, g2, List.getElem?_set]
      rw [List.set_comm _ _ (by omega), List.set_set]
      rw [List.set_comm _ _ (by omega)]
  unfold st2 at h
  split at h
  · rename_i e
    split at h
    · rename_i e'; exact key _ _ e e' (Or.inl ⟨Or.inl rfl, Or.inl rfl⟩) h
    · rename_i e'; exact key _ _ e e' (Or.inl ⟨Or.inl rfl, Or.inr ⟨_, rfl, rfl⟩⟩) h
    · rename_i e'; exact key _ _ e e' (Or.inl ⟨Or.inl rfl, Or.inr ⟨_, rfl, rfl⟩⟩) h
    · rename_i e'; exact key _ _ e e' (Or.inl ⟨Or.inl rfl, Or.inr ⟨_, rfl, rfl⟩⟩) h
    · cases h
  · rename_i e
    split at h
    · rename_i e'; exact key _ _ e e' (Or.inr ⟨_, rfl, rfl⟩) h
    · cases h
  · rename_i e
    split at h
    · rename_i e'; exact key _ _ e e' (Or.inl ⟨Or.inr ⟨_, rfl, rfl⟩, Or.inl rfl⟩) h
    · rename_i e'; exact key _ _ e e' (Or.inl ⟨Or.inr ⟨_, rfl, rfl⟩, Or.inr ⟨_, rfl, rfl⟩⟩) h
    · rename_i e'; exact key _ _ e e' (Or.inl ⟨Or.inr ⟨_, rfl, rfl⟩, Or.inr ⟨_, rfl, rfl⟩⟩) h
    · rename_i e'; exact key _ _ e e' (Or.inl ⟨Or.inr ⟨_, rfl, rfl⟩, Or.inr ⟨_, rfl, rfl⟩⟩) h
    · cases h
  · cases h

def pI1 {β : Type} (st : List Value) (k : Int32 → List Value → Option β) : Option β := match st with | .int x :: r => k x r | _ => none
def pJ1 {β : Type} (st : List Value) (k : Int64 → List Value → Option β) : Option β := match st with | .long x :: r => k x r | _ => none
def pI2 {β : Type} (st : List Value) (k : Int32 → Int32 → List Value → Option β) : Option β := match st with | .int y :: .int x :: r => k x y r | _ => none
def pJ2 {β : Type} (st : List Value) (k : Int64 → Int64 → List Value → Option β) : Option β := match st with | .long y :: .long x :: r => k x y r | _ => none
def pJI {β : Type} (st : List Value) (k : Int64 → Int32 → List Value → Option β) : Option β := match st with | .int y :: .long x :: r => k x y r | _ => none
def isW (v : Value) : Bool := match v with | .int _ => true | .ref _ => true | .null => true | _ => false
def isA (v : Value) : Bool := match v with | .ref _ => true | .null => true | _ => false
def pA1 {β : Type} (st : List Value) (k : Value → List Value → Option β) : Option β := match st with | .ref a :: r => k (.ref a) r | .null :: r => k .null r | _ => none
def pW1 {β : Type} (st : List Value) (k : Value → List Value → Option β) : Option β := match st with | .int x :: r => k (.int x) r | .ref a :: r => k (.ref a) r | .null :: r => k .null r | _ => none
def pW2 {β : Type} (st : List Value) (k : Value → Value → List Value → Option β) : Option β := pW1 st fun x r => pW1 r fun y r' => k x y r'
def pW3 {β : Type} (st : List Value) (k : Value → Value → Value → List Value → Option β) : Option β := pW1 st fun x r => pW2 r fun y z r' => k x y z r'
def pD {β : Type} (st : List Value) (k1 : Int64 → List Value → Option β) (k : Value → Value → List Value → Option β) : Option β := match st with | .long x :: r => k1 x r | .int x :: r => pW1 r fun y r' => k (.int x) y r' | .ref x :: r => pW1 r fun y r' => k (.ref x) y r' | .null :: r => pW1 r fun y r' => k .null y r' | _ => none
def gI {β : Type} (ls : List Slot) (j : Nat) (k : Int32 → Option β) : Option β := match ls[j]? with | some (.val (.int v)) => k v | _ => none
def gJ {β : Type} (ls : List Slot) (j : Nat) (k : Int64 → Option β) : Option β := match ls[j]? with | some (.val (.long v)) => k v | _ => none
def gA {β : Type} (ls : List Slot) (j : Nat) (k : Value → Option β) : Option β := match ls[j]? with | some (.val (.ref v)) => k (.ref v) | some (.val .null) => k .null | _ => none
section Pats
variable {β : Type} {st : List Value} {b : β} {ls : List Slot} {j : Nat}
theorem pI1_ok {k : Int32 → List Value → Option β} (h : pI1 st k = some b) : ∃ x r, st = .int x :: r ∧ k x r = some b := by unfold pI1 at h; split at h; exact ⟨_, _, rfl, h⟩; cases h
theorem pJ1_ok {k : Int64 → List Value → Option β} (h : pJ1 st k = some b) : ∃ x r, st = .long x :: r ∧ k x r = some b := by unfold pJ1 at h; split at h; exact ⟨_, _, rfl, h⟩; cases h
theorem pI2_ok {k : Int32 → Int32 → List Value → Option β} (h : pI2 st k = some b) : ∃ x y r, st = .int y :: .int x :: r ∧ k x y r = some b := by unfold pI2 at h; split at h; exact ⟨_, _, _, rfl, h⟩; cases h
theorem pJ2_ok {k : Int64 → Int64 → List Value → Option β} (h : pJ2 st k = some b) : ∃ x y r, st = .long y :: .long x :: r ∧ k x y r = some b := by unfold pJ2 at h; split at h; exact ⟨_, _, _, rfl, h⟩; cases h
theorem pJI_ok {k : Int64 → Int32 → List Value → Option β} (h : pJI st k = some b) : ∃ x y r, st = .int y :: .long x :: r ∧ k x y r = some b := by unfold pJI at h; split at h; exact ⟨_, _, _, rfl, h⟩; cases h
theorem pA1_ok {k : Value → List Value → Option β} (h : pA1 st k = some b) : ∃ x r, st = x :: r ∧ x.isRef = true ∧ x.category = 1 ∧ k x r = some b := by unfold pA1 at h; split at h; exact ⟨_, _, rfl, rfl, rfl, h⟩; exact ⟨_, _, rfl, rfl, rfl, h⟩; cases h
theorem pW1_ok {k : Value → List Value → Option β} (h : pW1 st k = some b) : ∃ x r, st = x :: r ∧ x.category = 1 ∧ k x r = some b := by unfold pW1 at h; split at h; exact ⟨_, _, rfl, rfl, h⟩; exact ⟨_, _, rfl, rfl, h⟩; exact ⟨_, _, rfl, rfl, h⟩; cases h
theorem pW2_ok {k : Value → Value → List Value → Option β} (h : pW2 st k = some b) : ∃ x y r, st = x :: y :: r ∧ x.category = 1 ∧ y.category = 1 ∧ k x y r = some b := by
  obtain ⟨x, r, rfl, h1, h2⟩ := pW1_ok h
  obtain ⟨y, r', rfl, h3, h4⟩ := pW1_ok h2
  exact ⟨x, y, r', rfl, h1, h3, h4⟩
theorem pW3_ok {k : Value → Value → Value → List Value → Option β} (h : pW3 st k = some b) : ∃ x y z r, st = x :: y :: z :: r ∧ x.category = 1 ∧ y.category = 1 ∧ z.category = 1 ∧ k x y z r = some b := by
  obtain ⟨x, r, rfl, h1, h2⟩ := pW1_ok h
  obtain ⟨y, z, r', rfl, h3, h4, h5⟩ := pW2_ok h2
  exact ⟨x, y, z, r', rfl, h1, h3, h4, h5⟩
theorem pD_ok {k1 : Int64 → List Value → Option β} {k : Value → Value → List Value → Option β} (h : pD st k1 k = some b) : (∃ x r, st = .long x :: r ∧ k1 x r = some b) ∨ ∃ x y r, st = x :: y :: r ∧ x.category = 1 ∧ y.category = 1 ∧ k x y r = some b := by
  unfold pD at h; split at h
  · exact Or.inl ⟨_, _, rfl, h⟩
  all_goals first | (obtain ⟨y, r', rfl, h3, h4⟩ := pW1_ok h; exact Or.inr ⟨_, y, r', rfl, rfl, h3, h4⟩) | cases h
theorem gI_ok {k : Int32 → Option β} (h : gI ls j k = some b) : ∃ v, ls[j]? = some (.val (.int v)) ∧ k v = some b := by unfold gI at h; split at h; exact ⟨_, by assumption, h⟩; cases h
theorem gJ_ok {k : Int64 → Option β} (h : gJ ls j k = some b) : ∃ v, ls[j]? = some (.val (.long v)) ∧ k v = some b := by unfold gJ at h; split at h; exact ⟨_, by assumption, h⟩; cases h
theorem gA_ok {k : Value → Option β} (h : gA ls j k = some b) : ∃ v, ls[j]? = some (.val v) ∧ v.isRef = true ∧ k v = some b := by unfold gA at h; split at h; exact ⟨_, by assumption, rfl, h⟩; exact ⟨_, by assumption, rfl, h⟩; cases h
end Pats
def ex {β : Type} (i : Instr) (z : Int32) (w : Int64) (ls : List Slot) (st : List Value) (k : List Slot → List Value → Option β) : Option β :=
  match i with
  | .iload_n j => gI ls j.val fun v => k ls (.int v :: st)
  | .iload j => gI ls j fun v => k ls (.int v :: st)
  | .lload_n j => gJ ls j.val fun v => k ls (.long v :: st)
  | .lload j => gJ ls j fun v => k ls (.long v :: st)
  | .aload_n j => gA ls j.val fun v => k ls (v :: st)
  | .aload j => gA ls j fun v => k ls (v :: st)
  | .istore_n j => pI1 st fun v r => st1 ls j.val (.int v) (fun l => k l r)
  | .istore j => pI1 st fun v r => st1 ls j (.int v) (fun l => k l r)
  | .astore_n j => pA1 st fun v r => st1 ls j.val v (fun l => k l r)
  | .astore j => pA1 st fun v r => st1 ls j v (fun l => k l r)
  | .lstore_n j => pJ1 st fun v r => st2 ls j.val (.long v) (fun l => k l r)
  | .lstore j => pJ1 st fun v r => st2 ls j (.long v) (fun l => k l r)
  | .iinc j cc => gI ls j fun v => put ls j (.val (.int (v + z))) (fun l => k l st)
  | .iconst cc => k ls (.int z :: st)
  | .bipush cc => k ls (.int z :: st)
  | .sipush cc => k ls (.int z :: st)
  | .lconst cc => k ls (.long w :: st)
  | .ldc cc => k ls (.int z :: st)
  | .ldc2_w cc => k ls (.long w :: st)
  | .aconst_null => k ls (.null :: st)
  | .iadd => pI2 st fun x y r => k ls (.int (x + y) :: r)
  | .isub => pI2 st fun x y r => k ls (.int (x - y) :: r)
  | .imul => pI2 st fun x y r => k ls (.int (x * y) :: r)
  | .iand => pI2 st fun x y r => k ls (.int (x &&& y) :: r)
  | .ior => pI2 st fun x y r => k ls (.int (x ||| y) :: r)
  | .ixor => pI2 st fun x y r => k ls (.int (x ^^^ y) :: r)
  | .ishl => pI2 st fun x y r => k ls (.int (x <<< (y &&& 31)) :: r)
  | .ishr => pI2 st fun x y r => k ls (.int (x >>> (y &&& 31)) :: r)
  | .iushr => pI2 st fun x y r => k ls (.int (XT.ushr x y) :: r)
  | .ladd => pJ2 st fun x y r => k ls (.long (x + y) :: r)
  | .lsub => pJ2 st fun x y r => k ls (.long (x - y) :: r)
  | .lmul => pJ2 st fun x y r => k ls (.long (x * y) :: r)
  | .land => pJ2 st fun x y r => k ls (.long (x &&& y) :: r)
  | .lor => pJ2 st fun x y r => k ls (.long (x ||| y) :: r)
  | .lxor => pJ2 st fun x y r => k ls (.long (x ^^^ y) :: r)
  | .lshl => pJI st fun x y r => k ls (.long (x <<< (y.toInt64 &&& 63)) :: r)
  | .lshr => pJI st fun x y r => k ls (.long (x >>> (y.toInt64 &&& 63)) :: r)
  | .lushr => pJI st fun x y r => k ls (.long (XT.ushrL x y) :: r)
  | .lcmp => pJ2 st fun x y r => k ls (.int (XT.cmpL x y) :: r)
  | .ineg => pI1 st fun x r => k ls (.int (-x) :: r)
  | .lneg => pJ1 st fun x r => k ls (.long (-x) :: r)
  | .i2l => pI1 st fun x r => k ls (.long (x.toInt64) :: r)
  | .l2i => pJ1 st fun x r => k ls (.int (x.toInt32) :: r)
  | .i2b => pI1 st fun x r => k ls (.int (x.toInt8.toInt32) :: r)
  | .i2c => pI1 st fun x r => k ls (.int (x.toUInt32.toUInt16.toUInt32.toInt32) :: r)
  | .i2s => pI1 st fun x r => k ls (.int (x.toInt16.toInt32) :: r)
  | .dup => pW1 st fun x r => k ls (x :: x :: r)
  | .pop => pW1 st fun x r => k ls r
  | .dup_x1 => pW2 st fun x y r => k ls (x :: y :: x :: r)
  | .dup_x2 => pW3 st fun x y z r => k ls (x :: y :: z :: x :: r)
  | .dup2 => pD st (fun x r => k ls (.long x :: .long x :: r)) fun x y r => k ls (x :: y :: x :: y :: r)
  | .goto _ => k ls st
  | _ => none
/-- the length of an instruction that ex takes -/
def ilen : Instr → Nat
  | .iload _ => 2
  | .lload _ => 2
  | .aload _ => 2
  | .istore _ => 2
  | .astore _ => 2
  | .lstore _ => 2
  | .bipush _ => 2
  | .ldc _ => 2
  | .iinc _ _ => 3
  | .sipush _ => 3
  | .ldc2_w _ => 3
  | .goto _ => 3
  | _ => 1
/-- where it goes on -/
def nxtB (q : Nat) : Instr → Nat → Bool
  | .goto o, n => decide (0 ≤ (q : Int) + o) && decide (((q : Int) + o).toNat = n)
  | i, n => decide (q + ilen i = n)
/-- the constant that it pushes -/
def cst (cI : List (Nat × Int32)) (cJ : List (Nat × Int64)) (z : Int32) (w : Int64) : Instr → Bool
  | .iconst v => decide (Int32.ofInt v = z)
  | .bipush v => decide ((Int8.ofInt v).toInt32 = z)
  | .sipush v => decide ((Int16.ofInt v).toInt32 = z)
  | .iinc _ v => decide (Int32.ofInt v = z)
  | .lconst v => decide (Int64.ofNat v.val = w)
  | .ldc i => decide ((i, z) ∈ cI)
  | .ldc2_w i => decide ((i, w) ∈ cJ)
  | _ => true
def rowOk (code : ByteArray) (cI : List (Nat × Int32)) (cJ : List (Nat × Int64)) : Row → Bool
  | (q, i, n, z, w) => decide (decode code q = .ok (i, ilen i)) && nxtB q i n && cst cI cJ z w i
def go : List Row → Nat → List Slot → List Value → Option (Nat × List Slot × List Value)
  | [], pc, ls, st => some (pc, ls, st)
  | (q, i, n, z, w) :: r, pc, ls, st => bif Nat.beq q pc then ex i z w ls st (fun ls' st' => go r n ls' st') else none
/-! ## the run's end, and the predicate -/
def FinW (p : Program) (e : Env) (below : List Frame) (s : State) (n0 rc rs : Nat) (Q : Option Value → Heap → Prop) (t0 : State) : Prop :=
  ∃ t o, Steps p.tables e below t0 t ∧ t.status = .running ∧ Ended t below o ∧ ∃ v L, o = .returned v ∧ (Q v t.heap ∧ Fr n0 L ∧ n0 ≤ t.heap.size) ∧ FrameEnd s o t L rc rs
def WP (p : Program) (l : Launch) (e : Env) (R : Room) (s : State) (m : MethodId) (args : Array Value) (below : List Frame) (meth : Method) (c : Code) (n0 : Nat) (Q : Option Value → Heap → Prop) (h : Heap) (cells slots pc : Nat) (ls : List Slot) (st : List Value) : Prop :=
  ∀ T locs, Stand p l e R s m args below meth c T locs cells slots → T.heap = h → Fr n0 locs → n0 ≤ h.size → FinW p e below s n0 R.cells R.slots Q (T.setTop (mkF m pc ls.toArray st))
/-- what holds throughout one body -/
def Cx (p : Program) (s : State) (m : MethodId) (args : Array Value) (meth : Method) (c : Code) (Z : State) (y : MethodName) (code : ByteArray) (ml : Nat) (ret : Option FieldType) (cI : List (Nat × Int32)) (cJ : List (Nat × Int64)) : Prop :=
  p.tables.exec = Jvm.exec ∧ c.code = code ∧ c.maxLocals = ml ∧ Z.Warmed39 s.vm ∧ s.vm.findClass y.cls = some m.cls ∧ meth.name = y.name ∧ meth.sig.returnType = ret ∧ meth.locks = false ∧
    (∀ q ∈ cI, (Jvm.Cond.constant y.cls q.1 q.2).before args s = true) ∧ (∀ q ∈ cJ, (Jvm.Cond.constantLong y.cls q.1 q.2).before args s = true)
section Body
variable {p : Program} {l : Launch} {e : Env} {R : Room} {s : State} {m : MethodId} {args : Array Value} {below : List Frame} {meth : Method} {c : Code} {T : State} {locs : List Loc} {cells slots : Nat} {Z : State} {a0 : Array Value} {h : Heap} {y : MethodName} {code : ByteArray} {ml : Nat} {ret : Option FieldType} {cI : List (Nat × Int32)} {cJ : List (Nat × Int64)} {n0 : Nat} {Q : Option Value → Heap → Prop} {pc : Nat} {ls : List Slot} {st : List Value}
theorem ok_iload_n {β : Type} {z : Int32} {w : Int64} {k : List Slot → List Value → Option β} {b : β} {j : Fin 4} (hx : p.tables.exec = Jvm.exec) (X : Stand p l e R s m args below meth c T locs cells slots) (hd : decode c.code pc = .ok (.iload_n j, 1))  (h : (gI ls j.val fun v => k ls (.int v :: st)) = some b) :
    ∃ ls' st', k ls' st' = some b ∧ ls'.length = ls.length ∧ ∀ t, Steps p.tables e below (T.setTop (mkF m (pc + 1) ls'.toArray st')) t → Steps p.tables e below (T.setTop (mkF m pc ls.toArray st)) t := by
  obtain ⟨v, e1, h⟩ := gI_ok h
  exact ⟨_, _, h, rfl, fun t q => XS.iloadN X.here hx rfl hd (by simpa using e1) q⟩
theorem ok_iload {β : Type} {z : Int32} {w : Int64} {k : List Slot → List Value → Option β} {b : β} {j : Nat} (hx : p.tables.exec = Jvm.exec) (X : Stand p l e R s m args below meth c T locs cells slots) (hd : decode c.code pc = .ok (.iload j, 2))  (h : (gI ls j fun v => k ls (.int v :: st)) = some b) :
    ∃ ls' st', k ls' st' = some b ∧ ls'.length = ls.length ∧ ∀ t, Steps p.tables e below (T.setTop (mkF m (pc + 2) ls'.toArray st')) t → Steps p.tables e below (T.setTop (mkF m pc ls.toArray st)) t := by
  obtain ⟨v, e1, h⟩ := gI_ok h
  exact ⟨_, _, h, rfl, fun t q => XS.iload X.here hx rfl hd (by simpa using e1) q⟩
theorem ok_lload_n {β : Type} {z : Int32} {w : Int64} {k : List Slot → List Value → Option β} {b : β} {j : Fin 4} (hx : p.tables.exec = Jvm.exec) (X : Stand p l e R s m args below meth c T locs cells slots) (hd : decode c.code pc = .ok (.lload_n j, 1))  (h : (gJ ls j.val fun v => k ls (.long v :: st)) = some b) :
    ∃ ls' st', k ls' st' = some b ∧ ls'.length = ls.length ∧ ∀ t, Steps p.tables e below (T.setTop (mkF m (pc + 1) ls'.toArray st')) t → Steps p.tables e below (T.setTop (mkF m pc ls.toArray st)) t := by
  obtain ⟨v, e1, h⟩ := gJ_ok h
  exact ⟨_, _, h, rfl, fun t q => XT.lloadN X.here hx rfl hd (by simpa using e1) q⟩
theorem ok_lload {β : Type} {z : Int32} {w : Int64} {k : List Slot → List Value → Option β} {b : β} {j : Nat} (hx : p.tables.exec = Jvm.exec) (X : Stand p l e R s m args below meth c T locs cells slots) (hd : decode c.code pc = .ok (.lload j, 2))  (h : (gJ ls j fun v => k ls (.long v :: st)) = some b) :
    ∃ ls' st', k ls' st' = some b ∧ ls'.length = ls.length ∧ ∀ t, Steps p.tables e below (T.setTop (mkF m (pc + 2) ls'.toArray st')) t → Steps p.tables e below (T.setTop (mkF m pc ls.toArray st)) t := by
  obtain ⟨v, e1, h⟩ := gJ_ok h
  exact ⟨_, _, h, rfl, fun t q => XT.lload X.here hx rfl hd (by simpa using e1) q⟩
theorem ok_aload_n {β : Type} {z : Int32} {w : Int64} {k : List Slot → List Value → Option β} {b : β} {j : Fin 4} (hx : p.tables.exec = Jvm.exec) (X : Stand p l e R s m args below meth c T locs cells slots) (hd : decode c.code pc = .ok (.aload_n j, 1))  (h : (gA ls j.val fun v => k ls (v :: st)) = some b) :
    ∃ ls' st', k ls' st' = some b ∧ ls'.length = ls.length ∧ ∀ t, Steps p.tables e below (T.setTop (mkF m (pc + 1) ls'.toArray st')) t → Steps p.tables e below (T.setTop (mkF m pc ls.toArray st)) t := by
  obtain ⟨v, e1, e2, h⟩ := gA_ok h
  exact ⟨_, _, h, rfl, fun t q => XS.aloadN X.here hx rfl hd (v := v) (by simpa using e1) e2 q⟩
theorem ok_aload {β : Type} {z : Int32} {w : Int64} {k : List Slot → List Value → Option β} {b : β} {j : Nat} (hx : p.tables.exec = Jvm.exec) (X : Stand p l e R s m args below meth c T locs cells slots) (hd : decode c.code pc = .ok (.aload j, 2))  (h : (gA ls j fun v => k ls (v :: st)) = some b) :
    ∃ ls' st', k ls' st' = some b ∧ ls'.length = ls.length ∧ ∀ t, Steps p.tables e below (T.setTop (mkF m (pc + 2) ls'.toArray st')) t → Steps p.tables e below (T.setTop (mkF m pc ls.toArray st)) t := by
  obtain ⟨v, e1, e2, h⟩ := gA_ok h
  exact ⟨_, _, h, rfl, fun t q => XS.aload X.here hx rfl hd (v := v) (by simpa using e1) e2 q⟩
theorem ok_istore_n {β : Type} {z : Int32} {w : Int64} {k : List Slot → List Value → Option β} {b : β} {j : Fin 4} (hx : p.tables.exec = Jvm.exec) (X : Stand p l e R s m args below meth c T locs cells slots) (hd : decode c.code pc = .ok (.istore_n j, 1))  (h : (pI1 st fun v r => st1 ls j.val (.int v) (fun l => k l r)) = some b) :
    ∃ ls' st', k ls' st' = some b ∧ ls'.length = ls.length ∧ ∀ t, Steps p.tables e below (T.setTop (mkF m (pc + 1) ls'.toArray st')) t → Steps p.tables e below (T.setTop (mkF m pc ls.toArray st)) t := by
  obtain ⟨v, r, rfl, h⟩ := pI1_ok h
  obtain ⟨l, h1, h2, h3⟩ := st1_ok rfl h
  exact ⟨_, _, h1, h2, fun t q => XS.istoreN X.here hx rfl hd rfl h3 q⟩
theorem ok_istore {β : Type} {z : Int32} {w : Int64} {k : List Slot → List Value → Option β} {b : β} {j : Nat} (hx : p.tables.exec = Jvm.exec) (X : Stand p l e R s m args below meth c T locs cells slots) (hd : decode c.code pc = .ok (.istore j, 2))  (h : (pI1 st fun v r => st1 ls j (.int v) (fun l => k l r)) = some b) :
    ∃ ls' st', k ls' st' = some b ∧ ls'.length = ls.length ∧ ∀ t, Steps p.tables e below (T.setTop (mkF m (pc + 2) ls'.toArray st')) t → Steps p.tables e below (T.setTop (mkF m pc ls.toArray st)) t := by
  obtain ⟨v, r, rfl, h⟩ := pI1_ok h
  obtain ⟨l, h1, h2, h3⟩ := st1_ok rfl h
  exact ⟨_, _, h1, h2, fun t q => XS.istore X.here hx rfl hd rfl h3 q⟩
theorem ok_astore_n {β : Type} {z : Int32} {w : Int64} {k : List Slot → List Value → Option β} {b : β} {j : Fin 4} (hx : p.tables.exec = Jvm.exec) (X : Stand p l e R s m args below meth c T locs cells slots) (hd : decode c.code pc = .ok (.astore_n j, 1))  (h : (pA1 st fun v r => st1 ls j.val v (fun l => k l r)) = some b) :
    ∃ ls' st', k ls' st' = some b ∧ ls'.length = ls.length ∧ ∀ t, Steps p.tables e below (T.setTop (mkF m (pc + 1) ls'.toArray st')) t → Steps p.tables e below (T.setTop (mkF m pc ls.toArray st)) t := by
  obtain ⟨v, r, rfl, hv, hc, h⟩ := pA1_ok h
  obtain ⟨l, h1, h2, h3⟩ := st1_ok hc h
  exact ⟨_, _, h1, h2, fun t q => XS.astoreN X.here hx rfl hd rfl hv h3 q⟩
theorem ok_astore {β : Type} {z : Int32} {w : Int64} {k : List Slot → List Value → Option β} {b : β} {j : Nat} (hx : p.tables.exec = Jvm.exec) (X : Stand p l e R s m args below meth c T locs cells slots) (hd : decode c.code pc = .ok (.astore j, 2))  (h : (pA1 st fun v r => st1 ls j v (fun l => k l r)) = some b) :
    ∃ ls' st', k ls' st' = some b ∧ ls'.length = ls.length ∧ ∀ t, Steps p.tables e below (T.setTop (mkF m (pc + 2) ls'.toArray st')) t → Steps p.tables e below (T.setTop (mkF m pc ls.toArray st)) t := by
  obtain ⟨v, r, rfl, hv, hc, h⟩ := pA1_ok h
  obtain ⟨l, h1, h2, h3⟩ := st1_ok hc h
  exact ⟨_, _, h1, h2, fun t q => XS.astore X.here hx rfl hd rfl hv h3 q⟩
theorem ok_lstore_n {β : Type} {z : Int32} {w : Int64} {k : List Slot → List Value → Option β} {b : β} {j : Fin 4} (hx : p.tables.exec = Jvm.exec) (X : Stand p l e R s m args below meth c T locs cells slots) (hd : decode c.code pc = .ok (.lstore_n j, 1))  (h : (pJ1 st fun v r => st2 ls j.val (.long v) (fun l => k l r)) = some b) :
    ∃ ls' st', k ls' st' = some b ∧ ls'.length = ls.length ∧ ∀ t, Steps p.tables e below (T.setTop (mkF m (pc + 1) ls'.toArray st')) t → Steps p.tables e below (T.setTop (mkF m pc ls.toArray st)) t := by
  obtain ⟨v, r, rfl, h⟩ := pJ1_ok h
  obtain ⟨l, h1, h2, h3⟩ := st2_ok h
  exact ⟨_, _, h1, h2, fun t q => XT.lstoreN X.here hx rfl hd rfl h3 q⟩
theorem ok_lstore {β : Type} {z : Int32} {w : Int64} {k : List Slot → List Value → Option β} {b : β} {j : Nat} (hx : p.tables.exec = Jvm.exec) (X : Stand p l e R s m args below meth c T locs cells slots) (hd : decode c.code pc = .ok (.lstore j, 2))  (h : (pJ1 st fun v r => st2 ls j (.long v) (fun l => k l r)) = some b) :
    ∃ ls' st', k ls' st' = some b ∧ ls'.length = ls.length ∧ ∀ t, Steps p.tables e below (T.setTop (mkF m (pc + 2) ls'.toArray st')) t → Steps p.tables e below (T.setTop (mkF m pc ls.toArray st)) t := by
  obtain ⟨v, r, rfl, h⟩ := pJ1_ok h
  obtain ⟨l, h1, h2, h3⟩ := st2_ok h
  exact ⟨_, _, h1, h2, fun t q => XT.lstore X.here hx rfl hd rfl h3 q⟩
theorem ok_iinc {β : Type} {z : Int32} {w : Int64} {k : List Slot → List Value → Option β} {b : β} {j : Nat} {cc : Int} (hx : p.tables.exec = Jvm.exec) (X : Stand p l e R s m args below meth c T locs cells slots) (hd : decode c.code pc = .ok (.iinc j cc, 3)) (hz : Int32.ofInt cc = z) (h : (gI ls j fun v => put ls j (.val (.int (v + z))) (fun l => k l st)) = some b) :
    ∃ ls' st', k ls' st' = some b ∧ ls'.length = ls.length ∧ ∀ t, Steps p.tables e below (T.setTop (mkF m (pc + 3) ls'.toArray st')) t → Steps p.tables e below (T.setTop (mkF m pc ls.toArray st)) t := by
  obtain ⟨v, e1, h⟩ := gI_ok h
  obtain ⟨h1, h2⟩ := put_ok _ _ _ _ _ h
  refine ⟨_, _, h2, by simp, fun t q => XS.iinc X.here hx rfl hd (x := v) (by simpa using e1) (XS.store1 (by simpa using e1) (Or.inr ⟨_, rfl, rfl⟩) rfl) ?_⟩
  rw [hz]; simpa using q
theorem ok_iconst {β : Type} {z : Int32} {w : Int64} {k : List Slot → List Value → Option β} {b : β} {cc : Int} (hx : p.tables.exec = Jvm.exec) (X : Stand p l e R s m args below meth c T locs cells slots) (hd : decode c.code pc = .ok (.iconst cc, 1)) (hz : Int32.ofInt cc = z) (h : (k ls (.int z :: st)) = some b) :
    ∃ ls' st', k ls' st' = some b ∧ ls'.length = ls.length ∧ ∀ t, Steps p.tables e below (T.setTop (mkF m (pc + 1) ls'.toArray st')) t → Steps p.tables e below (T.setTop (mkF m pc ls.toArray st)) t := by
  exact ⟨_, _, h, rfl, fun t q => XS.iconst X.here hx rfl hd (by rw [hz]; exact q)⟩
theorem ok_bipush {β : Type} {z : Int32} {w : Int64} {k : List Slot → List Value → Option β} {b : β} {cc : Int} (hx : p.tables.exec = Jvm.exec) (X : Stand p l e R s m args below meth c T locs cells slots) (hd : decode c.code pc = .ok (.bipush cc, 2)) (hz : (Int8.ofInt cc).toInt32 = z) (h : (k ls (.int z :: st)) = some b) :
    ∃ ls' st', k ls' st' = some b ∧ ls'.length = ls.length ∧ ∀ t, Steps p.tables e below (T.setTop (mkF m (pc + 2) ls'.toArray st')) t → Steps p.tables e below (T.setTop (mkF m pc ls.toArray st)) t := by
  exact ⟨_, _, h, rfl, fun t q => XS.bipush X.here hx rfl hd (by rw [hz]; exact q)⟩
theorem ok_sipush {β : Type} {z : Int32} {w : Int64} {k : List Slot → List Value → Option β} {b : β} {cc : Int} (hx : p.tables.exec = Jvm.exec) (X : Stand p l e R s m args below meth c T locs cells slots) (hd : decode c.code pc = .ok (.sipush cc, 3)) (hz : (Int16.ofInt cc).toInt32 = z) (h : (k ls (.int z :: st)) = some b) :
    ∃ ls' st', k ls' st' = some b ∧ ls'.length = ls.length ∧ ∀ t, Steps p.tables e below (T.setTop (mkF m (pc + 3) ls'.toArray st')) t → Steps p.tables e below (T.setTop (mkF m pc ls.toArray st)) t := by
  exact ⟨_, _, h, rfl, fun t q => XS.sipush X.here hx rfl hd (by rw [hz]; exact q)⟩
theorem ok_lconst {β : Type} {z : Int32} {w : Int64} {k : List Slot → List Value → Option β} {b : β} {cc : Fin 2} (hx : p.tables.exec = Jvm.exec) (X : Stand p l e R s m args below meth c T locs cells slots) (hd : decode c.code pc = .ok (.lconst cc, 1)) (hz : Int64.ofNat cc.val = w) (h : (k ls (.long w :: st)) = some b) :
    ∃ ls' st', k ls' st' = some b ∧ ls'.length = ls.length ∧ ∀ t, Steps p.tables e below (T.setTop (mkF m (pc + 1) ls'.toArray st')) t → Steps p.tables e below (T.setTop (mkF m pc ls.toArray st)) t := by
  exact ⟨_, _, h, rfl, fun t q => XT.lconst X.here hx rfl hd (by rw [hz]; exact q)⟩
theorem ok_ldc {β : Type} {z : Int32} {w : Int64} {k : List Slot → List Value → Option β} {b : β} {cc : Nat} (hx : p.tables.exec = Jvm.exec) (X : Stand p l e R s m args below meth c T locs cells slots) (hd : decode c.code pc = .ok (.ldc cc, 2)) {own : String} (hown : s.vm.findClass own = some m.cls) (hz : (Jvm.Cond.constant own cc z).before args s = true) (h : (k ls (.int z :: st)) = some b) :
    ∃ ls' st', k ls' st' = some b ∧ ls'.length = ls.length ∧ ∀ t, Steps p.tables e below (T.setTop (mkF m (pc + 2) ls'.toArray st')) t → Steps p.tables e below (T.setTop (mkF m pc ls.toArray st)) t := by
  exact ⟨_, _, h, rfl, fun t q => X.ldcInt hx hown hz (g := mkF m pc ls.toArray st) rfl hd t q⟩
theorem ok_ldc2_w {β : Type} {z : Int32} {w : Int64} {k : List Slot → List Value → Option β} {b : β} {cc : Nat} (hx : p.tables.exec = Jvm.exec) (X : Stand p l e R s m args below meth c T locs cells slots) (hd : decode c.code pc = .ok (.ldc2_w cc, 3)) {own : String} (hown : s.vm.findClass own = some m.cls) (hz : (Jvm.Cond.constantLong own cc w).before args s = true) (h : (k ls (.long w :: st)) = some b) :
    ∃ ls' st', k ls' st' = some b ∧ ls'.length = ls.length ∧ ∀ t, Steps p.tables e below (T.setTop (mkF m (pc + 3) ls'.toArray st')) t → Steps p.tables e below (T.setTop (mkF m pc ls.toArray st)) t := by
  exact ⟨_, _, h, rfl, fun t q => X.ldc2Long hx hown hz (g := mkF m pc ls.toArray st) rfl hd t q⟩
theorem ok_aconst_null {β : Type} {z : Int32} {w : Int64} {k : List Slot → List Value → Option β} {b : β}  (hx : p.tables.exec = Jvm.exec) (X : Stand p l e R s m args below meth c T locs cells slots) (hd : decode c.code pc = .ok (.aconst_null, 1))  (h : (k ls (.null :: st)) = some b) :
    ∃ ls' st', k ls' st' = some b ∧ ls'.length = ls.length ∧ ∀ t, Steps p.tables e below (T.setTop (mkF m (pc + 1) ls'.toArray st')) t → Steps p.tables e below (T.setTop (mkF m pc ls.toArray st)) t := by
  exact ⟨_, _, h, rfl, fun t q => XS.aconstNull X.here hx rfl hd q⟩
theorem ok_iadd {β : Type} {z : Int32} {w : Int64} {k : List Slot → List Value → Option β} {b : β}  (hx : p.tables.exec = Jvm.exec) (X : Stand p l e R s m args below meth c T locs cells slots) (hd : decode c.code pc = .ok (.iadd, 1))  (h : (pI2 st fun x y r => k ls (.int (x + y) :: r)) = some b) :
    ∃ ls' st', k ls' st' = some b ∧ ls'.length = ls.length ∧ ∀ t, Steps p.tables e below (T.setTop (mkF m (pc + 1) ls'.toArray st')) t → Steps p.tables e below (T.setTop (mkF m pc ls.toArray st)) t := by
  obtain ⟨x, y, r, rfl, h⟩ := pI2_ok h
  exact ⟨_, _, h, rfl, fun t q => XS.iadd X.here hx rfl hd rfl q⟩
theorem ok_isub {β : Type} {z : Int32} {w : Int64} {k : List Slot → List Value → Option β} {b : β}  (hx : p.tables.exec = Jvm.exec) (X : Stand p l e R s m args below meth c T locs cells slots) (hd : decode c.code pc = .ok (.isub, 1))  (h : (pI2 st fun x y r => k ls (.int (x - y) :: r)) = some b) :
    ∃ ls' st', k ls' st' = some b ∧ ls'.length = ls.length ∧ ∀ t, Steps p.tables e below (T.setTop (mkF m (pc + 1) ls'.toArray st')) t → Steps p.tables e below (T.setTop (mkF m pc ls.toArray st)) t := by
  obtain ⟨x, y, r, rfl, h⟩ := pI2_ok h
  exact ⟨_, _, h, rfl, fun t q => XS.isub X.here hx rfl hd rfl q⟩
theorem ok_imul {β : Type} {z : Int32} {w : Int64} {k : List Slot → List Value → Option β} {b : β}  (hx : p.tables.exec = Jvm.exec) (X : Stand p l e R s m args below meth c T locs cells slots) (hd : decode c.code pc = .ok (.imul, 1))  (h : (pI2 st fun x y r => k ls (.int (x * y) :: r)) = some b) :
    ∃ ls' st', k ls' st' = some b ∧ ls'.length = ls.length ∧ ∀ t, Steps p.tables e below (T.setTop (mkF m (pc + 1) ls'.toArray st')) t → Steps p.tables e below (T.setTop (mkF m pc ls.toArray st)) t := by
  obtain ⟨x, y, r, rfl, h⟩ := pI2_ok h
  exact ⟨_, _, h, rfl, fun t q => XS.imul X.here hx rfl hd rfl q⟩
theorem ok_iand {β : Type} {z : Int32} {w : Int64} {k : List Slot → List Value → Option β} {b : β}  (hx : p.tables.exec = Jvm.exec) (X : Stand p l e R s m args below meth c T locs cells slots) (hd : decode c.code pc = .ok (.iand, 1))  (h : (pI2 st fun x y r => k ls (.int (x &&& y) :: r)) = some b) :
    ∃ ls' st', k ls' st' = some b ∧ ls'.length = ls.length ∧ ∀ t, Steps p.tables e below (T.setTop (mkF m (pc + 1) ls'.toArray st')) t → Steps p.tables e below (T.setTop (mkF m pc ls.toArray st)) t := by
  obtain ⟨x, y, r, rfl, h⟩ := pI2_ok h
  exact ⟨_, _, h, rfl, fun t q => XS.iand X.here hx rfl hd rfl q⟩
theorem ok_ior {β : Type} {z : Int32} {w : Int64} {k : List Slot → List Value → Option β} {b : β}  (hx : p.tables.exec = Jvm.exec) (X : Stand p l e R s m args below meth c T locs cells slots) (hd : decode c.code pc = .ok (.ior, 1))  (h : (pI2 st fun x y r => k ls (.int (x ||| y) :: r)) = some b) :
    ∃ ls' st', k ls' st' = some b ∧ ls'.length = ls.length ∧ ∀ t, Steps p.tables e below (T.setTop (mkF m (pc + 1) ls'.toArray st')) t → Steps p.tables e below (T.setTop (mkF m pc ls.toArray st)) t := by
  obtain ⟨x, y, r, rfl, h⟩ := pI2_ok h
  exact ⟨_, _, h, rfl, fun t q => XT.ior X.here hx rfl hd rfl q⟩
theorem ok_ixor {β : Type} {z : Int32} {w : Int64} {k : List Slot → List Value → Option β} {b : β}  (hx : p.tables.exec = Jvm.exec) (X : Stand p l e R s m args below meth c T locs cells slots) (hd : decode c.code pc = .ok (.ixor, 1))  (h : (pI2 st fun x y r => k ls (.int (x ^^^ y) :: r)) = some b) :
    ∃ ls' st', k ls' st' = some b ∧ ls'.length = ls.length ∧ ∀ t, Steps p.tables e below (T.setTop (mkF m (pc + 1) ls'.toArray st')) t → Steps p.tables e below (T.setTop (mkF m pc ls.toArray st)) t := by
  obtain ⟨x, y, r, rfl, h⟩ := pI2_ok h
  exact ⟨_, _, h, rfl, fun t q => XT.ixor X.here hx rfl hd rfl q⟩
theorem ok_ishl {β : Type} {z : Int32} {w : Int64} {k : List Slot → List Value → Option β} {b : β}  (hx : p.tables.exec = Jvm.exec) (X : Stand p l e R s m args below meth c T locs cells slots) (hd : decode c.code pc = .ok (.ishl, 1))  (h : (pI2 st fun x y r => k ls (.int (x <<< (y &&& 31)) :: r)) = some b) :
    ∃ ls' st', k ls' st' = some b ∧ ls'.length = ls.length ∧ ∀ t, Steps p.tables e below (T.setTop (mkF m (pc + 1) ls'.toArray st')) t → Steps p.tables e below (T.setTop (mkF m pc ls.toArray st)) t := by
  obtain ⟨x, y, r, rfl, h⟩ := pI2_ok h
  exact ⟨_, _, h, rfl, fun t q => XT.ishl X.here hx rfl hd rfl q⟩
theorem ok_ishr {β : Type} {z : Int32} {w : Int64} {k : List Slot → List Value → Option β} {b : β}  (hx : p.tables.exec = Jvm.exec) (X : Stand p l e R s m args below meth c T locs cells slots) (hd : decode c.code pc = .ok (.ishr, 1))  (h : (pI2 st fun x y r => k ls (.int (x >>> (y &&& 31)) :: r)) = some b) :
    ∃ ls' st', k ls' st' = some b ∧ ls'.length = ls.length ∧ ∀ t, Steps p.tables e below (T.setTop (mkF m (pc + 1) ls'.toArray st')) t → Steps p.tables e below (T.setTop (mkF m pc ls.toArray st)) t := by
  obtain ⟨x, y, r, rfl, h⟩ := pI2_ok h
  exact ⟨_, _, h, rfl, fun t q => XT.ishr X.here hx rfl hd rfl q⟩
theorem ok_iushr {β : Type} {z : Int32} {w : Int64} {k : List Slot → List Value → Option β} {b : β}  (hx : p.tables.exec = Jvm.exec) (X : Stand p l e R s m args below meth c T locs cells slots) (hd : decode c.code pc = .ok (.iushr, 1))  (h : (pI2 st fun x y r => k ls (.int (XT.ushr x y) :: r)) = some b) :
    ∃ ls' st', k ls' st' = some b ∧ ls'.length = ls.length ∧ ∀ t, Steps p.tables e below (T.setTop (mkF m (pc + 1) ls'.toArray st')) t → Steps p.tables e below (T.setTop (mkF m pc ls.toArray st)) t := by
  obtain ⟨x, y, r, rfl, h⟩ := pI2_ok h
  exact ⟨_, _, h, rfl, fun t q => XT.iushr X.here hx rfl hd rfl q⟩
theorem ok_ladd {β : Type} {z : Int32} {w : Int64} {k : List Slot → List Value → Option β} {b : β}  (hx : p.tables.exec = Jvm.exec) (X : Stand p l e R s m args below meth c T locs cells slots) (hd : decode c.code pc = .ok (.ladd, 1))  (h : (pJ2 st fun x y r => k ls (.long (x + y) :: r)) = some b) :
    ∃ ls' st', k ls' st' = some b ∧ ls'.length = ls.length ∧ ∀ t, Steps p.tables e below (T.setTop (mkF m (pc + 1) ls'.toArray st')) t → Steps p.tables e below (T.setTop (mkF m pc ls.toArray st)) t := by
  obtain ⟨x, y, r, rfl, h⟩ := pJ2_ok h
  exact ⟨_, _, h, rfl, fun t q => XT.ladd X.here hx rfl hd rfl q⟩
theorem ok_lsub {β : Type} {z : Int32} {w : Int64} {k : List Slot → List Value → Option β} {b : β}  (hx : p.tables.exec = Jvm.exec) (X : Stand p l e R s m args below meth c T locs cells slots) (hd : decode c.code pc = .ok (.lsub, 1))  (h : (pJ2 st fun x y r => k ls (.long (x - y) :: r)) = some b) :
    ∃ ls' st', k ls' st' = some b ∧ ls'.length = ls.length ∧ ∀ t, Steps p.tables e below (T.setTop (mkF m (pc + 1) ls'.toArray st')) t → Steps p.tables e below (T.setTop (mkF m pc ls.toArray st)) t := by
  obtain ⟨x, y, r, rfl, h⟩ := pJ2_ok h
  exact ⟨_, _, h, rfl, fun t q => XT.lsub X.here hx rfl hd rfl q⟩
theorem ok_lmul {β : Type} {z : Int32} {w : Int64} {k : List Slot → List Value → Option β} {b : β}  (hx : p.tables.exec = Jvm.exec) (X : Stand p l e R s m args below meth c T locs cells slots) (hd : decode c.code pc = .ok (.lmul, 1))  (h : (pJ2 st fun x y r => k ls (.long (x * y) :: r)) = some b) :
    ∃ ls' st', k ls' st' = some b ∧ ls'.length = ls.length ∧ ∀ t, Steps p.tables e below (T.setTop (mkF m (pc + 1) ls'.toArray st')) t → Steps p.tables e below (T.setTop (mkF m pc ls.toArray st)) t := by
  obtain ⟨x, y, r, rfl, h⟩ := pJ2_ok h
  exact ⟨_, _, h, rfl, fun t q => XT.lmul X.here hx rfl hd rfl q⟩
theorem ok_land {β : Type} {z : Int32} {w : Int64} {k : List Slot → List Value → Option β} {b : β}  (hx : p.tables.exec = Jvm.exec) (X : Stand p l e R s m args below meth c T locs cells slots) (hd : decode c.code pc = .ok (.land, 1))  (h : (pJ2 st fun x y r => k ls (.long (x &&& y) :: r)) = some b) :
    ∃ ls' st', k ls' st' = some b ∧ ls'.length = ls.length ∧ ∀ t, Steps p.tables e below (T.setTop (mkF m (pc + 1) ls'.toArray st')) t → Steps p.tables e below (T.setTop (mkF m pc ls.toArray st)) t := by
  obtain ⟨x, y, r, rfl, h⟩ := pJ2_ok h
  exact ⟨_, _, h, rfl, fun t q => XT.land X.here hx rfl hd rfl q⟩
theorem ok_lor {β : Type} {z : Int32} {w : Int64} {k : List Slot → List Value → Option β} {b : β}  (hx : p.tables.exec = Jvm.exec) (X : Stand p l e R s m args below meth c T locs cells slots) (hd : decode c.code pc = .ok (.lor, 1))  (h : (pJ2 st fun x y r => k ls (.long (x ||| y) :: r)) = some b) :
    ∃ ls' st', k ls' st' = some b ∧ ls'.length = ls.length ∧ ∀ t, Steps p.tables e below (T.setTop (mkF m (pc + 1) ls'.toArray st')) t → Steps p.tables e below (T.setTop (mkF m pc ls.toArray st)) t := by
  obtain ⟨x, y, r, rfl, h⟩ := pJ2_ok h
  exact ⟨_, _, h, rfl, fun t q => XT.lor X.here hx rfl hd rfl q⟩
theorem ok_lxor {β : Type} {z : Int32} {w : Int64} {k : List Slot → List Value → Option β} {b : β}  (hx : p.tables.exec = Jvm.exec) (X : Stand p l e R s m args below meth c T locs cells slots) (hd : decode c.code pc = .ok (.lxor, 1))  (h : (pJ2 st fun x y r => k ls (.long (x ^^^ y) :: r)) = some b) :
    ∃ ls' st', k ls' st' = some b ∧ ls'.length = ls.length ∧ ∀ t, Steps p.tables e below (T.setTop (mkF m (pc + 1) ls'.toArray st')) t → Steps p.tables e below (T.setTop (mkF m pc ls.toArray st)) t := by
  obtain ⟨x, y, r, rfl, h⟩ := pJ2_ok h
  exact ⟨_, _, h, rfl, fun t q => XT.lxor X.here hx rfl hd rfl q⟩
theorem ok_lshl {β : Type} {z : Int32} {w : Int64} {k : List Slot → List Value → Option β} {b : β}  (hx : p.tables.exec = Jvm.exec) (X : Stand p l e R s m args below meth c T locs cells slots) (hd : decode c.code pc = .ok (.lshl, 1))  (h : (pJI st fun x y r => k ls (.long (x <<< (y.toInt64 &&& 63)) :: r)) = some b) :
    ∃ ls' st', k ls' st' = some b ∧ ls'.length = ls.length ∧ ∀ t, Steps p.tables e below (T.setTop (mkF m (pc + 1) ls'.toArray st')) t → Steps p.tables e below (T.setTop (mkF m pc ls.toArray st)) t := by
  obtain ⟨x, y, r, rfl, h⟩ := pJI_ok h
  exact ⟨_, _, h, rfl, fun t q => XT.lshl X.here hx rfl hd rfl q⟩
theorem ok_lshr {β : Type} {z : Int32} {w : Int64} {k : List Slot → List Value → Option β} {b : β}  (hx : p.tables.exec = Jvm.exec) (X : Stand p l e R s m args below meth c T locs cells slots) (hd : decode c.code pc = .ok (.lshr, 1))  (h : (pJI st fun x y r => k ls (.long (x >>> (y.toInt64 &&& 63)) :: r)) = some b) :
    ∃ ls' st', k ls' st' = some b ∧ ls'.length = ls.length ∧ ∀ t, Steps p.tables e below (T.setTop (mkF m (pc + 1) ls'.toArray st')) t → Steps p.tables e below (T.setTop (mkF m pc ls.toArray st)) t := by
  obtain ⟨x, y, r, rfl, h⟩ := pJI_ok h
  exact ⟨_, _, h, rfl, fun t q => XT.lshr X.here hx rfl hd rfl q⟩
theorem ok_lushr {β : Type} {z : Int32} {w : Int64} {k : List Slot → List Value → Option β} {b : β}  (hx : p.tables.exec = Jvm.exec) (X : Stand p l e R s m args below meth c T locs cells slots) (hd : decode c.code pc = .ok (.lushr, 1))  (h : (pJI st fun x y r => k ls (.long (XT.ushrL x y) :: r)) = some b) :
    ∃ ls' st', k ls' st' = some b ∧ ls'.length = ls.length ∧ ∀ t, Steps p.tables e below (T.setTop (mkF m (pc + 1) ls'.toArray st')) t → Steps p.tables e below (T.setTop (mkF m pc ls.toArray st)) t := by
  obtain ⟨x, y, r, rfl, h⟩ := pJI_ok h
  exact ⟨_, _, h, rfl, fun t q => XT.lushr X.here hx rfl hd rfl q⟩
theorem ok_lcmp {β : Type} {z : Int32} {w : Int64} {k : List Slot → List Value → Option β} {b : β}  (hx : p.tables.exec = Jvm.exec) (X : Stand p l e R s m args below meth c T locs cells slots) (hd : decode c.code pc = .ok (.lcmp, 1))  (h : (pJ2 st fun x y r => k ls (.int (XT.cmpL x y) :: r)) = some b) :
    ∃ ls' st', k ls' st' = some b ∧ ls'.length = ls.length ∧ ∀ t, Steps p.tables e below (T.setTop (mkF m (pc + 1) ls'.toArray st')) t → Steps p.tables e below (T.setTop (mkF m pc ls.toArray st)) t := by
  obtain ⟨x, y, r, rfl, h⟩ := pJ2_ok h
  exact ⟨_, _, h, rfl, fun t q => XT.lcmp X.here hx rfl hd rfl q⟩
theorem ok_ineg {β : Type} {z : Int32} {w : Int64} {k : List Slot → List Value → Option β} {b : β}  (hx : p.tables.exec = Jvm.exec) (X : Stand p l e R s m args below meth c T locs cells slots) (hd : decode c.code pc = .ok (.ineg, 1))  (h : (pI1 st fun x r => k ls (.int (-x) :: r)) = some b) :
    ∃ ls' st', k ls' st' = some b ∧ ls'.length = ls.length ∧ ∀ t, Steps p.tables e below (T.setTop (mkF m (pc + 1) ls'.toArray st')) t → Steps p.tables e below (T.setTop (mkF m pc ls.toArray st)) t := by
  obtain ⟨x, r, rfl, h⟩ := pI1_ok h
  exact ⟨_, _, h, rfl, fun t q => XS.ineg X.here hx rfl hd rfl q⟩
theorem ok_lneg {β : Type} {z : Int32} {w : Int64} {k : List Slot → List Value → Option β} {b : β}  (hx : p.tables.exec = Jvm.exec) (X : Stand p l e R s m args below meth c T locs cells slots) (hd : decode c.code pc = .ok (.lneg, 1))  (h : (pJ1 st fun x r => k ls (.long (-x) :: r)) = some b) :
    ∃ ls' st', k ls' st' = some b ∧ ls'.length = ls.length ∧ ∀ t, Steps p.tables e below (T.setTop (mkF m (pc + 1) ls'.toArray st')) t → Steps p.tables e below (T.setTop (mkF m pc ls.toArray st)) t := by
  obtain ⟨x, r, rfl, h⟩ := pJ1_ok h
  exact ⟨_, _, h, rfl, fun t q => XT.lneg X.here hx rfl hd rfl q⟩
theorem ok_i2l {β : Type} {z : Int32} {w : Int64} {k : List Slot → List Value → Option β} {b : β}  (hx : p.tables.exec = Jvm.exec) (X : Stand p l e R s m args below meth c T locs cells slots) (hd : decode c.code pc = .ok (.i2l, 1))  (h : (pI1 st fun x r => k ls (.long (x.toInt64) :: r)) = some b) :
    ∃ ls' st', k ls' st' = some b ∧ ls'.length = ls.length ∧ ∀ t, Steps p.tables e below (T.setTop (mkF m (pc + 1) ls'.toArray st')) t → Steps p.tables e below (T.setTop (mkF m pc ls.toArray st)) t := by
  obtain ⟨x, r, rfl, h⟩ := pI1_ok h
  exact ⟨_, _, h, rfl, fun t q => XT.i2l X.here hx rfl hd rfl q⟩
theorem ok_l2i {β : Type} {z : Int32} {w : Int64} {k : List Slot → List Value → Option β} {b : β}  (hx : p.tables.exec = Jvm.exec) (X : Stand p l e R s m args below meth c T locs cells slots) (hd : decode c.code pc = .ok (.l2i, 1))  (h : (pJ1 st fun x r => k ls (.int (x.toInt32) :: r)) = some b) :
    ∃ ls' st', k ls' st' = some b ∧ ls'.length = ls.length ∧ ∀ t, Steps p.tables e below (T.setTop (mkF m (pc + 1) ls'.toArray st')) t → Steps p.tables e below (T.setTop (mkF m pc ls.toArray st)) t := by
  obtain ⟨x, r, rfl, h⟩ := pJ1_ok h
  exact ⟨_, _, h, rfl, fun t q => XT.l2i X.here hx rfl hd rfl q⟩
theorem ok_i2b {β : Type} {z : Int32} {w : Int64} {k : List Slot → List Value → Option β} {b : β}  (hx : p.tables.exec = Jvm.exec) (X : Stand p l e R s m args below meth c T locs cells slots) (hd : decode c.code pc = .ok (.i2b, 1))  (h : (pI1 st fun x r => k ls (.int (x.toInt8.toInt32) :: r)) = some b) :
    ∃ ls' st', k ls' st' = some b ∧ ls'.length = ls.length ∧ ∀ t, Steps p.tables e below (T.setTop (mkF m (pc + 1) ls'.toArray st')) t → Steps p.tables e below (T.setTop (mkF m pc ls.toArray st)) t := by
  obtain ⟨x, r, rfl, h⟩ := pI1_ok h
  exact ⟨_, _, h, rfl, fun t q => XT.i2b X.here hx rfl hd rfl q⟩
theorem ok_i2c {β : Type} {z : Int32} {w : Int64} {k : List Slot → List Value → Option β} {b : β}  (hx : p.tables.exec = Jvm.exec) (X : Stand p l e R s m args below meth c T locs cells slots) (hd : decode c.code pc = .ok (.i2c, 1))  (h : (pI1 st fun x r => k ls (.int (x.toUInt32.toUInt16.toUInt32.toInt32) :: r)) = some b) :
    ∃ ls' st', k ls' st' = some b ∧ ls'.length = ls.length ∧ ∀ t, Steps p.tables e below (T.setTop (mkF m (pc + 1) ls'.toArray st')) t → Steps p.tables e below (T.setTop (mkF m pc ls.toArray st)) t := by
  obtain ⟨x, r, rfl, h⟩ := pI1_ok h
  exact ⟨_, _, h, rfl, fun t q => XT.i2c X.here hx rfl hd rfl q⟩
theorem ok_i2s {β : Type} {z : Int32} {w : Int64} {k : List Slot → List Value → Option β} {b : β}  (hx : p.tables.exec = Jvm.exec) (X : Stand p l e R s m args below meth c T locs cells slots) (hd : decode c.code pc = .ok (.i2s, 1))  (h : (pI1 st fun x r => k ls (.int (x.toInt16.toInt32) :: r)) = some b) :
    ∃ ls' st', k ls' st' = some b ∧ ls'.length = ls.length ∧ ∀ t, Steps p.tables e below (T.setTop (mkF m (pc + 1) ls'.toArray st')) t → Steps p.tables e below (T.setTop (mkF m pc ls.toArray st)) t := by
  obtain ⟨x, r, rfl, h⟩ := pI1_ok h
  exact ⟨_, _, h, rfl, fun t q => XT.i2s X.here hx rfl hd rfl q⟩
theorem ok_dup {β : Type} {z : Int32} {w : Int64} {k : List Slot → List Value → Option β} {b : β}  (hx : p.tables.exec = Jvm.exec) (X : Stand p l e R s m args below meth c T locs cells slots) (hd : decode c.code pc = .ok (.dup, 1))  (h : (pW1 st fun x r => k ls (x :: x :: r)) = some b) :
    ∃ ls' st', k ls' st' = some b ∧ ls'.length = ls.length ∧ ∀ t, Steps p.tables e below (T.setTop (mkF m (pc + 1) ls'.toArray st')) t → Steps p.tables e below (T.setTop (mkF m pc ls.toArray st)) t := by
  obtain ⟨x, r, rfl, hc, h⟩ := pW1_ok h
  exact ⟨_, _, h, rfl, fun t q => XS.dup X.here hx rfl hd rfl hc q⟩
theorem ok_pop {β : Type} {z : Int32} {w : Int64} {k : List Slot → List Value → Option β} {b : β}  (hx : p.tables.exec = Jvm.exec) (X : Stand p l e R s m args below meth c T locs cells slots) (hd : decode c.code pc = .ok (.pop, 1))  (h : (pW1 st fun x r => k ls r) = some b) :
    ∃ ls' st', k ls' st' = some b ∧ ls'.length = ls.length ∧ ∀ t, Steps p.tables e below (T.setTop (mkF m (pc + 1) ls'.toArray st')) t → Steps p.tables e below (T.setTop (mkF m pc ls.toArray st)) t := by
  obtain ⟨x, r, rfl, hc, h⟩ := pW1_ok h
  exact ⟨_, _, h, rfl, fun t q => XT.pop X.here hx rfl hd rfl hc q⟩
theorem ok_dup_x1 {β : Type} {z : Int32} {w : Int64} {k : List Slot → List Value → Option β} {b : β}  (hx : p.tables.exec = Jvm.exec) (X : Stand p l e R s m args below meth c T locs cells slots) (hd : decode c.code pc = .ok (.dup_x1, 1))  (h : (pW2 st fun x y r => k ls (x :: y :: x :: r)) = some b) :
    ∃ ls' st', k ls' st' = some b ∧ ls'.length = ls.length ∧ ∀ t, Steps p.tables e below (T.setTop (mkF m (pc + 1) ls'.toArray st')) t → Steps p.tables e below (T.setTop (mkF m pc ls.toArray st)) t := by
  obtain ⟨x, y, r, rfl, hc, hc2, h⟩ := pW2_ok h
  exact ⟨_, _, h, rfl, fun t q => XT.dupX1 X.here hx rfl hd rfl hc hc2 q⟩
theorem ok_dup_x2 {β : Type} {z : Int32} {w : Int64} {k : List Slot → List Value → Option β} {b : β}  (hx : p.tables.exec = Jvm.exec) (X : Stand p l e R s m args below meth c T locs cells slots) (hd : decode c.code pc = .ok (.dup_x2, 1))  (h : (pW3 st fun x y z r => k ls (x :: y :: z :: x :: r)) = some b) :
    ∃ ls' st', k ls' st' = some b ∧ ls'.length = ls.length ∧ ∀ t, Steps p.tables e below (T.setTop (mkF m (pc + 1) ls'.toArray st')) t → Steps p.tables e below (T.setTop (mkF m pc ls.toArray st)) t := by
  obtain ⟨x, y, z, r, rfl, hc, hc2, hc3, h⟩ := pW3_ok h
  refine ⟨_, _, h, rfl, fun t q => ?_⟩
  jvm_step X.here [X.here.top, hx, hd, hc, hc2, hc3]
  exact q
theorem ok_dup2 {β : Type} {z : Int32} {w : Int64} {k : List Slot → List Value → Option β} {b : β}  (hx : p.tables.exec = Jvm.exec) (X : Stand p l e R s m args below meth c T locs cells slots) (hd : decode c.code pc = .ok (.dup2, 1))  (h : (pD st (fun x r => k ls (.long x :: .long x :: r)) fun x y r => k ls (x :: y :: x :: y :: r)) = some b) :
    ∃ ls' st', k ls' st' = some b ∧ ls'.length = ls.length ∧ ∀ t, Steps p.tables e below (T.setTop (mkF m (pc + 1) ls'.toArray st')) t → Steps p.tables e below (T.setTop (mkF m pc ls.toArray st)) t := by
  rcases pD_ok h with ⟨x, r, rfl, h⟩ | ⟨x, y, r, rfl, hc, hc2, h⟩
  · exact ⟨_, _, h, rfl, fun t q => XT.dup2L X.here hx rfl hd rfl q⟩
  · exact ⟨_, _, h, rfl, fun t q => XT.dup2 X.here hx rfl hd rfl hc hc2 q⟩
set_option maxHeartbeats 4000000 in
theorem ex_ok {β : Type} (K : Cx p s m args meth c Z y code ml ret cI cJ) (X : Stand p l e R s m args below meth c T locs cells slots) {i : Instr} {n : Nat} {z : Int32} {w : Int64} {k : List Slot → List Value → Option β} {b : β} (hd0 : decode code pc = .ok (i, ilen i)) (hn : nxtB pc i n = true) (hz0 : cst cI cJ z w i = true) (h : ex i z w ls st k = some b) :
    ∃ ls' st', k ls' st' = some b ∧ ls'.length = ls.length ∧ ∀ t, Steps p.tables e below (T.setTop (mkF m n ls'.toArray st')) t → Steps p.tables e below (T.setTop (mkF m pc ls.toArray st)) t := by
  obtain ⟨hx, hby, hml, hZ, hown, hnm, hret, hlk, hI, hJ⟩ := K
  have hd : decode c.code pc = .ok (i, ilen i) := hb hby hd0
  clear hd0
  cases i
  case iload_n j =>
    obtain rfl : pc + 1 = n := of_decide_eq_true hn
    exact ok_iload_n (z := z) (w := w) hx X hd  h
  case iload j =>
    obtain rfl : pc + 2 = n := of_decide_eq_true hn
    exact ok_iload (z := z) (w := w) hx X hd  h
  case lload_n j =>
    obtain rfl : pc + 1 = n := of_decide_eq_true hn
    exact ok_lload_n (z := z) (w := w) hx X hd  h
  case lload j =>
    obtain rfl : pc + 2 = n := of_decide_eq_true hn
    exact ok_lload (z := z) (w := w) hx X hd  h
  case aload_n j =>
    obtain rfl : pc + 1 = n := of_decide_eq_true hn
    exact ok_aload_n (z := z) (w := w) hx X hd  h
  case aload j =>
    obtain rfl : pc + 2 = n := of_decide_eq_true hn
    exact ok_aload (z := z) (w := w) hx X hd  h
  case istore_n j =>
    obtain rfl : pc + 1 = n := of_decide_eq_true hn
    exact ok_istore_n (z := z) (w := w) hx X hd  h
  case istore j =>
    obtain rfl : pc + 2 = n := of_decide_eq_true hn
    exact ok_istore (z := z) (w := w) hx X hd  h
  case astore_n j =>
    obtain rfl : pc + 1 = n := of_decide_eq_true hn
    exact ok_astore_n (z := z) (w := w) hx X hd  h
  case astore j =>
    obtain rfl : pc + 2 = n := of_decide_eq_true hn
    exact ok_astore (z := z) (w := w) hx X hd  h
  case lstore_n j =>
    obtain rfl : pc + 1 = n := of_decide_eq_true hn
    exact ok_lstore_n (z := z) (w := w) hx X hd  h
  case lstore j =>
    obtain rfl : pc + 2 = n := of_decide_eq_true hn
    exact ok_lstore (z := z) (w := w) hx X hd  h
  case iinc j cc =>
    obtain rfl : pc + 3 = n := of_decide_eq_true hn
    exact ok_iinc (z := z) (w := w) hx X hd (of_decide_eq_true hz0) h
  case iconst cc =>
    obtain rfl : pc + 1 = n := of_decide_eq_true hn
    exact ok_iconst (z := z) (w := w) hx X hd (of_decide_eq_true hz0) h
  case bipush cc =>
    obtain rfl : pc + 2 = n := of_decide_eq_true hn
    exact ok_bipush (z := z) (w := w) hx X hd (of_decide_eq_true hz0) h
  case sipush cc =>
    obtain rfl : pc + 3 = n := of_decide_eq_true hn
    exact ok_sipush (z := z) (w := w) hx X hd (of_decide_eq_true hz0) h
  case lconst cc =>
    obtain rfl : pc + 1 = n := of_decide_eq_true hn
    exact ok_lconst (z := z) (w := w) hx X hd (of_decide_eq_true hz0) h
  case ldc cc =>
    obtain rfl : pc + 2 = n := of_decide_eq_true hn
    exact ok_ldc (z := z) (w := w) hx X hd hown (hI _ (of_decide_eq_true hz0)) h
  case ldc2_w cc =>
    obtain rfl : pc + 3 = n := of_decide_eq_true hn
    exact ok_ldc2_w (z := z) (w := w) hx X hd hown (hJ _ (of_decide_eq_true hz0)) h
  case aconst_null  =>
    obtain rfl : pc + 1 = n := of_decide_eq_true hn
    exact ok_aconst_null (z := z) (w := w) hx X hd  h
  case iadd  =>
    obtain rfl : pc + 1 = n := of_decide_eq_true hn
    exact ok_iadd (z := z) (w := w) hx X hd  h
  case isub  =>
    obtain rfl : pc + 1 = n := of_decide_eq_true hn
    exact ok_isub (z := z) (w := w) hx X hd  h
  case imul  =>
    obtain rfl : pc + 1 = n := of_decide_eq_true hn
    exact ok_imul (z := z) (w := w) hx X hd  h
  case iand  =>
    obtain rfl : pc + 1 = n := of_decide_eq_true hn
    exact ok_iand (z := z) (w := w) hx X hd  h
  case ior  =>
    obtain rfl : pc + 1 = n := of_decide_eq_true hn
    exact ok_ior (z := z) (w := w) hx X hd  h
  case ixor  =>
    obtain rfl : pc + 1 = n := of_decide_eq_true hn
    exact ok_ixor (z := z) (w := w) hx X hd  h
  case ishl  =>
    obtain rfl : pc + 1 = n := of_decide_eq_true hn
    exact ok_ishl (z := z) (w := w) hx X hd  h
  case ishr  =>
    obtain rfl : pc + 1 = n := of_decide_eq_true hn
    exact ok_ishr (z := z) (w := w) hx X hd  h
  case iushr  =>
    obtain rfl : pc + 1 = n := of_decide_eq_true hn
    exact ok_iushr (z := z) (w := w) hx X hd  h
  case ladd  =>
    obtain rfl : pc + 1 = n := of_decide_eq_true hn
    exact ok_ladd (z := z) (w := w) hx X hd  h
  case lsub  =>
    obtain rfl : pc + 1 = n := of_decide_eq_true hn
    exact ok_lsub (z := z) (w := w) hx X hd  h
  case lmul  =>
    obtain rfl : pc + 1 = n := of_decide_eq_true hn
    exact ok_lmul (z := z) (w := w) hx X hd  h
  case land  =>
    obtain rfl : pc + 1 = n := of_decide_eq_true hn
    exact ok_land (z := z) (w := w) hx X hd  h
  case lor  =>
    obtain rfl : pc + 1 = n := of_decide_eq_true hn
    exact ok_lor (z := z) (w := w) hx X hd  h
  case lxor  =>
    obtain rfl : pc + 1 = n := of_decide_eq_true hn
    exact ok_lxor (z := z) (w := w) hx X hd  h
  case lshl  =>
    obtain rfl : pc + 1 = n := of_decide_eq_true hn
    exact ok_lshl (z := z) (w := w) hx X hd  h
  case lshr  =>
    obtain rfl : pc + 1 = n := of_decide_eq_true hn
    exact ok_lshr (z := z) (w := w) hx X hd  h
  case lushr  =>
    obtain rfl : pc + 1 = n := of_decide_eq_true hn
    exact ok_lushr (z := z) (w := w) hx X hd  h
  case lcmp  =>
    obtain rfl : pc + 1 = n := of_decide_eq_true hn
    exact ok_lcmp (z := z) (w := w) hx X hd  h
  case ineg  =>
    obtain rfl : pc + 1 = n := of_decide_eq_true hn
    exact ok_ineg (z := z) (w := w) hx X hd  h
  case lneg  =>
    obtain rfl : pc + 1 = n := of_decide_eq_true hn
    exact ok_lneg (z := z) (w := w) hx X hd  h
  case i2l  =>
    obtain rfl : pc + 1 = n := of_decide_eq_true hn
    exact ok_i2l (z := z) (w := w) hx X hd  h
  case l2i  =>
    obtain rfl : pc + 1 = n := of_decide_eq_true hn
    exact ok_l2i (z := z) (w := w) hx X hd  h
  case i2b  =>
    obtain rfl : pc + 1 = n := of_decide_eq_true hn
    exact ok_i2b (z := z) (w := w) hx X hd  h
  case i2c  =>
    obtain rfl : pc + 1 = n := of_decide_eq_true hn
    exact ok_i2c (z := z) (w := w) hx X hd  h
  case i2s  =>
    obtain rfl : pc + 1 = n := of_decide_eq_true hn
    exact ok_i2s (z := z) (w := w) hx X hd  h
  case dup  =>
    obtain rfl : pc + 1 = n := of_decide_eq_true hn
    exact ok_dup (z := z) (w := w) hx X hd  h
  case pop  =>
    obtain rfl : pc + 1 = n := of_decide_eq_true hn
    exact ok_pop (z := z) (w := w) hx X hd  h
  case dup_x1  =>
    obtain rfl : pc + 1 = n := of_decide_eq_true hn
    exact ok_dup_x1 (z := z) (w := w) hx X hd  h
  case dup_x2  =>
    obtain rfl : pc + 1 = n := of_decide_eq_true hn
    exact ok_dup_x2 (z := z) (w := w) hx X hd  h
  case dup2  =>
    obtain rfl : pc + 1 = n := of_decide_eq_true hn
    exact ok_dup2 (z := z) (w := w) hx X hd  h
  case goto o =>
    obtain ⟨hn1, hn2⟩ := Bool.and_eq_true_iff.mp hn
    exact ⟨_, _, h, rfl, fun t q => XS.goto X.here hx rfl rfl hd (of_decide_eq_true hn1) (of_decide_eq_true hn2) q⟩
  all_goals exact nomatch (show (none : Option β) = some b from h)
theorem go_ok (K : Cx p s m args meth c Z y code ml ret cI cJ) : ∀ (rows : List Row) (pc : Nat) (ls : List Slot) (st : List Value) {pc' : Nat} {ls' : List Slot} {st' : List Value}, rows.all (rowOk code cI cJ) = true → go rows pc ls st = some (pc', ls', st') →
    WP p l e R s m args below meth c n0 Q h cells slots pc' ls' st' → WP p l e R s m args below meth c n0 Q h cells slots pc ls st
  | [], pc, ls, st, pc', ls', st', _, hg, W => by cases hg; exact W
  | (q, i, n, z, w) :: r, pc, ls, st, pc', ls', st', hr, hg, W => by
    intro T locs X e0 N0 Z0
    rw [List.all_cons, Bool.and_eq_true] at hr
    obtain ⟨hr1, hr2⟩ := hr
    have hr1' : (decide (decode code q = .ok (i, ilen i)) && nxtB q i n && cst cI cJ z w i) = true := hr1
    rw [Bool.and_eq_true, Bool.and_eq_true] at hr1'
    have hg' : (bif Nat.beq q pc then ex i z w ls st (fun ls' st' => go r n ls' st') else none) = some (pc', ls', st') := hg
    cases hq : Nat.beq q pc with
    | false => rw [hq] at hg'; cases hg'
    | true =>
      rw [hq] at hg'
      obtain rfl := Nat.eq_of_beq_eq_true hq
      obtain ⟨l1, s1, k1, -, k3⟩ := ex_ok K X (of_decide_eq_true hr1'.1.1) hr1'.1.2 hr1'.2 (show ex i z w ls st (fun ls' st' => go r n ls' st') = some (pc', ls', st') from hg')
      obtain ⟨t, o, g1, g2⟩ := go_ok K r n l1 s1 hr2 k1 W T locs X e0 N0 Z0
      exact ⟨t, o, k3 _ g1, g2⟩
theorem WP.step {cells' slots' pc' : Nat} {ls' : List Slot} {st' : List Value} {h' : Heap} (H : ∀ T locs, Stand p l e R s m args below meth c T locs cells slots → T.heap = h → Fr n0 locs → n0 ≤ h.size → ∃ T' locs', Stand p l e R s m args below meth c T' locs' cells' slots' ∧ T'.heap = h' ∧ Fr n0 locs' ∧ n0 ≤ h'.size ∧ ∀ t, Steps p.tables e below (T'.setTop (mkF m pc' ls'.toArray st')) t → Steps p.tables e below (T.setTop (mkF m pc ls.toArray st)) t)
    (W : WP p l e R s m args below meth c n0 Q h' cells' slots' pc' ls' st') : WP p l e R s m args below meth c n0 Q h cells slots pc ls st := by
  intro T locs X e0 N0 Z0
  obtain ⟨T', locs', X', e', N', Z', k⟩ := H T locs X e0 N0 Z0
  obtain ⟨t, o, g1, g2⟩ := W T' locs' X' e' N' Z'
  exact ⟨t, o, k _ g1, g2⟩
/-- more cells counted than made -/
theorem WP.more {cells' slots' : Nat} (hc : cells ≤ cells') (hs : slots ≤ slots') (W : WP p l e R s m args below meth c n0 Q h cells' slots' pc ls st) : WP p l e R s m args below meth c n0 Q h cells slots pc ls st :=
  WP.step (fun T locs X e0 N0 Z0 => ⟨T, locs, X.more hc hs, e0, N0, Z0, fun _ k => k⟩) W
/-- a plain step that leaves the state -/
theorem WP.plain {pc' : Nat} {ls' : List Slot} {st' : List Value} (H : ∀ T locs, Stand p l e R s m args below meth c T locs cells slots → T.heap = h → ∀ t, Steps p.tables e below (T.setTop (mkF m pc' ls'.toArray st')) t → Steps p.tables e below (T.setTop (mkF m pc ls.toArray st)) t)
    (W : WP p l e R s m args below meth c n0 Q h cells slots pc' ls' st') : WP p l e R s m args below meth c n0 Q h cells slots pc ls st :=
  WP.step (fun T locs X e0 N0 Z0 => ⟨T, locs, X, e0, N0, Z0, H T locs X e0⟩) W
/-! ## branches -/
theorem icmp {cd : ClassFile.Cond} {o : Int} {x y' : Int32} {pc' pn : Nat} {A B : Prop} (K : Cx p s m args meth c Z y code ml ret cI cJ) (hd : decode code pc = .ok (.if_icmp cd o, 3)) (ho : 0 ≤ (pc : Int) + o) (hp : ((pc : Int) + o).toNat = pc') (hn : pc + 3 = pn) (hA : if_icmp.holds cd x y' = true → A) (hB : if_icmp.holds cd x y' = false → B)
    (W1 : A → WP p l e R s m args below meth c n0 Q h cells slots pc' ls st) (W2 : B → WP p l e R s m args below meth c n0 Q h cells slots pn ls st) : WP p l e R s m args below meth c n0 Q h cells slots pc ls (.int y' :: .int x :: st) := by
  subst hn
  cases hc : if_icmp.holds cd x y' with
  | true => exact WP.plain (fun T locs X _ t k => XS.icmpYes X.here K.1 rfl rfl (hb K.2.1 hd) rfl hc ho hp k) (W1 (hA hc))
  | false => exact WP.plain (fun T locs X _ t k => XS.icmpNo X.here K.1 rfl (hb K.2.1 hd) rfl hc k) (W2 (hB hc))
theorem ifc {cd : ClassFile.Cond} {o : Int} {x : Int32} {pc' pn : Nat} {A B : Prop} (K : Cx p s m args meth c Z y code ml ret cI cJ) (hd : decode code pc = .ok (.ifCond cd o, 3)) (ho : 0 ≤ (pc : Int) + o) (hp : ((pc : Int) + o).toNat = pc') (hn : pc + 3 = pn) (hA : ifCond.holds cd x = true → A) (hB : ifCond.holds cd x = false → B)
    (W1 : A → WP p l e R s m args below meth c n0 Q h cells slots pc' ls st) (W2 : B → WP p l e R s m args below meth c n0 Q h cells slots pn ls st) : WP p l e R s m args below meth c n0 Q h cells slots pc ls (.int x :: st) := by
  subst hn
  cases hc : ifCond.holds cd x with
  | true => exact WP.plain (fun T locs X _ t k => XS.ifYes X.here K.1 rfl rfl (hb K.2.1 hd) rfl hc ho hp k) (W1 (hA hc))
  | false => exact WP.plain (fun T locs X _ t k => XS.ifNo X.here K.1 rfl (hb K.2.1 hd) rfl hc k) (W2 (hB hc))
theorem hi_eq_t {x y : Int32} (q : if_icmp.holds .eq x y = true) : x = y := by
  by_cases hh : x = y
  · exact hh
  · exact absurd q (by rw [XT.ii_eq_f hh]; exact Bool.false_ne_true)
theorem hi_eq_f {x y : Int32} (q : if_icmp.holds .eq x y = false) : ¬ x = y := by
  by_cases hh : ¬ x = y
  · exact hh
  · exact absurd q (by rw [XT.ii_eq_t (Decidable.not_not.mp hh)]; exact Bool.noConfusion)
theorem icmp_eq {o : Int} {x y' : Int32} {pc' pn : Nat} (K : Cx p s m args meth c Z y code ml ret cI cJ) (hd : decode code pc = .ok (.if_icmp .eq o, 3)) (ho : 0 ≤ (pc : Int) + o) (hp : ((pc : Int) + o).toNat = pc') (hn : pc + 3 = pn)
    (W1 : x = y' → WP p l e R s m args below meth c n0 Q h cells slots pc' ls st) (W2 : ¬ x = y' → WP p l e R s m args below meth c n0 Q h cells slots pn ls st) : WP p l e R s m args below meth c n0 Q h cells slots pc ls (.int y' :: .int x :: st) := icmp K hd ho hp hn hi_eq_t hi_eq_f W1 W2
theorem hi_ne_t {x y : Int32} (q : if_icmp.holds .ne x y = true) : ¬ x = y := by
  by_cases hh : ¬ x = y
  · exact hh
  · exact absurd q (by rw [XT.ii_ne_f (Decidable.not_not.mp hh)]; exact Bool.false_ne_true)
theorem hi_ne_f {x y : Int32} (q : if_icmp.holds .ne x y = false) : x = y := by
  by_cases hh : x = y
  · exact hh
  · exact absurd q (by rw [XT.ii_ne_t hh]; exact Bool.noConfusion)
theorem icmp_ne {o : Int} {x y' : Int32} {pc' pn : Nat} (K : Cx p s m args meth c Z y code ml ret cI cJ) (hd : decode code pc = .ok (.if_icmp .ne o, 3)) (ho : 0 ≤ (pc : Int) + o) (hp : ((pc : Int) + o).toNat = pc') (hn : pc + 3 = pn)
    (W1 : ¬ x = y' → WP p l e R s m args below meth c n0 Q h cells slots pc' ls st) (W2 : x = y' → WP p l e R s m args below meth c n0 Q h cells slots pn ls st) : WP p l e R s m args below meth c n0 Q h cells slots pc ls (.int y' :: .int x :: st) := icmp K hd ho hp hn hi_ne_t hi_ne_f W1 W2
theorem hi_lt_t {x y : Int32} (q : if_icmp.holds .lt x y = true) : x < y := by
  by_cases hh : x < y
  · exact hh
  · exact absurd q (by rw [XT.ii_lt_f hh]; exact Bool.false_ne_true)
theorem hi_lt_f {x y : Int32} (q : if_icmp.holds .lt x y = false) : ¬ x < y := by
  by_cases hh : ¬ x < y
  · exact hh
  · exact absurd q (by rw [XT.ii_lt_t (Decidable.not_not.mp hh)]; exact Bool.noConfusion)
theorem icmp_lt {o : Int} {x y' : Int32} {pc' pn : Nat} (K : Cx p s m args meth c Z y code ml ret cI cJ) (hd : decode code pc = .ok (.if_icmp .lt o, 3)) (ho : 0 ≤ (pc : Int) + o) (hp : ((pc : Int) + o).toNat = pc') (hn : pc + 3 = pn)
    (W1 : x < y' → WP p l e R s m args below meth c n0 Q h cells slots pc' ls st) (W2 : ¬ x < y' → WP p l e R s m args below meth c n0 Q h cells slots pn ls st) : WP p l e R s m args below meth c n0 Q h cells slots pc ls (.int y' :: .int x :: st) := icmp K hd ho hp hn hi_lt_t hi_lt_f W1 W2
theorem hi_ge_t {x y : Int32} (q : if_icmp.holds .ge x y = true) : ¬ x < y := by
  by_cases hh : ¬ x < y
  · exact hh
  · exact absurd q (by rw [XT.ii_ge_f (Decidable.not_not.mp hh)]; exact Bool.false_ne_true)
theorem hi_ge_f {x y : Int32} (q : if_icmp.holds .ge x y = false) : x < y := by
  by_cases hh : x < y
  · exact hh
  · exact absurd q (by rw [XT.ii_ge_t hh]; exact Bool.noConfusion)
theorem icmp_ge {o : Int} {x y' : Int32} {pc' pn : Nat} (K : Cx p s m args meth c Z y code ml ret cI cJ) (hd : decode code pc = .ok (.if_icmp .ge o, 3)) (ho : 0 ≤ (pc : Int) + o) (hp : ((pc : Int) + o).toNat = pc') (hn : pc + 3 = pn)
    (W1 : ¬ x < y' → WP p l e R s m args below meth c n0 Q h cells slots pc' ls st) (W2 : x < y' → WP p l e R s m args below meth c n0 Q h cells slots pn ls st) : WP p l e R s m args below meth c n0 Q h cells slots pc ls (.int y' :: .int x :: st) := icmp K hd ho hp hn hi_ge_t hi_ge_f W1 W2
theorem hi_gt_t {x y : Int32} (q : if_icmp.holds .gt x y = true) : y < x := by
  by_cases hh : y < x
  · exact hh
  · exact absurd q (by rw [XT.ii_gt_f hh]; exact Bool.false_ne_true)
theorem hi_gt_f {x y : Int32} (q : if_icmp.holds .gt x y = false) : ¬ y < x := by
  by_cases hh : ¬ y < x
  · exact hh
  · exact absurd q (by rw [XT.ii_gt_t (Decidable.not_not.mp hh)]; exact Bool.noConfusion)
theorem icmp_gt {o : Int} {x y' : Int32} {pc' pn : Nat} (K : Cx p s m args meth c Z y code ml ret cI cJ) (hd : decode code pc = .ok (.if_icmp .gt o, 3)) (ho : 0 ≤ (pc : Int) + o) (hp : ((pc : Int) + o).toNat = pc') (hn : pc + 3 = pn)
    (W1 : y' < x → WP p l e R s m args below meth c n0 Q h cells slots pc' ls st) (W2 : ¬ y' < x → WP p l e R s m args below meth c n0 Q h cells slots pn ls st) : WP p l e R s m args below meth c n0 Q h cells slots pc ls (.int y' :: .int x :: st) := icmp K hd ho hp hn hi_gt_t hi_gt_f W1 W2
theorem hi_le_t {x y : Int32} (q : if_icmp.holds .le x y = true) : ¬ y < x := by
  by_cases hh : ¬ y < x
  · exact hh
  · exact absurd q (by rw [XT.ii_le_f (Decidable.not_not.mp hh)]; exact Bool.false_ne_true)
theorem hi_le_f {x y : Int32} (q : if_icmp.holds .le x y = false) : y < x := by
  by_cases hh : y < x
  · exact hh
  · exact absurd q (by rw [XT.ii_le_t hh]; exact Bool.noConfusion)
theorem icmp_le {o : Int} {x y' : Int32} {pc' pn : Nat} (K : Cx p s m args meth c Z y code ml ret cI cJ) (hd : decode code pc = .ok (.if_icmp .le o, 3)) (ho : 0 ≤ (pc : Int) + o) (hp : ((pc : Int) + o).toNat = pc') (hn : pc + 3 = pn)
    (W1 : ¬ y' < x → WP p l e R s m args below meth c n0 Q h cells slots pc' ls st) (W2 : y' < x → WP p l e R s m args below meth c n0 Q h cells slots pn ls st) : WP p l e R s m args below meth c n0 Q h cells slots pc ls (.int y' :: .int x :: st) := icmp K hd ho hp hn hi_le_t hi_le_f W1 W2
theorem hz_eq_t {x : Int32} (q : ifCond.holds .eq x = true) : x = 0 := hi_eq_t (y := 0) ((if0 _ _).symm.trans q)
theorem hz_eq_f {x : Int32} (q : ifCond.holds .eq x = false) : ¬ x = 0 := hi_eq_f (y := 0) ((if0 _ _).symm.trans q)
theorem ifc_eq {o : Int} {x : Int32} {pc' pn : Nat} (K : Cx p s m args meth c Z y code ml ret cI cJ) (hd : decode code pc = .ok (.ifCond .eq o, 3)) (ho : 0 ≤ (pc : Int) + o) (hp : ((pc : Int) + o).toNat = pc') (hn : pc + 3 = pn)
    (W1 : x = 0 → WP p l e R s m args below meth c n0 Q h cells slots pc' ls st) (W2 : ¬ x = 0 → WP p l e R s m args below meth c n0 Q h cells slots pn ls st) : WP p l e R s m args below meth c n0 Q h cells slots pc ls (.int x :: st) := ifc K hd ho hp hn hz_eq_t hz_eq_f W1 W2
theorem hl_eq_t {x y : Int64} (q : ifCond.holds .eq (XT.cmpL x y) = true) : x = y := by
  by_cases hh : x = y
  · exact hh
  · exact absurd q (by rw [XT.ll_eq_f hh]; exact Bool.false_ne_true)
theorem hl_eq_f {x y : Int64} (q : ifCond.holds .eq (XT.cmpL x y) = false) : ¬ x = y := by
  by_cases hh : ¬ x = y
  · exact hh
  · exact absurd q (by rw [XT.ll_eq_t (Decidable.not_not.mp hh)]; exact Bool.noConfusion)
theorem lc_eq {o : Int} {x y' : Int64} {pc' pn : Nat} (K : Cx p s m args meth c Z y code ml ret cI cJ) (hd : decode code pc = .ok (.ifCond .eq o, 3)) (ho : 0 ≤ (pc : Int) + o) (hp : ((pc : Int) + o).toNat = pc') (hn : pc + 3 = pn)
    (W1 : x = y' → WP p l e R s m args below meth c n0 Q h cells slots pc' ls st) (W2 : ¬ x = y' → WP p l e R s m args below meth c n0 Q h cells slots pn ls st) : WP p l e R s m args below meth c n0 Q h cells slots pc ls (.int (XT.cmpL x y') :: st) := ifc K hd ho hp hn hl_eq_t hl_eq_f W1 W2
theorem hz_ne_t {x : Int32} (q : ifCond.holds .ne x = true) : ¬ x = 0 := hi_ne_t (y := 0) ((if0 _ _).symm.trans q)
theorem hz_ne_f {x : Int32} (q : ifCond.holds .ne x = false) : x = 0 := hi_ne_f (y := 0) ((if0 _ _).symm.trans q)
theorem ifc_ne {o : Int} {x : Int32} {pc' pn : Nat} (K : Cx p s m args meth c Z y code ml ret cI cJ) (hd : decode code pc = .ok (.ifCond .ne o, 3)) (ho : 0 ≤ (pc : Int) + o) (hp : ((pc : Int) + o).toNat = pc') (hn : pc + 3 = pn)
    (W1 : ¬ x = 0 → WP p l e R s m args below meth c n0 Q h cells slots pc' ls st) (W2 : x = 0 → WP p l e R s m args below meth c n0 Q h cells slots pn ls st) : WP p l e R s m args below meth c n0 Q h cells slots pc ls (.int x :: st) := ifc K hd ho hp hn hz_ne_t hz_ne_f W1 W2
theorem hl_ne_t {x y : Int64} (q : ifCond.holds .ne (XT.cmpL x y) = true) : ¬ x = y := by
  by_cases hh : ¬ x = y
  · exact hh
  · exact absurd q (by rw [XT.ll_ne_f (Decidable.not_not.mp hh)]; exact Bool.false_ne_true)
theorem hl_ne_f {x y : Int64} (q : ifCond.holds .ne (XT.cmpL x y) = false) : x = y := by
  by_cases hh : x = y
  · exact hh
  · exact absurd q (by rw [XT.ll_ne_t hh]; exact Bool.noConfusion)
theorem lc_ne {o : Int} {x y' : Int64} {pc' pn : Nat} (K : Cx p s m args meth c Z y code ml ret cI cJ) (hd : decode code pc = .ok (.ifCond .ne o, 3)) (ho : 0 ≤ (pc : Int) + o) (hp : ((pc : Int) + o).toNat = pc') (hn : pc + 3 = pn)
    (W1 : ¬ x = y' → WP p l e R s m args below meth c n0 Q h cells slots pc' ls st) (W2 : x = y' → WP p l e R s m args below meth c n0 Q h cells slots pn ls st) : WP p l e R s m args below meth c n0 Q h cells slots pc ls (.int (XT.cmpL x y') :: st) := ifc K hd ho hp hn hl_ne_t hl_ne_f W1 W2
theorem hz_lt_t {x : Int32} (q : ifCond.holds .lt x = true) : x < 0 := hi_lt_t (y := 0) ((if0 _ _).symm.trans q)
theorem hz_lt_f {x : Int32} (q : ifCond.holds .lt x = false) : ¬ x < 0 := hi_lt_f (y := 0) ((if0 _ _).symm.trans q)
theorem ifc_lt {o : Int} {x : Int32} {pc' pn : Nat} (K : Cx p s m args meth c Z y code ml ret cI cJ) (hd : decode code pc = .ok (.ifCond .lt o, 3)) (ho : 0 ≤ (pc : Int) + o) (hp : ((pc : Int) + o).toNat = pc') (hn : pc + 3 = pn)
    (W1 : x < 0 → WP p l e R s m args below meth c n0 Q h cells slots pc' ls st) (W2 : ¬ x < 0 → WP p l e R s m args below meth c n0 Q h cells slots pn ls st) : WP p l e R s m args below meth c n0 Q h cells slots pc ls (.int x :: st) := ifc K hd ho hp hn hz_lt_t hz_lt_f W1 W2
theorem hl_lt_t {x y : Int64} (q : ifCond.holds .lt (XT.cmpL x y) = true) : x < y := by
  by_cases hh : x < y
  · exact hh
  · exact absurd q (by rw [XT.ll_lt_f hh]; exact Bool.false_ne_true)
theorem hl_lt_f {x y : Int64} (q : ifCond.holds .lt (XT.cmpL x y) = false) : ¬ x < y := by
  by_cases hh : ¬ x < y
  · exact hh
  · exact absurd q (by rw [XT.ll_lt_t (Decidable.not_not.mp hh)]; exact Bool.noConfusion)
theorem lc_lt {o : Int} {x y' : Int64} {pc' pn : Nat} (K : Cx p s m args meth c Z y code ml ret cI cJ) (hd : decode code pc = .ok (.ifCond .lt o, 3)) (ho : 0 ≤ (pc : Int) + o) (hp : ((pc : Int) + o).toNat = pc') (hn : pc + 3 = pn)
    (W1 : x < y' → WP p l e R s m args below meth c n0 Q h cells slots pc' ls st) (W2 : ¬ x < y' → WP p l e R s m args below meth c n0 Q h cells slots pn ls st) : WP p l e R s m args below meth c n0 Q h cells slots pc ls (.int (XT.cmpL x y') :: st) := ifc K hd ho hp hn hl_lt_t hl_lt_f W1 W2
theorem hz_ge_t {x : Int32} (q : ifCond.holds .ge x = true) : ¬ x < 0 := hi_ge_t (y := 0) ((if0 _ _).symm.trans q)
theorem hz_ge_f {x : Int32} (q : ifCond.holds .ge x = false) : x < 0 := hi_ge_f (y := 0) ((if0 _ _).symm.trans q)
theorem ifc_ge {o : Int} {x : Int32} {pc' pn : Nat} (K : Cx p s m args meth c Z y code ml ret cI cJ) (hd : decode code pc = .ok (.ifCond .ge o, 3)) (ho : 0 ≤ (pc : Int) + o) (hp : ((pc : Int) + o).toNat = pc') (hn : pc + 3 = pn)
    (W1 : ¬ x < 0 → WP p l e R s m args below meth c n0 Q h cells slots pc' ls st) (W2 : x < 0 → WP p l e R s m args below meth c n0 Q h cells slots pn ls st) : WP p l e R s m args below meth c n0 Q h cells slots pc ls (.int x :: st) := ifc K hd ho hp hn hz_ge_t hz_ge_f W1 W2
theorem hl_ge_t {x y : Int64} (q : ifCond.holds .ge (XT.cmpL x y) = true) : ¬ x < y := by
  by_cases hh : ¬ x < y
  · exact hh
  · exact absurd q (by rw [XT.ll_ge_f (Decidable.not_not.mp hh)]; exact Bool.false_ne_true)
theorem hl_ge_f {x y : Int64} (q : ifCond.holds .ge (XT.cmpL x y) = false) : x < y := by
  by_cases hh : x < y
  · exact hh
  · exact absurd q (by rw [XT.ll_ge_t hh]; exact Bool.noConfusion)
theorem lc_ge {o : Int} {x y' : Int64} {pc' pn : Nat} (K : Cx p s m args meth c Z y code ml ret cI cJ) (hd : decode code pc = .ok (.ifCond .ge o, 3)) (ho : 0 ≤ (pc : Int) + o) (hp : ((pc : Int) + o).toNat = pc') (hn : pc + 3 = pn)
    (W1 : ¬ x < y' → WP p l e R s m args below meth c n0 Q h cells slots pc' ls st) (W2 : x < y' → WP p l e R s m args below meth c n0 Q h cells slots pn ls st) : WP p l e R s m args below meth c n0 Q h cells slots pc ls (.int (XT.cmpL x y') :: st) := ifc K hd ho hp hn hl_ge_t hl_ge_f W1 W2
theorem hz_gt_t {x : Int32} (q : ifCond.holds .gt x = true) : 0 < x := hi_gt_t (y := 0) ((if0 _ _).symm.trans q)
theorem hz_gt_f {x : Int32} (q : ifCond.holds .gt x = false) : ¬ 0 < x := hi_gt_f (y := 0) ((if0 _ _).symm.trans q)
theorem ifc_gt {o : Int} {x : Int32} {pc' pn : Nat} (K : Cx p s m args meth c Z y code ml ret cI cJ) (hd : decode code pc = .ok (.ifCond .gt o, 3)) (ho : 0 ≤ (pc : Int) + o) (hp : ((pc : Int) + o).toNat = pc') (hn : pc + 3 = pn)
    (W1 : 0 < x → WP p l e R s m args below meth c n0 Q h cells slots pc' ls st) (W2 : ¬ 0 < x → WP p l e R s m args below meth c n0 Q h cells slots pn ls st) : WP p l e R s m args below meth c n0 Q h cells slots pc ls (.int x :: st) := ifc K hd ho hp hn hz_gt_t hz_gt_f W1 W2
theorem hl_gt_t {x y : Int64} (q : ifCond.holds .gt (XT.cmpL x y) = true) : y < x := by
  by_cases hh : y < x
  · exact hh
  · exact absurd q (by rw [XT.ll_gt_f hh]; exact Bool.false_ne_true)
theorem hl_gt_f {x y : Int64} (q : ifCond.holds .gt (XT.cmpL x y) = false) : ¬ y < x := by
  by_cases hh : ¬ y < x
  · exact hh
  · exact absurd q (by rw [XT.ll_gt_t (Decidable.not_not.mp hh)]; exact Bool.noConfusion)
theorem lc_gt {o : Int} {x y' : Int64} {pc' pn : Nat} (K : Cx p s m args meth c Z y code ml ret cI cJ) (hd : decode code pc = .ok (.ifCond .gt o, 3)) (ho : 0 ≤ (pc : Int) + o) (hp : ((pc : Int) + o).toNat = pc') (hn : pc + 3 = pn)
    (W1 : y' < x → WP p l e R s m args below meth c n0 Q h cells slots pc' ls st) (W2 : ¬ y' < x → WP p l e R s m args below meth c n0 Q h cells slots pn ls st) : WP p l e R s m args below meth c n0 Q h cells slots pc ls (.int (XT.cmpL x y') :: st) := ifc K hd ho hp hn hl_gt_t hl_gt_f W1 W2
theorem hz_le_t {x : Int32} (q : ifCond.holds .le x = true) : ¬ 0 < x := hi_le_t (y := 0) ((if0 _ _).symm.trans q)
theorem hz_le_f {x : Int32} (q : ifCond.holds .le x = false) : 0 < x := hi_le_f (y := 0) ((if0 _ _).symm.trans q)
theorem ifc_le {o : Int} {x : Int32} {pc' pn : Nat} (K : Cx p s m args meth c Z y code ml ret cI cJ) (hd : decode code pc = .ok (.ifCond .le o, 3)) (ho : 0 ≤ (pc : Int) + o) (hp : ((pc : Int) + o).toNat = pc') (hn : pc + 3 = pn)
    (W1 : ¬ 0 < x → WP p l e R s m args below meth c n0 Q h cells slots pc' ls st) (W2 : 0 < x → WP p l e R s m args below meth c n0 Q h cells slots pn ls st) : WP p l e R s m args below meth c n0 Q h cells slots pc ls (.int x :: st) := ifc K hd ho hp hn hz_le_t hz_le_f W1 W2
theorem hl_le_t {x y : Int64} (q : ifCond.holds .le (XT.cmpL x y) = true) : ¬ y < x := by
  by_cases hh : ¬ y < x
  · exact hh
  · exact absurd q (by rw [XT.ll_le_f (Decidable.not_not.mp hh)]; exact Bool.false_ne_true)
theorem hl_le_f {x y : Int64} (q : ifCond.holds .le (XT.cmpL x y) = false) : y < x := by
  by_cases hh : y < x
  · exact hh
  · exact absurd q (by rw [XT.ll_le_t hh]; exact Bool.noConfusion)
theorem lc_le {o : Int} {x y' : Int64} {pc' pn : Nat} (K : Cx p s m args meth c Z y code ml ret cI cJ) (hd : decode code pc = .ok (.ifCond .le o, 3)) (ho : 0 ≤ (pc : Int) + o) (hp : ((pc : Int) + o).toNat = pc') (hn : pc + 3 = pn)
    (W1 : ¬ y' < x → WP p l e R s m args below meth c n0 Q h cells slots pc' ls st) (W2 : y' < x → WP p l e R s m args below meth c n0 Q h cells slots pn ls st) : WP p l e R s m args below meth c n0 Q h cells slots pc ls (.int (XT.cmpL x y') :: st) := ifc K hd ho hp hn hl_le_t hl_le_f W1 W2
theorem nul {o : Int} {v : Value} {pc' pn : Nat} (K : Cx p s m args meth c Z y code ml ret cI cJ) (hd : decode code pc = .ok (.ifnull o, 3)) (hv : v.isRef = true) (ho : 0 ≤ (pc : Int) + o) (hp : ((pc : Int) + o).toNat = pc') (hn : pc + 3 = pn)
    (W1 : v = .null → WP p l e R s m args below meth c n0 Q h cells slots pc' ls st) (W2 : ¬ v = .null → WP p l e R s m args below meth c n0 Q h cells slots pn ls st) : WP p l e R s m args below meth c n0 Q h cells slots pc ls (v :: st) := by
  subst hn
  by_cases hc : v = .null
  · exact WP.plain (fun T locs X _ t k => XT.nullYes X.here K.1 rfl rfl (hb K.2.1 hd) rfl hc ho hp k) (W1 hc)
  · exact WP.plain (fun T locs X _ t k => XT.nullNo X.here K.1 rfl (hb K.2.1 hd) rfl hv hc k) (W2 hc)
theorem nonnul {o : Int} {v : Value} {pc' pn : Nat} (K : Cx p s m args meth c Z y code ml ret cI cJ) (hd : decode code pc = .ok (.ifnonnull o, 3)) (hv : v.isRef = true) (ho : 0 ≤ (pc : Int) + o) (hp : ((pc : Int) + o).toNat = pc') (hn : pc + 3 = pn)
    (W1 : ¬ v = .null → WP p l e R s m args below meth c n0 Q h cells slots pc' ls st) (W2 : v = .null → WP p l e R s m args below meth c n0 Q h cells slots pn ls st) : WP p l e R s m args below meth c n0 Q h cells slots pc ls (v :: st) := by
  subst hn
  by_cases hc : v = .null
  · exact WP.plain (fun T locs X _ t k => XT.nonnullNo X.here K.1 rfl (hb K.2.1 hd) rfl hc k) (W2 hc)
  · exact WP.plain (fun T locs X _ t k => XT.nonnullYes X.here K.1 rfl rfl (hb K.2.1 hd) rfl hv hc ho hp k) (W1 hc)
theorem acmp_eq {o : Int} {v v' : Value} {pc' pn : Nat} (K : Cx p s m args meth c Z y code ml ret cI cJ) (hd : decode code pc = .ok (.if_acmp .eq o, 3)) (hv : v.isRef = true) (hv' : v'.isRef = true) (ho : 0 ≤ (pc : Int) + o) (hp : ((pc : Int) + o).toNat = pc') (hn : pc + 3 = pn)
    (W1 : v = v' → WP p l e R s m args below meth c n0 Q h cells slots pc' ls st) (W2 : ¬ v = v' → WP p l e R s m args below meth c n0 Q h cells slots pn ls st) : WP p l e R s m args below meth c n0 Q h cells slots pc ls (v' :: v :: st) := by
  subst hn
  by_cases hc : v = v'
  · exact WP.plain (fun T locs X _ t k => XT.acmpYes X.here K.1 rfl rfl (hb K.2.1 hd) rfl hv hv' (XT.aa_eq_t hc) ho hp k) (W1 hc)
  · exact WP.plain (fun T locs X _ t k => XT.acmpNo X.here K.1 rfl (hb K.2.1 hd) rfl hv hv' (XT.aa_eq_f hc) k) (W2 hc)
theorem acmp_ne {o : Int} {v v' : Value} {pc' pn : Nat} (K : Cx p s m args meth c Z y code ml ret cI cJ) (hd : decode code pc = .ok (.if_acmp .ne o, 3)) (hv : v.isRef = true) (hv' : v'.isRef = true) (ho : 0 ≤ (pc : Int) + o) (hp : ((pc : Int) + o).toNat = pc') (hn : pc + 3 = pn)
    (W1 : ¬ v = v' → WP p l e R s m args below meth c n0 Q h cells slots pc' ls st) (W2 : v = v' → WP p l e R s m args below meth c n0 Q h cells slots pn ls st) : WP p l e R s m args below meth c n0 Q h cells slots pc ls (v' :: v :: st) := by
  subst hn
  by_cases hc : v = v'
  · exact WP.plain (fun T locs X _ t k => XT.acmpNo X.here K.1 rfl (hb K.2.1 hd) rfl hv hv' (XT.aa_ne_f hc) k) (W2 hc)
  · exact WP.plain (fun T locs X _ t k => XT.acmpYes X.here K.1 rfl rfl (hb K.2.1 hd) rfl hv hv' (XT.aa_ne_t hc) ho hp k) (W1 hc)
/-! ## quotients and remainders -/
theorem o_irem {a b : Int32} {pn : Nat} (K : Cx p s m args meth c Z y code ml ret cI cJ) (hd : decode code pc = .ok (.irem, 1)) (hn : pc + 1 = pn) (hy : b ≠ 0) (W : WP p l e R s m args below meth c n0 Q h cells slots pn ls (.int (a % b) :: st)) : WP p l e R s m args below meth c n0 Q h cells slots pc ls (.int b :: .int a :: st) := by
  subst hn; exact WP.plain (fun T locs X _ t k => iremM X K.1 rfl (hb K.2.1 hd) rfl hy k) W
theorem o_idiv {a b : Int32} {pn : Nat} (K : Cx p s m args meth c Z y code ml ret cI cJ) (hd : decode code pc = .ok (.idiv, 1)) (hn : pc + 1 = pn) (hy : b ≠ 0) (W : WP p l e R s m args below meth c n0 Q h cells slots pn ls (.int (a / b) :: st)) : WP p l e R s m args below meth c n0 Q h cells slots pc ls (.int b :: .int a :: st) := by
  subst hn; exact WP.plain (fun T locs X _ t k => XS.idiv X.here K.1 rfl (hb K.2.1 hd) rfl hy k) W
theorem o_lrem {a b : Int64} {pn : Nat} (K : Cx p s m args meth c Z y code ml ret cI cJ) (hd : decode code pc = .ok (.lrem, 1)) (hn : pc + 1 = pn) (hy : b ≠ 0) (W : WP p l e R s m args below meth c n0 Q h cells slots pn ls (.long (a % b) :: st)) : WP p l e R s m args below meth c n0 Q h cells slots pc ls (.long b :: .long a :: st) := by
  subst hn; exact WP.plain (fun T locs X _ t k => XT.lrem X.here K.1 rfl (hb K.2.1 hd) rfl hy (by rw [lrem_mod]; exact k)) W
theorem o_ldiv {a b : Int64} {pn : Nat} (K : Cx p s m args meth c Z y code ml ret cI cJ) (hd : decode code pc = .ok (.ldiv, 1)) (hn : pc + 1 = pn) (hy : b ≠ 0) (W : WP p l e R s m args below meth c n0 Q h cells slots pn ls (.long (a / b) :: st)) : WP p l e R s m args below meth c n0 Q h cells slots pc ls (.long b :: .long a :: st) := by
  subst hn; exact WP.plain (fun T locs X _ t k => XT.ldiv X.here K.1 rfl (hb K.2.1 hd) rfl hy k) W
/-! ## returns -/
theorem fin_of (X : Stand p l e R s m args below meth c T locs cells slots) (hlk : meth.locks = false) {v : Option Value} (hv : meth.sig.returnType = none → v = none) (hQ : Q v T.heap) (N : Fr n0 locs) (Z0 : n0 ≤ T.heap.size) (hc : cells ≤ R.cells) (hs : slots ≤ R.slots) {t0 : State}
    (H : ∀ fs, (∀ (f : JFrame) (acts : List Action), f.method = m → f.locked = none → f.entered = [] → (doReturn e (T.setTop f) acts v).1 = T.setFrames fs) → Steps p.tables e below t0 (T.setFrames fs)) : FinW p e below s n0 R.cells R.slots Q t0 := by
  obtain ⟨fs, hr, hrun, hended, hW, hsame⟩ := X.leave hv hlk
  exact ⟨_, _, H fs hr, hrun, hended, v, locs, rfl, ⟨hQ, N, Z0⟩, ⟨_, rfl⟩, hW, hsame.mono hc hs⟩
theorem ret_v {w : Value} {t : FieldType} {i : Instr} (K : Cx p s m args meth c Z y code ml (some t) cI cJ) (hd : decode code pc = .ok (i, 1)) (hn : narrow t w = w)
    (hi : (i = .ireturn ∧ (t = .int ∨ t = .boolean ∨ t = .byte ∨ t = .char ∨ t = .short) ∧ ∃ z, w = .int z) ∨ (i = .lreturn ∧ t = .long ∧ ∃ z, w = .long z) ∨ (i = .dreturn ∧ t = .double ∧ ∃ z, w = .double z) ∨ (i = .freturn ∧ t = .float ∧ ∃ z, w = .float z) ∨ (i = .areturn ∧ t.isReference = true ∧ w.isRef = true))
    (hc : cells ≤ R.cells) (hs : slots ≤ R.slots) (hQ : Q (some w) h) : WP p l e R s m args below meth c n0 Q h cells slots pc ls (w :: st) := by
  intro T locs X e0 N0 Z0
  subst e0
  obtain ⟨hx, hby, hml, hZ, hown, hnm, hret, hlk, -⟩ := K
  exact fin_of X hlk (v := some w) (fun q => by rw [hret] at q; cases q) hQ N0 Z0 hc hs fun fs hr => retOut X hx hret hn hi (hb hby hd) hr
theorem ret_i {z : Int32} (K : Cx p s m args meth c Z y code ml (some .int) cI cJ) (hd : decode code pc = .ok (.ireturn, 1)) (hc : cells ≤ R.cells) (hs : slots ≤ R.slots) (hQ : Q (some (.int z)) h) : WP p l e R s m args below meth c n0 Q h cells slots pc ls (.int z :: st) :=
  ret_v K hd rfl (Or.inl ⟨rfl, Or.inl rfl, z, rfl⟩) hc hs hQ
theorem ret_z {z : Int32} (K : Cx p s m args meth c Z y code ml (some .boolean) cI cJ) (hd : decode code pc = .ok (.ireturn, 1)) (hz : z = 0 ∨ z = 1) (hc : cells ≤ R.cells) (hs : slots ≤ R.slots) (hQ : Q (some (.int z)) h) : WP p l e R s m args below meth c n0 Q h cells slots pc ls (.int z :: st) :=
  ret_v K hd (by rcases hz with rfl | rfl <;> rfl) (Or.inl ⟨rfl, Or.inr (Or.inl rfl), z, rfl⟩) hc hs hQ
theorem ret_n {z : Int32} {t : FieldType} (K : Cx p s m args meth c Z y code ml (some t) cI cJ) (hd : decode code pc = .ok (.ireturn, 1)) (ht : (t = .boolean ∨ t = .byte ∨ t = .char ∨ t = .short)) (hz : narrow t (.int z) = .int z) (hc : cells ≤ R.cells) (hs : slots ≤ R.slots) (hQ : Q (some (.int z)) h) : WP p l e R s m args below meth c n0 Q h cells slots pc ls (.int z :: st) :=
  ret_v K hd hz (Or.inl ⟨rfl, Or.inr ht, z, rfl⟩) hc hs hQ
theorem ret_j {z : Int64} (K : Cx p s m args meth c Z y code ml (some .long) cI cJ) (hd : decode code pc = .ok (.lreturn, 1)) (hc : cells ≤ R.cells) (hs : slots ≤ R.slots) (hQ : Q (some (.long z)) h) : WP p l e R s m args below meth c n0 Q h cells slots pc ls (.long z :: st) :=
  ret_v K hd rfl (Or.inr (Or.inl ⟨rfl, rfl, z, rfl⟩)) hc hs hQ
theorem ret_a {v : Value} {t : FieldType} (K : Cx p s m args meth c Z y code ml (some t) cI cJ) (hd : decode code pc = .ok (.areturn, 1)) (ht : t.isReference = true) (hv : v.isRef = true) (hc : cells ≤ R.cells) (hs : slots ≤ R.slots) (hQ : Q (some v) h) : WP p l e R s m args below meth c n0 Q h cells slots pc ls (v :: st) :=
  ret_v K hd (by cases t <;> first | rfl | cases ht) (Or.inr (Or.inr (Or.inr (Or.inr ⟨rfl, ht, hv⟩)))) hc hs hQ
theorem ret_0 (K : Cx p s m args meth c Z y code ml none cI cJ) (hd : decode code pc = .ok (.return_, 1)) (hc : cells ≤ R.cells) (hs : slots ≤ R.slots) (hQ : Q none h) : WP p l e R s m args below meth c n0 Q h cells slots pc ls [] := by
  intro T locs X e0 N0 Z0
  subst e0
  obtain ⟨hx, hby, hml, hZ, hown, hnm, hret, hlk, -⟩ := K
  exact fin_of X hlk (v := none) (fun _ => rfl) hQ N0 Z0 hc hs fun fs hr => X.returnOut hx hret (hb hby hd) hr
end Body
/-! ## contracts -/
def Con (l : Launch) (Z : State) (n0 : Nat) (y : MethodName) (code : ByteArray) (ml : Nat) (ret : Option FieldType) (ws : List Jvm.Cond) (rm : Room) (as' : Array Value) (h : Heap) (Q : Option Value → Heap → Prop) : Prop :=
  n0 ≤ h.size → MetFree l y (head1 (Jvm.Cond.code y code ml ret :: ws) rm) (fun a U => a = as' ∧ Z.Warmed39 U.vm ∧ U.heap = h) (fun _ _ _ _ _ => True) (fun _ U o U' => ∃ v L, o = .returned v ∧ (Q v U'.heap ∧ Fr n0 L ∧ n0 ≤ U'.heap.size) ∧ FrameEnd U o U' L rm.cells rm.slots)
theorem Con.of {l : Launch} {Z : State} {n0 : Nat} {y : MethodName} {code : ByteArray} {ml : Nat} {ret : Option FieldType} {ws : List Jvm.Cond} {rm : Room} {as' : Array Value} {h : Heap} {Q : Option Value → Heap → Prop} {a0 : Array Value} (cI : List (Nat × Int32)) (cJ : List (Nat × Int64)) (hp : plainFor y = true) (ent : List Slot) (he : ∀ m, entryFrame m as' ml = mkF m 0 ent.toArray [])
    (hI : ∀ q ∈ cI, (Jvm.Cond.constant y.cls q.1 q.2).before a0 Z = true) (hJ : ∀ q ∈ cJ, (Jvm.Cond.constantLong y.cls q.1 q.2).before a0 Z = true)
    (body : ∀ p e s m below meth c, Cx p s m as' meth c Z y code ml ret cI cJ → WP p l e rm s m as' below meth c n0 Q h 0 0 0 ent []) : Con l Z n0 y code ml ret ws rm as' h Q := by
  intro hn0
  refine MetFree.of_bodySF hp hisR ?_
  intro p e s m args below meth c s₁ Bd hml0 hP hK
  obtain ⟨rfl, hZ, hh⟩ := hP
  have X0 : Stand p l e rm s m args below meth c s₁ [] 0 0 := Stand.of_body Bd
  have e0 : s₁.heap = h := by rw [← hh, Bd.state]; rfl
  obtain ⟨t, o, h1, h2⟩ := body p e s m below meth c ⟨Bd.exec, Bd.bytes, hml0, hZ, findClass_of_methodNamed Bd.named, (name_of_methodNamed Bd.named Bd.method).1, Bd.returns, BodyLoose.notSynchronized Bd, fun q hq => mv hZ (hI q hq), fun q hq => mv hZ (hJ q hq)⟩ s₁ [] X0 e0 (Fr.nil n0) hn0
  exact ⟨t, o, castTop (he m) h1, h2⟩
theorem nilI {α : Type} {P : α → Prop} : ∀ q ∈ ([] : List α), P q := fun _ h => nomatch h
theorem consI {α : Type} {P : α → Prop} {a : α} {L : List α} (h : P a) (hl : ∀ q ∈ L, P q) : ∀ q ∈ a :: L, P q := fun q hq => (List.mem_cons.mp hq).elim (fun e => e ▸ h) (hl q)
section Calls
variable {p : Program} {l : Launch} {e : Env} {R : Room} {s : State} {m : MethodId} {args : Array Value} {below : List Frame} {meth : Method} {c : Code} {cells slots : Nat} {Z : State} {a0 : Array Value} {h : Heap} {y : MethodName} {code : ByteArray} {ml : Nat} {ret : Option FieldType} {cI : List (Nat × Int32)} {cJ : List (Nat × Int64)} {n0 : Nat} {Q : Option Value → Heap → Prop} {pc pn : Nat} {ls : List Slot} {st : List Value}
theorem call_s {y' : MethodName} {code' : ByteArray} {ml' : Nat} {ret' : Option FieldType} {rm : Room} {as' : Array Value} {Q' : Option Value → Heap → Prop} {idx : Nat} {ps : List FieldType} {rt : Option FieldType}
    (K : Cx p s m args meth c Z y code ml ret cI cJ) (w1 : (Jvm.Cond.methodLink y.cls idx y').before a0 Z = true) (w2 : (Jvm.Cond.static y').before a0 Z = true) (w3 : (Jvm.Cond.initialized y'.cls).before a0 Z = true) (w4 : (Jvm.Cond.code y' code' ml' ret').before a0 Z = true)
    (C : Con l Z n0 y' code' ml' ret' [] rm as' h Q') (hd : decode code pc = .ok (.invokestatic idx, 3)) (hn : pc + 3 = pn) (hls : ls.length = ml) (argsL : List Value) (rest : List Value) (has : argsL.toArray = as') (hst : st = argsL.reverse ++ rest) (hpd : parseMethodDescriptor y'.desc = some ⟨ps, rt⟩) (hlen : argsL.length = ps.length)
    (hy : y'.cls ≠ "java/lang/invoke/MethodHandle" ∧ y'.cls ≠ "java/lang/invoke/VarHandle") (W : Nat) (hW : (rest.map fun v => v.category).sum ≤ W) (hf : rm.frames + 1 ≤ R.frames) (hl : W + (ml' + 11) + rm.locals ≤ R.locals) (hcl : cells + rm.cells ≤ R.cells) (hsl : slots + rm.slots ≤ R.slots)
    (next : ∀ v h', Q' v h' → WP p l e R s m args below meth c n0 Q h' (cells + rm.cells) (slots + rm.slots) pn ls (v.toList ++ rest)) : WP p l e R s m args below meth c n0 Q h cells slots pc ls st := by
  intro T locs X e0 N0 Z0
  obtain ⟨hx, hby, hml, hZ, hown, -⟩ := K
  subst has hn
  obtain ⟨v, _, ⟨T', L', k', n'⟩, -, X', ⟨Lc, ⟨hQ, hN, hS⟩, l1, y1, z1⟩, st1⟩ := Jvm.LawKit.callS X hx (y := y') hown (mvT hZ w1) (mvT hZ w2) (mvT hZ w3) (mvT hZ w4) hy (backOf (W := W) (Q := fun v hp L => Q' v hp ∧ Fr n0 L ∧ n0 ≤ hp.size) (C Z0) hZ w4 w3 hf hl) (g := mkF m pc ls.toArray st) rfl (by rw [hml]; simpa using hls) (argsL := argsL) (rest := rest) (lenOf hpd hlen) hst (by show 2 * 0 + _ ≤ _; omega) (hb hby hd) (fun _ _ => ⟨rfl, e0, hcl, hsl⟩)
  dsimp only [Pt.U, Pt.locs, Pt.cells, Pt.slots] at X' l1 y1 z1 st1 hQ hN hS
  subst l1 y1 z1
  obtain ⟨t, o, g1, g2⟩ := next v _ hQ T' _ X' rfl (Fr.app N0 hN) hS
  exact ⟨t, o, st1 _ g1, g2⟩
theorem call_i {y' : MethodName} {code' : ByteArray} {ml' : Nat} {rm : Room} {as' : Array Value} {Q' : Option Value → Heap → Prop} {idx : Nat} {ps : List FieldType} {rt : Option FieldType} {a : Addr}
    (K : Cx p s m args meth c Z y code ml ret cI cJ) (hy1 : y'.name = "<init>") (w1 : (Jvm.Cond.methodLink y.cls idx y').before a0 Z = true) (w2 : (Jvm.Cond.instanceMethod y').before a0 Z = true) (w3 : (Jvm.Cond.initialized y'.cls).before a0 Z = true) (w4 : (Jvm.Cond.code y' code' ml' none).before a0 Z = true)
    (C : Con l Z n0 y' code' ml' none [] rm as' h Q') (hd : decode code pc = .ok (.invokespecial idx, 3)) (hn : pc + 3 = pn) (hls : ls.length = ml) (argsL : List Value) (rest : List Value) (has : (Value.ref a :: argsL).toArray = as') (hst : st = argsL.reverse ++ .ref a :: rest) (hpd : parseMethodDescriptor y'.desc = some ⟨ps, rt⟩) (hlen : argsL.length = ps.length)
    (hy : y'.cls ≠ "java/lang/invoke/MethodHandle" ∧ y'.cls ≠ "java/lang/invoke/VarHandle") (W : Nat) (hW : (rest.map fun v => v.category).sum ≤ W) (hf : rm.frames + 1 ≤ R.frames) (hl : W + (ml' + 11) + rm.locals ≤ R.locals) (hcl : cells + rm.cells ≤ R.cells) (hsl : slots + rm.slots ≤ R.slots)
    (next : ∀ v h', Q' v h' → WP p l e R s m args below meth c n0 Q h' (cells + rm.cells) (slots + rm.slots) pn ls (v.toList ++ rest)) : WP p l e R s m args below meth c n0 Q h cells slots pc ls st := by
  intro T locs X e0 N0 Z0
  obtain ⟨hx, hby, hml, hZ, hown, -⟩ := K
  subst has hn
  obtain ⟨v, _, ⟨T', L', k', n'⟩, -, X', ⟨Lc, ⟨hQ, hN, hS⟩, l1, y1, z1⟩, st1⟩ := X.specialBack hx (y := y') hy1 hown (mvT hZ w1) (mvT hZ w2) (mvT hZ w4) hy (backOf (W := W) (Q := fun v hp L => Q' v hp ∧ Fr n0 L ∧ n0 ≤ hp.size) (C Z0) hZ w4 w3 hf hl) (g := mkF m pc ls.toArray st) rfl (by rw [hml]; simpa using hls) (Steps.refl _) (a := a) (argsL := argsL) (rest := rest) (lenOf hpd hlen) hst (by show 2 * 0 + _ ≤ _; omega) (hb hby hd) (fun _ _ => ⟨rfl, e0, hcl, hsl⟩)
  dsimp only [Pt.U, Pt.locs, Pt.cells, Pt.slots] at X' l1 y1 z1 st1 hQ hN hS
  subst l1 y1 z1
  obtain ⟨t, o, g1, g2⟩ := next v _ hQ T' _ X' rfl (Fr.app N0 hN) hS
  exact ⟨t, o, st1.trans g1, g2⟩
theorem call_v {y1' y' : MethodName} {D : String} {code' : ByteArray} {ml' : Nat} {ret' : Option FieldType} {rm : Room} {as' : Array Value} {Q' : Option Value → Heap → Prop} {idx : Nat} {ps : List FieldType} {rt : Option FieldType} {a : Addr}
    (K : Cx p s m args meth c Z y code ml ret cI cJ) (w1 : (Jvm.Cond.methodLink y.cls idx y1').before a0 Z = true) (w2 : (Jvm.Cond.declares y1').before a0 Z = true) (w5 : (Jvm.Cond.selects D y1' y').before a0 Z = true) (w6 : (Jvm.Cond.instanceMethod y').before a0 Z = true) (w3 : (Jvm.Cond.initialized y'.cls).before a0 Z = true) (w4 : (Jvm.Cond.code y' code' ml' ret').before a0 Z = true) (E : Exa Z h a D)
    (C : Con l Z n0 y' code' ml' ret' [] rm as' h Q') (hd : decode code pc = .ok (.invokevirtual idx, 3)) (hn : pc + 3 = pn) (hls : ls.length = ml) (argsL : List Value) (rest : List Value) (has : (Value.ref a :: argsL).toArray = as') (hst : st = argsL.reverse ++ .ref a :: rest) (hpd : parseMethodDescriptor y1'.desc = some ⟨ps, rt⟩) (hlen : argsL.length = ps.length)
    (hnf : ∀ s' : State, (Jvm.Cond.selects D y1' y').before #[] s' = true → NotFace s' y1') (hy : y1'.cls ≠ "java/lang/invoke/MethodHandle" ∧ y1'.cls ≠ "java/lang/invoke/VarHandle") (W : Nat) (hW : (rest.map fun v => v.category).sum ≤ W) (hf : rm.frames + 1 ≤ R.frames) (hl : W + (ml' + 11) + rm.locals ≤ R.locals) (hcl : cells + rm.cells ≤ R.cells) (hsl : slots + rm.slots ≤ R.slots)
    (next : ∀ v h', Q' v h' → WP p l e R s m args below meth c n0 Q h' (cells + rm.cells) (slots + rm.slots) pn ls (v.toList ++ rest)) : WP p l e R s m args below meth c n0 Q h cells slots pc ls st := by
  intro T locs X e0 N0 Z0
  obtain ⟨hx, hby, hml, hZ, hown, -⟩ := K
  subst has hn
  obtain ⟨cq, kq, q1, q2, q3⟩ := isOf hZ e0 E
  obtain ⟨v, _, ⟨T', L', k', n'⟩, -, X', ⟨Lc, ⟨hQ, hN, hS⟩, l1, y1, z1⟩, st1⟩ := X.virtualBack hx (y := y1') (z := y') hown (mvT hZ w1) (mvT hZ w2) (hnf _ (mvT hZ w5)) (mvT hZ w5) (mvT hZ w6) hy (backOf (W := W) (Q := fun v hp L => Q' v hp ∧ Fr n0 L ∧ n0 ≤ hp.size) (C Z0) hZ w4 w3 hf hl) q1 q3 (g := mkF m pc ls.toArray st) rfl (by rw [hml]; simpa using hls) (Steps.refl _) (argsL := argsL) (rest := rest) (lenOf hpd hlen) hst (by show 2 * 0 + _ ≤ _; omega) (hb hby hd) (fun _ _ => ⟨rfl, e0, hcl, hsl⟩)
  dsimp only [Pt.U, Pt.locs, Pt.cells, Pt.slots] at X' l1 y1 z1 st1 hQ hN hS
  subst l1 y1 z1
  obtain ⟨t, o, g1, g2⟩ := next v _ hQ T' _ X' rfl (Fr.app N0 hN) hS
  exact ⟨t, o, st1.trans g1, g2⟩
/-! ## fields, objects, arrays -/
theorem f_init {idx : Nat} {a : Addr} (K : Cx p s m args meth c Z y code ml ret cI cJ) (w1 : (Jvm.Cond.methodLink y.cls idx Lib.objectInit).before a0 Z = true) (w2 : (Jvm.Cond.instanceMethod Lib.objectInit).before a0 Z = true) (w3 : (Jvm.Cond.code Lib.objectInit ⟨#[0xb1]⟩ 1 none).before a0 Z = true)
    (hd : decode code pc = .ok (.invokespecial idx, 3)) (hn : pc + 3 = pn) (hls : ls.length = ml) (hf : 1 ≤ R.frames) (hl : (st.map fun v => v.category).sum + 12 ≤ R.locals) (W : WP p l e R s m args below meth c n0 Q h cells slots pn ls st) : WP p l e R s m args below meth c n0 Q h cells slots pc ls (.ref a :: st) := by
  subst hn
  obtain ⟨hx, hby, hml, hZ, hown, -⟩ := K
  refine WP.step (fun T locs X e0 N0 Z0 => ?_) W
  obtain ⟨T', X', e', st'⟩ := initO X hx hZ hown w1 w2 w3 e0 (g := mkF m pc ls.toArray (.ref a :: st)) rfl (by rw [hml]; simpa using hls) rfl (hb hby hd) hf (W := (st.map fun v => v.category).sum) (by show 2 * 0 + _ ≤ _; omega) hl
  exact ⟨T', locs, X', e', N0, Z0, st'⟩
theorem f_get {R0 O n d host : String} {idx : Nat} {a : Addr} {v : Value} (K : Cx p s m args meth c Z y code ml ret cI cJ) (w : (Jvm.Cond.fieldLink y.cls idx R0 n d).before a0 Z = true ∨ (Jvm.Cond.fieldLinkNest y.cls idx R0 n d host).before a0 Z = true) (via : Via Z R0 O n d) (F : Fld Z h a O n d v) (hd : decode code pc = .ok (.getfield idx, 3)) (hn : pc + 3 = pn)
    (W : WP p l e R s m args below meth c n0 Q h cells slots pn ls (v :: st)) : WP p l e R s m args below meth c n0 Q h cells slots pc ls (.ref a :: st) := by
  subst hn
  obtain ⟨hx, hby, hml, hZ, hown, -⟩ := K
  refine WP.step (fun T locs X e0 N0 Z0 => ?_) W
  obtain ⟨T', X', e', st'⟩ := getF X hx hZ hown w via e0 F (g := mkF m pc ls.toArray (.ref a :: st)) rfl rfl (hb hby hd)
  exact ⟨T', locs, X', e', N0, Z0, st'⟩
theorem f_put {R0 O n d host C : String} {idx kk : Nat} {ty : FieldType} {a : Addr} {v old : Value} (K : Cx p s m args meth c Z y code ml ret cI cJ) (w : (Jvm.Cond.fieldLink y.cls idx R0 n d).before a0 Z = true ∨ (Jvm.Cond.fieldLinkNest y.cls idx R0 n d host).before a0 Z = true) (via : Via Z R0 O n d) (F : Fld Z h a O n d old) (E : Exa Z h a C)
    (L : (Jvm.Cond.lays C O n d).before a0 Z = true ∨ ((Jvm.Cond.laysFinal C O n d).before a0 Z = true ∧ y.cls = O ∧ y.name = "<init>")) (wi : (Jvm.Cond.instantiable C kk).before a0 Z = true) (hty : parseFieldDescriptor d = some ty) (hnw : narrow ty v = v) (hf : fits ty v = true) (hd : decode code pc = .ok (.putfield idx, 3)) (hn : pc + 3 = pn) (hg : n0 ≤ a)
    (W : ∀ h', Wr h h' a (Jvm.RoadKit.slotOf Z O n d) v → WP p l e R s m args below meth c n0 Q h' cells slots pn ls st) : WP p l e R s m args below meth c n0 Q h cells slots pc ls (v :: .ref a :: st) := by
  subst hn
  obtain ⟨hx, hby, hml, hZ, hown, hnm, -⟩ := K
  intro T locs X e0 N0 Z0
  obtain ⟨T', h', X', e', Wr', st'⟩ := putF X hx hZ hown w via e0 F E (L.imp id fun q => ⟨q.1, q.2.1, hnm.trans q.2.2⟩) wi hty hnw hf (g := mkF m pc ls.toArray (v :: .ref a :: st)) rfl rfl (hb hby hd)
  obtain ⟨t, o, g1, g2⟩ := W h' Wr' T' _ X' e' (Fr.snoc X' N0 hg) (by rw [Wr'.size]; exact Z0)
  exact ⟨t, o, st' _ g1, g2⟩
theorem f_new {C : String} {idx n : Nat} (K : Cx p s m args meth c Z y code ml ret cI cJ) (w : (Jvm.Cond.classLink y.cls idx C).before a0 Z = true) (wi : (Jvm.Cond.instantiable C n).before a0 Z = true) (wz : (Jvm.Cond.initialized C).before a0 Z = true) (hd : decode code pc = .ok (.new idx, 3)) (hn : pc + 3 = pn) (hc : cells + 1 ≤ R.cells) (hl : slots + n ≤ R.slots)
    (W : ∀ h' a, a = h.size → n0 ≤ a → Ext h h' → Exa Z h' a C → (∀ {O nm d : String} {ty : FieldType}, Laid Z a0 C O nm d → parseFieldDescriptor d = some ty → Fld Z h' a O nm d (defaultValue ty)) → WP p l e R s m args below meth c n0 Q h' (cells + 1) (slots + n) pn ls (.ref a :: st)) : WP p l e R s m args below meth c n0 Q h cells slots pc ls st := by
  subst hn
  obtain ⟨hx, hby, hml, hZ, hown, hnm, -⟩ := K
  intro T locs X e0 N0 Z0
  obtain ⟨T', h', X', e', E, A, D, -, st'⟩ := newO X hx hZ hown w wi wz e0 (g := mkF m pc ls.toArray st) rfl (hb hby hd) hc hl
  obtain ⟨t, o, g1, g2⟩ := W h' _ rfl Z0 E A D T' _ X' e' N0 (Nat.le_trans Z0 E.1)
  exact ⟨t, o, st' _ g1, g2⟩
theorem call_p {y' : MethodName} {code' : ByteArray} {ml' : Nat} {ret' : Option FieldType} {rm : Room} {as' : Array Value} {Q' : Option Value → Heap → Prop} {idx : Nat} {ps : List FieldType} {rt : Option FieldType} {a : Addr} {D : String}
    (K : Cx p s m args meth c Z y code ml ret cI cJ) (w1 : (Jvm.Cond.methodLink y.cls idx y').before a0 Z = true) (w2 : (Jvm.Cond.instanceMethod y').before a0 Z = true) {kk : Nat} (w5 : (Jvm.Cond.instantiable y'.cls kk).before a0 Z = true) (w6 : (Jvm.Cond.privateMethod y').before a0 Z = true) (w3 : (Jvm.Cond.initialized y'.cls).before a0 Z = true) (w4 : (Jvm.Cond.code y' code' ml' ret').before a0 Z = true) (E : Exa Z h a D)
    (C : Con l Z n0 y' code' ml' ret' [] rm as' h Q') (hd : decode code pc = .ok (.invokevirtual idx, 3)) (hn : pc + 3 = pn) (hls : ls.length = ml) (argsL : List Value) (rest : List Value) (has : (Value.ref a :: argsL).toArray = as') (hst : st = argsL.reverse ++ .ref a :: rest) (hpd : parseMethodDescriptor y'.desc = some ⟨ps, rt⟩) (hlen : argsL.length = ps.length)
    (hy : y'.cls ≠ "java/lang/invoke/MethodHandle" ∧ y'.cls ≠ "java/lang/invoke/VarHandle") (W : Nat) (hW : (rest.map fun v => v.category).sum ≤ W) (hf : rm.frames + 1 ≤ R.frames) (hl : W + (ml' + 11) + rm.locals ≤ R.locals) (hcl : cells + rm.cells ≤ R.cells) (hsl : slots + rm.slots ≤ R.slots)
    (next : ∀ v h', Q' v h' → WP p l e R s m args below meth c n0 Q h' (cells + rm.cells) (slots + rm.slots) pn ls (v.toList ++ rest)) : WP p l e R s m args below meth c n0 Q h cells slots pc ls st := by
  intro T locs X e0 N0 Z0
  obtain ⟨hx, hby, hml, hZ, hown, -⟩ := K
  subst has hn
  obtain ⟨cq, q1, q2⟩ := E.cell
  obtain ⟨ci, ki, i1, i2, -, i4, -⟩ := Cond.instantiable_spec (mvT (args := args) hZ w5)
  have hsel : (Jvm.Cond.selects y'.cls y' y').before args s = true := selects_self_of_private i1 i2 (Bool.or_eq_false_iff.mp i4).1 (Cond.privateMethod_at (mvP hZ w6 (args := #[]))) (mvT hZ w2) hy
  obtain ⟨v, _, ⟨T', L', k', n'⟩, -, X', ⟨Lc, ⟨hQ, hN, hS⟩, l1, y1, z1⟩, st1⟩ := X.privateBack hx (y := y') hown (mvT hZ w1) (mvT hZ w2) hsel (Cond.privateMethod_at (mvP hZ w6 (args := #[]))) (mvT hZ w4) hy (backOf (W := W) (Q := fun v hp L => Q' v hp ∧ Fr n0 L ∧ n0 ≤ hp.size) (C Z0) hZ w4 w3 hf hl) (g := mkF m pc ls.toArray st) rfl (by rw [hml]; simpa using hls) (Steps.refl _) (a := a) (by rw [e0]; exact q1) q2 (argsL := argsL) (rest := rest) (lenOf hpd hlen) hst (by show 2 * 0 + _ ≤ _; omega) (hb hby hd) (fun _ _ => ⟨rfl, e0, hcl, hsl⟩)
  dsimp only [Pt.U, Pt.locs, Pt.cells, Pt.slots] at X' l1 y1 z1 st1 hQ hN hS
  subst l1 y1 z1
  obtain ⟨t, o, g1, g2⟩ := next v _ hQ T' _ X' rfl (Fr.app N0 hN) hS
  exact ⟨t, o, st1.trans g1, g2⟩
theorem f_putn {R0 O n d C : String} {idx kk : Nat} {ty : FieldType} {a : Addr} {v v' old : Value} (K : Cx p s m args meth c Z y code ml ret cI cJ) (w : (Jvm.Cond.fieldLink y.cls idx R0 n d).before a0 Z = true) (via : Via Z R0 O n d) (F : Fld Z h a O n d old) (E : Exa Z h a C)
    (L : (Jvm.Cond.lays C O n d).before a0 Z = true ∨ ((Jvm.Cond.laysFinal C O n d).before a0 Z = true ∧ y.cls = O ∧ y.name = "<init>")) (wi : (Jvm.Cond.instantiable C kk).before a0 Z = true) (hty : parseFieldDescriptor d = some ty) (hnw : narrow ty v = v') (hf : fits ty v' = true) (hd : decode code pc = .ok (.putfield idx, 3)) (hn : pc + 3 = pn) (hg : n0 ≤ a)
    (W : ∀ h', Wr h h' a (Jvm.RoadKit.slotOf Z O n d) v' → WP p l e R s m args below meth c n0 Q h' cells slots pn ls st) : WP p l e R s m args below meth c n0 Q h cells slots pc ls (v :: .ref a :: st) := by
  subst hn
  obtain ⟨hx, hby, hml, hZ, hown, hnm, -⟩ := K
  intro T locs X e0 N0 Z0
  obtain ⟨T', h', X', e', Wr', st'⟩ := putFN X hx hZ hown w via e0 F E (L.imp id fun q => ⟨q.1, q.2.1, hnm.trans q.2.2⟩) wi hty hnw hf (g := mkF m pc ls.toArray (v :: .ref a :: st)) rfl rfl (hb hby hd)
  obtain ⟨t, o, g1, g2⟩ := W h' Wr' T' _ X' e' (Fr.snoc X' N0 hg) (by rw [Wr'.size]; exact Z0)
  exact ⟨t, o, st' _ g1, g2⟩
theorem f_sta {R0 O n d host : String} {idx : Nat} {v : Value} (K : Cx p s m args meth c Z y code ml ret cI cJ) (w : (Jvm.Cond.fieldLink y.cls idx R0 n d).before a0 Z = true ∨ (Jvm.Cond.fieldLinkNest y.cls idx R0 n d host).before a0 Z = true) (via : Via Z R0 O n d) (F : Sta Z h O n d v) (hd : decode code pc = .ok (.getstatic idx, 3)) (hn : pc + 3 = pn)
    (W : WP p l e R s m args below meth c n0 Q h cells slots pn ls (v :: st)) : WP p l e R s m args below meth c n0 Q h cells slots pc ls st := by
  subst hn
  obtain ⟨hx, hby, hml, hZ, hown, -⟩ := K
  refine WP.step (fun T locs X e0 N0 Z0 => ?_) W
  obtain ⟨T', X', e', st'⟩ := getS2 X hx hZ hown w via e0 F (g := mkF m pc ls.toArray st) rfl (hb hby hd)
  exact ⟨T', locs, X', e', N0, Z0, st'⟩
/-! arrays: their elements as a list -/
def Ars (Z : State) (h : Heap) (a : Addr) (ty : FieldType) (vs : List Value) : Prop := (∃ cl : Cell, Arr Z h a cl ty ∧ cl.slots = vs.toArray) ∧ Exa Z h a ("[" ++ ty.toString)
theorem Ars.ext {h' : Heap} {a : Addr} {ty : FieldType} {vs : List Value} (F : Ars Z h a ty vs) (E : Ext h h') : Ars Z h' a ty vs := by obtain ⟨⟨cl, A, r⟩, q⟩ := F; exact ⟨⟨cl, A.ext E, r⟩, q.ext E⟩
theorem Ars.other {h' : Heap} {a b : Addr} {sl : Nat} {v : Value} {ty : FieldType} {vs : List Value} (F : Ars Z h b ty vs) (W : Wr h h' a sl v) (q : b ≠ a) : Ars Z h' b ty vs := by obtain ⟨⟨cl, A, r⟩, z⟩ := F; exact ⟨⟨cl, A.other W q, r⟩, z.wr W⟩
theorem Ars.same {h' : Heap} {a : Addr} {sl : Nat} {v : Value} {ty : FieldType} {vs : List Value} (F : Ars Z h a ty vs) (W : Wr h h' a sl v) : Ars Z h' a ty (vs.set sl v) := by
  obtain ⟨⟨cl, A, r⟩, z⟩ := F; exact ⟨⟨_, A.same W, by show cl.slots.setIfInBounds sl v = _; rw [r]; simp⟩, z.wr W⟩
theorem Ars.keep {h' : Heap} {a : Addr} {ws : List Addr} {ty : FieldType} {vs : List Value} (F : Ars Z h a ty vs) (K : Keep h h' ws) (q : a ∉ ws) : Ars Z h' a ty vs := by obtain ⟨⟨cl, A, r⟩, z⟩ := F; exact ⟨⟨cl, ⟨K.2.1 a cl A.1 q, A.2⟩, r⟩, z.keep K⟩
theorem Ars.lt {a : Addr} {ty : FieldType} {vs : List Value} (F : Ars Z h a ty vs) : a < h.size := by obtain ⟨⟨cl, A, -⟩, -⟩ := F; exact A.lt
theorem f_newarr {aty : ArrayType} {n : Int32} (K : Cx p s m args meth c Z y code ml ret cI cJ) (w : (Jvm.Cond.arrayClass (newarray.typeOf aty)).before a0 Z = true) (hd : decode code pc = .ok (.newarray aty, 2)) (hn : pc + 2 = pn) (hn0 : ¬ n < 0) (cap : Nat) (hcap : n.toNatClampNeg ≤ cap) (hb' : cap * 8 ≤ 536870912) (hc : cells + 1 ≤ R.cells) (hl : slots + cap ≤ R.slots)
    (W : ∀ h' a, a = h.size → n0 ≤ a → Ext h h' → Ars Z h' a (newarray.typeOf aty) (List.replicate n.toNatClampNeg (defaultValue (newarray.typeOf aty))) → WP p l e R s m args below meth c n0 Q h' (cells + 1) (slots + cap) pn ls (.ref a :: st)) : WP p l e R s m args below meth c n0 Q h cells slots pc ls (.int n :: st) := by
  subst hn
  obtain ⟨hx, hby, hml, hZ, hown, hnm, -⟩ := K
  intro T locs X e0 N0 Z0
  obtain ⟨T', h', cA, X', e', E, A, A2, st'⟩ := newPE X hx hZ w e0 (g := mkF m pc ls.toArray (.int n :: st)) rfl (hb hby hd) rfl hn0 hcap hb' hc hl rfl
  obtain ⟨t, o, g1, g2⟩ := W h' _ rfl Z0 E ⟨⟨_, A, by simp [newA]⟩, A2⟩ T' _ X' e' N0 (Nat.le_trans Z0 E.1)
  exact ⟨t, o, st' _ g1, g2⟩
theorem idx_ok {vs : List Value} {cl : Cell} {j : Int32} (r : cl.slots = vs.toArray) (h0 : ¬ j < 0) (h1 : j.toNatClampNeg < vs.length) : ¬ (j < 0 ∨ cl.slots.size ≤ j.toNatClampNeg) := by rw [r]; simp; exact ⟨by simpa using h0, h1⟩
theorem f_len {a : Addr} {ty : FieldType} {vs : List Value} (K : Cx p s m args meth c Z y code ml ret cI cJ) (F : Ars Z h a ty vs) (hd : decode code pc = .ok (.arraylength, 1)) (hn : pc + 1 = pn) (W : WP p l e R s m args below meth c n0 Q h cells slots pn ls (.int vs.length.toInt32 :: st)) : WP p l e R s m args below meth c n0 Q h cells slots pc ls (.ref a :: st) := by
  subst hn
  obtain ⟨hx, hby, hml, hZ, hown, hnm, -⟩ := K
  obtain ⟨⟨cl, A, r⟩, -⟩ := F
  have e1 : vs.length = cl.slots.size := by rw [r]; simp
  rw [e1] at W
  exact WP.plain (fun T locs X e0 t k => X.arraylength hx (by rw [e0]; exact A.1) (State.isArrayOf_alike hZ.alike A.2.1) (g := mkF m pc ls.toArray (.ref a :: st)) rfl rfl (hb hby hd) _ k) W
theorem f_ld_i {a : Addr} {vs : List Value} {j : Int32} {v : Value} (K : Cx p s m args meth c Z y code ml ret cI cJ) (F : Ars Z h a .int vs) (hd : decode code pc = .ok (.iaload, 1)) (hn : pc + 1 = pn) (h0 : ¬ j < 0) (hv : vs[j.toNatClampNeg]? = some v) (W : WP p l e R s m args below meth c n0 Q h cells slots pn ls (v :: st)) : WP p l e R s m args below meth c n0 Q h cells slots pc ls (.int j :: .ref a :: st) := by
  subst hn
  obtain ⟨hx, hby, hml, hZ, hown, hnm, -⟩ := K
  obtain ⟨⟨cl, A, r⟩, -⟩ := F
  exact WP.plain (fun T locs X e0 t k => X.iaload hx (by rw [e0]; exact A.1) (State.isArrayOf_alike hZ.alike A.2.1) A.2.2 (idx_ok r h0 (List.getElem?_eq_some_iff.mp hv).1) (by rw [r]; simpa using hv) (g := mkF m pc ls.toArray (.int j :: .ref a :: st)) rfl rfl (hb hby hd) _ k) W
theorem f_ld_l {a : Addr} {vs : List Value} {j : Int32} {v : Value} (K : Cx p s m args meth c Z y code ml ret cI cJ) (F : Ars Z h a .long vs) (hd : decode code pc = .ok (.laload, 1)) (hn : pc + 1 = pn) (h0 : ¬ j < 0) (hv : vs[j.toNatClampNeg]? = some v) (W : WP p l e R s m args below meth c n0 Q h cells slots pn ls (v :: st)) : WP p l e R s m args below meth c n0 Q h cells slots pc ls (.int j :: .ref a :: st) := by
  subst hn
  obtain ⟨hx, hby, hml, hZ, hown, hnm, -⟩ := K
  obtain ⟨⟨cl, A, r⟩, -⟩ := F
  exact WP.plain (fun T locs X e0 t k => X.laload hx (by rw [e0]; exact A.1) (State.isArrayOf_alike hZ.alike A.2.1) A.2.2 (idx_ok r h0 (List.getElem?_eq_some_iff.mp hv).1) (by rw [r]; simpa using hv) (g := mkF m pc ls.toArray (.int j :: .ref a :: st)) rfl rfl (hb hby hd) _ k) W
theorem f_ld_b {a : Addr} {vs : List Value} {j : Int32} {v : Value} (K : Cx p s m args meth c Z y code ml ret cI cJ) (F : Ars Z h a .byte vs) (hd : decode code pc = .ok (.baload, 1)) (hn : pc + 1 = pn) (h0 : ¬ j < 0) (hv : vs[j.toNatClampNeg]? = some v) (W : WP p l e R s m args below meth c n0 Q h cells slots pn ls (v :: st)) : WP p l e R s m args below meth c n0 Q h cells slots pc ls (.int j :: .ref a :: st) := by
  subst hn
  obtain ⟨hx, hby, hml, hZ, hown, hnm, -⟩ := K
  obtain ⟨⟨cl, A, r⟩, -⟩ := F
  exact WP.plain (fun T locs X e0 t k => X.baloadBytes hx (by rw [e0]; exact A.1) (State.isArrayOf_alike hZ.alike A.2.1) A.2.2 (idx_ok r h0 (List.getElem?_eq_some_iff.mp hv).1) (by rw [r]; simpa using hv) (g := mkF m pc ls.toArray (.int j :: .ref a :: st)) rfl rfl (hb hby hd) _ k) W
theorem f_ld_c {a : Addr} {vs : List Value} {j : Int32} {v : Value} (K : Cx p s m args meth c Z y code ml ret cI cJ) (F : Ars Z h a .char vs) (hd : decode code pc = .ok (.caload, 1)) (hn : pc + 1 = pn) (h0 : ¬ j < 0) (hv : vs[j.toNatClampNeg]? = some v) (W : WP p l e R s m args below meth c n0 Q h cells slots pn ls (v :: st)) : WP p l e R s m args below meth c n0 Q h cells slots pc ls (.int j :: .ref a :: st) := by
  subst hn
  obtain ⟨hx, hby, hml, hZ, hown, hnm, -⟩ := K
  obtain ⟨⟨cl, A, r⟩, -⟩ := F
  exact WP.plain (fun T locs X e0 t k => X.caload hx (by rw [e0]; exact A.1) (State.isArrayOf_alike hZ.alike A.2.1) A.2.2 (idx_ok r h0 (List.getElem?_eq_some_iff.mp hv).1) (by rw [r]; simpa using hv) (g := mkF m pc ls.toArray (.int j :: .ref a :: st)) rfl rfl (hb hby hd) _ k) W
theorem f_ld_a {a : Addr} {ty : FieldType} {vs : List Value} {j : Int32} {v : Value} (K : Cx p s m args meth c Z y code ml ret cI cJ) (F : Ars Z h a ty vs) (ht : ty.isReference = true) (hd : decode code pc = .ok (.aaload, 1)) (hn : pc + 1 = pn) (h0 : ¬ j < 0) (hv : vs[j.toNatClampNeg]? = some v) (W : WP p l e R s m args below meth c n0 Q h cells slots pn ls (v :: st)) : WP p l e R s m args below meth c n0 Q h cells slots pc ls (.int j :: .ref a :: st) := by
  subst hn
  obtain ⟨hx, hby, hml, hZ, hown, hnm, -⟩ := K
  obtain ⟨⟨cl, A, r⟩, -⟩ := F
  exact WP.plain (fun T locs X e0 t k => X.aaload hx (by rw [e0]; exact A.1) (State.isArrayOf_alike hZ.alike A.2.1) ht A.2.2 (idx_ok r h0 (List.getElem?_eq_some_iff.mp hv).1) (by rw [r]; simpa using hv) (g := mkF m pc ls.toArray (.int j :: .ref a :: st)) rfl rfl (hb hby hd) _ k) W
theorem f_st_i {a : Addr} {vs : List Value} {j : Int32} {x : Int32} (K : Cx p s m args meth c Z y code ml ret cI cJ) (F : Ars Z h a .int vs) (hd : decode code pc = .ok (.iastore, 1)) (hn : pc + 1 = pn) (hg : n0 ≤ a) (h0 : ¬ j < 0) (hv : j.toNatClampNeg < vs.length)
    (W : ∀ h', Wr h h' a j.toNatClampNeg (.int x) → Ars Z h' a .int (vs.set j.toNatClampNeg (.int x)) → WP p l e R s m args below meth c n0 Q h' cells slots pn ls st) : WP p l e R s m args below meth c n0 Q h cells slots pc ls (.int x :: .int j :: .ref a :: st) := by
  subst hn
  obtain ⟨hx, hby, hml, hZ, hown, hnm, -⟩ := K
  have F0 := F
  obtain ⟨⟨cl, A, r⟩, -⟩ := F
  intro T locs X e0 N0 Z0
  obtain ⟨T', h', X', e', Wr', st'⟩ := stI X hx hZ e0 A (idx_ok r h0 hv) (g := mkF m pc ls.toArray (.int x :: .int j :: .ref a :: st)) rfl rfl (hb hby hd)
  obtain ⟨t, o, g1, g2⟩ := W h' Wr' (Ars.same F0 Wr') T' _ X' e' (Fr.snoc X' N0 hg) (by rw [Wr'.size]; exact Z0)
  exact ⟨t, o, st' _ g1, g2⟩
theorem f_st_l {a : Addr} {vs : List Value} {j : Int32} {x : Int64} (K : Cx p s m args meth c Z y code ml ret cI cJ) (F : Ars Z h a .long vs) (hd : decode code pc = .ok (.lastore, 1)) (hn : pc + 1 = pn) (hg : n0 ≤ a) (h0 : ¬ j < 0) (hv : j.toNatClampNeg < vs.length)
    (W : ∀ h', Wr h h' a j.toNatClampNeg (.long x) → Ars Z h' a .long (vs.set j.toNatClampNeg (.long x)) → WP p l e R s m args below meth c n0 Q h' cells slots pn ls st) : WP p l e R s m args below meth c n0 Q h cells slots pc ls (.long x :: .int j :: .ref a :: st) := by
  subst hn
  obtain ⟨hx, hby, hml, hZ, hown, hnm, -⟩ := K
  have F0 := F
  obtain ⟨⟨cl, A, r⟩, -⟩ := F
  intro T locs X e0 N0 Z0
  obtain ⟨T', h', X', e', Wr', st'⟩ := stJ X hx hZ e0 A (idx_ok r h0 hv) (g := mkF m pc ls.toArray (.long x :: .int j :: .ref a :: st)) rfl rfl (hb hby hd)
  obtain ⟨t, o, g1, g2⟩ := W h' Wr' (Ars.same F0 Wr') T' _ X' e' (Fr.snoc X' N0 hg) (by rw [Wr'.size]; exact Z0)
  exact ⟨t, o, st' _ g1, g2⟩
theorem f_st_b {a : Addr} {vs : List Value} {j : Int32} {x : Int32} (K : Cx p s m args meth c Z y code ml ret cI cJ) (F : Ars Z h a .byte vs) (hd : decode code pc = .ok (.bastore, 1)) (hn : pc + 1 = pn) (hg : n0 ≤ a) (h0 : ¬ j < 0) (hv : j.toNatClampNeg < vs.length)
    (W : ∀ h', Wr h h' a j.toNatClampNeg (.int (nar .byte x)) → Ars Z h' a .byte (vs.set j.toNatClampNeg (.int (nar .byte x))) → WP p l e R s m args below meth c n0 Q h' cells slots pn ls st) : WP p l e R s m args below meth c n0 Q h cells slots pc ls (.int x :: .int j :: .ref a :: st) := by
  subst hn
  obtain ⟨hx, hby, hml, hZ, hown, hnm, -⟩ := K
  have F0 := F
  obtain ⟨⟨cl, A, r⟩, -⟩ := F
  intro T locs X e0 N0 Z0
  obtain ⟨T', h', X', e', Wr', st'⟩ := stB X hx hZ e0 A (idx_ok r h0 hv) (g := mkF m pc ls.toArray (.int x :: .int j :: .ref a :: st)) rfl rfl (hb hby hd)
  obtain ⟨t, o, g1, g2⟩ := W h' Wr' (Ars.same F0 Wr') T' _ X' e' (Fr.snoc X' N0 hg) (by rw [Wr'.size]; exact Z0)
  exact ⟨t, o, st' _ g1, g2⟩
theorem f_st_c {a : Addr} {vs : List Value} {j : Int32} {x : Int32} (K : Cx p s m args meth c Z y code ml ret cI cJ) (F : Ars Z h a .char vs) (hd : decode code pc = .ok (.castore, 1)) (hn : pc + 1 = pn) (hg : n0 ≤ a) (h0 : ¬ j < 0) (hv : j.toNatClampNeg < vs.length)
    (W : ∀ h', Wr h h' a j.toNatClampNeg (.int (nar .char x)) → Ars Z h' a .char (vs.set j.toNatClampNeg (.int (nar .char x))) → WP p l e R s m args below meth c n0 Q h' cells slots pn ls st) : WP p l e R s m args below meth c n0 Q h cells slots pc ls (.int x :: .int j :: .ref a :: st) := by
  subst hn
  obtain ⟨hx, hby, hml, hZ, hown, hnm, -⟩ := K
  have F0 := F
  obtain ⟨⟨cl, A, r⟩, -⟩ := F
  intro T locs X e0 N0 Z0
  obtain ⟨T', h', X', e', Wr', st'⟩ := stC X hx hZ e0 A (idx_ok r h0 hv) (g := mkF m pc ls.toArray (.int x :: .int j :: .ref a :: st)) rfl rfl (hb hby hd)
  obtain ⟨t, o, g1, g2⟩ := W h' Wr' (Ars.same F0 Wr') T' _ X' e' (Fr.snoc X' N0 hg) (by rw [Wr'.size]; exact Z0)
  exact ⟨t, o, st' _ g1, g2⟩
theorem f_st_z {a : Addr} {vs : List Value} {j : Int32} {x : Int32} (K : Cx p s m args meth c Z y code ml ret cI cJ) (F : Ars Z h a .boolean vs) (hd : decode code pc = .ok (.bastore, 1)) (hn : pc + 1 = pn) (hg : n0 ≤ a) (h0 : ¬ j < 0) (hv : j.toNatClampNeg < vs.length)
    (W : ∀ h', Wr h h' a j.toNatClampNeg (.int (nar .boolean x)) → Ars Z h' a .boolean (vs.set j.toNatClampNeg (.int (nar .boolean x))) → WP p l e R s m args below meth c n0 Q h' cells slots pn ls st) : WP p l e R s m args below meth c n0 Q h cells slots pc ls (.int x :: .int j :: .ref a :: st) := by
  subst hn
  obtain ⟨hx, hby, hml, hZ, hown, hnm, -⟩ := K
  have F0 := F
  obtain ⟨⟨cl, A, r⟩, -⟩ := F
  intro T locs X e0 N0 Z0
  obtain ⟨T', h', X', e', Wr', st'⟩ := stZ X hx hZ e0 A (idx_ok r h0 hv) (g := mkF m pc ls.toArray (.int x :: .int j :: .ref a :: st)) rfl rfl (hb hby hd)
  obtain ⟨t, o, g1, g2⟩ := W h' Wr' (Ars.same F0 Wr') T' _ X' e' (Fr.snoc X' N0 hg) (by rw [Wr'.size]; exact Z0)
  exact ⟨t, o, st' _ g1, g2⟩
end Calls
end Jvm.Own
namespace Jvm.Own
open Sem ClassFile Op Lib Jvm.Stand Jvm.Free Jvm.LawKit Jvm.RoadKit
/-! own layer 2: the heap as a list of entries (an object with its fields' values in a fixed order, or an array with its elements) -/
abbrev Fds := List (String × String × String)
abbrev Ent := Addr × (Sum (String × Fds) FieldType) × List Value
abbrev Stc := List (String × String × String × Value)
def flds (Z : State) (h : Heap) (a : Addr) (F : Fds) (vs : List Value) : Prop := F.length = vs.length ∧ ∀ (j : Nat) (f : String × String × String) (v : Value), F[j]? = some f → vs[j]? = some v → Fld Z h a f.1 f.2.1 f.2.2 v
def entOk (Z : State) (h : Heap) : Ent → Prop
  | (a, .inl (C, F), vs) => Exa Z h a C ∧ flds Z h a F vs
  | (a, .inr ty, vs) => Ars Z h a ty vs
def Hp (Z : State) (ss : Stc) (h : Heap) (es : List Ent) : Prop := (∀ q ∈ ss, Sta Z h q.1 q.2.1 q.2.2.1 q.2.2.2) ∧ (∀ e ∈ es, entOk Z h e) ∧ (es.map (·.1)).Nodup
/-- the class's fields as the sheet lays them -/
def LayO (Z : State) (a0 : Array Value) (C : String) (F : Fds) : Prop := (∀ f ∈ F, Laid Z a0 C f.1 f.2.1 f.2.2 ∧ (parseFieldDescriptor f.2.2).isSome = true) ∧ (F.map (·.2.1)).Nodup
def putA {α β : Type} : List α → Nat → α → (List α → Option β) → Option β
  | [], _, _, _ => none
  | _ :: r, 0, v, k => k (v :: r)
  | a :: r, n + 1, v, k => putA r n v (fun r' => k (a :: r'))
def updE (es : List Ent) (i : Nat) (a : Addr) (k : Sum (String × Fds) FieldType) (vs : List Value) (j : Nat) (v : Value) : Option (List Ent) := putA vs j v fun vs' => putA es i (a, k, vs') some
section HeapFacts
variable {Z : State} {ss : Stc} {h h' : Heap} {es : List Ent} {a b : Addr} {C : String} {F : Fds} {vs : List Value} {ty : FieldType} {sl : Nat} {v w : Value} {a0 : Array Value}
theorem entOk.lt : ∀ {e : Ent}, entOk Z h e → e.1 < h.size
  | (_, .inl _, _), q => q.1.lt
  | (_, .inr _, _), q => Ars.lt q
theorem entOk.ext (E : Ext h h') : ∀ {e : Ent}, entOk Z h e → entOk Z h' e
  | (_, .inl _, _), q => ⟨q.1.ext E, q.2.1, fun j f v h1 h2 => (q.2.2 j f v h1 h2).ext E⟩
  | (_, .inr _, _), q => Ars.ext q E
theorem entOk.other (W : Wr h h' a sl v) : ∀ {e : Ent}, entOk Z h e → e.1 ≠ a → entOk Z h' e
  | (_, .inl _, _), q, ne => ⟨q.1.wr W, q.2.1, fun j f v h1 h2 => (q.2.2 j f v h1 h2).other W (Or.inl ne)⟩
  | (_, .inr _, _), q, ne => Ars.other q W ne
theorem Hp.ext (E : Ext h h') (H : Hp Z ss h es) : Hp Z ss h' es := ⟨fun q hq => (H.1 q hq).ext E, fun e he => (H.2.1 e he).ext E, H.2.2⟩
theorem Hp.push {e : Ent} (E : Ext h h') (H : Hp Z ss h es) (he : entOk Z h' e) (ea : e.1 = h.size) : Hp Z ss h' (e :: es) := by
  refine ⟨(H.ext E).1, fun q hq => ?_, ?_⟩
  · rcases List.mem_cons.mp hq with rfl | hq
    · exact he
    · exact (H.ext E).2.1 q hq
  · rw [List.map_cons, List.nodup_cons]
    refine ⟨fun hm => ?_, H.2.2⟩
    obtain ⟨q, hq, e1⟩ := List.mem_map.mp hm
    exact absurd (H.2.1 q hq).lt (by rw [e1, ea]; exact Nat.lt_irrefl _)
theorem nodup_idx {α : Type} {L : List α} (hn : L.Nodup) {i j : Nat} {x y : α} (hi : L[i]? = some x) (hj : L[j]? = some y) (ne : i ≠ j) : x ≠ y := fun q => by
  subst q
  obtain ⟨h1, e1⟩ := List.getElem?_eq_some_iff.mp hi
  obtain ⟨h2, e2⟩ := List.getElem?_eq_some_iff.mp hj
  exact ne ((List.getElem_inj hn).mp (e1.trans e2.symm))
theorem Hp.wr {i : Nat} {k : Sum (String × Fds) FieldType} {vs' : List Value} (W : Wr h h' a sl v) (H : Hp Z ss h es) (hi : es[i]? = some (a, k, vs)) (he : entOk Z h' (a, k, vs')) : Hp Z ss h' (es.set i (a, k, vs')) := by
  refine ⟨fun q hq => (H.1 q hq).wr W, fun q hq => ?_, ?_⟩
  · obtain ⟨j, hj⟩ := List.mem_iff_getElem?.mp hq
    rw [List.getElem?_set] at hj
    split at hj
    · split at hj
      · cases hj; exact he
      · cases hj
    · rename_i ne
      refine entOk.other W (H.2.1 q (List.mem_of_getElem? hj)) ?_
      exact nodup_idx H.2.2 (i := j) (j := i) (by simp [hj]) (by simp [hi]) (fun e => ne e.symm)
  · have e1 : (es.set i (a, k, vs')).map (·.1) = es.map (·.1) := by
      rw [List.map_set]
      refine List.ext_getElem? fun n => ?_
      rw [List.getElem?_set]
      split
      · rename_i e; subst e
        obtain ⟨h1, e2⟩ := List.getElem?_eq_some_iff.mp hi
        simp [h1, e2]
      · rfl
    rw [e1]; exact H.2.2
theorem Hp.obj {i : Nat} (H : Hp Z ss h es) (hi : es[i]? = some (a, .inl (C, F), vs)) : Exa Z h a C ∧ flds Z h a F vs := H.2.1 _ (List.mem_of_getElem? hi)
theorem Hp.exa {i : Nat} (H : Hp Z ss h es) (hi : es[i]? = some (a, .inl (C, F), vs)) : Exa Z h a C := (H.obj hi).1
theorem Hp.arr {i : Nat} (H : Hp Z ss h es) (hi : es[i]? = some (a, .inr ty, vs)) : Ars Z h a ty vs := H.2.1 _ (List.mem_of_getElem? hi)
theorem Hp.sta {i : Nat} {D n d : String} (H : Hp Z ss h es) (hi : ss[i]? = some (D, n, d, v)) : Sta Z h D n d v := H.1 _ (List.mem_of_getElem? hi)
theorem flds.put {j : Nat} {O n d : String} (L : LayO Z a0 C F) (W : Wr h h' a (Jvm.RoadKit.slotOf Z O n d) v) (q : flds Z h a F vs) (hj : F[j]? = some (O, n, d)) : flds Z h' a F (vs.set j v) := by
  refine ⟨by rw [List.length_set]; exact q.1, fun i f w hf hw => ?_⟩
  rw [List.getElem?_set] at hw
  split at hw
  · rename_i e; subst e
    cases hf.symm.trans hj
    split at hw
    · rename_i hlt
      cases hw
      exact Fld.same W (q.2 _ _ _ hj (List.getElem?_eq_getElem hlt))
    · cases hw
  · rename_i ne
    have l1 := L.1 f (List.mem_of_getElem? hf)
    have l2 := L.1 _ (List.mem_of_getElem? hj)
    obtain ⟨t1, p1⟩ := Option.isSome_iff_exists.mp l1.2
    obtain ⟨t2, p2⟩ := Option.isSome_iff_exists.mp l2.2
    exact (q.2 i f w hf hw).other W (Or.inr (slot_ne l1.1 l2.1 (nodup_idx L.2 (i := i) (j := j) (by simp [hf]) (by simp [hj]) (fun e => ne e.symm)) p1 p2))
theorem putA_ok {α β : Type} : ∀ (ls : List α) (i : Nat) (v : α) (k : List α → Option β) (b : β), putA ls i v k = some b → i < ls.length ∧ k (ls.set i v) = some b
  | [], _, _, _, _, h => by cases h
  | _ :: r, 0, v, k, b, h => ⟨Nat.zero_lt_succ _, h⟩
  | a :: r, n + 1, v, k, b, h => by
    obtain ⟨h1, h2⟩ := putA_ok r n v (fun r' => k (a :: r')) b h
    exact ⟨Nat.succ_lt_succ h1, h2⟩
theorem updE_ok {i j : Nat} {es' : List Ent} {k : Sum (String × Fds) FieldType} (hu : updE es i a k vs j v = some es') : es' = es.set i (a, k, vs.set j v) := by
  obtain ⟨-, h1⟩ := putA_ok _ _ _ _ _ hu
  obtain ⟨-, h2⟩ := putA_ok _ _ _ _ _ h1
  exact (Option.some.inj h2).symm
def takeE {β : Type} : List Ent → Nat → (Ent → List Ent → Option β) → Option β
  | [], _, _ => none
  | a :: r, 0, k => k a r
  | a :: r, n + 1, k => takeE r n (fun x r' => k x (a :: r'))
theorem takeE_ok {β : Type} : ∀ (es : List Ent) (i : Nat) (k : Ent → List Ent → Option β) (b : β), takeE es i k = some b → ∃ x r, k x r = some b ∧ (x :: r).Perm es
  | [], _, _, _, h => by cases h
  | a :: r, 0, k, b, h => ⟨a, r, h, List.Perm.refl _⟩
  | a :: r, n + 1, k, b, h => by
    obtain ⟨x, r', h1, h2⟩ := takeE_ok r n (fun x r' => k x (a :: r')) b h
    exact ⟨x, a :: r', h1, (List.Perm.swap a x r').trans (h2.cons a)⟩
def frontE (es : List Ent) (i : Nat) : Option (List Ent) := takeE es i fun x r => some (x :: r)
/-- the i-th entry to the front -/
theorem Hp.front {es' : List Ent} (H : Hp Z ss h es) (i : Nat) (hf : frontE es i = some es') : Hp Z ss h es' := by
  obtain ⟨x, r, h1, h2⟩ := takeE_ok _ _ _ _ hf
  cases h1
  exact ⟨H.1, fun e he => H.2.1 e (h2.mem_iff.mp he), ((h2.map (·.1)).nodup_iff).mpr H.2.2⟩
/-- an entry is forgotten -/
theorem Hp.tail {e : Ent} (H : Hp Z ss h (e :: es)) : Hp Z ss h es := ⟨H.1, fun q hq => H.2.1 q (List.mem_cons_of_mem _ hq), (List.nodup_cons.mp H.2.2).2⟩
theorem Hp.nil (h1 : ∀ q ∈ ss, Sta Z h q.1 q.2.1 q.2.2.1 q.2.2.2) : Hp Z ss h [] := ⟨h1, nilI, List.nodup_nil⟩
theorem nodup_of_map {α β : Type} (f : α → β) : ∀ {l : List α}, (l.map f).Nodup → l.Nodup
  | [], _ => List.nodup_nil
  | a :: l, q => by
    rw [List.map_cons, List.nodup_cons] at q
    exact List.nodup_cons.mpr ⟨fun z => q.1 (List.mem_map_of_mem z), nodup_of_map f q.2⟩
theorem ord_of {args : Array Value} {t : Term} {k : Int32} {D n d : String} (ev : t.eval args Z none [] Z = some (.ref a)) (hq : (Jvm.Cond.eq (Term.field t D n d) (Term.int k)).value args Z none Z [] = some true) : Z.fieldOf? a D n d = some (.int k) := by
  have e1 : (Term.field t D n d).eval args Z none [] Z = Z.fieldOf? a D n d := by simp [Term.eval, ev]
  have e2 : (Term.int k).eval args Z none [] Z = some (.int k) := rfl
  simp only [Cond.value, e1, e2] at hq
  cases hz : Z.fieldOf? a D n d with
  | none => simp [hz] at hq
  | some v => cases v <;> simp_all
end HeapFacts
section HeapSteps
variable {p : Program} {l : Launch} {e : Env} {R : Room} {s : State} {m : MethodId} {args : Array Value} {below : List Frame} {meth : Method} {c : Code} {cells slots : Nat} {Z : State} {a0 : Array Value} {h : Heap} {y : MethodName} {code : ByteArray} {ml : Nat} {ret : Option FieldType} {cI : List (Nat × Int32)} {cJ : List (Nat × Int64)} {n0 : Nat} {Q : Option Value → Heap → Prop} {pc pn : Nat} {ls : List Slot} {st : List Value} {ss : Stc} {es : List Ent}
theorem h_new {C : String} {idx n : Nat} (K : Cx p s m args meth c Z y code ml ret cI cJ) (H : Hp Z ss h es) (F : Fds) (vs : List Value) (L : LayO Z a0 C F) (hvs : F.map (fun f => (parseFieldDescriptor f.2.2).map defaultValue) = vs.map some) (w : (Jvm.Cond.classLink y.cls idx C).before a0 Z = true) (wi : (Jvm.Cond.instantiable C n).before a0 Z = true) (wz : (Jvm.Cond.initialized C).before a0 Z = true) (hd : decode code pc = .ok (.new idx, 3)) (hn : pc + 3 = pn) (hc : cells + 1 ≤ R.cells) (hl : slots + n ≤ R.slots)
    (W : ∀ h' a, n0 ≤ a → Hp Z ss h' ((a, .inl (C, F), vs) :: es) → WP p l e R s m args below meth c n0 Q h' (cells + 1) (slots + n) pn ls (.ref a :: st)) : WP p l e R s m args below meth c n0 Q h cells slots pc ls st := by
  refine f_new K w wi wz hd hn hc hl fun h' a ea ga E A D => W h' a ga (H.push E (e := (a, .inl (C, F), vs)) ⟨A, ?_, fun j f v hf hv => ?_⟩ ea)
  · have := congrArg List.length hvs
    simpa using this
  · have l1 := L.1 f (List.mem_of_getElem? hf)
    obtain ⟨t, ht⟩ := Option.isSome_iff_exists.mp l1.2
    have q := congrArg (·[j]?) hvs
    simp only [List.getElem?_map, hf, hv, Option.map_some, ht, Option.some.injEq] at q
    rw [← q]
    exact D l1.1 ht
theorem h_newarr {aty : ArrayType} {n : Int32} (K : Cx p s m args meth c Z y code ml ret cI cJ) (H : Hp Z ss h es) (w : (Jvm.Cond.arrayClass (newarray.typeOf aty)).before a0 Z = true) (hd : decode code pc = .ok (.newarray aty, 2)) (hn : pc + 2 = pn) (vs : List Value) (hvs : vs = List.replicate n.toNatClampNeg (defaultValue (newarray.typeOf aty))) (hn0 : ¬ n < 0) (cap : Nat) (hcap : n.toNatClampNeg ≤ cap) (hb' : cap * 8 ≤ 536870912) (hc : cells + 1 ≤ R.cells) (hl : slots + cap ≤ R.slots)
    (W : ∀ h' a, n0 ≤ a → Hp Z ss h' ((a, .inr (newarray.typeOf aty), vs) :: es) → WP p l e R s m args below meth c n0 Q h' (cells + 1) (slots + cap) pn ls (.ref a :: st)) : WP p l e R s m args below meth c n0 Q h cells slots pc ls (.int n :: st) := by
  subst hvs
  exact f_newarr K w hd hn hn0 cap hcap hb' hc hl fun h' a ea ga E A => W h' a ga (H.push E (e := (a, .inr (newarray.typeOf aty), _)) A ea)
theorem h_get {R0 O n d host C : String} {F : Fds} {vs : List Value} {idx i j : Nat} {a : Addr} {v : Value} (K : Cx p s m args meth c Z y code ml ret cI cJ) (H : Hp Z ss h es) (hi : es[i]? = some (a, .inl (C, F), vs)) (hj : F[j]? = some (O, n, d)) (hv : vs[j]? = some v) (w : (Jvm.Cond.fieldLink y.cls idx R0 n d).before a0 Z = true ∨ (Jvm.Cond.fieldLinkNest y.cls idx R0 n d host).before a0 Z = true) (via : Via Z R0 O n d) (hd : decode code pc = .ok (.getfield idx, 3)) (hn : pc + 3 = pn)
    (W : WP p l e R s m args below meth c n0 Q h cells slots pn ls (v :: st)) : WP p l e R s m args below meth c n0 Q h cells slots pc ls (.ref a :: st) :=
  f_get K w via ((H.obj hi).2.2 j _ v hj hv) hd hn W
theorem h_put {R0 O n d host C : String} {F : Fds} {vs : List Value} {idx kk i j : Nat} {ty : FieldType} {a : Addr} {v : Value} {es' : List Ent} (K : Cx p s m args meth c Z y code ml ret cI cJ) (H : Hp Z ss h es) (LL : LayO Z a0 C F) (hi : es[i]? = some (a, .inl (C, F), vs)) (hj : F[j]? = some (O, n, d)) (hu : updE es i a (.inl (C, F)) vs j v = some es') (w : (Jvm.Cond.fieldLink y.cls idx R0 n d).before a0 Z = true ∨ (Jvm.Cond.fieldLinkNest y.cls idx R0 n d host).before a0 Z = true) (via : Via Z R0 O n d)
    (L : (Jvm.Cond.lays C O n d).before a0 Z = true ∨ ((Jvm.Cond.laysFinal C O n d).before a0 Z = true ∧ y.cls = O ∧ y.name = "<init>")) (wi : (Jvm.Cond.instantiable C kk).before a0 Z = true) (hty : parseFieldDescriptor d = some ty) (hnw : narrow ty v = v) (hf : fits ty v = true) (hd : decode code pc = .ok (.putfield idx, 3)) (hn : pc + 3 = pn) (hg : n0 ≤ a)
    (W : ∀ h', Hp Z ss h' es' → WP p l e R s m args below meth c n0 Q h' cells slots pn ls st) : WP p l e R s m args below meth c n0 Q h cells slots pc ls (v :: .ref a :: st) := by
  obtain rfl := updE_ok hu
  obtain ⟨E, fl⟩ := H.obj hi
  have hlt : j < vs.length := by rw [← fl.1]; exact (List.getElem?_eq_some_iff.mp hj).1
  exact f_put K w via (fl.2 j _ _ hj (List.getElem?_eq_getElem hlt)) E L wi hty hnw hf hd hn hg fun h' Wr' => W h' (H.wr Wr' hi ⟨E.wr Wr', fl.put LL Wr' hj⟩)
theorem h_putn {R0 O n d C : String} {F : Fds} {vs : List Value} {idx kk i j : Nat} {ty : FieldType} {a : Addr} {v v' : Value} {es' : List Ent} (K : Cx p s m args meth c Z y code ml ret cI cJ) (H : Hp Z ss h es) (LL : LayO Z a0 C F) (hi : es[i]? = some (a, .inl (C, F), vs)) (hj : F[j]? = some (O, n, d)) (hnw : narrow ty v = v') (hu : updE es i a (.inl (C, F)) vs j v' = some es') (w : (Jvm.Cond.fieldLink y.cls idx R0 n d).before a0 Z = true) (via : Via Z R0 O n d)
    (L : (Jvm.Cond.lays C O n d).before a0 Z = true ∨ ((Jvm.Cond.laysFinal C O n d).before a0 Z = true ∧ y.cls = O ∧ y.name = "<init>")) (wi : (Jvm.Cond.instantiable C kk).before a0 Z = true) (hty : parseFieldDescriptor d = some ty) (hf : fits ty v' = true) (hd : decode code pc = .ok (.putfield idx, 3)) (hn : pc + 3 = pn) (hg : n0 ≤ a)
    (W : ∀ h', Hp Z ss h' es' → WP p l e R s m args below meth c n0 Q h' cells slots pn ls st) : WP p l e R s m args below meth c n0 Q h cells slots pc ls (v :: .ref a :: st) := by
  obtain rfl := updE_ok hu
  obtain ⟨E, fl⟩ := H.obj hi
  have hlt : j < vs.length := by rw [← fl.1]; exact (List.getElem?_eq_some_iff.mp hj).1
  exact f_putn K w via (fl.2 j _ _ hj (List.getElem?_eq_getElem hlt)) E L wi hty hnw hf hd hn hg fun h' Wr' => W h' (H.wr Wr' hi ⟨E.wr Wr', fl.put LL Wr' hj⟩)
theorem h_sta {R0 O n d host : String} {idx i : Nat} {v : Value} (K : Cx p s m args meth c Z y code ml ret cI cJ) (H : Hp Z ss h es) (hi : ss[i]? = some (O, n, d, v)) (w : (Jvm.Cond.fieldLink y.cls idx R0 n d).before a0 Z = true ∨ (Jvm.Cond.fieldLinkNest y.cls idx R0 n d host).before a0 Z = true) (via : Via Z R0 O n d) (hd : decode code pc = .ok (.getstatic idx, 3)) (hn : pc + 3 = pn)
    (W : WP p l e R s m args below meth c n0 Q h cells slots pn ls (v :: st)) : WP p l e R s m args below meth c n0 Q h cells slots pc ls st := f_sta K w via (H.sta hi) hd hn W
theorem h_len {a : Addr} {ty : FieldType} {vs : List Value} {i : Nat} (K : Cx p s m args meth c Z y code ml ret cI cJ) (H : Hp Z ss h es) (hi : es[i]? = some (a, .inr ty, vs)) (hd : decode code pc = .ok (.arraylength, 1)) (hn : pc + 1 = pn) (z : Int32) (hz : vs.length.toInt32 = z) (W : WP p l e R s m args below meth c n0 Q h cells slots pn ls (.int z :: st)) : WP p l e R s m args below meth c n0 Q h cells slots pc ls (.ref a :: st) :=
  f_len K (H.arr hi) hd hn (by rw [hz]; exact W)
theorem h_ld_i {a : Addr} {vs : List Value} {j : Int32} {i : Nat} {v : Value} (K : Cx p s m args meth c Z y code ml ret cI cJ) (H : Hp Z ss h es) (hi : es[i]? = some (a, .inr .int, vs)) (hd : decode code pc = .ok (.iaload, 1)) (hn : pc + 1 = pn) (h0 : ¬ j < 0) (hv : vs[j.toNatClampNeg]? = some v) (W : WP p l e R s m args below meth c n0 Q h cells slots pn ls (v :: st)) : WP p l e R s m args below meth c n0 Q h cells slots pc ls (.int j :: .ref a :: st) :=
  f_ld_i K (H.arr hi) hd hn h0 hv W
theorem h_ld_l {a : Addr} {vs : List Value} {j : Int32} {i : Nat} {v : Value} (K : Cx p s m args meth c Z y code ml ret cI cJ) (H : Hp Z ss h es) (hi : es[i]? = some (a, .inr .long, vs)) (hd : decode code pc = .ok (.laload, 1)) (hn : pc + 1 = pn) (h0 : ¬ j < 0) (hv : vs[j.toNatClampNeg]? = some v) (W : WP p l e R s m args below meth c n0 Q h cells slots pn ls (v :: st)) : WP p l e R s m args below meth c n0 Q h cells slots pc ls (.int j :: .ref a :: st) :=
  f_ld_l K (H.arr hi) hd hn h0 hv W
theorem h_ld_b {a : Addr} {vs : List Value} {j : Int32} {i : Nat} {v : Value} (K : Cx p s m args meth c Z y code ml ret cI cJ) (H : Hp Z ss h es) (hi : es[i]? = some (a, .inr .byte, vs)) (hd : decode code pc = .ok (.baload, 1)) (hn : pc + 1 = pn) (h0 : ¬ j < 0) (hv : vs[j.toNatClampNeg]? = some v) (W : WP p l e R s m args below meth c n0 Q h cells slots pn ls (v :: st)) : WP p l e R s m args below meth c n0 Q h cells slots pc ls (.int j :: .ref a :: st) :=
  f_ld_b K (H.arr hi) hd hn h0 hv W
theorem h_ld_c {a : Addr} {vs : List Value} {j : Int32} {i : Nat} {v : Value} (K : Cx p s m args meth c Z y code ml ret cI cJ) (H : Hp Z ss h es) (hi : es[i]? = some (a, .inr .char, vs)) (hd : decode code pc = .ok (.caload, 1)) (hn : pc + 1 = pn) (h0 : ¬ j < 0) (hv : vs[j.toNatClampNeg]? = some v) (W : WP p l e R s m args below meth c n0 Q h cells slots pn ls (v :: st)) : WP p l e R s m args below meth c n0 Q h cells slots pc ls (.int j :: .ref a :: st) :=
  f_ld_c K (H.arr hi) hd hn h0 hv W
theorem h_ld_a {a : Addr} {ty : FieldType} {vs : List Value} {j : Int32} {i : Nat} {v : Value} (K : Cx p s m args meth c Z y code ml ret cI cJ) (H : Hp Z ss h es) (hi : es[i]? = some (a, .inr ty, vs)) (ht : ty.isReference = true) (hd : decode code pc = .ok (.aaload, 1)) (hn : pc + 1 = pn) (h0 : ¬ j < 0) (hv : vs[j.toNatClampNeg]? = some v) (W : WP p l e R s m args below meth c n0 Q h cells slots pn ls (v :: st)) : WP p l e R s m args below meth c n0 Q h cells slots pc ls (.int j :: .ref a :: st) :=
  f_ld_a K (H.arr hi) ht hd hn h0 hv W
theorem h_st_i {a : Addr} {vs : List Value} {j : Int32} {x : Int32} {i q : Nat} {v : Value} {es' : List Ent} (K : Cx p s m args meth c Z y code ml ret cI cJ) (H : Hp Z ss h es) (hi : es[i]? = some (a, .inr .int, vs)) (hq : j.toNatClampNeg = q) (hx : (.int x) = v) (hu : updE es i a (.inr .int) vs q v = some es') (hd : decode code pc = .ok (.iastore, 1)) (hn : pc + 1 = pn) (hg : n0 ≤ a) (h0 : ¬ j < 0)
    (W : ∀ h', Hp Z ss h' es' → WP p l e R s m args below meth c n0 Q h' cells slots pn ls st) : WP p l e R s m args below meth c n0 Q h cells slots pc ls (.int x :: .int j :: .ref a :: st) := by
  subst hq hx
  have hlt : j.toNatClampNeg < vs.length := (putA_ok _ _ _ _ _ hu).1
  obtain rfl := updE_ok hu
  exact f_st_i K (H.arr hi) hd hn hg h0 hlt fun h' Wr' A => W h' (H.wr Wr' hi A)
theorem h_st_l {a : Addr} {vs : List Value} {j : Int32} {x : Int64} {i q : Nat} {v : Value} {es' : List Ent} (K : Cx p s m args meth c Z y code ml ret cI cJ) (H : Hp Z ss h es) (hi : es[i]? = some (a, .inr .long, vs)) (hq : j.toNatClampNeg = q) (hx : (.long x) = v) (hu : updE es i a (.inr .long) vs q v = some es') (hd : decode code pc = .ok (.lastore, 1)) (hn : pc + 1 = pn) (hg : n0 ≤ a) (h0 : ¬ j < 0)
    (W : ∀ h', Hp Z ss h' es' → WP p l e R s m args below meth c n0 Q h' cells slots pn ls st) : WP p l e R s m args below meth c n0 Q h cells slots pc ls (.long x :: .int j :: .ref a :: st) := by
  subst hq hx
  have hlt : j.toNatClampNeg < vs.length := (putA_ok _ _ _ _ _ hu).1
  obtain rfl := updE_ok hu
  exact f_st_l K (H.arr hi) hd hn hg h0 hlt fun h' Wr' A => W h' (H.wr Wr' hi A)
theorem h_st_b {a : Addr} {vs : List Value} {j : Int32} {x : Int32} {i q : Nat} {v : Value} {es' : List Ent} (K : Cx p s m args meth c Z y code ml ret cI cJ) (H : Hp Z ss h es) (hi : es[i]? = some (a, .inr .byte, vs)) (hq : j.toNatClampNeg = q) (hx : (.int (nar .byte x)) = v) (hu : updE es i a (.inr .byte) vs q v = some es') (hd : decode code pc = .ok (.bastore, 1)) (hn : pc + 1 = pn) (hg : n0 ≤ a) (h0 : ¬ j < 0)
    (W : ∀ h', Hp Z ss h' es' → WP p l e R s m args below meth c n0 Q h' cells slots pn ls st) : WP p l e R s m args below meth c n0 Q h cells slots pc ls (.int x :: .int j :: .ref a :: st) := by
  subst hq hx
  have hlt : j.toNatClampNeg < vs.length := (putA_ok _ _ _ _ _ hu).1
  obtain rfl := updE_ok hu
  exact f_st_b K (H.arr hi) hd hn hg h0 hlt fun h' Wr' A => W h' (H.wr Wr' hi A)
theorem h_st_c {a : Addr} {vs : List Value} {j : Int32} {x : Int32} {i q : Nat} {v : Value} {es' : List Ent} (K : Cx p s m args meth c Z y code ml ret cI cJ) (H : Hp Z ss h es) (hi : es[i]? = some (a, .inr .char, vs)) (hq : j.toNatClampNeg = q) (hx : (.int (nar .char x)) = v) (hu : updE es i a (.inr .char) vs q v = some es') (hd : decode code pc = .ok (.castore, 1)) (hn : pc + 1 = pn) (hg : n0 ≤ a) (h0 : ¬ j < 0)
    (W : ∀ h', Hp Z ss h' es' → WP p l e R s m args below meth c n0 Q h' cells slots pn ls st) : WP p l e R s m args below meth c n0 Q h cells slots pc ls (.int x :: .int j :: .ref a :: st) := by
  subst hq hx
  have hlt : j.toNatClampNeg < vs.length := (putA_ok _ _ _ _ _ hu).1
  obtain rfl := updE_ok hu
  exact f_st_c K (H.arr hi) hd hn hg h0 hlt fun h' Wr' A => W h' (H.wr Wr' hi A)
theorem h_st_z {a : Addr} {vs : List Value} {j : Int32} {x : Int32} {i q : Nat} {v : Value} {es' : List Ent} (K : Cx p s m args meth c Z y code ml ret cI cJ) (H : Hp Z ss h es) (hi : es[i]? = some (a, .inr .boolean, vs)) (hq : j.toNatClampNeg = q) (hx : (.int (nar .boolean x)) = v) (hu : updE es i a (.inr .boolean) vs q v = some es') (hd : decode code pc = .ok (.bastore, 1)) (hn : pc + 1 = pn) (hg : n0 ≤ a) (h0 : ¬ j < 0)
    (W : ∀ h', Hp Z ss h' es' → WP p l e R s m args below meth c n0 Q h' cells slots pn ls st) : WP p l e R s m args below meth c n0 Q h cells slots pc ls (.int x :: .int j :: .ref a :: st) := by
  subst hq hx
  have hlt : j.toNatClampNeg < vs.length := (putA_ok _ _ _ _ _ hu).1
  obtain rfl := updE_ok hu
  exact f_st_z K (H.arr hi) hd hn hg h0 hlt fun h' Wr' A => W h' (H.wr Wr' hi A)
end HeapSteps
end Jvm.Own
namespace Jvm.Own
open Sem ClassFile Op Lib Jvm.Stand Jvm.Free Jvm.LawKit Jvm.RoadKit
/-! own layer 3: arrays with contents that are not spelt out; clone; arraycopy; casts -/
section HeapMore
variable {Z : State} {ss : Stc} {h h' : Heap} {es : List Ent} {a b : Addr} {C : String} {F : Fds} {vs : List Value} {ty : FieldType} {sl : Nat} {v w : Value} {a0 : Array Value}
theorem entOk.keep (K : Keep h h' [a]) : ∀ {e : Ent}, entOk Z h e → e.1 ≠ a → entOk Z h' e
  | (_, .inl _, _), q, ne => ⟨q.1.keep K, q.2.1, fun j f v h1 h2 => (q.2.2 j f v h1 h2).keep K (fun z => ne (List.mem_singleton.mp z))⟩
  | (_, .inr _, _), q, ne => Ars.keep q K (fun z => ne (List.mem_singleton.mp z))
theorem sta_keep {D n d : String} (S : Sta Z h D n d v) (K : Keep h h' [a]) (A : Ars Z h a ty vs) : Sta Z h' D n d v := by
  obtain ⟨cf, i, k, f, st, cell, h1, h2, h3, h4, h5, h6, h7⟩ := S
  refine ⟨cf, i, k, f, st, cell, h1, h2, h3, h4, K.2.1 st cell h5 (fun z => ?_), h6, h7⟩
  obtain rfl := List.mem_singleton.mp z
  obtain ⟨⟨cl, A, -⟩, -⟩ := A
  cases h5.symm.trans A.1
  rw [A.plain] at h6; cases h6
theorem Hp.keep {i : Nat} {vs' : List Value} (K : Keep h h' [a]) (H : Hp Z ss h es) (hi : es[i]? = some (a, .inr ty, vs)) (he : Ars Z h' a ty vs') : Hp Z ss h' (es.set i (a, .inr ty, vs')) := by
  have A := H.arr hi
  refine ⟨fun q hq => sta_keep (H.1 q hq) K A, fun q hq => ?_, ?_⟩
  · obtain ⟨j, hj⟩ := List.mem_iff_getElem?.mp hq
    rw [List.getElem?_set] at hj
    split at hj
    · split at hj
      · cases hj; exact he
      · cases hj
    · rename_i ne
      refine entOk.keep K (H.2.1 q (List.mem_of_getElem? hj)) ?_
      exact nodup_idx H.2.2 (i := j) (j := i) (by simp [hj]) (by simp [hi]) (fun e => ne e.symm)
  · have e1 : (es.set i (a, .inr ty, vs')).map (·.1) = es.map (·.1) := by
      rw [List.map_set]
      refine List.ext_getElem? fun n => ?_
      rw [List.getElem?_set]
      split
      · rename_i e; subst e
        obtain ⟨h1, e2⟩ := List.getElem?_eq_some_iff.mp hi
        simp [h1, e2]
      · rfl
    rw [e1]; exact H.2.2
theorem len32 {n : Nat} (h : n < 2 ^ 31) : n.toInt32.toNatClampNeg = n ∧ ¬ n.toInt32 < 0 := by
  have q : n.toInt32.toInt = n := len_toInt h
  refine ⟨by simp only [Int32.toNatClampNeg, q]; omega, ?_⟩
  rw [Int32.lt_iff_toInt_lt, q]; simp only [Int32.reduceToInt]; omega
theorem Ars.arv (A : Ars Z h a ty vs) (hl : vs.length < 2 ^ 31) (hf : ∀ v ∈ vs, fits ty v = true) : ∃ k, Arv Z h a k ty vs.length.toInt32 vs .null := by
  obtain ⟨⟨cl, A, r⟩, -⟩ := A
  have hs : cl.slots.size = vs.length := by rw [r]; simp
  refine ⟨cl.cls, cl, A, rfl, by rw [hs, (len32 hl).1], (len32 hl).2, fun k hk => ?_, fun i hi => ?_⟩
  · rw [hs] at hk
    rw [r]; simp [List.getD_eq_getElem?_getD, List.getElem?_eq_getElem hk]
  · rw [hs] at hi
    rw [List.getD_eq_getElem?_getD, List.getElem?_eq_getElem hi]
    exact hf _ (List.getElem_mem hi)
theorem Ars.of_arv {k : ClassId} {n : Int32} {d : Value} (A : Arv Z h a k ty n vs d) (hl : vs.length = n.toNatClampNeg) (E : Exa Z h a ("[" ++ ty.toString)) : Ars Z h a ty vs := by
  obtain ⟨cl, A, -, S, -, H, -⟩ := A
  refine ⟨⟨cl, A, Array.ext_getElem? fun i => ?_⟩, E⟩
  by_cases hi : i < cl.slots.size
  · rw [H i hi]
    have h2 : i < vs.length := by omega
    simp [List.getD_eq_getElem?_getD, List.getElem?_eq_getElem h2]
  · have h2 : ¬ i < vs.length := by omega
    simp [hi, h2]
theorem Hp.cast {i : Nat} {ad : String} (H : Hp Z ss h es) (hi : es[i]? = some (a, .inr ty, vs)) (had : "[" ++ ty.toString = ad) : Ins Z h a ad true := had ▸ Ins.self (H.arr hi).2
end HeapMore
section MoreSteps
variable {p : Program} {l : Launch} {e : Env} {R : Room} {s : State} {m : MethodId} {args : Array Value} {below : List Frame} {meth : Method} {c : Code} {cells slots : Nat} {Z : State} {a0 : Array Value} {h : Heap} {y : MethodName} {code : ByteArray} {ml : Nat} {ret : Option FieldType} {cI : List (Nat × Int32)} {cJ : List (Nat × Int64)} {n0 : Nat} {Q : Option Value → Heap → Prop} {pc pn : Nat} {ls : List Slot} {st : List Value} {ss : Stc} {es : List Ent}
/-- System.arraycopy of primitive arrays of one kind -/
theorem h_copy {idx i j : Nat} {a b : Addr} {ty : FieldType} {vs vd vd' : List Value} {sp dp nn : Int32} {es' : List Ent} (K : Cx p s m args meth c Z y code ml ret cI cJ) (H : Hp Z ss h es) (hi : es[i]? = some (a, .inr ty, vs)) (hj : es[j]? = some (b, .inr ty, vd)) (hty : refKind ty = false)
    (w1 : (Jvm.Cond.methodLink y.cls idx Jvm.Stand.acN).before a0 Z = true) (w2 : (Jvm.Cond.native Jvm.Stand.acN).before a0 Z = true) (w3 : (Jvm.Cond.static Jvm.Stand.acN).before a0 Z = true) (w4 : (Jvm.Cond.initialized "java/lang/System").before a0 Z = true)
    (hl1 : vs.length < 2 ^ 31) (hl2 : vd.length < 2 ^ 31) (f1 : ∀ v ∈ vs, fits ty v = true) (f2 : ∀ v ∈ vd, fits ty v = true) (h1 : ¬ sp < 0) (h2 : ¬ dp < 0) (h3 : ¬ nn < 0) (h4 : sp.toNatClampNeg + nn.toNatClampNeg ≤ vs.length) (h5 : dp.toNatClampNeg + nn.toNatClampNeg ≤ vd.length)
    (hvd : vd.take dp.toNatClampNeg ++ (vs.drop sp.toNatClampNeg).take nn.toNatClampNeg ++ vd.drop (dp.toNatClampNeg + nn.toNatClampNeg) = vd') (hu : putA es j (b, .inr ty, vd') some = some es')
    (hd : decode code pc = .ok (.invokestatic idx, 3)) (hn : pc + 3 = pn) (hls : ls.length = ml) (hg : n0 ≤ b) (hf : 1 ≤ R.frames) (hlo : (st.map fun v => v.category).sum + (nativeFrameWords "java/lang/System" "arraycopy" 5 + 11) ≤ R.locals)
    (W : ∀ h', Hp Z ss h' es' → WP p l e R s m args below meth c n0 Q h' cells slots pn ls st) : WP p l e R s m args below meth c n0 Q h cells slots pc ls (.int nn :: .int dp :: .ref b :: .int sp :: .ref a :: st) := by
  obtain ⟨-, hu'⟩ := putA_ok _ _ _ _ _ hu
  obtain rfl := Option.some.inj hu'
  subst hn
  obtain ⟨hx, hby, hml, hZ, hown, hnm, -⟩ := K
  intro T locs X e0 N0 Z0
  obtain ⟨k1, A1⟩ := (H.arr hi).arv hl1 f1
  obtain ⟨k2, A2⟩ := (H.arr hj).arv hl2 f2
  have e1 := (len32 hl1).1
  have e2 := (len32 hl2).1
  obtain ⟨T', h', L, X', e', N', K', A', st'⟩ := cpA X hx hZ hown w1 w2 w3 w4 e0 A1 A2 (Or.inl ⟨rfl, hty⟩) h1 h2 h3 (by rw [e1]; exact h4) (by rw [e2]; exact h5) rfl h5 N0 hg (g := mkF m pc ls.toArray (.int nn :: .int dp :: .ref b :: .int sp :: .ref a :: st)) rfl (by rw [hml]; simpa using hls) rfl (hb hby hd) hf (W := (st.map fun v => v.category).sum) (by show 2 * 0 + _ ≤ _; omega) hlo
  have e3 : ((List.range nn.toNatClampNeg).map fun i => vs.getD (sp.toNatClampNeg + i) .null) = (vs.drop sp.toNatClampNeg).take nn.toNatClampNeg := by
    refine List.ext_getElem (by simp; omega) fun k hk1 hk2 => ?_
    have : k < nn.toNatClampNeg := by simpa using hk1
    have h6 : sp.toNatClampNeg + k < vs.length := by omega
    simp [List.getD_eq_getElem?_getD, List.getElem?_eq_getElem h6]
  rw [e3, hvd] at A'
  have hlen : vd'.length = vd.length := by rw [← hvd]; simp; omega
  obtain ⟨t, o, g1, g2⟩ := W h' (H.keep K' hj (Ars.of_arv A' (by rw [e2]; exact hlen) ((H.arr hj).2.keep K'))) T' L X' e' N' (Nat.le_trans Z0 K'.1)
  exact ⟨t, o, st' _ g1, g2⟩
/-- a primitive array's clone -/
theorem h_clone {idx i cap : Nat} {a : Addr} {ty : FieldType} {ad : String} {vs : List Value} (K : Cx p s m args meth c Z y code ml ret cI cJ) (H : Hp Z ss h es) (hi : es[i]? = some (a, .inr ty, vs)) (had : "[" ++ ty.toString = ad) (f1 : ∀ v ∈ vs, fits ty v = true)
    (w1 : (Jvm.Cond.methodLink y.cls idx ⟨ad, "clone", "()Ljava/lang/Object;"⟩).before a0 Z = true) (w2 : (Jvm.Cond.sameMethod ad "java/lang/Object" "clone" "()Ljava/lang/Object;").before a0 Z = true) (w3 : (Jvm.Cond.native ⟨"java/lang/Object", "clone", "()Ljava/lang/Object;"⟩).before a0 Z = true)
    (w4 : (Jvm.Cond.instanceMethod ⟨"java/lang/Object", "clone", "()Ljava/lang/Object;"⟩).before a0 Z = true) (w5 : (Jvm.Cond.selects ad ⟨ad, "clone", "()Ljava/lang/Object;"⟩ ⟨"java/lang/Object", "clone", "()Ljava/lang/Object;"⟩).before a0 Z = true) (w6 : (Jvm.Cond.castable ad "java/lang/Cloneable").before a0 Z = true)
    (hd : decode code pc = .ok (.invokevirtual idx, 3)) (hn : pc + 3 = pn) (hls : ls.length = ml) (hf : 1 ≤ R.frames) (hlo : (st.map fun v => v.category).sum + 14 ≤ R.locals) (hcap : vs.length ≤ cap) (hc : cells + 1 ≤ R.cells) (hsl : slots + cap ≤ R.slots)
    (W : ∀ h' b, n0 ≤ b → Hp Z ss h' ((b, .inr ty, vs) :: es) → WP p l e R s m args below meth c n0 Q h' (cells + 1) (slots + cap) pn ls (.ref b :: st)) : WP p l e R s m args below meth c n0 Q h cells slots pc ls (.ref a :: st) := by
  subst hn
  obtain ⟨hx, hby, hml, hZ, hown, hnm, -⟩ := K
  intro T locs X e0 N0 Z0
  subst had
  obtain ⟨⟨cl, A, r⟩, E⟩ := H.arr hi
  have hs : cl.slots.size = vs.length := by rw [r]; simp
  obtain ⟨T', h', X', e', E', A', E2, st'⟩ := cloneA X hx hZ hown w1 w2 w3 w4 w5 w6 e0 A E (fitC_of A fun i hi v hv => f1 v (by rw [r] at hv; exact List.mem_of_getElem? (by simpa using hv))) (g := mkF m pc ls.toArray (.ref a :: st)) rfl (by rw [hml]; simpa using hls) rfl (hb hby hd) hf (W := (st.map fun v => v.category).sum) (cap := cap) (by show 2 * 0 + _ ≤ _; omega) hlo (by omega) hc hsl
  obtain ⟨t, o, g1, g2⟩ := W h' _ Z0 (H.push E' (e := (h.size, .inr ty, vs)) ⟨⟨_, A', r⟩, E2⟩ rfl) T' _ X' e' N0 (Nat.le_trans Z0 E'.1)
  exact ⟨t, o, st' _ g1, g2⟩
theorem f_cast {idx : Nat} {a : Addr} {D : String} (K : Cx p s m args meth c Z y code ml ret cI cJ) (w : (Jvm.Cond.classLink y.cls idx D).before a0 Z = true) (I : Ins Z h a D true) (hd : decode code pc = .ok (.checkcast idx, 3)) (hn : pc + 3 = pn) (W : WP p l e R s m args below meth c n0 Q h cells slots pn ls (.ref a :: st)) : WP p l e R s m args below meth c n0 Q h cells slots pc ls (.ref a :: st) := by
  subst hn
  obtain ⟨hx, hby, hml, hZ, hown, hnm, -⟩ := K
  refine WP.step (fun T locs X e0 N0 Z0 => ?_) W
  obtain ⟨T', X', e', st'⟩ := castY X hx hZ hown w e0 I (g := mkF m pc ls.toArray (.ref a :: st)) rfl rfl (hb hby hd)
  exact ⟨T', locs, X', e', N0, Z0, st'⟩
theorem f_inst {idx : Nat} {a : Addr} {D : String} (K : Cx p s m args meth c Z y code ml ret cI cJ) (w : (Jvm.Cond.classLink y.cls idx D).before a0 Z = true) (I : Ins Z h a D true) (hd : decode code pc = .ok (.instanceof idx, 3)) (hn : pc + 3 = pn) (W : WP p l e R s m args below meth c n0 Q h cells slots pn ls (.int 1 :: st)) : WP p l e R s m args below meth c n0 Q h cells slots pc ls (.ref a :: st) := by
  subst hn
  obtain ⟨hx, hby, hml, hZ, hown, hnm, -⟩ := K
  refine WP.step (fun T locs X e0 N0 Z0 => ?_) W
  obtain ⟨T', X', e', st'⟩ := instY X hx hZ hown w e0 I (g := mkF m pc ls.toArray (.ref a :: st)) rfl rfl (hb hby hd)
  exact ⟨T', locs, X', e', N0, Z0, st'⟩
/-- arrays of references -/
def OvN (Z : State) (D : String) : Prop := ∃ cA, Z.vm.findClass ("[" ++ (FieldType.object D).toString) = some cA ∧ Ovr Z cA D
theorem OvN.of {D : String} (w : (Jvm.Cond.arrayOver (.object D)).before a0 Z = true) : OvN Z D := by
  obtain ⟨comp, cA, k, h1, -, h2, h3, h4⟩ := Cond.arrayOver_spec w
  exact ⟨cA, h4, k, comp, h2, h3, h1⟩
theorem h_newref {D : String} {idx : Nat} {n : Int32} (K : Cx p s m args meth c Z y code ml ret cI cJ) (H : Hp Z ss h es) (w1 : (Jvm.Cond.classLink y.cls idx D).before a0 Z = true) (w2 : (Jvm.Cond.arrayOver (.object D)).before a0 Z = true) (hd : decode code pc = .ok (.anewarray idx, 3)) (hn : pc + 3 = pn) (vs : List Value) (hvs : vs = List.replicate n.toNatClampNeg .null) (hn0 : ¬ n < 0) (cap : Nat) (hcap : n.toNatClampNeg ≤ cap) (hb' : cap * 8 ≤ 536870912) (hc : cells + 1 ≤ R.cells) (hl : slots + cap ≤ R.slots)
    (W : ∀ h' a, n0 ≤ a → Hp Z ss h' ((a, .inr (.object D), vs) :: es) → WP p l e R s m args below meth c n0 Q h' (cells + 1) (slots + cap) pn ls (.ref a :: st)) : WP p l e R s m args below meth c n0 Q h cells slots pc ls (.int n :: st) := by
  subst hvs hn
  obtain ⟨hx, hby, hml, hZ, hown, hnm, -⟩ := K
  intro T locs X e0 N0 Z0
  obtain ⟨T', h', cA, X', e', E, A, A2, -, st'⟩ := newRE X hx hZ hown w1 w2 e0 (g := mkF m pc ls.toArray (.int n :: st)) rfl (hb hby hd) rfl hn0 hcap hb' hc hl rfl
  obtain ⟨t, o, g1, g2⟩ := W h' _ Z0 (H.push E (e := (h.size, .inr (.object D), _)) ⟨⟨_, A, by simp [newA, defaultValue]⟩, A2⟩ rfl) T' _ X' e' N0 (Nat.le_trans Z0 E.1)
  exact ⟨t, o, st' _ g1, g2⟩
theorem sto_of {a : Addr} {D : String} {vs : List Value} {v : Value} (A : Ars Z h a (.object D) vs) (O : OvN Z D) (hv : v = .null ∨ ∃ b, v = .ref b ∧ Ins Z h b D true) : Sto Z h a v := by
  rcases hv with rfl | ⟨b, rfl, I⟩
  · exact Or.inl rfl
  · obtain ⟨⟨cl, A1, -⟩, E⟩ := A
    obtain ⟨cA, o1, o2⟩ := O
    obtain ⟨c2, k, e1, e2, -⟩ := E
    cases A1.1.symm.trans e1
    cases o1.symm.trans e2
    exact Sto.of A1 o2 I
theorem h_st_a {a : Addr} {D : String} {vs : List Value} {j : Int32} {i q : Nat} {v : Value} {es' : List Ent} (K : Cx p s m args meth c Z y code ml ret cI cJ) (H : Hp Z ss h es) (hi : es[i]? = some (a, .inr (.object D), vs)) (O : OvN Z D) (hv : v = .null ∨ ∃ b, v = .ref b ∧ Ins Z h b D true) (hq : j.toNatClampNeg = q) (hu : updE es i a (.inr (.object D)) vs q v = some es') (hd : decode code pc = .ok (.aastore, 1)) (hn : pc + 1 = pn) (hg : n0 ≤ a) (h0 : ¬ j < 0)
    (W : ∀ h', Hp Z ss h' es' → WP p l e R s m args below meth c n0 Q h' cells slots pn ls st) : WP p l e R s m args below meth c n0 Q h cells slots pc ls (v :: .int j :: .ref a :: st) := by
  subst hq hn
  have hlt : j.toNatClampNeg < vs.length := (putA_ok _ _ _ _ _ hu).1
  obtain rfl := updE_ok hu
  obtain ⟨hx, hby, hml, hZ, hown, hnm, -⟩ := K
  have A := H.arr hi
  have S := sto_of A O hv
  obtain ⟨⟨cl, A1, r⟩, E⟩ := id A
  intro T locs X e0 N0 Z0
  obtain ⟨T', h', X', e', Wr', st'⟩ := stR X hx hZ e0 A1 (idx_ok r h0 hlt) rfl S (g := mkF m pc ls.toArray (v :: .int j :: .ref a :: st)) rfl rfl (hb hby hd)
  obtain ⟨t, o, g1, g2⟩ := W h' (H.wr Wr' hi (A.same Wr')) T' _ X' e' (Fr.snoc X' N0 hg) (by rw [Wr'.size]; exact Z0)
  exact ⟨t, o, st' _ g1, g2⟩
end MoreSteps
end Jvm.Own
namespace Jvm.Own
open Sem ClassFile Op Lib Jvm.Stand Jvm.Free Jvm.LawKit Jvm.RoadKit
/-! own layer 4: int arrays whose contents are lists of numbers -/
def ivN (xs : List Nat) : List Value := xs.map fun x => Value.int (Int32.ofNat x)
theorem iv_len (xs : List Nat) : (ivN xs).length = xs.length := by simp [ivN]
theorem iv_get {xs : List Nat} {k : Nat} (hk : k < xs.length) : (ivN xs)[k]? = some (.int (Int32.ofNat (xs.getD k 0))) := by
  simp [ivN, List.getElem?_eq_getElem hk, List.getD_eq_getElem?_getD]
theorem iv_set (xs : List Nat) (k x : Nat) : (ivN xs).set k (.int (Int32.ofNat x)) = ivN (xs.set k x) := by simp [ivN, List.map_set]
theorem iv_rep (k : Nat) : List.replicate k (Value.int 0) = ivN (List.replicate k 0) := by simp [ivN]
theorem iv_fit (xs : List Nat) : ∀ v ∈ ivN xs, fits .int v = true := by
  intro v hv
  obtain ⟨x, -, rfl⟩ := List.mem_map.mp hv
  rfl
theorem n_tnc {k : Nat} (h : k < 2 ^ 31) : (Int32.ofNat k).toNatClampNeg = k := (len32 h).1
theorem n_nneg {k : Nat} (h : k < 2 ^ 31) : ¬ Int32.ofNat k < 0 := (len32 h).2
theorem n_toInt {k : Nat} (h : k < 2 ^ 31) : (Int32.ofNat k).toInt = k := len_toInt h
theorem n_lt {a b : Nat} (ha : a < 2 ^ 31) (hb : b < 2 ^ 31) : Int32.ofNat a < Int32.ofNat b ↔ a < b := by
  rw [Int32.lt_iff_toInt_lt, n_toInt ha, n_toInt hb]; exact Int.ofNat_lt
theorem n_eq {a b : Nat} (ha : a < 2 ^ 31) (hb : b < 2 ^ 31) : Int32.ofNat a = Int32.ofNat b ↔ a = b := by
  rw [← Int32.toInt_inj, n_toInt ha, n_toInt hb]; exact Int.natCast_inj
theorem n_add (a b : Nat) : Int32.ofNat a + Int32.ofNat b = Int32.ofNat (a + b) := (Int32.ofNat_add a b).symm
theorem n_one (a : Nat) : Int32.ofNat a + 1 = Int32.ofNat (a + 1) := (Int32.ofNat_add a 1).symm
section NatSteps
variable {p : Program} {l : Launch} {e : Env} {R : Room} {s : State} {m : MethodId} {args : Array Value} {below : List Frame} {meth : Method} {c : Code} {cells slots : Nat} {Z : State} {a0 : Array Value} {h : Heap} {y : MethodName} {code : ByteArray} {ml : Nat} {ret : Option FieldType} {cI : List (Nat × Int32)} {cJ : List (Nat × Int64)} {n0 : Nat} {Q : Option Value → Heap → Prop} {pc pn : Nat} {ls : List Slot} {st : List Value} {ss : Stc} {es : List Ent}
theorem h_ldn {a : Addr} {xs : List Nat} {i k : Nat} (K : Cx p s m args meth c Z y code ml ret cI cJ) (H : Hp Z ss h es) (hi : es[i]? = some (a, .inr .int, ivN xs)) (hk : k < xs.length) (h31 : k < 2 ^ 31) (hd : decode code pc = .ok (.iaload, 1)) (hn : pc + 1 = pn) (W : WP p l e R s m args below meth c n0 Q h cells slots pn ls (.int (Int32.ofNat (xs.getD k 0)) :: st)) : WP p l e R s m args below meth c n0 Q h cells slots pc ls (.int (Int32.ofNat k) :: .ref a :: st) :=
  f_ld_i K (H.arr hi) hd hn (n_nneg h31) (by rw [n_tnc h31]; exact iv_get hk) W
theorem h_stn {a : Addr} {xs : List Nat} {i k x : Nat} {es' : List Ent} (K : Cx p s m args meth c Z y code ml ret cI cJ) (H : Hp Z ss h es) (hi : es[i]? = some (a, .inr .int, ivN xs)) (hk : k < xs.length) (h31 : k < 2 ^ 31) (hu : putA es i (a, .inr .int, ivN (xs.set k x)) some = some es') (hd : decode code pc = .ok (.iastore, 1)) (hn : pc + 1 = pn) (hg : n0 ≤ a)
    (W : ∀ h', Hp Z ss h' es' → WP p l e R s m args below meth c n0 Q h' cells slots pn ls st) : WP p l e R s m args below meth c n0 Q h cells slots pc ls (.int (Int32.ofNat x) :: .int (Int32.ofNat k) :: .ref a :: st) := by
  obtain ⟨-, hu'⟩ := putA_ok _ _ _ _ _ hu
  obtain rfl := Option.some.inj hu'
  refine f_st_i K (H.arr hi) hd hn hg (n_nneg h31) (by rw [n_tnc h31, iv_len]; exact hk) fun h' Wr' A => W h' (H.wr Wr' hi ?_)
  rw [n_tnc h31, iv_set] at A
  exact A
theorem h_newn {k : Nat} (K : Cx p s m args meth c Z y code ml ret cI cJ) (H : Hp Z ss h es) (w : (Jvm.Cond.arrayClass (newarray.typeOf .int)).before a0 Z = true) (hd : decode code pc = .ok (.newarray .int, 2)) (hn : pc + 2 = pn) (h31 : k < 2 ^ 31) (cap : Nat) (hcap : k ≤ cap) (hb' : cap * 8 ≤ 536870912) (hc : cells + 1 ≤ R.cells) (hl : slots + cap ≤ R.slots)
    (W : ∀ h' a, n0 ≤ a → Hp Z ss h' ((a, .inr .int, ivN (List.replicate k 0)) :: es) → WP p l e R s m args below meth c n0 Q h' (cells + 1) (slots + cap) pn ls (.ref a :: st)) : WP p l e R s m args below meth c n0 Q h cells slots pc ls (.int (Int32.ofNat k) :: st) :=
  h_newarr (n := Int32.ofNat k) K H w hd hn (ivN (List.replicate k 0)) (by rw [n_tnc h31]; exact (iv_rep k).symm) (n_nneg h31) cap (by rw [n_tnc h31]; exact hcap) hb' hc hl W
theorem h_lenn {a : Addr} {xs : List Nat} {i : Nat} (K : Cx p s m args meth c Z y code ml ret cI cJ) (H : Hp Z ss h es) (hi : es[i]? = some (a, .inr .int, ivN xs)) (hd : decode code pc = .ok (.arraylength, 1)) (hn : pc + 1 = pn) (W : WP p l e R s m args below meth c n0 Q h cells slots pn ls (.int (Int32.ofNat xs.length) :: st)) : WP p l e R s m args below meth c n0 Q h cells slots pc ls (.ref a :: st) :=
  h_len K H hi hd hn (Int32.ofNat xs.length) (by rw [iv_len]) W
end NatSteps
end Jvm.Own
namespace Jvm.Pilot.@@N@@
open Jvm Jvm.ClassFile Sem Op Lib Jvm.Free Jvm.Stand Jvm.LawKit Jvm.RoadKit Jvm.Own Bundle Jvm.Pilot.@@N@@.Jvm.D
abbrev Rm0 : Room := { frames := 0, cells := 0, slots := 0, locals := 0 }
theorem pd0 : parseMethodDescriptor "(I)I" = some ⟨[.int], some .int⟩ := by decide +kernel
theorem pd1 : parseMethodDescriptor "([BII)I" = some ⟨[(.array .byte), .int, .int], some .int⟩ := by decide +kernel
theorem pd2 : parseMethodDescriptor "(II)I" = some ⟨[.int, .int], some .int⟩ := by decide +kernel
abbrev n32 (k : Nat) : Int32 := Int32.ofNat k
def bvI (xs : List Int32) : List Value := xs.map Value.int
theorem bv_len (xs : List Int32) : (bvI xs).length = xs.length := by simp [bvI]
theorem bv_get {xs : List Int32} {k : Nat} (hk : k < xs.length) : (bvI xs)[k]? = some (.int (xs.getD k 0)) := by
  simp [bvI, List.getElem?_eq_getElem hk, List.getD_eq_getElem?_getD]
theorem bv_set (xs : List Int32) (k : Nat) (x : Int32) : (bvI xs).set k (.int x) = bvI (xs.set k x) := by simp [bvI, List.map_set]
theorem n_le {a b : Nat} (ha : a < 2 ^ 31) (hb : b < 2 ^ 31) : Int32.ofNat a ≤ Int32.ofNat b ↔ a ≤ b := by
  rw [Int32.le_iff_toInt_le, n_toInt ha, n_toInt hb]; exact Int.ofNat_le
theorem n_sub {a b : Nat} (ha : a < 2 ^ 31) (hb : b ≤ a) : Int32.ofNat a - Int32.ofNat b = Int32.ofNat (a - b) := by
  rw [← Int32.toInt_inj, Jvm.Kit.i32_sub, n_toInt ha, n_toInt (by omega : b < 2 ^ 31), n_toInt (by omega)]
  · omega
  · rw [n_toInt ha, n_toInt (by omega : b < 2 ^ 31)]; omega
  · rw [n_toInt ha, n_toInt (by omega : b < 2 ^ 31)]; omega
theorem own_n {x : Int32} {k : Nat} (hk : k < 2 ^ 31) (hx : x.toInt = k) : x = n32 k := by
  rw [← Int32.toInt_inj, hx]; exact (n_toInt hk).symm
theorem own_rem {x z : Int32} (hx : 0 ≤ x.toInt) (k : Nat) (h0 : 0 < k) (hk : k < 2 ^ 31) (hz : z.toInt = k) : ∃ r, r < k ∧ x % z = n32 r := by
  have e := Jvm.Kit.i32_rem_nonneg (y := z) hx
  rw [hz] at e
  have h1 := Int.emod_nonneg x.toInt (b := (k : Int)) (by omega)
  have h2 := Int.emod_lt_of_pos x.toInt (b := (k : Int)) (by omega)
  refine ⟨(x.toInt % (k : Int)).toNat, by omega, own_n (by omega) (by omega)⟩
theorem own_mask (x z : Int32) (k : Nat) (hk : k < 31) (hz : z.toBitVec.toNat = 2 ^ k - 1) : ∃ r, r < 2 ^ k ∧ x &&& z = n32 r := by
  have e := Jvm.Kit.i32_mask x z (k := k) (by omega) hz
  have h0 : (0 : Int) < 2 ^ k := Int.pow_pos (by decide)
  have h1 := Int.emod_nonneg x.toInt (b := (2 ^ k : Int)) (by omega)
  have h2 := Int.emod_lt_of_pos x.toInt (b := (2 ^ k : Int)) (by omega)
  have h3 : (2 ^ k : Nat) < 2 ^ 31 := Nat.pow_lt_pow_right (by decide) hk
  have h4 : ((2 ^ k : Nat) : Int) = 2 ^ k := by simp
  refine ⟨(x.toInt % (2 ^ k : Int)).toNat, by omega, own_n (by omega) (by omega)⟩
theorem own_shr (j k : Nat) (z : Int32) (hj : j < 2 ^ 31) (hz : (z.toBitVec.smod 32).toNat = k) : n32 j >>> z = n32 (j / 2 ^ k) := by
  have h1 : j / 2 ^ k ≤ j := Nat.div_le_self _ _
  refine own_n (by omega) ?_
  rw [Jvm.Kit.i32_shr (n32 j) z hz, n_toInt hj]
  simp
theorem own_ush (x : Int32) : 0 ≤ (XT.ushr x 2).toInt := by
  have e1 : (XT.ushr x 2).toInt = ((XT.ushr x 2).toBitVec).toInt := rfl
  have e2 : (XT.ushr x 2).toBitVec = x.toBitVec >>> 2 := rfl
  rw [e1, e2, BitVec.toInt_eq_toNat_cond]
  have h3 := x.toBitVec.isLt
  rw [BitVec.toNat_ushiftRight, Nat.shiftRight_eq_div_pow]
  split <;> omega
def wt (b : Int32) : Nat := if (b &&& 255) &&& 192 = 128 then 0 else if (b &&& 255) < 240 then 1 else 2
def wsum (xs : List Int32) : Nat → Nat → Nat
  | _, 0 => 0
  | a, d + 1 => wt (xs.getD a 0) + wsum xs (a + 1) d
theorem wsum_add (xs : List Int32) : ∀ (d a z : Nat), wsum xs a (d + z) = wsum xs a d + wsum xs (a + d) z
  | 0, a, z => by simp [wsum]
  | d + 1, a, z => by
    rw [show d + 1 + z = (d + z) + 1 by omega]
    simp only [wsum]
    rw [wsum_add xs d (a + 1) z, show a + 1 + d = a + (d + 1) by omega]; omega
theorem wsum_congr {xs ys : List Int32} : ∀ (d a : Nat), (∀ j, a ≤ j → j < a + d → ys.getD j 0 = xs.getD j 0) → wsum ys a d = wsum xs a d
  | 0, a, _ => rfl
  | d + 1, a, h => by
    simp only [wsum]
    rw [h a (by omega) (by omega), wsum_congr d (a + 1) fun j h1 h2 => h j (by omega) (by omega)]
theorem gs_ne (xs : List Int32) (i j : Nat) (b : Int32) (h : i ≠ j) : (xs.set i b).getD j 0 = xs.getD j 0 := by simp only [List.getD_eq_getElem?_getD]; rw [List.getElem?_set_ne h]
theorem gs_eq (xs : List Int32) (i : Nat) (b : Int32) (h : i < xs.length) : (xs.set i b).getD i 0 = b := by simp [List.getD_eq_getElem?_getD, h]
def wid (k : Nat) : Nat := if k < 65536 then 1 else 2
abbrev nb (x : Int32) : Int32 := nar .byte (x.toInt8.toInt32)
theorem own_e1 : ∀ k : Fin 128, wt (nb (n32 k.val)) = 1 := by decide +kernel
theorem own_e2 : ∀ k : Fin 32, wt (nb ((192 : Int32) ||| n32 k.val)) = 1 := by decide +kernel
theorem own_e3 : ∀ k : Fin 16, wt (nb ((224 : Int32) ||| n32 k.val)) = 1 := by decide +kernel
theorem own_e4 : ∀ k : Fin 8, wt (nb ((240 : Int32) ||| n32 k.val)) = 2 := by decide +kernel
theorem own_e5 : ∀ k : Fin 64, wt (nb ((128 : Int32) ||| n32 k.val)) = 0 := by decide +kernel
theorem own_ec (x : Int32) : wt (nb (128 ||| (x &&& 63))) = 0 := by
  obtain ⟨r, hr, e⟩ := own_mask x 63 6 (by decide) (by decide)
  rw [e]; exact own_e5 ⟨r, hr⟩
theorem own_h2 (j : Nat) (hj : j < 2048) : wt (nb ((192 : Int32) ||| (n32 j >>> (6 &&& 31)))) = 1 := by
  rw [own_shr j 6 _ (by omega) (by decide)]; exact own_e2 ⟨j / 2 ^ 6, by omega⟩
theorem own_h3 (j : Nat) (hj : j < 65536) : wt (nb ((224 : Int32) ||| (n32 j >>> (12 &&& 31)))) = 1 := by
  rw [own_shr j 12 _ (by omega) (by decide)]; exact own_e3 ⟨j / 2 ^ 12, by omega⟩
theorem own_h4 (j : Nat) (hj : j < 0x110000) : wt (nb ((240 : Int32) ||| (n32 j >>> (18 &&& 31)))) = 2 := by
  rw [own_shr j 18 _ (by omega) (by decide)]; exact own_e4 ⟨j / 2 ^ 18, by omega⟩
section ByteSteps
variable {p : Program} {l : Launch} {e : Env} {R : Room} {s : State} {m : MethodId} {args : Array Value} {below : List Frame} {meth : Method} {c : Code} {cells slots : Nat} {Z : State} {a0 : Array Value} {h : Heap} {y : MethodName} {code : ByteArray} {ml : Nat} {ret : Option FieldType} {cI : List (Nat × Int32)} {cJ : List (Nat × Int64)} {n0 : Nat} {Q : Option Value → Heap → Prop} {pc pn : Nat} {ls : List Slot} {st : List Value} {ss : Stc} {es : List Ent}
theorem h_ldb {a : Addr} {xs : List Int32} {i k : Nat} (K : Cx p s m args meth c Z y code ml ret cI cJ) (H : Hp Z ss h es) (hi : es[i]? = some (a, .inr .byte, bvI xs)) (hk : k < xs.length) (h31 : k < 2 ^ 31) (hd : decode code pc = .ok (.baload, 1)) (hn : pc + 1 = pn) (W : WP p l e R s m args below meth c n0 Q h cells slots pn ls (.int (xs.getD k 0) :: st)) : WP p l e R s m args below meth c n0 Q h cells slots pc ls (.int (Int32.ofNat k) :: .ref a :: st) :=
  f_ld_b K (H.arr hi) hd hn (n_nneg h31) (by rw [n_tnc h31]; exact bv_get hk) W
theorem h_stb {a : Addr} {xs : List Int32} {i k : Nat} {j x : Int32} {es' : List Ent} (K : Cx p s m args meth c Z y code ml ret cI cJ) (H : Hp Z ss h es) (hi : es[i]? = some (a, .inr .byte, bvI xs)) (hj : j = Int32.ofNat k) (hk : k < xs.length) (h31 : k < 2 ^ 31) (hu : putA es i (a, .inr .byte, bvI (xs.set k (nar .byte x))) some = some es') (hd : decode code pc = .ok (.bastore, 1)) (hn : pc + 1 = pn) (hg : n0 ≤ a)
    (W : ∀ h', Hp Z ss h' es' → WP p l e R s m args below meth c n0 Q h' cells slots pn ls st) : WP p l e R s m args below meth c n0 Q h cells slots pc ls (.int x :: .int j :: .ref a :: st) := by
  subst hj
  obtain ⟨-, hu'⟩ := putA_ok _ _ _ _ _ hu
  obtain rfl := Option.some.inj hu'
  refine f_st_b K (H.arr hi) hd hn hg (n_nneg h31) (by rw [n_tnc h31, bv_len]; exact hk) fun h' Wr' A => W h' (H.wr Wr' hi ?_)
  rw [n_tnc h31, bv_set] at A
  exact A
end ByteSteps
def B4 (l0 l1 l2 : Nat) : List Nat := [1, 1 + l0, 1 + l0 + l1, 1 + l0 + l1 + l2]
def P4 (w0 w1 w2 : Nat) : List Nat := [0, w0, w0 + w1, w0 + w1 + w2]
theorem own_law {ys : List Int32} {l0 l1 l2 w0 w1 w2 lo hi : Nat} (h0 : wsum ys 1 l0 = w0) (h1 : wsum ys (1 + l0) l1 = w1) (h2 : wsum ys (1 + l0 + l1) l2 = w2) (hl : lo ≤ hi) (hh : hi < 4) : (P4 w0 w1 w2).getD lo 0 ≤ (P4 w0 w1 w2).getD hi 0 ∧ wsum ys ((B4 l0 l1 l2).getD lo 0) ((B4 l0 l1 l2).getD hi 0 - (B4 l0 l1 l2).getD lo 0) = (P4 w0 w1 w2).getD hi 0 - (P4 w0 w1 w2).getD lo 0 ∧ (B4 l0 l1 l2).getD lo 0 ≤ (B4 l0 l1 l2).getD hi 0 := by
  have a01 := wsum_add ys l0 1 l1
  have a12 := wsum_add ys l1 (1 + l0) l2
  have a02 := wsum_add ys l0 1 (l1 + l2)
  have q01 : 1 + l0 + l1 - 1 = l0 + l1 := by omega
  have q02 : 1 + l0 + l1 + l2 - 1 = l0 + (l1 + l2) := by omega
  have q12 : 1 + l0 + l1 + l2 - (1 + l0) = l1 + l2 := by omega
  have q0 : 1 + l0 - 1 = l0 := by omega
  have q1 : 1 + l0 + l1 - (1 + l0) = l1 := by omega
  have q2 : 1 + l0 + l1 + l2 - (1 + l0 + l1) = l2 := by omega
  match lo, hi, hl, hh with
  | 0, 0, _, _ => simp [B4, P4, wsum]
  | 0, 1, _, _ => simp only [B4, P4, List.getD_cons_zero, List.getD_cons_succ, q0]; omega
  | 0, 2, _, _ => simp only [B4, P4, List.getD_cons_zero, List.getD_cons_succ, q01]; omega
  | 0, 3, _, _ => simp only [B4, P4, List.getD_cons_zero, List.getD_cons_succ, q02]; omega
  | 1, 1, _, _ => simp [B4, P4, wsum]
  | 1, 2, _, _ => simp only [B4, P4, List.getD_cons_zero, List.getD_cons_succ, q1]; omega
  | 1, 3, _, _ => simp only [B4, P4, List.getD_cons_zero, List.getD_cons_succ, q12]; omega
  | 2, 2, _, _ => simp [B4, P4, wsum]
  | 2, 3, _, _ => simp only [B4, P4, List.getD_cons_zero, List.getD_cons_succ, q2]; omega
  | 3, 3, _, _ => simp [B4, P4, wsum]
  | n + 4, k, hl, hh => exact absurd hl (by omega)
theorem B4_le {l0 l1 l2 k : Nat} (h0 : l0 ≤ 4) (h1 : l1 ≤ 4) (h2 : l2 ≤ 4) (hk : k < 4) : (B4 l0 l1 l2).getD k 0 ≤ 13 := by
  match k, hk with
  | 0, _ => simp [B4]
  | 1, _ => simp [B4]; omega
  | 2, _ => simp [B4]; omega
  | 3, _ => simp [B4]; omega
theorem P4_le {l0 l1 l2 k : Nat} (h0 : l0 ≤ 2) (h1 : l1 ≤ 2) (h2 : l2 ≤ 2) (hk : k < 4) : (P4 l0 l1 l2).getD k 0 ≤ 6 := by
  match k, hk with
  | 0, _ => simp [P4]
  | 1, _ => simp [P4]; omega
  | 2, _ => simp [P4]; omega
  | 3, _ => simp [P4]; omega
theorem wid_le (k : Nat) : wid k ≤ 2 := by unfold wid; split <;> omega
theorem d1_9 : decode method_2_code 9 = .ok (.ifCond .ne 8, 3) := by decide +kernel
theorem d1_16 : decode method_2_code 16 = .ok (.ireturn, 1) := by decide +kernel
theorem d1_19 : decode method_2_code 19 = .ok (.if_icmp .ne 13, 3) := by decide +kernel
theorem d1_29 : decode method_2_code 29 = .ok (.irem, 1) := by decide +kernel
theorem d1_31 : decode method_2_code 31 = .ok (.ireturn, 1) := by decide +kernel
theorem d1_34 : decode method_2_code 34 = .ok (.if_icmp .ne 28, 3) := by decide +kernel
theorem d1_43 : decode method_2_code 43 = .ok (.irem, 1) := by decide +kernel
theorem d1_49 : decode method_2_code 49 = .ok (.if_icmp .lt 11, 3) := by decide +kernel
theorem d1_61 : decode method_2_code 61 = .ok (.ireturn, 1) := by decide +kernel
theorem d1_67 : decode method_2_code 67 = .ok (.irem, 1) := by decide +kernel
theorem d1_69 : decode method_2_code 69 = .ok (.ireturn, 1) := by decide +kernel
theorem pl1 : plainFor (⟨"com/example/json_doc_store/jsondocstore/TextCursorUtf16LengthPinLaw", "codePoint", "(I)I"⟩ : MethodName) = true := plainFor_of_name (by first | (simp [plainName, overriddenIn, x]; done) | decide +kernel)
set_option maxRecDepth 65536 in
set_option maxHeartbeats 40000000 in
theorem kc (l : Launch) (Z : State) (a0 : Array Value) (hw : ∀ d ∈ tables_1, d.before a0 Z = true) (n0 : Nat) (x : Int32) (h : Heap)  :
    Con l Z n0 (⟨"com/example/json_doc_store/jsondocstore/TextCursorUtf16LengthPinLaw", "codePoint", "(I)I"⟩ : MethodName) method_2_code 4 (some .int) [] Rm0 #[(.int x)] h (fun v h' => ∃ k, k < 0x110000 ∧ v = some (.int (n32 k)) ∧ h' = h) := by
  refine Con.of (a0 := a0) [(9, 65536), (10, 1048576), (7, 61440), (8, 55296)] [] pl1 [.val (.int x), .unset, .unset, .unset] (fun m => by first | (simp [entryFrame, mkF, argsToLocals, Value.category, maxLocals]; done) | rfl) (consI (hw _ (List.mem_of_getElem? (i := 4) rfl)) (consI (hw _ (List.mem_of_getElem? (i := 5) rfl)) (consI (hw _ (List.mem_of_getElem? (i := 6) rfl)) (consI (hw _ (List.mem_of_getElem? (i := 7) rfl)) nilI)))) nilI ?_
  intro p e s m below meth c K
  refine go_ok K [(0, .iload_n 0, 1, 0, 0), (1, .iconst 3, 2, 3, 0), (2, .iand, 3, 0, 0), (3, .istore_n 1, 4, 0, 0), (4, .iload_n 0, 5, 0, 0), (5, .iconst 2, 6, 2, 0), (6, .iushr, 7, 0, 0), (7, .istore_n 2, 8, 0, 0), (8, .iload_n 1, 9, 0, 0)] _ _ _ (by decide +kernel) rfl ?_
  refine ifc_ne (pc' := 17) (pn := 12) K d1_9 (by decide) (by decide) rfl (fun h9 => ?_) (fun h9 => ?_)
  · refine go_ok K [(17, .iload_n 1, 18, 0, 0), (18, .iconst 1, 19, 1, 0)] _ _ _ (by decide +kernel) rfl ?_
    refine icmp_ne (pc' := 32) (pn := 22) K d1_19 (by decide) (by decide) rfl (fun h19 => ?_) (fun h19 => ?_)
    · refine go_ok K [(32, .iload_n 1, 33, 0, 0), (33, .iconst 2, 34, 2, 0)] _ _ _ (by decide +kernel) rfl ?_
      refine icmp_ne (pc' := 62) (pn := 37) K d1_34 (by decide) (by decide) rfl (fun h34 => ?_) (fun h34 => ?_)
      · refine go_ok K [(62, .ldc 9, 64, 65536, 0), (64, .iload_n 2, 65, 0, 0), (65, .ldc 10, 67, 1048576, 0)] _ _ _ (by decide +kernel) rfl ?_
        refine o_irem K d1_67 rfl (by decide) ?_
        obtain ⟨r, hr, er⟩ := own_rem (z := 1048576) (own_ush x) 1048576 (by decide) (by decide) (by decide)
        rw [er]
        refine go_ok K [(68, .iadd, 69, 0, 0)] _ _ _ (by decide +kernel) rfl ?_
        refine ret_i K d1_69 (by decide) (by decide) ?_
        exact ⟨65536 + r, by omega, congrArg (fun w => some (Value.int w)) (n_add 65536 r), rfl⟩
      · refine go_ok K [(37, .sipush 2048, 40, 2048, 0), (40, .iload_n 2, 41, 0, 0), (41, .ldc 7, 43, 61440, 0)] _ _ _ (by decide +kernel) rfl ?_
        refine o_irem K d1_43 rfl (by decide) ?_
        obtain ⟨r, hr, er⟩ := own_rem (z := 61440) (own_ush x) 61440 (by decide) (by decide) (by decide)
        rw [er]
        refine go_ok K [(44, .iadd, 45, 0, 0), (45, .istore_n 3, 46, 0, 0), (46, .iload_n 3, 47, 0, 0), (47, .ldc 8, 49, 55296, 0)] _ _ _ (by decide +kernel) rfl ?_
        refine icmp_lt (pc' := 60) (pn := 52) K d1_49 (by decide) (by decide) rfl (fun h49 => ?_) (fun h49 => ?_)
        · refine go_ok K [(60, .iload_n 3, 61, 0, 0)] _ _ _ (by decide +kernel) rfl ?_
          refine ret_i K d1_61 (by decide) (by decide) ?_
          exact ⟨2048 + r, by omega, congrArg (fun w => some (Value.int w)) (n_add 2048 r), rfl⟩
        · refine go_ok K [(52, .iload_n 3, 53, 0, 0), (53, .sipush 2048, 56, 2048, 0), (56, .iadd, 57, 0, 0), (57, .goto 4, 61, 0, 0)] _ _ _ (by decide +kernel) rfl ?_
          refine ret_i K d1_61 (by decide) (by decide) ?_
          exact ⟨2048 + r + 2048, by omega, congrArg (fun w => some (Value.int w)) ((congrArg (· + (2048 : Int32)) (n_add 2048 r)).trans (n_add (2048 + r) 2048)), rfl⟩
    · refine go_ok K [(22, .sipush 128, 25, 128, 0), (25, .iload_n 2, 26, 0, 0), (26, .sipush 1920, 29, 1920, 0)] _ _ _ (by decide +kernel) rfl ?_
      refine o_irem K d1_29 rfl (by decide) ?_
      obtain ⟨r, hr, er⟩ := own_rem (z := 1920) (own_ush x) 1920 (by decide) (by decide) (by decide)
      rw [er]
      refine go_ok K [(30, .iadd, 31, 0, 0)] _ _ _ (by decide +kernel) rfl ?_
      refine ret_i K d1_31 (by decide) (by decide) ?_
      exact ⟨128 + r, by omega, congrArg (fun w => some (Value.int w)) (n_add 128 r), rfl⟩
  · refine go_ok K [(12, .iload_n 2, 13, 0, 0), (13, .bipush 127, 15, 127, 0), (15, .iand, 16, 0, 0)] _ _ _ (by decide +kernel) rfl ?_
    refine ret_i K d1_16 (by decide) (by decide) ?_
    obtain ⟨r, hr, er⟩ := own_mask (XT.ushr x 2) 127 7 (by decide) (by decide)
    exact ⟨r, by omega, by rw [er], rfl⟩
theorem d3_3 : decode method_3_code 3 = .ok (.if_icmp .lt 7, 3) := by decide +kernel
theorem d3_11 : decode method_3_code 11 = .ok (.ireturn, 1) := by decide +kernel
theorem pl3 : plainFor (⟨"com/example/json_doc_store/jsondocstore/TextCursorUtf16LengthPinLaw", "width", "(I)I"⟩ : MethodName) = true := plainFor_of_name (by first | (simp [plainName, overriddenIn, x]; done) | decide +kernel)
set_option maxRecDepth 65536 in
set_option maxHeartbeats 40000000 in
theorem kw (l : Launch) (Z : State) (a0 : Array Value) (hw : ∀ d ∈ tables_1, d.before a0 Z = true) (n0 : Nat) (k : Nat) (hk : k < 0x110000) (h : Heap)  :
    Con l Z n0 (⟨"com/example/json_doc_store/jsondocstore/TextCursorUtf16LengthPinLaw", "width", "(I)I"⟩ : MethodName) method_3_code 1 (some .int) [] Rm0 #[(.int (n32 k))] h (fun v h' => v = some (.int (n32 (wid k))) ∧ h' = h) := by
  refine Con.of (a0 := a0) [(9, 65536)] [] pl3 [.val (.int (n32 k))] (fun m => by first | (simp [entryFrame, mkF, argsToLocals, Value.category, maxLocals]; done) | rfl) (consI (hw _ (List.mem_of_getElem? (i := 4) rfl)) nilI) nilI ?_
  intro p e s m below meth c K
  refine go_ok K [(0, .iload_n 0, 1, 0, 0), (1, .ldc 9, 3, 65536, 0)] _ _ _ (by decide +kernel) rfl ?_
  refine icmp_lt (pc' := 10) (pn := 6) K d3_3 (by decide) (by decide) rfl (fun h3 => ?_) (fun h3 => ?_)
  · refine go_ok K [(10, .iconst 1, 11, 1, 0)] _ _ _ (by decide +kernel) rfl ?_
    refine ret_i K d3_11 (by decide) (by decide) ?_
    exact ⟨by rw [show wid k = 1 from by have := (n_lt (a := k) (b := 65536) (by omega) (by omega)).mp h3; unfold wid; simp; omega]; rfl, rfl⟩
  · refine go_ok K [(6, .iconst 2, 7, 2, 0), (7, .goto 4, 11, 0, 0)] _ _ _ (by decide +kernel) rfl ?_
    refine ret_i K d3_11 (by decide) (by decide) ?_
    exact ⟨by rw [show wid k = 2 from by have := (mt (n_lt (a := k) (b := 65536) (by omega) (by omega)).mpr) h3; unfold wid; simp; omega]; rfl, rfl⟩
theorem d4_2 : decode jdk_29_method_69_code 2 = .ok (.if_icmp .gt 7, 3) := by decide +kernel
theorem d4_10 : decode jdk_29_method_69_code 10 = .ok (.ireturn, 1) := by decide +kernel
theorem pl4 : plainFor (⟨"java/lang/Math", "min", "(II)I"⟩ : MethodName) = true := Jvm.Free.JP.mathPlain rfl (by decide +kernel)
set_option maxRecDepth 65536 in
set_option maxHeartbeats 40000000 in
theorem kmi (l : Launch) (Z : State) (a0 : Array Value) (hw : ∀ d ∈ tables_1, d.before a0 Z = true) (n0 : Nat) (i j : Nat) (hi : i < 4) (hj : j < 4) (h : Heap)  :
    Con l Z n0 (⟨"java/lang/Math", "min", "(II)I"⟩ : MethodName) jdk_29_method_69_code 2 (some .int) [] Rm0 #[(.int (n32 i)), (.int (n32 j))] h (fun v h' => v = some (.int (n32 (min i j))) ∧ h' = h) := by
  refine Con.of (a0 := a0) [] [] pl4 [.val (.int (n32 i)), .val (.int (n32 j))] (fun m => by first | (simp [entryFrame, mkF, argsToLocals, Value.category, maxLocals]; done) | rfl) nilI nilI ?_
  intro p e s m below meth c K
  refine go_ok K [(0, .iload_n 0, 1, 0, 0), (1, .iload_n 1, 2, 0, 0)] _ _ _ (by decide +kernel) rfl ?_
  refine icmp_gt (pc' := 9) (pn := 5) K d4_2 (by decide) (by decide) rfl (fun h2 => ?_) (fun h2 => ?_)
  · refine go_ok K [(9, .iload_n 1, 10, 0, 0)] _ _ _ (by decide +kernel) rfl ?_
    refine ret_i K d4_10 (by decide) (by decide) ?_
    exact ⟨by have := (n_lt (by omega) (by omega)).mp h2; congr; omega, rfl⟩
  · refine go_ok K [(5, .iload_n 0, 6, 0, 0), (6, .goto 4, 10, 0, 0)] _ _ _ (by decide +kernel) rfl ?_
    refine ret_i K d4_10 (by decide) (by decide) ?_
    exact ⟨by have := (mt (n_lt (by omega) (by omega)).mpr) h2; congr; omega, rfl⟩
theorem d5_2 : decode jdk_29_method_65_code 2 = .ok (.if_icmp .lt 7, 3) := by decide +kernel
theorem d5_10 : decode jdk_29_method_65_code 10 = .ok (.ireturn, 1) := by decide +kernel
theorem pl5 : plainFor (⟨"java/lang/Math", "max", "(II)I"⟩ : MethodName) = true := Jvm.Free.JP.mathPlain rfl (by decide +kernel)
set_option maxRecDepth 65536 in
set_option maxHeartbeats 40000000 in
theorem kma (l : Launch) (Z : State) (a0 : Array Value) (hw : ∀ d ∈ tables_1, d.before a0 Z = true) (n0 : Nat) (i j : Nat) (hi : i < 4) (hj : j < 4) (h : Heap)  :
    Con l Z n0 (⟨"java/lang/Math", "max", "(II)I"⟩ : MethodName) jdk_29_method_65_code 2 (some .int) [] Rm0 #[(.int (n32 i)), (.int (n32 j))] h (fun v h' => v = some (.int (n32 (max i j))) ∧ h' = h) := by
  refine Con.of (a0 := a0) [] [] pl5 [.val (.int (n32 i)), .val (.int (n32 j))] (fun m => by first | (simp [entryFrame, mkF, argsToLocals, Value.category, maxLocals]; done) | rfl) nilI nilI ?_
  intro p e s m below meth c K
  refine go_ok K [(0, .iload_n 0, 1, 0, 0), (1, .iload_n 1, 2, 0, 0)] _ _ _ (by decide +kernel) rfl ?_
  refine icmp_lt (pc' := 9) (pn := 5) K d5_2 (by decide) (by decide) rfl (fun h2 => ?_) (fun h2 => ?_)
  · refine go_ok K [(9, .iload_n 1, 10, 0, 0)] _ _ _ (by decide +kernel) rfl ?_
    refine ret_i K d5_10 (by decide) (by decide) ?_
    exact ⟨by have := (n_lt (by omega) (by omega)).mp h2; congr; omega, rfl⟩
  · refine go_ok K [(5, .iload_n 0, 6, 0, 0), (6, .goto 4, 10, 0, 0)] _ _ _ (by decide +kernel) rfl ?_
    refine ret_i K d5_10 (by decide) (by decide) ?_
    exact ⟨by have := (mt (n_lt (by omega) (by omega)).mpr) h2; congr; omega, rfl⟩
theorem d2_4 : decode method_4_code 4 = .ok (.if_icmp .ge 12, 3) := by decide +kernel
theorem d2_11 : decode method_4_code 11 = .ok (.bastore, 1) := by decide +kernel
theorem d2_15 : decode method_4_code 15 = .ok (.ireturn, 1) := by decide +kernel
theorem d2_20 : decode method_4_code 20 = .ok (.if_icmp .ge 33, 3) := by decide +kernel
theorem d2_34 : decode method_4_code 34 = .ok (.bastore, 1) := by decide +kernel
theorem d2_48 : decode method_4_code 48 = .ok (.bastore, 1) := by decide +kernel
theorem d2_52 : decode method_4_code 52 = .ok (.ireturn, 1) := by decide +kernel
theorem d2_56 : decode method_4_code 56 = .ok (.if_icmp .ge 50, 3) := by decide +kernel
theorem d2_70 : decode method_4_code 70 = .ok (.bastore, 1) := by decide +kernel
theorem d2_87 : decode method_4_code 87 = .ok (.bastore, 1) := by decide +kernel
theorem d2_101 : decode method_4_code 101 = .ok (.bastore, 1) := by decide +kernel
theorem d2_105 : decode method_4_code 105 = .ok (.ireturn, 1) := by decide +kernel
theorem d2_117 : decode method_4_code 117 = .ok (.bastore, 1) := by decide +kernel
theorem d2_134 : decode method_4_code 134 = .ok (.bastore, 1) := by decide +kernel
theorem d2_151 : decode method_4_code 151 = .ok (.bastore, 1) := by decide +kernel
theorem d2_165 : decode method_4_code 165 = .ok (.bastore, 1) := by decide +kernel
theorem d2_169 : decode method_4_code 169 = .ok (.ireturn, 1) := by decide +kernel
theorem pl2 : plainFor (⟨"com/example/json_doc_store/jsondocstore/TextCursorUtf16LengthPinLaw", "encode", "([BII)I"⟩ : MethodName) = true := plainFor_of_name (by first | (simp [plainName, overriddenIn, x]; done) | decide +kernel)
set_option maxRecDepth 65536 in
set_option maxHeartbeats 40000000 in
theorem ke (l : Launch) (Z : State) (a0 : Array Value) (hw : ∀ d ∈ tables_1, d.before a0 Z = true) (n0 : Nat) (q : Addr) (xs : List Int32) (k j : Nat) (es : List Ent) (h : Heap) (H : Hp Z [] h ((q, .inr .byte, bvI (xs)) :: es)) (g : n0 ≤ q) (hj : j < 0x110000) (hk : k + 4 ≤ xs.length) (hx : xs.length < 100) :
    Con l Z n0 (⟨"com/example/json_doc_store/jsondocstore/TextCursorUtf16LengthPinLaw", "encode", "([BII)I"⟩ : MethodName) method_4_code 3 (some .int) [] Rm0 #[(.ref q), (.int (n32 k)), (.int (n32 j))] h (fun v h' => ∃ ys len, v = some (.int (n32 (k + len))) ∧ Hp Z [] h' ((q, .inr .byte, bvI (ys)) :: es) ∧ ys.length = xs.length ∧ 1 ≤ len ∧ len ≤ 4 ∧ wsum ys k len = wid j ∧ ∀ i, i < k → ys.getD i 0 = xs.getD i 0) := by
  refine Con.of (a0 := a0) [(9, 65536)] [] pl2 [.val (.ref q), .val (.int (n32 k)), .val (.int (n32 j))] (fun m => by first | (simp [entryFrame, mkF, argsToLocals, Value.category, maxLocals]; done) | rfl) (consI (hw _ (List.mem_of_getElem? (i := 4) rfl)) nilI) nilI ?_
  intro p e s m below meth c K
  refine go_ok K [(0, .iload_n 2, 1, 0, 0), (1, .sipush 128, 4, 128, 0)] _ _ _ (by decide +kernel) rfl ?_
  refine icmp_ge (pc' := 16) (pn := 7) K d2_4 (by decide) (by decide) rfl (fun h4 => ?_) (fun h4 => ?_)
  · refine go_ok K [(16, .iload_n 2, 17, 0, 0), (17, .sipush 2048, 20, 2048, 0)] _ _ _ (by decide +kernel) rfl ?_
    refine icmp_ge (pc' := 53) (pn := 23) K d2_20 (by decide) (by decide) rfl (fun h20 => ?_) (fun h20 => ?_)
    · refine go_ok K [(53, .iload_n 2, 54, 0, 0), (54, .ldc 9, 56, 65536, 0)] _ _ _ (by decide +kernel) rfl ?_
      refine icmp_ge (pc' := 106) (pn := 59) K d2_56 (by decide) (by decide) rfl (fun h56 => ?_) (fun h56 => ?_)
      · refine go_ok K [(106, .aload_n 0, 107, 0, 0), (107, .iload_n 1, 108, 0, 0), (108, .sipush 240, 111, 240, 0), (111, .iload_n 2, 112, 0, 0), (112, .bipush 18, 114, 18, 0), (114, .ishr, 115, 0, 0), (115, .ior, 116, 0, 0), (116, .i2b, 117, 0, 0)] _ _ _ (by decide +kernel) rfl ?_
        refine h_stb K H (i := 0) (k := k + 0) rfl rfl (by simp; omega) (by omega) rfl d2_117 rfl g ?_
        intro h H
        refine go_ok K [(118, .aload_n 0, 119, 0, 0), (119, .iload_n 1, 120, 0, 0), (120, .iconst 1, 121, 1, 0), (121, .iadd, 122, 0, 0), (122, .sipush 128, 125, 128, 0), (125, .iload_n 2, 126, 0, 0), (126, .bipush 12, 128, 12, 0), (128, .ishr, 129, 0, 0), (129, .bipush 63, 131, 63, 0), (131, .iand, 132, 0, 0), (132, .ior, 133, 0, 0), (133, .i2b, 134, 0, 0)] _ _ _ (by decide +kernel) rfl ?_
        refine h_stb K H (i := 0) (k := k + 1) rfl (n_add k 1) (by simp; omega) (by omega) rfl d2_134 rfl g ?_
        intro h H
        refine go_ok K [(135, .aload_n 0, 136, 0, 0), (136, .iload_n 1, 137, 0, 0), (137, .iconst 2, 138, 2, 0), (138, .iadd, 139, 0, 0), (139, .sipush 128, 142, 128, 0), (142, .iload_n 2, 143, 0, 0), (143, .bipush 6, 145, 6, 0), (145, .ishr, 146, 0, 0), (146, .bipush 63, 148, 63, 0), (148, .iand, 149, 0, 0), (149, .ior, 150, 0, 0), (150, .i2b, 151, 0, 0)] _ _ _ (by decide +kernel) rfl ?_
        refine h_stb K H (i := 0) (k := k + 2) rfl (n_add k 2) (by simp; omega) (by omega) rfl d2_151 rfl g ?_
        intro h H
        refine go_ok K [(152, .aload_n 0, 153, 0, 0), (153, .iload_n 1, 154, 0, 0), (154, .iconst 3, 155, 3, 0), (155, .iadd, 156, 0, 0), (156, .sipush 128, 159, 128, 0), (159, .iload_n 2, 160, 0, 0), (160, .bipush 63, 162, 63, 0), (162, .iand, 163, 0, 0), (163, .ior, 164, 0, 0), (164, .i2b, 165, 0, 0)] _ _ _ (by decide +kernel) rfl ?_
        refine h_stb K H (i := 0) (k := k + 3) rfl (n_add k 3) (by simp; omega) (by omega) rfl d2_165 rfl g ?_
        intro h H
        refine go_ok K [(166, .iload_n 1, 167, 0, 0), (167, .iconst 4, 168, 4, 0), (168, .iadd, 169, 0, 0)] _ _ _ (by decide +kernel) rfl ?_
        refine ret_i K d2_169 (by decide) (by decide) ?_
        have c4 := (mt (n_lt (a := j) (b := 128) (by omega) (by omega)).mpr) h4
        have c20 := (mt (n_lt (a := j) (b := 2048) (by omega) (by omega)).mpr) h20
        have c56 := (mt (n_lt (a := j) (b := 65536) (by omega) (by omega)).mpr) h56
        refine ⟨_, 4, congrArg (fun w => some (Value.int w)) (n_add k 4), H, by simp, by omega, by omega, ?_, ?_⟩
        · have q0 := own_h4 j hj
          have q1 := own_ec (n32 j >>> (12 &&& 31))
          have q2 := own_ec (n32 j >>> (6 &&& 31))
          have q3 := own_ec (n32 j)
          have e0 : (((((xs.set (k + 0) (nb ((240 : Int32) ||| (n32 j >>> (18 &&& 31))))).set (k + 1) (nb ((128 : Int32) ||| ((n32 j >>> (12 &&& 31)) &&& 63)))).set (k + 2) (nb ((128 : Int32) ||| ((n32 j >>> (6 &&& 31)) &&& 63)))).set (k + 3) (nb ((128 : Int32) ||| (n32 j &&& 63))))).getD (k) 0 = nb ((240 : Int32) ||| (n32 j >>> (18 &&& 31))) := by
            show (((((xs.set (k + 0) (nb ((240 : Int32) ||| (n32 j >>> (18 &&& 31))))).set (k + 1) (nb ((128 : Int32) ||| ((n32 j >>> (12 &&& 31)) &&& 63)))).set (k + 2) (nb ((128 : Int32) ||| ((n32 j >>> (6 &&& 31)) &&& 63)))).set (k + 3) (nb ((128 : Int32) ||| (n32 j &&& 63))))).getD (k + 0) 0 = _
            rw [gs_ne _ (k + 3) (k + 0) _ (by omega), gs_ne _ (k + 2) (k + 0) _ (by omega), gs_ne _ (k + 1) (k + 0) _ (by omega), gs_eq _ _ _ (by simp; omega)]
          have e1 : (((((xs.set (k + 0) (nb ((240 : Int32) ||| (n32 j >>> (18 &&& 31))))).set (k + 1) (nb ((128 : Int32) ||| ((n32 j >>> (12 &&& 31)) &&& 63)))).set (k + 2) (nb ((128 : Int32) ||| ((n32 j >>> (6 &&& 31)) &&& 63)))).set (k + 3) (nb ((128 : Int32) ||| (n32 j &&& 63))))).getD (k + 1) 0 = nb ((128 : Int32) ||| ((n32 j >>> (12 &&& 31)) &&& 63)) := by
            show (((((xs.set (k + 0) (nb ((240 : Int32) ||| (n32 j >>> (18 &&& 31))))).set (k + 1) (nb ((128 : Int32) ||| ((n32 j >>> (12 &&& 31)) &&& 63)))).set (k + 2) (nb ((128 : Int32) ||| ((n32 j >>> (6 &&& 31)) &&& 63)))).set (k + 3) (nb ((128 : Int32) ||| (n32 j &&& 63))))).getD (k + 1) 0 = _
            rw [gs_ne _ (k + 3) (k + 1) _ (by omega), gs_ne _ (k + 2) (k + 1) _ (by omega), gs_eq _ _ _ (by simp; omega)]
          have e2 : (((((xs.set (k + 0) (nb ((240 : Int32) ||| (n32 j >>> (18 &&& 31))))).set (k + 1) (nb ((128 : Int32) ||| ((n32 j >>> (12 &&& 31)) &&& 63)))).set (k + 2) (nb ((128 : Int32) ||| ((n32 j >>> (6 &&& 31)) &&& 63)))).set (k + 3) (nb ((128 : Int32) ||| (n32 j &&& 63))))).getD (k + 1 + 1) 0 = nb ((128 : Int32) ||| ((n32 j >>> (6 &&& 31)) &&& 63)) := by
            show (((((xs.set (k + 0) (nb ((240 : Int32) ||| (n32 j >>> (18 &&& 31))))).set (k + 1) (nb ((128 : Int32) ||| ((n32 j >>> (12 &&& 31)) &&& 63)))).set (k + 2) (nb ((128 : Int32) ||| ((n32 j >>> (6 &&& 31)) &&& 63)))).set (k + 3) (nb ((128 : Int32) ||| (n32 j &&& 63))))).getD (k + 2) 0 = _
            rw [gs_ne _ (k + 3) (k + 2) _ (by omega), gs_eq _ _ _ (by simp; omega)]
          have e3 : (((((xs.set (k + 0) (nb ((240 : Int32) ||| (n32 j >>> (18 &&& 31))))).set (k + 1) (nb ((128 : Int32) ||| ((n32 j >>> (12 &&& 31)) &&& 63)))).set (k + 2) (nb ((128 : Int32) ||| ((n32 j >>> (6 &&& 31)) &&& 63)))).set (k + 3) (nb ((128 : Int32) ||| (n32 j &&& 63))))).getD (k + 1 + 1 + 1) 0 = nb ((128 : Int32) ||| (n32 j &&& 63)) := by
            show (((((xs.set (k + 0) (nb ((240 : Int32) ||| (n32 j >>> (18 &&& 31))))).set (k + 1) (nb ((128 : Int32) ||| ((n32 j >>> (12 &&& 31)) &&& 63)))).set (k + 2) (nb ((128 : Int32) ||| ((n32 j >>> (6 &&& 31)) &&& 63)))).set (k + 3) (nb ((128 : Int32) ||| (n32 j &&& 63))))).getD (k + 3) 0 = _
            rw [gs_eq _ _ _ (by simp; omega)]
          simp only [wsum]
          rw [e0, e1, e2, e3]
          rw [q0, q1, q2, q3]
          unfold wid
          split <;> omega
        · intro i hi
          simp only [List.getD_eq_getElem?_getD]
          simp [List.getElem?_set, show ¬ k = i by omega, show ¬ k + 1 = i by omega, show ¬ k + 2 = i by omega, show ¬ k + 3 = i by omega]
      · refine go_ok K [(59, .aload_n 0, 60, 0, 0), (60, .iload_n 1, 61, 0, 0), (61, .sipush 224, 64, 224, 0), (64, .iload_n 2, 65, 0, 0), (65, .bipush 12, 67, 12, 0), (67, .ishr, 68, 0, 0), (68, .ior, 69, 0, 0), (69, .i2b, 70, 0, 0)] _ _ _ (by decide +kernel) rfl ?_
        refine h_stb K H (i := 0) (k := k + 0) rfl rfl (by simp; omega) (by omega) rfl d2_70 rfl g ?_
        intro h H
        refine go_ok K [(71, .aload_n 0, 72, 0, 0), (72, .iload_n 1, 73, 0, 0), (73, .iconst 1, 74, 1, 0), (74, .iadd, 75, 0, 0), (75, .sipush 128, 78, 128, 0), (78, .iload_n 2, 79, 0, 0), (79, .bipush 6, 81, 6, 0), (81, .ishr, 82, 0, 0), (82, .bipush 63, 84, 63, 0), (84, .iand, 85, 0, 0), (85, .ior, 86, 0, 0), (86, .i2b, 87, 0, 0)] _ _ _ (by decide +kernel) rfl ?_
        refine h_stb K H (i := 0) (k := k + 1) rfl (n_add k 1) (by simp; omega) (by omega) rfl d2_87 rfl g ?_
        intro h H
        refine go_ok K [(88, .aload_n 0, 89, 0, 0), (89, .iload_n 1, 90, 0, 0), (90, .iconst 2, 91, 2, 0), (91, .iadd, 92, 0, 0), (92, .sipush 128, 95, 128, 0), (95, .iload_n 2, 96, 0, 0), (96, .bipush 63, 98, 63, 0), (98, .iand, 99, 0, 0), (99, .ior, 100, 0, 0), (100, .i2b, 101, 0, 0)] _ _ _ (by decide +kernel) rfl ?_
        refine h_stb K H (i := 0) (k := k + 2) rfl (n_add k 2) (by simp; omega) (by omega) rfl d2_101 rfl g ?_
        intro h H
        refine go_ok K [(102, .iload_n 1, 103, 0, 0), (103, .iconst 3, 104, 3, 0), (104, .iadd, 105, 0, 0)] _ _ _ (by decide +kernel) rfl ?_
        refine ret_i K d2_105 (by decide) (by decide) ?_
        have c4 := (mt (n_lt (a := j) (b := 128) (by omega) (by omega)).mpr) h4
        have c20 := (mt (n_lt (a := j) (b := 2048) (by omega) (by omega)).mpr) h20
        have c56 := (n_lt (a := j) (b := 65536) (by omega) (by omega)).mp h56
        refine ⟨_, 3, congrArg (fun w => some (Value.int w)) (n_add k 3), H, by simp, by omega, by omega, ?_, ?_⟩
        · have q0 := own_h3 j (by omega)
          have q1 := own_ec (n32 j >>> (6 &&& 31))
          have q2 := own_ec (n32 j)
          have e0 : ((((xs.set (k + 0) (nb ((224 : Int32) ||| (n32 j >>> (12 &&& 31))))).set (k + 1) (nb ((128 : Int32) ||| ((n32 j >>> (6 &&& 31)) &&& 63)))).set (k + 2) (nb ((128 : Int32) ||| (n32 j &&& 63))))).getD (k) 0 = nb ((224 : Int32) ||| (n32 j >>> (12 &&& 31))) := by
            show ((((xs.set (k + 0) (nb ((224 : Int32) ||| (n32 j >>> (12 &&& 31))))).set (k + 1) (nb ((128 : Int32) ||| ((n32 j >>> (6 &&& 31)) &&& 63)))).set (k + 2) (nb ((128 : Int32) ||| (n32 j &&& 63))))).getD (k + 0) 0 = _
            rw [gs_ne _ (k + 2) (k + 0) _ (by omega), gs_ne _ (k + 1) (k + 0) _ (by omega), gs_eq _ _ _ (by simp; omega)]
          have e1 : ((((xs.set (k + 0) (nb ((224 : Int32) ||| (n32 j >>> (12 &&& 31))))).set (k + 1) (nb ((128 : Int32) ||| ((n32 j >>> (6 &&& 31)) &&& 63)))).set (k + 2) (nb ((128 : Int32) ||| (n32 j &&& 63))))).getD (k + 1) 0 = nb ((128 : Int32) ||| ((n32 j >>> (6 &&& 31)) &&& 63)) := by
            show ((((xs.set (k + 0) (nb ((224 : Int32) ||| (n32 j >>> (12 &&& 31))))).set (k + 1) (nb ((128 : Int32) ||| ((n32 j >>> (6 &&& 31)) &&& 63)))).set (k + 2) (nb ((128 : Int32) ||| (n32 j &&& 63))))).getD (k + 1) 0 = _
            rw [gs_ne _ (k + 2) (k + 1) _ (by omega), gs_eq _ _ _ (by simp; omega)]
          have e2 : ((((xs.set (k + 0) (nb ((224 : Int32) ||| (n32 j >>> (12 &&& 31))))).set (k + 1) (nb ((128 : Int32) ||| ((n32 j >>> (6 &&& 31)) &&& 63)))).set (k + 2) (nb ((128 : Int32) ||| (n32 j &&& 63))))).getD (k + 1 + 1) 0 = nb ((128 : Int32) ||| (n32 j &&& 63)) := by
            show ((((xs.set (k + 0) (nb ((224 : Int32) ||| (n32 j >>> (12 &&& 31))))).set (k + 1) (nb ((128 : Int32) ||| ((n32 j >>> (6 &&& 31)) &&& 63)))).set (k + 2) (nb ((128 : Int32) ||| (n32 j &&& 63))))).getD (k + 2) 0 = _
            rw [gs_eq _ _ _ (by simp; omega)]
          simp only [wsum]
          rw [e0, e1, e2]
          rw [q0, q1, q2]
          unfold wid
          split <;> omega
        · intro i hi
          simp only [List.getD_eq_getElem?_getD]
          simp [List.getElem?_set, show ¬ k = i by omega, show ¬ k + 1 = i by omega, show ¬ k + 2 = i by omega]
    · refine go_ok K [(23, .aload_n 0, 24, 0, 0), (24, .iload_n 1, 25, 0, 0), (25, .sipush 192, 28, 192, 0), (28, .iload_n 2, 29, 0, 0), (29, .bipush 6, 31, 6, 0), (31, .ishr, 32, 0, 0), (32, .ior, 33, 0, 0), (33, .i2b, 34, 0, 0)] _ _ _ (by decide +kernel) rfl ?_
      refine h_stb K H (i := 0) (k := k + 0) rfl rfl (by simp; omega) (by omega) rfl d2_34 rfl g ?_
      intro h H
      refine go_ok K [(35, .aload_n 0, 36, 0, 0), (36, .iload_n 1, 37, 0, 0), (37, .iconst 1, 38, 1, 0), (38, .iadd, 39, 0, 0), (39, .sipush 128, 42, 128, 0), (42, .iload_n 2, 43, 0, 0), (43, .bipush 63, 45, 63, 0), (45, .iand, 46, 0, 0), (46, .ior, 47, 0, 0), (47, .i2b, 48, 0, 0)] _ _ _ (by decide +kernel) rfl ?_
      refine h_stb K H (i := 0) (k := k + 1) rfl (n_add k 1) (by simp; omega) (by omega) rfl d2_48 rfl g ?_
      intro h H
      refine go_ok K [(49, .iload_n 1, 50, 0, 0), (50, .iconst 2, 51, 2, 0), (51, .iadd, 52, 0, 0)] _ _ _ (by decide +kernel) rfl ?_
      refine ret_i K d2_52 (by decide) (by decide) ?_
      have c4 := (mt (n_lt (a := j) (b := 128) (by omega) (by omega)).mpr) h4
      have c20 := (n_lt (a := j) (b := 2048) (by omega) (by omega)).mp h20
      refine ⟨_, 2, congrArg (fun w => some (Value.int w)) (n_add k 2), H, by simp, by omega, by omega, ?_, ?_⟩
      · have q0 := own_h2 j (by omega)
        have q1 := own_ec (n32 j)
        have e0 : (((xs.set (k + 0) (nb ((192 : Int32) ||| (n32 j >>> (6 &&& 31))))).set (k + 1) (nb ((128 : Int32) ||| (n32 j &&& 63))))).getD (k) 0 = nb ((192 : Int32) ||| (n32 j >>> (6 &&& 31))) := by
          show (((xs.set (k + 0) (nb ((192 : Int32) ||| (n32 j >>> (6 &&& 31))))).set (k + 1) (nb ((128 : Int32) ||| (n32 j &&& 63))))).getD (k + 0) 0 = _
          rw [gs_ne _ (k + 1) (k + 0) _ (by omega), gs_eq _ _ _ (by simp; omega)]
        have e1 : (((xs.set (k + 0) (nb ((192 : Int32) ||| (n32 j >>> (6 &&& 31))))).set (k + 1) (nb ((128 : Int32) ||| (n32 j &&& 63))))).getD (k + 1) 0 = nb ((128 : Int32) ||| (n32 j &&& 63)) := by
          show (((xs.set (k + 0) (nb ((192 : Int32) ||| (n32 j >>> (6 &&& 31))))).set (k + 1) (nb ((128 : Int32) ||| (n32 j &&& 63))))).getD (k + 1) 0 = _
          rw [gs_eq _ _ _ (by simp; omega)]
        simp only [wsum]
        rw [e0, e1]
        rw [q0, q1]
        unfold wid
        split <;> omega
      · intro i hi
        simp only [List.getD_eq_getElem?_getD]
        simp [List.getElem?_set, show ¬ k = i by omega, show ¬ k + 1 = i by omega]
  · refine go_ok K [(7, .aload_n 0, 8, 0, 0), (8, .iload_n 1, 9, 0, 0), (9, .iload_n 2, 10, 0, 0), (10, .i2b, 11, 0, 0)] _ _ _ (by decide +kernel) rfl ?_
    refine h_stb K H (i := 0) (k := k + 0) rfl rfl (by simp; omega) (by omega) rfl d2_11 rfl g ?_
    intro h H
    refine go_ok K [(12, .iload_n 1, 13, 0, 0), (13, .iconst 1, 14, 1, 0), (14, .iadd, 15, 0, 0)] _ _ _ (by decide +kernel) rfl ?_
    refine ret_i K d2_15 (by decide) (by decide) ?_
    have c4 := (n_lt (a := j) (b := 128) (by omega) (by omega)).mp h4
    refine ⟨_, 1, congrArg (fun w => some (Value.int w)) (n_add k 1), H, by simp, by omega, by omega, ?_, ?_⟩
    · have q0 := own_e1 ⟨j, by omega⟩
      have e0 : ((xs.set (k + 0) (nb (n32 j)))).getD (k) 0 = nb (n32 j) := by
        show ((xs.set (k + 0) (nb (n32 j)))).getD (k + 0) 0 = _
        rw [gs_eq _ _ _ (by simp; omega)]
      simp only [wsum]
      rw [e0]
      rw [q0]
      unfold wid
      split <;> omega
    · intro i hi
      simp only [List.getD_eq_getElem?_getD]
      simp [List.getElem?_set, show ¬ k = i by omega]
theorem d6_8 : decode prog_85_method_29_code 8 = .ok (.if_icmp .ge 47, 3) := by decide +kernel
theorem d6_14 : decode prog_85_method_29_code 14 = .ok (.baload, 1) := by decide +kernel
theorem d6_30 : decode prog_85_method_29_code 30 = .ok (.if_icmp .eq 19, 3) := by decide +kernel
theorem d6_39 : decode prog_85_method_29_code 39 = .ok (.if_icmp .lt 7, 3) := by decide +kernel
theorem d6_56 : decode prog_85_method_29_code 56 = .ok (.ireturn, 1) := by decide +kernel
theorem pl6 : plainFor (⟨"com/example/json_doc_store/jsondocstore/TextCursor", "utf16Length", "([BII)I"⟩ : MethodName) = true := plainFor_of_name (by first | (simp [plainName, overriddenIn, x]; done) | decide +kernel)
set_option maxRecDepth 65536 in
set_option maxHeartbeats 40000000 in
theorem ku (l : Launch) (Z : State) (a0 : Array Value) (hw : ∀ d ∈ tables_1, d.before a0 Z = true) (n0 : Nat) (q : Addr) (xs : List Int32) (lo hi i : Nat) (es : List Ent) (h : Heap) (H : Hp Z [] h es) (hi' : es[i]? = some (q, .inr .byte, bvI (xs))) (hl : lo ≤ hi) (hh : hi ≤ xs.length) (hx : xs.length < 100) :
    Con l Z n0 (⟨"com/example/json_doc_store/jsondocstore/TextCursor", "utf16Length", "([BII)I"⟩ : MethodName) prog_85_method_29_code 6 (some .int) [] Rm0 #[(.ref q), (.int (n32 lo)), (.int (n32 hi))] h (fun v h' => v = some (.int (n32 (wsum xs lo (hi - lo)))) ∧ h' = h) := by
  refine Con.of (a0 := a0) [] [] pl6 [.val (.ref q), .val (.int (n32 lo)), .val (.int (n32 hi)), .unset, .unset, .unset] (fun m => by first | (simp [entryFrame, mkF, argsToLocals, Value.category, maxLocals]; done) | rfl) nilI nilI ?_
  intro p e s m below meth c K
  have LP : ∀ (d a t : Nat) (s5 : Slot), a + d = hi → t + wsum xs a d = wsum xs lo (hi - lo) → (s5 = .unset ∨ ∃ z, s5 = .val (.int z)) → WP p l e Rm0 s m #[(.ref q), (.int (n32 lo)), (.int (n32 hi))] below meth c n0 (fun v h' => v = some (.int (n32 (wsum xs lo (hi - lo)))) ∧ h' = h) h 0 0 5 [.val (.ref q), .val (.int (n32 lo)), .val (.int (n32 hi)), .val (.int (n32 t)), .val (.int (n32 a)), s5] [] := by
    intro d
    induction d with
    | zero =>
      intro a t s5 ha ht h5
      obtain rfl : hi = a := by omega
      rcases h5 with rfl | ⟨z, rfl⟩
      all_goals
        refine go_ok K [(5, .iload 4, 7, 0, 0), (7, .iload_n 2, 8, 0, 0)] _ _ _ (by decide +kernel) rfl ?_
        refine icmp_ge (pc' := 55) (pn := 11) K d6_8 (by decide) (by decide) rfl (fun h8 => ?_) (fun h8 => ?_)
        rotate_left
        · exact absurd ((n_lt (by omega) (by omega)).mp h8) (by omega)
        refine go_ok K [(55, .iload_n 3, 56, 0, 0)] _ _ _ (by decide +kernel) rfl ?_
        refine ret_i K d6_56 (by decide) (by decide) ?_
        exact ⟨by rw [← ht]; simp [wsum], rfl⟩
    | succ d ih =>
      intro a t s5 ha ht h5
      rcases h5 with rfl | ⟨z, rfl⟩
      all_goals
        refine go_ok K [(5, .iload 4, 7, 0, 0), (7, .iload_n 2, 8, 0, 0)] _ _ _ (by decide +kernel) rfl ?_
        refine icmp_ge (pc' := 55) (pn := 11) K d6_8 (by decide) (by decide) rfl (fun h8 => ?_) (fun h8 => ?_)
        · exact absurd ((n_lt (by omega) (by omega)).mpr (by omega)) h8
        refine go_ok K [(11, .aload_n 0, 12, 0, 0), (12, .iload 4, 14, 0, 0)] _ _ _ (by decide +kernel) rfl ?_
        refine h_ldb K H (i := i) (k := a) hi' (by omega) (by omega) d6_14 rfl ?_
        refine go_ok K [(15, .sipush 255, 18, 255, 0), (18, .iand, 19, 0, 0), (19, .istore 5, 21, 0, 0), (21, .iload 5, 23, 0, 0), (23, .sipush 192, 26, 192, 0), (26, .iand, 27, 0, 0), (27, .sipush 128, 30, 128, 0)] _ _ _ (by decide +kernel) rfl ?_
        refine icmp_eq (pc' := 49) (pn := 33) K d6_30 (by decide) (by decide) rfl (fun h30 => ?_) (fun h30 => ?_)
        · refine go_ok K [(49, .iinc 4 1, 52, 1, 0), (52, .goto (-47), 5, 0, 0)] _ _ _ (by decide +kernel) rfl ?_
          rw [n_one]
          have hwt : wt (xs.getD a 0) = 0 := by unfold wt; rw [if_pos h30]
          exact ih (a + 1) (t + 0) _ (by omega) (by simp only [wsum] at ht; rw [hwt] at ht; omega) (Or.inr ⟨_, rfl⟩)
        · refine go_ok K [(33, .iload_n 3, 34, 0, 0), (34, .iload 5, 36, 0, 0), (36, .sipush 240, 39, 240, 0)] _ _ _ (by decide +kernel) rfl ?_
          refine icmp_lt (pc' := 46) (pn := 42) K d6_39 (by decide) (by decide) rfl (fun h39 => ?_) (fun h39 => ?_)
          · refine go_ok K [(46, .iconst 1, 47, 1, 0), (47, .iadd, 48, 0, 0), (48, .istore_n 3, 49, 0, 0), (49, .iinc 4 1, 52, 1, 0), (52, .goto (-47), 5, 0, 0)] _ _ _ (by decide +kernel) rfl ?_
            rw [n_one, n_one]
            have hwt : wt (xs.getD a 0) = 1 := by unfold wt; rw [if_neg h30, if_pos h39]
            exact ih (a + 1) (t + 1) _ (by omega) (by simp only [wsum] at ht; rw [hwt] at ht; omega) (Or.inr ⟨_, rfl⟩)
          · refine go_ok K [(42, .iconst 2, 43, 2, 0), (43, .goto 4, 47, 0, 0), (47, .iadd, 48, 0, 0), (48, .istore_n 3, 49, 0, 0), (49, .iinc 4 1, 52, 1, 0), (52, .goto (-47), 5, 0, 0)] _ _ _ (by decide +kernel) rfl ?_
            rw [n_one]
            rw [show n32 t + 2 = n32 (t + 2) from n_add t 2]
            have hwt : wt (xs.getD a 0) = 2 := by unfold wt; rw [if_neg h30, if_neg h39]
            exact ih (a + 1) (t + 2) _ (by omega) (by simp only [wsum] at ht; rw [hwt] at ht; omega) (Or.inr ⟨_, rfl⟩)
  refine go_ok K [(0, .iconst 0, 1, 0, 0), (1, .istore_n 3, 2, 0, 0), (2, .iload_n 1, 3, 0, 0), (3, .istore 4, 5, 0, 0)] _ _ _ (by decide +kernel) rfl ?_
  exact LP (hi - lo) lo 0 _ (by omega) (by simp) (Or.inl rfl)
abbrev RmS : Room := { frames := 1, cells := 3, slots := 22, locals := 40 }
theorem pl0 : plainFor x = true := plainFor_of_name (by first | (simp [plainName, overriddenIn, x]; done) | decide +kernel)
set_option maxRecDepth 65536 in
set_option maxHeartbeats 40000000 in
theorem law_ok (l : Launch) (Z : State) (a0 : Array Value) (hw : ∀ d ∈ tables_1, d.before a0 Z = true) (n0 : Nat) (i0 i1 i2 i3 i4 : Int32) (h : Heap) (H : Hp Z [] h []) :
    Con l Z n0 x code maxLocals ret tables_1 room_1 #[(.int i0), (.int i1), (.int i2), (.int i3), (.int i4)] h (fun v h' => v = some (.int 1)) := by
  refine Con.of (a0 := a0) [] [] pl0 [.val (.int i0), .val (.int i1), .val (.int i2), .val (.int i3), .val (.int i4), .unset, .unset, .unset, .unset, .unset, .unset, .unset, .unset, .unset, .unset] (fun m => by first | (simp [entryFrame, mkF, argsToLocals, Value.category, maxLocals]; done) | rfl) nilI nilI ?_
  intro p e s m below meth c K
  refine go_ok K [(0, .iload_n 0, 1, 0, 0)] _ _ _ (by decide +kernel) rfl ?_
  refine call_s K (hw _ (List.mem_of_getElem? (i := 0) rfl)) (hw _ (List.mem_of_getElem? (i := 1) rfl)) (hw _ (List.mem_of_getElem? (i := 2) rfl)) (hw _ (List.mem_of_getElem? (i := 3) rfl)) (kc l Z a0 hw n0 _ _) at_1 rfl rfl [.int _] [] rfl rfl pd0 rfl (by decide) 0 (Nat.le_of_ble_eq_true rfl) (by decide) (by decide) (by decide) (by decide) ?_
  rintro _ _ ⟨j0, hj0, rfl, rfl⟩
  refine go_ok K [(4, .istore 5, 6, 0, 0), (6, .iload_n 1, 7, 0, 0)] _ _ _ (by decide +kernel) rfl ?_
  refine call_s K (hw _ (List.mem_of_getElem? (i := 0) rfl)) (hw _ (List.mem_of_getElem? (i := 1) rfl)) (hw _ (List.mem_of_getElem? (i := 2) rfl)) (hw _ (List.mem_of_getElem? (i := 3) rfl)) (kc l Z a0 hw n0 _ _) at_7 rfl rfl [.int _] [] rfl rfl pd0 rfl (by decide) 0 (Nat.le_of_ble_eq_true rfl) (by decide) (by decide) (by decide) (by decide) ?_
  rintro _ _ ⟨j1, hj1, rfl, rfl⟩
  refine go_ok K [(10, .istore 6, 12, 0, 0), (12, .iload_n 2, 13, 0, 0)] _ _ _ (by decide +kernel) rfl ?_
  refine call_s K (hw _ (List.mem_of_getElem? (i := 0) rfl)) (hw _ (List.mem_of_getElem? (i := 1) rfl)) (hw _ (List.mem_of_getElem? (i := 2) rfl)) (hw _ (List.mem_of_getElem? (i := 3) rfl)) (kc l Z a0 hw n0 _ _) at_13 rfl rfl [.int _] [] rfl rfl pd0 rfl (by decide) 0 (Nat.le_of_ble_eq_true rfl) (by decide) (by decide) (by decide) (by decide) ?_
  rintro _ _ ⟨j2, hj2, rfl, rfl⟩
  refine go_ok K [(16, .istore 7, 18, 0, 0), (18, .bipush 14, 20, 14, 0)] _ _ _ (by decide +kernel) rfl ?_
  refine h_newarr K H (hw _ (List.mem_of_getElem? (i := 8) rfl)) at_20 rfl (bvI (List.replicate 14 0)) rfl (by decide) 14 (by decide) (by decide) (by decide) (by decide) ?_
  intro h bf gb H
  refine go_ok K [(22, .astore 8, 24, 0, 0), (24, .aload 8, 26, 0, 0), (26, .iconst 0, 27, 0, 0), (27, .iload 4, 29, 0, 0), (29, .i2b, 30, 0, 0)] _ _ _ (by decide +kernel) rfl ?_
  refine h_stb K H (i := 0) (k := 0) rfl rfl (by simp) (by omega) rfl at_30 rfl gb ?_
  intro h H
  refine go_ok K [(31, .iconst 4, 32, 4, 0)] _ _ _ (by decide +kernel) rfl ?_
  refine h_newn (k := 4) K H (hw _ (List.mem_of_getElem? (i := 9) rfl)) at_32 rfl (by omega) 4 (by omega) (by decide) (by decide) (by decide) ?_
  intro h bd gd H
  refine go_ok K [(34, .astore 9, 36, 0, 0), (36, .aload 9, 38, 0, 0), (38, .iconst 0, 39, 0, 0), (39, .iconst 1, 40, 1, 0)] _ _ _ (by decide +kernel) rfl ?_
  refine h_stn K H (i := 0) (k := 0) (x := 1) rfl (by simp) (by omega) rfl at_40 rfl gd ?_
  intro h H
  have H := H.front 1 rfl
  refine go_ok K [(41, .aload 9, 43, 0, 0), (43, .iconst 1, 44, 1, 0), (44, .aload 8, 46, 0, 0), (46, .aload 9, 48, 0, 0), (48, .iconst 0, 49, 0, 0)] _ _ _ (by decide +kernel) rfl ?_
  refine h_ldn K H (i := 1) (k := 0) rfl (by simp) (by omega) at_49 rfl ?_
  refine go_ok K [(50, .iload 5, 52, 0, 0)] _ _ _ (by decide +kernel) rfl ?_
  refine call_s K (hw _ (List.mem_of_getElem? (i := 10) rfl)) (hw _ (List.mem_of_getElem? (i := 11) rfl)) (hw _ (List.mem_of_getElem? (i := 2) rfl)) (hw _ (List.mem_of_getElem? (i := 12) rfl)) (ke l Z a0 hw n0 bf _ (1) j0 _ _ H gb hj0 (by simp_all; try omega) (by simp_all)) at_52 rfl rfl [.ref _, .int _, .int _] [.int _, .ref _] rfl rfl pd1 rfl (by decide) 2 (Nat.le_of_ble_eq_true rfl) (by decide) (by decide) (by decide) (by decide) ?_
  rintro _ h ⟨y0, l0, rfl, H, nl0, al0, bl0, wl0, kl0⟩
  refine h_stn K H (i := 1) (k := 1) (x := 1 + l0) rfl (by simp) (by omega) rfl at_55 rfl gd ?_
  intro h H
  refine go_ok K [(56, .aload 9, 58, 0, 0), (58, .iconst 2, 59, 2, 0), (59, .aload 8, 61, 0, 0), (61, .aload 9, 63, 0, 0), (63, .iconst 1, 64, 1, 0)] _ _ _ (by decide +kernel) rfl ?_
  refine h_ldn K H (i := 1) (k := 1) rfl (by simp) (by omega) at_64 rfl ?_
  refine go_ok K [(65, .iload 6, 67, 0, 0)] _ _ _ (by decide +kernel) rfl ?_
  refine call_s K (hw _ (List.mem_of_getElem? (i := 10) rfl)) (hw _ (List.mem_of_getElem? (i := 11) rfl)) (hw _ (List.mem_of_getElem? (i := 2) rfl)) (hw _ (List.mem_of_getElem? (i := 12) rfl)) (ke l Z a0 hw n0 bf _ (1 + l0) j1 _ _ H gb hj1 (by simp_all; try omega) (by simp_all)) at_67 rfl rfl [.ref _, .int _, .int _] [.int _, .ref _] rfl rfl pd1 rfl (by decide) 2 (Nat.le_of_ble_eq_true rfl) (by decide) (by decide) (by decide) (by decide) ?_
  rintro _ h ⟨y1, l1, rfl, H, nl1, al1, bl1, wl1, kl1⟩
  refine h_stn K H (i := 1) (k := 2) (x := 1 + l0 + l1) rfl (by simp) (by omega) rfl at_70 rfl gd ?_
  intro h H
  refine go_ok K [(71, .aload 9, 73, 0, 0), (73, .iconst 3, 74, 3, 0), (74, .aload 8, 76, 0, 0), (76, .aload 9, 78, 0, 0), (78, .iconst 2, 79, 2, 0)] _ _ _ (by decide +kernel) rfl ?_
  refine h_ldn K H (i := 1) (k := 2) rfl (by simp) (by omega) at_79 rfl ?_
  refine go_ok K [(80, .iload 7, 82, 0, 0)] _ _ _ (by decide +kernel) rfl ?_
  refine call_s K (hw _ (List.mem_of_getElem? (i := 10) rfl)) (hw _ (List.mem_of_getElem? (i := 11) rfl)) (hw _ (List.mem_of_getElem? (i := 2) rfl)) (hw _ (List.mem_of_getElem? (i := 12) rfl)) (ke l Z a0 hw n0 bf _ (1 + l0 + l1) j2 _ _ H gb hj2 (by simp_all; try omega) (by simp_all)) at_82 rfl rfl [.ref _, .int _, .int _] [.int _, .ref _] rfl rfl pd1 rfl (by decide) 2 (Nat.le_of_ble_eq_true rfl) (by decide) (by decide) (by decide) (by decide) ?_
  rintro _ h ⟨y2, l2, rfl, H, nl2, al2, bl2, wl2, kl2⟩
  refine h_stn K H (i := 1) (k := 3) (x := 1 + l0 + l1 + l2) rfl (by simp) (by omega) rfl at_85 rfl gd ?_
  intro h H
  refine go_ok K [(86, .aload 8, 88, 0, 0), (88, .aload 9, 90, 0, 0), (90, .iconst 3, 91, 3, 0)] _ _ _ (by decide +kernel) rfl ?_
  refine h_ldn K H (i := 1) (k := 3) rfl (by simp) (by omega) at_91 rfl ?_
  refine go_ok K [(92, .iload 4, 94, 0, 0), (94, .bipush 8, 96, 8, 0), (96, .iushr, 97, 0, 0), (97, .i2b, 98, 0, 0)] _ _ _ (by decide +kernel) rfl ?_
  refine h_stb K H (i := 0) (k := 1 + l0 + l1 + l2) rfl rfl (by simp_all; try omega) (by omega) rfl at_98 rfl gb ?_
  intro h H
  refine go_ok K [(99, .iconst 4, 100, 4, 0)] _ _ _ (by decide +kernel) rfl ?_
  refine h_newn (k := 4) K H (hw _ (List.mem_of_getElem? (i := 9) rfl)) at_100 rfl (by omega) 4 (by omega) (by decide) (by decide) (by decide) ?_
  intro h pr gp H
  refine go_ok K [(102, .astore 10, 104, 0, 0), (104, .aload 10, 106, 0, 0), (106, .iconst 0, 107, 0, 0), (107, .iconst 0, 108, 0, 0)] _ _ _ (by decide +kernel) rfl ?_
  refine h_stn K H (i := 0) (k := 0) (x := 0) rfl (by simp) (by omega) rfl at_108 rfl gp ?_
  intro h H
  refine go_ok K [(109, .aload 10, 111, 0, 0), (111, .iconst 1, 112, 1, 0), (112, .iload 5, 114, 0, 0)] _ _ _ (by decide +kernel) rfl ?_
  refine call_s K (hw _ (List.mem_of_getElem? (i := 13) rfl)) (hw _ (List.mem_of_getElem? (i := 14) rfl)) (hw _ (List.mem_of_getElem? (i := 2) rfl)) (hw _ (List.mem_of_getElem? (i := 15) rfl)) (kw l Z a0 hw n0 j0 hj0 _) at_114 rfl rfl [.int _] [.int _, .ref _] rfl rfl pd0 rfl (by decide) 2 (Nat.le_of_ble_eq_true rfl) (by decide) (by decide) (by decide) (by decide) ?_
  rintro _ _ ⟨rfl, rfl⟩
  refine h_stn K H (i := 0) (k := 1) (x := wid j0) rfl (by simp) (by omega) rfl at_117 rfl gp ?_
  intro h H
  refine go_ok K [(118, .aload 10, 120, 0, 0), (120, .iconst 2, 121, 2, 0), (121, .aload 10, 123, 0, 0), (123, .iconst 1, 124, 1, 0)] _ _ _ (by decide +kernel) rfl ?_
  refine h_ldn K H (i := 0) (k := 1) rfl (by simp) (by omega) at_124 rfl ?_
  refine go_ok K [(125, .iload 6, 127, 0, 0)] _ _ _ (by decide +kernel) rfl ?_
  refine call_s K (hw _ (List.mem_of_getElem? (i := 13) rfl)) (hw _ (List.mem_of_getElem? (i := 14) rfl)) (hw _ (List.mem_of_getElem? (i := 2) rfl)) (hw _ (List.mem_of_getElem? (i := 15) rfl)) (kw l Z a0 hw n0 j1 hj1 _) at_127 rfl rfl [.int _] [.int _, .int _, .ref _] rfl rfl pd0 rfl (by decide) 3 (Nat.le_of_ble_eq_true rfl) (by decide) (by decide) (by decide) (by decide) ?_
  rintro _ _ ⟨rfl, rfl⟩
  refine go_ok K [(130, .iadd, 131, 0, 0)] _ _ _ (by decide +kernel) rfl ?_
  rw [n_add]
  refine h_stn K H (i := 0) (k := 2) (x := wid j0 + wid j1) rfl (by simp) (by omega) rfl at_131 rfl gp ?_
  intro h H
  refine go_ok K [(132, .aload 10, 134, 0, 0), (134, .iconst 3, 135, 3, 0), (135, .aload 10, 137, 0, 0), (137, .iconst 2, 138, 2, 0)] _ _ _ (by decide +kernel) rfl ?_
  refine h_ldn K H (i := 0) (k := 2) rfl (by simp) (by omega) at_138 rfl ?_
  refine go_ok K [(139, .iload 7, 141, 0, 0)] _ _ _ (by decide +kernel) rfl ?_
  refine call_s K (hw _ (List.mem_of_getElem? (i := 13) rfl)) (hw _ (List.mem_of_getElem? (i := 14) rfl)) (hw _ (List.mem_of_getElem? (i := 2) rfl)) (hw _ (List.mem_of_getElem? (i := 15) rfl)) (kw l Z a0 hw n0 j2 hj2 _) at_141 rfl rfl [.int _] [.int _, .int _, .ref _] rfl rfl pd0 rfl (by decide) 3 (Nat.le_of_ble_eq_true rfl) (by decide) (by decide) (by decide) (by decide) ?_
  rintro _ _ ⟨rfl, rfl⟩
  refine go_ok K [(144, .iadd, 145, 0, 0)] _ _ _ (by decide +kernel) rfl ?_
  rw [n_add]
  refine h_stn K H (i := 0) (k := 3) (x := wid j0 + wid j1 + wid j2) rfl (by simp) (by omega) rfl at_145 rfl gp ?_
  intro h H
  refine go_ok K [(146, .iload_n 3, 147, 0, 0), (147, .iconst 3, 148, 3, 0), (148, .iand, 149, 0, 0), (149, .istore 11, 151, 0, 0), (151, .iload_n 3, 152, 0, 0), (152, .iconst 2, 153, 2, 0), (153, .iushr, 154, 0, 0), (154, .iconst 3, 155, 3, 0), (155, .iand, 156, 0, 0), (156, .istore 12, 158, 0, 0), (158, .iload 11, 160, 0, 0), (160, .iload 12, 162, 0, 0)] _ _ _ (by decide +kernel) rfl ?_
  obtain ⟨i, hi, ei⟩ := own_mask i3 3 2 (by decide) (by decide)
  obtain ⟨j, hj, ej⟩ := own_mask (XT.ushr i3 2) 3 2 (by decide) (by decide)
  rw [ei, ej]
  refine call_s K (hw _ (List.mem_of_getElem? (i := 16) rfl)) (hw _ (List.mem_of_getElem? (i := 17) rfl)) (hw _ (List.mem_of_getElem? (i := 18) rfl)) (hw _ (List.mem_of_getElem? (i := 19) rfl)) (kmi l Z a0 hw n0 i j hi hj _) at_162 rfl rfl [.int _, .int _] [] rfl rfl pd2 rfl (by decide) 0 (Nat.le_of_ble_eq_true rfl) (by decide) (by decide) (by decide) (by decide) ?_
  rintro _ _ ⟨rfl, rfl⟩
  refine go_ok K [(165, .istore 13, 167, 0, 0), (167, .iload 11, 169, 0, 0), (169, .iload 12, 171, 0, 0)] _ _ _ (by decide +kernel) rfl ?_
  refine call_s K (hw _ (List.mem_of_getElem? (i := 20) rfl)) (hw _ (List.mem_of_getElem? (i := 21) rfl)) (hw _ (List.mem_of_getElem? (i := 18) rfl)) (hw _ (List.mem_of_getElem? (i := 22) rfl)) (kma l Z a0 hw n0 i j hi hj _) at_171 rfl rfl [.int _, .int _] [] rfl rfl pd2 rfl (by decide) 0 (Nat.le_of_ble_eq_true rfl) (by decide) (by decide) (by decide) (by decide) ?_
  rintro _ _ ⟨rfl, rfl⟩
  refine go_ok K [(174, .istore 14, 176, 0, 0), (176, .aload 8, 178, 0, 0), (178, .aload 9, 180, 0, 0), (180, .iload 13, 182, 0, 0)] _ _ _ (by decide +kernel) rfl ?_
  have hb : ∀ k, k < 4 → (B4 l0 l1 l2).getD k 0 ≤ 13 := fun k hk => B4_le bl0 bl1 bl2 hk
  have hp : ∀ k, k < 4 → (P4 (wid j0) (wid j1) (wid j2)).getD k 0 ≤ 6 := fun k hk => P4_le (wid_le _) (wid_le _) (wid_le _) hk
  have hlt : min i j < 4 := by omega
  have hht : max i j < 4 := by omega
  have hle : min i j ≤ max i j := by omega
  have len2 : y2.length = 14 := by simp_all
  have g0 : ∀ (y : Int32), (∀ i, i < 1 + l0 + l1 + l2 → (y2.set (1 + l0 + l1 + l2) y).getD i 0 = y2.getD i 0) := fun y i hi => by simp only [List.getD_eq_getElem?_getD]; rw [List.getElem?_set_ne (by omega)]
  have R0 : ∀ y, wsum (y2.set (1 + l0 + l1 + l2) y) 1 l0 = wid j0 := fun y => by rw [← wl0]; exact wsum_congr l0 1 fun z h1 h2 => by rw [g0 _ z (by omega), kl2 z (by omega), kl1 z (by omega)]
  have R1 : ∀ y, wsum (y2.set (1 + l0 + l1 + l2) y) (1 + l0) l1 = wid j1 := fun y => by rw [← wl1]; exact wsum_congr l1 (1 + l0) fun z h1 h2 => by rw [g0 _ z (by omega), kl2 z (by omega)]
  have R2 : ∀ y, wsum (y2.set (1 + l0 + l1 + l2) y) (1 + l0 + l1) l2 = wid j2 := fun y => by rw [← wl2]; exact wsum_congr l2 (1 + l0 + l1) fun z h1 h2 => by rw [g0 _ z (by omega)]
  have LW := fun y => own_law (R0 y) (R1 y) (R2 y) hle hht
  have HB : Hp Z [] _ [(pr, .inr .int, ivN (P4 (wid j0) (wid j1) (wid j2))), (bf, .inr .byte, _), (bd, .inr .int, ivN (B4 l0 l1 l2))] := H
  clear H
  have H := HB
  clear HB
  refine h_ldn K H (i := 2) (k := min i j) rfl hlt (by omega) at_182 rfl ?_
  refine go_ok K [(183, .aload 9, 185, 0, 0), (185, .iload 14, 187, 0, 0)] _ _ _ (by decide +kernel) rfl ?_
  refine h_ldn K H (i := 2) (k := max i j) rfl hht (by omega) at_187 rfl ?_
  refine call_s K (hw _ (List.mem_of_getElem? (i := 23) rfl)) (hw _ (List.mem_of_getElem? (i := 24) rfl)) (hw _ (List.mem_of_getElem? (i := 25) rfl)) (hw _ (List.mem_of_getElem? (i := 26) rfl)) (ku l Z a0 hw n0 bf _ _ _ 1 _ _ H rfl (LW (nar FieldType.byte (XT.ushr i4 8).toInt8.toInt32)).2.2 (by have := hb _ hht; simp only [List.length_set]; omega) (by simp only [List.length_set]; omega)) at_188 rfl rfl [.ref _, .int _, .int _] [] rfl rfl pd1 rfl (by decide) 0 (Nat.le_of_ble_eq_true rfl) (by decide) (by decide) (by decide) (by decide) ?_
  rintro _ _ ⟨rfl, rfl⟩
  refine go_ok K [(191, .aload 10, 193, 0, 0), (193, .iload 14, 195, 0, 0)] _ _ _ (by decide +kernel) rfl ?_
  refine h_ldn K H (i := 0) (k := max i j) rfl hht (by omega) at_195 rfl ?_
  refine go_ok K [(196, .aload 10, 198, 0, 0), (198, .iload 13, 200, 0, 0)] _ _ _ (by decide +kernel) rfl ?_
  refine h_ldn K H (i := 0) (k := min i j) rfl hlt (by omega) at_200 rfl ?_
  refine go_ok K [(201, .isub, 202, 0, 0)] _ _ _ (by decide +kernel) rfl ?_
  refine icmp_ne (pc' := 209) (pn := 205) K at_202 (by decide) (by decide) rfl (fun h202 => ?_) (fun h202 => ?_)
  · refine absurd ?_ h202
    rw [(LW (nar FieldType.byte (XT.ushr i4 8).toInt8.toInt32)).2.1]
    exact (n_sub (by have := hp _ hht; omega) (LW 0).1).symm
  · refine go_ok K [(205, .iconst 1, 206, 1, 0), (206, .goto 4, 210, 0, 0)] _ _ _ (by decide +kernel) rfl ?_
    refine ret_z K at_210 (by first | exact Or.inl rfl | exact Or.inr rfl) (by decide) (by decide) ?_
    rfl
set_option maxRecDepth 65536 in
set_option maxHeartbeats 40000000 in
theorem comes_1 {Post : Tables → Env → Array Value → State → Outcome → State → Prop} (hpost : ∀ tb e args s v u, (limb_1_1.after args s (.returned v) u = true ∧ limb_1_2.after args s (.returned v) u = true ∧ True) → FrameEnd s (.returned v) u (Jvm.fieldLocs frame_1_writes args s ++ Jvm.arrayLocs frame_1_arrays args s ++ Jvm.staticLocs frame_1_statics s) 16 128 → Post tb e args s (.returned v) u) :
    ArmFor flags0 classFile x code maxLocals ret World_1 tables_1 room_1 Calls_1 rest_1 Pre_1 Post := by
  intro l hfl _ _ p e ha hc hk s m args below hf hA hF happ hP
  obtain ⟨hcalls, hrest, hpre⟩ := hP
  obtain ⟨-, -, -, hnamed, -, -, -, hat⟩ := (Spec.applies_iff hf).mp happ
  obtain ⟨hg, hn⟩ := and_e (Cond.before_iff.mp (show (Jvm.Cond.and given_1 narrow_1).before args s = true from hpre))
  obtain ⟨ga1, gb1⟩ := and_e hg
  obtain ⟨ga2, gb2⟩ := and_e gb1
  obtain ⟨ga3, gb3⟩ := and_e gb2
  obtain ⟨ga4, gb4⟩ := and_e gb3
  obtain ⟨ga5, gb5⟩ := and_e gb4
  obtain ⟨w0, w1, w2, w3, w4, rfl⟩ : ∃ w0 w1 w2 w3 w4 : Value, args = #[w0, w1, w2, w3, w4] := by
    have hs : args.size = 5 := by simpa [Cond.value, given_1] using ga1
    obtain ⟨L⟩ := args
    match L, hs with
    | [w0, w1, w2, w3, w4], _ => exact ⟨w0, w1, w2, w3, w4, rfl⟩
  have hw := fun d (hd : d ∈ tables_1) => atoms_spec (ws := Jvm.Cond.code x code maxLocals ret :: tables_1) hat d (List.mem_cons_of_mem _ hd)
  have hfit : Fit s := fun {y c} hc i hi => by
    obtain ⟨ha, rfl⟩ := Array.getElem?_eq_some_iff.mp hc
    have q := List.all_eq_true.mp ((Array.all_eq_true_iff_forall_mem.mp hF) _ (Array.getElem_mem ha)) i (List.mem_range.mpr hi)
    simpa [Array.getElem?_eq_getElem hi] using q
  obtain ⟨i0, ei0⟩ := is_v ga2
  obtain rfl : w0 = (.int i0) := Option.some.inj ei0
  obtain ⟨i1, ei1⟩ := is_v ga3
  obtain rfl : w1 = (.int i1) := Option.some.inj ei1
  obtain ⟨i2, ei2⟩ := is_v ga4
  obtain rfl : w2 = (.int i2) := Option.some.inj ei2
  obtain ⟨i3, ei3⟩ := is_v ga5
  obtain rfl : w3 = (.int i3) := Option.some.inj ei3
  obtain ⟨i4, ei4⟩ := is_v gb5
  obtain rfl : w4 = (.int i4) := Option.some.inj ei4
  obtain ⟨n, o, h1, h2, h3, _, L, rfl, ⟨rfl, N, -⟩, hq⟩ := law_ok l s _ hw s.heap.size i0 i1 i2 i3 i4 s.heap (Hp.nil nilI) (Nat.le_refl _) p e ha hc hk s m _ below hf ((Spec.applies_iff_loose hf).mp happ).1 ⟨rfl, State.Warmed39.refl s, rfl⟩ trivial
  refine ⟨n, _, h1, h2, h3, hpost _ _ _ _ _ _ ⟨Cond.after_iff.mpr rfl, Cond.after_iff.mpr (eq_i res_at (Term.int_eval (1)) rfl), trivial⟩ ⟨hq.1, hq.2.1, (hq.2.2.sift fun y hy => Or.inr (N y hy)).mono (by decide) (by decide)⟩⟩
theorem main_1_1 : Claimed_1_1 := comes_1 fun _ _ _ _ _ _ h hF => ⟨h.1, hF⟩
theorem main_1_2 : Claimed_1_2 := comes_1 fun _ _ _ _ _ _ h hF => ⟨h.2.1, hF⟩
end Jvm.Pilot.@@N@@
namespace Jvm.Pilot.@@N@@
open Jvm Jvm.ClassFile Sem Op Lib Jvm.Free Jvm.Stand Jvm.Pilot.@@N@@.Jvm.D
/-! MADE BY PROGRAM (witnessworld.py) out of the Statement's table words and the real class files: 10 classes; the members and pool entries that the words name. The judged class is class 1, her method 4. -/
namespace start1
open Jvm.ClassFile
def u (s : String) : CpInfo := .utf8 (stringToUtf16 s)
/-- a pool by its gaps: so many unusable entries, then the entry; so many at the end -/
def gap : Nat → List CpInfo → List CpInfo
  | 0, r => r
  | n + 1, r => .unusable :: gap n r
def poolList (es : List (Nat × CpInfo)) (last : Nat) : List CpInfo := es.foldr (fun e r => gap e.1 (e.2 :: r)) (gap last [])
def pool (es : List (Nat × CpInfo)) (last : Nat) : Array CpInfo := ⟨poolList es last⟩
def fileOf (pool : Array CpInfo) (this : Nat) (attrs : Array Attribute := #[]) (ms : Array MethodInfo := #[]) (fl : Nat := 33) (sup : Nat := 0) (ifs : Array Nat := #[]) (fds : Array FieldInfo := #[]) : ClassFile where
  minorVersion := 0
  majorVersion := 65
  constantPool := pool
  accessFlags := fl
  thisClass := this
  superClass := sup
  interfaces := ifs
  fields := fds
  methods := ms
  attributes := attrs
def plain (name : String) (sup : Option ClassId) : Class where
  name := name
  kind := .ordinary
  loader := none
  accessFlags := 33
  super := sup
  interfaces := #[]
  cf := none
  fields := #[]
  methods := #[]
  instanceTypes := #[]
  staticTypes := #[]
  resolved := #[]
  callSites := []
  init := .initialized
  statics := none
  mirror := none

def pool0 : Array CpInfo := pool [(5, u "<init>"), (0, u "()V"), (1, .class_ 10), (1, u "java/lang/Object")] 113

def k0m0 : Method := { name := "<init>", desc := "()V", sig := { parameters := [], returnType := none }, accessFlags := 1, code := none }
/-- java/lang/Object -/
def k0 : Class := { plain "java/lang/Object" none with
  accessFlags := 33
  interfaces := #[]
  cf := some (fileOf pool0 8 #[] #[{ accessFlags := 1, nameIndex := 5, descriptorIndex := 6, attributes := #[] }] 33 0 #[] #[])
  fields := #[]
  methods := #[k0m0]
  instanceTypes := #[]
  staticTypes := #[]
  resolved := Array.replicate 124 none
  statics := none }

def pool1 : Array CpInfo := pool [(2, .class_ 4), (1, u "java/lang/Object"), (0, u "<init>"), (0, u "()V"), (0, .integer 61440), (0, .integer 55296), (0, .integer 65536), (0, .integer 1048576), (0, .methodref 12 13), (0, .class_ 14), (0, .nameAndType 15 16), (0, u "com/example/json_doc_store/jsondocstore/TextCursorUtf16LengthPinLaw"), (0, u "codePoint"), (0, u "(I)I"), (0, .methodref 12 18), (0, .nameAndType 19 20), (0, u "encode"), (0, u "([BII)I"), (0, .methodref 12 22), (0, .nameAndType 23 16), (0, u "width"), (0, .methodref 25 26), (0, .class_ 27), (0, .nameAndType 28 29), (0, u "java/lang/Math"), (0, u "min"), (0, u "(II)I"), (0, .methodref 25 31), (0, .nameAndType 32 29), (0, u "max"), (0, .methodref 34 35), (0, .class_ 36), (0, .nameAndType 37 20), (0, u "com/example/json_doc_store/jsondocstore/TextCursor"), (0, u "utf16Length"), (3, u "law"), (0, u "(IIIII)Z")] 6

def k1m0 : Method := { name := "<init>", desc := "()V", sig := { parameters := [], returnType := none }, accessFlags := 2, code := none }
def k1c1 : Code := { maxStack := 3, maxLocals := 4, code := method_2_code, exceptionTable := #[], attributes := #[] }
def k1m1 : Method := { name := "codePoint", desc := "(I)I", sig := { parameters := [.int], returnType := some .int }, accessFlags := 10, code := some k1c1 }
def k1c2 : Code := { maxStack := 2, maxLocals := 1, code := method_3_code, exceptionTable := #[], attributes := #[] }
def k1m2 : Method := { name := "width", desc := "(I)I", sig := { parameters := [.int], returnType := some .int }, accessFlags := 10, code := some k1c2 }
def k1c3 : Code := { maxStack := 5, maxLocals := 3, code := method_4_code, exceptionTable := #[], attributes := #[] }
def k1m3 : Method := { name := "encode", desc := "([BII)I", sig := { parameters := [(.array .byte), .int, .int], returnType := some .int }, accessFlags := 10, code := some k1c3 }
def k1c4 : Code := { maxStack := 5, maxLocals := 15, code := code, exceptionTable := #[], attributes := #[] }
def k1m4 : Method := { name := "law", desc := "(IIIII)Z", sig := { parameters := [.int, .int, .int, .int, .int], returnType := some .boolean }, accessFlags := 9, code := some k1c4 }
/-- com/example/json_doc_store/jsondocstore/TextCursorUtf16LengthPinLaw -/
def k1 : Class := { plain "com/example/json_doc_store/jsondocstore/TextCursorUtf16LengthPinLaw" (some 0) with
  accessFlags := 49
  interfaces := #[]
  cf := some (fileOf pool1 12 #[] #[{ accessFlags := 2, nameIndex := 5, descriptorIndex := 6, attributes := #[] }, { accessFlags := 10, nameIndex := 15, descriptorIndex := 16, attributes := #[] }, { accessFlags := 10, nameIndex := 23, descriptorIndex := 16, attributes := #[] }, { accessFlags := 10, nameIndex := 19, descriptorIndex := 20, attributes := #[] }, { accessFlags := 9, nameIndex := 41, descriptorIndex := 42, attributes := #[] }] 49 2 #[] #[])
  fields := #[]
  methods := #[k1m0, k1m1, k1m2, k1m3, k1m4]
  instanceTypes := #[]
  staticTypes := #[]
  resolved := Array.replicate 49 none
  statics := none }

def pool2 : Array CpInfo := pool [(1, .class_ 2), (0, u "java/lang/Math"), (1, .class_ 6), (1, u "java/lang/Object"), (0, u "<init>"), (0, u "()V"), (89, .class_ 100), (1, u "java/lang/Math$RandomNumberGeneratorHolder"), (71, u "negativeZeroFloatBits"), (0, u "J"), (2, u "negativeZeroDoubleBits"), (21, u "max"), (2, u "min"), (43, u "$assertionsDisabled"), (0, u "Z"), (88, u "(II)I"), (2, u "twoToTheDoubleScaleDown"), (0, u "D"), (4, u "twoToTheDoubleScaleUp"), (9, u "E"), (3, u "PI"), (2, u "TAU"), (2, u "DEGREES_TO_RADIANS"), (0, u "RADIANS_TO_DEGREES")] 94

def k2m0 : Method := { name := "<init>", desc := "()V", sig := { parameters := [], returnType := none }, accessFlags := 2, code := none }
def k2c1 : Code := { maxStack := 2, maxLocals := 2, code := jdk_29_method_65_code, exceptionTable := #[], attributes := #[] }
def k2m1 : Method := { name := "max", desc := "(II)I", sig := { parameters := [.int, .int], returnType := some .int }, accessFlags := 9, code := some k2c1 }
def k2c2 : Code := { maxStack := 2, maxLocals := 2, code := jdk_29_method_69_code, exceptionTable := #[], attributes := #[] }
def k2m2 : Method := { name := "min", desc := "(II)I", sig := { parameters := [.int, .int], returnType := some .int }, accessFlags := 9, code := some k2c2 }
/-- java/lang/Math -/
def k2 : Class := { plain "java/lang/Math" (some 0) with
  accessFlags := 49
  interfaces := #[]
  cf := some (fileOf pool2 1 #[.nestMembers #[98]] #[{ accessFlags := 2, nameIndex := 7, descriptorIndex := 8, attributes := #[] }, { accessFlags := 9, nameIndex := 198, descriptorIndex := 335, attributes := #[] }, { accessFlags := 9, nameIndex := 201, descriptorIndex := 335, attributes := #[] }] 49 4 #[] #[{ accessFlags := 25, nameIndex := 354, descriptorIndex := 339, attributes := #[] }, { accessFlags := 25, nameIndex := 358, descriptorIndex := 339, attributes := #[] }, { accessFlags := 25, nameIndex := 361, descriptorIndex := 339, attributes := #[] }, { accessFlags := 26, nameIndex := 364, descriptorIndex := 339, attributes := #[] }, { accessFlags := 26, nameIndex := 365, descriptorIndex := 339, attributes := #[] }, { accessFlags := 26, nameIndex := 172, descriptorIndex := 173, attributes := #[] }, { accessFlags := 26, nameIndex := 176, descriptorIndex := 173, attributes := #[] }, { accessFlags := 8, nameIndex := 344, descriptorIndex := 339, attributes := #[] }, { accessFlags := 8, nameIndex := 338, descriptorIndex := 339, attributes := #[] }, { accessFlags := 4120, nameIndex := 245, descriptorIndex := 246, attributes := #[] }])
  fields := #[{ name := "E", type := .double, accessFlags := 25, slot := 0, constantValue := 0 }, { name := "PI", type := .double, accessFlags := 25, slot := 1, constantValue := 0 }, { name := "TAU", type := .double, accessFlags := 25, slot := 2, constantValue := 0 }, { name := "DEGREES_TO_RADIANS", type := .double, accessFlags := 26, slot := 3, constantValue := 0 }, { name := "RADIANS_TO_DEGREES", type := .double, accessFlags := 26, slot := 4, constantValue := 0 }, { name := "negativeZeroFloatBits", type := .long, accessFlags := 26, slot := 5, constantValue := 0 }, { name := "negativeZeroDoubleBits", type := .long, accessFlags := 26, slot := 6, constantValue := 0 }, { name := "twoToTheDoubleScaleUp", type := .double, accessFlags := 8, slot := 7, constantValue := 0 }, { name := "twoToTheDoubleScaleDown", type := .double, accessFlags := 8, slot := 8, constantValue := 0 }, { name := "$assertionsDisabled", type := .boolean, accessFlags := 4120, slot := 9, constantValue := 0 }]
  methods := #[k2m0, k2m1, k2m2]
  instanceTypes := #[]
  staticTypes := #[.double, .double, .double, .double, .double, .long, .long, .double, .double, .boolean]
  resolved := Array.replicate 460 none
  statics := none }

def pool3 : Array CpInfo := pool [(2, .class_ 4), (1, u "java/lang/Object"), (6, .class_ 13), (1, u "com/example/json_doc_store/jsondocstore/TextCursor"), (0, u "strings"), (0, u "Lcom/example/json_doc_store/jsondocstore/StringLiteralReader;"), (2, u "text"), (0, u "[B"), (2, u "subject"), (0, u "Ljava/lang/String;"), (35, u "position"), (0, u "I"), (103, u "utf16Length"), (0, u "([BII)I")] 50

def k3c0 : Code := { maxStack := 3, maxLocals := 6, code := prog_85_method_29_code, exceptionTable := #[], attributes := #[] }
def k3m0 : Method := { name := "utf16Length", desc := "([BII)I", sig := { parameters := [(.array .byte), .int, .int], returnType := some .int }, accessFlags := 8, code := some k3c0 }
/-- com/example/json_doc_store/jsondocstore/TextCursor -/
def k3 : Class := { plain "com/example/json_doc_store/jsondocstore/TextCursor" (some 0) with
  accessFlags := 32
  interfaces := #[]
  cf := some (fileOf pool3 11 #[] #[{ accessFlags := 8, nameIndex := 164, descriptorIndex := 165, attributes := #[] }] 32 2 #[] #[{ accessFlags := 18, nameIndex := 18, descriptorIndex := 19, attributes := #[] }, { accessFlags := 18, nameIndex := 22, descriptorIndex := 23, attributes := #[] }, { accessFlags := 2, nameIndex := 59, descriptorIndex := 60, attributes := #[] }, { accessFlags := 18, nameIndex := 14, descriptorIndex := 15, attributes := #[] }])
  fields := #[{ name := "text", type := (.array .byte), accessFlags := 18, slot := 0, constantValue := 0 }, { name := "subject", type := (.object "java/lang/String"), accessFlags := 18, slot := 1, constantValue := 0 }, { name := "position", type := .int, accessFlags := 2, slot := 2, constantValue := 0 }, { name := "strings", type := (.object "com/example/json_doc_store/jsondocstore/StringLiteralReader"), accessFlags := 18, slot := 3, constantValue := 0 }]
  methods := #[k3m0]
  instanceTypes := #[(.array .byte), (.object "java/lang/String"), .int, (.object "com/example/json_doc_store/jsondocstore/StringLiteralReader")]
  staticTypes := #[]
  resolved := Array.replicate 216 none
  statics := none }

def pool4 : Array CpInfo := pool [(1, u "java/lang/Cloneable"), (0, .class_ 1), (0, u "java/lang/Object"), (0, .class_ 3)] 3

/-- java/lang/Cloneable -/
def k4 : Class := { plain "java/lang/Cloneable" (some 0) with
  accessFlags := 1537
  interfaces := #[]
  cf := some (fileOf pool4 2 #[] #[] 1537 4 #[] #[])
  fields := #[]
  methods := #[]
  instanceTypes := #[]
  staticTypes := #[]
  resolved := Array.replicate 8 none
  statics := none }

def pool5 : Array CpInfo := pool [(1, u "java/io/Serializable"), (0, .class_ 1), (0, u "java/lang/Object"), (0, .class_ 3)] 3

/-- java/io/Serializable -/
def k5 : Class := { plain "java/io/Serializable" (some 0) with
  accessFlags := 1537
  interfaces := #[]
  cf := some (fileOf pool5 2 #[] #[] 1537 4 #[] #[])
  fields := #[]
  methods := #[]
  instanceTypes := #[]
  staticTypes := #[]
  resolved := Array.replicate 8 none
  statics := none }

/-- the primitive byte -/
def k6 : Class := { plain "byte" none with kind := .primitive 'B', accessFlags := 0x411 }
/-- [B -/
def k7 : Class := { plain "[B" (some 0) with kind := .array 6 .byte, interfaces := #[4, 5], accessFlags := 1041 }

/-- the primitive int -/
def k8 : Class := { plain "int" none with kind := .primitive 'I', accessFlags := 0x411 }
/-- [I -/
def k9 : Class := { plain "[I" (some 0) with kind := .array 8 .int, interfaces := #[4, 5], accessFlags := 1041 }

def heap : Heap := #[]
def classes : Array Class := #[k0, k1, k2, k3, k4, k5, k6, k7, k8, k9]
def interned : List (Array UInt16 × Addr) := []
def slotsUsed : Nat := 0
def theMethod : MethodId := ⟨1, 4⟩
def args0 : Array Value := #[.int 5, .int 5, .int 5, .int 5, .int 5]
def aboutOver (below : List Frame) : State where
  vm := { classes := classes, interned := interned.toArray }
  heap := heap
  slotsUsed := slotsUsed
  threads := #[{ frames := .invoking theMethod args0 :: below }]
def below0 : List Frame := [.native { method := ⟨0, 0⟩, args := #[] }]
def about1 : State := aboutOver below0
def p0 : Program := .bare "" "" ""
def e0 : Env := launch0.env 0 0 0
theorem w_frames : about1.frames = Frame.invoking theMethod args0 :: below0 := rfl
set_option maxRecDepth 65536 in
theorem w_args : argsFit about1.vm theMethod args0 = true := by decide +kernel
set_option maxRecDepth 65536 in
theorem w_heap : heapFits about1 = true := by decide +kernel
set_option maxRecDepth 65536 in
theorem w_runnable : about1.curStatus? = some .runnable := by decide +kernel
set_option maxRecDepth 65536 in
theorem w_alone : about1.alone = true := by decide +kernel
set_option maxRecDepth 65536 in
theorem w_named : about1.methodNamed? x = some theMethod := by decide +kernel
set_option maxRecDepth 65536 in
theorem w_hears : about1.hears theMethod below0 = true := by decide +kernel
set_option maxRecDepth 65536 in
theorem w_ripe : about1.ripe theMethod args0 below0 = true := by decide +kernel
theorem w_running : about1.status = .running := rfl
set_option maxRecDepth 65536 in
theorem w_room : about1.hasRoom e0.platform room_1 = true :=
  launch0.hasRoom_least _ room_1 (by decide +kernel) (by decide +kernel) (by decide +kernel) (by decide +kernel) (by decide +kernel) (by decide +kernel)
theorem allAtoms_all (ts : List Jvm.Cond) (a : Array Jvm.Value) (st : Jvm.State) : (allAtoms ts).before a st = ts.all (fun c => c.before a st) := by
  induction ts with
  | nil => rfl
  | cons c t ih =>
    show (Jvm.Cond.and c (allAtoms t)).before a st = _
    rw [Jvm.Cond.before_and, ih, List.all_cons]
def words1 : List Jvm.Cond := Jvm.Cond.code x code maxLocals ret :: tables_1
/-- a 'code' word, met by the world's own term for the bytes: nothing is compared byte by byte -/
theorem code_word {y : MethodName} {bytes : ByteArray} {mx : Nat} {rt : Option FieldType} {a : Array Value} {s : State} {m : MethodId} {meth : Method} {c : Code} (h1 : s.methodNamed? y = some m) (h2 : s.vm.method? m = some meth) (h3 : meth.code = some c) (h4 : c.code = bytes)
    (h5 : (c.maxLocals == mx && c.exceptionTable.isEmpty && decide (c.maxStack ≤ mostOperands) && decide (meth.sig.returnType = rt) && !meth.locks && decide (parseMethodDescriptor y.desc = some meth.sig)) = true) : (Jvm.Cond.code y bytes mx rt).before a s = true := by
  simp only [Bool.and_eq_true, beq_iff_eq, Bool.not_eq_true', decide_eq_true_eq] at h5
  obtain ⟨⟨⟨⟨⟨g1, g2⟩, g3⟩, g4⟩, g5⟩, g6⟩ := h5
  simp [Cond.before, Cond.holds, Cond.value, h1, h2, h3, h4, g1, g2, g3, g4, g5, g6]
def isCode : Jvm.Cond → Bool
  | .code _ _ _ _ => true
  | _ => false
theorem all_split {L : List Jvm.Cond} {P : Jvm.Cond → Bool} (h1 : L.all (fun c => isCode c || P c) = true) (h2 : ∀ c ∈ L.filter isCode, P c = true) : L.all P = true := by
  refine List.all_eq_true.mpr fun c hc => ?_
  have h := List.all_eq_true.mp h1 c hc
  rcases Bool.eq_false_or_eq_true (isCode c) with hi | hi
  · exact h2 c (List.mem_filter.mpr ⟨hc, hi⟩)
  · simpa [hi] using h
set_option maxRecDepth 65536 in
theorem w_c0 : (Jvm.Cond.code x code maxLocals ret).before args0 about1 = true := code_word (m := ⟨1, 4⟩) (meth := k1m4) (c := k1c4) (by decide +kernel) rfl rfl rfl (by decide +kernel)
set_option maxRecDepth 65536 in
theorem w_c1 : (Jvm.Cond.code ({ cls := "com/example/json_doc_store/jsondocstore/TextCursorUtf16LengthPinLaw", name := "codePoint", desc := "(I)I" } : Jvm.MethodName) method_2_code (4 : Nat) (Option.some Jvm.ClassFile.FieldType.int)).before args0 about1 = true := code_word (m := ⟨1, 1⟩) (meth := k1m1) (c := k1c1) (by decide +kernel) rfl rfl rfl (by decide +kernel)
set_option maxRecDepth 65536 in
theorem w_c2 : (Jvm.Cond.code ({ cls := "com/example/json_doc_store/jsondocstore/TextCursorUtf16LengthPinLaw", name := "encode", desc := "([BII)I" } : Jvm.MethodName) method_4_code (3 : Nat) (Option.some Jvm.ClassFile.FieldType.int)).before args0 about1 = true := code_word (m := ⟨1, 3⟩) (meth := k1m3) (c := k1c3) (by decide +kernel) rfl rfl rfl (by decide +kernel)
set_option maxRecDepth 65536 in
theorem w_c3 : (Jvm.Cond.code ({ cls := "com/example/json_doc_store/jsondocstore/TextCursorUtf16LengthPinLaw", name := "width", desc := "(I)I" } : Jvm.MethodName) method_3_code (1 : Nat) (Option.some Jvm.ClassFile.FieldType.int)).before args0 about1 = true := code_word (m := ⟨1, 2⟩) (meth := k1m2) (c := k1c2) (by decide +kernel) rfl rfl rfl (by decide +kernel)
set_option maxRecDepth 65536 in
theorem w_c4 : (Jvm.Cond.code ({ cls := "java/lang/Math", name := "min", desc := "(II)I" } : Jvm.MethodName) jdk_29_method_69_code (2 : Nat) (Option.some Jvm.ClassFile.FieldType.int)).before args0 about1 = true := code_word (m := ⟨2, 2⟩) (meth := k2m2) (c := k2c2) (by decide +kernel) rfl rfl rfl (by decide +kernel)
set_option maxRecDepth 65536 in
theorem w_c5 : (Jvm.Cond.code ({ cls := "java/lang/Math", name := "max", desc := "(II)I" } : Jvm.MethodName) jdk_29_method_65_code (2 : Nat) (Option.some Jvm.ClassFile.FieldType.int)).before args0 about1 = true := code_word (m := ⟨2, 1⟩) (meth := k2m1) (c := k2c1) (by decide +kernel) rfl rfl rfl (by decide +kernel)
set_option maxRecDepth 65536 in
theorem w_c6 : (Jvm.Cond.code ({ cls := "com/example/json_doc_store/jsondocstore/TextCursor", name := "utf16Length", desc := "([BII)I" } : Jvm.MethodName) prog_85_method_29_code (6 : Nat) (Option.some Jvm.ClassFile.FieldType.int)).before args0 about1 = true := code_word (m := ⟨3, 0⟩) (meth := k3m0) (c := k3c0) (by decide +kernel) rfl rfl rfl (by decide +kernel)
def codes1 : List Jvm.Cond := [Jvm.Cond.code x code maxLocals ret, Jvm.Cond.code ({ cls := "com/example/json_doc_store/jsondocstore/TextCursorUtf16LengthPinLaw", name := "codePoint", desc := "(I)I" } : Jvm.MethodName) method_2_code (4 : Nat) (Option.some Jvm.ClassFile.FieldType.int), Jvm.Cond.code ({ cls := "com/example/json_doc_store/jsondocstore/TextCursorUtf16LengthPinLaw", name := "encode", desc := "([BII)I" } : Jvm.MethodName) method_4_code (3 : Nat) (Option.some Jvm.ClassFile.FieldType.int), Jvm.Cond.code ({ cls := "com/example/json_doc_store/jsondocstore/TextCursorUtf16LengthPinLaw", name := "width", desc := "(I)I" } : Jvm.MethodName) method_3_code (1 : Nat) (Option.some Jvm.ClassFile.FieldType.int), Jvm.Cond.code ({ cls := "java/lang/Math", name := "min", desc := "(II)I" } : Jvm.MethodName) jdk_29_method_69_code (2 : Nat) (Option.some Jvm.ClassFile.FieldType.int), Jvm.Cond.code ({ cls := "java/lang/Math", name := "max", desc := "(II)I" } : Jvm.MethodName) jdk_29_method_65_code (2 : Nat) (Option.some Jvm.ClassFile.FieldType.int), Jvm.Cond.code ({ cls := "com/example/json_doc_store/jsondocstore/TextCursor", name := "utf16Length", desc := "([BII)I" } : Jvm.MethodName) prog_85_method_29_code (6 : Nat) (Option.some Jvm.ClassFile.FieldType.int)]
set_option maxRecDepth 65536 in
theorem codes_eq : words1.filter isCode = codes1 := rfl
theorem w_codes : ∀ c ∈ words1.filter isCode, c.before args0 about1 = true := by
  rw [codes_eq]
  intro c hc
  simp only [codes1, List.mem_cons, List.not_mem_nil, or_false] at hc
  rcases hc with rfl | rfl | rfl | rfl | rfl | rfl | rfl
  · exact w_c0
  · exact w_c1
  · exact w_c2
  · exact w_c3
  · exact w_c4
  · exact w_c5
  · exact w_c6
set_option maxRecDepth 65536 in
theorem w_t1 : (words1.take 24).all (fun c => isCode c || c.before args0 about1) = true := by decide +kernel
set_option maxRecDepth 65536 in
theorem w_t2 : (words1.drop 24).all (fun c => isCode c || c.before args0 about1) = true := by decide +kernel
theorem w_tables : (allAtoms (Jvm.Cond.code x code maxLocals ret :: tables_1)).before args0 about1 = true := by
  rw [allAtoms_all]
  show words1.all (fun c => c.before args0 about1) = true
  refine all_split ?_ w_codes
  rw [← List.take_append_drop 24 words1, List.all_append, w_t1, w_t2]
  rfl
set_option maxRecDepth 65536 in
theorem w_case : (Jvm.Cond.and given_1 narrow_1).before args0 about1 = true := by decide +kernel
theorem w_applies : (headSpec (Jvm.Cond.code x code maxLocals ret :: tables_1) room_1).applies x e0.platform about1 = true :=
  (Spec.applies_iff w_frames).mpr ⟨w_running, w_runnable, w_alone, w_named, w_hears, w_ripe, w_room, w_tables⟩
theorem atStart : AtStart classFile x code maxLocals ret World_1 tables_1 room_1 Calls_1 rest_1 Pre_1 launch0 p0 e0 about1 theMethod args0 below0 :=
  ⟨lists_1, trivial, launch0.admits_env _ _ _, launch0.least_env, fairChoices_fair.cas, fairChoices_fair.clock, w_frames, w_args, w_heap, w_applies, trivial, trivial, w_case⟩
end start1
theorem witness_1 : WitnessClaimed_1 := ⟨start1.p0, start1.e0, start1.about1, start1.theMethod, start1.args0, start1.below0, start1.atStart⟩
end Jvm.Pilot.@@N@@
