import JvmDerived
import JvmDerived.Pilot.@@N@@Statement
import JvmDerived.Pilot.@@N@@Code
set_option linter.unusedVariables false
set_option linter.unusedSimpArgs false
@@BLOCK:NumsL.lean.txt@@
namespace Jvm.Own
open Sem ClassFile Op Lib Jvm.Stand Jvm.Free Jvm.LawKit Jvm.RoadKit
/-! own layer: a run of plain instructions by evaluation (go), and a predicate WP that the steps carry backwards -/
abbrev Row := Nat × Instr × Nat × Int32 × Int64
def put {β : Type} : List Slot → Nat → Slot → (List Slot → Option β) → Option β
  | [], _, _, _ => none
  | _ :: r, 0, v, k => k (v :: r)
  | a :: r, n + 1, v, k => put r n v (fun r' => k (a :: r'))
theorem put_ok {β : Type} : ∀ (ls : List Slot) (i : Nat) (v : Slot) (k : List Slot → Option β) (b : β), put ls i v k = some b → i < ls.length ∧ k (ls.set i v) = some b
  | [], _, _, _, _, h => by cases h
  | _ :: r, 0, v, k, b, h => ⟨Nat.zero_lt_succ _, h⟩
  | a :: r, n + 1, v, k, b, h => by
    obtain ⟨h1, h2⟩ := put_ok r n v (fun r' => k (a :: r')) b h
    exact ⟨Nat.succ_lt_succ h1, h2⟩
def st1 {β : Type} (ls : List Slot) (i : Nat) (v : Value) (k : List Slot → Option β) : Option β :=
  match ls[i]? with
  | some .unset => put ls i (.val v) k
  | some (.val (.int _)) => put ls i (.val v) k
  | some (.val (.ref _)) => put ls i (.val v) k
  | some (.val .null) => put ls i (.val v) k
  | some (.val (.long _)) => put ls (i + 1) .unset fun l => put l i (.val v) k
  | _ => none
def st2 {β : Type} (ls : List Slot) (i : Nat) (v : Value) (k : List Slot → Option β) : Option β :=
  match ls[i]? with
  | some .unset => (match ls[i + 1]? with
    | some .unset => put ls i (.val v) fun l => put l (i + 1) .second k
    | some (.val (.int _)) => put ls i (.val v) fun l => put l (i + 1) .second k
    | some (.val (.ref _)) => put ls i (.val v) fun l => put l (i + 1) .second k
    | some (.val .null) => put ls i (.val v) fun l => put l (i + 1) .second k
    | _ => none)
  | some (.val (.long _)) => (match ls[i + 1]? with
    | some .second => put ls i (.val v) fun l => put l (i + 1) .second k
    | _ => none)
  | some (.val (.int _)) => (match ls[i + 1]? with
    | some .unset => put ls i (.val v) fun l => put l (i + 1) .second k
    | some (.val (.int _)) => put ls i (.val v) fun l => put l (i + 1) .second k
    | some (.val (.ref _)) => put ls i (.val v) fun l => put l (i + 1) .second k
    | some (.val .null) => put ls i (.val v) fun l => put l (i + 1) .second k
    | _ => none)
  | _ => none
theorem st1_ok {β : Type} {ls : List Slot} {i : Nat} {v : Value} {k : List Slot → Option β} {b : β} (hv : v.category = 1) (h : st1 ls i v k = some b) : ∃ ls', k ls' = some b ∧ ls'.length = ls.length ∧ storeLocals ls.toArray i v = some ls'.toArray := by
  have key : ∀ o : Slot, ls[i]? = some o → (o = .unset ∨ ∃ w, o = .val w ∧ w.category = 1) → put ls i (.val v) k = some b → ∃ ls', k ls' = some b ∧ ls'.length = ls.length ∧ storeLocals ls.toArray i v = some ls'.toArray := fun o ho hc hp => by
    obtain ⟨h1, h2⟩ := put_ok _ _ _ _ _ hp
    refine ⟨_, h2, by simp, ?_⟩
    rw [XS.store1 (l := ls.toArray) (o := o) (by simpa using ho) hc hv]
    simp
  unfold st1 at h
  split at h
  · rename_i e; exact key _ e (Or.inl rfl) h
  · rename_i e; exact key _ e (Or.inr ⟨_, rfl, rfl⟩) h
  · rename_i e; exact key _ e (Or.inr ⟨_, rfl, rfl⟩) h
  · rename_i e; exact key _ e (Or.inr ⟨_, rfl, rfl⟩) h
  · rename_i w e
    obtain ⟨h1, h2⟩ := put_ok _ _ _ _ _ h
    obtain ⟨h3, h4⟩ := put_ok _ _ _ _ _ h2
    refine ⟨_, h4, by simp, ?_⟩
    have h5 : i < ls.length := by simpa using h3
    have g1 : ls[i] = .val (.long w) := by rw [List.getElem?_eq_getElem h5] at e; exact Option.some.inj e
    simp [storeLocals, storeSelf, setAt, hv, h1, h5, g1, show (Value.long w).category = 2 from rfl]
  · cases h
theorem st2_ok {β : Type} {ls : List Slot} {i : Nat} {z : Int64} {k : List Slot → Option β} {b : β} (h : st2 ls i (.long z) k = some b) : ∃ ls', k ls' = some b ∧ ls'.length = ls.length ∧ storeLocals ls.toArray i (.long z) = some ls'.toArray := by
  have key : ∀ o o' : Slot, ls[i]? = some o → ls[i + 1]? = some o' → ((o = .unset ∨ ∃ w, o = .val w ∧ w.category = 1) ∧ (o' = .unset ∨ ∃ w, o' = .val w ∧ w.category = 1) ∨ ∃ w, o = .val (.long w) ∧ o' = .second) → put ls i (.val (.long z)) (fun l => put l (i + 1) .second k) = some b → ∃ ls', k ls' = some b ∧ ls'.length = ls.length ∧ storeLocals ls.toArray i (.long z) = some ls'.toArray := fun o o' ho ho' hc hp => by
    obtain ⟨h1, h2⟩ := put_ok _ _ _ _ _ hp
    obtain ⟨h3, h4⟩ := put_ok _ _ _ _ _ h2
    refine ⟨_, h4, by simp, ?_⟩
    have h5 : i + 1 < ls.length := by simpa using h3
    have g1 : ls[i] = o := by rw [List.getElem?_eq_getElem h1] at ho; exact Option.some.inj ho
    have g2 : ls[i + 1] = o' := by rw [List.getElem?_eq_getElem h5] at ho'; exact Option.some.inj ho'
    rcases hc with ⟨hc, hc'⟩ | ⟨w, rfl, rfl⟩
    · rcases hc with rfl | ⟨w, rfl, hw⟩ <;> rcases hc' with rfl | ⟨w', rfl, hw'⟩ <;> simp [storeLocals, storeSelf, setAt, Value.category, h1, h5, g1, g2, List.getElem?_set, *] <;> simp_all [Value.category]
    · simp [storeLocals, storeSelf, setAt, Value.category, h1, h5, g1, g2, List.getElem?_set]
      rw [List.set_comm _ _ (by omega), List.set_set]
      rw [List.set_comm _ _ (by omega)]
  unfold st2 at h
  split at h
  · rename_i e
    split at h
    · rename_i e'; exact key _ _ e e' (Or.inl ⟨Or.inl rfl, Or.inl rfl⟩) h
    · rename_i e'; exact key _ _ e e' (Or.inl ⟨Or.inl rfl, Or.inr ⟨_, rfl, rfl⟩⟩) h
    · rename_i e'; exact key _ _ e e' (Or.inl ⟨Or.inl rfl, Or.inr ⟨_, rfl, rfl⟩⟩) h
    · rename_i e'; exact key _ _ e e' (Or.inl ⟨Or.inl rfl, Or.inr ⟨_, rfl, rfl⟩⟩) h
    · cases h
  · rename_i e
    split at h
    · rename_i e'; exact key _ _ e e' (Or.inr ⟨_, rfl, rfl⟩) h
    · cases h
  · rename_i e
    split at h
    · rename_i e'; exact key _ _ e e' (Or.inl ⟨Or.inr ⟨_, rfl, rfl⟩, Or.inl rfl⟩) h
    · rename_i e'; exact key _ _ e e' (Or.inl ⟨Or.inr ⟨_, rfl, rfl⟩, Or.inr ⟨_, rfl, rfl⟩⟩) h
    · rename_i e'; exact key _ _ e e' (Or.inl ⟨Or.inr ⟨_, rfl, rfl⟩, Or.inr ⟨_, rfl, rfl⟩⟩) h
    · rename_i e'; exact key _ _ e e' (Or.inl ⟨Or.inr ⟨_, rfl, rfl⟩, Or.inr ⟨_, rfl, rfl⟩⟩) h
    · cases h
  · cases h

def pI1 {β : Type} (st : List Value) (k : Int32 → List Value → Option β) : Option β := match st with | .int x :: r => k x r | _ => none
def pJ1 {β : Type} (st : List Value) (k : Int64 → List Value → Option β) : Option β := match st with | .long x :: r => k x r | _ => none
def pI2 {β : Type} (st : List Value) (k : Int32 → Int32 → List Value → Option β) : Option β := match st with | .int y :: .int x :: r => k x y r | _ => none
def pJ2 {β : Type} (st : List Value) (k : Int64 → Int64 → List Value → Option β) : Option β := match st with | .long y :: .long x :: r => k x y r | _ => none
def pJI {β : Type} (st : List Value) (k : Int64 → Int32 → List Value → Option β) : Option β := match st with | .int y :: .long x :: r => k x y r | _ => none
def isW (v : Value) : Bool := match v with | .int _ => true | .ref _ => true | .null => true | _ => false
def isA (v : Value) : Bool := match v with | .ref _ => true | .null => true | _ => false
def pA1 {β : Type} (st : List Value) (k : Value → List Value → Option β) : Option β := match st with | .ref a :: r => k (.ref a) r | .null :: r => k .null r | _ => none
def pW1 {β : Type} (st : List Value) (k : Value → List Value → Option β) : Option β := match st with | .int x :: r => k (.int x) r | .ref a :: r => k (.ref a) r | .null :: r => k .null r | _ => none
def pW2 {β : Type} (st : List Value) (k : Value → Value → List Value → Option β) : Option β := pW1 st fun x r => pW1 r fun y r' => k x y r'
def pW3 {β : Type} (st : List Value) (k : Value → Value → Value → List Value → Option β) : Option β := pW1 st fun x r => pW2 r fun y z r' => k x y z r'
def pD {β : Type} (st : List Value) (k1 : Int64 → List Value → Option β) (k : Value → Value → List Value → Option β) : Option β := match st with | .long x :: r => k1 x r | .int x :: r => pW1 r fun y r' => k (.int x) y r' | .ref x :: r => pW1 r fun y r' => k (.ref x) y r' | .null :: r => pW1 r fun y r' => k .null y r' | _ => none
def gI {β : Type} (ls : List Slot) (j : Nat) (k : Int32 → Option β) : Option β := match ls[j]? with | some (.val (.int v)) => k v | _ => none
def gJ {β : Type} (ls : List Slot) (j : Nat) (k : Int64 → Option β) : Option β := match ls[j]? with | some (.val (.long v)) => k v | _ => none
def gA {β : Type} (ls : List Slot) (j : Nat) (k : Value → Option β) : Option β := match ls[j]? with | some (.val (.ref v)) => k (.ref v) | some (.val .null) => k .null | _ => none
section Pats
variable {β : Type} {st : List Value} {b : β} {ls : List Slot} {j : Nat}
theorem pI1_ok {k : Int32 → List Value → Option β} (h : pI1 st k = some b) : ∃ x r, st = .int x :: r ∧ k x r = some b := by unfold pI1 at h; split at h; exact ⟨_, _, rfl, h⟩; cases h
theorem pJ1_ok {k : Int64 → List Value → Option β} (h : pJ1 st k = some b) : ∃ x r, st = .long x :: r ∧ k x r = some b := by unfold pJ1 at h; split at h; exact ⟨_, _, rfl, h⟩; cases h
theorem pI2_ok {k : Int32 → Int32 → List Value → Option β} (h : pI2 st k = some b) : ∃ x y r, st = .int y :: .int x :: r ∧ k x y r = some b := by unfold pI2 at h; split at h; exact ⟨_, _, _, rfl, h⟩; cases h
theorem pJ2_ok {k : Int64 → Int64 → List Value → Option β} (h : pJ2 st k = some b) : ∃ x y r, st = .long y :: .long x :: r ∧ k x y r = some b := by unfold pJ2 at h; split at h; exact ⟨_, _, _, rfl, h⟩; cases h
theorem pJI_ok {k : Int64 → Int32 → List Value → Option β} (h : pJI st k = some b) : ∃ x y r, st = .int y :: .long x :: r ∧ k x y r = some b := by unfold pJI at h; split at h; exact ⟨_, _, _, rfl, h⟩; cases h
theorem pA1_ok {k : Value → List Value → Option β} (h : pA1 st k = some b) : ∃ x r, st = x :: r ∧ x.isRef = true ∧ x.category = 1 ∧ k x r = some b := by unfold pA1 at h; split at h; exact ⟨_, _, rfl, rfl, rfl, h⟩; exact ⟨_, _, rfl, rfl, rfl, h⟩; cases h
theorem pW1_ok {k : Value → List Value → Option β} (h : pW1 st k = some b) : ∃ x r, st = x :: r ∧ x.category = 1 ∧ k x r = some b := by unfold pW1 at h; split at h; exact ⟨_, _, rfl, rfl, h⟩; exact ⟨_, _, rfl, rfl, h⟩; exact ⟨_, _, rfl, rfl, h⟩; cases h
theorem pW2_ok {k : Value → Value → List Value → Option β} (h : pW2 st k = some b) : ∃ x y r, st = x :: y :: r ∧ x.category = 1 ∧ y.category = 1 ∧ k x y r = some b := by
  obtain ⟨x, r, rfl, h1, h2⟩ := pW1_ok h
  obtain ⟨y, r', rfl, h3, h4⟩ := pW1_ok h2
  exact ⟨x, y, r', rfl, h1, h3, h4⟩
theorem pW3_ok {k : Value → Value → Value → List Value → Option β} (h : pW3 st k = some b) : ∃ x y z r, st = x :: y :: z :: r ∧ x.category = 1 ∧ y.category = 1 ∧ z.category = 1 ∧ k x y z r = some b := by
  obtain ⟨x, r, rfl, h1, h2⟩ := pW1_ok h
  obtain ⟨y, z, r', rfl, h3, h4, h5⟩ := pW2_ok h2
  exact ⟨x, y, z, r', rfl, h1, h3, h4, h5⟩
theorem pD_ok {k1 : Int64 → List Value → Option β} {k : Value → Value → List Value → Option β} (h : pD st k1 k = some b) : (∃ x r, st = .long x :: r ∧ k1 x r = some b) ∨ ∃ x y r, st = x :: y :: r ∧ x.category = 1 ∧ y.category = 1 ∧ k x y r = some b := by
  unfold pD at h; split at h
  · exact Or.inl ⟨_, _, rfl, h⟩
  all_goals first | (obtain ⟨y, r', rfl, h3, h4⟩ := pW1_ok h; exact Or.inr ⟨_, y, r', rfl, rfl, h3, h4⟩) | cases h
theorem gI_ok {k : Int32 → Option β} (h : gI ls j k = some b) : ∃ v, ls[j]? = some (.val (.int v)) ∧ k v = some b := by unfold gI at h; split at h; exact ⟨_, by assumption, h⟩; cases h
theorem gJ_ok {k : Int64 → Option β} (h : gJ ls j k = some b) : ∃ v, ls[j]? = some (.val (.long v)) ∧ k v = some b := by unfold gJ at h; split at h; exact ⟨_, by assumption, h⟩; cases h
theorem gA_ok {k : Value → Option β} (h : gA ls j k = some b) : ∃ v, ls[j]? = some (.val v) ∧ v.isRef = true ∧ k v = some b := by unfold gA at h; split at h; exact ⟨_, by assumption, rfl, h⟩; exact ⟨_, by assumption, rfl, h⟩; cases h
end Pats
def ex {β : Type} (i : Instr) (z : Int32) (w : Int64) (ls : List Slot) (st : List Value) (k : List Slot → List Value → Option β) : Option β :=
  match i with
  | .iload_n j => gI ls j.val fun v => k ls (.int v :: st)
  | .iload j => gI ls j fun v => k ls (.int v :: st)
  | .lload_n j => gJ ls j.val fun v => k ls (.long v :: st)
  | .lload j => gJ ls j fun v => k ls (.long v :: st)
  | .aload_n j => gA ls j.val fun v => k ls (v :: st)
  | .aload j => gA ls j fun v => k ls (v :: st)
  | .istore_n j => pI1 st fun v r => st1 ls j.val (.int v) (fun l => k l r)
  | .istore j => pI1 st fun v r => st1 ls j (.int v) (fun l => k l r)
  | .astore_n j => pA1 st fun v r => st1 ls j.val v (fun l => k l r)
  | .astore j => pA1 st fun v r => st1 ls j v (fun l => k l r)
  | .lstore_n j => pJ1 st fun v r => st2 ls j.val (.long v) (fun l => k l r)
  | .lstore j => pJ1 st fun v r => st2 ls j (.long v) (fun l => k l r)
  | .iinc j cc => gI ls j fun v => put ls j (.val (.int (v + z))) (fun l => k l st)
  | .iconst cc => k ls (.int z :: st)
  | .bipush cc => k ls (.int z :: st)
  | .sipush cc => k ls (.int z :: st)
  | .lconst cc => k ls (.long w :: st)
  | .ldc cc => k ls (.int z :: st)
  | .ldc2_w cc => k ls (.long w :: st)
  | .aconst_null => k ls (.null :: st)
  | .iadd => pI2 st fun x y r => k ls (.int (x + y) :: r)
  | .isub => pI2 st fun x y r => k ls (.int (x - y) :: r)
  | .imul => pI2 st fun x y r => k ls (.int (x * y) :: r)
  | .iand => pI2 st fun x y r => k ls (.int (x &&& y) :: r)
  | .ior => pI2 st fun x y r => k ls (.int (x ||| y) :: r)
  | .ixor => pI2 st fun x y r => k ls (.int (x ^^^ y) :: r)
  | .ishl => pI2 st fun x y r => k ls (.int (x <<< (y &&& 31)) :: r)
  | .ishr => pI2 st fun x y r => k ls (.int (x >>> (y &&& 31)) :: r)
  | .iushr => pI2 st fun x y r => k ls (.int (XT.ushr x y) :: r)
  | .ladd => pJ2 st fun x y r => k ls (.long (x + y) :: r)
  | .lsub => pJ2 st fun x y r => k ls (.long (x - y) :: r)
  | .lmul => pJ2 st fun x y r => k ls (.long (x * y) :: r)
  | .land => pJ2 st fun x y r => k ls (.long (x &&& y) :: r)
  | .lor => pJ2 st fun x y r => k ls (.long (x ||| y) :: r)
  | .lxor => pJ2 st fun x y r => k ls (.long (x ^^^ y) :: r)
  | .lshl => pJI st fun x y r => k ls (.long (x <<< (y.toInt64 &&& 63)) :: r)
  | .lshr => pJI st fun x y r => k ls (.long (x >>> (y.toInt64 &&& 63)) :: r)
  | .lushr => pJI st fun x y r => k ls (.long (XT.ushrL x y) :: r)
  | .lcmp => pJ2 st fun x y r => k ls (.int (XT.cmpL x y) :: r)
  | .ineg => pI1 st fun x r => k ls (.int (-x) :: r)
  | .lneg => pJ1 st fun x r => k ls (.long (-x) :: r)
  | .i2l => pI1 st fun x r => k ls (.long (x.toInt64) :: r)
  | .l2i => pJ1 st fun x r => k ls (.int (x.toInt32) :: r)
  | .i2b => pI1 st fun x r => k ls (.int (x.toInt8.toInt32) :: r)
  | .i2c => pI1 st fun x r => k ls (.int (x.toUInt32.toUInt16.toUInt32.toInt32) :: r)
  | .i2s => pI1 st fun x r => k ls (.int (x.toInt16.toInt32) :: r)
  | .dup => pW1 st fun x r => k ls (x :: x :: r)
  | .pop => pW1 st fun x r => k ls r
  | .dup_x1 => pW2 st fun x y r => k ls (x :: y :: x :: r)
  | .dup_x2 => pW3 st fun x y z r => k ls (x :: y :: z :: x :: r)
  | .dup2 => pD st (fun x r => k ls (.long x :: .long x :: r)) fun x y r => k ls (x :: y :: x :: y :: r)
  | .goto _ => k ls st
  | _ => none
/-- the length of an instruction that ex takes -/
def ilen : Instr → Nat
  | .iload _ => 2
  | .lload _ => 2
  | .aload _ => 2
  | .istore _ => 2
  | .astore _ => 2
  | .lstore _ => 2
  | .bipush _ => 2
  | .ldc _ => 2
  | .iinc _ _ => 3
  | .sipush _ => 3
  | .ldc2_w _ => 3
  | .goto _ => 3
  | _ => 1
/-- where it goes on -/
def nxtB (q : Nat) : Instr → Nat → Bool
  | .goto o, n => decide (0 ≤ (q : Int) + o) && decide (((q : Int) + o).toNat = n)
  | i, n => decide (q + ilen i = n)
/-- the constant that it pushes -/
def cst (cI : List (Nat × Int32)) (cJ : List (Nat × Int64)) (z : Int32) (w : Int64) : Instr → Bool
  | .iconst v => decide (Int32.ofInt v = z)
  | .bipush v => decide ((Int8.ofInt v).toInt32 = z)
  | .sipush v => decide ((Int16.ofInt v).toInt32 = z)
  | .iinc _ v => decide (Int32.ofInt v = z)
  | .lconst v => decide (Int64.ofNat v.val = w)
  | .ldc i => decide ((i, z) ∈ cI)
  | .ldc2_w i => decide ((i, w) ∈ cJ)
  | _ => true
def rowOk (code : ByteArray) (cI : List (Nat × Int32)) (cJ : List (Nat × Int64)) : Row → Bool
  | (q, i, n, z, w) => decide (decode code q = .ok (i, ilen i)) && nxtB q i n && cst cI cJ z w i
def go : List Row → Nat → List Slot → List Value → Option (Nat × List Slot × List Value)
  | [], pc, ls, st => some (pc, ls, st)
  | (q, i, n, z, w) :: r, pc, ls, st => bif Nat.beq q pc then ex i z w ls st (fun ls' st' => go r n ls' st') else none
/-! ## the run's end, and the predicate -/
def Ender (EE : Outcome → State → List Loc → Prop) (s : State) (R : Room) (n0 nz : Nat) : Prop := ∀ (p : Program) (l : Launch) (e : Env) (m : MethodId) (args : Array Value) (below : List Frame) (meth : Method) (c : Code) (T : State) (locs : List Loc) (cells slots : Nat) (v : Option Value), Stand p l e R s m args below meth c T locs cells slots → Fr n0 locs → nz ≤ T.heap.size → cells ≤ R.cells → slots ≤ R.slots → meth.locks = false → (meth.sig.returnType = none → v = none) →
    ∃ fs, (∀ (f : JFrame) (acts : List Action), f.method = m → f.locked = none → f.entered = [] → (doReturn e (T.setTop f) acts v).1 = T.setFrames fs) ∧ (T.setFrames fs).status = .running ∧ Ended (T.setFrames fs) below (.returned v) ∧ EE (.returned v) (T.setFrames fs) locs
def NE (n0 nz : Nat) (s : State) (R : Room) : Outcome → State → List Loc → Prop := fun o t L => (Fr n0 L ∧ nz ≤ t.heap.size) ∧ FrameEnd s o t L R.cells R.slots
def WE (n0 nz : Nat) (s : State) (R : Room) : Outcome → State → List Loc → Prop := fun o t L => (Fr n0 L ∧ nz ≤ t.heap.size) ∧ ReturnedEndW s o t L R.cells R.slots
theorem Fr.low {n0 n1 : Nat} {L : List Loc} (h : n1 ≤ n0) (N : Fr n0 L) : Fr n1 L := fun y hy => Nat.le_trans h (N y hy)
theorem NE.ender (n0 nz : Nat) (s : State) (R : Room) : Ender (NE n0 nz s R) s R n0 nz := by
  intro p l e m args below meth c T locs cells slots v X N hz hc hs hlk hv
  obtain ⟨fs, hr, hrun, hended, hW, hsame⟩ := X.leave hv hlk
  exact ⟨fs, hr, hrun, hended, ⟨N, hz⟩, ⟨_, rfl⟩, hW, hsame.mono hc hs⟩
/-- the walk is over the true start s0 with the tables at hand -/
def Wd (s0 : State) (EE : Outcome → State → List Loc → Prop) (R : Room) (nE nzE : Nat) (s : State) (nz : Nat) : Prop := EE = WE nE nzE s0 R ∧ nzE ≤ nz ∧ ∃ (vm0 : Vm) (k : Nat), s = s0.setVm vm0 ∧ s0.Since vm0 k ∧ k ≤ nz
theorem Wd.ender {s0 s : State} {EE : Outcome → State → List Loc → Prop} {R : Room} {nE nzE nz n0 : Nat} (D : Wd s0 EE R nE nzE s nz) (hn : nE ≤ n0) : Ender EE s R n0 nz := by
  intro p l e m args below meth c T locs cells slots v X N hz hc hs hlk hv
  obtain ⟨rfl, h1, vm0, k, rfl, hS, hk⟩ := D
  obtain ⟨fs, hr, hrun, hended, hE⟩ := X.leaveW hS (Nat.le_trans hk hz) hv hlk
  exact ⟨fs, hr, hrun, hended, ⟨Fr.low hn N, Nat.le_trans h1 hz⟩, hE.1, hE.2.1, hE.2.2.1, hE.2.2.2.mono hc hs⟩
theorem Wd.start (s : State) (R : Room) (nE nzE nz : Nat) (h : nzE ≤ nz) : Wd s (WE nE nzE s R) R nE nzE s nz :=
  ⟨rfl, h, s.vm, 0, rfl, ⟨State.Warmed39.refl s, fun j q hj hq => by rw [Array.getElem?_eq_none hj] at hq; cases hq⟩, Nat.zero_le _⟩
def FinW (p : Program) (e : Env) (below : List Frame) (EE : Outcome → State → List Loc → Prop) (Q : Option Value → Heap → Prop) (t0 : State) : Prop :=
  ∃ t o, Steps p.tables e below t0 t ∧ t.status = .running ∧ Ended t below o ∧ ∃ v L, o = .returned v ∧ Q v t.heap ∧ EE o t L
def WP (p : Program) (l : Launch) (e : Env) (R : Room) (s : State) (m : MethodId) (args : Array Value) (below : List Frame) (meth : Method) (c : Code) (EE : Outcome → State → List Loc → Prop) (n0 nz : Nat) (Q : Option Value → Heap → Prop) (h : Heap) (cells slots pc : Nat) (ls : List Slot) (st : List Value) : Prop :=
  ∀ T locs, Stand p l e R s m args below meth c T locs cells slots → T.heap = h → Fr n0 locs → nz ≤ h.size → FinW p e below EE Q (T.setTop (mkF m pc ls.toArray st))
/-- what holds throughout one body -/
def Cx (EE : Outcome → State → List Loc → Prop) (R : Room) (n0 nz : Nat) (p : Program) (s : State) (m : MethodId) (args : Array Value) (meth : Method) (c : Code) (Z : State) (y : MethodName) (code : ByteArray) (ml : Nat) (ret : Option FieldType) (cI : List (Nat × Int32)) (cJ : List (Nat × Int64)) : Prop :=
  p.tables.exec = Jvm.exec ∧ c.code = code ∧ c.maxLocals = ml ∧ Z.Warmed39 s.vm ∧ s.vm.findClass y.cls = some m.cls ∧ meth.name = y.name ∧ meth.sig.returnType = ret ∧ meth.locks = false ∧
    (∀ q ∈ cI, (Jvm.Cond.constant y.cls q.1 q.2).before #[] Z = true) ∧ (∀ q ∈ cJ, (Jvm.Cond.constantLong y.cls q.1 q.2).before #[] Z = true) ∧ n0 ≤ nz ∧ Ender EE s R n0 nz
section Body
variable {p : Program} {l : Launch} {e : Env} {R : Room} {s : State} {m : MethodId} {args : Array Value} {below : List Frame} {meth : Method} {c : Code} {T : State} {locs : List Loc} {cells slots : Nat} {Z : State} {a0 : Array Value} {h : Heap} {y : MethodName} {code : ByteArray} {ml : Nat} {ret : Option FieldType} {cI : List (Nat × Int32)} {cJ : List (Nat × Int64)} {EE : Outcome → State → List Loc → Prop} {n0 nz : Nat} {Q : Option Value → Heap → Prop} {pc : Nat} {ls : List Slot} {st : List Value}
theorem Cx.hnz (K : Cx EE R n0 nz p s m args meth c Z y code ml ret cI cJ) : n0 ≤ nz := K.2.2.2.2.2.2.2.2.2.2.1
theorem Cx.en (K : Cx EE R n0 nz p s m args meth c Z y code ml ret cI cJ) : Ender EE s R n0 nz := K.2.2.2.2.2.2.2.2.2.2.2
theorem Cx.re (K : Cx EE R n0 nz p s m args meth c Z y code ml ret cI cJ) {n1 nz1 : Nat} (h : n1 ≤ nz1) (D : Ender EE s R n1 nz1) : Cx EE R n1 nz1 p s m args meth c Z y code ml ret cI cJ := by
  obtain ⟨a1, a2, a3, a4, a5, a6, a7, a8, a9, b1, -⟩ := K
  exact ⟨a1, a2, a3, a4, a5, a6, a7, a8, a9, b1, h, D⟩
theorem Cx.move (K : Cx EE R n0 nz p s m args meth c Z y code ml ret cI cJ) {s1 : State} (hZ : Z.Warmed39 s1.vm) (ho : s1.vm.findClass y.cls = some m.cls) {n1 nz1 : Nat} (h : n1 ≤ nz1) (D : Ender EE s1 R n1 nz1) : Cx EE R n1 nz1 p s1 m args meth c Z y code ml ret cI cJ := by
  obtain ⟨a1, a2, a3, a4, a5, a6, a7, a8, a9, b1, -⟩ := K
  exact ⟨a1, a2, a3, hZ, ho, a6, a7, a8, a9, b1, h, D⟩
theorem WP.low {n1 nz1 : Nat} (h1 : n1 ≤ n0) (h2 : nz1 ≤ nz) (W : WP p l e R s m args below meth c EE n1 nz1 Q h cells slots pc ls st) : WP p l e R s m args below meth c EE n0 nz Q h cells slots pc ls st :=
  fun T locs X e0 N Z0 => W T locs X e0 (Fr.low h1 N) (Nat.le_trans h2 Z0)
theorem ok_iload_n {β : Type} {z : Int32} {w : Int64} {k : List Slot → List Value → Option β} {b : β} {j : Fin 4} (hx : p.tables.exec = Jvm.exec) (X : Stand p l e R s m args below meth c T locs cells slots) (hd : decode c.code pc = .ok (.iload_n j, 1))  (h : (gI ls j.val fun v => k ls (.int v :: st)) = some b) :
    ∃ ls' st', k ls' st' = some b ∧ ls'.length = ls.length ∧ ∀ t, Steps p.tables e below (T.setTop (mkF m (pc + 1) ls'.toArray st')) t → Steps p.tables e below (T.setTop (mkF m pc ls.toArray st)) t := by
  obtain ⟨v, e1, h⟩ := gI_ok h
  exact ⟨_, _, h, rfl, fun t q => XS.iloadN X.here hx rfl hd (by simpa using e1) q⟩
theorem ok_iload {β : Type} {z : Int32} {w : Int64} {k : List Slot → List Value → Option β} {b : β} {j : Nat} (hx : p.tables.exec = Jvm.exec) (X : Stand p l e R s m args below meth c T locs cells slots) (hd : decode c.code pc = .ok (.iload j, 2))  (h : (gI ls j fun v => k ls (.int v :: st)) = some b) :
    ∃ ls' st', k ls' st' = some b ∧ ls'.length = ls.length ∧ ∀ t, Steps p.tables e below (T.setTop (mkF m (pc + 2) ls'.toArray st')) t → Steps p.tables e below (T.setTop (mkF m pc ls.toArray st)) t := by
  obtain ⟨v, e1, h⟩ := gI_ok h
  exact ⟨_, _, h, rfl, fun t q => XS.iload X.here hx rfl hd (by simpa using e1) q⟩
theorem ok_lload_n {β : Type} {z : Int32} {w : Int64} {k : List Slot → List Value → Option β} {b : β} {j : Fin 4} (hx : p.tables.exec = Jvm.exec) (X : Stand p l e R s m args below meth c T locs cells slots) (hd : decode c.code pc = .ok (.lload_n j, 1))  (h : (gJ ls j.val fun v => k ls (.long v :: st)) = some b) :
    ∃ ls' st', k ls' st' = some b ∧ ls'.length = ls.length ∧ ∀ t, Steps p.tables e below (T.setTop (mkF m (pc + 1) ls'.toArray st')) t → Steps p.tables e below (T.setTop (mkF m pc ls.toArray st)) t := by
  obtain ⟨v, e1, h⟩ := gJ_ok h
  exact ⟨_, _, h, rfl, fun t q => XT.lloadN X.here hx rfl hd (by simpa using e1) q⟩
theorem ok_lload {β : Type} {z : Int32} {w : Int64} {k : List Slot → List Value → Option β} {b : β} {j : Nat} (hx : p.tables.exec = Jvm.exec) (X : Stand p l e R s m args below meth c T locs cells slots) (hd : decode c.code pc = .ok (.lload j, 2))  (h : (gJ ls j fun v => k ls (.long v :: st)) = some b) :
    ∃ ls' st', k ls' st' = some b ∧ ls'.length = ls.length ∧ ∀ t, Steps p.tables e below (T.setTop (mkF m (pc + 2) ls'.toArray st')) t → Steps p.tables e below (T.setTop (mkF m pc ls.toArray st)) t := by
  obtain ⟨v, e1, h⟩ := gJ_ok h
  exact ⟨_, _, h, rfl, fun t q => XT.lload X.here hx rfl hd (by simpa using e1) q⟩
theorem ok_aload_n {β : Type} {z : Int32} {w : Int64} {k : List Slot → List Value → Option β} {b : β} {j : Fin 4} (hx : p.tables.exec = Jvm.exec) (X : Stand p l e R s m args below meth c T locs cells slots) (hd : decode c.code pc = .ok (.aload_n j, 1))  (h : (gA ls j.val fun v => k ls (v :: st)) = some b) :
    ∃ ls' st', k ls' st' = some b ∧ ls'.length = ls.length ∧ ∀ t, Steps p.tables e below (T.setTop (mkF m (pc + 1) ls'.toArray st')) t → Steps p.tables e below (T.setTop (mkF m pc ls.toArray st)) t := by
  obtain ⟨v, e1, e2, h⟩ := gA_ok h
  exact ⟨_, _, h, rfl, fun t q => XS.aloadN X.here hx rfl hd (v := v) (by simpa using e1) e2 q⟩
theorem ok_aload {β : Type} {z : Int32} {w : Int64} {k : List Slot → List Value → Option β} {b : β} {j : Nat} (hx : p.tables.exec = Jvm.exec) (X : Stand p l e R s m args below meth c T locs cells slots) (hd : decode c.code pc = .ok (.aload j, 2))  (h : (gA ls j fun v => k ls (v :: st)) = some b) :
    ∃ ls' st', k ls' st' = some b ∧ ls'.length = ls.length ∧ ∀ t, Steps p.tables e below (T.setTop (mkF m (pc + 2) ls'.toArray st')) t → Steps p.tables e below (T.setTop (mkF m pc ls.toArray st)) t := by
  obtain ⟨v, e1, e2, h⟩ := gA_ok h
  exact ⟨_, _, h, rfl, fun t q => XS.aload X.here hx rfl hd (v := v) (by simpa using e1) e2 q⟩
theorem ok_istore_n {β : Type} {z : Int32} {w : Int64} {k : List Slot → List Value → Option β} {b : β} {j : Fin 4} (hx : p.tables.exec = Jvm.exec) (X : Stand p l e R s m args below meth c T locs cells slots) (hd : decode c.code pc = .ok (.istore_n j, 1))  (h : (pI1 st fun v r => st1 ls j.val (.int v) (fun l => k l r)) = some b) :
    ∃ ls' st', k ls' st' = some b ∧ ls'.length = ls.length ∧ ∀ t, Steps p.tables e below (T.setTop (mkF m (pc + 1) ls'.toArray st')) t → Steps p.tables e below (T.setTop (mkF m pc ls.toArray st)) t := by
  obtain ⟨v, r, rfl, h⟩ := pI1_ok h
  obtain ⟨l, h1, h2, h3⟩ := st1_ok rfl h
  exact ⟨_, _, h1, h2, fun t q => XS.istoreN X.here hx rfl hd rfl h3 q⟩
theorem ok_istore {β : Type} {z : Int32} {w : Int64} {k : List Slot → List Value → Option β} {b : β} {j : Nat} (hx : p.tables.exec = Jvm.exec) (X : Stand p l e R s m args below meth c T locs cells slots) (hd : decode c.code pc = .ok (.istore j, 2))  (h : (pI1 st fun v r => st1 ls j (.int v) (fun l => k l r)) = some b) :
    ∃ ls' st', k ls' st' = some b ∧ ls'.length = ls.length ∧ ∀ t, Steps p.tables e below (T.setTop (mkF m (pc + 2) ls'.toArray st')) t → Steps p.tables e below (T.setTop (mkF m pc ls.toArray st)) t := by
  obtain ⟨v, r, rfl, h⟩ := pI1_ok h
  obtain ⟨l, h1, h2, h3⟩ := st1_ok rfl h
  exact ⟨_, _, h1, h2, fun t q => XS.istore X.here hx rfl hd rfl h3 q⟩
theorem ok_astore_n {β : Type} {z : Int32} {w : Int64} {k : List Slot → List Value → Option β} {b : β} {j : Fin 4} (hx : p.tables.exec = Jvm.exec) (X : Stand p l e R s m args below meth c T locs cells slots) (hd : decode c.code pc = .ok (.astore_n j, 1))  (h : (pA1 st fun v r => st1 ls j.val v (fun l => k l r)) = some b) :
    ∃ ls' st', k ls' st' = some b ∧ ls'.length = ls.length ∧ ∀ t, Steps p.tables e below (T.setTop (mkF m (pc + 1) ls'.toArray st')) t → Steps p.tables e below (T.setTop (mkF m pc ls.toArray st)) t := by
  obtain ⟨v, r, rfl, hv, hc, h⟩ := pA1_ok h
  obtain ⟨l, h1, h2, h3⟩ := st1_ok hc h
  exact ⟨_, _, h1, h2, fun t q => XS.astoreN X.here hx rfl hd rfl hv h3 q⟩
theorem ok_astore {β : Type} {z : Int32} {w : Int64} {k : List Slot → List Value → Option β} {b : β} {j : Nat} (hx : p.tables.exec = Jvm.exec) (X : Stand p l e R s m args below meth c T locs cells slots) (hd : decode c.code pc = .ok (.astore j, 2))  (h : (pA1 st fun v r => st1 ls j v (fun l => k l r)) = some b) :
    ∃ ls' st', k ls' st' = some b ∧ ls'.length = ls.length ∧ ∀ t, Steps p.tables e below (T.setTop (mkF m (pc + 2) ls'.toArray st')) t → Steps p.tables e below (T.setTop (mkF m pc ls.toArray st)) t := by
  obtain ⟨v, r, rfl, hv, hc, h⟩ := pA1_ok h
  obtain ⟨l, h1, h2, h3⟩ := st1_ok hc h
  exact ⟨_, _, h1, h2, fun t q => XS.astore X.here hx rfl hd rfl hv h3 q⟩
theorem ok_lstore_n {β : Type} {z : Int32} {w : Int64} {k : List Slot → List Value → Option β} {b : β} {j : Fin 4} (hx : p.tables.exec = Jvm.exec) (X : Stand p l e R s m args below meth c T locs cells slots) (hd : decode c.code pc = .ok (.lstore_n j, 1))  (h : (pJ1 st fun v r => st2 ls j.val (.long v) (fun l => k l r)) = some b) :
    ∃ ls' st', k ls' st' = some b ∧ ls'.length = ls.length ∧ ∀ t, Steps p.tables e below (T.setTop (mkF m (pc + 1) ls'.toArray st')) t → Steps p.tables e below (T.setTop (mkF m pc ls.toArray st)) t := by
  obtain ⟨v, r, rfl, h⟩ := pJ1_ok h
  obtain ⟨l, h1, h2, h3⟩ := st2_ok h
  exact ⟨_, _, h1, h2, fun t q => XT.lstoreN X.here hx rfl hd rfl h3 q⟩
theorem ok_lstore {β : Type} {z : Int32} {w : Int64} {k : List Slot → List Value → Option β} {b : β} {j : Nat} (hx : p.tables.exec = Jvm.exec) (X : Stand p l e R s m args below meth c T locs cells slots) (hd : decode c.code pc = .ok (.lstore j, 2))  (h : (pJ1 st fun v r => st2 ls j (.long v) (fun l => k l r)) = some b) :
    ∃ ls' st', k ls' st' = some b ∧ ls'.length = ls.length ∧ ∀ t, Steps p.tables e below (T.setTop (mkF m (pc + 2) ls'.toArray st')) t → Steps p.tables e below (T.setTop (mkF m pc ls.toArray st)) t := by
  obtain ⟨v, r, rfl, h⟩ := pJ1_ok h
  obtain ⟨l, h1, h2, h3⟩ := st2_ok h
  exact ⟨_, _, h1, h2, fun t q => XT.lstore X.here hx rfl hd rfl h3 q⟩
theorem ok_iinc {β : Type} {z : Int32} {w : Int64} {k : List Slot → List Value → Option β} {b : β} {j : Nat} {cc : Int} (hx : p.tables.exec = Jvm.exec) (X : Stand p l e R s m args below meth c T locs cells slots) (hd : decode c.code pc = .ok (.iinc j cc, 3)) (hz : Int32.ofInt cc = z) (h : (gI ls j fun v => put ls j (.val (.int (v + z))) (fun l => k l st)) = some b) :
    ∃ ls' st', k ls' st' = some b ∧ ls'.length = ls.length ∧ ∀ t, Steps p.tables e below (T.setTop (mkF m (pc + 3) ls'.toArray st')) t → Steps p.tables e below (T.setTop (mkF m pc ls.toArray st)) t := by
  obtain ⟨v, e1, h⟩ := gI_ok h
  obtain ⟨h1, h2⟩ := put_ok _ _ _ _ _ h
  refine ⟨_, _, h2, by simp, fun t q => XS.iinc X.here hx rfl hd (x := v) (by simpa using e1) (XS.store1 (by simpa using e1) (Or.inr ⟨_, rfl, rfl⟩) rfl) ?_⟩
  rw [hz]; simpa using q
theorem ok_iconst {β : Type} {z : Int32} {w : Int64} {k : List Slot → List Value → Option β} {b : β} {cc : Int} (hx : p.tables.exec = Jvm.exec) (X : Stand p l e R s m args below meth c T locs cells slots) (hd : decode c.code pc = .ok (.iconst cc, 1)) (hz : Int32.ofInt cc = z) (h : (k ls (.int z :: st)) = some b) :
    ∃ ls' st', k ls' st' = some b ∧ ls'.length = ls.length ∧ ∀ t, Steps p.tables e below (T.setTop (mkF m (pc + 1) ls'.toArray st')) t → Steps p.tables e below (T.setTop (mkF m pc ls.toArray st)) t := by
  exact ⟨_, _, h, rfl, fun t q => XS.iconst X.here hx rfl hd (by rw [hz]; exact q)⟩
theorem ok_bipush {β : Type} {z : Int32} {w : Int64} {k : List Slot → List Value → Option β} {b : β} {cc : Int} (hx : p.tables.exec = Jvm.exec) (X : Stand p l e R s m args below meth c T locs cells slots) (hd : decode c.code pc = .ok (.bipush cc, 2)) (hz : (Int8.ofInt cc).toInt32 = z) (h : (k ls (.int z :: st)) = some b) :
    ∃ ls' st', k ls' st' = some b ∧ ls'.length = ls.length ∧ ∀ t, Steps p.tables e below (T.setTop (mkF m (pc + 2) ls'.toArray st')) t → Steps p.tables e below (T.setTop (mkF m pc ls.toArray st)) t := by
  exact ⟨_, _, h, rfl, fun t q => XS.bipush X.here hx rfl hd (by rw [hz]; exact q)⟩
theorem ok_sipush {β : Type} {z : Int32} {w : Int64} {k : List Slot → List Value → Option β} {b : β} {cc : Int} (hx : p.tables.exec = Jvm.exec) (X : Stand p l e R s m args below meth c T locs cells slots) (hd : decode c.code pc = .ok (.sipush cc, 3)) (hz : (Int16.ofInt cc).toInt32 = z) (h : (k ls (.int z :: st)) = some b) :
    ∃ ls' st', k ls' st' = some b ∧ ls'.length = ls.length ∧ ∀ t, Steps p.tables e below (T.setTop (mkF m (pc + 3) ls'.toArray st')) t → Steps p.tables e below (T.setTop (mkF m pc ls.toArray st)) t := by
  exact ⟨_, _, h, rfl, fun t q => XS.sipush X.here hx rfl hd (by rw [hz]; exact q)⟩
theorem ok_lconst {β : Type} {z : Int32} {w : Int64} {k : List Slot → List Value → Option β} {b : β} {cc : Fin 2} (hx : p.tables.exec = Jvm.exec) (X : Stand p l e R s m args below meth c T locs cells slots) (hd : decode c.code pc = .ok (.lconst cc, 1)) (hz : Int64.ofNat cc.val = w) (h : (k ls (.long w :: st)) = some b) :
    ∃ ls' st', k ls' st' = some b ∧ ls'.length = ls.length ∧ ∀ t, Steps p.tables e below (T.setTop (mkF m (pc + 1) ls'.toArray st')) t → Steps p.tables e below (T.setTop (mkF m pc ls.toArray st)) t := by
  exact ⟨_, _, h, rfl, fun t q => XT.lconst X.here hx rfl hd (by rw [hz]; exact q)⟩
theorem ok_ldc {β : Type} {z : Int32} {w : Int64} {k : List Slot → List Value → Option β} {b : β} {cc : Nat} (hx : p.tables.exec = Jvm.exec) (X : Stand p l e R s m args below meth c T locs cells slots) (hd : decode c.code pc = .ok (.ldc cc, 2)) {own : String} (hown : s.vm.findClass own = some m.cls) (hz : (Jvm.Cond.constant own cc z).before args s = true) (h : (k ls (.int z :: st)) = some b) :
    ∃ ls' st', k ls' st' = some b ∧ ls'.length = ls.length ∧ ∀ t, Steps p.tables e below (T.setTop (mkF m (pc + 2) ls'.toArray st')) t → Steps p.tables e below (T.setTop (mkF m pc ls.toArray st)) t := by
  exact ⟨_, _, h, rfl, fun t q => X.ldcInt hx hown hz (g := mkF m pc ls.toArray st) rfl hd t q⟩
theorem ok_ldc2_w {β : Type} {z : Int32} {w : Int64} {k : List Slot → List Value → Option β} {b : β} {cc : Nat} (hx : p.tables.exec = Jvm.exec) (X : Stand p l e R s m args below meth c T locs cells slots) (hd : decode c.code pc = .ok (.ldc2_w cc, 3)) {own : String} (hown : s.vm.findClass own = some m.cls) (hz : (Jvm.Cond.constantLong own cc w).before args s = true) (h : (k ls (.long w :: st)) = some b) :
    ∃ ls' st', k ls' st' = some b ∧ ls'.length = ls.length ∧ ∀ t, Steps p.tables e below (T.setTop (mkF m (pc + 3) ls'.toArray st')) t → Steps p.tables e below (T.setTop (mkF m pc ls.toArray st)) t := by
  exact ⟨_, _, h, rfl, fun t q => X.ldc2Long hx hown hz (g := mkF m pc ls.toArray st) rfl hd t q⟩
theorem ok_aconst_null {β : Type} {z : Int32} {w : Int64} {k : List Slot → List Value → Option β} {b : β}  (hx : p.tables.exec = Jvm.exec) (X : Stand p l e R s m args below meth c T locs cells slots) (hd : decode c.code pc = .ok (.aconst_null, 1))  (h : (k ls (.null :: st)) = some b) :
    ∃ ls' st', k ls' st' = some b ∧ ls'.length = ls.length ∧ ∀ t, Steps p.tables e below (T.setTop (mkF m (pc + 1) ls'.toArray st')) t → Steps p.tables e below (T.setTop (mkF m pc ls.toArray st)) t := by
  exact ⟨_, _, h, rfl, fun t q => XS.aconstNull X.here hx rfl hd q⟩
theorem ok_iadd {β : Type} {z : Int32} {w : Int64} {k : List Slot → List Value → Option β} {b : β}  (hx : p.tables.exec = Jvm.exec) (X : Stand p l e R s m args below meth c T locs cells slots) (hd : decode c.code pc = .ok (.iadd, 1))  (h : (pI2 st fun x y r => k ls (.int (x + y) :: r)) = some b) :
    ∃ ls' st', k ls' st' = some b ∧ ls'.length = ls.length ∧ ∀ t, Steps p.tables e below (T.setTop (mkF m (pc + 1) ls'.toArray st')) t → Steps p.tables e below (T.setTop (mkF m pc ls.toArray st)) t := by
  obtain ⟨x, y, r, rfl, h⟩ := pI2_ok h
  exact ⟨_, _, h, rfl, fun t q => XS.iadd X.here hx rfl hd rfl q⟩
theorem ok_isub {β : Type} {z : Int32} {w : Int64} {k : List Slot → List Value → Option β} {b : β}  (hx : p.tables.exec = Jvm.exec) (X : Stand p l e R s m args below meth c T locs cells slots) (hd : decode c.code pc = .ok (.isub, 1))  (h : (pI2 st fun x y r => k ls (.int (x - y) :: r)) = some b) :
    ∃ ls' st', k ls' st' = some b ∧ ls'.length = ls.length ∧ ∀ t, Steps p.tables e below (T.setTop (mkF m (pc + 1) ls'.toArray st')) t → Steps p.tables e below (T.setTop (mkF m pc ls.toArray st)) t := by
  obtain ⟨x, y, r, rfl, h⟩ := pI2_ok h
  exact ⟨_, _, h, rfl, fun t q => XS.isub X.here hx rfl hd rfl q⟩
theorem ok_imul {β : Type} {z : Int32} {w : Int64} {k : List Slot → List Value → Option β} {b : β}  (hx : p.tables.exec = Jvm.exec) (X : Stand p l e R s m args below meth c T locs cells slots) (hd : decode c.code pc = .ok (.imul, 1))  (h : (pI2 st fun x y r => k ls (.int (x * y) :: r)) = some b) :
    ∃ ls' st', k ls' st' = some b ∧ ls'.length = ls.length ∧ ∀ t, Steps p.tables e below (T.setTop (mkF m (pc + 1) ls'.toArray st')) t → Steps p.tables e below (T.setTop (mkF m pc ls.toArray st)) t := by
  obtain ⟨x, y, r, rfl, h⟩ := pI2_ok h
  exact ⟨_, _, h, rfl, fun t q => XS.imul X.here hx rfl hd rfl q⟩
theorem ok_iand {β : Type} {z : Int32} {w : Int64} {k : List Slot → List Value → Option β} {b : β}  (hx : p.tables.exec = Jvm.exec) (X : Stand p l e R s m args below meth c T locs cells slots) (hd : decode c.code pc = .ok (.iand, 1))  (h : (pI2 st fun x y r => k ls (.int (x &&& y) :: r)) = some b) :
    ∃ ls' st', k ls' st' = some b ∧ ls'.length = ls.length ∧ ∀ t, Steps p.tables e below (T.setTop (mkF m (pc + 1) ls'.toArray st')) t → Steps p.tables e below (T.setTop (mkF m pc ls.toArray st)) t := by
  obtain ⟨x, y, r, rfl, h⟩ := pI2_ok h
  exact ⟨_, _, h, rfl, fun t q => XS.iand X.here hx rfl hd rfl q⟩
theorem ok_ior {β : Type} {z : Int32} {w : Int64} {k : List Slot → List Value → Option β} {b : β}  (hx : p.tables.exec = Jvm.exec) (X : Stand p l e R s m args below meth c T locs cells slots) (hd : decode c.code pc = .ok (.ior, 1))  (h : (pI2 st fun x y r => k ls (.int (x ||| y) :: r)) = some b) :
    ∃ ls' st', k ls' st' = some b ∧ ls'.length = ls.length ∧ ∀ t, Steps p.tables e below (T.setTop (mkF m (pc + 1) ls'.toArray st')) t → Steps p.tables e below (T.setTop (mkF m pc ls.toArray st)) t := by
  obtain ⟨x, y, r, rfl, h⟩ := pI2_ok h
  exact ⟨_, _, h, rfl, fun t q => XT.ior X.here hx rfl hd rfl q⟩
theorem ok_ixor {β : Type} {z : Int32} {w : Int64} {k : List Slot → List Value → Option β} {b : β}  (hx : p.tables.exec = Jvm.exec) (X : Stand p l e R s m args below meth c T locs cells slots) (hd : decode c.code pc = .ok (.ixor, 1))  (h : (pI2 st fun x y r => k ls (.int (x ^^^ y) :: r)) = some b) :
    ∃ ls' st', k ls' st' = some b ∧ ls'.length = ls.length ∧ ∀ t, Steps p.tables e below (T.setTop (mkF m (pc + 1) ls'.toArray st')) t → Steps p.tables e below (T.setTop (mkF m pc ls.toArray st)) t := by
  obtain ⟨x, y, r, rfl, h⟩ := pI2_ok h
  exact ⟨_, _, h, rfl, fun t q => XT.ixor X.here hx rfl hd rfl q⟩
theorem ok_ishl {β : Type} {z : Int32} {w : Int64} {k : List Slot → List Value → Option β} {b : β}  (hx : p.tables.exec = Jvm.exec) (X : Stand p l e R s m args below meth c T locs cells slots) (hd : decode c.code pc = .ok (.ishl, 1))  (h : (pI2 st fun x y r => k ls (.int (x <<< (y &&& 31)) :: r)) = some b) :
    ∃ ls' st', k ls' st' = some b ∧ ls'.length = ls.length ∧ ∀ t, Steps p.tables e below (T.setTop (mkF m (pc + 1) ls'.toArray st')) t → Steps p.tables e below (T.setTop (mkF m pc ls.toArray st)) t := by
  obtain ⟨x, y, r, rfl, h⟩ := pI2_ok h
  exact ⟨_, _, h, rfl, fun t q => XT.ishl X.here hx rfl hd rfl q⟩
theorem ok_ishr {β : Type} {z : Int32} {w : Int64} {k : List Slot → List Value → Option β} {b : β}  (hx : p.tables.exec = Jvm.exec) (X : Stand p l e R s m args below meth c T locs cells slots) (hd : decode c.code pc = .ok (.ishr, 1))  (h : (pI2 st fun x y r => k ls (.int (x >>> (y &&& 31)) :: r)) = some b) :
    ∃ ls' st', k ls' st' = some b ∧ ls'.length = ls.length ∧ ∀ t, Steps p.tables e below (T.setTop (mkF m (pc + 1) ls'.toArray st')) t → Steps p.tables e below (T.setTop (mkF m pc ls.toArray st)) t := by
  obtain ⟨x, y, r, rfl, h⟩ := pI2_ok h
  exact ⟨_, _, h, rfl, fun t q => XT.ishr X.here hx rfl hd rfl q⟩
theorem ok_iushr {β : Type} {z : Int32} {w : Int64} {k : List Slot → List Value → Option β} {b : β}  (hx : p.tables.exec = Jvm.exec) (X : Stand p l e R s m args below meth c T locs cells slots) (hd : decode c.code pc = .ok (.iushr, 1))  (h : (pI2 st fun x y r => k ls (.int (XT.ushr x y) :: r)) = some b) :
    ∃ ls' st', k ls' st' = some b ∧ ls'.length = ls.length ∧ ∀ t, Steps p.tables e below (T.setTop (mkF m (pc + 1) ls'.toArray st')) t → Steps p.tables e below (T.setTop (mkF m pc ls.toArray st)) t := by
  obtain ⟨x, y, r, rfl, h⟩ := pI2_ok h
  exact ⟨_, _, h, rfl, fun t q => XT.iushr X.here hx rfl hd rfl q⟩
theorem ok_ladd {β : Type} {z : Int32} {w : Int64} {k : List Slot → List Value → Option β} {b : β}  (hx : p.tables.exec = Jvm.exec) (X : Stand p l e R s m args below meth c T locs cells slots) (hd : decode c.code pc = .ok (.ladd, 1))  (h : (pJ2 st fun x y r => k ls (.long (x + y) :: r)) = some b) :
    ∃ ls' st', k ls' st' = some b ∧ ls'.length = ls.length ∧ ∀ t, Steps p.tables e below (T.setTop (mkF m (pc + 1) ls'.toArray st')) t → Steps p.tables e below (T.setTop (mkF m pc ls.toArray st)) t := by
  obtain ⟨x, y, r, rfl, h⟩ := pJ2_ok h
  exact ⟨_, _, h, rfl, fun t q => XT.ladd X.here hx rfl hd rfl q⟩
theorem ok_lsub {β : Type} {z : Int32} {w : Int64} {k : List Slot → List Value → Option β} {b : β}  (hx : p.tables.exec = Jvm.exec) (X : Stand p l e R s m args below meth c T locs cells slots) (hd : decode c.code pc = .ok (.lsub, 1))  (h : (pJ2 st fun x y r => k ls (.long (x - y) :: r)) = some b) :
    ∃ ls' st', k ls' st' = some b ∧ ls'.length = ls.length ∧ ∀ t, Steps p.tables e below (T.setTop (mkF m (pc + 1) ls'.toArray st')) t → Steps p.tables e below (T.setTop (mkF m pc ls.toArray st)) t := by
  obtain ⟨x, y, r, rfl, h⟩ := pJ2_ok h
  exact ⟨_, _, h, rfl, fun t q => XT.lsub X.here hx rfl hd rfl q⟩
theorem ok_lmul {β : Type} {z : Int32} {w : Int64} {k : List Slot → List Value → Option β} {b : β}  (hx : p.tables.exec = Jvm.exec) (X : Stand p l e R s m args below meth c T locs cells slots) (hd : decode c.code pc = .ok (.lmul, 1))  (h : (pJ2 st fun x y r => k ls (.long (x * y) :: r)) = some b) :
    ∃ ls' st', k ls' st' = some b ∧ ls'.length = ls.length ∧ ∀ t, Steps p.tables e below (T.setTop (mkF m (pc + 1) ls'.toArray st')) t → Steps p.tables e below (T.setTop (mkF m pc ls.toArray st)) t := by
  obtain ⟨x, y, r, rfl, h⟩ := pJ2_ok h
  exact ⟨_, _, h, rfl, fun t q => XT.lmul X.here hx rfl hd rfl q⟩
theorem ok_land {β : Type} {z : Int32} {w : Int64} {k : List Slot → List Value → Option β} {b : β}  (hx : p.tables.exec = Jvm.exec) (X : Stand p l e R s m args below meth c T locs cells slots) (hd : decode c.code pc = .ok (.land, 1))  (h : (pJ2 st fun x y r => k ls (.long (x &&& y) :: r)) = some b) :
    ∃ ls' st', k ls' st' = some b ∧ ls'.length = ls.length ∧ ∀ t, Steps p.tables e below (T.setTop (mkF m (pc + 1) ls'.toArray st')) t → Steps p.tables e below (T.setTop (mkF m pc ls.toArray st)) t := by
  obtain ⟨x, y, r, rfl, h⟩ := pJ2_ok h
  exact ⟨_, _, h, rfl, fun t q => XT.land X.here hx rfl hd rfl q⟩
theorem ok_lor {β : Type} {z : Int32} {w : Int64} {k : List Slot → List Value → Option β} {b : β}  (hx : p.tables.exec = Jvm.exec) (X : Stand p l e R s m args below meth c T locs cells slots) (hd : decode c.code pc = .ok (.lor, 1))  (h : (pJ2 st fun x y r => k ls (.long (x ||| y) :: r)) = some b) :
    ∃ ls' st', k ls' st' = some b ∧ ls'.length = ls.length ∧ ∀ t, Steps p.tables e below (T.setTop (mkF m (pc + 1) ls'.toArray st')) t → Steps p.tables e below (T.setTop (mkF m pc ls.toArray st)) t := by
  obtain ⟨x, y, r, rfl, h⟩ := pJ2_ok h
  exact ⟨_, _, h, rfl, fun t q => XT.lor X.here hx rfl hd rfl q⟩
theorem ok_lxor {β : Type} {z : Int32} {w : Int64} {k : List Slot → List Value → Option β} {b : β}  (hx : p.tables.exec = Jvm.exec) (X : Stand p l e R s m args below meth c T locs cells slots) (hd : decode c.code pc = .ok (.lxor, 1))  (h : (pJ2 st fun x y r => k ls (.long (x ^^^ y) :: r)) = some b) :
    ∃ ls' st', k ls' st' = some b ∧ ls'.length = ls.length ∧ ∀ t, Steps p.tables e below (T.setTop (mkF m (pc + 1) ls'.toArray st')) t → Steps p.tables e below (T.setTop (mkF m pc ls.toArray st)) t := by
  obtain ⟨x, y, r, rfl, h⟩ := pJ2_ok h
  exact ⟨_, _, h, rfl, fun t q => XT.lxor X.here hx rfl hd rfl q⟩
theorem ok_lshl {β : Type} {z : Int32} {w : Int64} {k : List Slot → List Value → Option β} {b : β}  (hx : p.tables.exec = Jvm.exec) (X : Stand p l e R s m args below meth c T locs cells slots) (hd : decode c.code pc = .ok (.lshl, 1))  (h : (pJI st fun x y r => k ls (.long (x <<< (y.toInt64 &&& 63)) :: r)) = some b) :
    ∃ ls' st', k ls' st' = some b ∧ ls'.length = ls.length ∧ ∀ t, Steps p.tables e below (T.setTop (mkF m (pc + 1) ls'.toArray st')) t → Steps p.tables e below (T.setTop (mkF m pc ls.toArray st)) t := by
  obtain ⟨x, y, r, rfl, h⟩ := pJI_ok h
  exact ⟨_, _, h, rfl, fun t q => XT.lshl X.here hx rfl hd rfl q⟩
theorem ok_lshr {β : Type} {z : Int32} {w : Int64} {k : List Slot → List Value → Option β} {b : β}  (hx : p.tables.exec = Jvm.exec) (X : Stand p l e R s m args below meth c T locs cells slots) (hd : decode c.code pc = .ok (.lshr, 1))  (h : (pJI st fun x y r => k ls (.long (x >>> (y.toInt64 &&& 63)) :: r)) = some b) :
    ∃ ls' st', k ls' st' = some b ∧ ls'.length = ls.length ∧ ∀ t, Steps p.tables e below (T.setTop (mkF m (pc + 1) ls'.toArray st')) t → Steps p.tables e below (T.setTop (mkF m pc ls.toArray st)) t := by
  obtain ⟨x, y, r, rfl, h⟩ := pJI_ok h
  exact ⟨_, _, h, rfl, fun t q => XT.lshr X.here hx rfl hd rfl q⟩
theorem ok_lushr {β : Type} {z : Int32} {w : Int64} {k : List Slot → List Value → Option β} {b : β}  (hx : p.tables.exec = Jvm.exec) (X : Stand p l e R s m args below meth c T locs cells slots) (hd : decode c.code pc = .ok (.lushr, 1))  (h : (pJI st fun x y r => k ls (.long (XT.ushrL x y) :: r)) = some b) :
    ∃ ls' st', k ls' st' = some b ∧ ls'.length = ls.length ∧ ∀ t, Steps p.tables e below (T.setTop (mkF m (pc + 1) ls'.toArray st')) t → Steps p.tables e below (T.setTop (mkF m pc ls.toArray st)) t := by
  obtain ⟨x, y, r, rfl, h⟩ := pJI_ok h
  exact ⟨_, _, h, rfl, fun t q => XT.lushr X.here hx rfl hd rfl q⟩
theorem ok_lcmp {β : Type} {z : Int32} {w : Int64} {k : List Slot → List Value → Option β} {b : β}  (hx : p.tables.exec = Jvm.exec) (X : Stand p l e R s m args below meth c T locs cells slots) (hd : decode c.code pc = .ok (.lcmp, 1))  (h : (pJ2 st fun x y r => k ls (.int (XT.cmpL x y) :: r)) = some b) :
    ∃ ls' st', k ls' st' = some b ∧ ls'.length = ls.length ∧ ∀ t, Steps p.tables e below (T.setTop (mkF m (pc + 1) ls'.toArray st')) t → Steps p.tables e below (T.setTop (mkF m pc ls.toArray st)) t := by
  obtain ⟨x, y, r, rfl, h⟩ := pJ2_ok h
  exact ⟨_, _, h, rfl, fun t q => XT.lcmp X.here hx rfl hd rfl q⟩
theorem ok_ineg {β : Type} {z : Int32} {w : Int64} {k : List Slot → List Value → Option β} {b : β}  (hx : p.tables.exec = Jvm.exec) (X : Stand p l e R s m args below meth c T locs cells slots) (hd : decode c.code pc = .ok (.ineg, 1))  (h : (pI1 st fun x r => k ls (.int (-x) :: r)) = some b) :
    ∃ ls' st', k ls' st' = some b ∧ ls'.length = ls.length ∧ ∀ t, Steps p.tables e below (T.setTop (mkF m (pc + 1) ls'.toArray st')) t → Steps p.tables e below (T.setTop (mkF m pc ls.toArray st)) t := by
  obtain ⟨x, r, rfl, h⟩ := pI1_ok h
  exact ⟨_, _, h, rfl, fun t q => XS.ineg X.here hx rfl hd rfl q⟩
theorem ok_lneg {β : Type} {z : Int32} {w : Int64} {k : List Slot → List Value → Option β} {b : β}  (hx : p.tables.exec = Jvm.exec) (X : Stand p l e R s m args below meth c T locs cells slots) (hd : decode c.code pc = .ok (.lneg, 1))  (h : (pJ1 st fun x r => k ls (.long (-x) :: r)) = some b) :
    ∃ ls' st', k ls' st' = some b ∧ ls'.length = ls.length ∧ ∀ t, Steps p.tables e below (T.setTop (mkF m (pc + 1) ls'.toArray st')) t → Steps p.tables e below (T.setTop (mkF m pc ls.toArray st)) t := by
  obtain ⟨x, r, rfl, h⟩ := pJ1_ok h
  exact ⟨_, _, h, rfl, fun t q => XT.lneg X.here hx rfl hd rfl q⟩
theorem ok_i2l {β : Type} {z : Int32} {w : Int64} {k : List Slot → List Value → Option β} {b : β}  (hx : p.tables.exec = Jvm.exec) (X : Stand p l e R s m args below meth c T locs cells slots) (hd : decode c.code pc = .ok (.i2l, 1))  (h : (pI1 st fun x r => k ls (.long (x.toInt64) :: r)) = some b) :
    ∃ ls' st', k ls' st' = some b ∧ ls'.length = ls.length ∧ ∀ t, Steps p.tables e below (T.setTop (mkF m (pc + 1) ls'.toArray st')) t → Steps p.tables e below (T.setTop (mkF m pc ls.toArray st)) t := by
  obtain ⟨x, r, rfl, h⟩ := pI1_ok h
  exact ⟨_, _, h, rfl, fun t q => XT.i2l X.here hx rfl hd rfl q⟩
theorem ok_l2i {β : Type} {z : Int32} {w : Int64} {k : List Slot → List Value → Option β} {b : β}  (hx : p.tables.exec = Jvm.exec) (X : Stand p l e R s m args below meth c T locs cells slots) (hd : decode c.code pc = .ok (.l2i, 1))  (h : (pJ1 st fun x r => k ls (.int (x.toInt32) :: r)) = some b) :
    ∃ ls' st', k ls' st' = some b ∧ ls'.length = ls.length ∧ ∀ t, Steps p.tables e below (T.setTop (mkF m (pc + 1) ls'.toArray st')) t → Steps p.tables e below (T.setTop (mkF m pc ls.toArray st)) t := by
  obtain ⟨x, r, rfl, h⟩ := pJ1_ok h
  exact ⟨_, _, h, rfl, fun t q => XT.l2i X.here hx rfl hd rfl q⟩
theorem ok_i2b {β : Type} {z : Int32} {w : Int64} {k : List Slot → List Value → Option β} {b : β}  (hx : p.tables.exec = Jvm.exec) (X : Stand p l e R s m args below meth c T locs cells slots) (hd : decode c.code pc = .ok (.i2b, 1))  (h : (pI1 st fun x r => k ls (.int (x.toInt8.toInt32) :: r)) = some b) :
    ∃ ls' st', k ls' st' = some b ∧ ls'.length = ls.length ∧ ∀ t, Steps p.tables e below (T.setTop (mkF m (pc + 1) ls'.toArray st')) t → Steps p.tables e below (T.setTop (mkF m pc ls.toArray st)) t := by
  obtain ⟨x, r, rfl, h⟩ := pI1_ok h
  exact ⟨_, _, h, rfl, fun t q => XT.i2b X.here hx rfl hd rfl q⟩
theorem ok_i2c {β : Type} {z : Int32} {w : Int64} {k : List Slot → List Value → Option β} {b : β}  (hx : p.tables.exec = Jvm.exec) (X : Stand p l e R s m args below meth c T locs cells slots) (hd : decode c.code pc = .ok (.i2c, 1))  (h : (pI1 st fun x r => k ls (.int (x.toUInt32.toUInt16.toUInt32.toInt32) :: r)) = some b) :
    ∃ ls' st', k ls' st' = some b ∧ ls'.length = ls.length ∧ ∀ t, Steps p.tables e below (T.setTop (mkF m (pc + 1) ls'.toArray st')) t → Steps p.tables e below (T.setTop (mkF m pc ls.toArray st)) t := by
  obtain ⟨x, r, rfl, h⟩ := pI1_ok h
  exact ⟨_, _, h, rfl, fun t q => XT.i2c X.here hx rfl hd rfl q⟩
theorem ok_i2s {β : Type} {z : Int32} {w : Int64} {k : List Slot → List Value → Option β} {b : β}  (hx : p.tables.exec = Jvm.exec) (X : Stand p l e R s m args below meth c T locs cells slots) (hd : decode c.code pc = .ok (.i2s, 1))  (h : (pI1 st fun x r => k ls (.int (x.toInt16.toInt32) :: r)) = some b) :
    ∃ ls' st', k ls' st' = some b ∧ ls'.length = ls.length ∧ ∀ t, Steps p.tables e below (T.setTop (mkF m (pc + 1) ls'.toArray st')) t → Steps p.tables e below (T.setTop (mkF m pc ls.toArray st)) t := by
  obtain ⟨x, r, rfl, h⟩ := pI1_ok h
  exact ⟨_, _, h, rfl, fun t q => XT.i2s X.here hx rfl hd rfl q⟩
theorem ok_dup {β : Type} {z : Int32} {w : Int64} {k : List Slot → List Value → Option β} {b : β}  (hx : p.tables.exec = Jvm.exec) (X : Stand p l e R s m args below meth c T locs cells slots) (hd : decode c.code pc = .ok (.dup, 1))  (h : (pW1 st fun x r => k ls (x :: x :: r)) = some b) :
    ∃ ls' st', k ls' st' = some b ∧ ls'.length = ls.length ∧ ∀ t, Steps p.tables e below (T.setTop (mkF m (pc + 1) ls'.toArray st')) t → Steps p.tables e below (T.setTop (mkF m pc ls.toArray st)) t := by
  obtain ⟨x, r, rfl, hc, h⟩ := pW1_ok h
  exact ⟨_, _, h, rfl, fun t q => XS.dup X.here hx rfl hd rfl hc q⟩
theorem ok_pop {β : Type} {z : Int32} {w : Int64} {k : List Slot → List Value → Option β} {b : β}  (hx : p.tables.exec = Jvm.exec) (X : Stand p l e R s m args below meth c T locs cells slots) (hd : decode c.code pc = .ok (.pop, 1))  (h : (pW1 st fun x r => k ls r) = some b) :
    ∃ ls' st', k ls' st' = some b ∧ ls'.length = ls.length ∧ ∀ t, Steps p.tables e below (T.setTop (mkF m (pc + 1) ls'.toArray st')) t → Steps p.tables e below (T.setTop (mkF m pc ls.toArray st)) t := by
  obtain ⟨x, r, rfl, hc, h⟩ := pW1_ok h
  exact ⟨_, _, h, rfl, fun t q => XT.pop X.here hx rfl hd rfl hc q⟩
theorem ok_dup_x1 {β : Type} {z : Int32} {w : Int64} {k : List Slot → List Value → Option β} {b : β}  (hx : p.tables.exec = Jvm.exec) (X : Stand p l e R s m args below meth c T locs cells slots) (hd : decode c.code pc = .ok (.dup_x1, 1))  (h : (pW2 st fun x y r => k ls (x :: y :: x :: r)) = some b) :
    ∃ ls' st', k ls' st' = some b ∧ ls'.length = ls.length ∧ ∀ t, Steps p.tables e below (T.setTop (mkF m (pc + 1) ls'.toArray st')) t → Steps p.tables e below (T.setTop (mkF m pc ls.toArray st)) t := by
  obtain ⟨x, y, r, rfl, hc, hc2, h⟩ := pW2_ok h
  exact ⟨_, _, h, rfl, fun t q => XT.dupX1 X.here hx rfl hd rfl hc hc2 q⟩
theorem ok_dup_x2 {β : Type} {z : Int32} {w : Int64} {k : List Slot → List Value → Option β} {b : β}  (hx : p.tables.exec = Jvm.exec) (X : Stand p l e R s m args below meth c T locs cells slots) (hd : decode c.code pc = .ok (.dup_x2, 1))  (h : (pW3 st fun x y z r => k ls (x :: y :: z :: x :: r)) = some b) :
    ∃ ls' st', k ls' st' = some b ∧ ls'.length = ls.length ∧ ∀ t, Steps p.tables e below (T.setTop (mkF m (pc + 1) ls'.toArray st')) t → Steps p.tables e below (T.setTop (mkF m pc ls.toArray st)) t := by
  obtain ⟨x, y, z, r, rfl, hc, hc2, hc3, h⟩ := pW3_ok h
  refine ⟨_, _, h, rfl, fun t q => ?_⟩
  jvm_step X.here [X.here.top, hx, hd, hc, hc2, hc3]
  exact q
theorem ok_dup2 {β : Type} {z : Int32} {w : Int64} {k : List Slot → List Value → Option β} {b : β}  (hx : p.tables.exec = Jvm.exec) (X : Stand p l e R s m args below meth c T locs cells slots) (hd : decode c.code pc = .ok (.dup2, 1))  (h : (pD st (fun x r => k ls (.long x :: .long x :: r)) fun x y r => k ls (x :: y :: x :: y :: r)) = some b) :
    ∃ ls' st', k ls' st' = some b ∧ ls'.length = ls.length ∧ ∀ t, Steps p.tables e below (T.setTop (mkF m (pc + 1) ls'.toArray st')) t → Steps p.tables e below (T.setTop (mkF m pc ls.toArray st)) t := by
  rcases pD_ok h with ⟨x, r, rfl, h⟩ | ⟨x, y, r, rfl, hc, hc2, h⟩
  · exact ⟨_, _, h, rfl, fun t q => XT.dup2L X.here hx rfl hd rfl q⟩
  · exact ⟨_, _, h, rfl, fun t q => XT.dup2 X.here hx rfl hd rfl hc hc2 q⟩
set_option maxHeartbeats 4000000 in
theorem ex_ok {β : Type} (K : Cx EE R n0 nz p s m args meth c Z y code ml ret cI cJ) (X : Stand p l e R s m args below meth c T locs cells slots) {i : Instr} {n : Nat} {z : Int32} {w : Int64} {k : List Slot → List Value → Option β} {b : β} (hd0 : decode code pc = .ok (i, ilen i)) (hn : nxtB pc i n = true) (hz0 : cst cI cJ z w i = true) (h : ex i z w ls st k = some b) :
    ∃ ls' st', k ls' st' = some b ∧ ls'.length = ls.length ∧ ∀ t, Steps p.tables e below (T.setTop (mkF m n ls'.toArray st')) t → Steps p.tables e below (T.setTop (mkF m pc ls.toArray st)) t := by
  obtain ⟨hx, hby, hml, hZ, hown, hnm, hret, hlk, hI, hJ, -⟩ := K
  have hd : decode c.code pc = .ok (i, ilen i) := hb hby hd0
  clear hd0
  cases i
  case iload_n j =>
    obtain rfl : pc + 1 = n := of_decide_eq_true hn
    exact ok_iload_n (z := z) (w := w) hx X hd  h
  case iload j =>
    obtain rfl : pc + 2 = n := of_decide_eq_true hn
    exact ok_iload (z := z) (w := w) hx X hd  h
  case lload_n j =>
    obtain rfl : pc + 1 = n := of_decide_eq_true hn
    exact ok_lload_n (z := z) (w := w) hx X hd  h
  case lload j =>
    obtain rfl : pc + 2 = n := of_decide_eq_true hn
    exact ok_lload (z := z) (w := w) hx X hd  h
  case aload_n j =>
    obtain rfl : pc + 1 = n := of_decide_eq_true hn
    exact ok_aload_n (z := z) (w := w) hx X hd  h
  case aload j =>
    obtain rfl : pc + 2 = n := of_decide_eq_true hn
    exact ok_aload (z := z) (w := w) hx X hd  h
  case istore_n j =>
    obtain rfl : pc + 1 = n := of_decide_eq_true hn
    exact ok_istore_n (z := z) (w := w) hx X hd  h
  case istore j =>
    obtain rfl : pc + 2 = n := of_decide_eq_true hn
    exact ok_istore (z := z) (w := w) hx X hd  h
  case astore_n j =>
    obtain rfl : pc + 1 = n := of_decide_eq_true hn
    exact ok_astore_n (z := z) (w := w) hx X hd  h
  case astore j =>
    obtain rfl : pc + 2 = n := of_decide_eq_true hn
    exact ok_astore (z := z) (w := w) hx X hd  h
  case lstore_n j =>
    obtain rfl : pc + 1 = n := of_decide_eq_true hn
    exact ok_lstore_n (z := z) (w := w) hx X hd  h
  case lstore j =>
    obtain rfl : pc + 2 = n := of_decide_eq_true hn
    exact ok_lstore (z := z) (w := w) hx X hd  h
  case iinc j cc =>
    obtain rfl : pc + 3 = n := of_decide_eq_true hn
    exact ok_iinc (z := z) (w := w) hx X hd (of_decide_eq_true hz0) h
  case iconst cc =>
    obtain rfl : pc + 1 = n := of_decide_eq_true hn
    exact ok_iconst (z := z) (w := w) hx X hd (of_decide_eq_true hz0) h
  case bipush cc =>
    obtain rfl : pc + 2 = n := of_decide_eq_true hn
    exact ok_bipush (z := z) (w := w) hx X hd (of_decide_eq_true hz0) h
  case sipush cc =>
    obtain rfl : pc + 3 = n := of_decide_eq_true hn
    exact ok_sipush (z := z) (w := w) hx X hd (of_decide_eq_true hz0) h
  case lconst cc =>
    obtain rfl : pc + 1 = n := of_decide_eq_true hn
    exact ok_lconst (z := z) (w := w) hx X hd (of_decide_eq_true hz0) h
  case ldc cc =>
    obtain rfl : pc + 2 = n := of_decide_eq_true hn
    exact ok_ldc (z := z) (w := w) hx X hd hown (mv hZ (hI _ (of_decide_eq_true hz0))) h
  case ldc2_w cc =>
    obtain rfl : pc + 3 = n := of_decide_eq_true hn
    exact ok_ldc2_w (z := z) (w := w) hx X hd hown (mv hZ (hJ _ (of_decide_eq_true hz0))) h
  case aconst_null  =>
    obtain rfl : pc + 1 = n := of_decide_eq_true hn
    exact ok_aconst_null (z := z) (w := w) hx X hd  h
  case iadd  =>
    obtain rfl : pc + 1 = n := of_decide_eq_true hn
    exact ok_iadd (z := z) (w := w) hx X hd  h
  case isub  =>
    obtain rfl : pc + 1 = n := of_decide_eq_true hn
    exact ok_isub (z := z) (w := w) hx X hd  h
  case imul  =>
    obtain rfl : pc + 1 = n := of_decide_eq_true hn
    exact ok_imul (z := z) (w := w) hx X hd  h
  case iand  =>
    obtain rfl : pc + 1 = n := of_decide_eq_true hn
    exact ok_iand (z := z) (w := w) hx X hd  h
  case ior  =>
    obtain rfl : pc + 1 = n := of_decide_eq_true hn
    exact ok_ior (z := z) (w := w) hx X hd  h
  case ixor  =>
    obtain rfl : pc + 1 = n := of_decide_eq_true hn
    exact ok_ixor (z := z) (w := w) hx X hd  h
  case ishl  =>
    obtain rfl : pc + 1 = n := of_decide_eq_true hn
    exact ok_ishl (z := z) (w := w) hx X hd  h
  case ishr  =>
    obtain rfl : pc + 1 = n := of_decide_eq_true hn
    exact ok_ishr (z := z) (w := w) hx X hd  h
  case iushr  =>
    obtain rfl : pc + 1 = n := of_decide_eq_true hn
    exact ok_iushr (z := z) (w := w) hx X hd  h
  case ladd  =>
    obtain rfl : pc + 1 = n := of_decide_eq_true hn
    exact ok_ladd (z := z) (w := w) hx X hd  h
  case lsub  =>
    obtain rfl : pc + 1 = n := of_decide_eq_true hn
    exact ok_lsub (z := z) (w := w) hx X hd  h
  case lmul  =>
    obtain rfl : pc + 1 = n := of_decide_eq_true hn
    exact ok_lmul (z := z) (w := w) hx X hd  h
  case land  =>
    obtain rfl : pc + 1 = n := of_decide_eq_true hn
    exact ok_land (z := z) (w := w) hx X hd  h
  case lor  =>
    obtain rfl : pc + 1 = n := of_decide_eq_true hn
    exact ok_lor (z := z) (w := w) hx X hd  h
  case lxor  =>
    obtain rfl : pc + 1 = n := of_decide_eq_true hn
    exact ok_lxor (z := z) (w := w) hx X hd  h
  case lshl  =>
    obtain rfl : pc + 1 = n := of_decide_eq_true hn
    exact ok_lshl (z := z) (w := w) hx X hd  h
  case lshr  =>
    obtain rfl : pc + 1 = n := of_decide_eq_true hn
    exact ok_lshr (z := z) (w := w) hx X hd  h
  case lushr  =>
    obtain rfl : pc + 1 = n := of_decide_eq_true hn
    exact ok_lushr (z := z) (w := w) hx X hd  h
  case lcmp  =>
    obtain rfl : pc + 1 = n := of_decide_eq_true hn
    exact ok_lcmp (z := z) (w := w) hx X hd  h
  case ineg  =>
    obtain rfl : pc + 1 = n := of_decide_eq_true hn
    exact ok_ineg (z := z) (w := w) hx X hd  h
  case lneg  =>
    obtain rfl : pc + 1 = n := of_decide_eq_true hn
    exact ok_lneg (z := z) (w := w) hx X hd  h
  case i2l  =>
    obtain rfl : pc + 1 = n := of_decide_eq_true hn
    exact ok_i2l (z := z) (w := w) hx X hd  h
  case l2i  =>
    obtain rfl : pc + 1 = n := of_decide_eq_true hn
    exact ok_l2i (z := z) (w := w) hx X hd  h
  case i2b  =>
    obtain rfl : pc + 1 = n := of_decide_eq_true hn
    exact ok_i2b (z := z) (w := w) hx X hd  h
  case i2c  =>
    obtain rfl : pc + 1 = n := of_decide_eq_true hn
    exact ok_i2c (z := z) (w := w) hx X hd  h
  case i2s  =>
    obtain rfl : pc + 1 = n := of_decide_eq_true hn
    exact ok_i2s (z := z) (w := w) hx X hd  h
  case dup  =>
    obtain rfl : pc + 1 = n := of_decide_eq_true hn
    exact ok_dup (z := z) (w := w) hx X hd  h
  case pop  =>
    obtain rfl : pc + 1 = n := of_decide_eq_true hn
    exact ok_pop (z := z) (w := w) hx X hd  h
  case dup_x1  =>
    obtain rfl : pc + 1 = n := of_decide_eq_true hn
    exact ok_dup_x1 (z := z) (w := w) hx X hd  h
  case dup_x2  =>
    obtain rfl : pc + 1 = n := of_decide_eq_true hn
    exact ok_dup_x2 (z := z) (w := w) hx X hd  h
  case dup2  =>
    obtain rfl : pc + 1 = n := of_decide_eq_true hn
    exact ok_dup2 (z := z) (w := w) hx X hd  h
  case goto o =>
    obtain ⟨hn1, hn2⟩ := Bool.and_eq_true_iff.mp hn
    exact ⟨_, _, h, rfl, fun t q => XS.goto X.here hx rfl rfl hd (of_decide_eq_true hn1) (of_decide_eq_true hn2) q⟩
  all_goals exact nomatch (show (none : Option β) = some b from h)
theorem go_ok (K : Cx EE R n0 nz p s m args meth c Z y code ml ret cI cJ) : ∀ (rows : List Row) (pc : Nat) (ls : List Slot) (st : List Value) {pc' : Nat} {ls' : List Slot} {st' : List Value}, rows.all (rowOk code cI cJ) = true → go rows pc ls st = some (pc', ls', st') →
    WP p l e R s m args below meth c EE n0 nz Q h cells slots pc' ls' st' → WP p l e R s m args below meth c EE n0 nz Q h cells slots pc ls st
  | [], pc, ls, st, pc', ls', st', _, hg, W => by cases hg; exact W
  | (q, i, n, z, w) :: r, pc, ls, st, pc', ls', st', hr, hg, W => by
    intro T locs X e0 N0 Z0
    rw [List.all_cons, Bool.and_eq_true] at hr
    obtain ⟨hr1, hr2⟩ := hr
    have hr1' : (decide (decode code q = .ok (i, ilen i)) && nxtB q i n && cst cI cJ z w i) = true := hr1
    rw [Bool.and_eq_true, Bool.and_eq_true] at hr1'
    have hg' : (bif Nat.beq q pc then ex i z w ls st (fun ls' st' => go r n ls' st') else none) = some (pc', ls', st') := hg
    cases hq : Nat.beq q pc with
    | false => rw [hq] at hg'; cases hg'
    | true =>
      rw [hq] at hg'
      obtain rfl := Nat.eq_of_beq_eq_true hq
      obtain ⟨l1, s1, k1, -, k3⟩ := ex_ok K X (of_decide_eq_true hr1'.1.1) hr1'.1.2 hr1'.2 (show ex i z w ls st (fun ls' st' => go r n ls' st') = some (pc', ls', st') from hg')
      obtain ⟨t, o, g1, g2⟩ := go_ok K r n l1 s1 hr2 k1 W T locs X e0 N0 Z0
      exact ⟨t, o, k3 _ g1, g2⟩
theorem WP.step {cells' slots' pc' : Nat} {ls' : List Slot} {st' : List Value} {h' : Heap} (H : ∀ T locs, Stand p l e R s m args below meth c T locs cells slots → T.heap = h → Fr n0 locs → nz ≤ h.size → ∃ T' locs', Stand p l e R s m args below meth c T' locs' cells' slots' ∧ T'.heap = h' ∧ Fr n0 locs' ∧ nz ≤ h'.size ∧ ∀ t, Steps p.tables e below (T'.setTop (mkF m pc' ls'.toArray st')) t → Steps p.tables e below (T.setTop (mkF m pc ls.toArray st)) t)
    (W : WP p l e R s m args below meth c EE n0 nz Q h' cells' slots' pc' ls' st') : WP p l e R s m args below meth c EE n0 nz Q h cells slots pc ls st := by
  intro T locs X e0 N0 Z0
  obtain ⟨T', locs', X', e', N', Z', k⟩ := H T locs X e0 N0 Z0
  obtain ⟨t, o, g1, g2⟩ := W T' locs' X' e' N' Z'
  exact ⟨t, o, k _ g1, g2⟩
/-- more cells counted than made -/
theorem WP.more {cells' slots' : Nat} (hc : cells ≤ cells') (hs : slots ≤ slots') (W : WP p l e R s m args below meth c EE n0 nz Q h cells' slots' pc ls st) : WP p l e R s m args below meth c EE n0 nz Q h cells slots pc ls st :=
  WP.step (fun T locs X e0 N0 Z0 => ⟨T, locs, X.more hc hs, e0, N0, Z0, fun _ k => k⟩) W
/-- a plain step that leaves the state -/
theorem WP.plain {pc' : Nat} {ls' : List Slot} {st' : List Value} (H : ∀ T locs, Stand p l e R s m args below meth c T locs cells slots → T.heap = h → ∀ t, Steps p.tables e below (T.setTop (mkF m pc' ls'.toArray st')) t → Steps p.tables e below (T.setTop (mkF m pc ls.toArray st)) t)
    (W : WP p l e R s m args below meth c EE n0 nz Q h cells slots pc' ls' st') : WP p l e R s m args below meth c EE n0 nz Q h cells slots pc ls st :=
  WP.step (fun T locs X e0 N0 Z0 => ⟨T, locs, X, e0, N0, Z0, H T locs X e0⟩) W
/-! ## branches -/
theorem icmp {cd : ClassFile.Cond} {o : Int} {x y' : Int32} {pc' pn : Nat} {A B : Prop} (K : Cx EE R n0 nz p s m args meth c Z y code ml ret cI cJ) (hd : decode code pc = .ok (.if_icmp cd o, 3)) (ho : 0 ≤ (pc : Int) + o) (hp : ((pc : Int) + o).toNat = pc') (hn : pc + 3 = pn) (hA : if_icmp.holds cd x y' = true → A) (hB : if_icmp.holds cd x y' = false → B)
    (W1 : A → WP p l e R s m args below meth c EE n0 nz Q h cells slots pc' ls st) (W2 : B → WP p l e R s m args below meth c EE n0 nz Q h cells slots pn ls st) : WP p l e R s m args below meth c EE n0 nz Q h cells slots pc ls (.int y' :: .int x :: st) := by
  subst hn
  cases hc : if_icmp.holds cd x y' with
  | true => exact WP.plain (fun T locs X _ t k => XS.icmpYes X.here K.1 rfl rfl (hb K.2.1 hd) rfl hc ho hp k) (W1 (hA hc))
  | false => exact WP.plain (fun T locs X _ t k => XS.icmpNo X.here K.1 rfl (hb K.2.1 hd) rfl hc k) (W2 (hB hc))
theorem ifc {cd : ClassFile.Cond} {o : Int} {x : Int32} {pc' pn : Nat} {A B : Prop} (K : Cx EE R n0 nz p s m args meth c Z y code ml ret cI cJ) (hd : decode code pc = .ok (.ifCond cd o, 3)) (ho : 0 ≤ (pc : Int) + o) (hp : ((pc : Int) + o).toNat = pc') (hn : pc + 3 = pn) (hA : ifCond.holds cd x = true → A) (hB : ifCond.holds cd x = false → B)
    (W1 : A → WP p l e R s m args below meth c EE n0 nz Q h cells slots pc' ls st) (W2 : B → WP p l e R s m args below meth c EE n0 nz Q h cells slots pn ls st) : WP p l e R s m args below meth c EE n0 nz Q h cells slots pc ls (.int x :: st) := by
  subst hn
  cases hc : ifCond.holds cd x with
  | true => exact WP.plain (fun T locs X _ t k => XS.ifYes X.here K.1 rfl rfl (hb K.2.1 hd) rfl hc ho hp k) (W1 (hA hc))
  | false => exact WP.plain (fun T locs X _ t k => XS.ifNo X.here K.1 rfl (hb K.2.1 hd) rfl hc k) (W2 (hB hc))
theorem hi_eq_t {x y : Int32} (q : if_icmp.holds .eq x y = true) : x = y := by
  by_cases hh : x = y
  · exact hh
  · exact absurd q (by rw [XT.ii_eq_f hh]; exact Bool.false_ne_true)
theorem hi_eq_f {x y : Int32} (q : if_icmp.holds .eq x y = false) : ¬ x = y := by
  by_cases hh : ¬ x = y
  · exact hh
  · exact absurd q (by rw [XT.ii_eq_t (Decidable.not_not.mp hh)]; exact Bool.noConfusion)
theorem icmp_eq {o : Int} {x y' : Int32} {pc' pn : Nat} (K : Cx EE R n0 nz p s m args meth c Z y code ml ret cI cJ) (hd : decode code pc = .ok (.if_icmp .eq o, 3)) (ho : 0 ≤ (pc : Int) + o) (hp : ((pc : Int) + o).toNat = pc') (hn : pc + 3 = pn)
    (W1 : x = y' → WP p l e R s m args below meth c EE n0 nz Q h cells slots pc' ls st) (W2 : ¬ x = y' → WP p l e R s m args below meth c EE n0 nz Q h cells slots pn ls st) : WP p l e R s m args below meth c EE n0 nz Q h cells slots pc ls (.int y' :: .int x :: st) := icmp K hd ho hp hn hi_eq_t hi_eq_f W1 W2
theorem hi_ne_t {x y : Int32} (q : if_icmp.holds .ne x y = true) : ¬ x = y := by
  by_cases hh : ¬ x = y
  · exact hh
  · exact absurd q (by rw [XT.ii_ne_f (Decidable.not_not.mp hh)]; exact Bool.false_ne_true)
theorem hi_ne_f {x y : Int32} (q : if_icmp.holds .ne x y = false) : x = y := by
  by_cases hh : x = y
  · exact hh
  · exact absurd q (by rw [XT.ii_ne_t hh]; exact Bool.noConfusion)
theorem icmp_ne {o : Int} {x y' : Int32} {pc' pn : Nat} (K : Cx EE R n0 nz p s m args meth c Z y code ml ret cI cJ) (hd : decode code pc = .ok (.if_icmp .ne o, 3)) (ho : 0 ≤ (pc : Int) + o) (hp : ((pc : Int) + o).toNat = pc') (hn : pc + 3 = pn)
    (W1 : ¬ x = y' → WP p l e R s m args below meth c EE n0 nz Q h cells slots pc' ls st) (W2 : x = y' → WP p l e R s m args below meth c EE n0 nz Q h cells slots pn ls st) : WP p l e R s m args below meth c EE n0 nz Q h cells slots pc ls (.int y' :: .int x :: st) := icmp K hd ho hp hn hi_ne_t hi_ne_f W1 W2
theorem hi_lt_t {x y : Int32} (q : if_icmp.holds .lt x y = true) : x < y := by
  by_cases hh : x < y
  · exact hh
  · exact absurd q (by rw [XT.ii_lt_f hh]; exact Bool.false_ne_true)
theorem hi_lt_f {x y : Int32} (q : if_icmp.holds .lt x y = false) : ¬ x < y := by
  by_cases hh : ¬ x < y
  · exact hh
  · exact absurd q (by rw [XT.ii_lt_t (Decidable.not_not.mp hh)]; exact Bool.noConfusion)
theorem icmp_lt {o : Int} {x y' : Int32} {pc' pn : Nat} (K : Cx EE R n0 nz p s m args meth c Z y code ml ret cI cJ) (hd : decode code pc = .ok (.if_icmp .lt o, 3)) (ho : 0 ≤ (pc : Int) + o) (hp : ((pc : Int) + o).toNat = pc') (hn : pc + 3 = pn)
    (W1 : x < y' → WP p l e R s m args below meth c EE n0 nz Q h cells slots pc' ls st) (W2 : ¬ x < y' → WP p l e R s m args below meth c EE n0 nz Q h cells slots pn ls st) : WP p l e R s m args below meth c EE n0 nz Q h cells slots pc ls (.int y' :: .int x :: st) := icmp K hd ho hp hn hi_lt_t hi_lt_f W1 W2
theorem hi_ge_t {x y : Int32} (q : if_icmp.holds .ge x y = true) : ¬ x < y := by
  by_cases hh : ¬ x < y
  · exact hh
  · exact absurd q (by rw [XT.ii_ge_f (Decidable.not_not.mp hh)]; exact Bool.false_ne_true)
theorem hi_ge_f {x y : Int32} (q : if_icmp.holds .ge x y = false) : x < y := by
  by_cases hh : x < y
  · exact hh
  · exact absurd q (by rw [XT.ii_ge_t hh]; exact Bool.noConfusion)
theorem icmp_ge {o : Int} {x y' : Int32} {pc' pn : Nat} (K : Cx EE R n0 nz p s m args meth c Z y code ml ret cI cJ) (hd : decode code pc = .ok (.if_icmp .ge o, 3)) (ho : 0 ≤ (pc : Int) + o) (hp : ((pc : Int) + o).toNat = pc') (hn : pc + 3 = pn)
    (W1 : ¬ x < y' → WP p l e R s m args below meth c EE n0 nz Q h cells slots pc' ls st) (W2 : x < y' → WP p l e R s m args below meth c EE n0 nz Q h cells slots pn ls st) : WP p l e R s m args below meth c EE n0 nz Q h cells slots pc ls (.int y' :: .int x :: st) := icmp K hd ho hp hn hi_ge_t hi_ge_f W1 W2
theorem hi_gt_t {x y : Int32} (q : if_icmp.holds .gt x y = true) : y < x := by
  by_cases hh : y < x
  · exact hh
  · exact absurd q (by rw [XT.ii_gt_f hh]; exact Bool.false_ne_true)
theorem hi_gt_f {x y : Int32} (q : if_icmp.holds .gt x y = false) : ¬ y < x := by
  by_cases hh : ¬ y < x
  · exact hh
  · exact absurd q (by rw [XT.ii_gt_t (Decidable.not_not.mp hh)]; exact Bool.noConfusion)
theorem icmp_gt {o : Int} {x y' : Int32} {pc' pn : Nat} (K : Cx EE R n0 nz p s m args meth c Z y code ml ret cI cJ) (hd : decode code pc = .ok (.if_icmp .gt o, 3)) (ho : 0 ≤ (pc : Int) + o) (hp : ((pc : Int) + o).toNat = pc') (hn : pc + 3 = pn)
    (W1 : y' < x → WP p l e R s m args below meth c EE n0 nz Q h cells slots pc' ls st) (W2 : ¬ y' < x → WP p l e R s m args below meth c EE n0 nz Q h cells slots pn ls st) : WP p l e R s m args below meth c EE n0 nz Q h cells slots pc ls (.int y' :: .int x :: st) := icmp K hd ho hp hn hi_gt_t hi_gt_f W1 W2
theorem hi_le_t {x y : Int32} (q : if_icmp.holds .le x y = true) : ¬ y < x := by
  by_cases hh : ¬ y < x
  · exact hh
  · exact absurd q (by rw [XT.ii_le_f (Decidable.not_not.mp hh)]; exact Bool.false_ne_true)
theorem hi_le_f {x y : Int32} (q : if_icmp.holds .le x y = false) : y < x := by
  by_cases hh : y < x
  · exact hh
  · exact absurd q (by rw [XT.ii_le_t hh]; exact Bool.noConfusion)
theorem icmp_le {o : Int} {x y' : Int32} {pc' pn : Nat} (K : Cx EE R n0 nz p s m args meth c Z y code ml ret cI cJ) (hd : decode code pc = .ok (.if_icmp .le o, 3)) (ho : 0 ≤ (pc : Int) + o) (hp : ((pc : Int) + o).toNat = pc') (hn : pc + 3 = pn)
    (W1 : ¬ y' < x → WP p l e R s m args below meth c EE n0 nz Q h cells slots pc' ls st) (W2 : y' < x → WP p l e R s m args below meth c EE n0 nz Q h cells slots pn ls st) : WP p l e R s m args below meth c EE n0 nz Q h cells slots pc ls (.int y' :: .int x :: st) := icmp K hd ho hp hn hi_le_t hi_le_f W1 W2
theorem hz_eq_t {x : Int32} (q : ifCond.holds .eq x = true) : x = 0 := hi_eq_t (y := 0) ((if0 _ _).symm.trans q)
theorem hz_eq_f {x : Int32} (q : ifCond.holds .eq x = false) : ¬ x = 0 := hi_eq_f (y := 0) ((if0 _ _).symm.trans q)
theorem ifc_eq {o : Int} {x : Int32} {pc' pn : Nat} (K : Cx EE R n0 nz p s m args meth c Z y code ml ret cI cJ) (hd : decode code pc = .ok (.ifCond .eq o, 3)) (ho : 0 ≤ (pc : Int) + o) (hp : ((pc : Int) + o).toNat = pc') (hn : pc + 3 = pn)
    (W1 : x = 0 → WP p l e R s m args below meth c EE n0 nz Q h cells slots pc' ls st) (W2 : ¬ x = 0 → WP p l e R s m args below meth c EE n0 nz Q h cells slots pn ls st) : WP p l e R s m args below meth c EE n0 nz Q h cells slots pc ls (.int x :: st) := ifc K hd ho hp hn hz_eq_t hz_eq_f W1 W2
theorem hl_eq_t {x y : Int64} (q : ifCond.holds .eq (XT.cmpL x y) = true) : x = y := by
  by_cases hh : x = y
  · exact hh
  · exact absurd q (by rw [XT.ll_eq_f hh]; exact Bool.false_ne_true)
theorem hl_eq_f {x y : Int64} (q : ifCond.holds .eq (XT.cmpL x y) = false) : ¬ x = y := by
  by_cases hh : ¬ x = y
  · exact hh
  · exact absurd q (by rw [XT.ll_eq_t (Decidable.not_not.mp hh)]; exact Bool.noConfusion)
theorem lc_eq {o : Int} {x y' : Int64} {pc' pn : Nat} (K : Cx EE R n0 nz p s m args meth c Z y code ml ret cI cJ) (hd : decode code pc = .ok (.ifCond .eq o, 3)) (ho : 0 ≤ (pc : Int) + o) (hp : ((pc : Int) + o).toNat = pc') (hn : pc + 3 = pn)
    (W1 : x = y' → WP p l e R s m args below meth c EE n0 nz Q h cells slots pc' ls st) (W2 : ¬ x = y' → WP p l e R s m args below meth c EE n0 nz Q h cells slots pn ls st) : WP p l e R s m args below meth c EE n0 nz Q h cells slots pc ls (.int (XT.cmpL x y') :: st) := ifc K hd ho hp hn hl_eq_t hl_eq_f W1 W2
theorem hz_ne_t {x : Int32} (q : ifCond.holds .ne x = true) : ¬ x = 0 := hi_ne_t (y := 0) ((if0 _ _).symm.trans q)
theorem hz_ne_f {x : Int32} (q : ifCond.holds .ne x = false) : x = 0 := hi_ne_f (y := 0) ((if0 _ _).symm.trans q)
theorem ifc_ne {o : Int} {x : Int32} {pc' pn : Nat} (K : Cx EE R n0 nz p s m args meth c Z y code ml ret cI cJ) (hd : decode code pc = .ok (.ifCond .ne o, 3)) (ho : 0 ≤ (pc : Int) + o) (hp : ((pc : Int) + o).toNat = pc') (hn : pc + 3 = pn)
    (W1 : ¬ x = 0 → WP p l e R s m args below meth c EE n0 nz Q h cells slots pc' ls st) (W2 : x = 0 → WP p l e R s m args below meth c EE n0 nz Q h cells slots pn ls st) : WP p l e R s m args below meth c EE n0 nz Q h cells slots pc ls (.int x :: st) := ifc K hd ho hp hn hz_ne_t hz_ne_f W1 W2
theorem hl_ne_t {x y : Int64} (q : ifCond.holds .ne (XT.cmpL x y) = true) : ¬ x = y := by
  by_cases hh : ¬ x = y
  · exact hh
  · exact absurd q (by rw [XT.ll_ne_f (Decidable.not_not.mp hh)]; exact Bool.false_ne_true)
theorem hl_ne_f {x y : Int64} (q : ifCond.holds .ne (XT.cmpL x y) = false) : x = y := by
  by_cases hh : x = y
  · exact hh
  · exact absurd q (by rw [XT.ll_ne_t hh]; exact Bool.noConfusion)
theorem lc_ne {o : Int} {x y' : Int64} {pc' pn : Nat} (K : Cx EE R n0 nz p s m args meth c Z y code ml ret cI cJ) (hd : decode code pc = .ok (.ifCond .ne o, 3)) (ho : 0 ≤ (pc : Int) + o) (hp : ((pc : Int) + o).toNat = pc') (hn : pc + 3 = pn)
    (W1 : ¬ x = y' → WP p l e R s m args below meth c EE n0 nz Q h cells slots pc' ls st) (W2 : x = y' → WP p l e R s m args below meth c EE n0 nz Q h cells slots pn ls st) : WP p l e R s m args below meth c EE n0 nz Q h cells slots pc ls (.int (XT.cmpL x y') :: st) := ifc K hd ho hp hn hl_ne_t hl_ne_f W1 W2
theorem hz_lt_t {x : Int32} (q : ifCond.holds .lt x = true) : x < 0 := hi_lt_t (y := 0) ((if0 _ _).symm.trans q)
theorem hz_lt_f {x : Int32} (q : ifCond.holds .lt x = false) : ¬ x < 0 := hi_lt_f (y := 0) ((if0 _ _).symm.trans q)
theorem ifc_lt {o : Int} {x : Int32} {pc' pn : Nat} (K : Cx EE R n0 nz p s m args meth c Z y code ml ret cI cJ) (hd : decode code pc = .ok (.ifCond .lt o, 3)) (ho : 0 ≤ (pc : Int) + o) (hp : ((pc : Int) + o).toNat = pc') (hn : pc + 3 = pn)
    (W1 : x < 0 → WP p l e R s m args below meth c EE n0 nz Q h cells slots pc' ls st) (W2 : ¬ x < 0 → WP p l e R s m args below meth c EE n0 nz Q h cells slots pn ls st) : WP p l e R s m args below meth c EE n0 nz Q h cells slots pc ls (.int x :: st) := ifc K hd ho hp hn hz_lt_t hz_lt_f W1 W2
theorem hl_lt_t {x y : Int64} (q : ifCond.holds .lt (XT.cmpL x y) = true) : x < y := by
  by_cases hh : x < y
  · exact hh
  · exact absurd q (by rw [XT.ll_lt_f hh]; exact Bool.false_ne_true)
theorem hl_lt_f {x y : Int64} (q : ifCond.holds .lt (XT.cmpL x y) = false) : ¬ x < y := by
  by_cases hh : ¬ x < y
  · exact hh
  · exact absurd q (by rw [XT.ll_lt_t (Decidable.not_not.mp hh)]; exact Bool.noConfusion)
theorem lc_lt {o : Int} {x y' : Int64} {pc' pn : Nat} (K : Cx EE R n0 nz p s m args meth c Z y code ml ret cI cJ) (hd : decode code pc = .ok (.ifCond .lt o, 3)) (ho : 0 ≤ (pc : Int) + o) (hp : ((pc : Int) + o).toNat = pc') (hn : pc + 3 = pn)
    (W1 : x < y' → WP p l e R s m args below meth c EE n0 nz Q h cells slots pc' ls st) (W2 : ¬ x < y' → WP p l e R s m args below meth c EE n0 nz Q h cells slots pn ls st) : WP p l e R s m args below meth c EE n0 nz Q h cells slots pc ls (.int (XT.cmpL x y') :: st) := ifc K hd ho hp hn hl_lt_t hl_lt_f W1 W2
theorem hz_ge_t {x : Int32} (q : ifCond.holds .ge x = true) : ¬ x < 0 := hi_ge_t (y := 0) ((if0 _ _).symm.trans q)
theorem hz_ge_f {x : Int32} (q : ifCond.holds .ge x = false) : x < 0 := hi_ge_f (y := 0) ((if0 _ _).symm.trans q)
theorem ifc_ge {o : Int} {x : Int32} {pc' pn : Nat} (K : Cx EE R n0 nz p s m args meth c Z y code ml ret cI cJ) (hd : decode code pc = .ok (.ifCond .ge o, 3)) (ho : 0 ≤ (pc : Int) + o) (hp : ((pc : Int) + o).toNat = pc') (hn : pc + 3 = pn)
    (W1 : ¬ x < 0 → WP p l e R s m args below meth c EE n0 nz Q h cells slots pc' ls st) (W2 : x < 0 → WP p l e R s m args below meth c EE n0 nz Q h cells slots pn ls st) : WP p l e R s m args below meth c EE n0 nz Q h cells slots pc ls (.int x :: st) := ifc K hd ho hp hn hz_ge_t hz_ge_f W1 W2
theorem hl_ge_t {x y : Int64} (q : ifCond.holds .ge (XT.cmpL x y) = true) : ¬ x < y := by
  by_cases hh : ¬ x < y
  · exact hh
  · exact absurd q (by rw [XT.ll_ge_f (Decidable.not_not.mp hh)]; exact Bool.false_ne_true)
theorem hl_ge_f {x y : Int64} (q : ifCond.holds .ge (XT.cmpL x y) = false) : x < y := by
  by_cases hh : x < y
  · exact hh
  · exact absurd q (by rw [XT.ll_ge_t hh]; exact Bool.noConfusion)
theorem lc_ge {o : Int} {x y' : Int64} {pc' pn : Nat} (K : Cx EE R n0 nz p s m args meth c Z y code ml ret cI cJ) (hd : decode code pc = .ok (.ifCond .ge o, 3)) (ho : 0 ≤ (pc : Int) + o) (hp : ((pc : Int) + o).toNat = pc') (hn : pc + 3 = pn)
    (W1 : ¬ x < y' → WP p l e R s m args below meth c EE n0 nz Q h cells slots pc' ls st) (W2 : x < y' → WP p l e R s m args below meth c EE n0 nz Q h cells slots pn ls st) : WP p l e R s m args below meth c EE n0 nz Q h cells slots pc ls (.int (XT.cmpL x y') :: st) := ifc K hd ho hp hn hl_ge_t hl_ge_f W1 W2
theorem hz_gt_t {x : Int32} (q : ifCond.holds .gt x = true) : 0 < x := hi_gt_t (y := 0) ((if0 _ _).symm.trans q)
theorem hz_gt_f {x : Int32} (q : ifCond.holds .gt x = false) : ¬ 0 < x := hi_gt_f (y := 0) ((if0 _ _).symm.trans q)
theorem ifc_gt {o : Int} {x : Int32} {pc' pn : Nat} (K : Cx EE R n0 nz p s m args meth c Z y code ml ret cI cJ) (hd : decode code pc = .ok (.ifCond .gt o, 3)) (ho : 0 ≤ (pc : Int) + o) (hp : ((pc : Int) + o).toNat = pc') (hn : pc + 3 = pn)
    (W1 : 0 < x → WP p l e R s m args below meth c EE n0 nz Q h cells slots pc' ls st) (W2 : ¬ 0 < x → WP p l e R s m args below meth c EE n0 nz Q h cells slots pn ls st) : WP p l e R s m args below meth c EE n0 nz Q h cells slots pc ls (.int x :: st) := ifc K hd ho hp hn hz_gt_t hz_gt_f W1 W2
theorem hl_gt_t {x y : Int64} (q : ifCond.holds .gt (XT.cmpL x y) = true) : y < x := by
  by_cases hh : y < x
  · exact hh
  · exact absurd q (by rw [XT.ll_gt_f hh]; exact Bool.false_ne_true)
theorem hl_gt_f {x y : Int64} (q : ifCond.holds .gt (XT.cmpL x y) = false) : ¬ y < x := by
  by_cases hh : ¬ y < x
  · exact hh
  · exact absurd q (by rw [XT.ll_gt_t (Decidable.not_not.mp hh)]; exact Bool.noConfusion)
theorem lc_gt {o : Int} {x y' : Int64} {pc' pn : Nat} (K : Cx EE R n0 nz p s m args meth c Z y code ml ret cI cJ) (hd : decode code pc = .ok (.ifCond .gt o, 3)) (ho : 0 ≤ (pc : Int) + o) (hp : ((pc : Int) + o).toNat = pc') (hn : pc + 3 = pn)
    (W1 : y' < x → WP p l e R s m args below meth c EE n0 nz Q h cells slots pc' ls st) (W2 : ¬ y' < x → WP p l e R s m args below meth c EE n0 nz Q h cells slots pn ls st) : WP p l e R s m args below meth c EE n0 nz Q h cells slots pc ls (.int (XT.cmpL x y') :: st) := ifc K hd ho hp hn hl_gt_t hl_gt_f W1 W2
theorem hz_le_t {x : Int32} (q : ifCond.holds .le x = true) : ¬ 0 < x := hi_le_t (y := 0) ((if0 _ _).symm.trans q)
theorem hz_le_f {x : Int32} (q : ifCond.holds .le x = false) : 0 < x := hi_le_f (y := 0) ((if0 _ _).symm.trans q)
theorem ifc_le {o : Int} {x : Int32} {pc' pn : Nat} (K : Cx EE R n0 nz p s m args meth c Z y code ml ret cI cJ) (hd : decode code pc = .ok (.ifCond .le o, 3)) (ho : 0 ≤ (pc : Int) + o) (hp : ((pc : Int) + o).toNat = pc') (hn : pc + 3 = pn)
    (W1 : ¬ 0 < x → WP p l e R s m args below meth c EE n0 nz Q h cells slots pc' ls st) (W2 : 0 < x → WP p l e R s m args below meth c EE n0 nz Q h cells slots pn ls st) : WP p l e R s m args below meth c EE n0 nz Q h cells slots pc ls (.int x :: st) := ifc K hd ho hp hn hz_le_t hz_le_f W1 W2
theorem hl_le_t {x y : Int64} (q : ifCond.holds .le (XT.cmpL x y) = true) : ¬ y < x := by
  by_cases hh : ¬ y < x
  · exact hh
  · exact absurd q (by rw [XT.ll_le_f (Decidable.not_not.mp hh)]; exact Bool.false_ne_true)
theorem hl_le_f {x y : Int64} (q : ifCond.holds .le (XT.cmpL x y) = false) : y < x := by
  by_cases hh : y < x
  · exact hh
  · exact absurd q (by rw [XT.ll_le_t hh]; exact Bool.noConfusion)
theorem lc_le {o : Int} {x y' : Int64} {pc' pn : Nat} (K : Cx EE R n0 nz p s m args meth c Z y code ml ret cI cJ) (hd : decode code pc = .ok (.ifCond .le o, 3)) (ho : 0 ≤ (pc : Int) + o) (hp : ((pc : Int) + o).toNat = pc') (hn : pc + 3 = pn)
    (W1 : ¬ y' < x → WP p l e R s m args below meth c EE n0 nz Q h cells slots pc' ls st) (W2 : y' < x → WP p l e R s m args below meth c EE n0 nz Q h cells slots pn ls st) : WP p l e R s m args below meth c EE n0 nz Q h cells slots pc ls (.int (XT.cmpL x y') :: st) := ifc K hd ho hp hn hl_le_t hl_le_f W1 W2
theorem nul {o : Int} {v : Value} {pc' pn : Nat} (K : Cx EE R n0 nz p s m args meth c Z y code ml ret cI cJ) (hd : decode code pc = .ok (.ifnull o, 3)) (hv : v.isRef = true) (ho : 0 ≤ (pc : Int) + o) (hp : ((pc : Int) + o).toNat = pc') (hn : pc + 3 = pn)
    (W1 : v = .null → WP p l e R s m args below meth c EE n0 nz Q h cells slots pc' ls st) (W2 : ¬ v = .null → WP p l e R s m args below meth c EE n0 nz Q h cells slots pn ls st) : WP p l e R s m args below meth c EE n0 nz Q h cells slots pc ls (v :: st) := by
  subst hn
  by_cases hc : v = .null
  · exact WP.plain (fun T locs X _ t k => XT.nullYes X.here K.1 rfl rfl (hb K.2.1 hd) rfl hc ho hp k) (W1 hc)
  · exact WP.plain (fun T locs X _ t k => XT.nullNo X.here K.1 rfl (hb K.2.1 hd) rfl hv hc k) (W2 hc)
theorem nonnul {o : Int} {v : Value} {pc' pn : Nat} (K : Cx EE R n0 nz p s m args meth c Z y code ml ret cI cJ) (hd : decode code pc = .ok (.ifnonnull o, 3)) (hv : v.isRef = true) (ho : 0 ≤ (pc : Int) + o) (hp : ((pc : Int) + o).toNat = pc') (hn : pc + 3 = pn)
    (W1 : ¬ v = .null → WP p l e R s m args below meth c EE n0 nz Q h cells slots pc' ls st) (W2 : v = .null → WP p l e R s m args below meth c EE n0 nz Q h cells slots pn ls st) : WP p l e R s m args below meth c EE n0 nz Q h cells slots pc ls (v :: st) := by
  subst hn
  by_cases hc : v = .null
  · exact WP.plain (fun T locs X _ t k => XT.nonnullNo X.here K.1 rfl (hb K.2.1 hd) rfl hc k) (W2 hc)
  · exact WP.plain (fun T locs X _ t k => XT.nonnullYes X.here K.1 rfl rfl (hb K.2.1 hd) rfl hv hc ho hp k) (W1 hc)
theorem acmp_eq {o : Int} {v v' : Value} {pc' pn : Nat} (K : Cx EE R n0 nz p s m args meth c Z y code ml ret cI cJ) (hd : decode code pc = .ok (.if_acmp .eq o, 3)) (hv : v.isRef = true) (hv' : v'.isRef = true) (ho : 0 ≤ (pc : Int) + o) (hp : ((pc : Int) + o).toNat = pc') (hn : pc + 3 = pn)
    (W1 : v = v' → WP p l e R s m args below meth c EE n0 nz Q h cells slots pc' ls st) (W2 : ¬ v = v' → WP p l e R s m args below meth c EE n0 nz Q h cells slots pn ls st) : WP p l e R s m args below meth c EE n0 nz Q h cells slots pc ls (v' :: v :: st) := by
  subst hn
  by_cases hc : v = v'
  · exact WP.plain (fun T locs X _ t k => XT.acmpYes X.here K.1 rfl rfl (hb K.2.1 hd) rfl hv hv' (XT.aa_eq_t hc) ho hp k) (W1 hc)
  · exact WP.plain (fun T locs X _ t k => XT.acmpNo X.here K.1 rfl (hb K.2.1 hd) rfl hv hv' (XT.aa_eq_f hc) k) (W2 hc)
theorem acmp_ne {o : Int} {v v' : Value} {pc' pn : Nat} (K : Cx EE R n0 nz p s m args meth c Z y code ml ret cI cJ) (hd : decode code pc = .ok (.if_acmp .ne o, 3)) (hv : v.isRef = true) (hv' : v'.isRef = true) (ho : 0 ≤ (pc : Int) + o) (hp : ((pc : Int) + o).toNat = pc') (hn : pc + 3 = pn)
    (W1 : ¬ v = v' → WP p l e R s m args below meth c EE n0 nz Q h cells slots pc' ls st) (W2 : v = v' → WP p l e R s m args below meth c EE n0 nz Q h cells slots pn ls st) : WP p l e R s m args below meth c EE n0 nz Q h cells slots pc ls (v' :: v :: st) := by
  subst hn
  by_cases hc : v = v'
  · exact WP.plain (fun T locs X _ t k => XT.acmpNo X.here K.1 rfl (hb K.2.1 hd) rfl hv hv' (XT.aa_ne_f hc) k) (W2 hc)
  · exact WP.plain (fun T locs X _ t k => XT.acmpYes X.here K.1 rfl rfl (hb K.2.1 hd) rfl hv hv' (XT.aa_ne_t hc) ho hp k) (W1 hc)
/-! ## quotients and remainders -/
theorem o_irem {a b : Int32} {pn : Nat} (K : Cx EE R n0 nz p s m args meth c Z y code ml ret cI cJ) (hd : decode code pc = .ok (.irem, 1)) (hn : pc + 1 = pn) (hy : b ≠ 0) (W : WP p l e R s m args below meth c EE n0 nz Q h cells slots pn ls (.int (a % b) :: st)) : WP p l e R s m args below meth c EE n0 nz Q h cells slots pc ls (.int b :: .int a :: st) := by
  subst hn; exact WP.plain (fun T locs X _ t k => iremM X K.1 rfl (hb K.2.1 hd) rfl hy k) W
theorem o_idiv {a b : Int32} {pn : Nat} (K : Cx EE R n0 nz p s m args meth c Z y code ml ret cI cJ) (hd : decode code pc = .ok (.idiv, 1)) (hn : pc + 1 = pn) (hy : b ≠ 0) (W : WP p l e R s m args below meth c EE n0 nz Q h cells slots pn ls (.int (a / b) :: st)) : WP p l e R s m args below meth c EE n0 nz Q h cells slots pc ls (.int b :: .int a :: st) := by
  subst hn; exact WP.plain (fun T locs X _ t k => XS.idiv X.here K.1 rfl (hb K.2.1 hd) rfl hy k) W
theorem o_lrem {a b : Int64} {pn : Nat} (K : Cx EE R n0 nz p s m args meth c Z y code ml ret cI cJ) (hd : decode code pc = .ok (.lrem, 1)) (hn : pc + 1 = pn) (hy : b ≠ 0) (W : WP p l e R s m args below meth c EE n0 nz Q h cells slots pn ls (.long (a % b) :: st)) : WP p l e R s m args below meth c EE n0 nz Q h cells slots pc ls (.long b :: .long a :: st) := by
  subst hn; exact WP.plain (fun T locs X _ t k => XT.lrem X.here K.1 rfl (hb K.2.1 hd) rfl hy (by rw [lrem_mod]; exact k)) W
theorem o_ldiv {a b : Int64} {pn : Nat} (K : Cx EE R n0 nz p s m args meth c Z y code ml ret cI cJ) (hd : decode code pc = .ok (.ldiv, 1)) (hn : pc + 1 = pn) (hy : b ≠ 0) (W : WP p l e R s m args below meth c EE n0 nz Q h cells slots pn ls (.long (a / b) :: st)) : WP p l e R s m args below meth c EE n0 nz Q h cells slots pc ls (.long b :: .long a :: st) := by
  subst hn; exact WP.plain (fun T locs X _ t k => XT.ldiv X.here K.1 rfl (hb K.2.1 hd) rfl hy k) W
/-! ## returns -/
theorem fin_of (X : Stand p l e R s m args below meth c T locs cells slots) (D : Ender EE s R n0 nz) (hlk : meth.locks = false) {v : Option Value} (hv : meth.sig.returnType = none → v = none) (hQ : Q v T.heap) (N : Fr n0 locs) (Z0 : nz ≤ T.heap.size) (hc : cells ≤ R.cells) (hs : slots ≤ R.slots) {t0 : State}
    (H : ∀ fs, (∀ (f : JFrame) (acts : List Action), f.method = m → f.locked = none → f.entered = [] → (doReturn e (T.setTop f) acts v).1 = T.setFrames fs) → Steps p.tables e below t0 (T.setFrames fs)) : FinW p e below EE Q t0 := by
  obtain ⟨fs, hr, hrun, hended, hE⟩ := D p l e m args below meth c T locs cells slots v X N Z0 hc hs hlk hv
  exact ⟨_, _, H fs hr, hrun, hended, v, locs, rfl, hQ, hE⟩
theorem ret_v {w : Value} {t : FieldType} {i : Instr} (K : Cx EE R n0 nz p s m args meth c Z y code ml (some t) cI cJ) (hd : decode code pc = .ok (i, 1)) (hn : narrow t w = w)
    (hi : (i = .ireturn ∧ (t = .int ∨ t = .boolean ∨ t = .byte ∨ t = .char ∨ t = .short) ∧ ∃ z, w = .int z) ∨ (i = .lreturn ∧ t = .long ∧ ∃ z, w = .long z) ∨ (i = .dreturn ∧ t = .double ∧ ∃ z, w = .double z) ∨ (i = .freturn ∧ t = .float ∧ ∃ z, w = .float z) ∨ (i = .areturn ∧ t.isReference = true ∧ w.isRef = true))
    (hc : cells ≤ R.cells) (hs : slots ≤ R.slots) (hQ : Q (some w) h) : WP p l e R s m args below meth c EE n0 nz Q h cells slots pc ls (w :: st) := by
  have D0 := K.en
  intro T locs X e0 N0 Z0
  subst e0
  obtain ⟨hx, hby, hml, hZ, hown, hnm, hret, hlk, -⟩ := K
  exact fin_of X D0 hlk (v := some w) (fun q => by rw [hret] at q; cases q) hQ N0 Z0 hc hs fun fs hr => retOut X hx hret hn hi (hb hby hd) hr
theorem ret_i {z : Int32} (K : Cx EE R n0 nz p s m args meth c Z y code ml (some .int) cI cJ) (hd : decode code pc = .ok (.ireturn, 1)) (hc : cells ≤ R.cells) (hs : slots ≤ R.slots) (hQ : Q (some (.int z)) h) : WP p l e R s m args below meth c EE n0 nz Q h cells slots pc ls (.int z :: st) :=
  ret_v K hd rfl (Or.inl ⟨rfl, Or.inl rfl, z, rfl⟩) hc hs hQ
theorem ret_z {z : Int32} (K : Cx EE R n0 nz p s m args meth c Z y code ml (some .boolean) cI cJ) (hd : decode code pc = .ok (.ireturn, 1)) (hz : z = 0 ∨ z = 1) (hc : cells ≤ R.cells) (hs : slots ≤ R.slots) (hQ : Q (some (.int z)) h) : WP p l e R s m args below meth c EE n0 nz Q h cells slots pc ls (.int z :: st) :=
  ret_v K hd (by rcases hz with rfl | rfl <;> rfl) (Or.inl ⟨rfl, Or.inr (Or.inl rfl), z, rfl⟩) hc hs hQ
theorem ret_n {z : Int32} {t : FieldType} (K : Cx EE R n0 nz p s m args meth c Z y code ml (some t) cI cJ) (hd : decode code pc = .ok (.ireturn, 1)) (ht : (t = .boolean ∨ t = .byte ∨ t = .char ∨ t = .short)) (hz : narrow t (.int z) = .int z) (hc : cells ≤ R.cells) (hs : slots ≤ R.slots) (hQ : Q (some (.int z)) h) : WP p l e R s m args below meth c EE n0 nz Q h cells slots pc ls (.int z :: st) :=
  ret_v K hd hz (Or.inl ⟨rfl, Or.inr ht, z, rfl⟩) hc hs hQ
theorem ret_j {z : Int64} (K : Cx EE R n0 nz p s m args meth c Z y code ml (some .long) cI cJ) (hd : decode code pc = .ok (.lreturn, 1)) (hc : cells ≤ R.cells) (hs : slots ≤ R.slots) (hQ : Q (some (.long z)) h) : WP p l e R s m args below meth c EE n0 nz Q h cells slots pc ls (.long z :: st) :=
  ret_v K hd rfl (Or.inr (Or.inl ⟨rfl, rfl, z, rfl⟩)) hc hs hQ
theorem ret_a {v : Value} {t : FieldType} (K : Cx EE R n0 nz p s m args meth c Z y code ml (some t) cI cJ) (hd : decode code pc = .ok (.areturn, 1)) (ht : t.isReference = true) (hv : v.isRef = true) (hc : cells ≤ R.cells) (hs : slots ≤ R.slots) (hQ : Q (some v) h) : WP p l e R s m args below meth c EE n0 nz Q h cells slots pc ls (v :: st) :=
  ret_v K hd (by cases t <;> first | rfl | cases ht) (Or.inr (Or.inr (Or.inr (Or.inr ⟨rfl, ht, hv⟩)))) hc hs hQ
theorem ret_0 (K : Cx EE R n0 nz p s m args meth c Z y code ml none cI cJ) (hd : decode code pc = .ok (.return_, 1)) (hc : cells ≤ R.cells) (hs : slots ≤ R.slots) (hQ : Q none h) : WP p l e R s m args below meth c EE n0 nz Q h cells slots pc ls [] := by
  have D0 := K.en
  intro T locs X e0 N0 Z0
  subst e0
  obtain ⟨hx, hby, hml, hZ, hown, hnm, hret, hlk, -⟩ := K
  exact fin_of X D0 hlk (v := none) (fun _ => rfl) hQ N0 Z0 hc hs fun fs hr => X.returnOut hx hret (hb hby hd) hr
end Body
/-! ## contracts -/
def Con (l : Launch) (Z : State) (n0 : Nat) (y : MethodName) (code : ByteArray) (ml : Nat) (ret : Option FieldType) (ws : List Jvm.Cond) (rm : Room) (as' : Array Value) (h : Heap) (Q : Option Value → Heap → Prop) : Prop :=
  ∀ nz : Nat, n0 ≤ nz → nz ≤ h.size → MetFree l y (head1 (Jvm.Cond.code y code ml ret :: ws) rm) (fun a U => a = as' ∧ Z.Warmed39 U.vm ∧ U.heap = h) (fun _ _ _ _ _ => True) (fun _ U o U' => ∃ v L, o = .returned v ∧ (Q v U'.heap ∧ Fr n0 L ∧ nz ≤ U'.heap.size) ∧ FrameEnd U o U' L rm.cells rm.slots)
theorem Con.of {l : Launch} {Z : State} {n0 : Nat} {y : MethodName} {code : ByteArray} {ml : Nat} {ret : Option FieldType} {ws : List Jvm.Cond} {rm : Room} {as' : Array Value} {h : Heap} {Q : Option Value → Heap → Prop} {a0 : Array Value} (cI : List (Nat × Int32)) (cJ : List (Nat × Int64)) (hp : plainFor y = true) (ent : List Slot) (he : ∀ m, entryFrame m as' ml = mkF m 0 ent.toArray [])
    (hI : ∀ q ∈ cI, (Jvm.Cond.constant y.cls q.1 q.2).before a0 Z = true) (hJ : ∀ q ∈ cJ, (Jvm.Cond.constantLong y.cls q.1 q.2).before a0 Z = true)
    (body : ∀ EE nz p e s m below meth c, Cx EE rm n0 nz p s m as' meth c Z y code ml ret cI cJ → WP p l e rm s m as' below meth c EE n0 nz Q h 0 0 0 ent []) : Con l Z n0 y code ml ret ws rm as' h Q := by
  intro nz hnz hn0
  refine MetFree.of_bodySF hp hisR ?_
  intro p e s m args below meth c s₁ Bd hml0 hP hK
  obtain ⟨rfl, hZ, hh⟩ := hP
  have X0 : Stand p l e rm s m args below meth c s₁ [] 0 0 := Stand.of_body Bd
  have e0 : s₁.heap = h := by rw [← hh, Bd.state]; rfl
  obtain ⟨t, o, h1, h2, h3, v, L, e1, hQ, ⟨hF, hN⟩, hE⟩ := body (NE n0 nz s rm) nz p e s m below meth c ⟨Bd.exec, Bd.bytes, hml0, hZ, findClass_of_methodNamed Bd.named, (name_of_methodNamed Bd.named Bd.method).1, Bd.returns, BodyLoose.notSynchronized Bd, fun q hq => mv (State.Warmed39.refl Z) (hI q hq), fun q hq => mv (State.Warmed39.refl Z) (hJ q hq), hnz, NE.ender n0 nz s rm⟩ s₁ [] X0 e0 (Fr.nil n0) hn0
  exact ⟨t, o, castTop (he m) h1, h2, h3, v, L, e1, ⟨hQ, hF, hN⟩, hE⟩
/-- a contract of a body that may intern, where nothing has been interned since the case's start -/
def ConS (l : Launch) (Z : State) (n0 : Nat) (y : MethodName) (code : ByteArray) (ml : Nat) (ret : Option FieldType) (ws : List Jvm.Cond) (rm : Room) (as' : Array Value) (h : Heap) (Q : Option Value → Heap → Prop) : Prop :=
  ∀ nz : Nat, n0 ≤ nz → nz ≤ h.size → MetFree l y (head1 (Jvm.Cond.code y code ml ret :: ws) rm) (fun a U => a = as' ∧ Z.Warmed39 U.vm ∧ U.heap = h ∧ U.vm.interned = Z.vm.interned) (fun _ _ _ _ _ => True) (fun _ U o U' => ∃ v L, o = .returned v ∧ (Q v U'.heap ∧ Fr n0 L ∧ nz ≤ U'.heap.size) ∧ ReturnedEndW U o U' L rm.cells rm.slots)
theorem ConS.of {l : Launch} {Z : State} {n0 : Nat} {y : MethodName} {code : ByteArray} {ml : Nat} {ret : Option FieldType} {ws : List Jvm.Cond} {rm : Room} {as' : Array Value} {h : Heap} {Q : Option Value → Heap → Prop} {a0 : Array Value} (cI : List (Nat × Int32)) (cJ : List (Nat × Int64)) (hp : plainFor y = true) (ent : List Slot) (he : ∀ m, entryFrame m as' ml = mkF m 0 ent.toArray [])
    (hI : ∀ q ∈ cI, (Jvm.Cond.constant y.cls q.1 q.2).before a0 Z = true) (hJ : ∀ q ∈ cJ, (Jvm.Cond.constantLong y.cls q.1 q.2).before a0 Z = true)
    (body : ∀ EE nz p e s m below meth c, n0 ≤ h.size → s.heap = h → s.vm.interned = Z.vm.interned → Wd s EE rm n0 nz s h.size → Cx EE rm h.size h.size p s m as' meth c Z y code ml ret cI cJ → WP p l e rm s m as' below meth c EE h.size h.size Q h 0 0 0 ent []) : ConS l Z n0 y code ml ret ws rm as' h Q := by
  intro nz hnz hn0
  refine MetFree.of_bodySF hp hisR ?_
  intro p e s m args below meth c s₁ Bd hml0 hP hK
  obtain ⟨rfl, hZ, hh, hni⟩ := hP
  have X0 : Stand p l e rm s m args below meth c s₁ [] 0 0 := Stand.of_body Bd
  have e0 : s₁.heap = h := by rw [← hh, Bd.state]; rfl
  have D0 : Wd s (WE n0 nz s rm) rm n0 nz s h.size := Wd.start s rm n0 nz h.size hn0
  obtain ⟨t, o, h1, h2, h3, v, L, e1, hQ, ⟨hF, hN⟩, hE⟩ := body (WE n0 nz s rm) nz p e s m below meth c (Nat.le_trans hnz hn0) hh hni D0 ⟨Bd.exec, Bd.bytes, hml0, hZ, findClass_of_methodNamed Bd.named, (name_of_methodNamed Bd.named Bd.method).1, Bd.returns, BodyLoose.notSynchronized Bd, fun q hq => mv (State.Warmed39.refl Z) (hI q hq), fun q hq => mv (State.Warmed39.refl Z) (hJ q hq), Nat.le_refl _, D0.ender (Nat.le_trans hnz hn0)⟩ s₁ [] X0 e0 (Fr.nil _) (Nat.le_refl _)
  exact ⟨t, o, castTop (he m) h1, h2, h3, v, L, e1, ⟨hQ, hF, hN⟩, hE⟩
theorem nilI {α : Type} {P : α → Prop} : ∀ q ∈ ([] : List α), P q := fun _ h => nomatch h
theorem consI {α : Type} {P : α → Prop} {a : α} {L : List α} (h : P a) (hl : ∀ q ∈ L, P q) : ∀ q ∈ a :: L, P q := fun q hq => (List.mem_cons.mp hq).elim (fun e => e ▸ h) (hl q)
section Calls
variable {p : Program} {l : Launch} {e : Env} {R : Room} {s : State} {m : MethodId} {args : Array Value} {below : List Frame} {meth : Method} {c : Code} {cells slots : Nat} {Z : State} {a0 : Array Value} {h : Heap} {y : MethodName} {code : ByteArray} {ml : Nat} {ret : Option FieldType} {cI : List (Nat × Int32)} {cJ : List (Nat × Int64)} {EE : Outcome → State → List Loc → Prop} {n0 nz : Nat} {Q : Option Value → Heap → Prop} {pc pn : Nat} {ls : List Slot} {st : List Value}
theorem call_s {y' : MethodName} {code' : ByteArray} {ml' : Nat} {ret' : Option FieldType} {rm : Room} {as' : Array Value} {Q' : Option Value → Heap → Prop} {idx : Nat} {ps : List FieldType} {rt : Option FieldType}
    (K : Cx EE R n0 nz p s m args meth c Z y code ml ret cI cJ) (w1 : (Jvm.Cond.methodLink y.cls idx y').before a0 Z = true) (w2 : (Jvm.Cond.static y').before a0 Z = true) (w3 : (Jvm.Cond.initialized y'.cls).before a0 Z = true) (w4 : (Jvm.Cond.code y' code' ml' ret').before a0 Z = true)
    (C : Con l Z n0 y' code' ml' ret' [] rm as' h Q') (hd : decode code pc = .ok (.invokestatic idx, 3)) (hn : pc + 3 = pn) (hls : ls.length = ml) (argsL : List Value) (rest : List Value) (has : argsL.toArray = as') (hst : st = argsL.reverse ++ rest) (hpd : parseMethodDescriptor y'.desc = some ⟨ps, rt⟩) (hlen : argsL.length = ps.length)
    (hy : y'.cls ≠ "java/lang/invoke/MethodHandle" ∧ y'.cls ≠ "java/lang/invoke/VarHandle") (W : Nat) (hW : (rest.map fun v => v.category).sum ≤ W) (hf : rm.frames + 1 ≤ R.frames) (hl : W + (ml' + 11) + rm.locals ≤ R.locals) (hcl : cells + rm.cells ≤ R.cells) (hsl : slots + rm.slots ≤ R.slots)
    (next : ∀ v h', Q' v h' → WP p l e R s m args below meth c EE n0 nz Q h' (cells + rm.cells) (slots + rm.slots) pn ls (v.toList ++ rest)) : WP p l e R s m args below meth c EE n0 nz Q h cells slots pc ls st := by
  intro T locs X e0 N0 Z0
  obtain ⟨hx, hby, hml, hZ, hown, -⟩ := id K
  subst has hn
  obtain ⟨v, _, ⟨T', L', k', n'⟩, -, X', ⟨Lc, ⟨hQ, hN, hS⟩, l1, y1, z1⟩, st1⟩ := Jvm.LawKit.callS X hx (y := y') hown (mvT hZ w1) (mvT hZ w2) (mvT hZ w3) (mvT hZ w4) hy (backOf (W := W) (Q := fun v hp L => Q' v hp ∧ Fr n0 L ∧ nz ≤ hp.size) (C nz K.hnz Z0) hZ w4 w3 hf hl) (g := mkF m pc ls.toArray st) rfl (by rw [hml]; simpa using hls) (argsL := argsL) (rest := rest) (lenOf hpd hlen) hst (by show 2 * 0 + _ ≤ _; omega) (hb hby hd) (fun _ _ => ⟨rfl, e0, hcl, hsl⟩)
  dsimp only [Pt.U, Pt.locs, Pt.cells, Pt.slots] at X' l1 y1 z1 st1 hQ hN hS
  subst l1 y1 z1
  obtain ⟨t, o, g1, g2⟩ := next v _ hQ T' _ X' rfl (Fr.app N0 hN) hS
  exact ⟨t, o, st1 _ g1, g2⟩
theorem call_i {y' : MethodName} {code' : ByteArray} {ml' : Nat} {rm : Room} {as' : Array Value} {Q' : Option Value → Heap → Prop} {idx : Nat} {ps : List FieldType} {rt : Option FieldType} {a : Addr}
    (K : Cx EE R n0 nz p s m args meth c Z y code ml ret cI cJ) (hy1 : y'.name = "<init>") (w1 : (Jvm.Cond.methodLink y.cls idx y').before a0 Z = true) (w2 : (Jvm.Cond.instanceMethod y').before a0 Z = true) (w3 : (Jvm.Cond.initialized y'.cls).before a0 Z = true) (w4 : (Jvm.Cond.code y' code' ml' none).before a0 Z = true)
    (C : Con l Z n0 y' code' ml' none [] rm as' h Q') (hd : decode code pc = .ok (.invokespecial idx, 3)) (hn : pc + 3 = pn) (hls : ls.length = ml) (argsL : List Value) (rest : List Value) (has : (Value.ref a :: argsL).toArray = as') (hst : st = argsL.reverse ++ .ref a :: rest) (hpd : parseMethodDescriptor y'.desc = some ⟨ps, rt⟩) (hlen : argsL.length = ps.length)
    (hy : y'.cls ≠ "java/lang/invoke/MethodHandle" ∧ y'.cls ≠ "java/lang/invoke/VarHandle") (W : Nat) (hW : (rest.map fun v => v.category).sum ≤ W) (hf : rm.frames + 1 ≤ R.frames) (hl : W + (ml' + 11) + rm.locals ≤ R.locals) (hcl : cells + rm.cells ≤ R.cells) (hsl : slots + rm.slots ≤ R.slots)
    (next : ∀ v h', Q' v h' → WP p l e R s m args below meth c EE n0 nz Q h' (cells + rm.cells) (slots + rm.slots) pn ls (v.toList ++ rest)) : WP p l e R s m args below meth c EE n0 nz Q h cells slots pc ls st := by
  intro T locs X e0 N0 Z0
  obtain ⟨hx, hby, hml, hZ, hown, -⟩ := id K
  subst has hn
  obtain ⟨v, _, ⟨T', L', k', n'⟩, -, X', ⟨Lc, ⟨hQ, hN, hS⟩, l1, y1, z1⟩, st1⟩ := X.specialBack hx (y := y') hy1 hown (mvT hZ w1) (mvT hZ w2) (mvT hZ w4) hy (backOf (W := W) (Q := fun v hp L => Q' v hp ∧ Fr n0 L ∧ nz ≤ hp.size) (C nz K.hnz Z0) hZ w4 w3 hf hl) (g := mkF m pc ls.toArray st) rfl (by rw [hml]; simpa using hls) (Steps.refl _) (a := a) (argsL := argsL) (rest := rest) (lenOf hpd hlen) hst (by show 2 * 0 + _ ≤ _; omega) (hb hby hd) (fun _ _ => ⟨rfl, e0, hcl, hsl⟩)
  dsimp only [Pt.U, Pt.locs, Pt.cells, Pt.slots] at X' l1 y1 z1 st1 hQ hN hS
  subst l1 y1 z1
  obtain ⟨t, o, g1, g2⟩ := next v _ hQ T' _ X' rfl (Fr.app N0 hN) hS
  exact ⟨t, o, st1.trans g1, g2⟩
theorem call_v {y1' y' : MethodName} {D : String} {code' : ByteArray} {ml' : Nat} {ret' : Option FieldType} {rm : Room} {as' : Array Value} {Q' : Option Value → Heap → Prop} {idx : Nat} {ps : List FieldType} {rt : Option FieldType} {a : Addr}
    (K : Cx EE R n0 nz p s m args meth c Z y code ml ret cI cJ) (w1 : (Jvm.Cond.methodLink y.cls idx y1').before a0 Z = true) (w2 : (Jvm.Cond.declares y1').before a0 Z = true) (w5 : (Jvm.Cond.selects D y1' y').before a0 Z = true) (w6 : (Jvm.Cond.instanceMethod y').before a0 Z = true) (w3 : (Jvm.Cond.initialized y'.cls).before a0 Z = true) (w4 : (Jvm.Cond.code y' code' ml' ret').before a0 Z = true) (E : Exa Z h a D)
    (C : Con l Z n0 y' code' ml' ret' [] rm as' h Q') (hd : decode code pc = .ok (.invokevirtual idx, 3)) (hn : pc + 3 = pn) (hls : ls.length = ml) (argsL : List Value) (rest : List Value) (has : (Value.ref a :: argsL).toArray = as') (hst : st = argsL.reverse ++ .ref a :: rest) (hpd : parseMethodDescriptor y1'.desc = some ⟨ps, rt⟩) (hlen : argsL.length = ps.length)
    (hnf : ∀ s' : State, (Jvm.Cond.selects D y1' y').before #[] s' = true → NotFace s' y1') (hy : y1'.cls ≠ "java/lang/invoke/MethodHandle" ∧ y1'.cls ≠ "java/lang/invoke/VarHandle") (W : Nat) (hW : (rest.map fun v => v.category).sum ≤ W) (hf : rm.frames + 1 ≤ R.frames) (hl : W + (ml' + 11) + rm.locals ≤ R.locals) (hcl : cells + rm.cells ≤ R.cells) (hsl : slots + rm.slots ≤ R.slots)
    (next : ∀ v h', Q' v h' → WP p l e R s m args below meth c EE n0 nz Q h' (cells + rm.cells) (slots + rm.slots) pn ls (v.toList ++ rest)) : WP p l e R s m args below meth c EE n0 nz Q h cells slots pc ls st := by
  intro T locs X e0 N0 Z0
  obtain ⟨hx, hby, hml, hZ, hown, -⟩ := id K
  subst has hn
  obtain ⟨cq, kq, q1, q2, q3⟩ := isOf hZ e0 E
  obtain ⟨v, _, ⟨T', L', k', n'⟩, -, X', ⟨Lc, ⟨hQ, hN, hS⟩, l1, y1, z1⟩, st1⟩ := X.virtualBack hx (y := y1') (z := y') hown (mvT hZ w1) (mvT hZ w2) (hnf _ (mvT hZ w5)) (mvT hZ w5) (mvT hZ w6) hy (backOf (W := W) (Q := fun v hp L => Q' v hp ∧ Fr n0 L ∧ nz ≤ hp.size) (C nz K.hnz Z0) hZ w4 w3 hf hl) q1 q3 (g := mkF m pc ls.toArray st) rfl (by rw [hml]; simpa using hls) (Steps.refl _) (argsL := argsL) (rest := rest) (lenOf hpd hlen) hst (by show 2 * 0 + _ ≤ _; omega) (hb hby hd) (fun _ _ => ⟨rfl, e0, hcl, hsl⟩)
  dsimp only [Pt.U, Pt.locs, Pt.cells, Pt.slots] at X' l1 y1 z1 st1 hQ hN hS
  subst l1 y1 z1
  obtain ⟨t, o, g1, g2⟩ := next v _ hQ T' _ X' rfl (Fr.app N0 hN) hS
  exact ⟨t, o, st1.trans g1, g2⟩
/-! ## fields, objects, arrays -/
theorem f_init {idx : Nat} {a : Addr} (K : Cx EE R n0 nz p s m args meth c Z y code ml ret cI cJ) (w1 : (Jvm.Cond.methodLink y.cls idx Lib.objectInit).before a0 Z = true) (w2 : (Jvm.Cond.instanceMethod Lib.objectInit).before a0 Z = true) (w3 : (Jvm.Cond.code Lib.objectInit ⟨#[0xb1]⟩ 1 none).before a0 Z = true)
    (hd : decode code pc = .ok (.invokespecial idx, 3)) (hn : pc + 3 = pn) (hls : ls.length = ml) (hf : 1 ≤ R.frames) (hl : (st.map fun v => v.category).sum + 12 ≤ R.locals) (W : WP p l e R s m args below meth c EE n0 nz Q h cells slots pn ls st) : WP p l e R s m args below meth c EE n0 nz Q h cells slots pc ls (.ref a :: st) := by
  subst hn
  obtain ⟨hx, hby, hml, hZ, hown, -⟩ := K
  refine WP.step (fun T locs X e0 N0 Z0 => ?_) W
  obtain ⟨T', X', e', st'⟩ := initO X hx hZ hown w1 w2 w3 e0 (g := mkF m pc ls.toArray (.ref a :: st)) rfl (by rw [hml]; simpa using hls) rfl (hb hby hd) hf (W := (st.map fun v => v.category).sum) (by show 2 * 0 + _ ≤ _; omega) hl
  exact ⟨T', locs, X', e', N0, Z0, st'⟩
theorem f_get {R0 O n d host : String} {idx : Nat} {a : Addr} {v : Value} (K : Cx EE R n0 nz p s m args meth c Z y code ml ret cI cJ) (w : (Jvm.Cond.fieldLink y.cls idx R0 n d).before a0 Z = true ∨ (Jvm.Cond.fieldLinkNest y.cls idx R0 n d host).before a0 Z = true) (via : Via Z R0 O n d) (F : Fld Z h a O n d v) (hd : decode code pc = .ok (.getfield idx, 3)) (hn : pc + 3 = pn)
    (W : WP p l e R s m args below meth c EE n0 nz Q h cells slots pn ls (v :: st)) : WP p l e R s m args below meth c EE n0 nz Q h cells slots pc ls (.ref a :: st) := by
  subst hn
  obtain ⟨hx, hby, hml, hZ, hown, -⟩ := K
  refine WP.step (fun T locs X e0 N0 Z0 => ?_) W
  obtain ⟨T', X', e', st'⟩ := getF X hx hZ hown w via e0 F (g := mkF m pc ls.toArray (.ref a :: st)) rfl rfl (hb hby hd)
  exact ⟨T', locs, X', e', N0, Z0, st'⟩
theorem f_put {R0 O n d host C : String} {idx kk : Nat} {ty : FieldType} {a : Addr} {v old : Value} (K : Cx EE R n0 nz p s m args meth c Z y code ml ret cI cJ) (w : (Jvm.Cond.fieldLink y.cls idx R0 n d).before a0 Z = true ∨ (Jvm.Cond.fieldLinkNest y.cls idx R0 n d host).before a0 Z = true) (via : Via Z R0 O n d) (F : Fld Z h a O n d old) (E : Exa Z h a C)
    (L : (Jvm.Cond.lays C O n d).before a0 Z = true ∨ ((Jvm.Cond.laysFinal C O n d).before a0 Z = true ∧ y.cls = O ∧ y.name = "<init>")) (wi : (Jvm.Cond.instantiable C kk).before a0 Z = true) (hty : parseFieldDescriptor d = some ty) (hnw : narrow ty v = v) (hf : fits ty v = true) (hd : decode code pc = .ok (.putfield idx, 3)) (hn : pc + 3 = pn) (hg : n0 ≤ a)
    (W : ∀ h', Wr h h' a (Jvm.RoadKit.slotOf Z O n d) v → WP p l e R s m args below meth c EE n0 nz Q h' cells slots pn ls st) : WP p l e R s m args below meth c EE n0 nz Q h cells slots pc ls (v :: .ref a :: st) := by
  subst hn
  obtain ⟨hx, hby, hml, hZ, hown, hnm, -⟩ := K
  intro T locs X e0 N0 Z0
  obtain ⟨T', h', X', e', Wr', st'⟩ := putF X hx hZ hown w via e0 F E (L.imp id fun q => ⟨q.1, q.2.1, hnm.trans q.2.2⟩) wi hty hnw hf (g := mkF m pc ls.toArray (v :: .ref a :: st)) rfl rfl (hb hby hd)
  obtain ⟨t, o, g1, g2⟩ := W h' Wr' T' _ X' e' (Fr.snoc X' N0 hg) (by rw [Wr'.size]; exact Z0)
  exact ⟨t, o, st' _ g1, g2⟩
theorem f_new {C : String} {idx n : Nat} (K : Cx EE R n0 nz p s m args meth c Z y code ml ret cI cJ) (w : (Jvm.Cond.classLink y.cls idx C).before a0 Z = true) (wi : (Jvm.Cond.instantiable C n).before a0 Z = true) (wz : (Jvm.Cond.initialized C).before a0 Z = true) (hd : decode code pc = .ok (.new idx, 3)) (hn : pc + 3 = pn) (hc : cells + 1 ≤ R.cells) (hl : slots + n ≤ R.slots)
    (W : ∀ h' a, a = h.size → n0 ≤ a → Ext h h' → Exa Z h' a C → (∀ {O nm d : String} {ty : FieldType}, Laid Z a0 C O nm d → parseFieldDescriptor d = some ty → Fld Z h' a O nm d (defaultValue ty)) → WP p l e R s m args below meth c EE n0 nz Q h' (cells + 1) (slots + n) pn ls (.ref a :: st)) : WP p l e R s m args below meth c EE n0 nz Q h cells slots pc ls st := by
  have K0 := K.hnz
  subst hn
  obtain ⟨hx, hby, hml, hZ, hown, hnm, -⟩ := K
  intro T locs X e0 N0 Z0
  obtain ⟨T', h', X', e', E, A, D, -, st'⟩ := newO X hx hZ hown w wi wz e0 (g := mkF m pc ls.toArray st) rfl (hb hby hd) hc hl
  obtain ⟨t, o, g1, g2⟩ := W h' _ rfl (Nat.le_trans K0 Z0) E A D T' _ X' e' N0 (Nat.le_trans Z0 E.1)
  exact ⟨t, o, st' _ g1, g2⟩
theorem call_p {y' : MethodName} {code' : ByteArray} {ml' : Nat} {ret' : Option FieldType} {rm : Room} {as' : Array Value} {Q' : Option Value → Heap → Prop} {idx : Nat} {ps : List FieldType} {rt : Option FieldType} {a : Addr} {D : String}
    (K : Cx EE R n0 nz p s m args meth c Z y code ml ret cI cJ) (w1 : (Jvm.Cond.methodLink y.cls idx y').before a0 Z = true) (w2 : (Jvm.Cond.instanceMethod y').before a0 Z = true) {kk : Nat} (w5 : (Jvm.Cond.instantiable y'.cls kk).before a0 Z = true) (w6 : (Jvm.Cond.privateMethod y').before a0 Z = true) (w3 : (Jvm.Cond.initialized y'.cls).before a0 Z = true) (w4 : (Jvm.Cond.code y' code' ml' ret').before a0 Z = true) (E : Exa Z h a D)
    (C : Con l Z n0 y' code' ml' ret' [] rm as' h Q') (hd : decode code pc = .ok (.invokevirtual idx, 3)) (hn : pc + 3 = pn) (hls : ls.length = ml) (argsL : List Value) (rest : List Value) (has : (Value.ref a :: argsL).toArray = as') (hst : st = argsL.reverse ++ .ref a :: rest) (hpd : parseMethodDescriptor y'.desc = some ⟨ps, rt⟩) (hlen : argsL.length = ps.length)
    (hy : y'.cls ≠ "java/lang/invoke/MethodHandle" ∧ y'.cls ≠ "java/lang/invoke/VarHandle") (W : Nat) (hW : (rest.map fun v => v.category).sum ≤ W) (hf : rm.frames + 1 ≤ R.frames) (hl : W + (ml' + 11) + rm.locals ≤ R.locals) (hcl : cells + rm.cells ≤ R.cells) (hsl : slots + rm.slots ≤ R.slots)
    (next : ∀ v h', Q' v h' → WP p l e R s m args below meth c EE n0 nz Q h' (cells + rm.cells) (slots + rm.slots) pn ls (v.toList ++ rest)) : WP p l e R s m args below meth c EE n0 nz Q h cells slots pc ls st := by
  intro T locs X e0 N0 Z0
  obtain ⟨hx, hby, hml, hZ, hown, -⟩ := id K
  subst has hn
  obtain ⟨cq, q1, q2⟩ := E.cell
  obtain ⟨ci, ki, i1, i2, -, i4, -⟩ := Cond.instantiable_spec (mvT (args := args) hZ w5)
  have hsel : (Jvm.Cond.selects y'.cls y' y').before args s = true := selects_self_of_private i1 i2 (Bool.or_eq_false_iff.mp i4).1 (Cond.privateMethod_at (mvP hZ w6 (args := #[]))) (mvT hZ w2) hy
  obtain ⟨v, _, ⟨T', L', k', n'⟩, -, X', ⟨Lc, ⟨hQ, hN, hS⟩, l1, y1, z1⟩, st1⟩ := X.privateBack hx (y := y') hown (mvT hZ w1) (mvT hZ w2) hsel (Cond.privateMethod_at (mvP hZ w6 (args := #[]))) (mvT hZ w4) hy (backOf (W := W) (Q := fun v hp L => Q' v hp ∧ Fr n0 L ∧ nz ≤ hp.size) (C nz K.hnz Z0) hZ w4 w3 hf hl) (g := mkF m pc ls.toArray st) rfl (by rw [hml]; simpa using hls) (Steps.refl _) (a := a) (by rw [e0]; exact q1) q2 (argsL := argsL) (rest := rest) (lenOf hpd hlen) hst (by show 2 * 0 + _ ≤ _; omega) (hb hby hd) (fun _ _ => ⟨rfl, e0, hcl, hsl⟩)
  dsimp only [Pt.U, Pt.locs, Pt.cells, Pt.slots] at X' l1 y1 z1 st1 hQ hN hS
  subst l1 y1 z1
  obtain ⟨t, o, g1, g2⟩ := next v _ hQ T' _ X' rfl (Fr.app N0 hN) hS
  exact ⟨t, o, st1.trans g1, g2⟩
theorem f_putn {R0 O n d C : String} {idx kk : Nat} {ty : FieldType} {a : Addr} {v v' old : Value} (K : Cx EE R n0 nz p s m args meth c Z y code ml ret cI cJ) (w : (Jvm.Cond.fieldLink y.cls idx R0 n d).before a0 Z = true) (via : Via Z R0 O n d) (F : Fld Z h a O n d old) (E : Exa Z h a C)
    (L : (Jvm.Cond.lays C O n d).before a0 Z = true ∨ ((Jvm.Cond.laysFinal C O n d).before a0 Z = true ∧ y.cls = O ∧ y.name = "<init>")) (wi : (Jvm.Cond.instantiable C kk).before a0 Z = true) (hty : parseFieldDescriptor d = some ty) (hnw : narrow ty v = v') (hf : fits ty v' = true) (hd : decode code pc = .ok (.putfield idx, 3)) (hn : pc + 3 = pn) (hg : n0 ≤ a)
    (W : ∀ h', Wr h h' a (Jvm.RoadKit.slotOf Z O n d) v' → WP p l e R s m args below meth c EE n0 nz Q h' cells slots pn ls st) : WP p l e R s m args below meth c EE n0 nz Q h cells slots pc ls (v :: .ref a :: st) := by
  subst hn
  obtain ⟨hx, hby, hml, hZ, hown, hnm, -⟩ := K
  intro T locs X e0 N0 Z0
  obtain ⟨T', h', X', e', Wr', st'⟩ := putFN X hx hZ hown w via e0 F E (L.imp id fun q => ⟨q.1, q.2.1, hnm.trans q.2.2⟩) wi hty hnw hf (g := mkF m pc ls.toArray (v :: .ref a :: st)) rfl rfl (hb hby hd)
  obtain ⟨t, o, g1, g2⟩ := W h' Wr' T' _ X' e' (Fr.snoc X' N0 hg) (by rw [Wr'.size]; exact Z0)
  exact ⟨t, o, st' _ g1, g2⟩
theorem f_sta {R0 O n d host : String} {idx : Nat} {v : Value} (K : Cx EE R n0 nz p s m args meth c Z y code ml ret cI cJ) (w : (Jvm.Cond.fieldLink y.cls idx R0 n d).before a0 Z = true ∨ (Jvm.Cond.fieldLinkNest y.cls idx R0 n d host).before a0 Z = true) (via : Via Z R0 O n d) (F : Sta Z h O n d v) (hd : decode code pc = .ok (.getstatic idx, 3)) (hn : pc + 3 = pn)
    (W : WP p l e R s m args below meth c EE n0 nz Q h cells slots pn ls (v :: st)) : WP p l e R s m args below meth c EE n0 nz Q h cells slots pc ls st := by
  subst hn
  obtain ⟨hx, hby, hml, hZ, hown, -⟩ := K
  refine WP.step (fun T locs X e0 N0 Z0 => ?_) W
  obtain ⟨T', X', e', st'⟩ := getS2 X hx hZ hown w via e0 F (g := mkF m pc ls.toArray st) rfl (hb hby hd)
  exact ⟨T', locs, X', e', N0, Z0, st'⟩
/-! arrays: their elements as a list -/
/-- the array's class by its name, where it is no byte[] -/
def ExaQ (Z : State) (h : Heap) (a : Addr) (C : String) : Prop := C ≠ "[B" → Exa Z h a C
theorem ExaQ.ext {Z : State} {h h' : Heap} {a : Addr} {C : String} (q : ExaQ Z h a C) (E : Ext h h') : ExaQ Z h' a C := fun n => (q n).ext E
theorem ExaQ.wr {Z : State} {h h' : Heap} {a b : Addr} {C : String} {sl : Nat} {v : Value} (q : ExaQ Z h b C) (W : Wr h h' a sl v) : ExaQ Z h' b C := fun n => (q n).wr W
theorem ExaQ.keep {Z : State} {h h' : Heap} {a : Addr} {C : String} {ws : List Addr} (q : ExaQ Z h a C) (K : Keep h h' ws) : ExaQ Z h' a C := fun n => (q n).keep K
def Ars (Z : State) (h : Heap) (a : Addr) (ty : FieldType) (vs : List Value) : Prop := (∃ cl : Cell, Arr Z h a cl ty ∧ cl.slots = vs.toArray) ∧ ExaQ Z h a ("[" ++ ty.toString)
theorem Ars.ext {h' : Heap} {a : Addr} {ty : FieldType} {vs : List Value} (F : Ars Z h a ty vs) (E : Ext h h') : Ars Z h' a ty vs := by obtain ⟨⟨cl, A, r⟩, q⟩ := F; exact ⟨⟨cl, A.ext E, r⟩, q.ext E⟩
theorem Ars.other {h' : Heap} {a b : Addr} {sl : Nat} {v : Value} {ty : FieldType} {vs : List Value} (F : Ars Z h b ty vs) (W : Wr h h' a sl v) (q : b ≠ a) : Ars Z h' b ty vs := by obtain ⟨⟨cl, A, r⟩, z⟩ := F; exact ⟨⟨cl, A.other W q, r⟩, z.wr W⟩
theorem Ars.same {h' : Heap} {a : Addr} {sl : Nat} {v : Value} {ty : FieldType} {vs : List Value} (F : Ars Z h a ty vs) (W : Wr h h' a sl v) : Ars Z h' a ty (vs.set sl v) := by
  obtain ⟨⟨cl, A, r⟩, z⟩ := F; exact ⟨⟨_, A.same W, by show cl.slots.setIfInBounds sl v = _; rw [r]; simp⟩, z.wr W⟩
theorem Ars.keep {h' : Heap} {a : Addr} {ws : List Addr} {ty : FieldType} {vs : List Value} (F : Ars Z h a ty vs) (K : Keep h h' ws) (q : a ∉ ws) : Ars Z h' a ty vs := by obtain ⟨⟨cl, A, r⟩, z⟩ := F; exact ⟨⟨cl, ⟨K.2.1 a cl A.1 q, A.2⟩, r⟩, z.keep K⟩
theorem Ars.lt {a : Addr} {ty : FieldType} {vs : List Value} (F : Ars Z h a ty vs) : a < h.size := by obtain ⟨⟨cl, A, -⟩, -⟩ := F; exact A.lt
theorem f_newarr {aty : ArrayType} {n : Int32} (K : Cx EE R n0 nz p s m args meth c Z y code ml ret cI cJ) (w : (Jvm.Cond.arrayClass (newarray.typeOf aty)).before a0 Z = true) (hd : decode code pc = .ok (.newarray aty, 2)) (hn : pc + 2 = pn) (hn0 : ¬ n < 0) (cap : Nat) (hcap : n.toNatClampNeg ≤ cap) (hb' : cap * 8 ≤ 536870912) (hc : cells + 1 ≤ R.cells) (hl : slots + cap ≤ R.slots)
    (W : ∀ h' a, a = h.size → n0 ≤ a → Ext h h' → Ars Z h' a (newarray.typeOf aty) (List.replicate n.toNatClampNeg (defaultValue (newarray.typeOf aty))) → WP p l e R s m args below meth c EE n0 nz Q h' (cells + 1) (slots + cap) pn ls (.ref a :: st)) : WP p l e R s m args below meth c EE n0 nz Q h cells slots pc ls (.int n :: st) := by
  have K0 := K.hnz
  subst hn
  obtain ⟨hx, hby, hml, hZ, hown, hnm, -⟩ := K
  intro T locs X e0 N0 Z0
  obtain ⟨T', h', cA, X', e', E, A, A2, st'⟩ := newPE X hx hZ w e0 (g := mkF m pc ls.toArray (.int n :: st)) rfl (hb hby hd) rfl hn0 hcap hb' hc hl rfl
  obtain ⟨t, o, g1, g2⟩ := W h' _ rfl (Nat.le_trans K0 Z0) E ⟨⟨_, A, by simp [newA]⟩, fun _ => A2⟩ T' _ X' e' N0 (Nat.le_trans Z0 E.1)
  exact ⟨t, o, st' _ g1, g2⟩
theorem idx_ok {vs : List Value} {cl : Cell} {j : Int32} (r : cl.slots = vs.toArray) (h0 : ¬ j < 0) (h1 : j.toNatClampNeg < vs.length) : ¬ (j < 0 ∨ cl.slots.size ≤ j.toNatClampNeg) := by rw [r]; simp; exact ⟨by simpa using h0, h1⟩
theorem f_len {a : Addr} {ty : FieldType} {vs : List Value} (K : Cx EE R n0 nz p s m args meth c Z y code ml ret cI cJ) (F : Ars Z h a ty vs) (hd : decode code pc = .ok (.arraylength, 1)) (hn : pc + 1 = pn) (W : WP p l e R s m args below meth c EE n0 nz Q h cells slots pn ls (.int vs.length.toInt32 :: st)) : WP p l e R s m args below meth c EE n0 nz Q h cells slots pc ls (.ref a :: st) := by
  subst hn
  obtain ⟨hx, hby, hml, hZ, hown, hnm, -⟩ := K
  obtain ⟨⟨cl, A, r⟩, -⟩ := F
  have e1 : vs.length = cl.slots.size := by rw [r]; simp
  rw [e1] at W
  exact WP.plain (fun T locs X e0 t k => X.arraylength hx (by rw [e0]; exact A.1) (State.isArrayOf_alike hZ.alike A.2.1) (g := mkF m pc ls.toArray (.ref a :: st)) rfl rfl (hb hby hd) _ k) W
theorem f_ld_i {a : Addr} {vs : List Value} {j : Int32} {v : Value} (K : Cx EE R n0 nz p s m args meth c Z y code ml ret cI cJ) (F : Ars Z h a .int vs) (hd : decode code pc = .ok (.iaload, 1)) (hn : pc + 1 = pn) (h0 : ¬ j < 0) (hv : vs[j.toNatClampNeg]? = some v) (W : WP p l e R s m args below meth c EE n0 nz Q h cells slots pn ls (v :: st)) : WP p l e R s m args below meth c EE n0 nz Q h cells slots pc ls (.int j :: .ref a :: st) := by
  subst hn
  obtain ⟨hx, hby, hml, hZ, hown, hnm, -⟩ := K
  obtain ⟨⟨cl, A, r⟩, -⟩ := F
  exact WP.plain (fun T locs X e0 t k => X.iaload hx (by rw [e0]; exact A.1) (State.isArrayOf_alike hZ.alike A.2.1) A.2.2 (idx_ok r h0 (List.getElem?_eq_some_iff.mp hv).1) (by rw [r]; simpa using hv) (g := mkF m pc ls.toArray (.int j :: .ref a :: st)) rfl rfl (hb hby hd) _ k) W
theorem f_ld_l {a : Addr} {vs : List Value} {j : Int32} {v : Value} (K : Cx EE R n0 nz p s m args meth c Z y code ml ret cI cJ) (F : Ars Z h a .long vs) (hd : decode code pc = .ok (.laload, 1)) (hn : pc + 1 = pn) (h0 : ¬ j < 0) (hv : vs[j.toNatClampNeg]? = some v) (W : WP p l e R s m args below meth c EE n0 nz Q h cells slots pn ls (v :: st)) : WP p l e R s m args below meth c EE n0 nz Q h cells slots pc ls (.int j :: .ref a :: st) := by
  subst hn
  obtain ⟨hx, hby, hml, hZ, hown, hnm, -⟩ := K
  obtain ⟨⟨cl, A, r⟩, -⟩ := F
  exact WP.plain (fun T locs X e0 t k => X.laload hx (by rw [e0]; exact A.1) (State.isArrayOf_alike hZ.alike A.2.1) A.2.2 (idx_ok r h0 (List.getElem?_eq_some_iff.mp hv).1) (by rw [r]; simpa using hv) (g := mkF m pc ls.toArray (.int j :: .ref a :: st)) rfl rfl (hb hby hd) _ k) W
theorem f_ld_b {a : Addr} {vs : List Value} {j : Int32} {v : Value} (K : Cx EE R n0 nz p s m args meth c Z y code ml ret cI cJ) (F : Ars Z h a .byte vs) (hd : decode code pc = .ok (.baload, 1)) (hn : pc + 1 = pn) (h0 : ¬ j < 0) (hv : vs[j.toNatClampNeg]? = some v) (W : WP p l e R s m args below meth c EE n0 nz Q h cells slots pn ls (v :: st)) : WP p l e R s m args below meth c EE n0 nz Q h cells slots pc ls (.int j :: .ref a :: st) := by
  subst hn
  obtain ⟨hx, hby, hml, hZ, hown, hnm, -⟩ := K
  obtain ⟨⟨cl, A, r⟩, -⟩ := F
  exact WP.plain (fun T locs X e0 t k => X.baloadBytes hx (by rw [e0]; exact A.1) (State.isArrayOf_alike hZ.alike A.2.1) A.2.2 (idx_ok r h0 (List.getElem?_eq_some_iff.mp hv).1) (by rw [r]; simpa using hv) (g := mkF m pc ls.toArray (.int j :: .ref a :: st)) rfl rfl (hb hby hd) _ k) W
theorem f_ld_c {a : Addr} {vs : List Value} {j : Int32} {v : Value} (K : Cx EE R n0 nz p s m args meth c Z y code ml ret cI cJ) (F : Ars Z h a .char vs) (hd : decode code pc = .ok (.caload, 1)) (hn : pc + 1 = pn) (h0 : ¬ j < 0) (hv : vs[j.toNatClampNeg]? = some v) (W : WP p l e R s m args below meth c EE n0 nz Q h cells slots pn ls (v :: st)) : WP p l e R s m args below meth c EE n0 nz Q h cells slots pc ls (.int j :: .ref a :: st) := by
  subst hn
  obtain ⟨hx, hby, hml, hZ, hown, hnm, -⟩ := K
  obtain ⟨⟨cl, A, r⟩, -⟩ := F
  exact WP.plain (fun T locs X e0 t k => X.caload hx (by rw [e0]; exact A.1) (State.isArrayOf_alike hZ.alike A.2.1) A.2.2 (idx_ok r h0 (List.getElem?_eq_some_iff.mp hv).1) (by rw [r]; simpa using hv) (g := mkF m pc ls.toArray (.int j :: .ref a :: st)) rfl rfl (hb hby hd) _ k) W
theorem f_ld_a {a : Addr} {ty : FieldType} {vs : List Value} {j : Int32} {v : Value} (K : Cx EE R n0 nz p s m args meth c Z y code ml ret cI cJ) (F : Ars Z h a ty vs) (ht : ty.isReference = true) (hd : decode code pc = .ok (.aaload, 1)) (hn : pc + 1 = pn) (h0 : ¬ j < 0) (hv : vs[j.toNatClampNeg]? = some v) (W : WP p l e R s m args below meth c EE n0 nz Q h cells slots pn ls (v :: st)) : WP p l e R s m args below meth c EE n0 nz Q h cells slots pc ls (.int j :: .ref a :: st) := by
  subst hn
  obtain ⟨hx, hby, hml, hZ, hown, hnm, -⟩ := K
  obtain ⟨⟨cl, A, r⟩, -⟩ := F
  exact WP.plain (fun T locs X e0 t k => X.aaload hx (by rw [e0]; exact A.1) (State.isArrayOf_alike hZ.alike A.2.1) ht A.2.2 (idx_ok r h0 (List.getElem?_eq_some_iff.mp hv).1) (by rw [r]; simpa using hv) (g := mkF m pc ls.toArray (.int j :: .ref a :: st)) rfl rfl (hb hby hd) _ k) W
theorem f_st_i {a : Addr} {vs : List Value} {j : Int32} {x : Int32} (K : Cx EE R n0 nz p s m args meth c Z y code ml ret cI cJ) (F : Ars Z h a .int vs) (hd : decode code pc = .ok (.iastore, 1)) (hn : pc + 1 = pn) (hg : n0 ≤ a) (h0 : ¬ j < 0) (hv : j.toNatClampNeg < vs.length)
    (W : ∀ h', Wr h h' a j.toNatClampNeg (.int x) → Ars Z h' a .int (vs.set j.toNatClampNeg (.int x)) → WP p l e R s m args below meth c EE n0 nz Q h' cells slots pn ls st) : WP p l e R s m args below meth c EE n0 nz Q h cells slots pc ls (.int x :: .int j :: .ref a :: st) := by
  subst hn
  obtain ⟨hx, hby, hml, hZ, hown, hnm, -⟩ := K
  have F0 := F
  obtain ⟨⟨cl, A, r⟩, -⟩ := F
  intro T locs X e0 N0 Z0
  obtain ⟨T', h', X', e', Wr', st'⟩ := stI X hx hZ e0 A (idx_ok r h0 hv) (g := mkF m pc ls.toArray (.int x :: .int j :: .ref a :: st)) rfl rfl (hb hby hd)
  obtain ⟨t, o, g1, g2⟩ := W h' Wr' (Ars.same F0 Wr') T' _ X' e' (Fr.snoc X' N0 hg) (by rw [Wr'.size]; exact Z0)
  exact ⟨t, o, st' _ g1, g2⟩
theorem f_st_l {a : Addr} {vs : List Value} {j : Int32} {x : Int64} (K : Cx EE R n0 nz p s m args meth c Z y code ml ret cI cJ) (F : Ars Z h a .long vs) (hd : decode code pc = .ok (.lastore, 1)) (hn : pc + 1 = pn) (hg : n0 ≤ a) (h0 : ¬ j < 0) (hv : j.toNatClampNeg < vs.length)
    (W : ∀ h', Wr h h' a j.toNatClampNeg (.long x) → Ars Z h' a .long (vs.set j.toNatClampNeg (.long x)) → WP p l e R s m args below meth c EE n0 nz Q h' cells slots pn ls st) : WP p l e R s m args below meth c EE n0 nz Q h cells slots pc ls (.long x :: .int j :: .ref a :: st) := by
  subst hn
  obtain ⟨hx, hby, hml, hZ, hown, hnm, -⟩ := K
  have F0 := F
  obtain ⟨⟨cl, A, r⟩, -⟩ := F
  intro T locs X e0 N0 Z0
  obtain ⟨T', h', X', e', Wr', st'⟩ := stJ X hx hZ e0 A (idx_ok r h0 hv) (g := mkF m pc ls.toArray (.long x :: .int j :: .ref a :: st)) rfl rfl (hb hby hd)
  obtain ⟨t, o, g1, g2⟩ := W h' Wr' (Ars.same F0 Wr') T' _ X' e' (Fr.snoc X' N0 hg) (by rw [Wr'.size]; exact Z0)
  exact ⟨t, o, st' _ g1, g2⟩
theorem f_st_b {a : Addr} {vs : List Value} {j : Int32} {x : Int32} (K : Cx EE R n0 nz p s m args meth c Z y code ml ret cI cJ) (F : Ars Z h a .byte vs) (hd : decode code pc = .ok (.bastore, 1)) (hn : pc + 1 = pn) (hg : n0 ≤ a) (h0 : ¬ j < 0) (hv : j.toNatClampNeg < vs.length)
    (W : ∀ h', Wr h h' a j.toNatClampNeg (.int (nar .byte x)) → Ars Z h' a .byte (vs.set j.toNatClampNeg (.int (nar .byte x))) → WP p l e R s m args below meth c EE n0 nz Q h' cells slots pn ls st) : WP p l e R s m args below meth c EE n0 nz Q h cells slots pc ls (.int x :: .int j :: .ref a :: st) := by
  subst hn
  obtain ⟨hx, hby, hml, hZ, hown, hnm, -⟩ := K
  have F0 := F
  obtain ⟨⟨cl, A, r⟩, -⟩ := F
  intro T locs X e0 N0 Z0
  obtain ⟨T', h', X', e', Wr', st'⟩ := stB X hx hZ e0 A (idx_ok r h0 hv) (g := mkF m pc ls.toArray (.int x :: .int j :: .ref a :: st)) rfl rfl (hb hby hd)
  obtain ⟨t, o, g1, g2⟩ := W h' Wr' (Ars.same F0 Wr') T' _ X' e' (Fr.snoc X' N0 hg) (by rw [Wr'.size]; exact Z0)
  exact ⟨t, o, st' _ g1, g2⟩
theorem f_st_c {a : Addr} {vs : List Value} {j : Int32} {x : Int32} (K : Cx EE R n0 nz p s m args meth c Z y code ml ret cI cJ) (F : Ars Z h a .char vs) (hd : decode code pc = .ok (.castore, 1)) (hn : pc + 1 = pn) (hg : n0 ≤ a) (h0 : ¬ j < 0) (hv : j.toNatClampNeg < vs.length)
    (W : ∀ h', Wr h h' a j.toNatClampNeg (.int (nar .char x)) → Ars Z h' a .char (vs.set j.toNatClampNeg (.int (nar .char x))) → WP p l e R s m args below meth c EE n0 nz Q h' cells slots pn ls st) : WP p l e R s m args below meth c EE n0 nz Q h cells slots pc ls (.int x :: .int j :: .ref a :: st) := by
  subst hn
  obtain ⟨hx, hby, hml, hZ, hown, hnm, -⟩ := K
  have F0 := F
  obtain ⟨⟨cl, A, r⟩, -⟩ := F
  intro T locs X e0 N0 Z0
  obtain ⟨T', h', X', e', Wr', st'⟩ := stC X hx hZ e0 A (idx_ok r h0 hv) (g := mkF m pc ls.toArray (.int x :: .int j :: .ref a :: st)) rfl rfl (hb hby hd)
  obtain ⟨t, o, g1, g2⟩ := W h' Wr' (Ars.same F0 Wr') T' _ X' e' (Fr.snoc X' N0 hg) (by rw [Wr'.size]; exact Z0)
  exact ⟨t, o, st' _ g1, g2⟩
theorem f_st_z {a : Addr} {vs : List Value} {j : Int32} {x : Int32} (K : Cx EE R n0 nz p s m args meth c Z y code ml ret cI cJ) (F : Ars Z h a .boolean vs) (hd : decode code pc = .ok (.bastore, 1)) (hn : pc + 1 = pn) (hg : n0 ≤ a) (h0 : ¬ j < 0) (hv : j.toNatClampNeg < vs.length)
    (W : ∀ h', Wr h h' a j.toNatClampNeg (.int (nar .boolean x)) → Ars Z h' a .boolean (vs.set j.toNatClampNeg (.int (nar .boolean x))) → WP p l e R s m args below meth c EE n0 nz Q h' cells slots pn ls st) : WP p l e R s m args below meth c EE n0 nz Q h cells slots pc ls (.int x :: .int j :: .ref a :: st) := by
  subst hn
  obtain ⟨hx, hby, hml, hZ, hown, hnm, -⟩ := K
  have F0 := F
  obtain ⟨⟨cl, A, r⟩, -⟩ := F
  intro T locs X e0 N0 Z0
  obtain ⟨T', h', X', e', Wr', st'⟩ := stZ X hx hZ e0 A (idx_ok r h0 hv) (g := mkF m pc ls.toArray (.int x :: .int j :: .ref a :: st)) rfl rfl (hb hby hd)
  obtain ⟨t, o, g1, g2⟩ := W h' Wr' (Ars.same F0 Wr') T' _ X' e' (Fr.snoc X' N0 hg) (by rw [Wr'.size]; exact Z0)
  exact ⟨t, o, st' _ g1, g2⟩
end Calls
end Jvm.Own
namespace Jvm.Own
open Sem ClassFile Op Lib Jvm.Stand Jvm.Free Jvm.LawKit Jvm.RoadKit
/-! own layer 2: the heap as a list of entries (an object with its fields' values in a fixed order, or an array with its elements) -/
abbrev Fds := List (String × String × String)
abbrev Ent := Addr × (Sum (String × Fds) FieldType) × List Value
abbrev Stc := List (String × String × String × Value) × List (String × Nat) × Vm × List Ent
abbrev Stc.st (s : Stc) : List (String × String × String × Value) := s.1
abbrev Stc.EL (s : Stc) : List (String × Nat) := s.2.1
abbrev Stc.vm (s : Stc) : Vm := s.2.2.1
abbrev Stc.ro (s : Stc) : List Ent := s.2.2.2
def flds (Z : State) (h : Heap) (a : Addr) (F : Fds) (vs : List Value) : Prop := F.length = vs.length ∧ ∀ (j : Nat) (f : String × String × String) (v : Value), F[j]? = some f → vs[j]? = some v → Fld Z h a f.1 f.2.1 f.2.2 v
def entOk (Z : State) (h : Heap) : Ent → Prop
  | (a, .inl (C, F), vs) => Exa Z h a C ∧ flds Z h a F vs
  | (a, .inr ty, vs) => Ars Z h a ty vs
def Hp (Z : State) (ss : Stc) (h : Heap) (es : List Ent) : Prop := (∀ q ∈ ss.st, Sta Z h q.1 q.2.1 q.2.2.1 q.2.2.2) ∧ (∀ e ∈ es, entOk Z h e) ∧ (es.map (·.1)).Nodup ∧ CHv Z ss.EL ss.vm h ∧ (∀ e ∈ es, Safe Z ss.EL ss.vm h e.1) ∧ ∀ r ∈ ss.ro, entOk Z h r ∧ ∀ e ∈ es, e.1 ≠ r.1
/-- the class's fields as the sheet lays them -/
def LayO (Z : State) (a0 : Array Value) (C : String) (F : Fds) : Prop := (∀ f ∈ F, Laid Z a0 C f.1 f.2.1 f.2.2 ∧ (parseFieldDescriptor f.2.2).isSome = true) ∧ (F.map (·.2.1)).Nodup
def putA {α β : Type} : List α → Nat → α → (List α → Option β) → Option β
  | [], _, _, _ => none
  | _ :: r, 0, v, k => k (v :: r)
  | a :: r, n + 1, v, k => putA r n v (fun r' => k (a :: r'))
def updE (es : List Ent) (i : Nat) (a : Addr) (k : Sum (String × Fds) FieldType) (vs : List Value) (j : Nat) (v : Value) : Option (List Ent) := putA vs j v fun vs' => putA es i (a, k, vs') some
section HeapFacts
variable {Z : State} {ss : Stc} {h h' : Heap} {es : List Ent} {a b : Addr} {C : String} {F : Fds} {vs : List Value} {ty : FieldType} {sl : Nat} {v w : Value} {a0 : Array Value}
theorem entOk.lt : ∀ {e : Ent}, entOk Z h e → e.1 < h.size
  | (_, .inl _, _), q => q.1.lt
  | (_, .inr _, _), q => Ars.lt q
theorem entOk.ext (E : Ext h h') : ∀ {e : Ent}, entOk Z h e → entOk Z h' e
  | (_, .inl _, _), q => ⟨q.1.ext E, q.2.1, fun j f v h1 h2 => (q.2.2 j f v h1 h2).ext E⟩
  | (_, .inr _, _), q => Ars.ext q E
theorem entOk.other (W : Wr h h' a sl v) : ∀ {e : Ent}, entOk Z h e → e.1 ≠ a → entOk Z h' e
  | (_, .inl _, _), q, ne => ⟨q.1.wr W, q.2.1, fun j f v h1 h2 => (q.2.2 j f v h1 h2).other W (Or.inl ne)⟩
  | (_, .inr _, _), q, ne => Ars.other q W ne
theorem Hp.ext (E : Ext h h') (H : Hp Z ss h es) : Hp Z ss h' es := ⟨fun q hq => (H.1 q hq).ext E, fun e he => (H.2.1 e he).ext E, H.2.2.1, H.2.2.2.1.ext E, fun e he => Safe.ext E H.2.2.2.1 (H.2.2.2.2.1 e he), fun r hr => ⟨(H.2.2.2.2.2 r hr).1.ext E, (H.2.2.2.2.2 r hr).2⟩⟩
theorem Hp.push {e : Ent} (E : Ext h h') (H : Hp Z ss h es) (he : entOk Z h' e) (ea : e.1 = h.size) : Hp Z ss h' (e :: es) := by
  have H' := H.ext E
  refine ⟨H'.1, fun q hq => ?_, ?_, H'.2.2.2.1, fun q hq => ?_, fun r hr => ⟨(H'.2.2.2.2.2 r hr).1, fun q hq => ?_⟩⟩
  · rcases List.mem_cons.mp hq with rfl | hq
    · exact he
    · exact H'.2.1 q hq
  · rw [List.map_cons, List.nodup_cons]
    refine ⟨fun hm => ?_, H.2.2.1⟩
    obtain ⟨q, hq, e1⟩ := List.mem_map.mp hm
    exact absurd (H.2.1 q hq).lt (by rw [e1, ea]; exact Nat.lt_irrefl _)
  · rcases List.mem_cons.mp hq with rfl | hq
    · exact Safe.ext E H.2.2.2.1 (Safe.new (by rw [ea]; exact Nat.le_refl _))
    · exact H'.2.2.2.2.1 q hq
  · rcases List.mem_cons.mp hq with rfl | hq
    · have := (H.2.2.2.2.2 r hr).1.lt
      rw [ea]; exact fun q => absurd this (by rw [← q]; exact Nat.lt_irrefl _)
    · exact (H.2.2.2.2.2 r hr).2 q hq
theorem nodup_idx {α : Type} {L : List α} (hn : L.Nodup) {i j : Nat} {x y : α} (hi : L[i]? = some x) (hj : L[j]? = some y) (ne : i ≠ j) : x ≠ y := fun q => by
  subst q
  obtain ⟨h1, e1⟩ := List.getElem?_eq_some_iff.mp hi
  obtain ⟨h2, e2⟩ := List.getElem?_eq_some_iff.mp hj
  exact ne ((List.getElem_inj hn).mp (e1.trans e2.symm))
theorem map_same {i : Nat} {k : Sum (String × Fds) FieldType} {vs' : List Value} (hi : es[i]? = some (a, k, vs)) : (es.set i (a, k, vs')).map (·.1) = es.map (·.1) := by
  rw [List.map_set]
  refine List.ext_getElem? fun n => ?_
  rw [List.getElem?_set]
  split
  · rename_i e; subst e
    obtain ⟨h1, e2⟩ := List.getElem?_eq_some_iff.mp hi
    simp [h1, e2]
  · rfl
theorem mem_same {i : Nat} {k : Sum (String × Fds) FieldType} {vs' : List Value} (hi : es[i]? = some (a, k, vs)) {q : Ent} (hq : q ∈ es.set i (a, k, vs')) : ∃ q' ∈ es, q'.1 = q.1 := by
  have h1 : q.1 ∈ (es.set i (a, k, vs')).map (·.1) := List.mem_map_of_mem hq
  rw [map_same hi] at h1
  obtain ⟨q', h2, h3⟩ := List.mem_map.mp h1
  exact ⟨q', h2, h3⟩
theorem Hp.wr {i : Nat} {k : Sum (String × Fds) FieldType} {vs' : List Value} (W : Wr h h' a sl v) (H : Hp Z ss h es) (hi : es[i]? = some (a, k, vs)) (he : entOk Z h' (a, k, vs')) : Hp Z ss h' (es.set i (a, k, vs')) := by
  have ma := List.mem_of_getElem? hi
  have Sa : Safe Z ss.EL ss.vm h a := H.2.2.2.2.1 _ ma
  refine ⟨fun q hq => (H.1 q hq).wr W, fun q hq => ?_, ?_, H.2.2.2.1.wr W Sa, fun q hq => ?_, fun r hr => ⟨?_, fun q hq => ?_⟩⟩
  · obtain ⟨j, hj⟩ := List.mem_iff_getElem?.mp hq
    rw [List.getElem?_set] at hj
    split at hj
    · split at hj
      · cases hj; exact he
      · cases hj
    · rename_i ne
      refine entOk.other W (H.2.1 q (List.mem_of_getElem? hj)) ?_
      exact nodup_idx H.2.2.1 (i := j) (j := i) (by simp [hj]) (by simp [hi]) (fun e => ne e.symm)
  · rw [map_same hi]; exact H.2.2.1
  · obtain ⟨q', h1, h2⟩ := mem_same hi hq
    rw [← h2]; exact Safe.wr W Sa H.2.2.2.1 (H.2.2.2.2.1 q' h1)
  · exact entOk.other W (H.2.2.2.2.2 r hr).1 fun e => (H.2.2.2.2.2 r hr).2 _ ma e.symm
  · obtain ⟨q', h1, h2⟩ := mem_same hi hq
    rw [← h2]; exact (H.2.2.2.2.2 r hr).2 q' h1
theorem Hp.obj {i : Nat} (H : Hp Z ss h es) (hi : es[i]? = some (a, .inl (C, F), vs)) : Exa Z h a C ∧ flds Z h a F vs := H.2.1 _ (List.mem_of_getElem? hi)
theorem Hp.exa {i : Nat} (H : Hp Z ss h es) (hi : es[i]? = some (a, .inl (C, F), vs)) : Exa Z h a C := (H.obj hi).1
theorem Hp.arr {i : Nat} (H : Hp Z ss h es) (hi : es[i]? = some (a, .inr ty, vs)) : Ars Z h a ty vs := H.2.1 _ (List.mem_of_getElem? hi)
theorem Hp.sta {i : Nat} {D n d : String} (H : Hp Z ss h es) (hi : ss.st[i]? = some (D, n, d, v)) : Sta Z h D n d v := H.1 _ (List.mem_of_getElem? hi)
theorem flds.put {j : Nat} {O n d : String} (L : LayO Z a0 C F) (W : Wr h h' a (Jvm.RoadKit.slotOf Z O n d) v) (q : flds Z h a F vs) (hj : F[j]? = some (O, n, d)) : flds Z h' a F (vs.set j v) := by
  refine ⟨by rw [List.length_set]; exact q.1, fun i f w hf hw => ?_⟩
  rw [List.getElem?_set] at hw
  split at hw
  · rename_i e; subst e
    cases hf.symm.trans hj
    split at hw
    · rename_i hlt
      cases hw
      exact Fld.same W (q.2 _ _ _ hj (List.getElem?_eq_getElem hlt))
    · cases hw
  · rename_i ne
    have l1 := L.1 f (List.mem_of_getElem? hf)
    have l2 := L.1 _ (List.mem_of_getElem? hj)
    obtain ⟨t1, p1⟩ := Option.isSome_iff_exists.mp l1.2
    obtain ⟨t2, p2⟩ := Option.isSome_iff_exists.mp l2.2
    exact (q.2 i f w hf hw).other W (Or.inr (slot_ne l1.1 l2.1 (nodup_idx L.2 (i := i) (j := j) (by simp [hf]) (by simp [hj]) (fun e => ne e.symm)) p1 p2))
theorem putA_ok {α β : Type} : ∀ (ls : List α) (i : Nat) (v : α) (k : List α → Option β) (b : β), putA ls i v k = some b → i < ls.length ∧ k (ls.set i v) = some b
  | [], _, _, _, _, h => by cases h
  | _ :: r, 0, v, k, b, h => ⟨Nat.zero_lt_succ _, h⟩
  | a :: r, n + 1, v, k, b, h => by
    obtain ⟨h1, h2⟩ := putA_ok r n v (fun r' => k (a :: r')) b h
    exact ⟨Nat.succ_lt_succ h1, h2⟩
theorem updE_ok {i j : Nat} {es' : List Ent} {k : Sum (String × Fds) FieldType} (hu : updE es i a k vs j v = some es') : es' = es.set i (a, k, vs.set j v) := by
  obtain ⟨-, h1⟩ := putA_ok _ _ _ _ _ hu
  obtain ⟨-, h2⟩ := putA_ok _ _ _ _ _ h1
  exact (Option.some.inj h2).symm
def takeE {β : Type} : List Ent → Nat → (Ent → List Ent → Option β) → Option β
  | [], _, _ => none
  | a :: r, 0, k => k a r
  | a :: r, n + 1, k => takeE r n (fun x r' => k x (a :: r'))
theorem takeE_ok {β : Type} : ∀ (es : List Ent) (i : Nat) (k : Ent → List Ent → Option β) (b : β), takeE es i k = some b → ∃ x r, k x r = some b ∧ (x :: r).Perm es
  | [], _, _, _, h => by cases h
  | a :: r, 0, k, b, h => ⟨a, r, h, List.Perm.refl _⟩
  | a :: r, n + 1, k, b, h => by
    obtain ⟨x, r', h1, h2⟩ := takeE_ok r n (fun x r' => k x (a :: r')) b h
    exact ⟨x, a :: r', h1, (List.Perm.swap a x r').trans (h2.cons a)⟩
def frontE (es : List Ent) (i : Nat) : Option (List Ent) := takeE es i fun x r => some (x :: r)
/-- the i-th entry to the front -/
theorem Hp.front {es' : List Ent} (H : Hp Z ss h es) (i : Nat) (hf : frontE es i = some es') : Hp Z ss h es' := by
  obtain ⟨x, r, h1, h2⟩ := takeE_ok _ _ _ _ hf
  cases h1
  exact ⟨H.1, fun e he => H.2.1 e (h2.mem_iff.mp he), ((h2.map (·.1)).nodup_iff).mpr H.2.2.1, H.2.2.2.1, fun e he => H.2.2.2.2.1 e (h2.mem_iff.mp he), fun r hr => ⟨(H.2.2.2.2.2 r hr).1, fun e he => (H.2.2.2.2.2 r hr).2 e (h2.mem_iff.mp he)⟩⟩
/-- an entry is forgotten -/
theorem Hp.tail {e : Ent} (H : Hp Z ss h (e :: es)) : Hp Z ss h es := ⟨H.1, fun q hq => H.2.1 q (List.mem_cons_of_mem _ hq), (List.nodup_cons.mp H.2.2.1).2, H.2.2.2.1, fun q hq => H.2.2.2.2.1 q (List.mem_cons_of_mem _ hq), fun r hr => ⟨(H.2.2.2.2.2 r hr).1, fun q hq => (H.2.2.2.2.2 r hr).2 q (List.mem_cons_of_mem _ hq)⟩⟩
theorem Hp.nil (h1 : ∀ q ∈ ss.st, Sta Z h q.1 q.2.1 q.2.2.1 q.2.2.2) (h2 : CHv Z ss.EL ss.vm h) (h3 : ∀ r ∈ ss.ro, entOk Z h r) : Hp Z ss h [] := ⟨h1, nilI, List.nodup_nil, h2, nilI, fun r hr => ⟨h3 r hr, nilI⟩⟩
theorem Hp.rd {i : Nat} {e : Ent} (H : Hp Z ss h es) (hi : ss.ro[i]? = some e) : entOk Z h e := (H.2.2.2.2.2 _ (List.mem_of_getElem? hi)).1
/-- nothing of the constants is kept -/
theorem Hp.plain (H : Hp Z ss h es) (st : List (String × String × String × Value)) (hs : ∀ q ∈ st, Sta Z h q.1 q.2.1 q.2.2.1 q.2.2.2) : Hp Z ⟨st, [], Z.vm, []⟩ h es := ⟨hs, H.2.1, H.2.2.1, fun p hp => (nomatch hp), fun e he => fun ⟨p, hp, _⟩ => (nomatch hp), fun r hr => (nomatch hr)⟩
theorem nodup_of_map {α β : Type} (f : α → β) : ∀ {l : List α}, (l.map f).Nodup → l.Nodup
  | [], _ => List.nodup_nil
  | a :: l, q => by
    rw [List.map_cons, List.nodup_cons] at q
    exact List.nodup_cons.mpr ⟨fun z => q.1 (List.mem_map_of_mem z), nodup_of_map f q.2⟩
theorem ord_of {args : Array Value} {t : Term} {k : Int32} {D n d : String} (ev : t.eval args Z none [] Z = some (.ref a)) (hq : (Jvm.Cond.eq (Term.field t D n d) (Term.int k)).value args Z none Z [] = some true) : Z.fieldOf? a D n d = some (.int k) := by
  have e1 : (Term.field t D n d).eval args Z none [] Z = Z.fieldOf? a D n d := by simp [Term.eval, ev]
  have e2 : (Term.int k).eval args Z none [] Z = some (.int k) := rfl
  simp only [Cond.value, e1, e2] at hq
  cases hz : Z.fieldOf? a D n d with
  | none => simp [hz] at hq
  | some v => cases v <;> simp_all
end HeapFacts
section HeapSteps
variable {p : Program} {l : Launch} {e : Env} {R : Room} {s : State} {m : MethodId} {args : Array Value} {below : List Frame} {meth : Method} {c : Code} {cells slots : Nat} {Z : State} {a0 : Array Value} {h : Heap} {y : MethodName} {code : ByteArray} {ml : Nat} {ret : Option FieldType} {cI : List (Nat × Int32)} {cJ : List (Nat × Int64)} {EE : Outcome → State → List Loc → Prop} {n0 nz : Nat} {Q : Option Value → Heap → Prop} {pc pn : Nat} {ls : List Slot} {st : List Value} {ss : Stc} {es : List Ent}
theorem h_new {C : String} {idx n : Nat} (K : Cx EE R n0 nz p s m args meth c Z y code ml ret cI cJ) (H : Hp Z ss h es) (F : Fds) (vs : List Value) (L : LayO Z a0 C F) (hvs : F.map (fun f => (parseFieldDescriptor f.2.2).map defaultValue) = vs.map some) (w : (Jvm.Cond.classLink y.cls idx C).before a0 Z = true) (wi : (Jvm.Cond.instantiable C n).before a0 Z = true) (wz : (Jvm.Cond.initialized C).before a0 Z = true) (hd : decode code pc = .ok (.new idx, 3)) (hn : pc + 3 = pn) (hc : cells + 1 ≤ R.cells) (hl : slots + n ≤ R.slots)
    (W : ∀ h' a, n0 ≤ a → Hp Z ss h' ((a, .inl (C, F), vs) :: es) → WP p l e R s m args below meth c EE n0 nz Q h' (cells + 1) (slots + n) pn ls (.ref a :: st)) : WP p l e R s m args below meth c EE n0 nz Q h cells slots pc ls st := by
  refine f_new K w wi wz hd hn hc hl fun h' a ea ga E A D => W h' a ga (H.push E (e := (a, .inl (C, F), vs)) ⟨A, ?_, fun j f v hf hv => ?_⟩ ea)
  · have := congrArg List.length hvs
    simpa using this
  · have l1 := L.1 f (List.mem_of_getElem? hf)
    obtain ⟨t, ht⟩ := Option.isSome_iff_exists.mp l1.2
    have q := congrArg (·[j]?) hvs
    simp only [List.getElem?_map, hf, hv, Option.map_some, ht, Option.some.injEq] at q
    rw [← q]
    exact D l1.1 ht
theorem h_newarr {aty : ArrayType} {n : Int32} (K : Cx EE R n0 nz p s m args meth c Z y code ml ret cI cJ) (H : Hp Z ss h es) (w : (Jvm.Cond.arrayClass (newarray.typeOf aty)).before a0 Z = true) (hd : decode code pc = .ok (.newarray aty, 2)) (hn : pc + 2 = pn) (vs : List Value) (hvs : vs = List.replicate n.toNatClampNeg (defaultValue (newarray.typeOf aty))) (hn0 : ¬ n < 0) (cap : Nat) (hcap : n.toNatClampNeg ≤ cap) (hb' : cap * 8 ≤ 536870912) (hc : cells + 1 ≤ R.cells) (hl : slots + cap ≤ R.slots)
    (W : ∀ h' a, n0 ≤ a → Hp Z ss h' ((a, .inr (newarray.typeOf aty), vs) :: es) → WP p l e R s m args below meth c EE n0 nz Q h' (cells + 1) (slots + cap) pn ls (.ref a :: st)) : WP p l e R s m args below meth c EE n0 nz Q h cells slots pc ls (.int n :: st) := by
  subst hvs
  exact f_newarr K w hd hn hn0 cap hcap hb' hc hl fun h' a ea ga E A => W h' a ga (H.push E (e := (a, .inr (newarray.typeOf aty), _)) A ea)
theorem h_get {R0 O n d host C : String} {F : Fds} {vs : List Value} {idx i j : Nat} {a : Addr} {v : Value} (K : Cx EE R n0 nz p s m args meth c Z y code ml ret cI cJ) (H : Hp Z ss h es) (hi : es[i]? = some (a, .inl (C, F), vs)) (hj : F[j]? = some (O, n, d)) (hv : vs[j]? = some v) (w : (Jvm.Cond.fieldLink y.cls idx R0 n d).before a0 Z = true ∨ (Jvm.Cond.fieldLinkNest y.cls idx R0 n d host).before a0 Z = true) (via : Via Z R0 O n d) (hd : decode code pc = .ok (.getfield idx, 3)) (hn : pc + 3 = pn)
    (W : WP p l e R s m args below meth c EE n0 nz Q h cells slots pn ls (v :: st)) : WP p l e R s m args below meth c EE n0 nz Q h cells slots pc ls (.ref a :: st) :=
  f_get K w via ((H.obj hi).2.2 j _ v hj hv) hd hn W
theorem h_put {R0 O n d host C : String} {F : Fds} {vs : List Value} {idx kk i j : Nat} {ty : FieldType} {a : Addr} {v : Value} {es' : List Ent} (K : Cx EE R n0 nz p s m args meth c Z y code ml ret cI cJ) (H : Hp Z ss h es) (LL : LayO Z a0 C F) (hi : es[i]? = some (a, .inl (C, F), vs)) (hj : F[j]? = some (O, n, d)) (hu : updE es i a (.inl (C, F)) vs j v = some es') (w : (Jvm.Cond.fieldLink y.cls idx R0 n d).before a0 Z = true ∨ (Jvm.Cond.fieldLinkNest y.cls idx R0 n d host).before a0 Z = true) (via : Via Z R0 O n d)
    (L : (Jvm.Cond.lays C O n d).before a0 Z = true ∨ ((Jvm.Cond.laysFinal C O n d).before a0 Z = true ∧ y.cls = O ∧ y.name = "<init>")) (wi : (Jvm.Cond.instantiable C kk).before a0 Z = true) (hty : parseFieldDescriptor d = some ty) (hnw : narrow ty v = v) (hf : fits ty v = true) (hd : decode code pc = .ok (.putfield idx, 3)) (hn : pc + 3 = pn) (hg : n0 ≤ a)
    (W : ∀ h', Hp Z ss h' es' → WP p l e R s m args below meth c EE n0 nz Q h' cells slots pn ls st) : WP p l e R s m args below meth c EE n0 nz Q h cells slots pc ls (v :: .ref a :: st) := by
  obtain rfl := updE_ok hu
  obtain ⟨E, fl⟩ := H.obj hi
  have hlt : j < vs.length := by rw [← fl.1]; exact (List.getElem?_eq_some_iff.mp hj).1
  exact f_put K w via (fl.2 j _ _ hj (List.getElem?_eq_getElem hlt)) E L wi hty hnw hf hd hn hg fun h' Wr' => W h' (H.wr Wr' hi ⟨E.wr Wr', fl.put LL Wr' hj⟩)
theorem h_putn {R0 O n d C : String} {F : Fds} {vs : List Value} {idx kk i j : Nat} {ty : FieldType} {a : Addr} {v v' : Value} {es' : List Ent} (K : Cx EE R n0 nz p s m args meth c Z y code ml ret cI cJ) (H : Hp Z ss h es) (LL : LayO Z a0 C F) (hi : es[i]? = some (a, .inl (C, F), vs)) (hj : F[j]? = some (O, n, d)) (hnw : narrow ty v = v') (hu : updE es i a (.inl (C, F)) vs j v' = some es') (w : (Jvm.Cond.fieldLink y.cls idx R0 n d).before a0 Z = true) (via : Via Z R0 O n d)
    (L : (Jvm.Cond.lays C O n d).before a0 Z = true ∨ ((Jvm.Cond.laysFinal C O n d).before a0 Z = true ∧ y.cls = O ∧ y.name = "<init>")) (wi : (Jvm.Cond.instantiable C kk).before a0 Z = true) (hty : parseFieldDescriptor d = some ty) (hf : fits ty v' = true) (hd : decode code pc = .ok (.putfield idx, 3)) (hn : pc + 3 = pn) (hg : n0 ≤ a)
    (W : ∀ h', Hp Z ss h' es' → WP p l e R s m args below meth c EE n0 nz Q h' cells slots pn ls st) : WP p l e R s m args below meth c EE n0 nz Q h cells slots pc ls (v :: .ref a :: st) := by
  obtain rfl := updE_ok hu
  obtain ⟨E, fl⟩ := H.obj hi
  have hlt : j < vs.length := by rw [← fl.1]; exact (List.getElem?_eq_some_iff.mp hj).1
  exact f_putn K w via (fl.2 j _ _ hj (List.getElem?_eq_getElem hlt)) E L wi hty hnw hf hd hn hg fun h' Wr' => W h' (H.wr Wr' hi ⟨E.wr Wr', fl.put LL Wr' hj⟩)
theorem h_sta {R0 O n d host : String} {idx i : Nat} {v : Value} (K : Cx EE R n0 nz p s m args meth c Z y code ml ret cI cJ) (H : Hp Z ss h es) (hi : ss.st[i]? = some (O, n, d, v)) (w : (Jvm.Cond.fieldLink y.cls idx R0 n d).before a0 Z = true ∨ (Jvm.Cond.fieldLinkNest y.cls idx R0 n d host).before a0 Z = true) (via : Via Z R0 O n d) (hd : decode code pc = .ok (.getstatic idx, 3)) (hn : pc + 3 = pn)
    (W : WP p l e R s m args below meth c EE n0 nz Q h cells slots pn ls (v :: st)) : WP p l e R s m args below meth c EE n0 nz Q h cells slots pc ls st := f_sta K w via (H.sta hi) hd hn W
theorem h_len {a : Addr} {ty : FieldType} {vs : List Value} {i : Nat} (K : Cx EE R n0 nz p s m args meth c Z y code ml ret cI cJ) (H : Hp Z ss h es) (hi : es[i]? = some (a, .inr ty, vs)) (hd : decode code pc = .ok (.arraylength, 1)) (hn : pc + 1 = pn) (z : Int32) (hz : vs.length.toInt32 = z) (W : WP p l e R s m args below meth c EE n0 nz Q h cells slots pn ls (.int z :: st)) : WP p l e R s m args below meth c EE n0 nz Q h cells slots pc ls (.ref a :: st) :=
  f_len K (H.arr hi) hd hn (by rw [hz]; exact W)
theorem h_ld_i {a : Addr} {vs : List Value} {j : Int32} {i : Nat} {v : Value} (K : Cx EE R n0 nz p s m args meth c Z y code ml ret cI cJ) (H : Hp Z ss h es) (hi : es[i]? = some (a, .inr .int, vs)) (hd : decode code pc = .ok (.iaload, 1)) (hn : pc + 1 = pn) (h0 : ¬ j < 0) (hv : vs[j.toNatClampNeg]? = some v) (W : WP p l e R s m args below meth c EE n0 nz Q h cells slots pn ls (v :: st)) : WP p l e R s m args below meth c EE n0 nz Q h cells slots pc ls (.int j :: .ref a :: st) :=
  f_ld_i K (H.arr hi) hd hn h0 hv W
theorem h_ld_l {a : Addr} {vs : List Value} {j : Int32} {i : Nat} {v : Value} (K : Cx EE R n0 nz p s m args meth c Z y code ml ret cI cJ) (H : Hp Z ss h es) (hi : es[i]? = some (a, .inr .long, vs)) (hd : decode code pc = .ok (.laload, 1)) (hn : pc + 1 = pn) (h0 : ¬ j < 0) (hv : vs[j.toNatClampNeg]? = some v) (W : WP p l e R s m args below meth c EE n0 nz Q h cells slots pn ls (v :: st)) : WP p l e R s m args below meth c EE n0 nz Q h cells slots pc ls (.int j :: .ref a :: st) :=
  f_ld_l K (H.arr hi) hd hn h0 hv W
theorem h_ld_b {a : Addr} {vs : List Value} {j : Int32} {i : Nat} {v : Value} (K : Cx EE R n0 nz p s m args meth c Z y code ml ret cI cJ) (H : Hp Z ss h es) (hi : es[i]? = some (a, .inr .byte, vs)) (hd : decode code pc = .ok (.baload, 1)) (hn : pc + 1 = pn) (h0 : ¬ j < 0) (hv : vs[j.toNatClampNeg]? = some v) (W : WP p l e R s m args below meth c EE n0 nz Q h cells slots pn ls (v :: st)) : WP p l e R s m args below meth c EE n0 nz Q h cells slots pc ls (.int j :: .ref a :: st) :=
  f_ld_b K (H.arr hi) hd hn h0 hv W
theorem h_ld_c {a : Addr} {vs : List Value} {j : Int32} {i : Nat} {v : Value} (K : Cx EE R n0 nz p s m args meth c Z y code ml ret cI cJ) (H : Hp Z ss h es) (hi : es[i]? = some (a, .inr .char, vs)) (hd : decode code pc = .ok (.caload, 1)) (hn : pc + 1 = pn) (h0 : ¬ j < 0) (hv : vs[j.toNatClampNeg]? = some v) (W : WP p l e R s m args below meth c EE n0 nz Q h cells slots pn ls (v :: st)) : WP p l e R s m args below meth c EE n0 nz Q h cells slots pc ls (.int j :: .ref a :: st) :=
  f_ld_c K (H.arr hi) hd hn h0 hv W
theorem h_ld_a {a : Addr} {ty : FieldType} {vs : List Value} {j : Int32} {i : Nat} {v : Value} (K : Cx EE R n0 nz p s m args meth c Z y code ml ret cI cJ) (H : Hp Z ss h es) (hi : es[i]? = some (a, .inr ty, vs)) (ht : ty.isReference = true) (hd : decode code pc = .ok (.aaload, 1)) (hn : pc + 1 = pn) (h0 : ¬ j < 0) (hv : vs[j.toNatClampNeg]? = some v) (W : WP p l e R s m args below meth c EE n0 nz Q h cells slots pn ls (v :: st)) : WP p l e R s m args below meth c EE n0 nz Q h cells slots pc ls (.int j :: .ref a :: st) :=
  f_ld_a K (H.arr hi) ht hd hn h0 hv W
theorem h_st_i {a : Addr} {vs : List Value} {j : Int32} {x : Int32} {i q : Nat} {v : Value} {es' : List Ent} (K : Cx EE R n0 nz p s m args meth c Z y code ml ret cI cJ) (H : Hp Z ss h es) (hi : es[i]? = some (a, .inr .int, vs)) (hq : j.toNatClampNeg = q) (hx : (.int x) = v) (hu : updE es i a (.inr .int) vs q v = some es') (hd : decode code pc = .ok (.iastore, 1)) (hn : pc + 1 = pn) (hg : n0 ≤ a) (h0 : ¬ j < 0)
    (W : ∀ h', Hp Z ss h' es' → WP p l e R s m args below meth c EE n0 nz Q h' cells slots pn ls st) : WP p l e R s m args below meth c EE n0 nz Q h cells slots pc ls (.int x :: .int j :: .ref a :: st) := by
  subst hq hx
  have hlt : j.toNatClampNeg < vs.length := (putA_ok _ _ _ _ _ hu).1
  obtain rfl := updE_ok hu
  exact f_st_i K (H.arr hi) hd hn hg h0 hlt fun h' Wr' A => W h' (H.wr Wr' hi A)
theorem h_st_l {a : Addr} {vs : List Value} {j : Int32} {x : Int64} {i q : Nat} {v : Value} {es' : List Ent} (K : Cx EE R n0 nz p s m args meth c Z y code ml ret cI cJ) (H : Hp Z ss h es) (hi : es[i]? = some (a, .inr .long, vs)) (hq : j.toNatClampNeg = q) (hx : (.long x) = v) (hu : updE es i a (.inr .long) vs q v = some es') (hd : decode code pc = .ok (.lastore, 1)) (hn : pc + 1 = pn) (hg : n0 ≤ a) (h0 : ¬ j < 0)
    (W : ∀ h', Hp Z ss h' es' → WP p l e R s m args below meth c EE n0 nz Q h' cells slots pn ls st) : WP p l e R s m args below meth c EE n0 nz Q h cells slots pc ls (.long x :: .int j :: .ref a :: st) := by
  subst hq hx
  have hlt : j.toNatClampNeg < vs.length := (putA_ok _ _ _ _ _ hu).1
  obtain rfl := updE_ok hu
  exact f_st_l K (H.arr hi) hd hn hg h0 hlt fun h' Wr' A => W h' (H.wr Wr' hi A)
theorem h_st_b {a : Addr} {vs : List Value} {j : Int32} {x : Int32} {i q : Nat} {v : Value} {es' : List Ent} (K : Cx EE R n0 nz p s m args meth c Z y code ml ret cI cJ) (H : Hp Z ss h es) (hi : es[i]? = some (a, .inr .byte, vs)) (hq : j.toNatClampNeg = q) (hx : (.int (nar .byte x)) = v) (hu : updE es i a (.inr .byte) vs q v = some es') (hd : decode code pc = .ok (.bastore, 1)) (hn : pc + 1 = pn) (hg : n0 ≤ a) (h0 : ¬ j < 0)
    (W : ∀ h', Hp Z ss h' es' → WP p l e R s m args below meth c EE n0 nz Q h' cells slots pn ls st) : WP p l e R s m args below meth c EE n0 nz Q h cells slots pc ls (.int x :: .int j :: .ref a :: st) := by
  subst hq hx
  have hlt : j.toNatClampNeg < vs.length := (putA_ok _ _ _ _ _ hu).1
  obtain rfl := updE_ok hu
  exact f_st_b K (H.arr hi) hd hn hg h0 hlt fun h' Wr' A => W h' (H.wr Wr' hi A)
theorem h_st_c {a : Addr} {vs : List Value} {j : Int32} {x : Int32} {i q : Nat} {v : Value} {es' : List Ent} (K : Cx EE R n0 nz p s m args meth c Z y code ml ret cI cJ) (H : Hp Z ss h es) (hi : es[i]? = some (a, .inr .char, vs)) (hq : j.toNatClampNeg = q) (hx : (.int (nar .char x)) = v) (hu : updE es i a (.inr .char) vs q v = some es') (hd : decode code pc = .ok (.castore, 1)) (hn : pc + 1 = pn) (hg : n0 ≤ a) (h0 : ¬ j < 0)
    (W : ∀ h', Hp Z ss h' es' → WP p l e R s m args below meth c EE n0 nz Q h' cells slots pn ls st) : WP p l e R s m args below meth c EE n0 nz Q h cells slots pc ls (.int x :: .int j :: .ref a :: st) := by
  subst hq hx
  have hlt : j.toNatClampNeg < vs.length := (putA_ok _ _ _ _ _ hu).1
  obtain rfl := updE_ok hu
  exact f_st_c K (H.arr hi) hd hn hg h0 hlt fun h' Wr' A => W h' (H.wr Wr' hi A)
theorem h_st_z {a : Addr} {vs : List Value} {j : Int32} {x : Int32} {i q : Nat} {v : Value} {es' : List Ent} (K : Cx EE R n0 nz p s m args meth c Z y code ml ret cI cJ) (H : Hp Z ss h es) (hi : es[i]? = some (a, .inr .boolean, vs)) (hq : j.toNatClampNeg = q) (hx : (.int (nar .boolean x)) = v) (hu : updE es i a (.inr .boolean) vs q v = some es') (hd : decode code pc = .ok (.bastore, 1)) (hn : pc + 1 = pn) (hg : n0 ≤ a) (h0 : ¬ j < 0)
    (W : ∀ h', Hp Z ss h' es' → WP p l e R s m args below meth c EE n0 nz Q h' cells slots pn ls st) : WP p l e R s m args below meth c EE n0 nz Q h cells slots pc ls (.int x :: .int j :: .ref a :: st) := by
  subst hq hx
  have hlt : j.toNatClampNeg < vs.length := (putA_ok _ _ _ _ _ hu).1
  obtain rfl := updE_ok hu
  exact f_st_z K (H.arr hi) hd hn hg h0 hlt fun h' Wr' A => W h' (H.wr Wr' hi A)
end HeapSteps
end Jvm.Own
namespace Jvm.Own
open Sem ClassFile Op Lib Jvm.Stand Jvm.Free Jvm.LawKit Jvm.RoadKit
/-! own layer 3: arrays with contents that are not spelt out; clone; arraycopy; casts -/
section HeapMore
variable {Z : State} {ss : Stc} {h h' : Heap} {es : List Ent} {a b : Addr} {C : String} {F : Fds} {vs : List Value} {ty : FieldType} {sl : Nat} {v w : Value} {a0 : Array Value}
theorem entOk.keep (K : Keep h h' [a]) : ∀ {e : Ent}, entOk Z h e → e.1 ≠ a → entOk Z h' e
  | (_, .inl _, _), q, ne => ⟨q.1.keep K, q.2.1, fun j f v h1 h2 => (q.2.2 j f v h1 h2).keep K (fun z => ne (List.mem_singleton.mp z))⟩
  | (_, .inr _, _), q, ne => Ars.keep q K (fun z => ne (List.mem_singleton.mp z))
theorem sta_keep {D n d : String} (S : Sta Z h D n d v) (K : Keep h h' [a]) (A : Ars Z h a ty vs) : Sta Z h' D n d v := by
  obtain ⟨cf, i, k, f, st, cell, h1, h2, h3, h4, h5, h6, h7⟩ := S
  refine ⟨cf, i, k, f, st, cell, h1, h2, h3, h4, K.2.1 st cell h5 (fun z => ?_), h6, h7⟩
  obtain rfl := List.mem_singleton.mp z
  obtain ⟨⟨cl, A, -⟩, -⟩ := A
  cases h5.symm.trans A.1
  rw [A.plain] at h6; cases h6
theorem Hp.keep {i : Nat} {vs' : List Value} (K : Keep h h' [a]) (H : Hp Z ss h es) (hi : es[i]? = some (a, .inr ty, vs)) (he : Ars Z h' a ty vs') : Hp Z ss h' (es.set i (a, .inr ty, vs')) := by
  have A := H.arr hi
  have ma := List.mem_of_getElem? hi
  have Sa : ∀ x ∈ [a], Safe Z ss.EL ss.vm h x := fun x hx => by obtain rfl := List.mem_singleton.mp hx; exact H.2.2.2.2.1 _ ma
  refine ⟨fun q hq => sta_keep (H.1 q hq) K A, fun q hq => ?_, ?_, H.2.2.2.1.keep K Sa, fun q hq => ?_, fun r hr => ⟨?_, fun q hq => ?_⟩⟩
  · obtain ⟨j, hj⟩ := List.mem_iff_getElem?.mp hq
    rw [List.getElem?_set] at hj
    split at hj
    · split at hj
      · cases hj; exact he
      · cases hj
    · rename_i ne
      refine entOk.keep K (H.2.1 q (List.mem_of_getElem? hj)) ?_
      exact nodup_idx H.2.2.1 (i := j) (j := i) (by simp [hj]) (by simp [hi]) (fun e => ne e.symm)
  · rw [map_same hi]; exact H.2.2.1
  · obtain ⟨q', h1, h2⟩ := mem_same hi hq
    rw [← h2]; exact Safe.keep K Sa H.2.2.2.1 (H.2.2.2.2.1 q' h1)
  · exact entOk.keep K (H.2.2.2.2.2 r hr).1 fun e => (H.2.2.2.2.2 r hr).2 _ ma e.symm
  · obtain ⟨q', h1, h2⟩ := mem_same hi hq
    rw [← h2]; exact (H.2.2.2.2.2 r hr).2 q' h1
theorem len32 {n : Nat} (h : n < 2 ^ 31) : n.toInt32.toNatClampNeg = n ∧ ¬ n.toInt32 < 0 := by
  have q : n.toInt32.toInt = n := len_toInt h
  refine ⟨by simp only [Int32.toNatClampNeg, q]; omega, ?_⟩
  rw [Int32.lt_iff_toInt_lt, q]; simp only [Int32.reduceToInt]; omega
theorem Ars.arv (A : Ars Z h a ty vs) (hl : vs.length < 2 ^ 31) (hf : ∀ v ∈ vs, fits ty v = true) : ∃ k, Arv Z h a k ty vs.length.toInt32 vs .null := by
  obtain ⟨⟨cl, A, r⟩, -⟩ := A
  have hs : cl.slots.size = vs.length := by rw [r]; simp
  refine ⟨cl.cls, cl, A, rfl, by rw [hs, (len32 hl).1], (len32 hl).2, fun k hk => ?_, fun i hi => ?_⟩
  · rw [hs] at hk
    rw [r]; simp [List.getD_eq_getElem?_getD, List.getElem?_eq_getElem hk]
  · rw [hs] at hi
    rw [List.getD_eq_getElem?_getD, List.getElem?_eq_getElem hi]
    exact hf _ (List.getElem_mem hi)
theorem Ars.of_arv {k : ClassId} {n : Int32} {d : Value} (A : Arv Z h a k ty n vs d) (hl : vs.length = n.toNatClampNeg) (E : ExaQ Z h a ("[" ++ ty.toString)) : Ars Z h a ty vs := by
  obtain ⟨cl, A, -, S, -, H, -⟩ := A
  refine ⟨⟨cl, A, Array.ext_getElem? fun i => ?_⟩, E⟩
  by_cases hi : i < cl.slots.size
  · rw [H i hi]
    have h2 : i < vs.length := by omega
    simp [List.getD_eq_getElem?_getD, List.getElem?_eq_getElem h2]
  · have h2 : ¬ i < vs.length := by omega
    simp [hi, h2]
end HeapMore
section MoreSteps
variable {p : Program} {l : Launch} {e : Env} {R : Room} {s : State} {m : MethodId} {args : Array Value} {below : List Frame} {meth : Method} {c : Code} {cells slots : Nat} {Z : State} {a0 : Array Value} {h : Heap} {y : MethodName} {code : ByteArray} {ml : Nat} {ret : Option FieldType} {cI : List (Nat × Int32)} {cJ : List (Nat × Int64)} {EE : Outcome → State → List Loc → Prop} {n0 nz : Nat} {Q : Option Value → Heap → Prop} {pc pn : Nat} {ls : List Slot} {st : List Value} {ss : Stc} {es : List Ent}
/-- System.arraycopy of primitive arrays of one kind -/
theorem h_copy {idx i j : Nat} {a b : Addr} {ty : FieldType} {vs vd vd' : List Value} {sp dp nn : Int32} {es' : List Ent} (K : Cx EE R n0 nz p s m args meth c Z y code ml ret cI cJ) (H : Hp Z ss h es) (hi : es[i]? = some (a, .inr ty, vs)) (hj : es[j]? = some (b, .inr ty, vd)) (hty : refKind ty = false)
    (w1 : (Jvm.Cond.methodLink y.cls idx Jvm.Stand.acN).before a0 Z = true) (w2 : (Jvm.Cond.native Jvm.Stand.acN).before a0 Z = true) (w3 : (Jvm.Cond.static Jvm.Stand.acN).before a0 Z = true) (w4 : (Jvm.Cond.initialized "java/lang/System").before a0 Z = true)
    (hl1 : vs.length < 2 ^ 31) (hl2 : vd.length < 2 ^ 31) (f1 : ∀ v ∈ vs, fits ty v = true) (f2 : ∀ v ∈ vd, fits ty v = true) (h1 : ¬ sp < 0) (h2 : ¬ dp < 0) (h3 : ¬ nn < 0) (h4 : sp.toNatClampNeg + nn.toNatClampNeg ≤ vs.length) (h5 : dp.toNatClampNeg + nn.toNatClampNeg ≤ vd.length)
    (hvd : vd.take dp.toNatClampNeg ++ (vs.drop sp.toNatClampNeg).take nn.toNatClampNeg ++ vd.drop (dp.toNatClampNeg + nn.toNatClampNeg) = vd') (hu : putA es j (b, .inr ty, vd') some = some es')
    (hd : decode code pc = .ok (.invokestatic idx, 3)) (hn : pc + 3 = pn) (hls : ls.length = ml) (hg : n0 ≤ b) (hf : 1 ≤ R.frames) (hlo : (st.map fun v => v.category).sum + (nativeFrameWords "java/lang/System" "arraycopy" 5 + 11) ≤ R.locals)
    (W : ∀ h', Hp Z ss h' es' → WP p l e R s m args below meth c EE n0 nz Q h' cells slots pn ls st) : WP p l e R s m args below meth c EE n0 nz Q h cells slots pc ls (.int nn :: .int dp :: .ref b :: .int sp :: .ref a :: st) := by
  obtain ⟨-, hu'⟩ := putA_ok _ _ _ _ _ hu
  obtain rfl := Option.some.inj hu'
  subst hn
  obtain ⟨hx, hby, hml, hZ, hown, hnm, -⟩ := K
  intro T locs X e0 N0 Z0
  obtain ⟨k1, A1⟩ := (H.arr hi).arv hl1 f1
  obtain ⟨k2, A2⟩ := (H.arr hj).arv hl2 f2
  have e1 := (len32 hl1).1
  have e2 := (len32 hl2).1
  obtain ⟨T', h', L, X', e', N', K', A', st'⟩ := cpA X hx hZ hown w1 w2 w3 w4 e0 A1 A2 (Or.inl ⟨rfl, hty⟩) h1 h2 h3 (by rw [e1]; exact h4) (by rw [e2]; exact h5) rfl h5 N0 hg (g := mkF m pc ls.toArray (.int nn :: .int dp :: .ref b :: .int sp :: .ref a :: st)) rfl (by rw [hml]; simpa using hls) rfl (hb hby hd) hf (W := (st.map fun v => v.category).sum) (by show 2 * 0 + _ ≤ _; omega) hlo
  have e3 : ((List.range nn.toNatClampNeg).map fun i => vs.getD (sp.toNatClampNeg + i) .null) = (vs.drop sp.toNatClampNeg).take nn.toNatClampNeg := by
    refine List.ext_getElem (by simp; omega) fun k hk1 hk2 => ?_
    have : k < nn.toNatClampNeg := by simpa using hk1
    have h6 : sp.toNatClampNeg + k < vs.length := by omega
    simp [List.getD_eq_getElem?_getD, List.getElem?_eq_getElem h6]
  rw [e3, hvd] at A'
  have hlen : vd'.length = vd.length := by rw [← hvd]; simp; omega
  obtain ⟨t, o, g1, g2⟩ := W h' (H.keep K' hj (Ars.of_arv A' (by rw [e2]; exact hlen) ((H.arr hj).2.keep K'))) T' L X' e' N' (Nat.le_trans Z0 K'.1)
  exact ⟨t, o, st' _ g1, g2⟩
theorem f_cast {idx : Nat} {a : Addr} {D : String} (K : Cx EE R n0 nz p s m args meth c Z y code ml ret cI cJ) (w : (Jvm.Cond.classLink y.cls idx D).before a0 Z = true) (I : Ins Z h a D true) (hd : decode code pc = .ok (.checkcast idx, 3)) (hn : pc + 3 = pn) (W : WP p l e R s m args below meth c EE n0 nz Q h cells slots pn ls (.ref a :: st)) : WP p l e R s m args below meth c EE n0 nz Q h cells slots pc ls (.ref a :: st) := by
  subst hn
  obtain ⟨hx, hby, hml, hZ, hown, hnm, -⟩ := K
  refine WP.step (fun T locs X e0 N0 Z0 => ?_) W
  obtain ⟨T', X', e', st'⟩ := castY X hx hZ hown w e0 I (g := mkF m pc ls.toArray (.ref a :: st)) rfl rfl (hb hby hd)
  exact ⟨T', locs, X', e', N0, Z0, st'⟩
theorem f_inst {idx : Nat} {a : Addr} {D : String} (K : Cx EE R n0 nz p s m args meth c Z y code ml ret cI cJ) (w : (Jvm.Cond.classLink y.cls idx D).before a0 Z = true) (I : Ins Z h a D true) (hd : decode code pc = .ok (.instanceof idx, 3)) (hn : pc + 3 = pn) (W : WP p l e R s m args below meth c EE n0 nz Q h cells slots pn ls (.int 1 :: st)) : WP p l e R s m args below meth c EE n0 nz Q h cells slots pc ls (.ref a :: st) := by
  subst hn
  obtain ⟨hx, hby, hml, hZ, hown, hnm, -⟩ := K
  refine WP.step (fun T locs X e0 N0 Z0 => ?_) W
  obtain ⟨T', X', e', st'⟩ := instY X hx hZ hown w e0 I (g := mkF m pc ls.toArray (.ref a :: st)) rfl rfl (hb hby hd)
  exact ⟨T', locs, X', e', N0, Z0, st'⟩
/-- arrays of references -/
def OvN (Z : State) (D : String) : Prop := ∃ cA, Z.vm.findClass ("[" ++ (FieldType.object D).toString) = some cA ∧ Ovr Z cA D
theorem OvN.of {D : String} (w : (Jvm.Cond.arrayOver (.object D)).before a0 Z = true) : OvN Z D := by
  obtain ⟨comp, cA, k, h1, -, h2, h3, h4⟩ := Cond.arrayOver_spec w
  exact ⟨cA, h4, k, comp, h2, h3, h1⟩
theorem h_newref {D : String} {idx : Nat} {n : Int32} (K : Cx EE R n0 nz p s m args meth c Z y code ml ret cI cJ) (H : Hp Z ss h es) (w1 : (Jvm.Cond.classLink y.cls idx D).before a0 Z = true) (w2 : (Jvm.Cond.arrayOver (.object D)).before a0 Z = true) (hd : decode code pc = .ok (.anewarray idx, 3)) (hn : pc + 3 = pn) (vs : List Value) (hvs : vs = List.replicate n.toNatClampNeg .null) (hn0 : ¬ n < 0) (cap : Nat) (hcap : n.toNatClampNeg ≤ cap) (hb' : cap * 8 ≤ 536870912) (hc : cells + 1 ≤ R.cells) (hl : slots + cap ≤ R.slots)
    (W : ∀ h' a, n0 ≤ a → Hp Z ss h' ((a, .inr (.object D), vs) :: es) → WP p l e R s m args below meth c EE n0 nz Q h' (cells + 1) (slots + cap) pn ls (.ref a :: st)) : WP p l e R s m args below meth c EE n0 nz Q h cells slots pc ls (.int n :: st) := by
  have K0 := K.hnz
  subst hvs hn
  obtain ⟨hx, hby, hml, hZ, hown, hnm, -⟩ := K
  intro T locs X e0 N0 Z0
  obtain ⟨T', h', cA, X', e', E, A, A2, -, st'⟩ := newRE X hx hZ hown w1 w2 e0 (g := mkF m pc ls.toArray (.int n :: st)) rfl (hb hby hd) rfl hn0 hcap hb' hc hl rfl
  obtain ⟨t, o, g1, g2⟩ := W h' _ (Nat.le_trans K0 Z0) (H.push E (e := (h.size, .inr (.object D), _)) ⟨⟨_, A, by simp [newA, defaultValue]⟩, fun _ => A2⟩ rfl) T' _ X' e' N0 (Nat.le_trans Z0 E.1)
  exact ⟨t, o, st' _ g1, g2⟩
theorem sto_of {a : Addr} {D : String} {vs : List Value} {v : Value} (A : Ars Z h a (.object D) vs) (hD : "[" ++ (FieldType.object D).toString ≠ "[B") (O : OvN Z D) (hv : v = .null ∨ ∃ b, v = .ref b ∧ Ins Z h b D true) : Sto Z h a v := by
  rcases hv with rfl | ⟨b, rfl, I⟩
  · exact Or.inl rfl
  · obtain ⟨⟨cl, A1, -⟩, E⟩ := A
    obtain ⟨cA, o1, o2⟩ := O
    obtain ⟨c2, k, e1, e2, -⟩ := E hD
    cases A1.1.symm.trans e1
    cases o1.symm.trans e2
    exact Sto.of A1 o2 I
theorem h_st_a {a : Addr} {D : String} {vs : List Value} {j : Int32} {i q : Nat} {v : Value} {es' : List Ent} (K : Cx EE R n0 nz p s m args meth c Z y code ml ret cI cJ) (H : Hp Z ss h es) (hi : es[i]? = some (a, .inr (.object D), vs)) (hD : "[" ++ (FieldType.object D).toString ≠ "[B") (O : OvN Z D) (hv : v = .null ∨ ∃ b, v = .ref b ∧ Ins Z h b D true) (hq : j.toNatClampNeg = q) (hu : updE es i a (.inr (.object D)) vs q v = some es') (hd : decode code pc = .ok (.aastore, 1)) (hn : pc + 1 = pn) (hg : n0 ≤ a) (h0 : ¬ j < 0)
    (W : ∀ h', Hp Z ss h' es' → WP p l e R s m args below meth c EE n0 nz Q h' cells slots pn ls st) : WP p l e R s m args below meth c EE n0 nz Q h cells slots pc ls (v :: .int j :: .ref a :: st) := by
  subst hq hn
  have hlt : j.toNatClampNeg < vs.length := (putA_ok _ _ _ _ _ hu).1
  obtain rfl := updE_ok hu
  obtain ⟨hx, hby, hml, hZ, hown, hnm, -⟩ := K
  have A := H.arr hi
  have S := sto_of A hD O hv
  obtain ⟨⟨cl, A1, r⟩, E⟩ := id A
  intro T locs X e0 N0 Z0
  obtain ⟨T', h', X', e', Wr', st'⟩ := stR X hx hZ e0 A1 (idx_ok r h0 hlt) rfl S (g := mkF m pc ls.toArray (v :: .int j :: .ref a :: st)) rfl rfl (hb hby hd)
  obtain ⟨t, o, g1, g2⟩ := W h' (H.wr Wr' hi (A.same Wr')) T' _ X' e' (Fr.snoc X' N0 hg) (by rw [Wr'.size]; exact Z0)
  exact ⟨t, o, st' _ g1, g2⟩
end MoreSteps
end Jvm.Own
namespace Jvm.Own
open Sem ClassFile Op Lib Jvm.Stand Jvm.Free Jvm.LawKit Jvm.RoadKit
/-! own layer 4: int arrays whose contents are lists of numbers -/
def ivN (xs : List Nat) : List Value := xs.map fun x => Value.int (Int32.ofNat x)
theorem iv_len (xs : List Nat) : (ivN xs).length = xs.length := by simp [ivN]
theorem iv_get {xs : List Nat} {k : Nat} (hk : k < xs.length) : (ivN xs)[k]? = some (.int (Int32.ofNat (xs.getD k 0))) := by
  simp [ivN, List.getElem?_eq_getElem hk, List.getD_eq_getElem?_getD]
theorem iv_set (xs : List Nat) (k x : Nat) : (ivN xs).set k (.int (Int32.ofNat x)) = ivN (xs.set k x) := by simp [ivN, List.map_set]
theorem iv_rep (k : Nat) : List.replicate k (Value.int 0) = ivN (List.replicate k 0) := by simp [ivN]
theorem iv_fit (xs : List Nat) : ∀ v ∈ ivN xs, fits .int v = true := by
  intro v hv
  obtain ⟨x, -, rfl⟩ := List.mem_map.mp hv
  rfl
theorem n_tnc {k : Nat} (h : k < 2 ^ 31) : (Int32.ofNat k).toNatClampNeg = k := (len32 h).1
theorem n_nneg {k : Nat} (h : k < 2 ^ 31) : ¬ Int32.ofNat k < 0 := (len32 h).2
theorem n_toInt {k : Nat} (h : k < 2 ^ 31) : (Int32.ofNat k).toInt = k := len_toInt h
theorem n_lt {a b : Nat} (ha : a < 2 ^ 31) (hb : b < 2 ^ 31) : Int32.ofNat a < Int32.ofNat b ↔ a < b := by
  rw [Int32.lt_iff_toInt_lt, n_toInt ha, n_toInt hb]; exact Int.ofNat_lt
theorem n_eq {a b : Nat} (ha : a < 2 ^ 31) (hb : b < 2 ^ 31) : Int32.ofNat a = Int32.ofNat b ↔ a = b := by
  rw [← Int32.toInt_inj, n_toInt ha, n_toInt hb]; exact Int.natCast_inj
theorem n_add (a b : Nat) : Int32.ofNat a + Int32.ofNat b = Int32.ofNat (a + b) := (Int32.ofNat_add a b).symm
theorem n_one (a : Nat) : Int32.ofNat a + 1 = Int32.ofNat (a + 1) := (Int32.ofNat_add a 1).symm
section NatSteps
variable {p : Program} {l : Launch} {e : Env} {R : Room} {s : State} {m : MethodId} {args : Array Value} {below : List Frame} {meth : Method} {c : Code} {cells slots : Nat} {Z : State} {a0 : Array Value} {h : Heap} {y : MethodName} {code : ByteArray} {ml : Nat} {ret : Option FieldType} {cI : List (Nat × Int32)} {cJ : List (Nat × Int64)} {EE : Outcome → State → List Loc → Prop} {n0 nz : Nat} {Q : Option Value → Heap → Prop} {pc pn : Nat} {ls : List Slot} {st : List Value} {ss : Stc} {es : List Ent}
theorem h_ldn {a : Addr} {xs : List Nat} {i k : Nat} (K : Cx EE R n0 nz p s m args meth c Z y code ml ret cI cJ) (H : Hp Z ss h es) (hi : es[i]? = some (a, .inr .int, ivN xs)) (hk : k < xs.length) (h31 : k < 2 ^ 31) (hd : decode code pc = .ok (.iaload, 1)) (hn : pc + 1 = pn) (W : WP p l e R s m args below meth c EE n0 nz Q h cells slots pn ls (.int (Int32.ofNat (xs.getD k 0)) :: st)) : WP p l e R s m args below meth c EE n0 nz Q h cells slots pc ls (.int (Int32.ofNat k) :: .ref a :: st) :=
  f_ld_i K (H.arr hi) hd hn (n_nneg h31) (by rw [n_tnc h31]; exact iv_get hk) W
theorem h_stn {a : Addr} {xs : List Nat} {i k x : Nat} {es' : List Ent} (K : Cx EE R n0 nz p s m args meth c Z y code ml ret cI cJ) (H : Hp Z ss h es) (hi : es[i]? = some (a, .inr .int, ivN xs)) (hk : k < xs.length) (h31 : k < 2 ^ 31) (hu : putA es i (a, .inr .int, ivN (xs.set k x)) some = some es') (hd : decode code pc = .ok (.iastore, 1)) (hn : pc + 1 = pn) (hg : n0 ≤ a)
    (W : ∀ h', Hp Z ss h' es' → WP p l e R s m args below meth c EE n0 nz Q h' cells slots pn ls st) : WP p l e R s m args below meth c EE n0 nz Q h cells slots pc ls (.int (Int32.ofNat x) :: .int (Int32.ofNat k) :: .ref a :: st) := by
  obtain ⟨-, hu'⟩ := putA_ok _ _ _ _ _ hu
  obtain rfl := Option.some.inj hu'
  refine f_st_i K (H.arr hi) hd hn hg (n_nneg h31) (by rw [n_tnc h31, iv_len]; exact hk) fun h' Wr' A => W h' (H.wr Wr' hi ?_)
  rw [n_tnc h31, iv_set] at A
  exact A
theorem h_newn {k : Nat} (K : Cx EE R n0 nz p s m args meth c Z y code ml ret cI cJ) (H : Hp Z ss h es) (w : (Jvm.Cond.arrayClass (newarray.typeOf .int)).before a0 Z = true) (hd : decode code pc = .ok (.newarray .int, 2)) (hn : pc + 2 = pn) (h31 : k < 2 ^ 31) (cap : Nat) (hcap : k ≤ cap) (hb' : cap * 8 ≤ 536870912) (hc : cells + 1 ≤ R.cells) (hl : slots + cap ≤ R.slots)
    (W : ∀ h' a, n0 ≤ a → Hp Z ss h' ((a, .inr .int, ivN (List.replicate k 0)) :: es) → WP p l e R s m args below meth c EE n0 nz Q h' (cells + 1) (slots + cap) pn ls (.ref a :: st)) : WP p l e R s m args below meth c EE n0 nz Q h cells slots pc ls (.int (Int32.ofNat k) :: st) :=
  h_newarr (n := Int32.ofNat k) K H w hd hn (ivN (List.replicate k 0)) (by rw [n_tnc h31]; exact (iv_rep k).symm) (n_nneg h31) cap (by rw [n_tnc h31]; exact hcap) hb' hc hl W
theorem h_lenn {a : Addr} {xs : List Nat} {i : Nat} (K : Cx EE R n0 nz p s m args meth c Z y code ml ret cI cJ) (H : Hp Z ss h es) (hi : es[i]? = some (a, .inr .int, ivN xs)) (hd : decode code pc = .ok (.arraylength, 1)) (hn : pc + 1 = pn) (W : WP p l e R s m args below meth c EE n0 nz Q h cells slots pn ls (.int (Int32.ofNat xs.length) :: st)) : WP p l e R s m args below meth c EE n0 nz Q h cells slots pc ls (.ref a :: st) :=
  h_len K H hi hd hn (Int32.ofNat xs.length) (by rw [iv_len]) W
end NatSteps
end Jvm.Own
namespace Jvm.Own
open Sem ClassFile Op Lib Jvm.Stand Jvm.Free Jvm.LawKit Jvm.RoadKit
/-! own layer 5: String constants that may be loaded for the first time -/
def Old (Z : State) (h : Heap) : Prop := ∀ (b : Addr) (cl : Cell), Z.heap[b]? = some cl → h[b]? = some cl
theorem arr_ne {Z : State} {h : Heap} {a b : Addr} {ty1 ty2 : FieldType} {vs1 vs2 : List Value} (A : Ars Z h a ty1 vs1) (B : Ars Z h b ty2 vs2) (hn : ty1 ≠ ty2) : a ≠ b := by
  rintro rfl
  obtain ⟨⟨c1, ⟨h1, ⟨-, k1, hk1, p1, e1⟩, -⟩, -⟩, -⟩ := A
  obtain ⟨⟨c2, ⟨g1, ⟨-, k2, hk2, p2, e2⟩, -⟩, -⟩, -⟩ := B
  cases h1.symm.trans g1
  cases hk1.symm.trans hk2
  rw [e1] at e2
  injection e2 with _ e3
  exact hn e3
theorem obj_arr_ne {Z : State} {h : Heap} {a b : Addr} {a0 : Array Value} {C : String} {kk : Nat} {ty : FieldType} {vs : List Value} (w : (Jvm.Cond.instantiable C kk).before a0 Z = true) (A : Exa Z h a C) (B : Ars Z h b ty vs) : a ≠ b := by
  rintro rfl
  obtain ⟨c1, k1, h1, h2, h3, -⟩ := A
  obtain ⟨⟨c2, ⟨g1, ⟨-, k2, hk2, p2, e2⟩, -⟩, -⟩, -⟩ := B
  cases h1.symm.trans g1
  obtain ⟨cI, kI, hfI, hkI, hkindI, -⟩ := Cond.instantiable_spec w
  cases h2.symm.trans hfI
  cases hkI.symm.trans hk2
  rw [hkindI] at e2; cases e2
end Jvm.Own
namespace Jvm.Own
open Sem ClassFile Op Lib Jvm.Stand Jvm.Free Jvm.LawKit Jvm.RoadKit
/-! own layer 6: String constants kept throughout (RW14), calls up the chain, read-only entries -/
theorem own_decl {Z : State} {a0 : Array Value} {y : MethodName} {bytes : ByteArray} {maxL : Nat} {ret : Option FieldType} (wi : (Jvm.Cond.instanceMethod y).before a0 Z = true) (wc : (Jvm.Cond.code y bytes maxL ret).before a0 Z = true) : (Jvm.Cond.declares y).before a0 Z = true := by
  obtain ⟨mk, methM, hnamed, hmethM, hstM, habM⟩ := Cond.instanceMethod_spec wi
  obtain ⟨m2, cM, q1, -, -, -, -, -, -, hsig⟩ := Cond.code_spec hnamed wc
  cases hmethM.symm.trans q1
  simp [Cond.before, Cond.holds, Cond.value, hnamed, hmethM, hstM, hsig]
theorem own_nf {s : State} {args : Array Value} {y y2 : MethodName} {D2 : String} (hsel : (Jvm.Cond.selects D2 y2 y2).before args s = true) (hc : y2.cls = y.cls) : NotFace s y := fun r0 h0 => by
  obtain ⟨c2, r2, m2, -, -, q3, -⟩ := Cond.selects_spec hsel
  obtain ⟨kr, hk, hi⟩ := notFace_of_selects hsel m2 q3
  have e1 := findClass_of_methodNamed q3
  rw [hc, findClass_of_methodNamed h0] at e1
  have e2 : r0.1 = m2.1 := Option.some.inj e1
  rw [← e2] at hk
  exact ⟨kr, hk, hi⟩
theorem own_same {Z : State} {a0 : Array Value} {y y2 : MethodName} {D2 : String} (wi : (Jvm.Cond.instanceMethod y).before a0 Z = true) (hsel : (Jvm.Cond.selects D2 y2 y2).before a0 Z = true) (hc : y2.cls = y.cls) (hy : y.cls ≠ "java/lang/invoke/MethodHandle" ∧ y.cls ≠ "java/lang/invoke/VarHandle") : (Jvm.Cond.sameMethod y.cls y.cls y.name y.desc).before a0 Z = true := by
  obtain ⟨mk, methM, hnamed, hmethM, hstM, habM⟩ := Cond.instanceMethod_spec wi
  obtain ⟨kr, hk, hi⟩ := own_nf hsel hc mk hnamed
  have hf := State.methodFound?_of_named hnamed hy
  have hcl := findClass_of_methodNamed hnamed
  have hnamed' : Z.methodNamed? ⟨y.cls, y.name, y.desc⟩ = some mk := hnamed
  simp [Cond.before, Cond.holds, Cond.value, hcl, hf, hnamed', hk, hi]
theorem exa_ne {Z : State} {h : Heap} {a b : Addr} {C D : String} (A : Exa Z h a C) (B : Exa Z h b D) (hn : C ≠ D) : a ≠ b := by
  rintro rfl
  obtain ⟨c1, k1, h1, h2, -⟩ := A
  obtain ⟨c2, k2, g1, g2, -⟩ := B
  cases h1.symm.trans g1
  exact ids_ne h2 g2 hn rfl
/-- an entry that is only read from now on -/
theorem Hp.freeze {Z : State} {ss : Stc} {h : Heap} {e : Ent} {es : List Ent} (H : Hp Z ss h (e :: es)) : Hp Z ⟨ss.st, ss.EL, ss.vm, e :: ss.ro⟩ h es := by
  have T := H.tail
  refine ⟨T.1, T.2.1, T.2.2.1, T.2.2.2.1, T.2.2.2.2.1, consI ⟨H.2.1 e (List.mem_cons_self ..), fun q hq => ?_⟩ T.2.2.2.2.2⟩
  have nd := H.2.2.1
  rw [List.map_cons, List.nodup_cons] at nd
  exact fun e1 => nd.1 (e1 ▸ List.mem_map_of_mem hq)
/-- read-only entries are forgotten -/
theorem Hp.trim {Z : State} {ss : Stc} {h : Heap} {es : List Ent} (H : Hp Z ss h es) (ro : List Ent) (hr : ∀ r ∈ ro, r ∈ ss.ro) : Hp Z ⟨ss.st, ss.EL, ss.vm, ro⟩ h es := ⟨H.1, H.2.1, H.2.2.1, H.2.2.2.1, H.2.2.2.2.1, fun r q => H.2.2.2.2.2 r (hr r q)⟩
theorem rd_fld {Z : State} {ss : Stc} {h : Heap} {es : List Ent} {i j : Nat} {a : Addr} {C : String} {F : Fds} {vs : List Value} {f : String × String × String} {v : Value} (H : Hp Z ss h es) (hi : ss.ro[i]? = some (a, .inl (C, F), vs)) (hj : F[j]? = some f) (hv : vs[j]? = some v) : Fld Z h a f.1 f.2.1 f.2.2 v := (H.rd hi).2.2 j f v hj hv
theorem Hp.rot3 {Z : State} {ss : Stc} {h : Heap} {a b d : Ent} {es es' : List Ent} (H : Hp Z ss h (a :: b :: d :: es)) (he : b :: d :: a :: es = es') : Hp Z ss h es' := by
  subst he
  exact (H.front 1 rfl).front 2 rfl |>.front 1 rfl
theorem Hp.drop2 {Z : State} {ss : Stc} {h : Heap} {a b : Ent} {es : List Ent} (H : Hp Z ss h (a :: b :: es)) : Hp Z ss h (a :: es) := (H.front 1 rfl).tail
theorem Hp.fldv {Z : State} {ss : Stc} {h : Heap} {es : List Ent} {i j : Nat} {a : Addr} {C : String} {F : Fds} {vs : List Value} {f : String × String × String} {v : Value} (H : Hp Z ss h es) (hi : es[i]? = some (a, .inl (C, F), vs)) (hj : F[j]? = some f) (hv : vs[j]? = some v) : Fld Z h a f.1 f.2.1 f.2.2 v := (H.obj hi).2.2 j f v hj hv
section HeldSteps
variable {p : Program} {l : Launch} {e : Env} {R : Room} {s : State} {m : MethodId} {args : Array Value} {below : List Frame} {meth : Method} {c : Code} {cells slots : Nat} {Z : State} {a0 : Array Value} {h : Heap} {y : MethodName} {code : ByteArray} {ml : Nat} {ret : Option FieldType} {cI : List (Nat × Int32)} {cJ : List (Nat × Int64)} {EE : Outcome → State → List Loc → Prop} {n0 nz : Nat} {Q : Option Value → Heap → Prop} {pc pn : Nat} {ls : List Slot} {st : List Value} {ss : Stc} {es : List Ent} {s0 : State} {nE nzE : Nat}
/-- 'ldc' of a String constant of the list, at any time: its cells go to the read-only entries -/
theorem h_ldcH {text : String} {index : Nat} {vs : List Value} {z : Int32} {F : Fds} (fb : Addr → List Value) (K : Cx EE R n0 nz p s m args meth c Z y code ml ret cI cJ) (D : Wd s0 EE R nE nzE s nz) (hnE : nE ≤ n0) (H : Hp Z ss h es) (hvm : ss.vm = s.vm)
    (w : (Jvm.Cond.stringLink y.cls index text).before a0 Z = true) (wS : ∀ a ∈ Bundle.stringAtoms, a.before a0 Z = true) (hEL : EW Z a0 ss.EL) (hmem : (y.cls, index) ∈ ss.EL)
    (ht : (∀ c ∈ text.toList, c.toNat < 256) ∧ text.toList.map (fun c => Value.int (Jvm.Lit.byteI c.toNat.toUInt16)) = vs) (hz : ¬ z < 0) (hlz : z.toNatClampNeg = vs.length)
    (hF : ∀ b : Addr, ∀ (j : Nat) (f : String × String × String) (v : Value), F[j]? = some f → (fb b)[j]? = some v → (f = ("java/lang/String", "coder", "B") ∧ v = .int 0) ∨ (f = ("java/lang/String", "value", "[B") ∧ v = .ref b)) (hFl : ∀ b : Addr, F.length = (fb b).length)
    (hd : decode code pc = .ok (.ldc index, 2)) (hn : pc + 2 = pn) (n : Nat) (hn4 : 4 * text.toList.length ≤ n) (hbig : n ≤ 536870912) (hc : cells + 2 ≤ R.cells) (hl : slots + (n + 4) ≤ R.slots)
    (W : ∀ s' nz' h' a b, Wd s0 EE R nE nzE s' nz' → Cx EE R n0 nz' p s' m args meth c Z y code ml ret cI cJ → Hp Z ⟨ss.st, ss.EL, s'.vm, (a, .inl ("java/lang/String", F), fb b) :: (b, .inr .byte, vs) :: ss.ro⟩ h' es →
      WP p l e R s' m args below meth c EE n0 nz' Q h' (cells + 2) (slots + (n + 4)) pn ls (.ref a :: st)) : WP p l e R s m args below meth c EE n0 nz Q h cells slots pc ls st := by
  subst hn
  have K0 := K.hnz
  obtain ⟨hx, hby, hml, hZ, hown, -⟩ := id K
  intro T locs X e0 N0 Z0
  obtain ⟨hE, h1, vm0, k, hs0, hS, hk⟩ := D
  subst hs0
  have HC : CHv Z ss.EL vm0 h := by have := H.2.2.2.1; rw [hvm] at this; exact this
  obtain ⟨a, T', h', k1, b, kk, X', e', E, hS', hk', hZ', hown', A, F1, F2, V, la, lb, hC, L, hsf, stp⟩ := ldcCH X hx hZ hown w wS e0 hS (Nat.le_trans hk Z0) hEL hmem HC ht hz hlz (g := mkF m pc ls.toArray st) rfl (hb hby hd) hn4 hbig hc hl
  have D' : Wd s0 EE R nE nzE (s0.setVm T'.vm) h'.size := ⟨hE, Nat.le_trans h1 (Nat.le_trans Z0 E.1), T'.vm, k1, rfl, hS', hk'⟩
  have K' := K.move (s1 := s0.setVm T'.vm) hZ' hown' (Nat.le_trans K0 (Nat.le_trans Z0 E.1)) (D'.ender hnE)
  have V2 : Ars Z h' b .byte vs := by
    obtain ⟨cl, A1, -, S, -, Hs, -⟩ := V
    refine ⟨⟨cl, A1, Array.ext_getElem? fun i => ?_⟩, fun hn => absurd (by decide) hn⟩
    by_cases hi : i < cl.slots.size
    · rw [Hs i hi]
      have h2 : i < vs.length := by omega
      simp [List.getD_eq_getElem?_getD, List.getElem?_eq_getElem h2]
    · have h2 : ¬ i < vs.length := by omega
      simp [hi, h2]
  have Sf : ∀ q ∈ es, Safe Z ss.EL T'.vm h' q.1 := fun q hq => hC.safe (H.2.1 q hq).lt (by have := H.2.2.2.2.1 q hq; rw [hvm] at this; exact this)
  have He := H.ext E
  have O1 : entOk Z h' (a, .inl ("java/lang/String", F), fb b) := ⟨A, hFl b, fun j f v q1 q2 => by
    rcases hF b j f v q1 q2 with ⟨rfl, rfl⟩ | ⟨rfl, rfl⟩
    · exact F1
    · exact F2⟩
  have H' : Hp Z ⟨ss.st, ss.EL, (s0.setVm T'.vm).vm, (a, .inl ("java/lang/String", F), fb b) :: (b, .inr .byte, vs) :: ss.ro⟩ h' es :=
    ⟨He.1, He.2.1, He.2.2.1, hC.1, Sf, consI ⟨O1, fun q hq => (hsf _ (Sf q hq)).1⟩ (consI ⟨V2, fun q hq => (hsf _ (Sf q hq)).2⟩ He.2.2.2.2.2)⟩
  obtain ⟨t, o, g1, g2⟩ := W _ _ h' a b D' K' H' T' locs X' e' N0 (Nat.le_refl _)
  exact ⟨t, o, stp _ g1, g2⟩
theorem f_ldcw {index : Nat} {z : Int32} (K : Cx EE R n0 nz p s m args meth c Z y code ml ret cI cJ) (w : (Jvm.Cond.constant y.cls index z).before a0 Z = true) (hd : decode code pc = .ok (.ldc_w index, 3)) (hn : pc + 3 = pn) (W : WP p l e R s m args below meth c EE n0 nz Q h cells slots pn ls (.int z :: st)) : WP p l e R s m args below meth c EE n0 nz Q h cells slots pc ls st := by
  subst hn
  obtain ⟨hx, hby, hml, hZ, hown, -⟩ := K
  exact WP.plain (fun T locs X e0 t k => X.ldcWInt hx hown (mv hZ w) (g := mkF m pc ls.toArray st) rfl (hb hby hd) t k) W
/-- a virtual call whose entry names a class that is no interface by another word -/
theorem call_vn {y1' y' y2 : MethodName} {D D2 : String} {code' : ByteArray} {ml' : Nat} {ret' : Option FieldType} {rm : Room} {as' : Array Value} {Q' : Option Value → Heap → Prop} {idx : Nat} {ps : List FieldType} {rt : Option FieldType} {a : Addr}
    (K : Cx EE R n0 nz p s m args meth c Z y code ml ret cI cJ) (w7 : (Jvm.Cond.selects D2 y2 y2).before a0 Z = true) (hc7 : y2.cls = y1'.cls) (w1 : (Jvm.Cond.methodLink y.cls idx y1').before a0 Z = true) (w2 : (Jvm.Cond.declares y1').before a0 Z = true) (w5 : (Jvm.Cond.selects D y1' y').before a0 Z = true) (w6 : (Jvm.Cond.instanceMethod y').before a0 Z = true) (w3 : (Jvm.Cond.initialized y'.cls).before a0 Z = true) (w4 : (Jvm.Cond.code y' code' ml' ret').before a0 Z = true) (E : Exa Z h a D)
    (C : Con l Z n0 y' code' ml' ret' [] rm as' h Q') (hd : decode code pc = .ok (.invokevirtual idx, 3)) (hn : pc + 3 = pn) (hls : ls.length = ml) (argsL : List Value) (rest : List Value) (has : (Value.ref a :: argsL).toArray = as') (hst : st = argsL.reverse ++ .ref a :: rest) (hpd : parseMethodDescriptor y1'.desc = some ⟨ps, rt⟩) (hlen : argsL.length = ps.length)
    (hy : y1'.cls ≠ "java/lang/invoke/MethodHandle" ∧ y1'.cls ≠ "java/lang/invoke/VarHandle") (W : Nat) (hW : (rest.map fun v => v.category).sum ≤ W) (hf : rm.frames + 1 ≤ R.frames) (hl : W + (ml' + 11) + rm.locals ≤ R.locals) (hcl : cells + rm.cells ≤ R.cells) (hsl : slots + rm.slots ≤ R.slots)
    (next : ∀ v h', Q' v h' → WP p l e R s m args below meth c EE n0 nz Q h' (cells + rm.cells) (slots + rm.slots) pn ls (v.toList ++ rest)) : WP p l e R s m args below meth c EE n0 nz Q h cells slots pc ls st := by
  intro T locs X e0 N0 Z0
  obtain ⟨hx, hby, hml, hZ, hown, -⟩ := id K
  subst has hn
  obtain ⟨cq, kq, q1, q2, q3⟩ := isOf hZ e0 E
  obtain ⟨v, _, ⟨T', L', k', n'⟩, -, X', ⟨Lc, ⟨hQ, hN, hS⟩, l1, y1, z1⟩, st1⟩ := X.virtualBack hx (y := y1') (z := y') hown (mvT hZ w1) (mvT hZ w2) (own_nf (mvT (args := args) hZ w7) hc7) (mvT hZ w5) (mvT hZ w6) hy (backOf (W := W) (Q := fun v hp L => Q' v hp ∧ Fr n0 L ∧ nz ≤ hp.size) (C nz K.hnz Z0) hZ w4 w3 hf hl) q1 q3 (g := mkF m pc ls.toArray st) rfl (by rw [hml]; simpa using hls) (Steps.refl _) (argsL := argsL) (rest := rest) (lenOf hpd hlen) hst (by show 2 * 0 + _ ≤ _; omega) (hb hby hd) (fun _ _ => ⟨rfl, e0, hcl, hsl⟩)
  dsimp only [Pt.U, Pt.locs, Pt.cells, Pt.slots] at X' l1 y1 z1 st1 hQ hN hS
  subst l1 y1 z1
  obtain ⟨t, o, g1, g2⟩ := next v _ hQ T' _ X' rfl (Fr.app N0 hN) hS
  exact ⟨t, o, st1.trans g1, g2⟩
/-- 'super.m(..)' -/
theorem call_sup {y' y2 : MethodName} {D D2 : String} {code' : ByteArray} {ml' : Nat} {ret' : Option FieldType} {rm : Room} {as' : Array Value} {Q' : Option Value → Heap → Prop} {idx : Nat} {ps : List FieldType} {rt : Option FieldType} {a : Addr}
    (K : Cx EE R n0 nz p s m args meth c Z y code ml ret cI cJ) (w7 : (Jvm.Cond.selects D2 y2 y2).before a0 Z = true) (hc7 : y2.cls = y'.cls) (w1 : (Jvm.Cond.methodLink y.cls idx y').before a0 Z = true) (w2 : (Jvm.Cond.instanceMethod y').before a0 Z = true) (w8 : (Jvm.Cond.superclass y.cls y'.cls).before a0 Z = true) (w3 : (Jvm.Cond.initialized y'.cls).before a0 Z = true) (w4 : (Jvm.Cond.code y' code' ml' ret').before a0 Z = true) (E : Exa Z h a D)
    (C : Con l Z n0 y' code' ml' ret' [] rm as' h Q') (hd : decode code pc = .ok (.invokespecial idx, 3)) (hn : pc + 3 = pn) (hni : y'.name ≠ "<init>") (hls : ls.length = ml) (argsL : List Value) (rest : List Value) (has : (Value.ref a :: argsL).toArray = as') (hst : st = argsL.reverse ++ .ref a :: rest) (hpd : parseMethodDescriptor y'.desc = some ⟨ps, rt⟩) (hlen : argsL.length = ps.length)
    (hy : y'.cls ≠ "java/lang/invoke/MethodHandle" ∧ y'.cls ≠ "java/lang/invoke/VarHandle") (W : Nat) (hW : (rest.map fun v => v.category).sum ≤ W) (hf : rm.frames + 1 ≤ R.frames) (hl : W + (ml' + 11) + rm.locals ≤ R.locals) (hcl : cells + rm.cells ≤ R.cells) (hsl : slots + rm.slots ≤ R.slots)
    (next : ∀ v h', Q' v h' → WP p l e R s m args below meth c EE n0 nz Q h' (cells + rm.cells) (slots + rm.slots) pn ls (v.toList ++ rest)) : WP p l e R s m args below meth c EE n0 nz Q h cells slots pc ls st := by
  intro T locs X e0 N0 Z0
  obtain ⟨hx, hby, hml, hZ, hown, -⟩ := id K
  subst has hn
  obtain ⟨v, _, ⟨T', L', k', n'⟩, -, X', ⟨Lc, ⟨hQ, hN, hS⟩, l1, y1, z1⟩, st1⟩ := superBack X hx hZ (y := y') (K := D) hown w1 (own_same w2 w7 hc7 hy) w2 w8 hni (backOf (W := W) (Q := fun v hp L => Q' v hp ∧ Fr n0 L ∧ nz ≤ hp.size) (C nz K.hnz Z0) hZ w4 w3 hf hl) e0 (Ins.self E) (g := mkF m pc ls.toArray st) rfl (by rw [hml]; simpa using hls) w4 (argsL := argsL) (rest := rest) (lenOf hpd hlen) hst (by show 2 * 0 + _ ≤ _; omega) (hb hby hd) (fun _ _ => ⟨rfl, e0, hcl, hsl⟩)
  dsimp only [Pt.U, Pt.locs, Pt.cells, Pt.slots] at X' l1 y1 z1 st1 hQ hN hS
  subst l1 y1 z1
  obtain ⟨t, o, g1, g2⟩ := next v _ hQ T' _ X' rfl (Fr.app N0 hN) hS
  exact ⟨t, o, st1.trans g1, g2⟩
/-- System.arraycopy from an array that is but read -/
theorem h_copyS {idx j : Nat} {a b : Addr} {ty : FieldType} {vs vd vd' : List Value} {sp dp nn : Int32} {es' : List Ent} (K : Cx EE R n0 nz p s m args meth c Z y code ml ret cI cJ) (H : Hp Z ss h es) (A0 : Ars Z h a ty vs) (hj : es[j]? = some (b, .inr ty, vd)) (hty : refKind ty = false)
    (w1 : (Jvm.Cond.methodLink y.cls idx Jvm.Stand.acN).before a0 Z = true) (w2 : (Jvm.Cond.native Jvm.Stand.acN).before a0 Z = true) (w3 : (Jvm.Cond.static Jvm.Stand.acN).before a0 Z = true) (w4 : (Jvm.Cond.initialized "java/lang/System").before a0 Z = true)
    (hl1 : vs.length < 2 ^ 31) (hl2 : vd.length < 2 ^ 31) (f1 : ∀ v ∈ vs, fits ty v = true) (f2 : ∀ v ∈ vd, fits ty v = true) (h1 : ¬ sp < 0) (h2 : ¬ dp < 0) (h3 : ¬ nn < 0) (h4 : sp.toNatClampNeg + nn.toNatClampNeg ≤ vs.length) (h5 : dp.toNatClampNeg + nn.toNatClampNeg ≤ vd.length)
    (hvd : vd.take dp.toNatClampNeg ++ (vs.drop sp.toNatClampNeg).take nn.toNatClampNeg ++ vd.drop (dp.toNatClampNeg + nn.toNatClampNeg) = vd') (hu : putA es j (b, .inr ty, vd') some = some es')
    (hd : decode code pc = .ok (.invokestatic idx, 3)) (hn : pc + 3 = pn) (hls : ls.length = ml) (hg : n0 ≤ b) (hf : 1 ≤ R.frames) (hlo : (st.map fun v => v.category).sum + (nativeFrameWords "java/lang/System" "arraycopy" 5 + 11) ≤ R.locals)
    (W : ∀ h', Hp Z ss h' es' → WP p l e R s m args below meth c EE n0 nz Q h' cells slots pn ls st) : WP p l e R s m args below meth c EE n0 nz Q h cells slots pc ls (.int nn :: .int dp :: .ref b :: .int sp :: .ref a :: st) := by
  obtain ⟨-, hu'⟩ := putA_ok _ _ _ _ _ hu
  obtain rfl := Option.some.inj hu'
  subst hn
  obtain ⟨hx, hby, hml, hZ, hown, hnm, -⟩ := K
  intro T locs X e0 N0 Z0
  obtain ⟨k1, A1⟩ := A0.arv hl1 f1
  obtain ⟨k2, A2⟩ := (H.arr hj).arv hl2 f2
  have e1 := (len32 hl1).1
  have e2 := (len32 hl2).1
  obtain ⟨T', h', L, X', e', N', K', A', st'⟩ := cpA X hx hZ hown w1 w2 w3 w4 e0 A1 A2 (Or.inl ⟨rfl, hty⟩) h1 h2 h3 (by rw [e1]; exact h4) (by rw [e2]; exact h5) rfl h5 N0 hg (g := mkF m pc ls.toArray (.int nn :: .int dp :: .ref b :: .int sp :: .ref a :: st)) rfl (by rw [hml]; simpa using hls) rfl (hb hby hd) hf (W := (st.map fun v => v.category).sum) (by show 2 * 0 + _ ≤ _; omega) hlo
  have e3 : ((List.range nn.toNatClampNeg).map fun i => vs.getD (sp.toNatClampNeg + i) .null) = (vs.drop sp.toNatClampNeg).take nn.toNatClampNeg := by
    refine List.ext_getElem (by simp; omega) fun k hk1 hk2 => ?_
    have : k < nn.toNatClampNeg := by simpa using hk1
    have h6 : sp.toNatClampNeg + k < vs.length := by omega
    simp [List.getD_eq_getElem?_getD, List.getElem?_eq_getElem h6]
  rw [e3, hvd] at A'
  have hlen : vd'.length = vd.length := by rw [← hvd]; simp; omega
  obtain ⟨t, o, g1, g2⟩ := W h' (H.keep K' hj (Ars.of_arv A' (by rw [e2]; exact hlen) ((H.arr hj).2.keep K'))) T' L X' e' N' (Nat.le_trans Z0 K'.1)
  exact ⟨t, o, st' _ g1, g2⟩
theorem h_stbG {a : Addr} {vs : List Value} {i k : Nat} {x : Int32} {es' : List Ent} (K : Cx EE R n0 nz p s m args meth c Z y code ml ret cI cJ) (H : Hp Z ss h es) (hi : es[i]? = some (a, .inr .byte, vs)) (hk : k < vs.length) (h31 : k < 2 ^ 31) (hu : putA es i (a, .inr .byte, vs.set k (.int (nar .byte x))) some = some es') (hd : decode code pc = .ok (.bastore, 1)) (hn : pc + 1 = pn) (hg : n0 ≤ a)
    (W : ∀ h', Hp Z ss h' es' → WP p l e R s m args below meth c EE n0 nz Q h' cells slots pn ls st) : WP p l e R s m args below meth c EE n0 nz Q h cells slots pc ls (.int x :: .int (Int32.ofNat k) :: .ref a :: st) := by
  obtain ⟨-, hu'⟩ := putA_ok _ _ _ _ _ hu
  obtain rfl := Option.some.inj hu'
  refine f_st_b K (H.arr hi) hd hn hg (n_nneg h31) (by rw [n_tnc h31]; exact hk) fun h' Wr' A => W h' (H.wr Wr' hi ?_)
  rw [n_tnc h31] at A
  exact A
end HeldSteps
/-- a contract of a body that may load constants of EL -/
def ConH (EL : List (String × Nat)) (l : Launch) (Z : State) (n0 : Nat) (y : MethodName) (code : ByteArray) (ml : Nat) (ret : Option FieldType) (ws : List Jvm.Cond) (rm : Room) (as' : Array Value) (h : Heap) (Q : Option Value → Heap → Prop) : Prop :=
  ∀ nz : Nat, n0 ≤ nz → nz ≤ h.size → MetFree l y (head1 (Jvm.Cond.code y code ml ret :: ws) rm) (fun a U => a = as' ∧ Z.Warmed39 U.vm ∧ U.heap = h ∧ CHv Z EL U.vm h) (fun _ _ _ _ _ => True) (fun _ U o U' => ∃ v L, o = .returned v ∧ (Q v U'.heap ∧ Fr n0 L ∧ nz ≤ U'.heap.size) ∧ ReturnedEndW U o U' L rm.cells rm.slots)
theorem ConH.of {EL : List (String × Nat)} {l : Launch} {Z : State} {n0 : Nat} {y : MethodName} {code : ByteArray} {ml : Nat} {ret : Option FieldType} {ws : List Jvm.Cond} {rm : Room} {as' : Array Value} {h : Heap} {Q : Option Value → Heap → Prop} {a0 : Array Value} (cI : List (Nat × Int32)) (cJ : List (Nat × Int64)) (hp : plainFor y = true) (ent : List Slot) (he : ∀ m, entryFrame m as' ml = mkF m 0 ent.toArray [])
    (hI : ∀ q ∈ cI, (Jvm.Cond.constant y.cls q.1 q.2).before a0 Z = true) (hJ : ∀ q ∈ cJ, (Jvm.Cond.constantLong y.cls q.1 q.2).before a0 Z = true)
    (body : ∀ EE nz p e s m below meth c, CHv Z EL s.vm h → Wd s EE rm n0 nz s nz → Cx EE rm n0 nz p s m as' meth c Z y code ml ret cI cJ → WP p l e rm s m as' below meth c EE n0 nz Q h 0 0 0 ent []) : ConH EL l Z n0 y code ml ret ws rm as' h Q := by
  intro nz hnz hn0
  refine MetFree.of_bodySF hp hisR ?_
  intro p e s m args below meth c s₁ Bd hml0 hP hK
  obtain ⟨rfl, hZ, hh, hC⟩ := hP
  have X0 : Stand p l e rm s m args below meth c s₁ [] 0 0 := Stand.of_body Bd
  have e0 : s₁.heap = h := by rw [← hh, Bd.state]; rfl
  have D0 : Wd s (WE n0 nz s rm) rm n0 nz s nz := Wd.start s rm n0 nz nz (Nat.le_refl _)
  obtain ⟨t, o, h1, h2, h3, v, L, e1, hQ, ⟨hF, hN⟩, hE⟩ := body (WE n0 nz s rm) nz p e s m below meth c hC D0 ⟨Bd.exec, Bd.bytes, hml0, hZ, findClass_of_methodNamed Bd.named, (name_of_methodNamed Bd.named Bd.method).1, Bd.returns, BodyLoose.notSynchronized Bd, fun q hq => mv (State.Warmed39.refl Z) (hI q hq), fun q hq => mv (State.Warmed39.refl Z) (hJ q hq), hnz, D0.ender (Nat.le_refl _)⟩ s₁ [] X0 e0 (Fr.nil _) hn0
  exact ⟨t, o, castTop (he m) h1, h2, h3, v, L, e1, ⟨hQ, hF, hN⟩, hE⟩
section HeldCalls
variable {p : Program} {l : Launch} {e : Env} {R : Room} {s : State} {m : MethodId} {args : Array Value} {below : List Frame} {meth : Method} {c : Code} {cells slots : Nat} {Z : State} {a0 : Array Value} {h : Heap} {y : MethodName} {code : ByteArray} {ml : Nat} {ret : Option FieldType} {cI : List (Nat × Int32)} {cJ : List (Nat × Int64)} {EE : Outcome → State → List Loc → Prop} {n0 nz : Nat} {Q : Option Value → Heap → Prop} {pc pn : Nat} {ls : List Slot} {st : List Value} {ss : Stc} {es : List Ent} {s0 : State} {nE nzE : Nat} {EL : List (String × Nat)}
theorem backOfH {vm0 : Vm} {y : MethodName} {bytes : ByteArray} {maxL : Nat} {ret : Option FieldType} {rm : Room} {len W : Nat} {as' : Array Value} {Q : Option Value → Heap → List Loc → Prop}
    (hM : MetFree l y (head1 [Jvm.Cond.code y bytes maxL ret] rm) (fun a U => a = as' ∧ Z.Warmed39 U.vm ∧ U.heap = h ∧ CHv Z EL U.vm h) (fun _ _ _ _ _ => True) (fun _ U o U' => ∃ v L, o = .returned v ∧ Q v U'.heap L ∧ ReturnedEndW U o U' L rm.cells rm.slots))
    (hZ : Z.Warmed39 vm0) (hEL : EW Z a0 EL) (HC : CHv Z EL vm0 h) (wc : (Jvm.Cond.code y bytes maxL ret).before a0 Z = true) (wz : (Jvm.Cond.initialized y.cls).before a0 Z = true) (hf : rm.frames + 1 ≤ R.frames) (hl : W + (maxL + 11) + rm.locals ≤ R.locals) :
    BackS l R p e below (s.setVm vm0) args y len W (fun A a => a = as' ∧ A.U.heap = h ∧ A.cells + rm.cells ≤ R.cells ∧ A.slots + rm.slots ≤ R.slots)
      (fun A _ v B => ∃ L, Q v B.U.heap L ∧ B.locs = A.locs ++ L ∧ B.cells = A.cells + rm.cells ∧ B.slots = A.slots + rm.slots) := by
  refine BackS.of_freeW (bytes := bytes) (maxL := maxL) (ret := ret) (E := fun _ _ o t L k n => (k = rm.cells ∧ n = rm.slots) ∧ ∃ v, o = .returned v ∧ Q v t.heap L) hM hf hl ?_ ?_ (fun _ _ _ _ _ _ _ _ _ => trivial) ?_ ?_
  · intro m meth c A a Y hp
    have hU : Z.Warmed39 A.U.vm := wtrans (s := s.setVm vm0) hZ Y.warmed
    exact ⟨by show (Cond.and _ .tt).before a A.U = true; rw [Cond.before_and, mv hU wc]; rfl, mv hU wc, mv hU wz, hp.2.2.1, hp.2.2.2⟩
  · intro m meth c A a g mk Y hp
    exact ⟨hp.1, wtrans (s := s.setVm vm0) hZ Y.warmed, hp.2.1, (CHv.at Y hZ hEL HC).1⟩
  · rintro _ _ _ _ ⟨v, L, h1, h2, h3⟩
    exact ⟨L, _, _, h3, ⟨rfl, rfl⟩, v, h1, h2⟩
  · rintro m meth c A a g mk v t L k n Y hp - - ⟨⟨rfl, rfl⟩, v', e3, e4⟩
    cases e3
    exact ⟨L, e4, rfl, rfl, rfl⟩
theorem call_iH {y' : MethodName} {code' : ByteArray} {ml' : Nat} {rm : Room} {as' : Array Value} {Q' : Option Value → Heap → Prop} {idx : Nat} {ps : List FieldType} {rt : Option FieldType} {a : Addr}
    (K : Cx EE R n0 nz p s m args meth c Z y code ml ret cI cJ) (D : Wd s0 EE R nE nzE s nz) (hnE : nE ≤ n0) (hEL : EW Z a0 EL) (HC : CHv Z EL s.vm h) (hy1 : y'.name = "<init>") (w1 : (Jvm.Cond.methodLink y.cls idx y').before a0 Z = true) (w2 : (Jvm.Cond.instanceMethod y').before a0 Z = true) (w3 : (Jvm.Cond.initialized y'.cls).before a0 Z = true) (w4 : (Jvm.Cond.code y' code' ml' none).before a0 Z = true)
    (C : ConH EL l Z n0 y' code' ml' none [] rm as' h Q') (hd : decode code pc = .ok (.invokespecial idx, 3)) (hn : pc + 3 = pn) (hls : ls.length = ml) (argsL : List Value) (rest : List Value) (has : (Value.ref a :: argsL).toArray = as') (hst : st = argsL.reverse ++ .ref a :: rest) (hpd : parseMethodDescriptor y'.desc = some ⟨ps, rt⟩) (hlen : argsL.length = ps.length)
    (hy : y'.cls ≠ "java/lang/invoke/MethodHandle" ∧ y'.cls ≠ "java/lang/invoke/VarHandle") (W : Nat) (hW : (rest.map fun v => v.category).sum ≤ W) (hf : rm.frames + 1 ≤ R.frames) (hl : W + (ml' + 11) + rm.locals ≤ R.locals) (hcl : cells + rm.cells ≤ R.cells) (hsl : slots + rm.slots ≤ R.slots)
    (next : ∀ v s' nz' h', Q' v h' → Wd s0 EE R nE nzE s' nz' → Cx EE R n0 nz' p s' m args meth c Z y code ml ret cI cJ → WP p l e R s' m args below meth c EE n0 nz' Q h' (cells + rm.cells) (slots + rm.slots) pn ls (v.toList ++ rest)) : WP p l e R s m args below meth c EE n0 nz Q h cells slots pc ls st := by
  intro T locs X e0 N0 Z0
  obtain ⟨hx, hby, hml, hZ, hown, -⟩ := id K
  subst has hn
  obtain ⟨hE, d1, vm0, k0, hs0, hS, hk⟩ := D
  subst hs0
  obtain ⟨v, _, ⟨T', L', k', n'⟩, -, X', hS', hgr, ⟨Lc, ⟨hQ, hN, hZ2⟩, l1, y1, z1⟩, st1⟩ := X.specialBackS hx (y := y') hy1 hown (mvT hZ w1) (mvT hZ w2) (mvT hZ w4) hy (backOfH (W := W) (Q := fun v hp L => Q' v hp ∧ Fr n0 L ∧ nz ≤ hp.size) (C nz K.hnz Z0) hZ hEL HC w4 w3 hf hl) (g := mkF m pc ls.toArray st) rfl (by rw [hml]; simpa using hls) (Steps.refl _) (a := a) (argsL := argsL) (rest := rest) (lenOf hpd hlen) hst (by show 2 * 0 + _ ≤ _; omega) (hb hby hd) (fun _ _ => ⟨rfl, e0, hcl, hsl⟩)
  dsimp only [Pt.U, Pt.locs, Pt.cells, Pt.slots] at X' l1 y1 z1 st1 hQ hN hZ2 hS' hgr
  subst l1 y1 z1
  have gg : nz ≤ T'.heap.size := hZ2
  have D' : Wd s0 EE R nE nzE (s0.setVm T'.vm) T'.heap.size := ⟨hE, Nat.le_trans d1 gg, T'.vm, _, rfl, hS.trans hS' (Nat.le_trans hk gg), Nat.le_refl _⟩
  have hZ' : Z.Warmed39 (s0.setVm T'.vm).vm := State.Warmed39.trans (t := s0.setVm vm0) hZ hS'.1
  have hown' : (s0.setVm T'.vm).vm.findClass y.cls = some m.cls := by rw [show (s0.setVm T'.vm).vm = T'.vm from rfl, hS'.1.alike.findClass]; exact hown
  obtain ⟨t, o, g1, g2⟩ := next v _ _ _ hQ D' (K.move (s1 := s0.setVm T'.vm) hZ' hown' (Nat.le_trans K.hnz gg) (D'.ender hnE)) T' _ X' rfl (Fr.app N0 hN) (Nat.le_refl _)
  exact ⟨t, o, st1.trans g1, g2⟩
/-- a virtual call of a body that may load constants of EL -/
theorem call_vH {y' : MethodName} {D2 : String} {code' : ByteArray} {ml' : Nat} {ret' : Option FieldType} {rm : Room} {as' : Array Value} {Q' : Option Value → Heap → Prop} {idx : Nat} {ps : List FieldType} {rt : Option FieldType} {a : Addr}
    (K : Cx EE R n0 nz p s m args meth c Z y code ml ret cI cJ) (D : Wd s0 EE R nE nzE s nz) (hnE : nE ≤ n0) (hEL : EW Z a0 EL) (HC : CHv Z EL s.vm h) (w1 : (Jvm.Cond.methodLink y.cls idx y').before a0 Z = true) (w2 : (Jvm.Cond.declares y').before a0 Z = true) (w5 : (Jvm.Cond.selects D2 y' y').before a0 Z = true) (w6 : (Jvm.Cond.instanceMethod y').before a0 Z = true) (w3 : (Jvm.Cond.initialized y'.cls).before a0 Z = true) (w4 : (Jvm.Cond.code y' code' ml' ret').before a0 Z = true) (E : Exa Z h a D2)
    (C : ConH EL l Z n0 y' code' ml' ret' [] rm as' h Q') (hd : decode code pc = .ok (.invokevirtual idx, 3)) (hn : pc + 3 = pn) (hls : ls.length = ml) (argsL : List Value) (rest : List Value) (has : (Value.ref a :: argsL).toArray = as') (hst : st = argsL.reverse ++ .ref a :: rest) (hpd : parseMethodDescriptor y'.desc = some ⟨ps, rt⟩) (hlen : argsL.length = ps.length)
    (hy : y'.cls ≠ "java/lang/invoke/MethodHandle" ∧ y'.cls ≠ "java/lang/invoke/VarHandle") (W : Nat) (hW : (rest.map fun v => v.category).sum ≤ W) (hf : rm.frames + 1 ≤ R.frames) (hl : W + (ml' + 11) + rm.locals ≤ R.locals) (hcl : cells + rm.cells ≤ R.cells) (hsl : slots + rm.slots ≤ R.slots)
    (next : ∀ v s' nz' h', Q' v h' → Wd s0 EE R nE nzE s' nz' → Cx EE R n0 nz' p s' m args meth c Z y code ml ret cI cJ → WP p l e R s' m args below meth c EE n0 nz' Q h' (cells + rm.cells) (slots + rm.slots) pn ls (v.toList ++ rest)) : WP p l e R s m args below meth c EE n0 nz Q h cells slots pc ls st := by
  intro T locs X e0 N0 Z0
  obtain ⟨hx, hby, hml, hZ, hown, -⟩ := id K
  subst has hn
  obtain ⟨cq, kq, q1, q2, q3⟩ := isOf hZ e0 E
  obtain ⟨hE, d1, vm0, k0, hs0, hS, hk⟩ := D
  subst hs0
  obtain ⟨v, _, ⟨T', L', k', n'⟩, -, X', hS', hgr, ⟨Lc, ⟨hQ, hN, hZ2⟩, l1, y1, z1⟩, st1⟩ := X.virtualBackS hx (y := y') (z := y') hown (mvT hZ w1) (mvT hZ w2) (own_nf (mvT (args := args) hZ w5) rfl) (mvT hZ w5) (mvT hZ w6) hy (backOfH (W := W) (Q := fun v hp L => Q' v hp ∧ Fr n0 L ∧ nz ≤ hp.size) (C nz K.hnz Z0) hZ hEL HC w4 w3 hf hl) q1 q3 (g := mkF m pc ls.toArray st) rfl (by rw [hml]; simpa using hls) (Steps.refl _) (argsL := argsL) (rest := rest) (lenOf hpd hlen) hst (by show 2 * 0 + _ ≤ _; omega) (hb hby hd) (fun _ _ => ⟨rfl, e0, hcl, hsl⟩)
  dsimp only [Pt.U, Pt.locs, Pt.cells, Pt.slots] at X' l1 y1 z1 st1 hQ hN hZ2 hS' hgr
  subst l1 y1 z1
  have gg : nz ≤ T'.heap.size := hZ2
  have D' : Wd s0 EE R nE nzE (s0.setVm T'.vm) T'.heap.size := ⟨hE, Nat.le_trans d1 gg, T'.vm, _, rfl, hS.trans hS' (Nat.le_trans hk gg), Nat.le_refl _⟩
  have hZ' : Z.Warmed39 (s0.setVm T'.vm).vm := State.Warmed39.trans (t := s0.setVm vm0) hZ hS'.1
  have hown' : (s0.setVm T'.vm).vm.findClass y.cls = some m.cls := by rw [show (s0.setVm T'.vm).vm = T'.vm from rfl, hS'.1.alike.findClass]; exact hown
  obtain ⟨t, o, g1, g2⟩ := next v _ _ _ hQ D' (K.move (s1 := s0.setVm T'.vm) hZ' hown' (Nat.le_trans K.hnz gg) (D'.ender hnE)) T' _ X' rfl (Fr.app N0 hN) (Nat.le_refl _)
  exact ⟨t, o, st1.trans g1, g2⟩
end HeldCalls
end Jvm.Own
namespace Jvm.Pilot.@@N@@
open Jvm Jvm.ClassFile Sem Op Lib Jvm.Free Jvm.Stand Jvm.LawKit Jvm.RoadKit Jvm.Own Bundle Jvm.Pilot.@@N@@.Jvm.D
abbrev Rm0 : Room := { frames := 0, cells := 0, slots := 0, locals := 0 }
theorem pd0 : parseMethodDescriptor "()B" = some ⟨[], some .byte⟩ := by decide +kernel
theorem pd1 : parseMethodDescriptor "(I)V" = some ⟨[.int], none⟩ := by decide +kernel
theorem pd2 : parseMethodDescriptor "(II)I" = some ⟨[.int, .int], some .int⟩ := by decide +kernel
theorem pd3 : parseMethodDescriptor "(III)I" = some ⟨[.int, .int, .int], some .int⟩ := by decide +kernel
theorem pd4 : parseMethodDescriptor "(I)I" = some ⟨[.int], some .int⟩ := by decide +kernel
theorem pd5 : parseMethodDescriptor "([BI)[B" = some ⟨[(.array .byte), .int], some (.array .byte)⟩ := by decide +kernel
theorem pd6 : parseMethodDescriptor "(Ljava/lang/String;)V" = some ⟨[(.object "java/lang/String")], none⟩ := by decide +kernel
theorem pd7 : parseMethodDescriptor "([BIB)V" = some ⟨[(.array .byte), .int, .byte], none⟩ := by decide +kernel
theorem pd8 : parseMethodDescriptor "()I" = some ⟨[], some .int⟩ := by decide +kernel
theorem pd9 : parseMethodDescriptor "(ILjava/lang/String;)V" = some ⟨[.int, (.object "java/lang/String")], none⟩ := by decide +kernel
theorem pd10 : parseMethodDescriptor "(Ljava/lang/String;)Ljava/lang/AbstractStringBuilder;" = some ⟨[(.object "java/lang/String")], some (.object "java/lang/AbstractStringBuilder")⟩ := by decide +kernel
theorem pd11 : parseMethodDescriptor "(II)V" = some ⟨[.int, .int], none⟩ := by decide +kernel
theorem pd12 : parseMethodDescriptor "([BII)[B" = some ⟨[(.array .byte), .int, .int], some (.array .byte)⟩ := by decide +kernel
theorem pd13 : parseMethodDescriptor "()[B" = some ⟨[], some (.array .byte)⟩ := by decide +kernel
theorem pd14 : parseMethodDescriptor "()Z" = some ⟨[], some .boolean⟩ := by decide +kernel
theorem pd15 : parseMethodDescriptor "(Ljava/lang/AbstractStringBuilder;Ljava/lang/Void;)V" = some ⟨[(.object "java/lang/AbstractStringBuilder"), (.object "java/lang/Void")], none⟩ := by decide +kernel
theorem pd16 : parseMethodDescriptor "(Ljava/lang/StringBuilder;)V" = some ⟨[(.object "java/lang/StringBuilder")], none⟩ := by decide +kernel
theorem pd17 : parseMethodDescriptor "([BB)V" = some ⟨[(.array .byte), .byte], none⟩ := by decide +kernel
theorem pd18 : parseMethodDescriptor "()V" = some ⟨[], none⟩ := by decide +kernel
theorem pd19 : parseMethodDescriptor "(Ljava/lang/String;)Ljava/lang/StringBuilder;" = some ⟨[(.object "java/lang/String")], some (.object "java/lang/StringBuilder")⟩ := by decide +kernel
theorem pd20 : parseMethodDescriptor "()Ljava/lang/String;" = some ⟨[], some (.object "java/lang/String")⟩ := by decide +kernel
theorem pd21 : parseMethodDescriptor "(I)Ljava/lang/String;" = some ⟨[.int], some (.object "java/lang/String")⟩ := by decide +kernel
theorem pd22 : parseMethodDescriptor "(Ljava/lang/String;IJJJ)V" = some ⟨[(.object "java/lang/String"), .int, .long, .long, .long], none⟩ := by decide +kernel
theorem pd23 : parseMethodDescriptor "(I)J" = some ⟨[.int], some .long⟩ := by decide +kernel
abbrev n32 (k : Nat) : Int32 := Int32.ofNat k
theorem own_n {x : Int32} {k : Nat} (hk : k < 2 ^ 31) (hx : x.toInt = k) : x = n32 k := by
  rw [← Int32.toInt_inj, hx]; exact (len_toInt hk).symm
theorem own_sr0 (x : Int32) : x >>> ((0 : Int32) &&& 31) = x := by
  apply Int32.toBitVec_inj.mp; simp
theorem own_sl0 (x : Int32) : x <<< ((0 : Int32) &&& 31) = x := by
  apply Int32.toBitVec_inj.mp; simp
theorem n_sub {a b : Nat} (ha : a < 2 ^ 31) (hb : b ≤ a) : n32 a - n32 b = n32 (a - b) := by
  refine own_n (by omega) ?_
  rw [Jvm.Kit.i32_sub, n_toInt ha, n_toInt (by omega : b < 2 ^ 31)]
  · omega
  · rw [n_toInt ha, n_toInt (by omega : b < 2 ^ 31)]; omega
  · rw [n_toInt ha, n_toInt (by omega : b < 2 ^ 31)]; omega
def AB (vs : List Value) : Prop := ∀ v ∈ vs, fits .byte v = true
theorem AB.rep (k : Nat) : AB (List.replicate k (.int 0)) := fun v hv => by rw [(List.mem_replicate.mp hv).2]; rfl
theorem AB.app {a b : List Value} (ha : AB a) (hb : AB b) : AB (a ++ b) := fun v hv => (List.mem_append.mp hv).elim (ha v) (hb v)
theorem AB.take {a : List Value} (k : Nat) (ha : AB a) : AB (a.take k) := fun v hv => ha v (List.mem_of_mem_take hv)
theorem AB.drop {a : List Value} (k : Nat) (ha : AB a) : AB (a.drop k) := fun v hv => ha v (List.mem_of_mem_drop hv)
theorem AB.pos {a : List Value} {k : Nat} (ha : AB a) (hk : k < a.length) : ∃ x, a[k]? = some (.int x) := by
  have h := ha _ (List.getElem_mem hk)
  rw [List.getElem?_eq_getElem hk]
  cases hv : a[k] <;> rw [hv] at h <;> simp [fits] at h ⊢
theorem own_abset {ws : List Value} {i : Nat} {x : Int32} (ab : AB ws) : AB (ws.set i (.int (nar .byte x))) := fun v hv => by
  rcases List.mem_or_eq_of_mem_set hv with h | rfl
  · exact ab v h
  · exact Jvm.Stand.fits_byte_narrow x
theorem own_div : ∀ k : Fin 81, 2 ≤ k.val → ¬ ((2147483647 : Int32) / n32 k.val) < 1 := by decide +kernel
theorem own_le0 {k m : Nat} (hk : k < 2 ^ 31) (hm : m < 2 ^ 31) (h : k ≤ m) : ¬ 0 < n32 k - n32 m := by
  rw [Int32.lt_iff_toInt_lt, Jvm.Kit.i32_sub, n_toInt hk, n_toInt hm]
  · simp only [Int32.reduceToInt]; omega
  · rw [n_toInt hk, n_toInt hm]; omega
  · rw [n_toInt hk, n_toInt hm]; omega
theorem own_gt0 {k m : Nat} (hk : k < 2 ^ 31) (hm : m < 2 ^ 31) (h : m < k) : 0 < n32 k - n32 m := by
  rw [Int32.lt_iff_toInt_lt, Jvm.Kit.i32_sub, n_toInt hk, n_toInt hm]
  · simp only [Int32.reduceToInt]; omega
  · rw [n_toInt hk, n_toInt hm]; omega
  · rw [n_toInt hk, n_toInt hm]; omega
theorem own_sub0 (x : Int32) : x - 0 = x := by simp
theorem own_tk {vs ws cs : List Value} {n : Nat} (h : ws.take vs.length = vs) (hn : n ≤ vs.length) (hl : n + cs.length ≤ ws.length) : (ws.take n ++ cs ++ ws.drop (n + cs.length)).take (n + cs.length) = vs.take n ++ cs := by
  have e : ws.take n = vs.take n := by
    rw [← h, List.take_take, Nat.min_eq_left hn]
  rw [e, List.take_append_of_le_length (by simp; omega), List.take_of_length_le (by simp; omega)]
abbrev F_0 : Fds := [("java/lang/String", "value", "[B"), ("java/lang/String", "coder", "B")]
theorem lay_0 {Z : State} {a0 : Array Value} (hw : ∀ d ∈ tables_1, d.before a0 Z = true) : LayO Z a0 "java/lang/String" F_0 := ⟨(consI ⟨Or.inr (hw _ (List.mem_of_getElem? (i := 11) rfl)), by decide +kernel⟩ (consI ⟨Or.inr (hw _ (List.mem_of_getElem? (i := 12) rfl)), by decide +kernel⟩ nilI)), by decide +kernel⟩
abbrev F_1 : Fds := [("java/lang/AbstractStringBuilder", "value", "[B"), ("java/lang/AbstractStringBuilder", "coder", "B"), ("java/lang/AbstractStringBuilder", "count", "I")]
theorem lay_1 {Z : State} {a0 : Array Value} (hw : ∀ d ∈ tables_1, d.before a0 Z = true) : LayO Z a0 "java/lang/StringBuilder" F_1 := ⟨(consI ⟨Or.inl (hw _ (List.mem_of_getElem? (i := 36) rfl)), by decide +kernel⟩ (consI ⟨Or.inl (hw _ (List.mem_of_getElem? (i := 38) rfl)), by decide +kernel⟩ (consI ⟨Or.inl (hw _ (List.mem_of_getElem? (i := 63) rfl)), by decide +kernel⟩ nilI))), by decide +kernel⟩
abbrev F_2 : Fds := [("com/example/defer2/defer2/bench/Plan", "idStart", "Ljava/lang/String;"), ("com/example/defer2/defer2/bench/Plan", "jobs", "I"), ("com/example/defer2/defer2/bench/Plan", "firstDueAt", "J"), ("com/example/defer2/defer2/bench/Plan", "windowMs", "J"), ("com/example/defer2/defer2/bench/Plan", "payloadStart", "Ljava/lang/String;"), ("com/example/defer2/defer2/bench/Plan", "payloadEnds", "[Ljava/lang/String;")]
theorem lay_2 {Z : State} {a0 : Array Value} (hw : ∀ d ∈ tables_1, d.before a0 Z = true) : LayO Z a0 "com/example/defer2/defer2/bench/Plan" F_2 := ⟨(consI ⟨Or.inr (hw _ (List.mem_of_getElem? (i := 138) rfl)), by decide +kernel⟩ (consI ⟨Or.inr (hw _ (List.mem_of_getElem? (i := 140) rfl)), by decide +kernel⟩ (consI ⟨Or.inr (hw _ (List.mem_of_getElem? (i := 143) rfl)), by decide +kernel⟩ (consI ⟨Or.inr (hw _ (List.mem_of_getElem? (i := 145) rfl)), by decide +kernel⟩ (consI ⟨Or.inr (hw _ (List.mem_of_getElem? (i := 166) rfl)), by decide +kernel⟩ (consI ⟨Or.inr (hw _ (List.mem_of_getElem? (i := 172) rfl)), by decide +kernel⟩ nilI)))))), by decide +kernel⟩
theorem d8_0 : decode jdk_42_method_152_code 0 = .ok (.getstatic 38, 3) := by decide +kernel
theorem d8_3 : decode jdk_42_method_152_code 3 = .ok (.ifCond .eq 10, 3) := by decide +kernel
theorem d8_7 : decode jdk_42_method_152_code 7 = .ok (.getfield 15, 3) := by decide +kernel
theorem d8_14 : decode jdk_42_method_152_code 14 = .ok (.ireturn, 1) := by decide +kernel
theorem pl8 : plainFor (⟨"java/lang/String", "coder", "()B"⟩ : MethodName) = true := plainFor_of_name (by first | (simp [plainName, overriddenIn, x]; done) | decide +kernel)
set_option maxRecDepth 65536 in
set_option maxHeartbeats 40000000 in
theorem kco (l : Launch) (Z : State) (a0 : Array Value) (hw : ∀ d ∈ tables_1, d.before a0 Z = true) (n0 : Nat) (z : Int32) (sa : Addr) (h : Heap) (S1 : Sta Z h "java/lang/String" "COMPACT_STRINGS" "Z" (.int z)) (hz : ¬ z = 0) (F2 : Fld Z h sa "java/lang/String" "coder" "B" (.int 0)) :
    Con l Z n0 (⟨"java/lang/String", "coder", "()B"⟩ : MethodName) jdk_42_method_152_code 1 (some .byte) [] Rm0 #[(.ref sa)] h (fun v h' => v = some (.int 0) ∧ h' = h) := by
  refine Con.of (a0 := a0) [] [] pl8 [.val (.ref sa)] (fun m => by first | (simp [entryFrame, mkF, argsToLocals, Value.category, maxLocals]; done) | rfl) nilI nilI ?_
  intro EE nz p e s m below meth c K
  refine f_sta K (host := "") (Or.inl (hw _ (List.mem_of_getElem? (i := 60) rfl))) Via.refl S1 d8_0 rfl ?_
  refine ifc_eq (pc' := 13) (pn := 6) K d8_3 (by decide) (by decide) rfl (fun h3 => ?_) (fun h3 => ?_)
  · exact absurd h3 hz
  · refine go_ok K [(6, .aload_n 0, 7, 0, 0)] _ _ _ (by decide +kernel) rfl ?_
    refine f_get K (host := "") (Or.inl (hw _ (List.mem_of_getElem? (i := 61) rfl))) Via.refl F2 d8_7 rfl ?_
    refine go_ok K [(10, .goto 4, 14, 0, 0)] _ _ _ (by decide +kernel) rfl ?_
    refine ret_n K d8_14 (by simp) (by rfl) (by decide) (by decide) ?_
    exact ⟨rfl, rfl⟩
abbrev RLN : Room := { frames := 1, cells := 0, slots := 0, locals := 13 }
theorem d7_1 : decode jdk_42_method_54_code 1 = .ok (.getfield 9, 3) := by decide +kernel
theorem d7_4 : decode jdk_42_method_54_code 4 = .ok (.arraylength, 1) := by decide +kernel
theorem d7_6 : decode jdk_42_method_54_code 6 = .ok (.invokevirtual 335, 3) := by decide +kernel
theorem d7_10 : decode jdk_42_method_54_code 10 = .ok (.ireturn, 1) := by decide +kernel
theorem pl7 : plainFor (⟨"java/lang/String", "length", "()I"⟩ : MethodName) = true := plainFor_of_name (by first | (simp [plainName, overriddenIn, x]; done) | decide +kernel)
set_option maxRecDepth 65536 in
set_option maxHeartbeats 40000000 in
theorem kln (l : Launch) (Z : State) (a0 : Array Value) (hw : ∀ d ∈ tables_1, d.before a0 Z = true) (n0 : Nat) (z : Int32) (sa sd : Addr) (cs : List Value) (h : Heap) (S1 : Sta Z h "java/lang/String" "COMPACT_STRINGS" "Z" (.int z)) (hz : ¬ z = 0) (E1 : Exa Z h sa "java/lang/String") (F1 : Fld Z h sa "java/lang/String" "value" "[B" (.ref sd)) (F2 : Fld Z h sa "java/lang/String" "coder" "B" (.int 0)) (V1 : Ars Z h sd .byte cs) :
    Con l Z n0 (⟨"java/lang/String", "length", "()I"⟩ : MethodName) jdk_42_method_54_code 1 (some .int) [] RLN #[(.ref sa)] h (fun v h' => v = some (.int (n32 cs.length)) ∧ h' = h) := by
  refine Con.of (a0 := a0) [] [] pl7 [.val (.ref sa)] (fun m => by first | (simp [entryFrame, mkF, argsToLocals, Value.category, maxLocals]; done) | rfl) nilI nilI ?_
  intro EE nz p e s m below meth c K
  refine go_ok K [(0, .aload_n 0, 1, 0, 0)] _ _ _ (by decide +kernel) rfl ?_
  refine f_get K (host := "") (Or.inl (hw _ (List.mem_of_getElem? (i := 54) rfl))) Via.refl F1 d7_1 rfl ?_
  refine f_len K V1 d7_4 rfl ?_
  refine go_ok K [(5, .aload_n 0, 6, 0, 0)] _ _ _ (by decide +kernel) rfl ?_
  refine call_v K (hw _ (List.mem_of_getElem? (i := 55) rfl)) (hw _ (List.mem_of_getElem? (i := 56) rfl)) (hw _ (List.mem_of_getElem? (i := 58) rfl)) (hw _ (List.mem_of_getElem? (i := 57) rfl)) (hw _ (List.mem_of_getElem? (i := 8) rfl)) (hw _ (List.mem_of_getElem? (i := 59) rfl)) E1 (kco l Z a0 hw n0 z sa _ S1 hz F2) d7_6 rfl rfl [] [.int _] rfl rfl pd0 rfl (fun _ q => notFace_of_selects q) (by decide) 1 (Nat.le_of_ble_eq_true rfl) (by decide) (by decide) (by decide) (by decide) ?_
  rintro _ _ ⟨rfl, rfl⟩
  refine go_ok K [(9, .ishr, 10, 0, 0)] _ _ _ (by decide +kernel) rfl ?_
  refine ret_i K d7_10 (by decide) (by decide) ?_
  exact ⟨congrArg (fun w => some (Value.int w)) (own_sr0 _), rfl⟩
theorem d23_2 : decode jdk_29_method_69_code 2 = .ok (.if_icmp .gt 7, 3) := by decide +kernel
theorem d23_10 : decode jdk_29_method_69_code 10 = .ok (.ireturn, 1) := by decide +kernel
theorem pl23 : plainFor (⟨"java/lang/Math", "min", "(II)I"⟩ : MethodName) = true := Jvm.Free.JP.mathPlain rfl (by decide +kernel)
set_option maxRecDepth 65536 in
set_option maxHeartbeats 40000000 in
theorem kmi (l : Launch) (Z : State) (a0 : Array Value) (hw : ∀ d ∈ tables_1, d.before a0 Z = true) (n0 : Nat) (x y : Int32) (i j : Nat) (h : Heap) (hx : x = n32 i) (hy : y = n32 j) (hi : i < 2 ^ 31) (hj : j < 2 ^ 31) :
    Con l Z n0 (⟨"java/lang/Math", "min", "(II)I"⟩ : MethodName) jdk_29_method_69_code 2 (some .int) [] Rm0 #[(.int x), (.int y)] h (fun v h' => v = some (.int (n32 (min i j))) ∧ h' = h) := by
  refine Con.of (a0 := a0) [] [] pl23 [.val (.int x), .val (.int y)] (fun m => by first | (simp [entryFrame, mkF, argsToLocals, Value.category, maxLocals]; done) | rfl) nilI nilI ?_
  intro EE nz p e s m below meth c K
  refine go_ok K [(0, .iload_n 0, 1, 0, 0), (1, .iload_n 1, 2, 0, 0)] _ _ _ (by decide +kernel) rfl ?_
  refine icmp_gt (pc' := 9) (pn := 5) K d23_2 (by decide) (by decide) rfl (fun h2 => ?_) (fun h2 => ?_)
  · refine go_ok K [(9, .iload_n 1, 10, 0, 0)] _ _ _ (by decide +kernel) rfl ?_
    refine ret_i K d23_10 (by decide) (by decide) ?_
    refine ⟨?_, rfl⟩
    subst hx hy
    rw [n_lt hj hi] at h2
    rw [show min i j = _ from by first | exact Nat.min_eq_left (by omega) | exact Nat.min_eq_right (by omega)]
  · refine go_ok K [(5, .iload_n 0, 6, 0, 0), (6, .goto 4, 10, 0, 0)] _ _ _ (by decide +kernel) rfl ?_
    refine ret_i K d23_10 (by decide) (by decide) ?_
    refine ⟨?_, rfl⟩
    subst hx hy
    rw [n_lt hj hi] at h2
    rw [show min i j = _ from by first | exact Nat.min_eq_left (by omega) | exact Nat.min_eq_right (by omega)]
theorem d26_2 : decode jdk_29_method_65_code 2 = .ok (.if_icmp .lt 7, 3) := by decide +kernel
theorem d26_10 : decode jdk_29_method_65_code 10 = .ok (.ireturn, 1) := by decide +kernel
theorem pl26 : plainFor (⟨"java/lang/Math", "max", "(II)I"⟩ : MethodName) = true := Jvm.Free.JP.mathPlain rfl (by decide +kernel)
set_option maxRecDepth 65536 in
set_option maxHeartbeats 40000000 in
theorem kma (l : Launch) (Z : State) (a0 : Array Value) (hw : ∀ d ∈ tables_1, d.before a0 Z = true) (n0 : Nat) (x y : Int32) (i j : Nat) (h : Heap) (hx : x = n32 i) (hy : y = n32 j) (hi : i < 2 ^ 31) (hj : j < 2 ^ 31) :
    Con l Z n0 (⟨"java/lang/Math", "max", "(II)I"⟩ : MethodName) jdk_29_method_65_code 2 (some .int) [] Rm0 #[(.int x), (.int y)] h (fun v h' => v = some (.int (n32 (max i j))) ∧ h' = h) := by
  refine Con.of (a0 := a0) [] [] pl26 [.val (.int x), .val (.int y)] (fun m => by first | (simp [entryFrame, mkF, argsToLocals, Value.category, maxLocals]; done) | rfl) nilI nilI ?_
  intro EE nz p e s m below meth c K
  refine go_ok K [(0, .iload_n 0, 1, 0, 0), (1, .iload_n 1, 2, 0, 0)] _ _ _ (by decide +kernel) rfl ?_
  refine icmp_lt (pc' := 9) (pn := 5) K d26_2 (by decide) (by decide) rfl (fun h2 => ?_) (fun h2 => ?_)
  · refine go_ok K [(9, .iload_n 1, 10, 0, 0)] _ _ _ (by decide +kernel) rfl ?_
    refine ret_i K d26_10 (by decide) (by decide) ?_
    refine ⟨?_, rfl⟩
    subst hx hy
    rw [n_lt hi hj] at h2
    rw [show max i j = _ from by first | exact Nat.max_eq_left (by omega) | exact Nat.max_eq_right (by omega)]
  · refine go_ok K [(5, .iload_n 0, 6, 0, 0), (6, .goto 4, 10, 0, 0)] _ _ _ (by decide +kernel) rfl ?_
    refine ret_i K d26_10 (by decide) (by decide) ?_
    refine ⟨?_, rfl⟩
    subst hx hy
    rw [n_lt hi hj] at h2
    rw [show max i j = _ from by first | exact Nat.max_eq_left (by omega) | exact Nat.max_eq_right (by omega)]
abbrev RAI : Room := { frames := 1, cells := 1, slots := 16, locals := 12 }
abbrev RSI : Room := { frames := 2, cells := 1, slots := 16, locals := 25 }
theorem d4_1 : decode jdk_68_method_2_code 1 = .ok (.invokespecial 3, 3) := by decide +kernel
theorem d4_4 : decode jdk_68_method_2_code 4 = .ok (.getstatic 18, 3) := by decide +kernel
theorem d4_7 : decode jdk_68_method_2_code 7 = .ok (.ifCond .eq 18, 3) := by decide +kernel
theorem d4_12 : decode jdk_68_method_2_code 12 = .ok (.newarray .byte, 2) := by decide +kernel
theorem d4_14 : decode jdk_68_method_2_code 14 = .ok (.putfield 15, 3) := by decide +kernel
theorem d4_19 : decode jdk_68_method_2_code 19 = .ok (.putfield 22, 3) := by decide +kernel
theorem d4_38 : decode jdk_68_method_2_code 38 = .ok (.return_, 1) := by decide +kernel
theorem pl4 : plainFor (⟨"java/lang/AbstractStringBuilder", "<init>", "(I)V"⟩ : MethodName) = true := plainFor_of_name (by first | (simp [plainName, overriddenIn, x]; done) | decide +kernel)
set_option maxRecDepth 65536 in
set_option maxHeartbeats 40000000 in
theorem kai (l : Launch) (Z : State) (a0 : Array Value) (hw : ∀ d ∈ tables_1, d.before a0 Z = true) (n0 : Nat) (ss : Stc) (kc : Nat) (z : Int32) (hcs : ss.st[kc]? = some ("java/lang/String", "COMPACT_STRINGS", "Z", .int z)) (hz : ¬ z = 0) (es : List Ent) (sb : Addr) (h : Heap) (gs : n0 ≤ sb) (H : Hp Z ss h ((sb, .inl ("java/lang/StringBuilder", F_1), [.null, .int 0, .int 0]) :: es)) :
    Con l Z n0 (⟨"java/lang/AbstractStringBuilder", "<init>", "(I)V"⟩ : MethodName) jdk_68_method_2_code 2 none [] RAI #[(.ref sb), (.int 16)] h (fun v h' => v = none ∧ ∃ va, n0 ≤ va ∧ Hp Z ss h' ((sb, .inl ("java/lang/StringBuilder", F_1), [.ref va, .int 0, .int (n32 0)]) :: (va, .inr .byte, (List.replicate 16 (.int 0))) :: es)) := by
  refine Con.of (a0 := a0) [] [] pl4 [.val (.ref sb), .val (.int 16)] (fun m => by first | (simp [entryFrame, mkF, argsToLocals, Value.category, maxLocals]; done) | rfl) nilI nilI ?_
  intro EE nz p e s m below meth c K
  refine go_ok K [(0, .aload_n 0, 1, 0, 0)] _ _ _ (by decide +kernel) rfl ?_
  refine f_init K (hw _ (List.mem_of_getElem? (i := 33) rfl)) (hw _ (List.mem_of_getElem? (i := 19) rfl)) (hw _ (List.mem_of_getElem? (i := 20) rfl)) d4_1 rfl rfl (by decide) (by decide) ?_
  refine h_sta K H (i := kc) hcs (host := "") (Or.inl (hw _ (List.mem_of_getElem? (i := 34) rfl))) Via.refl d4_4 rfl ?_
  refine ifc_eq (pc' := 25) (pn := 10) K d4_7 (by decide) (by decide) rfl (fun h7 => ?_) (fun h7 => ?_)
  · exact absurd h7 hz
  · refine go_ok K [(10, .aload_n 0, 11, 0, 0), (11, .iload_n 1, 12, 0, 0)] _ _ _ (by decide +kernel) rfl ?_
    refine h_newarr K H (hw _ (List.mem_of_getElem? (i := 10) rfl)) d4_12 rfl (List.replicate 16 (.int 0)) rfl (by decide) 16 (by decide) (by decide) (by decide) (by decide) ?_
    intro h va gv H
    refine h_put K H (lay_1 hw) (i := 1) (j := 0) rfl rfl rfl (host := "") (Or.inl (hw _ (List.mem_of_getElem? (i := 35) rfl))) Via.refl (Or.inl (hw _ (List.mem_of_getElem? (i := 36) rfl))) (hw _ (List.mem_of_getElem? (i := 22) rfl)) (ty := (.array .byte)) (by decide) rfl rfl d4_14 rfl gs ?_
    intro h H
    refine go_ok K [(17, .aload_n 0, 18, 0, 0), (18, .iconst 0, 19, 0, 0)] _ _ _ (by decide +kernel) rfl ?_
    refine h_putn K H (lay_1 hw) (i := 1) (j := 1) (ty := .byte) (v' := (.int 0)) rfl rfl rfl rfl (hw _ (List.mem_of_getElem? (i := 37) rfl)) Via.refl (Or.inl (hw _ (List.mem_of_getElem? (i := 38) rfl))) (hw _ (List.mem_of_getElem? (i := 22) rfl)) (by decide) rfl d4_19 rfl gs ?_
    intro h H
    refine go_ok K [(22, .goto 16, 38, 0, 0)] _ _ _ (by decide +kernel) rfl ?_
    refine ret_0 K d4_38 (by decide) (by decide) ?_
    exact ⟨rfl, va, gv, H.front 1 rfl⟩
theorem d3_3 : decode jdk_67_method_1_code 3 = .ok (.invokespecial 1, 3) := by decide +kernel
theorem d3_6 : decode jdk_67_method_1_code 6 = .ok (.return_, 1) := by decide +kernel
theorem pl3 : plainFor (⟨"java/lang/StringBuilder", "<init>", "()V"⟩ : MethodName) = true := plainFor_of_name (by first | (simp [plainName, overriddenIn, x]; done) | decide +kernel)
set_option maxRecDepth 65536 in
set_option maxHeartbeats 40000000 in
theorem ksi (l : Launch) (Z : State) (a0 : Array Value) (hw : ∀ d ∈ tables_1, d.before a0 Z = true) (n0 : Nat) (ss : Stc) (kc : Nat) (z : Int32) (hcs : ss.st[kc]? = some ("java/lang/String", "COMPACT_STRINGS", "Z", .int z)) (hz : ¬ z = 0) (es : List Ent) (sb : Addr) (h : Heap) (gs : n0 ≤ sb) (H : Hp Z ss h ((sb, .inl ("java/lang/StringBuilder", F_1), [.null, .int 0, .int 0]) :: es)) :
    Con l Z n0 (⟨"java/lang/StringBuilder", "<init>", "()V"⟩ : MethodName) jdk_67_method_1_code 1 none [] RSI #[(.ref sb)] h (fun v h' => v = none ∧ ∃ va, n0 ≤ va ∧ Hp Z ss h' ((sb, .inl ("java/lang/StringBuilder", F_1), [.ref va, .int 0, .int (n32 0)]) :: (va, .inr .byte, (List.replicate 16 (.int 0))) :: es)) := by
  refine Con.of (a0 := a0) [] [] pl3 [.val (.ref sb)] (fun m => by first | (simp [entryFrame, mkF, argsToLocals, Value.category, maxLocals]; done) | rfl) nilI nilI ?_
  intro EE nz p e s m below meth c K
  refine go_ok K [(0, .aload_n 0, 1, 0, 0), (1, .bipush 16, 3, 16, 0)] _ _ _ (by decide +kernel) rfl ?_
  refine call_i K rfl (hw _ (List.mem_of_getElem? (i := 27) rfl)) (hw _ (List.mem_of_getElem? (i := 28) rfl)) (hw _ (List.mem_of_getElem? (i := 31) rfl)) (hw _ (List.mem_of_getElem? (i := 32) rfl)) (kai l Z a0 hw n0 ss kc z hcs hz es sb _ gs H) d3_3 rfl rfl [.int 16] [] rfl rfl pd1 rfl (by decide) 0 (Nat.le_of_ble_eq_true rfl) (by decide) (by decide) (by decide) (by decide) ?_
  rintro _ h ⟨rfl, va, gv, H⟩
  refine ret_0 K d3_6 (by decide) (by decide) ?_
  exact ⟨rfl, va, gv, H⟩
abbrev RNL : Room := { frames := 1, cells := 0, slots := 0, locals := 14 }
abbrev RNC : Room := { frames := 2, cells := 0, slots := 0, locals := 29 }
theorem d25_3 : decode jdk_48_method_27_code 3 = .ok (.invokestatic 194, 3) := by decide +kernel
theorem d25_10 : decode jdk_48_method_27_code 10 = .ok (.if_icmp .ge 11, 3) := by decide +kernel
theorem d25_16 : decode jdk_48_method_27_code 16 = .ok (.if_icmp .gt 5, 3) := by decide +kernel
theorem d25_20 : decode jdk_48_method_27_code 20 = .ok (.ireturn, 1) := by decide +kernel
theorem pl25 : plainFor (⟨"jdk/internal/util/ArraysSupport", "newLength", "(III)I"⟩ : MethodName) = true := plainFor_of_name (by first | (simp [plainName, overriddenIn, x]; done) | decide +kernel)
set_option maxRecDepth 65536 in
set_option maxHeartbeats 40000000 in
theorem knl (l : Launch) (Z : State) (a0 : Array Value) (hw : ∀ d ∈ tables_1, d.before a0 Z = true) (n0 : Nat) (x y w : Int32) (i j k : Nat) (h : Heap) (hx : x = n32 i) (hy : y = n32 j) (hw2 : w = n32 k) (h0 : 0 < i + max j k) (hm : i + max j k < 1000000) (hj : j < 1000000) (hk : k < 1000000) :
    Con l Z n0 (⟨"jdk/internal/util/ArraysSupport", "newLength", "(III)I"⟩ : MethodName) jdk_48_method_27_code 4 (some .int) [] RNL #[(.int x), (.int y), (.int w)] h (fun v h' => v = some (.int (n32 (i + max j k))) ∧ h' = h) := by
  refine Con.of (a0 := a0) [(200, 2147483639)] [] pl25 [.val (.int x), .val (.int y), .val (.int w), .unset] (fun m => by first | (simp [entryFrame, mkF, argsToLocals, Value.category, maxLocals]; done) | rfl) (consI (hw _ (List.mem_of_getElem? (i := 160) rfl)) nilI) nilI ?_
  intro EE nz p e s m below meth c K
  refine go_ok K [(0, .iload_n 0, 1, 0, 0), (1, .iload_n 1, 2, 0, 0), (2, .iload_n 2, 3, 0, 0)] _ _ _ (by decide +kernel) rfl ?_
  refine call_s K (hw _ (List.mem_of_getElem? (i := 157) rfl)) (hw _ (List.mem_of_getElem? (i := 158) rfl)) (hw _ (List.mem_of_getElem? (i := 134) rfl)) (hw _ (List.mem_of_getElem? (i := 159) rfl)) (kma l Z a0 hw n0 _ _ _ _ _ hy hw2 (by omega) (by omega)) d25_3 rfl rfl [.int y, .int w] [.int x] rfl rfl pd2 rfl (by decide) 1 (Nat.le_of_ble_eq_true rfl) (by decide) (by decide) (by decide) (by decide) ?_
  rintro _ _ ⟨rfl, rfl⟩
  refine go_ok K [(6, .iadd, 7, 0, 0), (7, .istore_n 3, 8, 0, 0), (8, .iconst 0, 9, 0, 0), (9, .iload_n 3, 10, 0, 0)] _ _ _ (by decide +kernel) rfl ?_
  refine icmp_ge (pc' := 21) (pn := 13) K d25_10 (by decide) (by decide) rfl (fun h10 => ?_) (fun h10 => ?_)
  · exact absurd (by rw [hx, n_add]; exact (n_lt (a := 0) (by decide) (by omega)).mpr h0) h10
  · refine go_ok K [(13, .iload_n 3, 14, 0, 0), (14, .ldc 200, 16, 2147483639, 0)] _ _ _ (by decide +kernel) rfl ?_
    refine icmp_gt (pc' := 21) (pn := 19) K d25_16 (by decide) (by decide) rfl (fun h16 => ?_) (fun h16 => ?_)
    · rw [hx, n_add] at h16
      exact absurd ((n_lt (a := 2147483639) (by decide) (by omega)).mp h16) (by omega)
    · refine go_ok K [(19, .iload_n 3, 20, 0, 0)] _ _ _ (by decide +kernel) rfl ?_
      refine ret_i K d25_20 (by decide) (by decide) ?_
      exact ⟨congrArg (fun w => some (Value.int w)) (by rw [hx, n_add]), rfl⟩
theorem d24_1 : decode jdk_68_method_10_code 1 = .ok (.getfield 15, 3) := by decide +kernel
theorem d24_4 : decode jdk_68_method_10_code 4 = .ok (.arraylength, 1) := by decide +kernel
theorem d24_8 : decode jdk_68_method_10_code 8 = .ok (.getfield 22, 3) := by decide +kernel
theorem d24_24 : decode jdk_68_method_10_code 24 = .ok (.getfield 22, 3) := by decide +kernel
theorem d24_29 : decode jdk_68_method_10_code 29 = .ok (.invokestatic 114, 3) := by decide +kernel
theorem d24_38 : decode jdk_68_method_10_code 38 = .ok (.if_icmp .ne 13, 3) := by decide +kernel
theorem d24_54 : decode jdk_68_method_10_code 54 = .ok (.getfield 22, 3) := by decide +kernel
theorem d24_58 : decode jdk_68_method_10_code 58 = .ok (.ireturn, 1) := by decide +kernel
theorem pl24 : plainFor (⟨"java/lang/AbstractStringBuilder", "newCapacity", "(I)I"⟩ : MethodName) = true := plainFor_of_name (by first | (simp [plainName, overriddenIn, x]; done) | decide +kernel)
set_option maxRecDepth 65536 in
set_option maxHeartbeats 40000000 in
theorem knc (l : Launch) (Z : State) (a0 : Array Value) (hw : ∀ d ∈ tables_1, d.before a0 Z = true) (n0 : Nat) (ss : Stc) (es : List Ent) (sb va : Addr) (n k : Nat) (vs : List Value) (h : Heap) (hl : vs.length < k) (hk : k < 1000) (H : Hp Z ss h ((sb, .inl ("java/lang/StringBuilder", F_1), [.ref va, .int 0, .int (n32 n)]) :: (va, .inr .byte, vs) :: es)) :
    Con l Z n0 (⟨"java/lang/AbstractStringBuilder", "newCapacity", "(I)I"⟩ : MethodName) jdk_68_method_10_code 6 (some .int) [] RNC #[(.ref sb), (.int (n32 k))] h (fun v h' => v = some (.int (n32 (vs.length + max (k - vs.length) (vs.length + 2)))) ∧ h' = h) := by
  refine Con.of (a0 := a0) [(39, 2147483647)] [] pl24 [.val (.ref sb), .val (.int (n32 k)), .unset, .unset, .unset, .unset] (fun m => by first | (simp [entryFrame, mkF, argsToLocals, Value.category, maxLocals]; done) | rfl) (consI (hw _ (List.mem_of_getElem? (i := 161) rfl)) nilI) nilI ?_
  intro EE nz p e s m below meth c K
  refine go_ok K [(0, .aload_n 0, 1, 0, 0)] _ _ _ (by decide +kernel) rfl ?_
  refine h_get K H (i := 0) (j := 0) rfl rfl rfl (host := "") (Or.inl (hw _ (List.mem_of_getElem? (i := 35) rfl))) Via.refl d24_1 rfl ?_
  refine f_len K (H.arr (i := 1) rfl) d24_4 rfl ?_
  refine go_ok K [(5, .istore_n 2, 6, 0, 0), (6, .iload_n 1, 7, 0, 0), (7, .aload_n 0, 8, 0, 0)] _ _ _ (by decide +kernel) rfl ?_
  refine h_get K H (i := 0) (j := 1) rfl rfl rfl (host := "") (Or.inl (hw _ (List.mem_of_getElem? (i := 37) rfl))) Via.refl d24_8 rfl ?_
  refine go_ok K [(11, .ishl, 12, 0, 0), (12, .istore_n 3, 13, 0, 0), (13, .iload_n 3, 14, 0, 0), (14, .iload_n 2, 15, 0, 0), (15, .isub, 16, 0, 0), (16, .istore 4, 18, 0, 0), (18, .iload_n 2, 19, 0, 0), (19, .iload 4, 21, 0, 0), (21, .iload_n 2, 22, 0, 0), (22, .iconst 2, 23, 2, 0), (23, .aload_n 0, 24, 0, 0)] _ _ _ (by decide +kernel) rfl ?_
  refine h_get K H (i := 0) (j := 1) rfl rfl rfl (host := "") (Or.inl (hw _ (List.mem_of_getElem? (i := 37) rfl))) Via.refl d24_24 rfl ?_
  refine go_ok K [(27, .ishl, 28, 0, 0), (28, .iadd, 29, 0, 0)] _ _ _ (by decide +kernel) rfl ?_
  refine call_s K (hw _ (List.mem_of_getElem? (i := 153) rfl)) (hw _ (List.mem_of_getElem? (i := 154) rfl)) (hw _ (List.mem_of_getElem? (i := 155) rfl)) (hw _ (List.mem_of_getElem? (i := 156) rfl)) (knl l Z a0 hw n0 _ _ _ vs.length (k - vs.length) (vs.length + 2) _ rfl (by rw [own_sl0]; exact n_sub (by omega) (by omega)) (n_add _ 2) (by omega) (by omega) (by omega) (by omega)) d24_29 rfl rfl [.int _, .int _, .int _] [] rfl rfl pd3 rfl (by decide) 0 (Nat.le_of_ble_eq_true rfl) (by decide) (by decide) (by decide) (by decide) ?_
  rintro _ _ ⟨rfl, rfl⟩
  refine go_ok K [(32, .istore 5, 34, 0, 0), (34, .iload 5, 36, 0, 0), (36, .ldc 39, 38, 2147483647, 0)] _ _ _ (by decide +kernel) rfl ?_
  refine icmp_ne (pc' := 51) (pn := 41) K d24_38 (by decide) (by decide) rfl (fun h38 => ?_) (fun h38 => ?_)
  · refine go_ok K [(51, .iload 5, 53, 0, 0), (53, .aload_n 0, 54, 0, 0)] _ _ _ (by decide +kernel) rfl ?_
    refine h_get K H (i := 0) (j := 1) rfl rfl rfl (host := "") (Or.inl (hw _ (List.mem_of_getElem? (i := 37) rfl))) Via.refl d24_54 rfl ?_
    refine go_ok K [(57, .ishr, 58, 0, 0)] _ _ _ (by decide +kernel) rfl ?_
    refine ret_i K d24_58 (by decide) (by decide) ?_
    exact ⟨congrArg (fun w => some (Value.int w)) (own_sr0 _), rfl⟩
  · exact absurd ((n_eq (b := 2147483647) (by omega) (by decide)).mp h38) (by omega)
abbrev RCP : Room := { frames := 1, cells := 1, slots := 170, locals := 40 }
theorem d27_2 : decode jdk_65_method_121_code 2 = .ok (.arraylength, 1) := by decide +kernel
theorem d27_3 : decode jdk_65_method_121_code 3 = .ok (.if_icmp .ne 11, 3) := by decide +kernel
theorem d27_15 : decode jdk_65_method_121_code 15 = .ok (.newarray .byte, 2) := by decide +kernel
theorem d27_23 : decode jdk_65_method_121_code 23 = .ok (.arraylength, 1) := by decide +kernel
theorem d27_25 : decode jdk_65_method_121_code 25 = .ok (.invokestatic 304, 3) := by decide +kernel
theorem d27_28 : decode jdk_65_method_121_code 28 = .ok (.invokestatic 150, 3) := by decide +kernel
theorem d27_32 : decode jdk_65_method_121_code 32 = .ok (.areturn, 1) := by decide +kernel
theorem pl27 : plainFor (⟨"java/util/Arrays", "copyOf", "([BI)[B"⟩ : MethodName) = true := plainFor_of_name (by first | (simp [plainName, overriddenIn, x]; done) | decide +kernel)
set_option maxRecDepth 65536 in
set_option maxHeartbeats 40000000 in
theorem kcp (l : Launch) (Z : State) (a0 : Array Value) (hw : ∀ d ∈ tables_1, d.before a0 Z = true) (n0 : Nat) (ss : Stc) (es : List Ent) (va : Addr) (x : Int32) (k : Nat) (vs : List Value) (h : Heap) (hx : x = n32 k) (hl : vs.length < k) (hk2 : k ≤ 170) (ab : AB vs) (H : Hp Z ss h ((va, .inr .byte, vs) :: es)) :
    Con l Z n0 (⟨"java/util/Arrays", "copyOf", "([BI)[B"⟩ : MethodName) jdk_65_method_121_code 3 (some (.array .byte)) [] RCP #[(.ref va), (.int x)] h (fun v h' => ∃ wa ws, v = some (.ref wa) ∧ n0 ≤ wa ∧ ws.length = k ∧ AB ws ∧ ws.take vs.length = vs ∧ Hp Z ss h' ((wa, .inr .byte, ws) :: (va, .inr .byte, vs) :: es)) := by
  refine Con.of (a0 := a0) [] [] pl27 [.val (.ref va), .val (.int x), .unset] (fun m => by first | (simp [entryFrame, mkF, argsToLocals, Value.category, maxLocals]; done) | rfl) nilI nilI ?_
  intro EE nz p e s m below meth c K
  refine go_ok K [(0, .iload_n 1, 1, 0, 0), (1, .aload_n 0, 2, 0, 0)] _ _ _ (by decide +kernel) rfl ?_
  refine f_len K (H.arr (i := 0) rfl) d27_2 rfl ?_
  refine icmp_ne (pc' := 14) (pn := 6) K d27_3 (by decide) (by decide) rfl (fun h3 => ?_) (fun h3 => ?_)
  · refine go_ok K [(14, .iload_n 1, 15, 0, 0)] _ _ _ (by decide +kernel) rfl ?_
    refine h_newarr K H (hw _ (List.mem_of_getElem? (i := 10) rfl)) d27_15 rfl (List.replicate k (.int 0)) (by rw [hx, n_tnc (by omega)]; rfl) (by rw [hx]; exact n_nneg (by omega)) 170 (by rw [hx, n_tnc (by omega)]; exact hk2) (by decide) (by decide) (by decide) ?_
    intro h wa gw H
    refine go_ok K [(17, .astore_n 2, 18, 0, 0), (18, .aload_n 0, 19, 0, 0), (19, .iconst 0, 20, 0, 0), (20, .aload_n 2, 21, 0, 0), (21, .iconst 0, 22, 0, 0), (22, .aload_n 0, 23, 0, 0)] _ _ _ (by decide +kernel) rfl ?_
    refine f_len K (H.arr (i := 1) rfl) d27_23 rfl ?_
    refine go_ok K [(24, .iload_n 1, 25, 0, 0)] _ _ _ (by decide +kernel) rfl ?_
    refine call_s K (hw _ (List.mem_of_getElem? (i := 132) rfl)) (hw _ (List.mem_of_getElem? (i := 133) rfl)) (hw _ (List.mem_of_getElem? (i := 134) rfl)) (hw _ (List.mem_of_getElem? (i := 135) rfl)) (kmi l Z a0 hw n0 _ _ vs.length k _ rfl hx (by omega) (by omega)) d27_25 rfl rfl [.int _, .int _] [.int 0, .ref _, .int 0, .ref _] rfl rfl pd2 rfl (by decide) 4 (Nat.le_of_ble_eq_true rfl) (by decide) (by decide) (by decide) (by decide) ?_
    rintro _ _ ⟨rfl, rfl⟩
    have em : min vs.length k = vs.length := Nat.min_eq_left (by omega)
    rw [em]
    refine h_copy K H (i := 1) (j := 0) rfl rfl rfl (hw _ (List.mem_of_getElem? (i := 136) rfl)) (hw _ (List.mem_of_getElem? (i := 88) rfl)) (hw _ (List.mem_of_getElem? (i := 86) rfl)) (hw _ (List.mem_of_getElem? (i := 87) rfl)) (by omega) (by simp; omega) ab (AB.rep k) (by decide) (by decide) (n_nneg (by omega)) (by rw [n_tnc (by omega)]; simp) (by rw [n_tnc (by omega)]; simp; omega) rfl rfl d27_28 rfl rfl gw (by decide) (by decide) ?_
    intro h H
    refine go_ok K [(31, .aload_n 2, 32, 0, 0)] _ _ _ (by decide +kernel) rfl ?_
    refine ret_a K d27_32 rfl rfl (by decide) (by decide) ?_
    refine ⟨wa, _, rfl, gw, ?_, ?_, ?_, H⟩
    · simp [n_tnc (show vs.length < 2 ^ 31 by omega)]; omega
    · exact AB.app (AB.app (AB.take _ (AB.rep _)) (AB.take _ (AB.drop _ ab))) (AB.drop _ (AB.rep _))
    · simp [n_tnc (show vs.length < 2 ^ 31 by omega)]
  · rw [hx] at h3
    exact absurd ((n_eq (by omega) (by omega)).mp h3) (by omega)
abbrev REC : Room := { frames := 3, cells := 1, slots := 170, locals := 55 }
theorem d9_1 : decode jdk_68_method_9_code 1 = .ok (.getfield 15, 3) := by decide +kernel
theorem d9_4 : decode jdk_68_method_9_code 4 = .ok (.arraylength, 1) := by decide +kernel
theorem d9_6 : decode jdk_68_method_9_code 6 = .ok (.getfield 22, 3) := by decide +kernel
theorem d9_14 : decode jdk_68_method_9_code 14 = .ok (.ifCond .le 24, 3) := by decide +kernel
theorem d9_19 : decode jdk_68_method_9_code 19 = .ok (.getfield 15, 3) := by decide +kernel
theorem d9_24 : decode jdk_68_method_9_code 24 = .ok (.invokevirtual 104, 3) := by decide +kernel
theorem d9_28 : decode jdk_68_method_9_code 28 = .ok (.getfield 22, 3) := by decide +kernel
theorem d9_32 : decode jdk_68_method_9_code 32 = .ok (.invokestatic 108, 3) := by decide +kernel
theorem d9_35 : decode jdk_68_method_9_code 35 = .ok (.putfield 15, 3) := by decide +kernel
theorem d9_38 : decode jdk_68_method_9_code 38 = .ok (.return_, 1) := by decide +kernel
theorem pl9 : plainFor (⟨"java/lang/AbstractStringBuilder", "ensureCapacityInternal", "(I)V"⟩ : MethodName) = true := plainFor_of_name (by first | (simp [plainName, overriddenIn, x]; done) | decide +kernel)
set_option maxRecDepth 65536 in
set_option maxHeartbeats 40000000 in
theorem kec0 (l : Launch) (Z : State) (a0 : Array Value) (hw : ∀ d ∈ tables_1, d.before a0 Z = true) (n0 : Nat) (ss : Stc) (es : List Ent) (sb va : Addr) (x : Int32) (n k : Nat) (vs : List Value) (h : Heap) (hx : x = n32 k) (hle : k ≤ vs.length) (ab : AB vs) (hv : vs.length ≤ 84) (hk : k < 170) (gs : n0 ≤ sb) (H : Hp Z ss h ((sb, .inl ("java/lang/StringBuilder", F_1), [.ref va, .int 0, .int (n32 n)]) :: (va, .inr .byte, vs) :: es)) :
    Con l Z n0 (⟨"java/lang/AbstractStringBuilder", "ensureCapacityInternal", "(I)V"⟩ : MethodName) jdk_68_method_9_code 3 none [] REC #[(.ref sb), (.int x)] h (fun v h' => v = none ∧ h' = h) := by
  refine Con.of (a0 := a0) [] [] pl9 [.val (.ref sb), .val (.int x), .unset] (fun m => by first | (simp [entryFrame, mkF, argsToLocals, Value.category, maxLocals]; done) | rfl) nilI nilI ?_
  intro EE nz p e s m below meth c K
  subst hx
  refine go_ok K [(0, .aload_n 0, 1, 0, 0)] _ _ _ (by decide +kernel) rfl ?_
  refine h_get K H (i := 0) (j := 0) rfl rfl rfl (host := "") (Or.inl (hw _ (List.mem_of_getElem? (i := 35) rfl))) Via.refl d9_1 rfl ?_
  refine f_len K (H.arr (i := 1) rfl) d9_4 rfl ?_
  refine go_ok K [(5, .aload_n 0, 6, 0, 0)] _ _ _ (by decide +kernel) rfl ?_
  refine h_get K H (i := 0) (j := 1) rfl rfl rfl (host := "") (Or.inl (hw _ (List.mem_of_getElem? (i := 37) rfl))) Via.refl d9_6 rfl ?_
  refine go_ok K [(9, .ishr, 10, 0, 0), (10, .istore_n 2, 11, 0, 0), (11, .iload_n 1, 12, 0, 0), (12, .iload_n 2, 13, 0, 0), (13, .isub, 14, 0, 0)] _ _ _ (by decide +kernel) rfl ?_
  refine ifc_le (pc' := 38) (pn := 17) K d9_14 (by decide) (by decide) rfl (fun h14 => ?_) (fun h14 => ?_)
  · refine ret_0 K d9_38 (by decide) (by decide) ?_
    exact ⟨rfl, rfl⟩
  · rw [own_sr0] at h14
    exact absurd h14 (own_le0 (by omega) (by omega) hle)
set_option maxRecDepth 65536 in
set_option maxHeartbeats 40000000 in
theorem kec1 (l : Launch) (Z : State) (a0 : Array Value) (hw : ∀ d ∈ tables_1, d.before a0 Z = true) (n0 : Nat) (ss : Stc) (es : List Ent) (sb va : Addr) (x : Int32) (n k : Nat) (vs : List Value) (h : Heap) (hx : x = n32 k) (hlt : vs.length < k) (ab : AB vs) (hv : vs.length ≤ 84) (hk : k < 170) (gs : n0 ≤ sb) (H : Hp Z ss h ((sb, .inl ("java/lang/StringBuilder", F_1), [.ref va, .int 0, .int (n32 n)]) :: (va, .inr .byte, vs) :: es)) :
    Con l Z n0 (⟨"java/lang/AbstractStringBuilder", "ensureCapacityInternal", "(I)V"⟩ : MethodName) jdk_68_method_9_code 3 none [] REC #[(.ref sb), (.int x)] h (fun v h' => v = none ∧ ∃ wa ws, n0 ≤ wa ∧ ws.length = vs.length + max (k - vs.length) (vs.length + 2) ∧ AB ws ∧ ws.take vs.length = vs ∧ Hp Z ss h' ((sb, .inl ("java/lang/StringBuilder", F_1), [.ref wa, .int 0, .int (n32 n)]) :: (wa, .inr .byte, ws) :: es)) := by
  refine Con.of (a0 := a0) [] [] pl9 [.val (.ref sb), .val (.int x), .unset] (fun m => by first | (simp [entryFrame, mkF, argsToLocals, Value.category, maxLocals]; done) | rfl) nilI nilI ?_
  intro EE nz p e s m below meth c K
  subst hx
  refine go_ok K [(0, .aload_n 0, 1, 0, 0)] _ _ _ (by decide +kernel) rfl ?_
  refine h_get K H (i := 0) (j := 0) rfl rfl rfl (host := "") (Or.inl (hw _ (List.mem_of_getElem? (i := 35) rfl))) Via.refl d9_1 rfl ?_
  refine f_len K (H.arr (i := 1) rfl) d9_4 rfl ?_
  refine go_ok K [(5, .aload_n 0, 6, 0, 0)] _ _ _ (by decide +kernel) rfl ?_
  refine h_get K H (i := 0) (j := 1) rfl rfl rfl (host := "") (Or.inl (hw _ (List.mem_of_getElem? (i := 37) rfl))) Via.refl d9_6 rfl ?_
  refine go_ok K [(9, .ishr, 10, 0, 0), (10, .istore_n 2, 11, 0, 0), (11, .iload_n 1, 12, 0, 0), (12, .iload_n 2, 13, 0, 0), (13, .isub, 14, 0, 0)] _ _ _ (by decide +kernel) rfl ?_
  refine ifc_le (pc' := 38) (pn := 17) K d9_14 (by decide) (by decide) rfl (fun h14 => ?_) (fun h14 => ?_)
  · rw [own_sr0] at h14
    exact absurd (own_gt0 (by omega) (by omega) hlt) h14
  · refine go_ok K [(17, .aload_n 0, 18, 0, 0), (18, .aload_n 0, 19, 0, 0)] _ _ _ (by decide +kernel) rfl ?_
    refine h_get K H (i := 0) (j := 0) rfl rfl rfl (host := "") (Or.inl (hw _ (List.mem_of_getElem? (i := 35) rfl))) Via.refl d9_19 rfl ?_
    refine go_ok K [(22, .aload_n 0, 23, 0, 0), (23, .iload_n 1, 24, 0, 0)] _ _ _ (by decide +kernel) rfl ?_
    refine call_v K (hw _ (List.mem_of_getElem? (i := 148) rfl)) (own_decl (hw _ (List.mem_of_getElem? (i := 149) rfl)) (hw _ (List.mem_of_getElem? (i := 152) rfl))) (hw _ (List.mem_of_getElem? (i := 151) rfl)) (hw _ (List.mem_of_getElem? (i := 149) rfl)) (hw _ (List.mem_of_getElem? (i := 31) rfl)) (hw _ (List.mem_of_getElem? (i := 152) rfl)) (H.exa (i := 0) rfl) (knc l Z a0 hw n0 ss es sb va n k vs _ hlt (by omega) H) d9_24 rfl rfl [.int (n32 k)] [.ref _, .ref _] rfl rfl pd4 rfl (fun _ q => notFace_of_selects q) (by decide) 2 (Nat.le_of_ble_eq_true rfl) (by decide) (by decide) (by decide) (by decide) ?_
    rintro _ _ ⟨rfl, rfl⟩
    refine go_ok K [(27, .aload_n 0, 28, 0, 0)] _ _ _ (by decide +kernel) rfl ?_
    refine h_get K H (i := 0) (j := 1) rfl rfl rfl (host := "") (Or.inl (hw _ (List.mem_of_getElem? (i := 37) rfl))) Via.refl d9_28 rfl ?_
    refine go_ok K [(31, .ishl, 32, 0, 0)] _ _ _ (by decide +kernel) rfl ?_
    refine call_s K (hw _ (List.mem_of_getElem? (i := 162) rfl)) (hw _ (List.mem_of_getElem? (i := 163) rfl)) (hw _ (List.mem_of_getElem? (i := 124) rfl)) (hw _ (List.mem_of_getElem? (i := 164) rfl)) (kcp l Z a0 hw n0 ss ((sb, .inl ("java/lang/StringBuilder", F_1), [.ref va, .int 0, .int (n32 n)]) :: es) va _ (vs.length + max (k - vs.length) (vs.length + 2)) vs _ (own_sl0 _) (by omega) (by omega) ab (H.front 1 rfl)) d9_32 rfl rfl [.ref va, .int _] [.ref sb] rfl rfl pd5 rfl (by decide) 1 (Nat.le_of_ble_eq_true rfl) (by decide) (by decide) (by decide) (by decide) ?_
    rintro _ h ⟨wa, ws, rfl, gw, hl, ab2, htk, H⟩
    refine h_put K H (lay_1 hw) (i := 2) (j := 0) rfl rfl rfl (host := "") (Or.inl (hw _ (List.mem_of_getElem? (i := 35) rfl))) Via.refl (Or.inl (hw _ (List.mem_of_getElem? (i := 36) rfl))) (hw _ (List.mem_of_getElem? (i := 22) rfl)) (ty := (.array .byte)) (by decide) rfl rfl d9_35 rfl gs ?_
    intro h H
    refine ret_0 K d9_38 (by decide) (by decide) ?_
    exact ⟨rfl, wa, ws, gw, hl, ab2, htk, ((H.front 1 rfl).tail).front 1 rfl⟩
abbrev RIF : Room := { frames := 1, cells := 0, slots := 0, locals := 13 }
abbrev RGB : Room := { frames := 1, cells := 0, slots := 0, locals := 40 }
abbrev RPS : Room := { frames := 2, cells := 0, slots := 0, locals := 55 }
abbrev RAP : Room := { frames := 4, cells := 1, slots := 170, locals := 69 }
abbrev RSA : Room := { frames := 5, cells := 1, slots := 170, locals := 83 }
theorem d11_0 : decode jdk_68_method_71_code 0 = .ok (.getstatic 18, 3) := by decide +kernel
theorem d11_3 : decode jdk_68_method_71_code 3 = .ok (.ifCond .eq 18, 3) := by decide +kernel
theorem d11_7 : decode jdk_68_method_71_code 7 = .ok (.getfield 22, 3) := by decide +kernel
theorem d11_11 : decode jdk_68_method_71_code 11 = .ok (.invokevirtual 40, 3) := by decide +kernel
theorem d11_14 : decode jdk_68_method_71_code 14 = .ok (.if_icmp .eq 7, 3) := by decide +kernel
theorem d11_21 : decode jdk_68_method_71_code 21 = .ok (.return_, 1) := by decide +kernel
theorem pl11 : plainFor (⟨"java/lang/AbstractStringBuilder", "inflateIfNeededFor", "(Ljava/lang/String;)V"⟩ : MethodName) = true := plainFor_of_name (by first | (simp [plainName, overriddenIn, x]; done) | decide +kernel)
set_option maxRecDepth 65536 in
set_option maxHeartbeats 40000000 in
theorem kif (l : Launch) (Z : State) (a0 : Array Value) (hw : ∀ d ∈ tables_1, d.before a0 Z = true) (n0 : Nat) (ss : Stc) (kc : Nat) (z : Int32) (hcs : ss.st[kc]? = some ("java/lang/String", "COMPACT_STRINGS", "Z", .int z)) (hz : ¬ z = 0) (es : List Ent) (i1 i2 : Nat) (sa sd : Addr) (cs : List Value) (sb va : Addr) (n : Nat) (vs : List Value) (h : Heap) (hr1 : ss.ro[i1]? = some (sa, .inl ("java/lang/String", F_0), [.ref sd, .int 0])) (hr2 : ss.ro[i2]? = some (sd, .inr .byte, cs)) (H : Hp Z ss h ((sb, .inl ("java/lang/StringBuilder", F_1), [.ref va, .int 0, .int (n32 n)]) :: (va, .inr .byte, vs) :: es)) :
    Con l Z n0 (⟨"java/lang/AbstractStringBuilder", "inflateIfNeededFor", "(Ljava/lang/String;)V"⟩ : MethodName) jdk_68_method_71_code 2 none [] RIF #[(.ref sb), (.ref sa)] h (fun v h' => v = none ∧ h' = h) := by
  refine Con.of (a0 := a0) [] [] pl11 [.val (.ref sb), .val (.ref sa)] (fun m => by first | (simp [entryFrame, mkF, argsToLocals, Value.category, maxLocals]; done) | rfl) nilI nilI ?_
  intro EE nz p e s m below meth c K
  refine h_sta K H (i := kc) hcs (host := "") (Or.inl (hw _ (List.mem_of_getElem? (i := 34) rfl))) Via.refl d11_0 rfl ?_
  refine ifc_eq (pc' := 21) (pn := 6) K d11_3 (by decide) (by decide) rfl (fun h3 => ?_) (fun h3 => ?_)
  · exact absurd h3 hz
  · refine go_ok K [(6, .aload_n 0, 7, 0, 0)] _ _ _ (by decide +kernel) rfl ?_
    refine h_get K H (i := 0) (j := 1) rfl rfl rfl (host := "") (Or.inl (hw _ (List.mem_of_getElem? (i := 37) rfl))) Via.refl d11_7 rfl ?_
    have E1 := (H.rd hr1).1
    have F1 := rd_fld H hr1 (j := 0) rfl rfl
    have F2 := rd_fld H hr1 (j := 1) rfl rfl
    have V1 : Ars Z h sd .byte cs := H.rd hr2
    refine go_ok K [(10, .aload_n 1, 11, 0, 0)] _ _ _ (by decide +kernel) rfl ?_
    refine call_v K (hw _ (List.mem_of_getElem? (i := 79) rfl)) (hw _ (List.mem_of_getElem? (i := 56) rfl)) (hw _ (List.mem_of_getElem? (i := 58) rfl)) (hw _ (List.mem_of_getElem? (i := 57) rfl)) (hw _ (List.mem_of_getElem? (i := 8) rfl)) (hw _ (List.mem_of_getElem? (i := 59) rfl)) E1 (kco l Z a0 hw n0 z sa _ (H.sta hcs) hz F2) d11_11 rfl rfl [] [.int _] rfl rfl pd0 rfl (fun _ q => notFace_of_selects q) (by decide) 1 (Nat.le_of_ble_eq_true rfl) (by decide) (by decide) (by decide) (by decide) ?_
    rintro _ _ ⟨rfl, rfl⟩
    refine icmp_eq (pc' := 21) (pn := 17) K d11_14 (by decide) (by decide) rfl (fun h14 => ?_) (fun h14 => ?_)
    · refine ret_0 K d11_21 (by decide) (by decide) ?_
      exact ⟨rfl, rfl⟩
    · exact absurd rfl h14
theorem d12_1 : decode jdk_42_method_147_code 1 = .ok (.invokevirtual 335, 3) := by decide +kernel
theorem d12_5 : decode jdk_42_method_147_code 5 = .ok (.if_icmp .ne 23, 3) := by decide +kernel
theorem d12_9 : decode jdk_42_method_147_code 9 = .ok (.getfield 9, 3) := by decide +kernel
theorem d12_18 : decode jdk_42_method_147_code 18 = .ok (.getfield 9, 3) := by decide +kernel
theorem d12_21 : decode jdk_42_method_147_code 21 = .ok (.arraylength, 1) := by decide +kernel
theorem d12_22 : decode jdk_42_method_147_code 22 = .ok (.invokestatic 212, 3) := by decide +kernel
theorem d12_43 : decode jdk_42_method_147_code 43 = .ok (.return_, 1) := by decide +kernel
theorem pl12 : plainFor (⟨"java/lang/String", "getBytes", "([BIB)V"⟩ : MethodName) = true := plainFor_of_name (by first | (simp [plainName, overriddenIn, x]; done) | decide +kernel)
set_option maxRecDepth 65536 in
set_option maxHeartbeats 40000000 in
theorem kgb (l : Launch) (Z : State) (a0 : Array Value) (hw : ∀ d ∈ tables_1, d.before a0 Z = true) (n0 : Nat) (ss : Stc) (kc : Nat) (z : Int32) (hcs : ss.st[kc]? = some ("java/lang/String", "COMPACT_STRINGS", "Z", .int z)) (hz : ¬ z = 0) (es : List Ent) (i1 i2 : Nat) (sa sd : Addr) (cs : List Value) (va : Addr) (x : Int32) (n : Nat) (vs : List Value) (h : Heap) (hr1 : ss.ro[i1]? = some (sa, .inl ("java/lang/String", F_0), [.ref sd, .int 0])) (hr2 : ss.ro[i2]? = some (sd, .inr .byte, cs)) (hx : x = n32 n) (ab : AB vs) (ac : AB cs) (hle : n + cs.length ≤ vs.length) (hv : vs.length < 1000) (gv : n0 ≤ va) (H : Hp Z ss h ((va, .inr .byte, vs) :: es)) :
    Con l Z n0 (⟨"java/lang/String", "getBytes", "([BIB)V"⟩ : MethodName) jdk_42_method_147_code 4 none [] RGB #[(.ref sa), (.ref va), (.int x), (.int 0)] h (fun v h' => v = none ∧ Hp Z ss h' ((va, .inr .byte, vs.take n ++ cs ++ vs.drop (n + cs.length)) :: es)) := by
  refine Con.of (a0 := a0) [] [] pl12 [.val (.ref sa), .val (.ref va), .val (.int x), .val (.int 0)] (fun m => by first | (simp [entryFrame, mkF, argsToLocals, Value.category, maxLocals]; done) | rfl) nilI nilI ?_
  intro EE nz p e s m below meth c K
  subst hx
  refine go_ok K [(0, .aload_n 0, 1, 0, 0)] _ _ _ (by decide +kernel) rfl ?_
  have E1 := (H.rd hr1).1
  have F1 := rd_fld H hr1 (j := 0) rfl rfl
  have F2 := rd_fld H hr1 (j := 1) rfl rfl
  have V1 : Ars Z h sd .byte cs := H.rd hr2
  refine call_v K (hw _ (List.mem_of_getElem? (i := 55) rfl)) (hw _ (List.mem_of_getElem? (i := 56) rfl)) (hw _ (List.mem_of_getElem? (i := 58) rfl)) (hw _ (List.mem_of_getElem? (i := 57) rfl)) (hw _ (List.mem_of_getElem? (i := 8) rfl)) (hw _ (List.mem_of_getElem? (i := 59) rfl)) E1 (kco l Z a0 hw n0 z sa _ (H.sta hcs) hz F2) d12_1 rfl rfl [] [] rfl rfl pd0 rfl (fun _ q => notFace_of_selects q) (by decide) 0 (Nat.le_of_ble_eq_true rfl) (by decide) (by decide) (by decide) (by decide) ?_
  rintro _ _ ⟨rfl, rfl⟩
  refine go_ok K [(4, .iload_n 3, 5, 0, 0)] _ _ _ (by decide +kernel) rfl ?_
  refine icmp_ne (pc' := 28) (pn := 8) K d12_5 (by decide) (by decide) rfl (fun h5 => ?_) (fun h5 => ?_)
  · exact absurd rfl h5
  · refine go_ok K [(8, .aload_n 0, 9, 0, 0)] _ _ _ (by decide +kernel) rfl ?_
    refine f_get K (host := "") (Or.inl (hw _ (List.mem_of_getElem? (i := 54) rfl))) Via.refl F1 d12_9 rfl ?_
    refine go_ok K [(12, .iconst 0, 13, 0, 0), (13, .aload_n 1, 14, 0, 0), (14, .iload_n 2, 15, 0, 0), (15, .iload_n 3, 16, 0, 0), (16, .ishl, 17, 0, 0), (17, .aload_n 0, 18, 0, 0)] _ _ _ (by decide +kernel) rfl ?_
    refine f_get K (host := "") (Or.inl (hw _ (List.mem_of_getElem? (i := 54) rfl))) Via.refl F1 d12_18 rfl ?_
    refine f_len K V1 d12_21 rfl ?_
    rw [own_sl0]
    refine h_copyS K H V1 (j := 0) rfl rfl (hw _ (List.mem_of_getElem? (i := 85) rfl)) (hw _ (List.mem_of_getElem? (i := 88) rfl)) (hw _ (List.mem_of_getElem? (i := 86) rfl)) (hw _ (List.mem_of_getElem? (i := 87) rfl)) (by omega) (by omega) ac ab (by decide) (n_nneg (by omega)) (n_nneg (by omega)) (by rw [n_tnc (by omega)]; simp) (by rw [n_tnc (by omega), n_tnc (by omega)]; exact hle) (vd' := vs.take n ++ cs ++ vs.drop (n + cs.length)) (by rw [n_tnc (by omega), n_tnc (by omega)]; simp) rfl d12_22 rfl rfl gv (by decide) (by decide) ?_
    intro h H
    refine go_ok K [(25, .goto 18, 43, 0, 0)] _ _ _ (by decide +kernel) rfl ?_
    refine ret_0 K d12_43 (by decide) (by decide) ?_
    exact ⟨rfl, H⟩
theorem d10_2 : decode jdk_68_method_73_code 2 = .ok (.invokevirtual 397, 3) := by decide +kernel
theorem d10_7 : decode jdk_68_method_73_code 7 = .ok (.getfield 15, 3) := by decide +kernel
theorem d10_12 : decode jdk_68_method_73_code 12 = .ok (.getfield 22, 3) := by decide +kernel
theorem d10_15 : decode jdk_68_method_73_code 15 = .ok (.invokevirtual 399, 3) := by decide +kernel
theorem d10_18 : decode jdk_68_method_73_code 18 = .ok (.return_, 1) := by decide +kernel
theorem pl10 : plainFor (⟨"java/lang/AbstractStringBuilder", "putStringAt", "(ILjava/lang/String;)V"⟩ : MethodName) = true := plainFor_of_name (by first | (simp [plainName, overriddenIn, x]; done) | decide +kernel)
set_option maxRecDepth 65536 in
set_option maxHeartbeats 40000000 in
theorem kps (l : Launch) (Z : State) (a0 : Array Value) (hw : ∀ d ∈ tables_1, d.before a0 Z = true) (n0 : Nat) (ss : Stc) (kc : Nat) (z : Int32) (hcs : ss.st[kc]? = some ("java/lang/String", "COMPACT_STRINGS", "Z", .int z)) (hz : ¬ z = 0) (es : List Ent) (i1 i2 : Nat) (sa sd : Addr) (cs : List Value) (sb va : Addr) (n : Nat) (vs : List Value) (h : Heap) (hr1 : ss.ro[i1]? = some (sa, .inl ("java/lang/String", F_0), [.ref sd, .int 0])) (hr2 : ss.ro[i2]? = some (sd, .inr .byte, cs)) (ab : AB vs) (ac : AB cs) (hle : n + cs.length ≤ vs.length) (hv : vs.length < 1000) (gv : n0 ≤ va) (H : Hp Z ss h ((sb, .inl ("java/lang/StringBuilder", F_1), [.ref va, .int 0, .int (n32 n)]) :: (va, .inr .byte, vs) :: es)) :
    Con l Z n0 (⟨"java/lang/AbstractStringBuilder", "putStringAt", "(ILjava/lang/String;)V"⟩ : MethodName) jdk_68_method_73_code 3 none [] RPS #[(.ref sb), (.int (n32 n)), (.ref sa)] h (fun v h' => v = none ∧ Hp Z ss h' ((sb, .inl ("java/lang/StringBuilder", F_1), [.ref va, .int 0, .int (n32 n)]) :: (va, .inr .byte, vs.take n ++ cs ++ vs.drop (n + cs.length)) :: es)) := by
  refine Con.of (a0 := a0) [] [] pl10 [.val (.ref sb), .val (.int (n32 n)), .val (.ref sa)] (fun m => by first | (simp [entryFrame, mkF, argsToLocals, Value.category, maxLocals]; done) | rfl) nilI nilI ?_
  intro EE nz p e s m below meth c K
  refine go_ok K [(0, .aload_n 0, 1, 0, 0), (1, .aload_n 2, 2, 0, 0)] _ _ _ (by decide +kernel) rfl ?_
  refine call_v K (hw _ (List.mem_of_getElem? (i := 74) rfl)) (own_decl (hw _ (List.mem_of_getElem? (i := 75) rfl)) (hw _ (List.mem_of_getElem? (i := 78) rfl))) (hw _ (List.mem_of_getElem? (i := 77) rfl)) (hw _ (List.mem_of_getElem? (i := 75) rfl)) (hw _ (List.mem_of_getElem? (i := 31) rfl)) (hw _ (List.mem_of_getElem? (i := 78) rfl)) (H.exa (i := 0) rfl) (kif l Z a0 hw n0 ss kc z hcs hz es i1 i2 sa sd cs sb va n vs _ hr1 hr2 H) d10_2 rfl rfl [.ref sa] [] rfl rfl pd6 rfl (fun _ q => notFace_of_selects q) (by decide) 0 (Nat.le_of_ble_eq_true rfl) (by decide) (by decide) (by decide) (by decide) ?_
  rintro _ _ ⟨rfl, rfl⟩
  refine go_ok K [(5, .aload_n 2, 6, 0, 0), (6, .aload_n 0, 7, 0, 0)] _ _ _ (by decide +kernel) rfl ?_
  refine h_get K H (i := 0) (j := 0) rfl rfl rfl (host := "") (Or.inl (hw _ (List.mem_of_getElem? (i := 35) rfl))) Via.refl d10_7 rfl ?_
  refine go_ok K [(10, .iload_n 1, 11, 0, 0), (11, .aload_n 0, 12, 0, 0)] _ _ _ (by decide +kernel) rfl ?_
  refine h_get K H (i := 0) (j := 1) rfl rfl rfl (host := "") (Or.inl (hw _ (List.mem_of_getElem? (i := 37) rfl))) Via.refl d10_12 rfl ?_
  have E1 := (H.rd hr1).1
  refine call_v K (hw _ (List.mem_of_getElem? (i := 80) rfl)) (hw _ (List.mem_of_getElem? (i := 81) rfl)) (hw _ (List.mem_of_getElem? (i := 83) rfl)) (hw _ (List.mem_of_getElem? (i := 82) rfl)) (hw _ (List.mem_of_getElem? (i := 8) rfl)) (hw _ (List.mem_of_getElem? (i := 84) rfl)) E1 (kgb l Z a0 hw n0 ss kc z hcs hz ((sb, .inl ("java/lang/StringBuilder", F_1), [.ref va, .int 0, .int (n32 n)]) :: es) i1 i2 sa sd cs va _ n vs _ hr1 hr2 rfl ab ac hle hv gv (H.front 1 rfl)) d10_15 rfl rfl [.ref va, .int _, .int 0] [] rfl rfl pd7 rfl (fun _ q => notFace_of_selects q) (by decide) 0 (Nat.le_of_ble_eq_true rfl) (by decide) (by decide) (by decide) (by decide) ?_
  rintro _ h ⟨rfl, H⟩
  refine ret_0 K d10_18 (by decide) (by decide) ?_
  exact ⟨rfl, H.front 1 rfl⟩
theorem d6_1 : decode jdk_68_method_22_code 1 = .ok (.ifnonnull 8, 3) := by decide +kernel
theorem d6_10 : decode jdk_68_method_22_code 10 = .ok (.invokevirtual 32, 3) := by decide +kernel
theorem d6_16 : decode jdk_68_method_22_code 16 = .ok (.getfield 79, 3) := by decide +kernel
theorem d6_21 : decode jdk_68_method_22_code 21 = .ok (.invokevirtual 100, 3) := by decide +kernel
theorem d6_26 : decode jdk_68_method_22_code 26 = .ok (.getfield 79, 3) := by decide +kernel
theorem d6_30 : decode jdk_68_method_22_code 30 = .ok (.invokevirtual 208, 3) := by decide +kernel
theorem d6_35 : decode jdk_68_method_22_code 35 = .ok (.getfield 79, 3) := by decide +kernel
theorem d6_40 : decode jdk_68_method_22_code 40 = .ok (.putfield 79, 3) := by decide +kernel
theorem d6_44 : decode jdk_68_method_22_code 44 = .ok (.areturn, 1) := by decide +kernel
theorem pl6 : plainFor (⟨"java/lang/AbstractStringBuilder", "append", "(Ljava/lang/String;)Ljava/lang/AbstractStringBuilder;"⟩ : MethodName) = true := plainFor_of_name (by first | (simp [plainName, overriddenIn, x]; done) | decide +kernel)
set_option maxRecDepth 65536 in
set_option maxHeartbeats 40000000 in
theorem kap0 (l : Launch) (Z : State) (a0 : Array Value) (hw : ∀ d ∈ tables_1, d.before a0 Z = true) (n0 : Nat) (ss : Stc) (kc : Nat) (z : Int32) (hcs : ss.st[kc]? = some ("java/lang/String", "COMPACT_STRINGS", "Z", .int z)) (hz : ¬ z = 0) (es : List Ent) (i1 i2 : Nat) (sa sd : Addr) (cs : List Value) (sb va : Addr) (n k : Nat) (vs : List Value) (h : Heap) (hr1 : ss.ro[i1]? = some (sa, .inl ("java/lang/String", F_0), [.ref sd, .int 0])) (hr2 : ss.ro[i2]? = some (sd, .inr .byte, cs)) (hkk : n + cs.length = k) (hle : n + cs.length ≤ vs.length) (ab : AB vs) (ac : AB cs) (hv : vs.length ≤ 84) (hk : n + cs.length < 170) (gs : n0 ≤ sb) (gv : n0 ≤ va) (H : Hp Z ss h ((sb, .inl ("java/lang/StringBuilder", F_1), [.ref va, .int 0, .int (n32 n)]) :: (va, .inr .byte, vs) :: es)) :
    Con l Z n0 (⟨"java/lang/AbstractStringBuilder", "append", "(Ljava/lang/String;)Ljava/lang/AbstractStringBuilder;"⟩ : MethodName) jdk_68_method_22_code 3 (some (.object "java/lang/AbstractStringBuilder")) [] RAP #[(.ref sb), (.ref sa)] h (fun v h' => v = some (.ref sb) ∧ ∃ ws, ws.length = vs.length ∧ AB ws ∧ ws.take k = vs.take n ++ cs ∧ Hp Z ss h' ((sb, .inl ("java/lang/StringBuilder", F_1), [.ref va, .int 0, .int (n32 k)]) :: (va, .inr .byte, ws) :: es)) := by
  refine Con.of (a0 := a0) [] [] pl6 [.val (.ref sb), .val (.ref sa), .unset] (fun m => by first | (simp [entryFrame, mkF, argsToLocals, Value.category, maxLocals]; done) | rfl) nilI nilI ?_
  intro EE nz p e s m below meth c K
  refine go_ok K [(0, .aload_n 1, 1, 0, 0)] _ _ _ (by decide +kernel) rfl ?_
  refine nonnul (pc' := 9) (pn := 4) K d6_1 rfl (by decide) (by decide) rfl (fun h1 => ?_) (fun h1 => ?_)
  · refine go_ok K [(9, .aload_n 1, 10, 0, 0)] _ _ _ (by decide +kernel) rfl ?_
    have E1 := (H.rd hr1).1
    have F1 := rd_fld H hr1 (j := 0) rfl rfl
    have F2 := rd_fld H hr1 (j := 1) rfl rfl
    have V1 : Ars Z h sd .byte cs := H.rd hr2
    refine call_v K (hw _ (List.mem_of_getElem? (i := 49) rfl)) (hw _ (List.mem_of_getElem? (i := 50) rfl)) (hw _ (List.mem_of_getElem? (i := 52) rfl)) (hw _ (List.mem_of_getElem? (i := 51) rfl)) (hw _ (List.mem_of_getElem? (i := 8) rfl)) (hw _ (List.mem_of_getElem? (i := 53) rfl)) E1 (kln l Z a0 hw n0 z sa sd cs _ (H.sta hcs) hz E1 F1 F2 V1) d6_10 rfl rfl [] [] rfl rfl pd8 rfl (fun _ q => notFace_of_selects q) (by decide) 0 (Nat.le_of_ble_eq_true rfl) (by decide) (by decide) (by decide) (by decide) ?_
    rintro _ _ ⟨rfl, rfl⟩
    refine go_ok K [(13, .istore_n 2, 14, 0, 0), (14, .aload_n 0, 15, 0, 0), (15, .aload_n 0, 16, 0, 0)] _ _ _ (by decide +kernel) rfl ?_
    refine h_get K H (i := 0) (j := 2) rfl rfl rfl (host := "") (Or.inl (hw _ (List.mem_of_getElem? (i := 62) rfl))) Via.refl d6_16 rfl ?_
    refine go_ok K [(19, .iload_n 2, 20, 0, 0), (20, .iadd, 21, 0, 0)] _ _ _ (by decide +kernel) rfl ?_
    refine call_v K (hw _ (List.mem_of_getElem? (i := 64) rfl)) (own_decl (hw _ (List.mem_of_getElem? (i := 65) rfl)) (hw _ (List.mem_of_getElem? (i := 68) rfl))) (hw _ (List.mem_of_getElem? (i := 67) rfl)) (hw _ (List.mem_of_getElem? (i := 65) rfl)) (hw _ (List.mem_of_getElem? (i := 31) rfl)) (hw _ (List.mem_of_getElem? (i := 68) rfl)) (H.exa (i := 0) rfl) (kec0 l Z a0 hw n0 ss es sb va _ n (n + cs.length) vs _ (n_add _ _) hle ab hv hk gs H) d6_21 rfl rfl [.int _] [] rfl rfl pd1 rfl (fun _ q => notFace_of_selects q) (by decide) 0 (Nat.le_of_ble_eq_true rfl) (by decide) (by decide) (by decide) (by decide) ?_
    rintro _ _ ⟨rfl, rfl⟩
    refine go_ok K [(24, .aload_n 0, 25, 0, 0), (25, .aload_n 0, 26, 0, 0)] _ _ _ (by decide +kernel) rfl ?_
    refine h_get K H (i := 0) (j := 2) rfl rfl rfl (host := "") (Or.inl (hw _ (List.mem_of_getElem? (i := 62) rfl))) Via.refl d6_26 rfl ?_
    refine go_ok K [(29, .aload_n 1, 30, 0, 0)] _ _ _ (by decide +kernel) rfl ?_
    refine call_v K (hw _ (List.mem_of_getElem? (i := 69) rfl)) (own_decl (hw _ (List.mem_of_getElem? (i := 70) rfl)) (hw _ (List.mem_of_getElem? (i := 73) rfl))) (hw _ (List.mem_of_getElem? (i := 72) rfl)) (hw _ (List.mem_of_getElem? (i := 70) rfl)) (hw _ (List.mem_of_getElem? (i := 31) rfl)) (hw _ (List.mem_of_getElem? (i := 73) rfl)) (H.exa (i := 0) rfl) (kps l Z a0 hw n0 ss kc z hcs hz es i1 i2 sa sd cs sb va n vs _ hr1 hr2 ab ac hle (by omega) gv H) d6_30 rfl rfl [.int _, .ref sa] [] rfl rfl pd9 rfl (fun _ q => notFace_of_selects q) (by decide) 0 (Nat.le_of_ble_eq_true rfl) (by decide) (by decide) (by decide) (by decide) ?_
    rintro _ h ⟨rfl, H⟩
    refine go_ok K [(33, .aload_n 0, 34, 0, 0), (34, .dup, 35, 0, 0)] _ _ _ (by decide +kernel) rfl ?_
    refine h_get K H (i := 0) (j := 2) rfl rfl rfl (host := "") (Or.inl (hw _ (List.mem_of_getElem? (i := 62) rfl))) Via.refl d6_35 rfl ?_
    refine go_ok K [(38, .iload_n 2, 39, 0, 0), (39, .iadd, 40, 0, 0)] _ _ _ (by decide +kernel) rfl ?_
    refine h_put K H (lay_1 hw) (i := 0) (j := 2) rfl rfl rfl (host := "") (Or.inl (hw _ (List.mem_of_getElem? (i := 62) rfl))) Via.refl (Or.inl (hw _ (List.mem_of_getElem? (i := 63) rfl))) (hw _ (List.mem_of_getElem? (i := 22) rfl)) (ty := .int) (by decide) rfl rfl d6_40 rfl gs ?_
    intro h H
    refine go_ok K [(43, .aload_n 0, 44, 0, 0)] _ _ _ (by decide +kernel) rfl ?_
    refine ret_a K d6_44 rfl rfl (by decide) (by decide) ?_
    rw [n_add, hkk] at H
    refine ⟨rfl, _, ?_, ?_, ?_, H⟩
    · simp; omega
    · exact AB.app (AB.app (AB.take _ ab) ac) (AB.drop _ ab)
    · exact hkk ▸ own_tk (List.take_length) (by omega) hle
  · cases h1
theorem d5_2 : decode jdk_67_method_7_code 2 = .ok (.invokespecial 29, 3) := by decide +kernel
theorem d5_7 : decode jdk_67_method_7_code 7 = .ok (.areturn, 1) := by decide +kernel
theorem pl5 : plainFor (⟨"java/lang/StringBuilder", "append", "(Ljava/lang/String;)Ljava/lang/StringBuilder;"⟩ : MethodName) = true := plainFor_of_name (by first | (simp [plainName, overriddenIn, x]; done) | decide +kernel)
set_option maxRecDepth 65536 in
set_option maxHeartbeats 40000000 in
theorem ksa0 (l : Launch) (Z : State) (a0 : Array Value) (hw : ∀ d ∈ tables_1, d.before a0 Z = true) (n0 : Nat) (ss : Stc) (kc : Nat) (z : Int32) (hcs : ss.st[kc]? = some ("java/lang/String", "COMPACT_STRINGS", "Z", .int z)) (hz : ¬ z = 0) (es : List Ent) (i1 i2 : Nat) (sa sd : Addr) (cs : List Value) (sb va : Addr) (n k : Nat) (vs : List Value) (h : Heap) (hr1 : ss.ro[i1]? = some (sa, .inl ("java/lang/String", F_0), [.ref sd, .int 0])) (hr2 : ss.ro[i2]? = some (sd, .inr .byte, cs)) (hkk : n + cs.length = k) (hle : n + cs.length ≤ vs.length) (ab : AB vs) (ac : AB cs) (hv : vs.length ≤ 84) (hk : n + cs.length < 170) (gs : n0 ≤ sb) (gv : n0 ≤ va) (H : Hp Z ss h ((sb, .inl ("java/lang/StringBuilder", F_1), [.ref va, .int 0, .int (n32 n)]) :: (va, .inr .byte, vs) :: es)) :
    Con l Z n0 (⟨"java/lang/StringBuilder", "append", "(Ljava/lang/String;)Ljava/lang/StringBuilder;"⟩ : MethodName) jdk_67_method_7_code 2 (some (.object "java/lang/StringBuilder")) [] RSA #[(.ref sb), (.ref sa)] h (fun v h' => v = some (.ref sb) ∧ ∃ ws, ws.length = vs.length ∧ AB ws ∧ ws.take k = vs.take n ++ cs ∧ Hp Z ss h' ((sb, .inl ("java/lang/StringBuilder", F_1), [.ref va, .int 0, .int (n32 k)]) :: (va, .inr .byte, ws) :: es)) := by
  refine Con.of (a0 := a0) [] [] pl5 [.val (.ref sb), .val (.ref sa)] (fun m => by first | (simp [entryFrame, mkF, argsToLocals, Value.category, maxLocals]; done) | rfl) nilI nilI ?_
  intro EE nz p e s m below meth c K
  refine go_ok K [(0, .aload_n 0, 1, 0, 0), (1, .aload_n 1, 2, 0, 0)] _ _ _ (by decide +kernel) rfl ?_
  refine call_sup (y' := (⟨"java/lang/AbstractStringBuilder", "append", "(Ljava/lang/String;)Ljava/lang/AbstractStringBuilder;"⟩ : MethodName)) K (hw _ (List.mem_of_getElem? (i := 67) rfl)) rfl (hw _ (List.mem_of_getElem? (i := 44) rfl)) (hw _ (List.mem_of_getElem? (i := 45) rfl)) (hw _ (List.mem_of_getElem? (i := 46) rfl)) (hw _ (List.mem_of_getElem? (i := 31) rfl)) (hw _ (List.mem_of_getElem? (i := 48) rfl)) (H.exa (i := 0) rfl) (kap0 l Z a0 hw n0 ss kc z hcs hz es i1 i2 sa sd cs sb va n k vs _ hr1 hr2 hkk hle ab ac hv hk gs gv H) d5_2 rfl (by decide) rfl [.ref sa] [] rfl rfl pd10 rfl (by decide) 0 (Nat.le_of_ble_eq_true rfl) (by decide) (by decide) (by decide) (by decide) ?_
  rintro _ h ⟨rfl, ws, hl, ab2, htk, H⟩
  refine go_ok K [(5, .pop, 6, 0, 0), (6, .aload_n 0, 7, 0, 0)] _ _ _ (by decide +kernel) rfl ?_
  refine ret_a K d5_7 rfl rfl (by decide) (by decide) ?_
  exact ⟨rfl, ws, hl, ab2, htk, H⟩
set_option maxRecDepth 65536 in
set_option maxHeartbeats 40000000 in
theorem kap1 (l : Launch) (Z : State) (a0 : Array Value) (hw : ∀ d ∈ tables_1, d.before a0 Z = true) (n0 : Nat) (ss : Stc) (kc : Nat) (z : Int32) (hcs : ss.st[kc]? = some ("java/lang/String", "COMPACT_STRINGS", "Z", .int z)) (hz : ¬ z = 0) (es : List Ent) (i1 i2 : Nat) (sa sd : Addr) (cs : List Value) (sb va : Addr) (n k : Nat) (vs : List Value) (h : Heap) (hr1 : ss.ro[i1]? = some (sa, .inl ("java/lang/String", F_0), [.ref sd, .int 0])) (hr2 : ss.ro[i2]? = some (sd, .inr .byte, cs)) (hkk : n + cs.length = k) (hlt : vs.length < n + cs.length) (hn : n ≤ vs.length) (ab : AB vs) (ac : AB cs) (hv : vs.length ≤ 84) (hk : n + cs.length < 170) (gs : n0 ≤ sb) (gv : n0 ≤ va) (H : Hp Z ss h ((sb, .inl ("java/lang/StringBuilder", F_1), [.ref va, .int 0, .int (n32 n)]) :: (va, .inr .byte, vs) :: es)) :
    Con l Z n0 (⟨"java/lang/AbstractStringBuilder", "append", "(Ljava/lang/String;)Ljava/lang/AbstractStringBuilder;"⟩ : MethodName) jdk_68_method_22_code 3 (some (.object "java/lang/AbstractStringBuilder")) [] RAP #[(.ref sb), (.ref sa)] h (fun v h' => v = some (.ref sb) ∧ ∃ wa ws, n0 ≤ wa ∧ ws.length = vs.length + max (k - vs.length) (vs.length + 2) ∧ AB ws ∧ ws.take k = vs.take n ++ cs ∧ Hp Z ss h' ((sb, .inl ("java/lang/StringBuilder", F_1), [.ref wa, .int 0, .int (n32 k)]) :: (wa, .inr .byte, ws) :: es)) := by
  refine Con.of (a0 := a0) [] [] pl6 [.val (.ref sb), .val (.ref sa), .unset] (fun m => by first | (simp [entryFrame, mkF, argsToLocals, Value.category, maxLocals]; done) | rfl) nilI nilI ?_
  intro EE nz p e s m below meth c K
  refine go_ok K [(0, .aload_n 1, 1, 0, 0)] _ _ _ (by decide +kernel) rfl ?_
  refine nonnul (pc' := 9) (pn := 4) K d6_1 rfl (by decide) (by decide) rfl (fun h1 => ?_) (fun h1 => ?_)
  · refine go_ok K [(9, .aload_n 1, 10, 0, 0)] _ _ _ (by decide +kernel) rfl ?_
    have E1 := (H.rd hr1).1
    have F1 := rd_fld H hr1 (j := 0) rfl rfl
    have F2 := rd_fld H hr1 (j := 1) rfl rfl
    have V1 : Ars Z h sd .byte cs := H.rd hr2
    refine call_v K (hw _ (List.mem_of_getElem? (i := 49) rfl)) (hw _ (List.mem_of_getElem? (i := 50) rfl)) (hw _ (List.mem_of_getElem? (i := 52) rfl)) (hw _ (List.mem_of_getElem? (i := 51) rfl)) (hw _ (List.mem_of_getElem? (i := 8) rfl)) (hw _ (List.mem_of_getElem? (i := 53) rfl)) E1 (kln l Z a0 hw n0 z sa sd cs _ (H.sta hcs) hz E1 F1 F2 V1) d6_10 rfl rfl [] [] rfl rfl pd8 rfl (fun _ q => notFace_of_selects q) (by decide) 0 (Nat.le_of_ble_eq_true rfl) (by decide) (by decide) (by decide) (by decide) ?_
    rintro _ _ ⟨rfl, rfl⟩
    refine go_ok K [(13, .istore_n 2, 14, 0, 0), (14, .aload_n 0, 15, 0, 0), (15, .aload_n 0, 16, 0, 0)] _ _ _ (by decide +kernel) rfl ?_
    refine h_get K H (i := 0) (j := 2) rfl rfl rfl (host := "") (Or.inl (hw _ (List.mem_of_getElem? (i := 62) rfl))) Via.refl d6_16 rfl ?_
    refine go_ok K [(19, .iload_n 2, 20, 0, 0), (20, .iadd, 21, 0, 0)] _ _ _ (by decide +kernel) rfl ?_
    refine call_v K (hw _ (List.mem_of_getElem? (i := 64) rfl)) (own_decl (hw _ (List.mem_of_getElem? (i := 65) rfl)) (hw _ (List.mem_of_getElem? (i := 68) rfl))) (hw _ (List.mem_of_getElem? (i := 67) rfl)) (hw _ (List.mem_of_getElem? (i := 65) rfl)) (hw _ (List.mem_of_getElem? (i := 31) rfl)) (hw _ (List.mem_of_getElem? (i := 68) rfl)) (H.exa (i := 0) rfl) (kec1 l Z a0 hw n0 ss es sb va _ n (n + cs.length) vs _ (n_add _ _) hlt ab hv hk gs H) d6_21 rfl rfl [.int _] [] rfl rfl pd1 rfl (fun _ q => notFace_of_selects q) (by decide) 0 (Nat.le_of_ble_eq_true rfl) (by decide) (by decide) (by decide) (by decide) ?_
    rintro _ h ⟨rfl, wa, ws, gw, hl, ab2, htk, H⟩
    refine go_ok K [(24, .aload_n 0, 25, 0, 0), (25, .aload_n 0, 26, 0, 0)] _ _ _ (by decide +kernel) rfl ?_
    refine h_get K H (i := 0) (j := 2) rfl rfl rfl (host := "") (Or.inl (hw _ (List.mem_of_getElem? (i := 62) rfl))) Via.refl d6_26 rfl ?_
    refine go_ok K [(29, .aload_n 1, 30, 0, 0)] _ _ _ (by decide +kernel) rfl ?_
    refine call_v K (hw _ (List.mem_of_getElem? (i := 69) rfl)) (own_decl (hw _ (List.mem_of_getElem? (i := 70) rfl)) (hw _ (List.mem_of_getElem? (i := 73) rfl))) (hw _ (List.mem_of_getElem? (i := 72) rfl)) (hw _ (List.mem_of_getElem? (i := 70) rfl)) (hw _ (List.mem_of_getElem? (i := 31) rfl)) (hw _ (List.mem_of_getElem? (i := 73) rfl)) (H.exa (i := 0) rfl) (kps l Z a0 hw n0 ss kc z hcs hz es i1 i2 sa sd cs sb wa n ws _ hr1 hr2 ab2 ac (by omega) (by omega) gw H) d6_30 rfl rfl [.int _, .ref sa] [] rfl rfl pd9 rfl (fun _ q => notFace_of_selects q) (by decide) 0 (Nat.le_of_ble_eq_true rfl) (by decide) (by decide) (by decide) (by decide) ?_
    rintro _ h ⟨rfl, H⟩
    refine go_ok K [(33, .aload_n 0, 34, 0, 0), (34, .dup, 35, 0, 0)] _ _ _ (by decide +kernel) rfl ?_
    refine h_get K H (i := 0) (j := 2) rfl rfl rfl (host := "") (Or.inl (hw _ (List.mem_of_getElem? (i := 62) rfl))) Via.refl d6_35 rfl ?_
    refine go_ok K [(38, .iload_n 2, 39, 0, 0), (39, .iadd, 40, 0, 0)] _ _ _ (by decide +kernel) rfl ?_
    refine h_put K H (lay_1 hw) (i := 0) (j := 2) rfl rfl rfl (host := "") (Or.inl (hw _ (List.mem_of_getElem? (i := 62) rfl))) Via.refl (Or.inl (hw _ (List.mem_of_getElem? (i := 63) rfl))) (hw _ (List.mem_of_getElem? (i := 22) rfl)) (ty := .int) (by decide) rfl rfl d6_40 rfl gs ?_
    intro h H
    refine go_ok K [(43, .aload_n 0, 44, 0, 0)] _ _ _ (by decide +kernel) rfl ?_
    refine ret_a K d6_44 rfl rfl (by decide) (by decide) ?_
    rw [n_add, hkk] at H
    refine ⟨rfl, wa, _, gw, ?_, ?_, ?_, H⟩
    · simp [hl]; omega
    · exact AB.app (AB.app (AB.take _ ab2) ac) (AB.drop _ ab2)
    · exact hkk ▸ own_tk htk hn (by omega)
  · cases h1
set_option maxRecDepth 65536 in
set_option maxHeartbeats 40000000 in
theorem ksa1 (l : Launch) (Z : State) (a0 : Array Value) (hw : ∀ d ∈ tables_1, d.before a0 Z = true) (n0 : Nat) (ss : Stc) (kc : Nat) (z : Int32) (hcs : ss.st[kc]? = some ("java/lang/String", "COMPACT_STRINGS", "Z", .int z)) (hz : ¬ z = 0) (es : List Ent) (i1 i2 : Nat) (sa sd : Addr) (cs : List Value) (sb va : Addr) (n k : Nat) (vs : List Value) (h : Heap) (hr1 : ss.ro[i1]? = some (sa, .inl ("java/lang/String", F_0), [.ref sd, .int 0])) (hr2 : ss.ro[i2]? = some (sd, .inr .byte, cs)) (hkk : n + cs.length = k) (hlt : vs.length < n + cs.length) (hn : n ≤ vs.length) (ab : AB vs) (ac : AB cs) (hv : vs.length ≤ 84) (hk : n + cs.length < 170) (gs : n0 ≤ sb) (gv : n0 ≤ va) (H : Hp Z ss h ((sb, .inl ("java/lang/StringBuilder", F_1), [.ref va, .int 0, .int (n32 n)]) :: (va, .inr .byte, vs) :: es)) :
    Con l Z n0 (⟨"java/lang/StringBuilder", "append", "(Ljava/lang/String;)Ljava/lang/StringBuilder;"⟩ : MethodName) jdk_67_method_7_code 2 (some (.object "java/lang/StringBuilder")) [] RSA #[(.ref sb), (.ref sa)] h (fun v h' => v = some (.ref sb) ∧ ∃ wa ws, n0 ≤ wa ∧ ws.length = vs.length + max (k - vs.length) (vs.length + 2) ∧ AB ws ∧ ws.take k = vs.take n ++ cs ∧ Hp Z ss h' ((sb, .inl ("java/lang/StringBuilder", F_1), [.ref wa, .int 0, .int (n32 k)]) :: (wa, .inr .byte, ws) :: es)) := by
  refine Con.of (a0 := a0) [] [] pl5 [.val (.ref sb), .val (.ref sa)] (fun m => by first | (simp [entryFrame, mkF, argsToLocals, Value.category, maxLocals]; done) | rfl) nilI nilI ?_
  intro EE nz p e s m below meth c K
  refine go_ok K [(0, .aload_n 0, 1, 0, 0), (1, .aload_n 1, 2, 0, 0)] _ _ _ (by decide +kernel) rfl ?_
  refine call_sup (y' := (⟨"java/lang/AbstractStringBuilder", "append", "(Ljava/lang/String;)Ljava/lang/AbstractStringBuilder;"⟩ : MethodName)) K (hw _ (List.mem_of_getElem? (i := 67) rfl)) rfl (hw _ (List.mem_of_getElem? (i := 44) rfl)) (hw _ (List.mem_of_getElem? (i := 45) rfl)) (hw _ (List.mem_of_getElem? (i := 46) rfl)) (hw _ (List.mem_of_getElem? (i := 31) rfl)) (hw _ (List.mem_of_getElem? (i := 48) rfl)) (H.exa (i := 0) rfl) (kap1 l Z a0 hw n0 ss kc z hcs hz es i1 i2 sa sd cs sb va n k vs _ hr1 hr2 hkk hlt hn ab ac hv hk gs gv H) d5_2 rfl (by decide) rfl [.ref sa] [] rfl rfl pd10 rfl (by decide) 0 (Nat.le_of_ble_eq_true rfl) (by decide) (by decide) (by decide) (by decide) ?_
  rintro _ h ⟨rfl, wa, ws, gw, hl, ab2, htk, H⟩
  refine go_ok K [(5, .pop, 6, 0, 0), (6, .aload_n 0, 7, 0, 0)] _ _ _ (by decide +kernel) rfl ?_
  refine ret_a K d5_7 rfl rfl (by decide) (by decide) ?_
  exact ⟨rfl, wa, ws, gw, hl, ab2, htk, H⟩
theorem d16_1 : decode jdk_68_method_64_code 1 = .ok (.getfield 15, 3) := by decide +kernel
theorem d16_4 : decode jdk_68_method_64_code 4 = .ok (.areturn, 1) := by decide +kernel
theorem pl16 : plainFor (⟨"java/lang/AbstractStringBuilder", "getValue", "()[B"⟩ : MethodName) = true := plainFor_of_name (by first | (simp [plainName, overriddenIn, x]; done) | decide +kernel)
set_option maxRecDepth 65536 in
set_option maxHeartbeats 40000000 in
theorem kgv (l : Launch) (Z : State) (a0 : Array Value) (hw : ∀ d ∈ tables_1, d.before a0 Z = true) (n0 : Nat) (ss : Stc) (es : List Ent) (sb va : Addr) (n : Nat) (vs : List Value) (h : Heap) (H : Hp Z ss h ((sb, .inl ("java/lang/StringBuilder", F_1), [.ref va, .int 0, .int (n32 n)]) :: (va, .inr .byte, vs) :: es)) :
    Con l Z n0 (⟨"java/lang/AbstractStringBuilder", "getValue", "()[B"⟩ : MethodName) jdk_68_method_64_code 1 (some (.array .byte)) [] Rm0 #[(.ref sb)] h (fun v h' => v = some (.ref va) ∧ h' = h) := by
  refine Con.of (a0 := a0) [] [] pl16 [.val (.ref sb)] (fun m => by first | (simp [entryFrame, mkF, argsToLocals, Value.category, maxLocals]; done) | rfl) nilI nilI ?_
  intro EE nz p e s m below meth c K
  refine go_ok K [(0, .aload_n 0, 1, 0, 0)] _ _ _ (by decide +kernel) rfl ?_
  refine h_get K H (i := 0) (j := 0) rfl rfl rfl (host := "") (Or.inl (hw _ (List.mem_of_getElem? (i := 35) rfl))) Via.refl d16_1 rfl ?_
  refine ret_a K d16_4 rfl rfl (by decide) (by decide) ?_
  exact ⟨rfl, rfl⟩
theorem d18_1 : decode jdk_68_method_6_code 1 = .ok (.getfield 79, 3) := by decide +kernel
theorem d18_4 : decode jdk_68_method_6_code 4 = .ok (.ireturn, 1) := by decide +kernel
theorem pl18 : plainFor (⟨"java/lang/AbstractStringBuilder", "length", "()I"⟩ : MethodName) = true := plainFor_of_name (by first | (simp [plainName, overriddenIn, x]; done) | decide +kernel)
set_option maxRecDepth 65536 in
set_option maxHeartbeats 40000000 in
theorem kal (l : Launch) (Z : State) (a0 : Array Value) (hw : ∀ d ∈ tables_1, d.before a0 Z = true) (n0 : Nat) (ss : Stc) (es : List Ent) (sb va : Addr) (n : Nat) (vs : List Value) (h : Heap) (H : Hp Z ss h ((sb, .inl ("java/lang/StringBuilder", F_1), [.ref va, .int 0, .int (n32 n)]) :: (va, .inr .byte, vs) :: es)) :
    Con l Z n0 (⟨"java/lang/AbstractStringBuilder", "length", "()I"⟩ : MethodName) jdk_68_method_6_code 1 (some .int) [] Rm0 #[(.ref sb)] h (fun v h' => v = some (.int (n32 n)) ∧ h' = h) := by
  refine Con.of (a0 := a0) [] [] pl18 [.val (.ref sb)] (fun m => by first | (simp [entryFrame, mkF, argsToLocals, Value.category, maxLocals]; done) | rfl) nilI nilI ?_
  intro EE nz p e s m below meth c K
  refine go_ok K [(0, .aload_n 0, 1, 0, 0)] _ _ _ (by decide +kernel) rfl ?_
  refine h_get K H (i := 0) (j := 2) rfl rfl rfl (host := "") (Or.inl (hw _ (List.mem_of_getElem? (i := 62) rfl))) Via.refl d18_1 rfl ?_
  refine ret_i K d18_4 (by decide) (by decide) ?_
  exact ⟨rfl, rfl⟩
abbrev RSL : Room := { frames := 1, cells := 0, slots := 0, locals := 12 }
theorem d17_1 : decode jdk_67_method_93_code 1 = .ok (.invokespecial 343, 3) := by decide +kernel
theorem d17_4 : decode jdk_67_method_93_code 4 = .ok (.ireturn, 1) := by decide +kernel
theorem pl17 : plainFor (⟨"java/lang/StringBuilder", "length", "()I"⟩ : MethodName) = true := plainFor_of_name (by first | (simp [plainName, overriddenIn, x]; done) | decide +kernel)
set_option maxRecDepth 65536 in
set_option maxHeartbeats 40000000 in
theorem ksl (l : Launch) (Z : State) (a0 : Array Value) (hw : ∀ d ∈ tables_1, d.before a0 Z = true) (n0 : Nat) (ss : Stc) (es : List Ent) (sb va : Addr) (n : Nat) (vs : List Value) (h : Heap) (H : Hp Z ss h ((sb, .inl ("java/lang/StringBuilder", F_1), [.ref va, .int 0, .int (n32 n)]) :: (va, .inr .byte, vs) :: es)) :
    Con l Z n0 (⟨"java/lang/StringBuilder", "length", "()I"⟩ : MethodName) jdk_67_method_93_code 1 (some .int) [] RSL #[(.ref sb)] h (fun v h' => v = some (.int (n32 n)) ∧ h' = h) := by
  refine Con.of (a0 := a0) [] [] pl17 [.val (.ref sb)] (fun m => by first | (simp [entryFrame, mkF, argsToLocals, Value.category, maxLocals]; done) | rfl) nilI nilI ?_
  intro EE nz p e s m below meth c K
  refine go_ok K [(0, .aload_n 0, 1, 0, 0)] _ _ _ (by decide +kernel) rfl ?_
  refine call_sup (y' := (⟨"java/lang/AbstractStringBuilder", "length", "()I"⟩ : MethodName)) K (hw _ (List.mem_of_getElem? (i := 67) rfl)) rfl (hw _ (List.mem_of_getElem? (i := 115) rfl)) (hw _ (List.mem_of_getElem? (i := 111) rfl)) (hw _ (List.mem_of_getElem? (i := 46) rfl)) (hw _ (List.mem_of_getElem? (i := 31) rfl)) (hw _ (List.mem_of_getElem? (i := 116) rfl)) (H.exa (i := 0) rfl) (kal l Z a0 hw n0 ss es sb va n vs _ H) d17_1 rfl (by decide) rfl [] [] rfl rfl pd8 rfl (by decide) 0 (Nat.le_of_ble_eq_true rfl) (by decide) (by decide) (by decide) (by decide) ?_
  rintro _ _ ⟨rfl, rfl⟩
  refine ret_i K d17_4 (by decide) (by decide) ?_
  exact ⟨rfl, rfl⟩
theorem d19_0 : decode jdk_68_method_68_code 0 = .ok (.getstatic 18, 3) := by decide +kernel
theorem d19_3 : decode jdk_68_method_68_code 3 = .ok (.ifCond .eq 14, 3) := by decide +kernel
theorem d19_7 : decode jdk_68_method_68_code 7 = .ok (.getfield 22, 3) := by decide +kernel
theorem d19_10 : decode jdk_68_method_68_code 10 = .ok (.ifCond .ne 7, 3) := by decide +kernel
theorem d19_18 : decode jdk_68_method_68_code 18 = .ok (.ireturn, 1) := by decide +kernel
theorem pl19 : plainFor (⟨"java/lang/AbstractStringBuilder", "isLatin1", "()Z"⟩ : MethodName) = true := plainFor_of_name (by first | (simp [plainName, overriddenIn, x]; done) | decide +kernel)
set_option maxRecDepth 65536 in
set_option maxHeartbeats 40000000 in
theorem kil (l : Launch) (Z : State) (a0 : Array Value) (hw : ∀ d ∈ tables_1, d.before a0 Z = true) (n0 : Nat) (ss : Stc) (kc : Nat) (z : Int32) (hcs : ss.st[kc]? = some ("java/lang/String", "COMPACT_STRINGS", "Z", .int z)) (hz : ¬ z = 0) (es : List Ent) (sb va : Addr) (n : Nat) (vs : List Value) (h : Heap) (H : Hp Z ss h ((sb, .inl ("java/lang/StringBuilder", F_1), [.ref va, .int 0, .int (n32 n)]) :: (va, .inr .byte, vs) :: es)) :
    Con l Z n0 (⟨"java/lang/AbstractStringBuilder", "isLatin1", "()Z"⟩ : MethodName) jdk_68_method_68_code 1 (some .boolean) [] Rm0 #[(.ref sb)] h (fun v h' => v = some (.int 1) ∧ h' = h) := by
  refine Con.of (a0 := a0) [] [] pl19 [.val (.ref sb)] (fun m => by first | (simp [entryFrame, mkF, argsToLocals, Value.category, maxLocals]; done) | rfl) nilI nilI ?_
  intro EE nz p e s m below meth c K
  refine h_sta K H (i := kc) hcs (host := "") (Or.inl (hw _ (List.mem_of_getElem? (i := 34) rfl))) Via.refl d19_0 rfl ?_
  refine ifc_eq (pc' := 17) (pn := 6) K d19_3 (by decide) (by decide) rfl (fun h3 => ?_) (fun h3 => ?_)
  · exact absurd h3 hz
  · refine go_ok K [(6, .aload_n 0, 7, 0, 0)] _ _ _ (by decide +kernel) rfl ?_
    refine h_get K H (i := 0) (j := 1) rfl rfl rfl (host := "") (Or.inl (hw _ (List.mem_of_getElem? (i := 37) rfl))) Via.refl d19_7 rfl ?_
    refine ifc_ne (pc' := 17) (pn := 13) K d19_10 (by decide) (by decide) rfl (fun h10 => ?_) (fun h10 => ?_)
    · exact absurd rfl h10
    · refine go_ok K [(13, .iconst 1, 14, 1, 0), (14, .goto 4, 18, 0, 0)] _ _ _ (by decide +kernel) rfl ?_
      refine ret_z K d19_18 (by first | exact Or.inl rfl | exact Or.inr rfl) (by decide) (by decide) ?_
      exact ⟨rfl, rfl⟩
theorem d22_2 : decode jdk_65_method_131_code 2 = .ok (.if_icmp .ge 35, 3) := by decide +kernel
theorem d22_37 : decode jdk_65_method_131_code 37 = .ok (.return_, 1) := by decide +kernel
theorem pl22 : plainFor (⟨"java/util/Arrays", "checkLength", "(II)V"⟩ : MethodName) = true := plainFor_of_name (by first | (simp [plainName, overriddenIn, x]; done) | decide +kernel)
set_option maxRecDepth 65536 in
set_option maxHeartbeats 40000000 in
theorem kcl (l : Launch) (Z : State) (a0 : Array Value) (hw : ∀ d ∈ tables_1, d.before a0 Z = true) (n0 : Nat) (n : Nat) (h : Heap) (hn : n < 1000) :
    Con l Z n0 (⟨"java/util/Arrays", "checkLength", "(II)V"⟩ : MethodName) jdk_65_method_131_code 2 none [] Rm0 #[(.int 0), (.int (n32 n))] h (fun v h' => v = none ∧ h' = h) := by
  refine Con.of (a0 := a0) [] [] pl22 [.val (.int 0), .val (.int (n32 n))] (fun m => by first | (simp [entryFrame, mkF, argsToLocals, Value.category, maxLocals]; done) | rfl) nilI nilI ?_
  intro EE nz p e s m below meth c K
  refine go_ok K [(0, .iload_n 1, 1, 0, 0), (1, .iload_n 0, 2, 0, 0)] _ _ _ (by decide +kernel) rfl ?_
  refine icmp_ge (pc' := 37) (pn := 5) K d22_2 (by decide) (by decide) rfl (fun h2 => ?_) (fun h2 => ?_)
  · refine ret_0 K d22_37 (by decide) (by decide) ?_
    exact ⟨rfl, rfl⟩
  · exact absurd h2 (n_nneg (by omega))
abbrev RCB : Room := { frames := 1, cells := 1, slots := 90, locals := 40 }
theorem d21_2 : decode jdk_65_method_133_code 2 = .ok (.invokestatic 343, 3) := by decide +kernel
theorem d21_10 : decode jdk_65_method_133_code 10 = .ok (.newarray .byte, 2) := by decide +kernel
theorem d21_20 : decode jdk_65_method_133_code 20 = .ok (.arraylength, 1) := by decide +kernel
theorem d21_24 : decode jdk_65_method_133_code 24 = .ok (.invokestatic 304, 3) := by decide +kernel
theorem d21_27 : decode jdk_65_method_133_code 27 = .ok (.invokestatic 150, 3) := by decide +kernel
theorem d21_32 : decode jdk_65_method_133_code 32 = .ok (.areturn, 1) := by decide +kernel
theorem pl21 : plainFor (⟨"java/util/Arrays", "copyOfRangeByte", "([BII)[B"⟩ : MethodName) = true := plainFor_of_name (by first | (simp [plainName, overriddenIn, x]; done) | decide +kernel)
set_option maxRecDepth 65536 in
set_option maxHeartbeats 40000000 in
theorem kcb (l : Launch) (Z : State) (a0 : Array Value) (hw : ∀ d ∈ tables_1, d.before a0 Z = true) (n0 : Nat) (ss : Stc) (es : List Ent) (va : Addr) (n : Nat) (vs : List Value) (h : Heap) (hn : n ≤ 90) (hl : n < vs.length) (hv : vs.length < 1000) (ab : AB vs) (H : Hp Z ss h ((va, .inr .byte, vs) :: es)) :
    Con l Z n0 (⟨"java/util/Arrays", "copyOfRangeByte", "([BII)[B"⟩ : MethodName) jdk_65_method_133_code 5 (some (.array .byte)) [] RCB #[(.ref va), (.int 0), (.int (n32 n))] h (fun v h' => ∃ wa, v = some (.ref wa) ∧ n0 ≤ wa ∧ Hp Z ss h' ((wa, .inr .byte, vs.take n) :: (va, .inr .byte, vs) :: es)) := by
  refine Con.of (a0 := a0) [] [] pl21 [.val (.ref va), .val (.int 0), .val (.int (n32 n)), .unset, .unset] (fun m => by first | (simp [entryFrame, mkF, argsToLocals, Value.category, maxLocals]; done) | rfl) nilI nilI ?_
  intro EE nz p e s m below meth c K
  refine go_ok K [(0, .iload_n 1, 1, 0, 0), (1, .iload_n 2, 2, 0, 0)] _ _ _ (by decide +kernel) rfl ?_
  refine call_s K (hw _ (List.mem_of_getElem? (i := 129) rfl)) (hw _ (List.mem_of_getElem? (i := 130) rfl)) (hw _ (List.mem_of_getElem? (i := 124) rfl)) (hw _ (List.mem_of_getElem? (i := 131) rfl)) (kcl l Z a0 hw n0 n _ (by omega)) d21_2 rfl rfl [.int 0, .int (n32 n)] [] rfl rfl pd11 rfl (by decide) 0 (Nat.le_of_ble_eq_true rfl) (by decide) (by decide) (by decide) (by decide) ?_
  rintro _ _ ⟨rfl, rfl⟩
  refine go_ok K [(5, .iload_n 2, 6, 0, 0), (6, .iload_n 1, 7, 0, 0), (7, .isub, 8, 0, 0), (8, .istore_n 3, 9, 0, 0), (9, .iload_n 3, 10, 0, 0)] _ _ _ (by decide +kernel) rfl ?_
  rw [own_sub0]
  refine h_newarr K H (hw _ (List.mem_of_getElem? (i := 10) rfl)) d21_10 rfl (List.replicate n (.int 0)) (by rw [n_tnc (by omega)]; rfl) (n_nneg (by omega)) 90 (by rw [n_tnc (by omega)]; exact hn) (by decide) (by decide) (by decide) ?_
  intro h wa gw H
  refine go_ok K [(12, .astore 4, 14, 0, 0), (14, .aload_n 0, 15, 0, 0), (15, .iload_n 1, 16, 0, 0), (16, .aload 4, 18, 0, 0), (18, .iconst 0, 19, 0, 0), (19, .aload_n 0, 20, 0, 0)] _ _ _ (by decide +kernel) rfl ?_
  refine f_len K (H.arr (i := 1) rfl) d21_20 rfl ?_
  refine go_ok K [(21, .iload_n 1, 22, 0, 0), (22, .isub, 23, 0, 0), (23, .iload_n 3, 24, 0, 0)] _ _ _ (by decide +kernel) rfl ?_
  refine call_s K (hw _ (List.mem_of_getElem? (i := 132) rfl)) (hw _ (List.mem_of_getElem? (i := 133) rfl)) (hw _ (List.mem_of_getElem? (i := 134) rfl)) (hw _ (List.mem_of_getElem? (i := 135) rfl)) (kmi l Z a0 hw n0 _ _ vs.length n _ (own_sub0 _) rfl (by omega) (by omega)) d21_24 rfl rfl [.int _, .int _] [.int 0, .ref _, .int 0, .ref _] rfl rfl pd2 rfl (by decide) 4 (Nat.le_of_ble_eq_true rfl) (by decide) (by decide) (by decide) (by decide) ?_
  rintro _ _ ⟨rfl, rfl⟩
  have em : min vs.length n = n := Nat.min_eq_right (by omega)
  rw [em]
  refine h_copy K H (i := 1) (j := 0) rfl rfl rfl (hw _ (List.mem_of_getElem? (i := 136) rfl)) (hw _ (List.mem_of_getElem? (i := 88) rfl)) (hw _ (List.mem_of_getElem? (i := 86) rfl)) (hw _ (List.mem_of_getElem? (i := 87) rfl)) (by omega) (by simp; omega) ab (AB.rep n) (by decide) (by decide) (n_nneg (by omega)) (by rw [n_tnc (by omega)]; simp; omega) (by rw [n_tnc (by omega)]; simp) (vd' := vs.take n) (by rw [n_tnc (by omega)]; simp) rfl d21_27 rfl rfl gw (by decide) (by decide) ?_
  intro h H
  refine go_ok K [(30, .aload 4, 32, 0, 0)] _ _ _ (by decide +kernel) rfl ?_
  refine ret_a K d21_32 rfl rfl (by decide) (by decide) ?_
  exact ⟨wa, rfl, gw, H⟩
abbrev RCR : Room := { frames := 2, cells := 1, slots := 90, locals := 56 }
theorem d20_1 : decode jdk_65_method_132_code 1 = .ok (.ifCond .ne 9, 3) := by decide +kernel
theorem d20_6 : decode jdk_65_method_132_code 6 = .ok (.arraylength, 1) := by decide +kernel
theorem d20_7 : decode jdk_65_method_132_code 7 = .ok (.if_icmp .eq 10, 3) := by decide +kernel
theorem d20_13 : decode jdk_65_method_132_code 13 = .ok (.invokestatic 339, 3) := by decide +kernel
theorem d20_16 : decode jdk_65_method_132_code 16 = .ok (.areturn, 1) := by decide +kernel
theorem pl20 : plainFor (⟨"java/util/Arrays", "copyOfRange", "([BII)[B"⟩ : MethodName) = true := plainFor_of_name (by first | (simp [plainName, overriddenIn, x]; done) | decide +kernel)
set_option maxRecDepth 65536 in
set_option maxHeartbeats 40000000 in
theorem kcr (l : Launch) (Z : State) (a0 : Array Value) (hw : ∀ d ∈ tables_1, d.before a0 Z = true) (n0 : Nat) (ss : Stc) (es : List Ent) (va : Addr) (n : Nat) (vs : List Value) (h : Heap) (hn : n ≤ 90) (hl : n < vs.length) (hv : vs.length < 1000) (ab : AB vs) (H : Hp Z ss h ((va, .inr .byte, vs) :: es)) :
    Con l Z n0 (⟨"java/util/Arrays", "copyOfRange", "([BII)[B"⟩ : MethodName) jdk_65_method_132_code 3 (some (.array .byte)) [] RCR #[(.ref va), (.int 0), (.int (n32 n))] h (fun v h' => ∃ wa, v = some (.ref wa) ∧ n0 ≤ wa ∧ Hp Z ss h' ((wa, .inr .byte, vs.take n) :: (va, .inr .byte, vs) :: es)) := by
  refine Con.of (a0 := a0) [] [] pl20 [.val (.ref va), .val (.int 0), .val (.int (n32 n))] (fun m => by first | (simp [entryFrame, mkF, argsToLocals, Value.category, maxLocals]; done) | rfl) nilI nilI ?_
  intro EE nz p e s m below meth c K
  refine go_ok K [(0, .iload_n 1, 1, 0, 0)] _ _ _ (by decide +kernel) rfl ?_
  refine ifc_ne (pc' := 10) (pn := 4) K d20_1 (by decide) (by decide) rfl (fun h1 => ?_) (fun h1 => ?_)
  · exact absurd rfl h1
  · refine go_ok K [(4, .iload_n 2, 5, 0, 0), (5, .aload_n 0, 6, 0, 0)] _ _ _ (by decide +kernel) rfl ?_
    refine f_len K (H.arr (i := 0) rfl) d20_6 rfl ?_
    refine icmp_eq (pc' := 17) (pn := 10) K d20_7 (by decide) (by decide) rfl (fun h7 => ?_) (fun h7 => ?_)
    · exact absurd ((n_eq (by omega) (by omega)).mp h7) (by omega)
    · refine go_ok K [(10, .aload_n 0, 11, 0, 0), (11, .iload_n 1, 12, 0, 0), (12, .iload_n 2, 13, 0, 0)] _ _ _ (by decide +kernel) rfl ?_
      refine call_s K (hw _ (List.mem_of_getElem? (i := 126) rfl)) (hw _ (List.mem_of_getElem? (i := 127) rfl)) (hw _ (List.mem_of_getElem? (i := 124) rfl)) (hw _ (List.mem_of_getElem? (i := 128) rfl)) (kcb l Z a0 hw n0 ss es va n vs _ hn hl hv ab H) d20_13 rfl rfl [.ref va, .int 0, .int (n32 n)] [] rfl rfl pd12 rfl (by decide) 0 (Nat.le_of_ble_eq_true rfl) (by decide) (by decide) (by decide) (by decide) ?_
      rintro _ h ⟨wa, rfl, gw, H⟩
      refine ret_a K d20_16 rfl rfl (by decide) (by decide) ?_
      exact ⟨wa, rfl, gw, H⟩
abbrev RS5 : Room := { frames := 3, cells := 1, slots := 90, locals := 71 }
abbrev RS3 : Room := { frames := 4, cells := 1, slots := 90, locals := 87 }
abbrev RTS : Room := { frames := 5, cells := 2, slots := 94, locals := 101 }
theorem d15_1 : decode jdk_42_method_150_code 1 = .ok (.invokespecial 1, 3) := by decide +kernel
theorem d15_5 : decode jdk_42_method_150_code 5 = .ok (.invokevirtual 552, 3) := by decide +kernel
theorem d15_10 : decode jdk_42_method_150_code 10 = .ok (.invokevirtual 549, 3) := by decide +kernel
theorem d15_16 : decode jdk_42_method_150_code 16 = .ok (.invokevirtual 1047, 3) := by decide +kernel
theorem d15_19 : decode jdk_42_method_150_code 19 = .ok (.ifCond .eq 22, 3) := by decide +kernel
theorem d15_24 : decode jdk_42_method_150_code 24 = .ok (.putfield 15, 3) := by decide +kernel
theorem d15_32 : decode jdk_42_method_150_code 32 = .ok (.invokestatic 54, 3) := by decide +kernel
theorem d15_35 : decode jdk_42_method_150_code 35 = .ok (.putfield 9, 3) := by decide +kernel
theorem d15_97 : decode jdk_42_method_150_code 97 = .ok (.return_, 1) := by decide +kernel
theorem pl15 : plainFor (⟨"java/lang/String", "<init>", "(Ljava/lang/AbstractStringBuilder;Ljava/lang/Void;)V"⟩ : MethodName) = true := plainFor_of_name (by first | (simp [plainName, overriddenIn, x]; done) | decide +kernel)
set_option maxRecDepth 65536 in
set_option maxHeartbeats 40000000 in
theorem ks5 (l : Launch) (Z : State) (a0 : Array Value) (hw : ∀ d ∈ tables_1, d.before a0 Z = true) (n0 : Nat) (ss : Stc) (kc : Nat) (z : Int32) (hcs : ss.st[kc]? = some ("java/lang/String", "COMPACT_STRINGS", "Z", .int z)) (hz : ¬ z = 0) (es : List Ent) (st sb va : Addr) (n : Nat) (vs : List Value) (h : Heap) (hn : n ≤ 90) (hl : n < vs.length) (hv : vs.length < 1000) (ab : AB vs) (gt : n0 ≤ st) (H : Hp Z ss h ((st, .inl ("java/lang/String", F_0), [.null, .int 0]) :: (sb, .inl ("java/lang/StringBuilder", F_1), [.ref va, .int 0, .int (n32 n)]) :: (va, .inr .byte, vs) :: es)) :
    Con l Z n0 (⟨"java/lang/String", "<init>", "(Ljava/lang/AbstractStringBuilder;Ljava/lang/Void;)V"⟩ : MethodName) jdk_42_method_150_code 5 none [] RS5 #[(.ref st), (.ref sb), .null] h (fun v h' => v = none ∧ ∃ wa, n0 ≤ wa ∧ Hp Z ss h' ((st, .inl ("java/lang/String", F_0), [.ref wa, .int 0]) :: (wa, .inr .byte, vs.take n) :: es)) := by
  refine Con.of (a0 := a0) [] [] pl15 [.val (.ref st), .val (.ref sb), .val .null, .unset, .unset] (fun m => by first | (simp [entryFrame, mkF, argsToLocals, Value.category, maxLocals]; done) | rfl) nilI nilI ?_
  intro EE nz p e s m below meth c K
  refine go_ok K [(0, .aload_n 0, 1, 0, 0)] _ _ _ (by decide +kernel) rfl ?_
  refine f_init K (hw _ (List.mem_of_getElem? (i := 103) rfl)) (hw _ (List.mem_of_getElem? (i := 19) rfl)) (hw _ (List.mem_of_getElem? (i := 20) rfl)) d15_1 rfl rfl (by decide) (by decide) ?_
  refine go_ok K [(4, .aload_n 1, 5, 0, 0)] _ _ _ (by decide +kernel) rfl ?_
  refine call_v K (hw _ (List.mem_of_getElem? (i := 104) rfl)) (hw _ (List.mem_of_getElem? (i := 105) rfl)) (hw _ (List.mem_of_getElem? (i := 107) rfl)) (hw _ (List.mem_of_getElem? (i := 106) rfl)) (hw _ (List.mem_of_getElem? (i := 31) rfl)) (hw _ (List.mem_of_getElem? (i := 108) rfl)) (H.exa (i := 1) rfl) (kgv l Z a0 hw n0 ss ((st, .inl ("java/lang/String", F_0), [.null, .int 0]) :: es) sb va n vs _ (H.rot3 rfl)) d15_5 rfl rfl [] [] rfl rfl pd13 rfl (fun _ q => notFace_of_selects q) (by decide) 0 (Nat.le_of_ble_eq_true rfl) (by decide) (by decide) (by decide) (by decide) ?_
  rintro _ _ ⟨rfl, rfl⟩
  refine go_ok K [(8, .astore_n 3, 9, 0, 0), (9, .aload_n 1, 10, 0, 0)] _ _ _ (by decide +kernel) rfl ?_
  refine call_vn (y1' := (⟨"java/lang/AbstractStringBuilder", "length", "()I"⟩ : MethodName)) K (hw _ (List.mem_of_getElem? (i := 67) rfl)) rfl (hw _ (List.mem_of_getElem? (i := 109) rfl)) (hw _ (List.mem_of_getElem? (i := 110) rfl)) (hw _ (List.mem_of_getElem? (i := 112) rfl)) (hw _ (List.mem_of_getElem? (i := 113) rfl)) (hw _ (List.mem_of_getElem? (i := 23) rfl)) (hw _ (List.mem_of_getElem? (i := 114) rfl)) (H.exa (i := 1) rfl) (ksl l Z a0 hw n0 ss ((st, .inl ("java/lang/String", F_0), [.null, .int 0]) :: es) sb va n vs _ (H.rot3 rfl)) d15_10 rfl rfl [] [] rfl rfl pd8 rfl (by decide) 0 (Nat.le_of_ble_eq_true rfl) (by decide) (by decide) (by decide) (by decide) ?_
  rintro _ _ ⟨rfl, rfl⟩
  refine go_ok K [(13, .istore 4, 15, 0, 0), (15, .aload_n 1, 16, 0, 0)] _ _ _ (by decide +kernel) rfl ?_
  refine call_v K (hw _ (List.mem_of_getElem? (i := 117) rfl)) (hw _ (List.mem_of_getElem? (i := 118) rfl)) (hw _ (List.mem_of_getElem? (i := 120) rfl)) (hw _ (List.mem_of_getElem? (i := 119) rfl)) (hw _ (List.mem_of_getElem? (i := 31) rfl)) (hw _ (List.mem_of_getElem? (i := 121) rfl)) (H.exa (i := 1) rfl) (kil l Z a0 hw n0 ss kc z hcs hz ((st, .inl ("java/lang/String", F_0), [.null, .int 0]) :: es) sb va n vs _ (H.rot3 rfl)) d15_16 rfl rfl [] [] rfl rfl pd14 rfl (fun _ q => notFace_of_selects q) (by decide) 0 (Nat.le_of_ble_eq_true rfl) (by decide) (by decide) (by decide) (by decide) ?_
  rintro _ _ ⟨rfl, rfl⟩
  refine ifc_eq (pc' := 41) (pn := 22) K d15_19 (by decide) (by decide) rfl (fun h19 => ?_) (fun h19 => ?_)
  · exact absurd h19 (by decide)
  · refine go_ok K [(22, .aload_n 0, 23, 0, 0), (23, .iconst 0, 24, 0, 0)] _ _ _ (by decide +kernel) rfl ?_
    refine h_putn K H (lay_0 hw) (i := 0) (j := 1) (ty := .byte) (v' := (.int 0)) rfl rfl rfl rfl (hw _ (List.mem_of_getElem? (i := 61) rfl)) Via.refl (Or.inr ⟨(hw _ (List.mem_of_getElem? (i := 12) rfl)), rfl, rfl⟩) (hw _ (List.mem_of_getElem? (i := 9) rfl)) (by decide) rfl d15_24 rfl gt ?_
    intro h H
    refine go_ok K [(27, .aload_n 0, 28, 0, 0), (28, .aload_n 3, 29, 0, 0), (29, .iconst 0, 30, 0, 0), (30, .iload 4, 32, 0, 0)] _ _ _ (by decide +kernel) rfl ?_
    refine call_s K (hw _ (List.mem_of_getElem? (i := 122) rfl)) (hw _ (List.mem_of_getElem? (i := 123) rfl)) (hw _ (List.mem_of_getElem? (i := 124) rfl)) (hw _ (List.mem_of_getElem? (i := 125) rfl)) (kcr l Z a0 hw n0 ss _ va n vs _ hn hl hv ab (H.front 2 rfl)) d15_32 rfl rfl [.ref va, .int 0, .int (n32 n)] [.ref st] rfl rfl pd12 rfl (by decide) 1 (Nat.le_of_ble_eq_true rfl) (by decide) (by decide) (by decide) (by decide) ?_
    rintro _ h ⟨wa, rfl, gw, H⟩
    refine h_put K H (lay_0 hw) (i := 2) (j := 0) rfl rfl rfl (host := "") (Or.inl (hw _ (List.mem_of_getElem? (i := 54) rfl))) Via.refl (Or.inr ⟨(hw _ (List.mem_of_getElem? (i := 11) rfl)), rfl, rfl⟩) (hw _ (List.mem_of_getElem? (i := 9) rfl)) (ty := (.array .byte)) (by decide) rfl rfl d15_35 rfl gt ?_
    intro h H
    refine go_ok K [(38, .goto 59, 97, 0, 0)] _ _ _ (by decide +kernel) rfl ?_
    refine ret_0 K d15_97 (by decide) (by decide) ?_
    exact ⟨rfl, wa, gw, ((((H.front 2 rfl).front 2 rfl).tail).front 2 rfl).tail⟩
theorem d14_3 : decode jdk_42_method_53_code 3 = .ok (.invokespecial 489, 3) := by decide +kernel
theorem d14_6 : decode jdk_42_method_53_code 6 = .ok (.return_, 1) := by decide +kernel
theorem pl14 : plainFor (⟨"java/lang/String", "<init>", "(Ljava/lang/StringBuilder;)V"⟩ : MethodName) = true := plainFor_of_name (by first | (simp [plainName, overriddenIn, x]; done) | decide +kernel)
set_option maxRecDepth 65536 in
set_option maxHeartbeats 40000000 in
theorem ks3 (l : Launch) (Z : State) (a0 : Array Value) (hw : ∀ d ∈ tables_1, d.before a0 Z = true) (n0 : Nat) (ss : Stc) (kc : Nat) (z : Int32) (hcs : ss.st[kc]? = some ("java/lang/String", "COMPACT_STRINGS", "Z", .int z)) (hz : ¬ z = 0) (es : List Ent) (st sb va : Addr) (n : Nat) (vs : List Value) (h : Heap) (hn : n ≤ 90) (hl : n < vs.length) (hv : vs.length < 1000) (ab : AB vs) (gt : n0 ≤ st) (H : Hp Z ss h ((st, .inl ("java/lang/String", F_0), [.null, .int 0]) :: (sb, .inl ("java/lang/StringBuilder", F_1), [.ref va, .int 0, .int (n32 n)]) :: (va, .inr .byte, vs) :: es)) :
    Con l Z n0 (⟨"java/lang/String", "<init>", "(Ljava/lang/StringBuilder;)V"⟩ : MethodName) jdk_42_method_53_code 2 none [] RS3 #[(.ref st), (.ref sb)] h (fun v h' => v = none ∧ ∃ wa, n0 ≤ wa ∧ Hp Z ss h' ((st, .inl ("java/lang/String", F_0), [.ref wa, .int 0]) :: (wa, .inr .byte, vs.take n) :: es)) := by
  refine Con.of (a0 := a0) [] [] pl14 [.val (.ref st), .val (.ref sb)] (fun m => by first | (simp [entryFrame, mkF, argsToLocals, Value.category, maxLocals]; done) | rfl) nilI nilI ?_
  intro EE nz p e s m below meth c K
  refine go_ok K [(0, .aload_n 0, 1, 0, 0), (1, .aload_n 1, 2, 0, 0), (2, .aconst_null, 3, 0, 0)] _ _ _ (by decide +kernel) rfl ?_
  refine call_i K rfl (hw _ (List.mem_of_getElem? (i := 100) rfl)) (hw _ (List.mem_of_getElem? (i := 101) rfl)) (hw _ (List.mem_of_getElem? (i := 8) rfl)) (hw _ (List.mem_of_getElem? (i := 102) rfl)) (ks5 l Z a0 hw n0 ss kc z hcs hz es st sb va n vs _ hn hl hv ab gt H) d14_3 rfl rfl [.ref sb, .null] [] rfl rfl pd15 rfl (by decide) 0 (Nat.le_of_ble_eq_true rfl) (by decide) (by decide) (by decide) (by decide) ?_
  rintro _ h ⟨rfl, wa, gw, H⟩
  refine ret_0 K d14_6 (by decide) (by decide) ?_
  exact ⟨rfl, wa, gw, H⟩
theorem d13_0 : decode jdk_67_method_42_code 0 = .ok (.new 18, 3) := by decide +kernel
theorem d13_5 : decode jdk_67_method_42_code 5 = .ok (.invokespecial 137, 3) := by decide +kernel
theorem d13_8 : decode jdk_67_method_42_code 8 = .ok (.areturn, 1) := by decide +kernel
theorem pl13 : plainFor (⟨"java/lang/StringBuilder", "toString", "()Ljava/lang/String;"⟩ : MethodName) = true := plainFor_of_name (by first | (simp [plainName, overriddenIn, x]; done) | decide +kernel)
set_option maxRecDepth 65536 in
set_option maxHeartbeats 40000000 in
theorem kts (l : Launch) (Z : State) (a0 : Array Value) (hw : ∀ d ∈ tables_1, d.before a0 Z = true) (n0 : Nat) (ss : Stc) (kc : Nat) (z : Int32) (hcs : ss.st[kc]? = some ("java/lang/String", "COMPACT_STRINGS", "Z", .int z)) (hz : ¬ z = 0) (es : List Ent) (sb va : Addr) (n : Nat) (vs : List Value) (h : Heap) (hn : n ≤ 90) (hl : n < vs.length) (hv : vs.length < 1000) (ab : AB vs) (H : Hp Z ss h ((sb, .inl ("java/lang/StringBuilder", F_1), [.ref va, .int 0, .int (n32 n)]) :: (va, .inr .byte, vs) :: es)) :
    Con l Z n0 (⟨"java/lang/StringBuilder", "toString", "()Ljava/lang/String;"⟩ : MethodName) jdk_67_method_42_code 1 (some (.object "java/lang/String")) [] RTS #[(.ref sb)] h (fun v h' => ∃ st wa, v = some (.ref st) ∧ n0 ≤ st ∧ n0 ≤ wa ∧ Hp Z ss h' ((st, .inl ("java/lang/String", F_0), [.ref wa, .int 0]) :: (wa, .inr .byte, vs.take n) :: es)) := by
  refine Con.of (a0 := a0) [] [] pl13 [.val (.ref sb)] (fun m => by first | (simp [entryFrame, mkF, argsToLocals, Value.category, maxLocals]; done) | rfl) nilI nilI ?_
  intro EE nz p e s m below meth c K
  refine h_new K H F_0 [.null, .int 0] (lay_0 hw) (by decide +kernel) (hw _ (List.mem_of_getElem? (i := 95) rfl)) (hw _ (List.mem_of_getElem? (i := 9) rfl)) (hw _ (List.mem_of_getElem? (i := 8) rfl)) d13_0 rfl (by decide) (by decide) ?_
  intro h st gt H
  refine go_ok K [(3, .dup, 4, 0, 0), (4, .aload_n 0, 5, 0, 0)] _ _ _ (by decide +kernel) rfl ?_
  refine call_i K rfl (hw _ (List.mem_of_getElem? (i := 96) rfl)) (hw _ (List.mem_of_getElem? (i := 97) rfl)) (hw _ (List.mem_of_getElem? (i := 8) rfl)) (hw _ (List.mem_of_getElem? (i := 99) rfl)) (ks3 l Z a0 hw n0 ss kc z hcs hz es st sb va n vs _ hn hl hv ab gt H) d13_5 rfl rfl [.ref sb] [.ref st] rfl rfl pd16 rfl (by decide) 1 (Nat.le_of_ble_eq_true rfl) (by decide) (by decide) (by decide) (by decide) ?_
  rintro _ h ⟨rfl, wa, gw, H⟩
  refine ret_a K d13_8 rfl rfl (by decide) (by decide) ?_
  exact ⟨st, wa, rfl, gt, gw, H⟩
abbrev RSBB : Room := { frames := 1, cells := 0, slots := 0, locals := 12 }
abbrev RRP : Room := { frames := 2, cells := 2, slots := 84, locals := 27 }
theorem d30_1 : decode jdk_42_method_151_code 1 = .ok (.invokespecial 1, 3) := by decide +kernel
theorem d30_6 : decode jdk_42_method_151_code 6 = .ok (.putfield 9, 3) := by decide +kernel
theorem d30_11 : decode jdk_42_method_151_code 11 = .ok (.putfield 15, 3) := by decide +kernel
theorem d30_14 : decode jdk_42_method_151_code 14 = .ok (.return_, 1) := by decide +kernel
theorem pl30 : plainFor (⟨"java/lang/String", "<init>", "([BB)V"⟩ : MethodName) = true := plainFor_of_name (by first | (simp [plainName, overriddenIn, x]; done) | decide +kernel)
set_option maxRecDepth 65536 in
set_option maxHeartbeats 40000000 in
theorem kib (l : Launch) (Z : State) (a0 : Array Value) (hw : ∀ d ∈ tables_1, d.before a0 Z = true) (n0 : Nat) (ss : Stc) (es : List Ent) (st wa : Addr) (h : Heap) (gt : n0 ≤ st) (H : Hp Z ss h ((st, .inl ("java/lang/String", F_0), [.null, .int 0]) :: es)) :
    Con l Z n0 (⟨"java/lang/String", "<init>", "([BB)V"⟩ : MethodName) jdk_42_method_151_code 3 none [] RSBB #[(.ref st), (.ref wa), (.int 0)] h (fun v h' => v = none ∧ Hp Z ss h' ((st, .inl ("java/lang/String", F_0), [.ref wa, .int 0]) :: es)) := by
  refine Con.of (a0 := a0) [] [] pl30 [.val (.ref st), .val (.ref wa), .val (.int 0)] (fun m => by first | (simp [entryFrame, mkF, argsToLocals, Value.category, maxLocals]; done) | rfl) nilI nilI ?_
  intro EE nz p e s m below meth c K
  refine go_ok K [(0, .aload_n 0, 1, 0, 0)] _ _ _ (by decide +kernel) rfl ?_
  refine f_init K (hw _ (List.mem_of_getElem? (i := 103) rfl)) (hw _ (List.mem_of_getElem? (i := 19) rfl)) (hw _ (List.mem_of_getElem? (i := 20) rfl)) d30_1 rfl rfl (by decide) (by decide) ?_
  refine go_ok K [(4, .aload_n 0, 5, 0, 0), (5, .aload_n 1, 6, 0, 0)] _ _ _ (by decide +kernel) rfl ?_
  refine h_put K H (lay_0 hw) (i := 0) (j := 0) rfl rfl rfl (host := "") (Or.inl (hw _ (List.mem_of_getElem? (i := 54) rfl))) Via.refl (Or.inr ⟨(hw _ (List.mem_of_getElem? (i := 11) rfl)), rfl, rfl⟩) (hw _ (List.mem_of_getElem? (i := 9) rfl)) (ty := (.array .byte)) (by decide) rfl rfl d30_6 rfl gt ?_
  intro h H
  refine go_ok K [(9, .aload_n 0, 10, 0, 0), (10, .iload_n 2, 11, 0, 0)] _ _ _ (by decide +kernel) rfl ?_
  refine h_putn K H (lay_0 hw) (i := 0) (j := 1) (ty := .byte) (v' := (.int 0)) rfl rfl rfl rfl (hw _ (List.mem_of_getElem? (i := 61) rfl)) Via.refl (Or.inr ⟨(hw _ (List.mem_of_getElem? (i := 12) rfl)), rfl, rfl⟩) (hw _ (List.mem_of_getElem? (i := 9) rfl)) (by decide) rfl d30_11 rfl gt ?_
  intro h H
  refine ret_0 K d30_14 (by decide) (by decide) ?_
  exact ⟨rfl, H⟩
theorem d29_3 : decode jdk_65_method_109_code 3 = .ok (.arraylength, 1) := by decide +kernel
theorem d29_7 : decode jdk_65_method_109_code 7 = .ok (.if_icmp .ge 13, 3) := by decide +kernel
theorem d29_13 : decode jdk_65_method_109_code 13 = .ok (.bastore, 1) := by decide +kernel
theorem d29_20 : decode jdk_65_method_109_code 20 = .ok (.return_, 1) := by decide +kernel
theorem pl29 : plainFor (⟨"java/util/Arrays", "fill", "([BB)V"⟩ : MethodName) = true := plainFor_of_name (by first | (simp [plainName, overriddenIn, x]; done) | decide +kernel)
set_option maxRecDepth 65536 in
set_option maxHeartbeats 40000000 in
theorem kfl (l : Launch) (Z : State) (a0 : Array Value) (hw : ∀ d ∈ tables_1, d.before a0 Z = true) (n0 : Nat) (ss : Stc) (es : List Ent) (va : Addr) (x : Int32) (vs : List Value) (h : Heap) (hv : vs.length < 1000) (ab : AB vs) (gv : n0 ≤ va) (H : Hp Z ss h ((va, .inr .byte, vs) :: es)) :
    Con l Z n0 (⟨"java/util/Arrays", "fill", "([BB)V"⟩ : MethodName) jdk_65_method_109_code 4 none [] Rm0 #[(.ref va), (.int x)] h (fun v h' => v = none ∧ ∃ ws, ws.length = vs.length ∧ AB ws ∧ Hp Z ss h' ((va, .inr .byte, ws) :: es)) := by
  refine Con.of (a0 := a0) [] [] pl29 [.val (.ref va), .val (.int x), .unset, .unset] (fun m => by first | (simp [entryFrame, mkF, argsToLocals, Value.category, maxLocals]; done) | rfl) nilI nilI ?_
  intro EE nz p e s m below meth c K
  have LP : ∀ (d i : Nat) (ws : List Value) (h : Heap), i + d = vs.length → ws.length = vs.length → AB ws → Hp Z ss h ((va, .inr .byte, ws) :: es) → WP p l e Rm0 s m #[(.ref va), (.int x)] below meth c EE n0 nz (fun v h' => v = none ∧ ∃ ws, ws.length = vs.length ∧ AB ws ∧ Hp Z ss h' ((va, .inr .byte, ws) :: es)) h 0 0 5 [.val (.ref va), .val (.int x), .val (.int (n32 i)), .val (.int (n32 vs.length))] [] := by
    intro d
    induction d with
    | zero =>
      intro i ws h hi hl ab H
      refine go_ok K [(5, .iload_n 2, 6, 0, 0), (6, .iload_n 3, 7, 0, 0)] _ _ _ (by decide +kernel) rfl ?_
      refine icmp_ge (pc' := 20) (pn := 10) K d29_7 (by decide) (by decide) rfl (fun h7 => ?_) (fun h7 => ?_)
      · refine ret_0 K d29_20 (by decide) (by decide) ?_
        exact ⟨rfl, ws, hl, ab, H⟩
      · exact absurd ((n_lt (by omega) (by omega)).mp h7) (by omega)
    | succ d ih =>
      intro i ws h hi hl ab H
      refine go_ok K [(5, .iload_n 2, 6, 0, 0), (6, .iload_n 3, 7, 0, 0)] _ _ _ (by decide +kernel) rfl ?_
      refine icmp_ge (pc' := 20) (pn := 10) K d29_7 (by decide) (by decide) rfl (fun h7 => ?_) (fun h7 => ?_)
      · exact absurd ((n_lt (by omega) (by omega)).mpr (by omega)) h7
      · refine go_ok K [(10, .aload_n 0, 11, 0, 0), (11, .iload_n 2, 12, 0, 0), (12, .iload_n 1, 13, 0, 0)] _ _ _ (by decide +kernel) rfl ?_
        refine h_stbG K H (i := 0) (k := i) rfl (by omega) (by omega) rfl d29_13 rfl gv ?_
        intro h H
        refine go_ok K [(14, .iinc 2 1, 17, 1, 0), (17, .goto (-12), 5, 0, 0)] _ _ _ (by decide +kernel) rfl ?_
        rw [n_one]
        exact ih (i + 1) _ _ (by omega) (by simp; omega) (own_abset ab) H
  refine go_ok K [(0, .iconst 0, 1, 0, 0), (1, .istore_n 2, 2, 0, 0), (2, .aload_n 0, 3, 0, 0)] _ _ _ (by decide +kernel) rfl ?_
  refine f_len K (H.arr (i := 0) rfl) d29_3 rfl ?_
  refine go_ok K [(4, .istore_n 3, 5, 0, 0)] _ _ _ (by decide +kernel) rfl ?_
  exact LP vs.length 0 vs _ (by omega) rfl ab H
theorem d28_1 : decode jdk_42_method_145_code 1 = .ok (.ifCond .ge 31, 3) := by decide +kernel
theorem d28_34 : decode jdk_42_method_145_code 34 = .ok (.if_icmp .ne 5, 3) := by decide +kernel
theorem d28_40 : decode jdk_42_method_145_code 40 = .ok (.getfield 9, 3) := by decide +kernel
theorem d28_43 : decode jdk_42_method_145_code 43 = .ok (.arraylength, 1) := by decide +kernel
theorem d28_46 : decode jdk_42_method_145_code 46 = .ok (.ifCond .eq 7, 3) := by decide +kernel
theorem d28_50 : decode jdk_42_method_145_code 50 = .ok (.ifCond .ne 6, 3) := by decide +kernel
theorem d28_56 : decode jdk_42_method_145_code 56 = .ok (.ldc_w 943, 3) := by decide +kernel
theorem d28_60 : decode jdk_42_method_145_code 60 = .ok (.idiv, 1) := by decide +kernel
theorem d28_62 : decode jdk_42_method_145_code 62 = .ok (.if_icmp .ge 14, 3) := by decide +kernel
theorem d28_78 : decode jdk_42_method_145_code 78 = .ok (.if_icmp .ne 30, 3) := by decide +kernel
theorem d28_82 : decode jdk_42_method_145_code 82 = .ok (.newarray .byte, 2) := by decide +kernel
theorem d28_87 : decode jdk_42_method_145_code 87 = .ok (.getfield 9, 3) := by decide +kernel
theorem d28_91 : decode jdk_42_method_145_code 91 = .ok (.baload, 1) := by decide +kernel
theorem d28_92 : decode jdk_42_method_145_code 92 = .ok (.invokestatic 1041, 3) := by decide +kernel
theorem d28_95 : decode jdk_42_method_145_code 95 = .ok (.new 10, 3) := by decide +kernel
theorem d28_101 : decode jdk_42_method_145_code 101 = .ok (.getfield 15, 3) := by decide +kernel
theorem d28_104 : decode jdk_42_method_145_code 104 = .ok (.invokespecial 209, 3) := by decide +kernel
theorem d28_107 : decode jdk_42_method_145_code 107 = .ok (.areturn, 1) := by decide +kernel
theorem pl28 : plainFor (⟨"java/lang/String", "repeat", "(I)Ljava/lang/String;"⟩ : MethodName) = true := plainFor_of_name (by first | (simp [plainName, overriddenIn, x]; done) | decide +kernel)
set_option maxRecDepth 65536 in
set_option maxHeartbeats 40000000 in
theorem krp (l : Launch) (Z : State) (a0 : Array Value) (hw : ∀ d ∈ tables_1, d.before a0 Z = true) (n0 : Nat) (ss : Stc) (es : List Ent) (i1 i2 : Nat) (sa sd : Addr) (b0 x : Int32) (k : Nat) (h : Heap) (hr1 : ss.ro[i1]? = some (sa, .inl ("java/lang/String", F_0), [.ref sd, .int 0])) (hr2 : ss.ro[i2]? = some (sd, .inr .byte, [.int b0])) (hx : x = n32 k) (hk : 2 ≤ k) (hk2 : k ≤ 80) (H : Hp Z ss h es) :
    Con l Z n0 (⟨"java/lang/String", "repeat", "(I)Ljava/lang/String;"⟩ : MethodName) jdk_42_method_145_code 5 (some (.object "java/lang/String")) [] RRP #[(.ref sa), (.int x)] h (fun v h' => ∃ st wa ws, v = some (.ref st) ∧ ws.length = k ∧ AB ws ∧ Hp Z ss h' ((st, .inl ("java/lang/String", F_0), [.ref wa, .int 0]) :: (wa, .inr .byte, ws) :: es)) := by
  refine Con.of (a0 := a0) [] [] pl28 [.val (.ref sa), .val (.int x), .unset, .unset, .unset] (fun m => by first | (simp [entryFrame, mkF, argsToLocals, Value.category, maxLocals]; done) | rfl) nilI nilI ?_
  intro EE nz p e s m below meth c K
  refine go_ok K [(0, .iload_n 1, 1, 0, 0)] _ _ _ (by decide +kernel) rfl ?_
  refine ifc_ge (pc' := 32) (pn := 4) K d28_1 (by decide) (by decide) rfl (fun h1 => ?_) (fun h1 => ?_)
  · refine go_ok K [(32, .iload_n 1, 33, 0, 0), (33, .iconst 1, 34, 1, 0)] _ _ _ (by decide +kernel) rfl ?_
    refine icmp_ne (pc' := 39) (pn := 37) K d28_34 (by decide) (by decide) rfl (fun h34 => ?_) (fun h34 => ?_)
    · refine go_ok K [(39, .aload_n 0, 40, 0, 0)] _ _ _ (by decide +kernel) rfl ?_
      have E1 := (H.rd hr1).1
      have F1 := rd_fld H hr1 (j := 0) rfl rfl
      have F2 := rd_fld H hr1 (j := 1) rfl rfl
      have V1 : Ars Z h sd .byte [.int b0] := H.rd hr2
      refine f_get K (host := "") (Or.inl (hw _ (List.mem_of_getElem? (i := 54) rfl))) Via.refl F1 d28_40 rfl ?_
      refine f_len K V1 d28_43 rfl ?_
      rw [show ([Value.int b0] : List Value).length.toInt32 = 1 from rfl]
      refine go_ok K [(44, .istore_n 2, 45, 0, 0), (45, .iload_n 2, 46, 0, 0)] _ _ _ (by decide +kernel) rfl ?_
      refine ifc_eq (pc' := 53) (pn := 49) K d28_46 (by decide) (by decide) rfl (fun h46 => ?_) (fun h46 => ?_)
      · exact absurd h46 (by decide)
      · refine go_ok K [(49, .iload_n 1, 50, 0, 0)] _ _ _ (by decide +kernel) rfl ?_
        refine ifc_ne (pc' := 56) (pn := 53) K d28_50 (by decide) (by decide) rfl (fun h50 => ?_) (fun h50 => ?_)
        · refine f_ldcw K (hw _ (List.mem_of_getElem? (i := 183) rfl)) d28_56 rfl ?_
          refine go_ok K [(59, .iload_n 1, 60, 0, 0)] _ _ _ (by decide +kernel) rfl ?_
          refine o_idiv K d28_60 rfl (by rw [hx]; exact fun q => absurd ((n_eq (b := 0) (by omega) (by decide)).mp q) (by omega)) ?_
          refine go_ok K [(61, .iload_n 2, 62, 0, 0)] _ _ _ (by decide +kernel) rfl ?_
          refine icmp_ge (pc' := 76) (pn := 65) K d28_62 (by decide) (by decide) rfl (fun h62 => ?_) (fun h62 => ?_)
          · refine go_ok K [(76, .iload_n 2, 77, 0, 0), (77, .iconst 1, 78, 1, 0)] _ _ _ (by decide +kernel) rfl ?_
            refine icmp_ne (pc' := 108) (pn := 81) K d28_78 (by decide) (by decide) rfl (fun h78 => ?_) (fun h78 => ?_)
            · exact absurd rfl h78
            · refine go_ok K [(81, .iload_n 1, 82, 0, 0)] _ _ _ (by decide +kernel) rfl ?_
              refine h_newarr K H (hw _ (List.mem_of_getElem? (i := 10) rfl)) d28_82 rfl (List.replicate k (.int 0)) (by rw [hx, n_tnc (by omega)]; rfl) (by rw [hx]; exact n_nneg (by omega)) 80 (by rw [hx, n_tnc (by omega)]; exact hk2) (by decide) (by decide) (by decide) ?_
              intro h wa gw H
              clear E1 F1 F2 V1
              have E1 := (H.rd hr1).1
              have F1 := rd_fld H hr1 (j := 0) rfl rfl
              have F2 := rd_fld H hr1 (j := 1) rfl rfl
              have V1 : Ars Z h sd .byte [.int b0] := H.rd hr2
              refine go_ok K [(84, .astore_n 3, 85, 0, 0), (85, .aload_n 3, 86, 0, 0), (86, .aload_n 0, 87, 0, 0)] _ _ _ (by decide +kernel) rfl ?_
              refine f_get K (host := "") (Or.inl (hw _ (List.mem_of_getElem? (i := 54) rfl))) Via.refl F1 d28_87 rfl ?_
              refine go_ok K [(90, .iconst 0, 91, 0, 0)] _ _ _ (by decide +kernel) rfl ?_
              refine f_ld_b K V1 d28_91 rfl (by decide) rfl ?_
              refine call_s K (hw _ (List.mem_of_getElem? (i := 184) rfl)) (hw _ (List.mem_of_getElem? (i := 185) rfl)) (hw _ (List.mem_of_getElem? (i := 124) rfl)) (hw _ (List.mem_of_getElem? (i := 186) rfl)) (kfl l Z a0 hw n0 ss es wa _ _ _ (by simp; omega) (AB.rep k) gw H) d28_92 rfl rfl [.ref wa, .int b0] [] rfl rfl pd17 rfl (by decide) 0 (Nat.le_of_ble_eq_true rfl) (by decide) (by decide) (by decide) (by decide) ?_
              rintro _ h ⟨rfl, ws, hl, ab, H⟩
              refine h_new K H F_0 [.null, .int 0] (lay_0 hw) (by decide +kernel) (hw _ (List.mem_of_getElem? (i := 187) rfl)) (hw _ (List.mem_of_getElem? (i := 9) rfl)) (hw _ (List.mem_of_getElem? (i := 8) rfl)) d28_95 rfl (by decide) (by decide) ?_
              intro h st gt H
              clear E1 F1 F2 V1
              have E1 := (H.rd hr1).1
              have F1 := rd_fld H hr1 (j := 0) rfl rfl
              have F2 := rd_fld H hr1 (j := 1) rfl rfl
              have V1 : Ars Z h sd .byte [.int b0] := H.rd hr2
              refine go_ok K [(98, .dup, 99, 0, 0), (99, .aload_n 3, 100, 0, 0), (100, .aload_n 0, 101, 0, 0)] _ _ _ (by decide +kernel) rfl ?_
              refine f_get K (host := "") (Or.inl (hw _ (List.mem_of_getElem? (i := 61) rfl))) Via.refl F2 d28_101 rfl ?_
              refine call_i K rfl (hw _ (List.mem_of_getElem? (i := 188) rfl)) (hw _ (List.mem_of_getElem? (i := 189) rfl)) (hw _ (List.mem_of_getElem? (i := 8) rfl)) (hw _ (List.mem_of_getElem? (i := 190) rfl)) (kib l Z a0 hw n0 ss _ st wa _ gt H) d28_104 rfl rfl [.ref wa, .int 0] [.ref st] rfl rfl pd17 rfl (by decide) 1 (Nat.le_of_ble_eq_true rfl) (by decide) (by decide) (by decide) (by decide) ?_
              rintro _ h ⟨rfl, H⟩
              refine ret_a K d28_107 rfl rfl (by decide) (by decide) ?_
              exact ⟨st, wa, ws, rfl, by simpa using hl, ab, H⟩
          · rw [hx] at h62
            exact absurd h62 (own_div ⟨k, by omega⟩ hk)
        · rw [hx] at h50
          exact absurd ((n_eq (b := 0) (by omega) (by decide)).mp h50) (by omega)
    · rw [hx] at h34
      exact absurd ((n_eq (b := 1) (by omega) (by decide)).mp h34) (by omega)
  · rw [hx] at h1
    exact absurd h1 (n_nneg (by omega))
abbrev ELx : List (String × Nat) := [("com/example/defer2/defer2/bench/Plan", 14), ("com/example/defer2/defer2/bench/Plan", 39), ("com/example/defer2/defer2/bench/Plan", 41), ("com/example/defer2/defer2/bench/Plan", 59), ("com/example/defer2/defer2/bench/Plan", 61), ("com/example/defer2/defer2/bench/Plan", 63), ("com/example/defer2/defer2/bench/Plan", 75), ("com/example/defer2/defer2/bench/PlanDueAtPinLaw", 15)]
theorem satoms {Z : State} {a0 : Array Value} (hw : ∀ d ∈ tables_1, d.before a0 Z = true) : ∀ a ∈ Bundle.stringAtoms, a.before a0 Z = true := (consI (hw _ (List.mem_of_getElem? (i := 8) rfl)) (consI (hw _ (List.mem_of_getElem? (i := 9) rfl)) (consI (hw _ (List.mem_of_getElem? (i := 10) rfl)) (consI (hw _ (List.mem_of_getElem? (i := 11) rfl)) (consI (hw _ (List.mem_of_getElem? (i := 12) rfl)) (consI (hw _ (List.mem_of_getElem? (i := 13) rfl)) (consI (hw _ (List.mem_of_getElem? (i := 14) rfl)) nilI)))))))
theorem ewx {Z : State} {a0 : Array Value} (hw : ∀ d ∈ tables_1, d.before a0 Z = true) : EW Z a0 ELx := (EW.cons (text := "-") (hw _ (List.mem_of_getElem? (i := 89) rfl)) (by decide) (EW.cons (text := "{\"run\":\"") (hw _ (List.mem_of_getElem? (i := 146) rfl)) (by decide) (EW.cons (text := "\",\"job\":") (hw _ (List.mem_of_getElem? (i := 147) rfl)) (by decide) (EW.cons (text := ",\"pad\":\"\"}") (hw _ (List.mem_of_getElem? (i := 174) rfl)) (by decide) (EW.cons (text := ",\"pad\":\"") (hw _ (List.mem_of_getElem? (i := 175) rfl)) (by decide) (EW.cons (text := ".") (hw _ (List.mem_of_getElem? (i := 176) rfl)) (by decide) (EW.cons (text := "\"}") (hw _ (List.mem_of_getElem? (i := 191) rfl)) (by decide) (EW.cons (text := "r") (hw _ (List.mem_of_getElem? (i := 7) rfl)) (by decide) EW.nil))))))))
theorem fbx : ∀ b : Addr, ∀ (j : Nat) (f : String × String × String) (v : Value), F_0[j]? = some f → ((fun b : Addr => ([.ref b, .int 0] : List Value)) b)[j]? = some v → (f = ("java/lang/String", "coder", "B") ∧ v = .int 0) ∨ (f = ("java/lang/String", "value", "[B") ∧ v = .ref b) := by
  intro b j f v q1 q2
  rcases j with _ | _ | j <;> simp at q1 q2 <;> subst q1 q2 <;> simp
theorem ab14 : AB [.int 45] := by unfold AB; decide
theorem ab39 : AB [.int 123, .int 34, .int 114, .int 117, .int 110, .int 34, .int 58, .int 34] := by unfold AB; decide
theorem ab41 : AB [.int 34, .int 44, .int 34, .int 106, .int 111, .int 98, .int 34, .int 58] := by unfold AB; decide
theorem ab59 : AB [.int 44, .int 34, .int 112, .int 97, .int 100, .int 34, .int 58, .int 34, .int 34, .int 125] := by unfold AB; decide
theorem ab61 : AB [.int 44, .int 34, .int 112, .int 97, .int 100, .int 34, .int 58, .int 34] := by unfold AB; decide
theorem ab63 : AB [.int 46] := by unfold AB; decide
theorem ab75 : AB [.int 34, .int 125] := by unfold AB; decide
theorem ab15 : AB [.int 114] := by unfold AB; decide
abbrev RPI : Room := { frames := 6, cells := 205, slots := 16000, locals := 116 }
theorem d1_1 : decode prog_6_method_1_code 1 = .ok (.invokespecial 1, 3) := by decide +kernel
theorem d1_5 : decode prog_6_method_1_code 5 = .ok (.new 7, 3) := by decide +kernel
theorem d1_9 : decode prog_6_method_1_code 9 = .ok (.invokespecial 9, 3) := by decide +kernel
theorem d1_13 : decode prog_6_method_1_code 13 = .ok (.invokevirtual 10, 3) := by decide +kernel
theorem d1_16 : decode prog_6_method_1_code 16 = .ok (.ldc 14, 2) := by decide +kernel
theorem d1_18 : decode prog_6_method_1_code 18 = .ok (.invokevirtual 10, 3) := by decide +kernel
theorem d1_21 : decode prog_6_method_1_code 21 = .ok (.invokevirtual 16, 3) := by decide +kernel
theorem d1_24 : decode prog_6_method_1_code 24 = .ok (.putfield 20, 3) := by decide +kernel
theorem d1_29 : decode prog_6_method_1_code 29 = .ok (.putfield 26, 3) := by decide +kernel
theorem d1_41 : decode prog_6_method_1_code 41 = .ok (.putfield 32, 3) := by decide +kernel
theorem d1_51 : decode prog_6_method_1_code 51 = .ok (.putfield 36, 3) := by decide +kernel
theorem d1_55 : decode prog_6_method_1_code 55 = .ok (.new 7, 3) := by decide +kernel
theorem d1_59 : decode prog_6_method_1_code 59 = .ok (.invokespecial 9, 3) := by decide +kernel
theorem d1_62 : decode prog_6_method_1_code 62 = .ok (.ldc 39, 2) := by decide +kernel
theorem d1_64 : decode prog_6_method_1_code 64 = .ok (.invokevirtual 10, 3) := by decide +kernel
theorem d1_68 : decode prog_6_method_1_code 68 = .ok (.invokevirtual 10, 3) := by decide +kernel
theorem d1_71 : decode prog_6_method_1_code 71 = .ok (.ldc 41, 2) := by decide +kernel
theorem d1_73 : decode prog_6_method_1_code 73 = .ok (.invokevirtual 10, 3) := by decide +kernel
theorem d1_76 : decode prog_6_method_1_code 76 = .ok (.invokevirtual 16, 3) := by decide +kernel
theorem d1_79 : decode prog_6_method_1_code 79 = .ok (.putfield 43, 3) := by decide +kernel
theorem d1_83 : decode prog_6_method_1_code 83 = .ok (.getstatic 46, 3) := by decide +kernel
theorem d1_88 : decode prog_6_method_1_code 88 = .ok (.anewarray 49, 3) := by decide +kernel
theorem d1_91 : decode prog_6_method_1_code 91 = .ok (.putfield 51, 3) := by decide +kernel
theorem d1_100 : decode prog_6_method_1_code 100 = .ok (.getfield 51, 3) := by decide +kernel
theorem d1_103 : decode prog_6_method_1_code 103 = .ok (.arraylength, 1) := by decide +kernel
theorem d1_104 : decode prog_6_method_1_code 104 = .ok (.if_icmp .ge 71, 3) := by decide +kernel
theorem d1_110 : decode prog_6_method_1_code 110 = .ok (.getfield 43, 3) := by decide +kernel
theorem d1_113 : decode prog_6_method_1_code 113 = .ok (.invokevirtual 55, 3) := by decide +kernel
theorem d1_120 : decode prog_6_method_1_code 120 = .ok (.ldc 59, 2) := by decide +kernel
theorem d1_122 : decode prog_6_method_1_code 122 = .ok (.invokevirtual 55, 3) := by decide +kernel
theorem d1_129 : decode prog_6_method_1_code 129 = .ok (.getfield 51, 3) := by decide +kernel
theorem d1_134 : decode prog_6_method_1_code 134 = .ok (.new 7, 3) := by decide +kernel
theorem d1_138 : decode prog_6_method_1_code 138 = .ok (.invokespecial 9, 3) := by decide +kernel
theorem d1_141 : decode prog_6_method_1_code 141 = .ok (.ldc 61, 2) := by decide +kernel
theorem d1_143 : decode prog_6_method_1_code 143 = .ok (.invokevirtual 10, 3) := by decide +kernel
theorem d1_146 : decode prog_6_method_1_code 146 = .ok (.ldc 63, 2) := by decide +kernel
theorem d1_151 : decode prog_6_method_1_code 151 = .ok (.invokestatic 65, 3) := by decide +kernel
theorem d1_154 : decode prog_6_method_1_code 154 = .ok (.invokevirtual 71, 3) := by decide +kernel
theorem d1_157 : decode prog_6_method_1_code 157 = .ok (.invokevirtual 10, 3) := by decide +kernel
theorem d1_160 : decode prog_6_method_1_code 160 = .ok (.ldc 75, 2) := by decide +kernel
theorem d1_162 : decode prog_6_method_1_code 162 = .ok (.invokevirtual 10, 3) := by decide +kernel
theorem d1_165 : decode prog_6_method_1_code 165 = .ok (.invokevirtual 16, 3) := by decide +kernel
theorem d1_168 : decode prog_6_method_1_code 168 = .ok (.aastore, 1) := by decide +kernel
theorem d1_175 : decode prog_6_method_1_code 175 = .ok (.return_, 1) := by decide +kernel
theorem pl1 : plainFor (⟨"com/example/defer2/defer2/bench/Plan", "<init>", "(Ljava/lang/String;IJJJ)V"⟩ : MethodName) = true := plainFor_of_name (by first | (simp [plainName, overriddenIn, x]; done) | decide +kernel)
set_option maxRecDepth 65536 in
set_option maxHeartbeats 40000000 in
theorem kpi (l : Launch) (Z : State) (a0 : Array Value) (hw : ∀ d ∈ tables_1, d.before a0 Z = true) (n0 : Nat) (z : Int32) (pl ra rd : Addr) (jb : Int32) (t0 d0 w0 : Int64) (h : Heap) (hz : ¬ z = 0) (gpl : n0 ≤ pl) (S1 : Sta Z h "java/lang/String" "COMPACT_STRINGS" "Z" (.int z)) (S2 : Sta Z h "com/example/defer2/defer2/bench/Plan" "MAX_DIGITS" "I" (.int 10)) (EP : entOk Z h (pl, .inl ("com/example/defer2/defer2/bench/Plan", F_2), [.null, .int 0, .long 0, .long 0, .null, .null])) (ER1 : entOk Z h (ra, .inl ("java/lang/String", F_0), [.ref rd, .int 0])) (ER2 : entOk Z h (rd, .inr .byte, [.int 114])) :
    ConH ELx l Z n0 (⟨"com/example/defer2/defer2/bench/Plan", "<init>", "(Ljava/lang/String;IJJJ)V"⟩ : MethodName) prog_6_method_1_code 11 none [] RPI #[(.ref pl), (.ref ra), (.int jb), (.long t0), (.long d0), (.long w0)] h (fun v h' => v = none ∧ ∃ x1 x2 x3, Hp Z ⟨[], [], Z.vm, []⟩ h' [(pl, .inl ("com/example/defer2/defer2/bench/Plan", F_2), [.ref x1, .int jb, .long (t0 + d0 * 1000), .long (w0 * 1000), .ref x2, .ref x3])]) := by
  refine ConH.of (a0 := a0) [] [(30, 1000)] pl1 [.val (.ref pl), .val (.ref ra), .val (.int jb), .val (.long t0), .second, .val (.long d0), .second, .val (.long w0), .second, .unset, .unset] (fun m => by first | (simp [entryFrame, mkF, argsToLocals, Value.category, maxLocals]; done) | rfl) nilI (consI (hw _ (List.mem_of_getElem? (i := 141) rfl)) nilI) ?_
  intro EE nz p e s m below meth c HC D K
  have hal := K.2.2.2.1.alike
  have H : Hp Z ⟨[("java/lang/String", "COMPACT_STRINGS", "Z", .int z), ("com/example/defer2/defer2/bench/Plan", "MAX_DIGITS", "I", .int 10)], ELx, s.vm, [(ra, .inl ("java/lang/String", F_0), [.ref rd, .int 0]), (rd, .inr .byte, [.int 114])]⟩ h [(pl, .inl ("com/example/defer2/defer2/bench/Plan", F_2), [.null, .int 0, .long 0, .long 0, .null, .null])] := ⟨consI S1 (consI S2 nilI), consI EP nilI, by simp, HC, consI (Safe.exa hal EP.1 (by decide) (by decide)) nilI, consI ⟨ER1, consI (exa_ne EP.1 ER1.1 (by decide)) nilI⟩ (consI ⟨ER2, consI (obj_arr_ne (hw _ (List.mem_of_getElem? (i := 5) rfl)) EP.1 ER2) nilI⟩ nilI)⟩
  clear HC hal EP ER1 ER2 S1 S2
  refine go_ok K [(0, .aload_n 0, 1, 0, 0)] _ _ _ (by decide +kernel) rfl ?_
  refine f_init K (hw _ (List.mem_of_getElem? (i := 18) rfl)) (hw _ (List.mem_of_getElem? (i := 19) rfl)) (hw _ (List.mem_of_getElem? (i := 20) rfl)) d1_1 rfl rfl (by decide) (by decide) ?_
  refine go_ok K [(4, .aload_n 0, 5, 0, 0)] _ _ _ (by decide +kernel) rfl ?_
  refine h_new K H F_1 [.null, .int 0, .int 0] (lay_1 hw) (by decide +kernel) (hw _ (List.mem_of_getElem? (i := 21) rfl)) (hw _ (List.mem_of_getElem? (i := 22) rfl)) (hw _ (List.mem_of_getElem? (i := 23) rfl)) d1_5 rfl (by decide) (by decide) ?_
  intro h sb gs H
  refine go_ok K [(8, .dup, 9, 0, 0)] _ _ _ (by decide +kernel) rfl ?_
  refine call_i K rfl (hw _ (List.mem_of_getElem? (i := 24) rfl)) (hw _ (List.mem_of_getElem? (i := 25) rfl)) (hw _ (List.mem_of_getElem? (i := 23) rfl)) (hw _ (List.mem_of_getElem? (i := 26) rfl)) (ksi l Z a0 hw n0 _ 0 z rfl hz _ sb _ gs H) d1_9 rfl rfl [] [.ref _, .ref _] rfl rfl pd18 rfl (by decide) 2 (Nat.le_of_ble_eq_true rfl) (by decide) (by decide) (by decide) (by decide) ?_
  rintro _ h ⟨rfl, va, gv, H⟩
  have ab := AB.rep 16
  have hl : (List.replicate 16 (Value.int 0)).length = 16 := rfl
  obtain ⟨vs, evs⟩ : ∃ vs : List Value, List.replicate 16 (Value.int 0) = vs := ⟨_, rfl⟩
  rw [evs] at H ab hl
  clear evs
  refine go_ok K [(12, .aload_n 1, 13, 0, 0)] _ _ _ (by decide +kernel) rfl ?_
  refine call_v K (hw _ (List.mem_of_getElem? (i := 39) rfl)) (hw _ (List.mem_of_getElem? (i := 40) rfl)) (hw _ (List.mem_of_getElem? (i := 42) rfl)) (hw _ (List.mem_of_getElem? (i := 41) rfl)) (hw _ (List.mem_of_getElem? (i := 23) rfl)) (hw _ (List.mem_of_getElem? (i := 43) rfl)) (H.exa (i := 0) rfl) (ksa0 l Z a0 hw n0 _ 0 z rfl hz _ 0 1 ra _ _ sb va 0 1 vs _ rfl rfl rfl (by rw [hl]; decide) ab ab15 (by rw [hl]; decide) (by decide) gs gv H) d1_13 rfl rfl [.ref ra] [.ref _] rfl rfl pd19 rfl (fun _ q => notFace_of_selects q) (by decide) 1 (Nat.le_of_ble_eq_true rfl) (by decide) (by decide) (by decide) (by decide) ?_
  rintro _ h ⟨rfl, vs, hl2, ab2, -, H⟩
  rw [hl] at hl2
  clear ab hl
  have ab := ab2
  have hl := hl2
  clear ab2 hl2
  refine h_ldcH (F := F_0) (fun b => [.ref b, .int 0]) K D (Nat.le_refl _) H rfl (hw _ (List.mem_of_getElem? (i := 89) rfl)) (satoms hw) (ewx hw) (List.mem_of_getElem? (i := 0) rfl) (vs := [.int 45]) (z := 1) ⟨by decide, by decide⟩ (by decide) rfl fbx (fun _ => rfl) d1_16 rfl 4 (by decide) (by decide) (by decide) (by decide) ?_
  intro s nz h la ld D K H
  try dsimp only [Stc.st, Stc.EL, Stc.vm, Stc.ro] at H
  refine call_v K (hw _ (List.mem_of_getElem? (i := 39) rfl)) (hw _ (List.mem_of_getElem? (i := 40) rfl)) (hw _ (List.mem_of_getElem? (i := 42) rfl)) (hw _ (List.mem_of_getElem? (i := 41) rfl)) (hw _ (List.mem_of_getElem? (i := 23) rfl)) (hw _ (List.mem_of_getElem? (i := 43) rfl)) (H.exa (i := 0) rfl) (ksa0 l Z a0 hw n0 _ 0 z rfl hz _ 0 1 la _ _ sb va 1 2 vs _ rfl rfl rfl (by rw [hl]; decide) ab ab14 (by rw [hl]; decide) (by decide) gs gv H) d1_18 rfl rfl [.ref la] [.ref _] rfl rfl pd19 rfl (fun _ q => notFace_of_selects q) (by decide) 1 (Nat.le_of_ble_eq_true rfl) (by decide) (by decide) (by decide) (by decide) ?_
  rintro _ h ⟨rfl, vs, hl2, ab2, -, H⟩
  rw [hl] at hl2
  clear ab hl
  have ab := ab2
  have hl := hl2
  clear ab2 hl2
  refine call_v K (hw _ (List.mem_of_getElem? (i := 90) rfl)) (hw _ (List.mem_of_getElem? (i := 91) rfl)) (hw _ (List.mem_of_getElem? (i := 93) rfl)) (hw _ (List.mem_of_getElem? (i := 92) rfl)) (hw _ (List.mem_of_getElem? (i := 23) rfl)) (hw _ (List.mem_of_getElem? (i := 94) rfl)) (H.exa (i := 0) rfl) (kts l Z a0 hw n0 _ 0 z rfl hz _ sb va 2 vs _ (by decide) (by rw [hl]; decide) (by rw [hl]; decide) ab H) d1_21 rfl rfl [] [.ref _] rfl rfl pd20 rfl (fun _ q => notFace_of_selects q) (by decide) 1 (Nat.le_of_ble_eq_true rfl) (by decide) (by decide) (by decide) (by decide) ?_
  rintro _ h ⟨id1, wt, rfl, gst, gwt, H⟩
  clear gs gv ab hl
  refine h_put K H (lay_2 hw) (i := 2) (j := 0) rfl rfl rfl (host := "") (Or.inl (hw _ (List.mem_of_getElem? (i := 137) rfl))) Via.refl (Or.inr ⟨(hw _ (List.mem_of_getElem? (i := 138) rfl)), rfl, rfl⟩) (hw _ (List.mem_of_getElem? (i := 5) rfl)) (ty := (.object "java/lang/String")) (by decide) rfl rfl d1_24 rfl gpl ?_
  intro h H
  replace H := (H.tail).tail
  replace H := H.trim [(ra, .inl ("java/lang/String", F_0), [.ref rd, .int 0]), (rd, .inr .byte, [.int 114])] (by simp [Stc.ro])
  try dsimp only [Stc.st, Stc.EL, Stc.vm, Stc.ro] at H
  clear gst gwt
  refine go_ok K [(27, .aload_n 0, 28, 0, 0), (28, .iload_n 2, 29, 0, 0)] _ _ _ (by decide +kernel) rfl ?_
  refine h_put K H (lay_2 hw) (i := 0) (j := 1) rfl rfl rfl (host := "") (Or.inl (hw _ (List.mem_of_getElem? (i := 139) rfl))) Via.refl (Or.inr ⟨(hw _ (List.mem_of_getElem? (i := 140) rfl)), rfl, rfl⟩) (hw _ (List.mem_of_getElem? (i := 5) rfl)) (ty := .int) (by decide) rfl rfl d1_29 rfl gpl ?_
  intro h H
  refine go_ok K [(32, .aload_n 0, 33, 0, 0), (33, .lload_n 3, 34, 0, 0), (34, .lload 5, 36, 0, 0), (36, .ldc2_w 30, 39, 0, 1000), (39, .lmul, 40, 0, 0), (40, .ladd, 41, 0, 0)] _ _ _ (by decide +kernel) rfl ?_
  refine h_put K H (lay_2 hw) (i := 0) (j := 2) rfl rfl rfl (host := "") (Or.inl (hw _ (List.mem_of_getElem? (i := 142) rfl))) Via.refl (Or.inr ⟨(hw _ (List.mem_of_getElem? (i := 143) rfl)), rfl, rfl⟩) (hw _ (List.mem_of_getElem? (i := 5) rfl)) (ty := .long) (by decide) rfl rfl d1_41 rfl gpl ?_
  intro h H
  refine go_ok K [(44, .aload_n 0, 45, 0, 0), (45, .lload 7, 47, 0, 0), (47, .ldc2_w 30, 50, 0, 1000), (50, .lmul, 51, 0, 0)] _ _ _ (by decide +kernel) rfl ?_
  refine h_put K H (lay_2 hw) (i := 0) (j := 3) rfl rfl rfl (host := "") (Or.inl (hw _ (List.mem_of_getElem? (i := 144) rfl))) Via.refl (Or.inr ⟨(hw _ (List.mem_of_getElem? (i := 145) rfl)), rfl, rfl⟩) (hw _ (List.mem_of_getElem? (i := 5) rfl)) (ty := .long) (by decide) rfl rfl d1_51 rfl gpl ?_
  intro h H
  refine go_ok K [(54, .aload_n 0, 55, 0, 0)] _ _ _ (by decide +kernel) rfl ?_
  refine h_new K H F_1 [.null, .int 0, .int 0] (lay_1 hw) (by decide +kernel) (hw _ (List.mem_of_getElem? (i := 21) rfl)) (hw _ (List.mem_of_getElem? (i := 22) rfl)) (hw _ (List.mem_of_getElem? (i := 23) rfl)) d1_55 rfl (by decide) (by decide) ?_
  intro h sb gs H
  refine go_ok K [(58, .dup, 59, 0, 0)] _ _ _ (by decide +kernel) rfl ?_
  refine call_i K rfl (hw _ (List.mem_of_getElem? (i := 24) rfl)) (hw _ (List.mem_of_getElem? (i := 25) rfl)) (hw _ (List.mem_of_getElem? (i := 23) rfl)) (hw _ (List.mem_of_getElem? (i := 26) rfl)) (ksi l Z a0 hw n0 _ 0 z rfl hz _ sb _ gs H) d1_59 rfl rfl [] [.ref _, .ref _] rfl rfl pd18 rfl (by decide) 2 (Nat.le_of_ble_eq_true rfl) (by decide) (by decide) (by decide) (by decide) ?_
  rintro _ h ⟨rfl, va, gv, H⟩
  have ab := AB.rep 16
  have hl : (List.replicate 16 (Value.int 0)).length = 16 := rfl
  obtain ⟨vs, evs⟩ : ∃ vs : List Value, List.replicate 16 (Value.int 0) = vs := ⟨_, rfl⟩
  rw [evs] at H ab hl
  clear evs
  refine h_ldcH (F := F_0) (fun b => [.ref b, .int 0]) K D (Nat.le_refl _) H rfl (hw _ (List.mem_of_getElem? (i := 146) rfl)) (satoms hw) (ewx hw) (List.mem_of_getElem? (i := 1) rfl) (vs := [.int 123, .int 34, .int 114, .int 117, .int 110, .int 34, .int 58, .int 34]) (z := 8) ⟨by decide, by decide⟩ (by decide) rfl fbx (fun _ => rfl) d1_62 rfl 32 (by decide) (by decide) (by decide) (by decide) ?_
  intro s nz h la ld D K H
  try dsimp only [Stc.st, Stc.EL, Stc.vm, Stc.ro] at H
  refine call_v K (hw _ (List.mem_of_getElem? (i := 39) rfl)) (hw _ (List.mem_of_getElem? (i := 40) rfl)) (hw _ (List.mem_of_getElem? (i := 42) rfl)) (hw _ (List.mem_of_getElem? (i := 41) rfl)) (hw _ (List.mem_of_getElem? (i := 23) rfl)) (hw _ (List.mem_of_getElem? (i := 43) rfl)) (H.exa (i := 0) rfl) (ksa0 l Z a0 hw n0 _ 0 z rfl hz _ 0 1 la _ _ sb va 0 8 vs _ rfl rfl rfl (by rw [hl]; decide) ab ab39 (by rw [hl]; decide) (by decide) gs gv H) d1_64 rfl rfl [.ref la] [.ref _] rfl rfl pd19 rfl (fun _ q => notFace_of_selects q) (by decide) 1 (Nat.le_of_ble_eq_true rfl) (by decide) (by decide) (by decide) (by decide) ?_
  rintro _ h ⟨rfl, vs, hl2, ab2, -, H⟩
  rw [hl] at hl2
  clear ab hl
  have ab := ab2
  have hl := hl2
  clear ab2 hl2
  refine go_ok K [(67, .aload_n 1, 68, 0, 0)] _ _ _ (by decide +kernel) rfl ?_
  refine call_v K (hw _ (List.mem_of_getElem? (i := 39) rfl)) (hw _ (List.mem_of_getElem? (i := 40) rfl)) (hw _ (List.mem_of_getElem? (i := 42) rfl)) (hw _ (List.mem_of_getElem? (i := 41) rfl)) (hw _ (List.mem_of_getElem? (i := 23) rfl)) (hw _ (List.mem_of_getElem? (i := 43) rfl)) (H.exa (i := 0) rfl) (ksa0 l Z a0 hw n0 _ 0 z rfl hz _ 2 3 ra _ _ sb va 8 9 vs _ rfl rfl rfl (by rw [hl]; decide) ab ab15 (by rw [hl]; decide) (by decide) gs gv H) d1_68 rfl rfl [.ref ra] [.ref _] rfl rfl pd19 rfl (fun _ q => notFace_of_selects q) (by decide) 1 (Nat.le_of_ble_eq_true rfl) (by decide) (by decide) (by decide) (by decide) ?_
  rintro _ h ⟨rfl, vs, hl2, ab2, -, H⟩
  rw [hl] at hl2
  clear ab hl
  have ab := ab2
  have hl := hl2
  clear ab2 hl2
  refine h_ldcH (F := F_0) (fun b => [.ref b, .int 0]) K D (Nat.le_refl _) H rfl (hw _ (List.mem_of_getElem? (i := 147) rfl)) (satoms hw) (ewx hw) (List.mem_of_getElem? (i := 2) rfl) (vs := [.int 34, .int 44, .int 34, .int 106, .int 111, .int 98, .int 34, .int 58]) (z := 8) ⟨by decide, by decide⟩ (by decide) rfl fbx (fun _ => rfl) d1_71 rfl 32 (by decide) (by decide) (by decide) (by decide) ?_
  intro s nz h lb le D K H
  try dsimp only [Stc.st, Stc.EL, Stc.vm, Stc.ro] at H
  refine call_v K (hw _ (List.mem_of_getElem? (i := 39) rfl)) (hw _ (List.mem_of_getElem? (i := 40) rfl)) (hw _ (List.mem_of_getElem? (i := 42) rfl)) (hw _ (List.mem_of_getElem? (i := 41) rfl)) (hw _ (List.mem_of_getElem? (i := 23) rfl)) (hw _ (List.mem_of_getElem? (i := 43) rfl)) (H.exa (i := 0) rfl) (ksa1 l Z a0 hw n0 _ 0 z rfl hz _ 0 1 lb _ _ sb va 9 17 vs _ rfl rfl rfl (by rw [hl]; decide) (by rw [hl]; decide) ab ab41 (by rw [hl]; decide) (by decide) gs gv H) d1_73 rfl rfl [.ref lb] [.ref _] rfl rfl pd19 rfl (fun _ q => notFace_of_selects q) (by decide) 1 (Nat.le_of_ble_eq_true rfl) (by decide) (by decide) (by decide) (by decide) ?_
  rintro _ h ⟨rfl, va, vs, gw, hl2, ab2, -, H⟩
  rw [hl] at hl2
  clear ab hl gv
  have ab := ab2
  have hl : vs.length = 34 := hl2
  have gv := gw
  clear ab2 hl2 gw
  have hps : (vs.take 17).length = 17 := by rw [List.length_take, hl]; rfl
  refine call_v K (hw _ (List.mem_of_getElem? (i := 90) rfl)) (hw _ (List.mem_of_getElem? (i := 91) rfl)) (hw _ (List.mem_of_getElem? (i := 93) rfl)) (hw _ (List.mem_of_getElem? (i := 92) rfl)) (hw _ (List.mem_of_getElem? (i := 23) rfl)) (hw _ (List.mem_of_getElem? (i := 94) rfl)) (H.exa (i := 0) rfl) (kts l Z a0 hw n0 _ 0 z rfl hz _ sb va 17 vs _ (by decide) (by rw [hl]; decide) (by rw [hl]; decide) ab H) d1_76 rfl rfl [] [.ref _] rfl rfl pd20 rfl (fun _ q => notFace_of_selects q) (by decide) 1 (Nat.le_of_ble_eq_true rfl) (by decide) (by decide) (by decide) (by decide) ?_
  rintro _ h ⟨pst, pwt, rfl, gst, gwt, H⟩
  clear gs gv ab hl
  obtain ⟨ps, eps⟩ : ∃ ps : List Value, vs.take 17 = ps := ⟨_, rfl⟩
  rw [eps] at H hps
  clear eps
  refine h_put K H (lay_2 hw) (i := 2) (j := 4) rfl rfl rfl (host := "") (Or.inl (hw _ (List.mem_of_getElem? (i := 165) rfl))) Via.refl (Or.inr ⟨(hw _ (List.mem_of_getElem? (i := 166) rfl)), rfl, rfl⟩) (hw _ (List.mem_of_getElem? (i := 5) rfl)) (ty := (.object "java/lang/String")) (by decide) rfl rfl d1_79 rfl gpl ?_
  intro h H
  replace H := H.trim [] (fun _ q => nomatch q)
  try dsimp only [Stc.st, Stc.EL, Stc.vm, Stc.ro] at H
  replace H := (H.front 1 rfl).freeze
  replace H := H.freeze
  try dsimp only [Stc.st, Stc.EL, Stc.vm, Stc.ro] at H
  clear gst gwt
  refine go_ok K [(82, .aload_n 0, 83, 0, 0)] _ _ _ (by decide +kernel) rfl ?_
  refine h_sta K H (i := 1) rfl (host := "") (Or.inl (hw _ (List.mem_of_getElem? (i := 167) rfl))) Via.refl d1_83 rfl ?_
  refine go_ok K [(86, .iconst 1, 87, 1, 0), (87, .iadd, 88, 0, 0)] _ _ _ (by decide +kernel) rfl ?_
  refine h_newref K H (hw _ (List.mem_of_getElem? (i := 169) rfl)) (hw _ (List.mem_of_getElem? (i := 170) rfl)) d1_88 rfl [.null, .null, .null, .null, .null, .null, .null, .null, .null, .null, .null] rfl (by decide) 11 (by decide) (by decide) (by decide) (by decide) ?_
  intro h pe gpe H
  refine h_put K H (lay_2 hw) (i := 1) (j := 5) rfl rfl rfl (host := "") (Or.inl (hw _ (List.mem_of_getElem? (i := 171) rfl))) Via.refl (Or.inr ⟨(hw _ (List.mem_of_getElem? (i := 172) rfl)), rfl, rfl⟩) (hw _ (List.mem_of_getElem? (i := 5) rfl)) (ty := (.array (.object "java/lang/String"))) (by decide) rfl rfl d1_91 rfl gpl ?_
  intro h H
  have O := OvN.of (hw _ (List.mem_of_getElem? (i := 170) rfl))
  refine go_ok K [(94, .iconst 1, 95, 1, 0), (95, .istore 9, 97, 0, 0)] _ _ _ (by decide +kernel) rfl ?_
  refine go_ok K [(97, .iload 9, 99, 0, 0), (99, .aload_n 0, 100, 0, 0)] _ _ _ (by decide +kernel) rfl ?_
  refine h_get K H (i := 1) (j := 5) rfl rfl rfl (host := "") (Or.inl (hw _ (List.mem_of_getElem? (i := 171) rfl))) Via.refl d1_100 rfl ?_
  refine h_len K H (i := 0) rfl d1_103 rfl 11 rfl ?_
  refine icmp_ge (pc' := 175) (pn := 107) K d1_104 (by decide) (by decide) rfl (fun h104 => ?_) (fun h104 => ?_)
  · exact absurd (by decide) h104
  refine go_ok K [(107, .bipush 100, 109, 100, 0), (109, .aload_n 0, 110, 0, 0)] _ _ _ (by decide +kernel) rfl ?_
  refine h_get K H (i := 1) (j := 4) rfl rfl rfl (host := "") (Or.inl (hw _ (List.mem_of_getElem? (i := 165) rfl))) Via.refl d1_110 rfl ?_
  have E1 := (H.rd (i := 0) rfl).1
  refine call_v K (hw _ (List.mem_of_getElem? (i := 173) rfl)) (hw _ (List.mem_of_getElem? (i := 50) rfl)) (hw _ (List.mem_of_getElem? (i := 52) rfl)) (hw _ (List.mem_of_getElem? (i := 51) rfl)) (hw _ (List.mem_of_getElem? (i := 8) rfl)) (hw _ (List.mem_of_getElem? (i := 53) rfl)) E1 (kln l Z a0 hw n0 z pst _ _ _ (H.sta (i := 0) rfl) hz E1 (rd_fld H (i := 0) rfl (j := 0) rfl rfl) (rd_fld H (i := 0) rfl (j := 1) rfl rfl) (H.rd (i := 1) rfl)) d1_113 rfl rfl [] [.int _] rfl rfl pd8 rfl (fun _ q => notFace_of_selects q) (by decide) 1 (Nat.le_of_ble_eq_true rfl) (by decide) (by decide) (by decide) (by decide) ?_
  rintro _ _ ⟨rfl, rfl⟩
  clear E1
  rw [hps]
  refine go_ok K [(116, .isub, 117, 0, 0), (117, .iload 9, 119, 0, 0), (119, .isub, 120, 0, 0)] _ _ _ (by decide +kernel) rfl ?_
  refine h_ldcH (F := F_0) (fun b => [.ref b, .int 0]) K D (Nat.le_refl _) H rfl (hw _ (List.mem_of_getElem? (i := 174) rfl)) (satoms hw) (ewx hw) (List.mem_of_getElem? (i := 3) rfl) (vs := [.int 44, .int 34, .int 112, .int 97, .int 100, .int 34, .int 58, .int 34, .int 34, .int 125]) (z := 10) ⟨by decide, by decide⟩ (by decide) rfl fbx (fun _ => rfl) d1_120 rfl 40 (by decide) (by decide) (by decide) (by decide) ?_
  intro s nz h la ld D K H
  try dsimp only [Stc.st, Stc.EL, Stc.vm, Stc.ro] at H
  have E1 := (H.rd (i := 0) rfl).1
  refine call_v K (hw _ (List.mem_of_getElem? (i := 173) rfl)) (hw _ (List.mem_of_getElem? (i := 50) rfl)) (hw _ (List.mem_of_getElem? (i := 52) rfl)) (hw _ (List.mem_of_getElem? (i := 51) rfl)) (hw _ (List.mem_of_getElem? (i := 8) rfl)) (hw _ (List.mem_of_getElem? (i := 53) rfl)) E1 (kln l Z a0 hw n0 z la _ _ _ (H.sta (i := 0) rfl) hz E1 (rd_fld H (i := 0) rfl (j := 0) rfl rfl) (rd_fld H (i := 0) rfl (j := 1) rfl rfl) (H.rd (i := 1) rfl)) d1_122 rfl rfl [] [.int _] rfl rfl pd8 rfl (fun _ q => notFace_of_selects q) (by decide) 1 (Nat.le_of_ble_eq_true rfl) (by decide) (by decide) (by decide) (by decide) ?_
  rintro _ _ ⟨rfl, rfl⟩
  clear E1
  refine go_ok K [(125, .isub, 126, 0, 0), (126, .istore 10, 128, 0, 0), (128, .aload_n 0, 129, 0, 0)] _ _ _ (by decide +kernel) rfl ?_
  refine h_get K H (i := 1) (j := 5) rfl rfl rfl (host := "") (Or.inl (hw _ (List.mem_of_getElem? (i := 171) rfl))) Via.refl d1_129 rfl ?_
  refine go_ok K [(132, .iload 9, 134, 0, 0)] _ _ _ (by decide +kernel) rfl ?_
  refine h_new K H F_1 [.null, .int 0, .int 0] (lay_1 hw) (by decide +kernel) (hw _ (List.mem_of_getElem? (i := 21) rfl)) (hw _ (List.mem_of_getElem? (i := 22) rfl)) (hw _ (List.mem_of_getElem? (i := 23) rfl)) d1_134 rfl (by decide) (by decide) ?_
  intro h sb gs H
  refine go_ok K [(137, .dup, 138, 0, 0)] _ _ _ (by decide +kernel) rfl ?_
  refine call_i K rfl (hw _ (List.mem_of_getElem? (i := 24) rfl)) (hw _ (List.mem_of_getElem? (i := 25) rfl)) (hw _ (List.mem_of_getElem? (i := 23) rfl)) (hw _ (List.mem_of_getElem? (i := 26) rfl)) (ksi l Z a0 hw n0 _ 0 z rfl hz _ sb _ gs H) d1_138 rfl rfl [] [.ref _, .int _, .ref _] rfl rfl pd18 rfl (by decide) 3 (Nat.le_of_ble_eq_true rfl) (by decide) (by decide) (by decide) (by decide) ?_
  rintro _ h ⟨rfl, va, gv, H⟩
  have ab := AB.rep 16
  have hl : (List.replicate 16 (Value.int 0)).length = 16 := rfl
  obtain ⟨vs, evs⟩ : ∃ vs : List Value, List.replicate 16 (Value.int 0) = vs := ⟨_, rfl⟩
  rw [evs] at H ab hl
  clear evs
  refine h_ldcH (F := F_0) (fun b => [.ref b, .int 0]) K D (Nat.le_refl _) H rfl (hw _ (List.mem_of_getElem? (i := 175) rfl)) (satoms hw) (ewx hw) (List.mem_of_getElem? (i := 4) rfl) (vs := [.int 44, .int 34, .int 112, .int 97, .int 100, .int 34, .int 58, .int 34]) (z := 8) ⟨by decide, by decide⟩ (by decide) rfl fbx (fun _ => rfl) d1_141 rfl 32 (by decide) (by decide) (by decide) (by decide) ?_
  intro s nz h lb le D K H
  try dsimp only [Stc.st, Stc.EL, Stc.vm, Stc.ro] at H
  refine call_v K (hw _ (List.mem_of_getElem? (i := 39) rfl)) (hw _ (List.mem_of_getElem? (i := 40) rfl)) (hw _ (List.mem_of_getElem? (i := 42) rfl)) (hw _ (List.mem_of_getElem? (i := 41) rfl)) (hw _ (List.mem_of_getElem? (i := 23) rfl)) (hw _ (List.mem_of_getElem? (i := 43) rfl)) (H.exa (i := 0) rfl) (ksa0 l Z a0 hw n0 _ 0 z rfl hz _ 0 1 lb _ _ sb va 0 8 vs _ rfl rfl rfl (by rw [hl]; decide) ab ab61 (by rw [hl]; decide) (by decide) gs gv H) d1_143 rfl rfl [.ref lb] [.int _, .ref _] rfl rfl pd19 rfl (fun _ q => notFace_of_selects q) (by decide) 2 (Nat.le_of_ble_eq_true rfl) (by decide) (by decide) (by decide) (by decide) ?_
  rintro _ h ⟨rfl, vs, hl2, ab2, -, H⟩
  rw [hl] at hl2
  clear ab hl
  have ab := ab2
  have hl := hl2
  clear ab2 hl2
  refine h_ldcH (F := F_0) (fun b => [.ref b, .int 0]) K D (Nat.le_refl _) H rfl (hw _ (List.mem_of_getElem? (i := 176) rfl)) (satoms hw) (ewx hw) (List.mem_of_getElem? (i := 5) rfl) (vs := [.int 46]) (z := 1) ⟨by decide, by decide⟩ (by decide) rfl fbx (fun _ => rfl) d1_146 rfl 4 (by decide) (by decide) (by decide) (by decide) ?_
  intro s nz h lc lf D K H
  try dsimp only [Stc.st, Stc.EL, Stc.vm, Stc.ro] at H
  refine go_ok K [(148, .iconst 0, 149, 0, 0), (149, .iload 10, 151, 0, 0)] _ _ _ (by decide +kernel) rfl ?_
  refine call_s K (hw _ (List.mem_of_getElem? (i := 177) rfl)) (hw _ (List.mem_of_getElem? (i := 158) rfl)) (hw _ (List.mem_of_getElem? (i := 134) rfl)) (hw _ (List.mem_of_getElem? (i := 159) rfl)) (kma l Z a0 hw n0 _ _ 0 72 _ rfl (by decide) (by decide) (by decide)) d1_151 rfl rfl [.int _, .int _] [.ref _, .ref _, .int _, .ref _] rfl rfl pd2 rfl (by decide) 4 (Nat.le_of_ble_eq_true rfl) (by decide) (by decide) (by decide) (by decide) ?_
  rintro _ _ ⟨rfl, rfl⟩
  have E1 := (H.rd (i := 0) rfl).1
  refine call_v K (hw _ (List.mem_of_getElem? (i := 178) rfl)) (hw _ (List.mem_of_getElem? (i := 179) rfl)) (hw _ (List.mem_of_getElem? (i := 181) rfl)) (hw _ (List.mem_of_getElem? (i := 180) rfl)) (hw _ (List.mem_of_getElem? (i := 8) rfl)) (hw _ (List.mem_of_getElem? (i := 182) rfl)) E1 (krp l Z a0 hw n0 _ _ 0 1 lc lf 46 _ 72 _ rfl rfl (by decide) (by decide) (by decide) H) d1_154 rfl rfl [.int _] [.ref _, .int _, .ref _] rfl rfl pd21 rfl (fun _ q => notFace_of_selects q) (by decide) 3 (Nat.le_of_ble_eq_true rfl) (by decide) (by decide) (by decide) (by decide) ?_
  rintro _ h ⟨st, wt, ws, rfl, hws, abw, H⟩
  replace H := (H.front 1 rfl).freeze
  replace H := H.freeze
  try dsimp only [Stc.st, Stc.EL, Stc.vm, Stc.ro] at H
  clear E1
  refine call_v K (hw _ (List.mem_of_getElem? (i := 39) rfl)) (hw _ (List.mem_of_getElem? (i := 40) rfl)) (hw _ (List.mem_of_getElem? (i := 42) rfl)) (hw _ (List.mem_of_getElem? (i := 41) rfl)) (hw _ (List.mem_of_getElem? (i := 23) rfl)) (hw _ (List.mem_of_getElem? (i := 43) rfl)) (H.exa (i := 0) rfl) (ksa1 l Z a0 hw n0 _ 0 z rfl hz _ 0 1 st _ _ sb va 8 80 vs _ rfl rfl (by rw [hws]) (by rw [hl, hws]; decide) (by rw [hl]; decide) ab abw (by rw [hl]; decide) (by rw [hws]; decide) gs gv H) d1_157 rfl rfl [.ref st] [.int _, .ref _] rfl rfl pd19 rfl (fun _ q => notFace_of_selects q) (by decide) 2 (Nat.le_of_ble_eq_true rfl) (by decide) (by decide) (by decide) (by decide) ?_
  rintro _ h ⟨rfl, va, vs, gw, hl2, ab2, -, H⟩
  rw [hl] at hl2
  clear ab hl gv
  have ab := ab2
  have hl : vs.length = 80 := hl2
  have gv := gw
  clear ab2 hl2 gw
  refine h_ldcH (F := F_0) (fun b => [.ref b, .int 0]) K D (Nat.le_refl _) H rfl (hw _ (List.mem_of_getElem? (i := 191) rfl)) (satoms hw) (ewx hw) (List.mem_of_getElem? (i := 6) rfl) (vs := [.int 34, .int 125]) (z := 2) ⟨by decide, by decide⟩ (by decide) rfl fbx (fun _ => rfl) d1_160 rfl 8 (by decide) (by decide) (by decide) (by decide) ?_
  intro s nz h lg lh D K H
  try dsimp only [Stc.st, Stc.EL, Stc.vm, Stc.ro] at H
  refine call_v K (hw _ (List.mem_of_getElem? (i := 39) rfl)) (hw _ (List.mem_of_getElem? (i := 40) rfl)) (hw _ (List.mem_of_getElem? (i := 42) rfl)) (hw _ (List.mem_of_getElem? (i := 41) rfl)) (hw _ (List.mem_of_getElem? (i := 23) rfl)) (hw _ (List.mem_of_getElem? (i := 43) rfl)) (H.exa (i := 0) rfl) (ksa1 l Z a0 hw n0 _ 0 z rfl hz _ 0 1 lg _ _ sb va 80 82 vs _ rfl rfl rfl (by rw [hl]; decide) (by rw [hl]; decide) ab ab75 (by rw [hl]; decide) (by decide) gs gv H) d1_162 rfl rfl [.ref lg] [.int _, .ref _] rfl rfl pd19 rfl (fun _ q => notFace_of_selects q) (by decide) 2 (Nat.le_of_ble_eq_true rfl) (by decide) (by decide) (by decide) (by decide) ?_
  rintro _ h ⟨rfl, va, vs, gw, hl2, ab2, -, H⟩
  rw [hl] at hl2
  clear ab hl gv
  have ab := ab2
  have hl : vs.length = 162 := hl2
  have gv := gw
  clear ab2 hl2 gw
  refine call_v K (hw _ (List.mem_of_getElem? (i := 90) rfl)) (hw _ (List.mem_of_getElem? (i := 91) rfl)) (hw _ (List.mem_of_getElem? (i := 93) rfl)) (hw _ (List.mem_of_getElem? (i := 92) rfl)) (hw _ (List.mem_of_getElem? (i := 23) rfl)) (hw _ (List.mem_of_getElem? (i := 94) rfl)) (H.exa (i := 0) rfl) (kts l Z a0 hw n0 _ 0 z rfl hz _ sb va 82 vs _ (by decide) (by rw [hl]; decide) (by rw [hl]; decide) ab H) d1_165 rfl rfl [] [.int _, .ref _] rfl rfl pd20 rfl (fun _ q => notFace_of_selects q) (by decide) 2 (Nat.le_of_ble_eq_true rfl) (by decide) (by decide) (by decide) (by decide) ?_
  rintro _ h ⟨z1, wt, rfl, gst, gwt, H⟩
  clear gs gv ab hl
  refine h_st_a K H (i := 2) rfl (by decide) O (Or.inr ⟨z1, rfl, Ins.self (H.exa (i := 0) rfl)⟩) (q := 1) (by decide) rfl d1_168 rfl gpe (by decide) ?_
  intro h H
  replace H := (H.tail).tail
  replace H := H.trim [(pst, .inl ("java/lang/String", F_0), [.ref pwt, .int 0]), (pwt, .inr .byte, ps)] (by simp [Stc.ro])
  try dsimp only [Stc.st, Stc.EL, Stc.vm, Stc.ro] at H
  clear gst gwt hws abw
  refine go_ok K [(169, .iinc 9 1, 172, 1, 0), (172, .goto (-75), 97, 0, 0)] _ _ _ (by decide +kernel) rfl ?_
  refine go_ok K [(97, .iload 9, 99, 0, 0), (99, .aload_n 0, 100, 0, 0)] _ _ _ (by decide +kernel) rfl ?_
  refine h_get K H (i := 1) (j := 5) rfl rfl rfl (host := "") (Or.inl (hw _ (List.mem_of_getElem? (i := 171) rfl))) Via.refl d1_100 rfl ?_
  refine h_len K H (i := 0) rfl d1_103 rfl 11 rfl ?_
  refine icmp_ge (pc' := 175) (pn := 107) K d1_104 (by decide) (by decide) rfl (fun h104 => ?_) (fun h104 => ?_)
  · exact absurd (by decide) h104
  refine go_ok K [(107, .bipush 100, 109, 100, 0), (109, .aload_n 0, 110, 0, 0)] _ _ _ (by decide +kernel) rfl ?_
  refine h_get K H (i := 1) (j := 4) rfl rfl rfl (host := "") (Or.inl (hw _ (List.mem_of_getElem? (i := 165) rfl))) Via.refl d1_110 rfl ?_
  have E1 := (H.rd (i := 0) rfl).1
  refine call_v K (hw _ (List.mem_of_getElem? (i := 173) rfl)) (hw _ (List.mem_of_getElem? (i := 50) rfl)) (hw _ (List.mem_of_getElem? (i := 52) rfl)) (hw _ (List.mem_of_getElem? (i := 51) rfl)) (hw _ (List.mem_of_getElem? (i := 8) rfl)) (hw _ (List.mem_of_getElem? (i := 53) rfl)) E1 (kln l Z a0 hw n0 z pst _ _ _ (H.sta (i := 0) rfl) hz E1 (rd_fld H (i := 0) rfl (j := 0) rfl rfl) (rd_fld H (i := 0) rfl (j := 1) rfl rfl) (H.rd (i := 1) rfl)) d1_113 rfl rfl [] [.int _] rfl rfl pd8 rfl (fun _ q => notFace_of_selects q) (by decide) 1 (Nat.le_of_ble_eq_true rfl) (by decide) (by decide) (by decide) (by decide) ?_
  rintro _ _ ⟨rfl, rfl⟩
  clear E1
  rw [hps]
  refine go_ok K [(116, .isub, 117, 0, 0), (117, .iload 9, 119, 0, 0), (119, .isub, 120, 0, 0)] _ _ _ (by decide +kernel) rfl ?_
  refine h_ldcH (F := F_0) (fun b => [.ref b, .int 0]) K D (Nat.le_refl _) H rfl (hw _ (List.mem_of_getElem? (i := 174) rfl)) (satoms hw) (ewx hw) (List.mem_of_getElem? (i := 3) rfl) (vs := [.int 44, .int 34, .int 112, .int 97, .int 100, .int 34, .int 58, .int 34, .int 34, .int 125]) (z := 10) ⟨by decide, by decide⟩ (by decide) rfl fbx (fun _ => rfl) d1_120 rfl 40 (by decide) (by decide) (by decide) (by decide) ?_
  intro s nz h la ld D K H
  try dsimp only [Stc.st, Stc.EL, Stc.vm, Stc.ro] at H
  have E1 := (H.rd (i := 0) rfl).1
  refine call_v K (hw _ (List.mem_of_getElem? (i := 173) rfl)) (hw _ (List.mem_of_getElem? (i := 50) rfl)) (hw _ (List.mem_of_getElem? (i := 52) rfl)) (hw _ (List.mem_of_getElem? (i := 51) rfl)) (hw _ (List.mem_of_getElem? (i := 8) rfl)) (hw _ (List.mem_of_getElem? (i := 53) rfl)) E1 (kln l Z a0 hw n0 z la _ _ _ (H.sta (i := 0) rfl) hz E1 (rd_fld H (i := 0) rfl (j := 0) rfl rfl) (rd_fld H (i := 0) rfl (j := 1) rfl rfl) (H.rd (i := 1) rfl)) d1_122 rfl rfl [] [.int _] rfl rfl pd8 rfl (fun _ q => notFace_of_selects q) (by decide) 1 (Nat.le_of_ble_eq_true rfl) (by decide) (by decide) (by decide) (by decide) ?_
  rintro _ _ ⟨rfl, rfl⟩
  clear E1
  refine go_ok K [(125, .isub, 126, 0, 0), (126, .istore 10, 128, 0, 0), (128, .aload_n 0, 129, 0, 0)] _ _ _ (by decide +kernel) rfl ?_
  refine h_get K H (i := 1) (j := 5) rfl rfl rfl (host := "") (Or.inl (hw _ (List.mem_of_getElem? (i := 171) rfl))) Via.refl d1_129 rfl ?_
  refine go_ok K [(132, .iload 9, 134, 0, 0)] _ _ _ (by decide +kernel) rfl ?_
  refine h_new K H F_1 [.null, .int 0, .int 0] (lay_1 hw) (by decide +kernel) (hw _ (List.mem_of_getElem? (i := 21) rfl)) (hw _ (List.mem_of_getElem? (i := 22) rfl)) (hw _ (List.mem_of_getElem? (i := 23) rfl)) d1_134 rfl (by decide) (by decide) ?_
  intro h sb gs H
  refine go_ok K [(137, .dup, 138, 0, 0)] _ _ _ (by decide +kernel) rfl ?_
  refine call_i K rfl (hw _ (List.mem_of_getElem? (i := 24) rfl)) (hw _ (List.mem_of_getElem? (i := 25) rfl)) (hw _ (List.mem_of_getElem? (i := 23) rfl)) (hw _ (List.mem_of_getElem? (i := 26) rfl)) (ksi l Z a0 hw n0 _ 0 z rfl hz _ sb _ gs H) d1_138 rfl rfl [] [.ref _, .int _, .ref _] rfl rfl pd18 rfl (by decide) 3 (Nat.le_of_ble_eq_true rfl) (by decide) (by decide) (by decide) (by decide) ?_
  rintro _ h ⟨rfl, va, gv, H⟩
  have ab := AB.rep 16
  have hl : (List.replicate 16 (Value.int 0)).length = 16 := rfl
  obtain ⟨vs, evs⟩ : ∃ vs : List Value, List.replicate 16 (Value.int 0) = vs := ⟨_, rfl⟩
  rw [evs] at H ab hl
  clear evs
  refine h_ldcH (F := F_0) (fun b => [.ref b, .int 0]) K D (Nat.le_refl _) H rfl (hw _ (List.mem_of_getElem? (i := 175) rfl)) (satoms hw) (ewx hw) (List.mem_of_getElem? (i := 4) rfl) (vs := [.int 44, .int 34, .int 112, .int 97, .int 100, .int 34, .int 58, .int 34]) (z := 8) ⟨by decide, by decide⟩ (by decide) rfl fbx (fun _ => rfl) d1_141 rfl 32 (by decide) (by decide) (by decide) (by decide) ?_
  intro s nz h lb le D K H
  try dsimp only [Stc.st, Stc.EL, Stc.vm, Stc.ro] at H
  refine call_v K (hw _ (List.mem_of_getElem? (i := 39) rfl)) (hw _ (List.mem_of_getElem? (i := 40) rfl)) (hw _ (List.mem_of_getElem? (i := 42) rfl)) (hw _ (List.mem_of_getElem? (i := 41) rfl)) (hw _ (List.mem_of_getElem? (i := 23) rfl)) (hw _ (List.mem_of_getElem? (i := 43) rfl)) (H.exa (i := 0) rfl) (ksa0 l Z a0 hw n0 _ 0 z rfl hz _ 0 1 lb _ _ sb va 0 8 vs _ rfl rfl rfl (by rw [hl]; decide) ab ab61 (by rw [hl]; decide) (by decide) gs gv H) d1_143 rfl rfl [.ref lb] [.int _, .ref _] rfl rfl pd19 rfl (fun _ q => notFace_of_selects q) (by decide) 2 (Nat.le_of_ble_eq_true rfl) (by decide) (by decide) (by decide) (by decide) ?_
  rintro _ h ⟨rfl, vs, hl2, ab2, -, H⟩
  rw [hl] at hl2
  clear ab hl
  have ab := ab2
  have hl := hl2
  clear ab2 hl2
  refine h_ldcH (F := F_0) (fun b => [.ref b, .int 0]) K D (Nat.le_refl _) H rfl (hw _ (List.mem_of_getElem? (i := 176) rfl)) (satoms hw) (ewx hw) (List.mem_of_getElem? (i := 5) rfl) (vs := [.int 46]) (z := 1) ⟨by decide, by decide⟩ (by decide) rfl fbx (fun _ => rfl) d1_146 rfl 4 (by decide) (by decide) (by decide) (by decide) ?_
  intro s nz h lc lf D K H
  try dsimp only [Stc.st, Stc.EL, Stc.vm, Stc.ro] at H
  refine go_ok K [(148, .iconst 0, 149, 0, 0), (149, .iload 10, 151, 0, 0)] _ _ _ (by decide +kernel) rfl ?_
  refine call_s K (hw _ (List.mem_of_getElem? (i := 177) rfl)) (hw _ (List.mem_of_getElem? (i := 158) rfl)) (hw _ (List.mem_of_getElem? (i := 134) rfl)) (hw _ (List.mem_of_getElem? (i := 159) rfl)) (kma l Z a0 hw n0 _ _ 0 71 _ rfl (by decide) (by decide) (by decide)) d1_151 rfl rfl [.int _, .int _] [.ref _, .ref _, .int _, .ref _] rfl rfl pd2 rfl (by decide) 4 (Nat.le_of_ble_eq_true rfl) (by decide) (by decide) (by decide) (by decide) ?_
  rintro _ _ ⟨rfl, rfl⟩
  have E1 := (H.rd (i := 0) rfl).1
  refine call_v K (hw _ (List.mem_of_getElem? (i := 178) rfl)) (hw _ (List.mem_of_getElem? (i := 179) rfl)) (hw _ (List.mem_of_getElem? (i := 181) rfl)) (hw _ (List.mem_of_getElem? (i := 180) rfl)) (hw _ (List.mem_of_getElem? (i := 8) rfl)) (hw _ (List.mem_of_getElem? (i := 182) rfl)) E1 (krp l Z a0 hw n0 _ _ 0 1 lc lf 46 _ 71 _ rfl rfl (by decide) (by decide) (by decide) H) d1_154 rfl rfl [.int _] [.ref _, .int _, .ref _] rfl rfl pd21 rfl (fun _ q => notFace_of_selects q) (by decide) 3 (Nat.le_of_ble_eq_true rfl) (by decide) (by decide) (by decide) (by decide) ?_
  rintro _ h ⟨st, wt, ws, rfl, hws, abw, H⟩
  replace H := (H.front 1 rfl).freeze
  replace H := H.freeze
  try dsimp only [Stc.st, Stc.EL, Stc.vm, Stc.ro] at H
  clear E1
  refine call_v K (hw _ (List.mem_of_getElem? (i := 39) rfl)) (hw _ (List.mem_of_getElem? (i := 40) rfl)) (hw _ (List.mem_of_getElem? (i := 42) rfl)) (hw _ (List.mem_of_getElem? (i := 41) rfl)) (hw _ (List.mem_of_getElem? (i := 23) rfl)) (hw _ (List.mem_of_getElem? (i := 43) rfl)) (H.exa (i := 0) rfl) (ksa1 l Z a0 hw n0 _ 0 z rfl hz _ 0 1 st _ _ sb va 8 79 vs _ rfl rfl (by rw [hws]) (by rw [hl, hws]; decide) (by rw [hl]; decide) ab abw (by rw [hl]; decide) (by rw [hws]; decide) gs gv H) d1_157 rfl rfl [.ref st] [.int _, .ref _] rfl rfl pd19 rfl (fun _ q => notFace_of_selects q) (by decide) 2 (Nat.le_of_ble_eq_true rfl) (by decide) (by decide) (by decide) (by decide) ?_
  rintro _ h ⟨rfl, va, vs, gw, hl2, ab2, -, H⟩
  rw [hl] at hl2
  clear ab hl gv
  have ab := ab2
  have hl : vs.length = 79 := hl2
  have gv := gw
  clear ab2 hl2 gw
  refine h_ldcH (F := F_0) (fun b => [.ref b, .int 0]) K D (Nat.le_refl _) H rfl (hw _ (List.mem_of_getElem? (i := 191) rfl)) (satoms hw) (ewx hw) (List.mem_of_getElem? (i := 6) rfl) (vs := [.int 34, .int 125]) (z := 2) ⟨by decide, by decide⟩ (by decide) rfl fbx (fun _ => rfl) d1_160 rfl 8 (by decide) (by decide) (by decide) (by decide) ?_
  intro s nz h lg lh D K H
  try dsimp only [Stc.st, Stc.EL, Stc.vm, Stc.ro] at H
  refine call_v K (hw _ (List.mem_of_getElem? (i := 39) rfl)) (hw _ (List.mem_of_getElem? (i := 40) rfl)) (hw _ (List.mem_of_getElem? (i := 42) rfl)) (hw _ (List.mem_of_getElem? (i := 41) rfl)) (hw _ (List.mem_of_getElem? (i := 23) rfl)) (hw _ (List.mem_of_getElem? (i := 43) rfl)) (H.exa (i := 0) rfl) (ksa1 l Z a0 hw n0 _ 0 z rfl hz _ 0 1 lg _ _ sb va 79 81 vs _ rfl rfl rfl (by rw [hl]; decide) (by rw [hl]; decide) ab ab75 (by rw [hl]; decide) (by decide) gs gv H) d1_162 rfl rfl [.ref lg] [.int _, .ref _] rfl rfl pd19 rfl (fun _ q => notFace_of_selects q) (by decide) 2 (Nat.le_of_ble_eq_true rfl) (by decide) (by decide) (by decide) (by decide) ?_
  rintro _ h ⟨rfl, va, vs, gw, hl2, ab2, -, H⟩
  rw [hl] at hl2
  clear ab hl gv
  have ab := ab2
  have hl : vs.length = 160 := hl2
  have gv := gw
  clear ab2 hl2 gw
  refine call_v K (hw _ (List.mem_of_getElem? (i := 90) rfl)) (hw _ (List.mem_of_getElem? (i := 91) rfl)) (hw _ (List.mem_of_getElem? (i := 93) rfl)) (hw _ (List.mem_of_getElem? (i := 92) rfl)) (hw _ (List.mem_of_getElem? (i := 23) rfl)) (hw _ (List.mem_of_getElem? (i := 94) rfl)) (H.exa (i := 0) rfl) (kts l Z a0 hw n0 _ 0 z rfl hz _ sb va 81 vs _ (by decide) (by rw [hl]; decide) (by rw [hl]; decide) ab H) d1_165 rfl rfl [] [.int _, .ref _] rfl rfl pd20 rfl (fun _ q => notFace_of_selects q) (by decide) 2 (Nat.le_of_ble_eq_true rfl) (by decide) (by decide) (by decide) (by decide) ?_
  rintro _ h ⟨z2, wt, rfl, gst, gwt, H⟩
  clear gs gv ab hl
  refine h_st_a K H (i := 2) rfl (by decide) O (Or.inr ⟨z2, rfl, Ins.self (H.exa (i := 0) rfl)⟩) (q := 2) (by decide) rfl d1_168 rfl gpe (by decide) ?_
  intro h H
  replace H := (H.tail).tail
  replace H := H.trim [(pst, .inl ("java/lang/String", F_0), [.ref pwt, .int 0]), (pwt, .inr .byte, ps)] (by simp [Stc.ro])
  try dsimp only [Stc.st, Stc.EL, Stc.vm, Stc.ro] at H
  clear gst gwt hws abw
  refine go_ok K [(169, .iinc 9 1, 172, 1, 0), (172, .goto (-75), 97, 0, 0)] _ _ _ (by decide +kernel) rfl ?_
  refine go_ok K [(97, .iload 9, 99, 0, 0), (99, .aload_n 0, 100, 0, 0)] _ _ _ (by decide +kernel) rfl ?_
  refine h_get K H (i := 1) (j := 5) rfl rfl rfl (host := "") (Or.inl (hw _ (List.mem_of_getElem? (i := 171) rfl))) Via.refl d1_100 rfl ?_
  refine h_len K H (i := 0) rfl d1_103 rfl 11 rfl ?_
  refine icmp_ge (pc' := 175) (pn := 107) K d1_104 (by decide) (by decide) rfl (fun h104 => ?_) (fun h104 => ?_)
  · exact absurd (by decide) h104
  refine go_ok K [(107, .bipush 100, 109, 100, 0), (109, .aload_n 0, 110, 0, 0)] _ _ _ (by decide +kernel) rfl ?_
  refine h_get K H (i := 1) (j := 4) rfl rfl rfl (host := "") (Or.inl (hw _ (List.mem_of_getElem? (i := 165) rfl))) Via.refl d1_110 rfl ?_
  have E1 := (H.rd (i := 0) rfl).1
  refine call_v K (hw _ (List.mem_of_getElem? (i := 173) rfl)) (hw _ (List.mem_of_getElem? (i := 50) rfl)) (hw _ (List.mem_of_getElem? (i := 52) rfl)) (hw _ (List.mem_of_getElem? (i := 51) rfl)) (hw _ (List.mem_of_getElem? (i := 8) rfl)) (hw _ (List.mem_of_getElem? (i := 53) rfl)) E1 (kln l Z a0 hw n0 z pst _ _ _ (H.sta (i := 0) rfl) hz E1 (rd_fld H (i := 0) rfl (j := 0) rfl rfl) (rd_fld H (i := 0) rfl (j := 1) rfl rfl) (H.rd (i := 1) rfl)) d1_113 rfl rfl [] [.int _] rfl rfl pd8 rfl (fun _ q => notFace_of_selects q) (by decide) 1 (Nat.le_of_ble_eq_true rfl) (by decide) (by decide) (by decide) (by decide) ?_
  rintro _ _ ⟨rfl, rfl⟩
  clear E1
  rw [hps]
  refine go_ok K [(116, .isub, 117, 0, 0), (117, .iload 9, 119, 0, 0), (119, .isub, 120, 0, 0)] _ _ _ (by decide +kernel) rfl ?_
  refine h_ldcH (F := F_0) (fun b => [.ref b, .int 0]) K D (Nat.le_refl _) H rfl (hw _ (List.mem_of_getElem? (i := 174) rfl)) (satoms hw) (ewx hw) (List.mem_of_getElem? (i := 3) rfl) (vs := [.int 44, .int 34, .int 112, .int 97, .int 100, .int 34, .int 58, .int 34, .int 34, .int 125]) (z := 10) ⟨by decide, by decide⟩ (by decide) rfl fbx (fun _ => rfl) d1_120 rfl 40 (by decide) (by decide) (by decide) (by decide) ?_
  intro s nz h la ld D K H
  try dsimp only [Stc.st, Stc.EL, Stc.vm, Stc.ro] at H
  have E1 := (H.rd (i := 0) rfl).1
  refine call_v K (hw _ (List.mem_of_getElem? (i := 173) rfl)) (hw _ (List.mem_of_getElem? (i := 50) rfl)) (hw _ (List.mem_of_getElem? (i := 52) rfl)) (hw _ (List.mem_of_getElem? (i := 51) rfl)) (hw _ (List.mem_of_getElem? (i := 8) rfl)) (hw _ (List.mem_of_getElem? (i := 53) rfl)) E1 (kln l Z a0 hw n0 z la _ _ _ (H.sta (i := 0) rfl) hz E1 (rd_fld H (i := 0) rfl (j := 0) rfl rfl) (rd_fld H (i := 0) rfl (j := 1) rfl rfl) (H.rd (i := 1) rfl)) d1_122 rfl rfl [] [.int _] rfl rfl pd8 rfl (fun _ q => notFace_of_selects q) (by decide) 1 (Nat.le_of_ble_eq_true rfl) (by decide) (by decide) (by decide) (by decide) ?_
  rintro _ _ ⟨rfl, rfl⟩
  clear E1
  refine go_ok K [(125, .isub, 126, 0, 0), (126, .istore 10, 128, 0, 0), (128, .aload_n 0, 129, 0, 0)] _ _ _ (by decide +kernel) rfl ?_
  refine h_get K H (i := 1) (j := 5) rfl rfl rfl (host := "") (Or.inl (hw _ (List.mem_of_getElem? (i := 171) rfl))) Via.refl d1_129 rfl ?_
  refine go_ok K [(132, .iload 9, 134, 0, 0)] _ _ _ (by decide +kernel) rfl ?_
  refine h_new K H F_1 [.null, .int 0, .int 0] (lay_1 hw) (by decide +kernel) (hw _ (List.mem_of_getElem? (i := 21) rfl)) (hw _ (List.mem_of_getElem? (i := 22) rfl)) (hw _ (List.mem_of_getElem? (i := 23) rfl)) d1_134 rfl (by decide) (by decide) ?_
  intro h sb gs H
  refine go_ok K [(137, .dup, 138, 0, 0)] _ _ _ (by decide +kernel) rfl ?_
  refine call_i K rfl (hw _ (List.mem_of_getElem? (i := 24) rfl)) (hw _ (List.mem_of_getElem? (i := 25) rfl)) (hw _ (List.mem_of_getElem? (i := 23) rfl)) (hw _ (List.mem_of_getElem? (i := 26) rfl)) (ksi l Z a0 hw n0 _ 0 z rfl hz _ sb _ gs H) d1_138 rfl rfl [] [.ref _, .int _, .ref _] rfl rfl pd18 rfl (by decide) 3 (Nat.le_of_ble_eq_true rfl) (by decide) (by decide) (by decide) (by decide) ?_
  rintro _ h ⟨rfl, va, gv, H⟩
  have ab := AB.rep 16
  have hl : (List.replicate 16 (Value.int 0)).length = 16 := rfl
  obtain ⟨vs, evs⟩ : ∃ vs : List Value, List.replicate 16 (Value.int 0) = vs := ⟨_, rfl⟩
  rw [evs] at H ab hl
  clear evs
  refine h_ldcH (F := F_0) (fun b => [.ref b, .int 0]) K D (Nat.le_refl _) H rfl (hw _ (List.mem_of_getElem? (i := 175) rfl)) (satoms hw) (ewx hw) (List.mem_of_getElem? (i := 4) rfl) (vs := [.int 44, .int 34, .int 112, .int 97, .int 100, .int 34, .int 58, .int 34]) (z := 8) ⟨by decide, by decide⟩ (by decide) rfl fbx (fun _ => rfl) d1_141 rfl 32 (by decide) (by decide) (by decide) (by decide) ?_
  intro s nz h lb le D K H
  try dsimp only [Stc.st, Stc.EL, Stc.vm, Stc.ro] at H
  refine call_v K (hw _ (List.mem_of_getElem? (i := 39) rfl)) (hw _ (List.mem_of_getElem? (i := 40) rfl)) (hw _ (List.mem_of_getElem? (i := 42) rfl)) (hw _ (List.mem_of_getElem? (i := 41) rfl)) (hw _ (List.mem_of_getElem? (i := 23) rfl)) (hw _ (List.mem_of_getElem? (i := 43) rfl)) (H.exa (i := 0) rfl) (ksa0 l Z a0 hw n0 _ 0 z rfl hz _ 0 1 lb _ _ sb va 0 8 vs _ rfl rfl rfl (by rw [hl]; decide) ab ab61 (by rw [hl]; decide) (by decide) gs gv H) d1_143 rfl rfl [.ref lb] [.int _, .ref _] rfl rfl pd19 rfl (fun _ q => notFace_of_selects q) (by decide) 2 (Nat.le_of_ble_eq_true rfl) (by decide) (by decide) (by decide) (by decide) ?_
  rintro _ h ⟨rfl, vs, hl2, ab2, -, H⟩
  rw [hl] at hl2
  clear ab hl
  have ab := ab2
  have hl := hl2
  clear ab2 hl2
  refine h_ldcH (F := F_0) (fun b => [.ref b, .int 0]) K D (Nat.le_refl _) H rfl (hw _ (List.mem_of_getElem? (i := 176) rfl)) (satoms hw) (ewx hw) (List.mem_of_getElem? (i := 5) rfl) (vs := [.int 46]) (z := 1) ⟨by decide, by decide⟩ (by decide) rfl fbx (fun _ => rfl) d1_146 rfl 4 (by decide) (by decide) (by decide) (by decide) ?_
  intro s nz h lc lf D K H
  try dsimp only [Stc.st, Stc.EL, Stc.vm, Stc.ro] at H
  refine go_ok K [(148, .iconst 0, 149, 0, 0), (149, .iload 10, 151, 0, 0)] _ _ _ (by decide +kernel) rfl ?_
  refine call_s K (hw _ (List.mem_of_getElem? (i := 177) rfl)) (hw _ (List.mem_of_getElem? (i := 158) rfl)) (hw _ (List.mem_of_getElem? (i := 134) rfl)) (hw _ (List.mem_of_getElem? (i := 159) rfl)) (kma l Z a0 hw n0 _ _ 0 70 _ rfl (by decide) (by decide) (by decide)) d1_151 rfl rfl [.int _, .int _] [.ref _, .ref _, .int _, .ref _] rfl rfl pd2 rfl (by decide) 4 (Nat.le_of_ble_eq_true rfl) (by decide) (by decide) (by decide) (by decide) ?_
  rintro _ _ ⟨rfl, rfl⟩
  have E1 := (H.rd (i := 0) rfl).1
  refine call_v K (hw _ (List.mem_of_getElem? (i := 178) rfl)) (hw _ (List.mem_of_getElem? (i := 179) rfl)) (hw _ (List.mem_of_getElem? (i := 181) rfl)) (hw _ (List.mem_of_getElem? (i := 180) rfl)) (hw _ (List.mem_of_getElem? (i := 8) rfl)) (hw _ (List.mem_of_getElem? (i := 182) rfl)) E1 (krp l Z a0 hw n0 _ _ 0 1 lc lf 46 _ 70 _ rfl rfl (by decide) (by decide) (by decide) H) d1_154 rfl rfl [.int _] [.ref _, .int _, .ref _] rfl rfl pd21 rfl (fun _ q => notFace_of_selects q) (by decide) 3 (Nat.le_of_ble_eq_true rfl) (by decide) (by decide) (by decide) (by decide) ?_
  rintro _ h ⟨st, wt, ws, rfl, hws, abw, H⟩
  replace H := (H.front 1 rfl).freeze
  replace H := H.freeze
  try dsimp only [Stc.st, Stc.EL, Stc.vm, Stc.ro] at H
  clear E1
  refine call_v K (hw _ (List.mem_of_getElem? (i := 39) rfl)) (hw _ (List.mem_of_getElem? (i := 40) rfl)) (hw _ (List.mem_of_getElem? (i := 42) rfl)) (hw _ (List.mem_of_getElem? (i := 41) rfl)) (hw _ (List.mem_of_getElem? (i := 23) rfl)) (hw _ (List.mem_of_getElem? (i := 43) rfl)) (H.exa (i := 0) rfl) (ksa1 l Z a0 hw n0 _ 0 z rfl hz _ 0 1 st _ _ sb va 8 78 vs _ rfl rfl (by rw [hws]) (by rw [hl, hws]; decide) (by rw [hl]; decide) ab abw (by rw [hl]; decide) (by rw [hws]; decide) gs gv H) d1_157 rfl rfl [.ref st] [.int _, .ref _] rfl rfl pd19 rfl (fun _ q => notFace_of_selects q) (by decide) 2 (Nat.le_of_ble_eq_true rfl) (by decide) (by decide) (by decide) (by decide) ?_
  rintro _ h ⟨rfl, va, vs, gw, hl2, ab2, -, H⟩
  rw [hl] at hl2
  clear ab hl gv
  have ab := ab2
  have hl : vs.length = 78 := hl2
  have gv := gw
  clear ab2 hl2 gw
  refine h_ldcH (F := F_0) (fun b => [.ref b, .int 0]) K D (Nat.le_refl _) H rfl (hw _ (List.mem_of_getElem? (i := 191) rfl)) (satoms hw) (ewx hw) (List.mem_of_getElem? (i := 6) rfl) (vs := [.int 34, .int 125]) (z := 2) ⟨by decide, by decide⟩ (by decide) rfl fbx (fun _ => rfl) d1_160 rfl 8 (by decide) (by decide) (by decide) (by decide) ?_
  intro s nz h lg lh D K H
  try dsimp only [Stc.st, Stc.EL, Stc.vm, Stc.ro] at H
  refine call_v K (hw _ (List.mem_of_getElem? (i := 39) rfl)) (hw _ (List.mem_of_getElem? (i := 40) rfl)) (hw _ (List.mem_of_getElem? (i := 42) rfl)) (hw _ (List.mem_of_getElem? (i := 41) rfl)) (hw _ (List.mem_of_getElem? (i := 23) rfl)) (hw _ (List.mem_of_getElem? (i := 43) rfl)) (H.exa (i := 0) rfl) (ksa1 l Z a0 hw n0 _ 0 z rfl hz _ 0 1 lg _ _ sb va 78 80 vs _ rfl rfl rfl (by rw [hl]; decide) (by rw [hl]; decide) ab ab75 (by rw [hl]; decide) (by decide) gs gv H) d1_162 rfl rfl [.ref lg] [.int _, .ref _] rfl rfl pd19 rfl (fun _ q => notFace_of_selects q) (by decide) 2 (Nat.le_of_ble_eq_true rfl) (by decide) (by decide) (by decide) (by decide) ?_
  rintro _ h ⟨rfl, va, vs, gw, hl2, ab2, -, H⟩
  rw [hl] at hl2
  clear ab hl gv
  have ab := ab2
  have hl : vs.length = 158 := hl2
  have gv := gw
  clear ab2 hl2 gw
  refine call_v K (hw _ (List.mem_of_getElem? (i := 90) rfl)) (hw _ (List.mem_of_getElem? (i := 91) rfl)) (hw _ (List.mem_of_getElem? (i := 93) rfl)) (hw _ (List.mem_of_getElem? (i := 92) rfl)) (hw _ (List.mem_of_getElem? (i := 23) rfl)) (hw _ (List.mem_of_getElem? (i := 94) rfl)) (H.exa (i := 0) rfl) (kts l Z a0 hw n0 _ 0 z rfl hz _ sb va 80 vs _ (by decide) (by rw [hl]; decide) (by rw [hl]; decide) ab H) d1_165 rfl rfl [] [.int _, .ref _] rfl rfl pd20 rfl (fun _ q => notFace_of_selects q) (by decide) 2 (Nat.le_of_ble_eq_true rfl) (by decide) (by decide) (by decide) (by decide) ?_
  rintro _ h ⟨z3, wt, rfl, gst, gwt, H⟩
  clear gs gv ab hl
  refine h_st_a K H (i := 2) rfl (by decide) O (Or.inr ⟨z3, rfl, Ins.self (H.exa (i := 0) rfl)⟩) (q := 3) (by decide) rfl d1_168 rfl gpe (by decide) ?_
  intro h H
  replace H := (H.tail).tail
  replace H := H.trim [(pst, .inl ("java/lang/String", F_0), [.ref pwt, .int 0]), (pwt, .inr .byte, ps)] (by simp [Stc.ro])
  try dsimp only [Stc.st, Stc.EL, Stc.vm, Stc.ro] at H
  clear gst gwt hws abw
  refine go_ok K [(169, .iinc 9 1, 172, 1, 0), (172, .goto (-75), 97, 0, 0)] _ _ _ (by decide +kernel) rfl ?_
  refine go_ok K [(97, .iload 9, 99, 0, 0), (99, .aload_n 0, 100, 0, 0)] _ _ _ (by decide +kernel) rfl ?_
  refine h_get K H (i := 1) (j := 5) rfl rfl rfl (host := "") (Or.inl (hw _ (List.mem_of_getElem? (i := 171) rfl))) Via.refl d1_100 rfl ?_
  refine h_len K H (i := 0) rfl d1_103 rfl 11 rfl ?_
  refine icmp_ge (pc' := 175) (pn := 107) K d1_104 (by decide) (by decide) rfl (fun h104 => ?_) (fun h104 => ?_)
  · exact absurd (by decide) h104
  refine go_ok K [(107, .bipush 100, 109, 100, 0), (109, .aload_n 0, 110, 0, 0)] _ _ _ (by decide +kernel) rfl ?_
  refine h_get K H (i := 1) (j := 4) rfl rfl rfl (host := "") (Or.inl (hw _ (List.mem_of_getElem? (i := 165) rfl))) Via.refl d1_110 rfl ?_
  have E1 := (H.rd (i := 0) rfl).1
  refine call_v K (hw _ (List.mem_of_getElem? (i := 173) rfl)) (hw _ (List.mem_of_getElem? (i := 50) rfl)) (hw _ (List.mem_of_getElem? (i := 52) rfl)) (hw _ (List.mem_of_getElem? (i := 51) rfl)) (hw _ (List.mem_of_getElem? (i := 8) rfl)) (hw _ (List.mem_of_getElem? (i := 53) rfl)) E1 (kln l Z a0 hw n0 z pst _ _ _ (H.sta (i := 0) rfl) hz E1 (rd_fld H (i := 0) rfl (j := 0) rfl rfl) (rd_fld H (i := 0) rfl (j := 1) rfl rfl) (H.rd (i := 1) rfl)) d1_113 rfl rfl [] [.int _] rfl rfl pd8 rfl (fun _ q => notFace_of_selects q) (by decide) 1 (Nat.le_of_ble_eq_true rfl) (by decide) (by decide) (by decide) (by decide) ?_
  rintro _ _ ⟨rfl, rfl⟩
  clear E1
  rw [hps]
  refine go_ok K [(116, .isub, 117, 0, 0), (117, .iload 9, 119, 0, 0), (119, .isub, 120, 0, 0)] _ _ _ (by decide +kernel) rfl ?_
  refine h_ldcH (F := F_0) (fun b => [.ref b, .int 0]) K D (Nat.le_refl _) H rfl (hw _ (List.mem_of_getElem? (i := 174) rfl)) (satoms hw) (ewx hw) (List.mem_of_getElem? (i := 3) rfl) (vs := [.int 44, .int 34, .int 112, .int 97, .int 100, .int 34, .int 58, .int 34, .int 34, .int 125]) (z := 10) ⟨by decide, by decide⟩ (by decide) rfl fbx (fun _ => rfl) d1_120 rfl 40 (by decide) (by decide) (by decide) (by decide) ?_
  intro s nz h la ld D K H
  try dsimp only [Stc.st, Stc.EL, Stc.vm, Stc.ro] at H
  have E1 := (H.rd (i := 0) rfl).1
  refine call_v K (hw _ (List.mem_of_getElem? (i := 173) rfl)) (hw _ (List.mem_of_getElem? (i := 50) rfl)) (hw _ (List.mem_of_getElem? (i := 52) rfl)) (hw _ (List.mem_of_getElem? (i := 51) rfl)) (hw _ (List.mem_of_getElem? (i := 8) rfl)) (hw _ (List.mem_of_getElem? (i := 53) rfl)) E1 (kln l Z a0 hw n0 z la _ _ _ (H.sta (i := 0) rfl) hz E1 (rd_fld H (i := 0) rfl (j := 0) rfl rfl) (rd_fld H (i := 0) rfl (j := 1) rfl rfl) (H.rd (i := 1) rfl)) d1_122 rfl rfl [] [.int _] rfl rfl pd8 rfl (fun _ q => notFace_of_selects q) (by decide) 1 (Nat.le_of_ble_eq_true rfl) (by decide) (by decide) (by decide) (by decide) ?_
  rintro _ _ ⟨rfl, rfl⟩
  clear E1
  refine go_ok K [(125, .isub, 126, 0, 0), (126, .istore 10, 128, 0, 0), (128, .aload_n 0, 129, 0, 0)] _ _ _ (by decide +kernel) rfl ?_
  refine h_get K H (i := 1) (j := 5) rfl rfl rfl (host := "") (Or.inl (hw _ (List.mem_of_getElem? (i := 171) rfl))) Via.refl d1_129 rfl ?_
  refine go_ok K [(132, .iload 9, 134, 0, 0)] _ _ _ (by decide +kernel) rfl ?_
  refine h_new K H F_1 [.null, .int 0, .int 0] (lay_1 hw) (by decide +kernel) (hw _ (List.mem_of_getElem? (i := 21) rfl)) (hw _ (List.mem_of_getElem? (i := 22) rfl)) (hw _ (List.mem_of_getElem? (i := 23) rfl)) d1_134 rfl (by decide) (by decide) ?_
  intro h sb gs H
  refine go_ok K [(137, .dup, 138, 0, 0)] _ _ _ (by decide +kernel) rfl ?_
  refine call_i K rfl (hw _ (List.mem_of_getElem? (i := 24) rfl)) (hw _ (List.mem_of_getElem? (i := 25) rfl)) (hw _ (List.mem_of_getElem? (i := 23) rfl)) (hw _ (List.mem_of_getElem? (i := 26) rfl)) (ksi l Z a0 hw n0 _ 0 z rfl hz _ sb _ gs H) d1_138 rfl rfl [] [.ref _, .int _, .ref _] rfl rfl pd18 rfl (by decide) 3 (Nat.le_of_ble_eq_true rfl) (by decide) (by decide) (by decide) (by decide) ?_
  rintro _ h ⟨rfl, va, gv, H⟩
  have ab := AB.rep 16
  have hl : (List.replicate 16 (Value.int 0)).length = 16 := rfl
  obtain ⟨vs, evs⟩ : ∃ vs : List Value, List.replicate 16 (Value.int 0) = vs := ⟨_, rfl⟩
  rw [evs] at H ab hl
  clear evs
  refine h_ldcH (F := F_0) (fun b => [.ref b, .int 0]) K D (Nat.le_refl _) H rfl (hw _ (List.mem_of_getElem? (i := 175) rfl)) (satoms hw) (ewx hw) (List.mem_of_getElem? (i := 4) rfl) (vs := [.int 44, .int 34, .int 112, .int 97, .int 100, .int 34, .int 58, .int 34]) (z := 8) ⟨by decide, by decide⟩ (by decide) rfl fbx (fun _ => rfl) d1_141 rfl 32 (by decide) (by decide) (by decide) (by decide) ?_
  intro s nz h lb le D K H
  try dsimp only [Stc.st, Stc.EL, Stc.vm, Stc.ro] at H
  refine call_v K (hw _ (List.mem_of_getElem? (i := 39) rfl)) (hw _ (List.mem_of_getElem? (i := 40) rfl)) (hw _ (List.mem_of_getElem? (i := 42) rfl)) (hw _ (List.mem_of_getElem? (i := 41) rfl)) (hw _ (List.mem_of_getElem? (i := 23) rfl)) (hw _ (List.mem_of_getElem? (i := 43) rfl)) (H.exa (i := 0) rfl) (ksa0 l Z a0 hw n0 _ 0 z rfl hz _ 0 1 lb _ _ sb va 0 8 vs _ rfl rfl rfl (by rw [hl]; decide) ab ab61 (by rw [hl]; decide) (by decide) gs gv H) d1_143 rfl rfl [.ref lb] [.int _, .ref _] rfl rfl pd19 rfl (fun _ q => notFace_of_selects q) (by decide) 2 (Nat.le_of_ble_eq_true rfl) (by decide) (by decide) (by decide) (by decide) ?_
  rintro _ h ⟨rfl, vs, hl2, ab2, -, H⟩
  rw [hl] at hl2
  clear ab hl
  have ab := ab2
  have hl := hl2
  clear ab2 hl2
  refine h_ldcH (F := F_0) (fun b => [.ref b, .int 0]) K D (Nat.le_refl _) H rfl (hw _ (List.mem_of_getElem? (i := 176) rfl)) (satoms hw) (ewx hw) (List.mem_of_getElem? (i := 5) rfl) (vs := [.int 46]) (z := 1) ⟨by decide, by decide⟩ (by decide) rfl fbx (fun _ => rfl) d1_146 rfl 4 (by decide) (by decide) (by decide) (by decide) ?_
  intro s nz h lc lf D K H
  try dsimp only [Stc.st, Stc.EL, Stc.vm, Stc.ro] at H
  refine go_ok K [(148, .iconst 0, 149, 0, 0), (149, .iload 10, 151, 0, 0)] _ _ _ (by decide +kernel) rfl ?_
  refine call_s K (hw _ (List.mem_of_getElem? (i := 177) rfl)) (hw _ (List.mem_of_getElem? (i := 158) rfl)) (hw _ (List.mem_of_getElem? (i := 134) rfl)) (hw _ (List.mem_of_getElem? (i := 159) rfl)) (kma l Z a0 hw n0 _ _ 0 69 _ rfl (by decide) (by decide) (by decide)) d1_151 rfl rfl [.int _, .int _] [.ref _, .ref _, .int _, .ref _] rfl rfl pd2 rfl (by decide) 4 (Nat.le_of_ble_eq_true rfl) (by decide) (by decide) (by decide) (by decide) ?_
  rintro _ _ ⟨rfl, rfl⟩
  have E1 := (H.rd (i := 0) rfl).1
  refine call_v K (hw _ (List.mem_of_getElem? (i := 178) rfl)) (hw _ (List.mem_of_getElem? (i := 179) rfl)) (hw _ (List.mem_of_getElem? (i := 181) rfl)) (hw _ (List.mem_of_getElem? (i := 180) rfl)) (hw _ (List.mem_of_getElem? (i := 8) rfl)) (hw _ (List.mem_of_getElem? (i := 182) rfl)) E1 (krp l Z a0 hw n0 _ _ 0 1 lc lf 46 _ 69 _ rfl rfl (by decide) (by decide) (by decide) H) d1_154 rfl rfl [.int _] [.ref _, .int _, .ref _] rfl rfl pd21 rfl (fun _ q => notFace_of_selects q) (by decide) 3 (Nat.le_of_ble_eq_true rfl) (by decide) (by decide) (by decide) (by decide) ?_
  rintro _ h ⟨st, wt, ws, rfl, hws, abw, H⟩
  replace H := (H.front 1 rfl).freeze
  replace H := H.freeze
  try dsimp only [Stc.st, Stc.EL, Stc.vm, Stc.ro] at H
  clear E1
  refine call_v K (hw _ (List.mem_of_getElem? (i := 39) rfl)) (hw _ (List.mem_of_getElem? (i := 40) rfl)) (hw _ (List.mem_of_getElem? (i := 42) rfl)) (hw _ (List.mem_of_getElem? (i := 41) rfl)) (hw _ (List.mem_of_getElem? (i := 23) rfl)) (hw _ (List.mem_of_getElem? (i := 43) rfl)) (H.exa (i := 0) rfl) (ksa1 l Z a0 hw n0 _ 0 z rfl hz _ 0 1 st _ _ sb va 8 77 vs _ rfl rfl (by rw [hws]) (by rw [hl, hws]; decide) (by rw [hl]; decide) ab abw (by rw [hl]; decide) (by rw [hws]; decide) gs gv H) d1_157 rfl rfl [.ref st] [.int _, .ref _] rfl rfl pd19 rfl (fun _ q => notFace_of_selects q) (by decide) 2 (Nat.le_of_ble_eq_true rfl) (by decide) (by decide) (by decide) (by decide) ?_
  rintro _ h ⟨rfl, va, vs, gw, hl2, ab2, -, H⟩
  rw [hl] at hl2
  clear ab hl gv
  have ab := ab2
  have hl : vs.length = 77 := hl2
  have gv := gw
  clear ab2 hl2 gw
  refine h_ldcH (F := F_0) (fun b => [.ref b, .int 0]) K D (Nat.le_refl _) H rfl (hw _ (List.mem_of_getElem? (i := 191) rfl)) (satoms hw) (ewx hw) (List.mem_of_getElem? (i := 6) rfl) (vs := [.int 34, .int 125]) (z := 2) ⟨by decide, by decide⟩ (by decide) rfl fbx (fun _ => rfl) d1_160 rfl 8 (by decide) (by decide) (by decide) (by decide) ?_
  intro s nz h lg lh D K H
  try dsimp only [Stc.st, Stc.EL, Stc.vm, Stc.ro] at H
  refine call_v K (hw _ (List.mem_of_getElem? (i := 39) rfl)) (hw _ (List.mem_of_getElem? (i := 40) rfl)) (hw _ (List.mem_of_getElem? (i := 42) rfl)) (hw _ (List.mem_of_getElem? (i := 41) rfl)) (hw _ (List.mem_of_getElem? (i := 23) rfl)) (hw _ (List.mem_of_getElem? (i := 43) rfl)) (H.exa (i := 0) rfl) (ksa1 l Z a0 hw n0 _ 0 z rfl hz _ 0 1 lg _ _ sb va 77 79 vs _ rfl rfl rfl (by rw [hl]; decide) (by rw [hl]; decide) ab ab75 (by rw [hl]; decide) (by decide) gs gv H) d1_162 rfl rfl [.ref lg] [.int _, .ref _] rfl rfl pd19 rfl (fun _ q => notFace_of_selects q) (by decide) 2 (Nat.le_of_ble_eq_true rfl) (by decide) (by decide) (by decide) (by decide) ?_
  rintro _ h ⟨rfl, va, vs, gw, hl2, ab2, -, H⟩
  rw [hl] at hl2
  clear ab hl gv
  have ab := ab2
  have hl : vs.length = 156 := hl2
  have gv := gw
  clear ab2 hl2 gw
  refine call_v K (hw _ (List.mem_of_getElem? (i := 90) rfl)) (hw _ (List.mem_of_getElem? (i := 91) rfl)) (hw _ (List.mem_of_getElem? (i := 93) rfl)) (hw _ (List.mem_of_getElem? (i := 92) rfl)) (hw _ (List.mem_of_getElem? (i := 23) rfl)) (hw _ (List.mem_of_getElem? (i := 94) rfl)) (H.exa (i := 0) rfl) (kts l Z a0 hw n0 _ 0 z rfl hz _ sb va 79 vs _ (by decide) (by rw [hl]; decide) (by rw [hl]; decide) ab H) d1_165 rfl rfl [] [.int _, .ref _] rfl rfl pd20 rfl (fun _ q => notFace_of_selects q) (by decide) 2 (Nat.le_of_ble_eq_true rfl) (by decide) (by decide) (by decide) (by decide) ?_
  rintro _ h ⟨z4, wt, rfl, gst, gwt, H⟩
  clear gs gv ab hl
  refine h_st_a K H (i := 2) rfl (by decide) O (Or.inr ⟨z4, rfl, Ins.self (H.exa (i := 0) rfl)⟩) (q := 4) (by decide) rfl d1_168 rfl gpe (by decide) ?_
  intro h H
  replace H := (H.tail).tail
  replace H := H.trim [(pst, .inl ("java/lang/String", F_0), [.ref pwt, .int 0]), (pwt, .inr .byte, ps)] (by simp [Stc.ro])
  try dsimp only [Stc.st, Stc.EL, Stc.vm, Stc.ro] at H
  clear gst gwt hws abw
  refine go_ok K [(169, .iinc 9 1, 172, 1, 0), (172, .goto (-75), 97, 0, 0)] _ _ _ (by decide +kernel) rfl ?_
  refine go_ok K [(97, .iload 9, 99, 0, 0), (99, .aload_n 0, 100, 0, 0)] _ _ _ (by decide +kernel) rfl ?_
  refine h_get K H (i := 1) (j := 5) rfl rfl rfl (host := "") (Or.inl (hw _ (List.mem_of_getElem? (i := 171) rfl))) Via.refl d1_100 rfl ?_
  refine h_len K H (i := 0) rfl d1_103 rfl 11 rfl ?_
  refine icmp_ge (pc' := 175) (pn := 107) K d1_104 (by decide) (by decide) rfl (fun h104 => ?_) (fun h104 => ?_)
  · exact absurd (by decide) h104
  refine go_ok K [(107, .bipush 100, 109, 100, 0), (109, .aload_n 0, 110, 0, 0)] _ _ _ (by decide +kernel) rfl ?_
  refine h_get K H (i := 1) (j := 4) rfl rfl rfl (host := "") (Or.inl (hw _ (List.mem_of_getElem? (i := 165) rfl))) Via.refl d1_110 rfl ?_
  have E1 := (H.rd (i := 0) rfl).1
  refine call_v K (hw _ (List.mem_of_getElem? (i := 173) rfl)) (hw _ (List.mem_of_getElem? (i := 50) rfl)) (hw _ (List.mem_of_getElem? (i := 52) rfl)) (hw _ (List.mem_of_getElem? (i := 51) rfl)) (hw _ (List.mem_of_getElem? (i := 8) rfl)) (hw _ (List.mem_of_getElem? (i := 53) rfl)) E1 (kln l Z a0 hw n0 z pst _ _ _ (H.sta (i := 0) rfl) hz E1 (rd_fld H (i := 0) rfl (j := 0) rfl rfl) (rd_fld H (i := 0) rfl (j := 1) rfl rfl) (H.rd (i := 1) rfl)) d1_113 rfl rfl [] [.int _] rfl rfl pd8 rfl (fun _ q => notFace_of_selects q) (by decide) 1 (Nat.le_of_ble_eq_true rfl) (by decide) (by decide) (by decide) (by decide) ?_
  rintro _ _ ⟨rfl, rfl⟩
  clear E1
  rw [hps]
  refine go_ok K [(116, .isub, 117, 0, 0), (117, .iload 9, 119, 0, 0), (119, .isub, 120, 0, 0)] _ _ _ (by decide +kernel) rfl ?_
  refine h_ldcH (F := F_0) (fun b => [.ref b, .int 0]) K D (Nat.le_refl _) H rfl (hw _ (List.mem_of_getElem? (i := 174) rfl)) (satoms hw) (ewx hw) (List.mem_of_getElem? (i := 3) rfl) (vs := [.int 44, .int 34, .int 112, .int 97, .int 100, .int 34, .int 58, .int 34, .int 34, .int 125]) (z := 10) ⟨by decide, by decide⟩ (by decide) rfl fbx (fun _ => rfl) d1_120 rfl 40 (by decide) (by decide) (by decide) (by decide) ?_
  intro s nz h la ld D K H
  try dsimp only [Stc.st, Stc.EL, Stc.vm, Stc.ro] at H
  have E1 := (H.rd (i := 0) rfl).1
  refine call_v K (hw _ (List.mem_of_getElem? (i := 173) rfl)) (hw _ (List.mem_of_getElem? (i := 50) rfl)) (hw _ (List.mem_of_getElem? (i := 52) rfl)) (hw _ (List.mem_of_getElem? (i := 51) rfl)) (hw _ (List.mem_of_getElem? (i := 8) rfl)) (hw _ (List.mem_of_getElem? (i := 53) rfl)) E1 (kln l Z a0 hw n0 z la _ _ _ (H.sta (i := 0) rfl) hz E1 (rd_fld H (i := 0) rfl (j := 0) rfl rfl) (rd_fld H (i := 0) rfl (j := 1) rfl rfl) (H.rd (i := 1) rfl)) d1_122 rfl rfl [] [.int _] rfl rfl pd8 rfl (fun _ q => notFace_of_selects q) (by decide) 1 (Nat.le_of_ble_eq_true rfl) (by decide) (by decide) (by decide) (by decide) ?_
  rintro _ _ ⟨rfl, rfl⟩
  clear E1
  refine go_ok K [(125, .isub, 126, 0, 0), (126, .istore 10, 128, 0, 0), (128, .aload_n 0, 129, 0, 0)] _ _ _ (by decide +kernel) rfl ?_
  refine h_get K H (i := 1) (j := 5) rfl rfl rfl (host := "") (Or.inl (hw _ (List.mem_of_getElem? (i := 171) rfl))) Via.refl d1_129 rfl ?_
  refine go_ok K [(132, .iload 9, 134, 0, 0)] _ _ _ (by decide +kernel) rfl ?_
  refine h_new K H F_1 [.null, .int 0, .int 0] (lay_1 hw) (by decide +kernel) (hw _ (List.mem_of_getElem? (i := 21) rfl)) (hw _ (List.mem_of_getElem? (i := 22) rfl)) (hw _ (List.mem_of_getElem? (i := 23) rfl)) d1_134 rfl (by decide) (by decide) ?_
  intro h sb gs H
  refine go_ok K [(137, .dup, 138, 0, 0)] _ _ _ (by decide +kernel) rfl ?_
  refine call_i K rfl (hw _ (List.mem_of_getElem? (i := 24) rfl)) (hw _ (List.mem_of_getElem? (i := 25) rfl)) (hw _ (List.mem_of_getElem? (i := 23) rfl)) (hw _ (List.mem_of_getElem? (i := 26) rfl)) (ksi l Z a0 hw n0 _ 0 z rfl hz _ sb _ gs H) d1_138 rfl rfl [] [.ref _, .int _, .ref _] rfl rfl pd18 rfl (by decide) 3 (Nat.le_of_ble_eq_true rfl) (by decide) (by decide) (by decide) (by decide) ?_
  rintro _ h ⟨rfl, va, gv, H⟩
  have ab := AB.rep 16
  have hl : (List.replicate 16 (Value.int 0)).length = 16 := rfl
  obtain ⟨vs, evs⟩ : ∃ vs : List Value, List.replicate 16 (Value.int 0) = vs := ⟨_, rfl⟩
  rw [evs] at H ab hl
  clear evs
  refine h_ldcH (F := F_0) (fun b => [.ref b, .int 0]) K D (Nat.le_refl _) H rfl (hw _ (List.mem_of_getElem? (i := 175) rfl)) (satoms hw) (ewx hw) (List.mem_of_getElem? (i := 4) rfl) (vs := [.int 44, .int 34, .int 112, .int 97, .int 100, .int 34, .int 58, .int 34]) (z := 8) ⟨by decide, by decide⟩ (by decide) rfl fbx (fun _ => rfl) d1_141 rfl 32 (by decide) (by decide) (by decide) (by decide) ?_
  intro s nz h lb le D K H
  try dsimp only [Stc.st, Stc.EL, Stc.vm, Stc.ro] at H
  refine call_v K (hw _ (List.mem_of_getElem? (i := 39) rfl)) (hw _ (List.mem_of_getElem? (i := 40) rfl)) (hw _ (List.mem_of_getElem? (i := 42) rfl)) (hw _ (List.mem_of_getElem? (i := 41) rfl)) (hw _ (List.mem_of_getElem? (i := 23) rfl)) (hw _ (List.mem_of_getElem? (i := 43) rfl)) (H.exa (i := 0) rfl) (ksa0 l Z a0 hw n0 _ 0 z rfl hz _ 0 1 lb _ _ sb va 0 8 vs _ rfl rfl rfl (by rw [hl]; decide) ab ab61 (by rw [hl]; decide) (by decide) gs gv H) d1_143 rfl rfl [.ref lb] [.int _, .ref _] rfl rfl pd19 rfl (fun _ q => notFace_of_selects q) (by decide) 2 (Nat.le_of_ble_eq_true rfl) (by decide) (by decide) (by decide) (by decide) ?_
  rintro _ h ⟨rfl, vs, hl2, ab2, -, H⟩
  rw [hl] at hl2
  clear ab hl
  have ab := ab2
  have hl := hl2
  clear ab2 hl2
  refine h_ldcH (F := F_0) (fun b => [.ref b, .int 0]) K D (Nat.le_refl _) H rfl (hw _ (List.mem_of_getElem? (i := 176) rfl)) (satoms hw) (ewx hw) (List.mem_of_getElem? (i := 5) rfl) (vs := [.int 46]) (z := 1) ⟨by decide, by decide⟩ (by decide) rfl fbx (fun _ => rfl) d1_146 rfl 4 (by decide) (by decide) (by decide) (by decide) ?_
  intro s nz h lc lf D K H
  try dsimp only [Stc.st, Stc.EL, Stc.vm, Stc.ro] at H
  refine go_ok K [(148, .iconst 0, 149, 0, 0), (149, .iload 10, 151, 0, 0)] _ _ _ (by decide +kernel) rfl ?_
  refine call_s K (hw _ (List.mem_of_getElem? (i := 177) rfl)) (hw _ (List.mem_of_getElem? (i := 158) rfl)) (hw _ (List.mem_of_getElem? (i := 134) rfl)) (hw _ (List.mem_of_getElem? (i := 159) rfl)) (kma l Z a0 hw n0 _ _ 0 68 _ rfl (by decide) (by decide) (by decide)) d1_151 rfl rfl [.int _, .int _] [.ref _, .ref _, .int _, .ref _] rfl rfl pd2 rfl (by decide) 4 (Nat.le_of_ble_eq_true rfl) (by decide) (by decide) (by decide) (by decide) ?_
  rintro _ _ ⟨rfl, rfl⟩
  have E1 := (H.rd (i := 0) rfl).1
  refine call_v K (hw _ (List.mem_of_getElem? (i := 178) rfl)) (hw _ (List.mem_of_getElem? (i := 179) rfl)) (hw _ (List.mem_of_getElem? (i := 181) rfl)) (hw _ (List.mem_of_getElem? (i := 180) rfl)) (hw _ (List.mem_of_getElem? (i := 8) rfl)) (hw _ (List.mem_of_getElem? (i := 182) rfl)) E1 (krp l Z a0 hw n0 _ _ 0 1 lc lf 46 _ 68 _ rfl rfl (by decide) (by decide) (by decide) H) d1_154 rfl rfl [.int _] [.ref _, .int _, .ref _] rfl rfl pd21 rfl (fun _ q => notFace_of_selects q) (by decide) 3 (Nat.le_of_ble_eq_true rfl) (by decide) (by decide) (by decide) (by decide) ?_
  rintro _ h ⟨st, wt, ws, rfl, hws, abw, H⟩
  replace H := (H.front 1 rfl).freeze
  replace H := H.freeze
  try dsimp only [Stc.st, Stc.EL, Stc.vm, Stc.ro] at H
  clear E1
  refine call_v K (hw _ (List.mem_of_getElem? (i := 39) rfl)) (hw _ (List.mem_of_getElem? (i := 40) rfl)) (hw _ (List.mem_of_getElem? (i := 42) rfl)) (hw _ (List.mem_of_getElem? (i := 41) rfl)) (hw _ (List.mem_of_getElem? (i := 23) rfl)) (hw _ (List.mem_of_getElem? (i := 43) rfl)) (H.exa (i := 0) rfl) (ksa1 l Z a0 hw n0 _ 0 z rfl hz _ 0 1 st _ _ sb va 8 76 vs _ rfl rfl (by rw [hws]) (by rw [hl, hws]; decide) (by rw [hl]; decide) ab abw (by rw [hl]; decide) (by rw [hws]; decide) gs gv H) d1_157 rfl rfl [.ref st] [.int _, .ref _] rfl rfl pd19 rfl (fun _ q => notFace_of_selects q) (by decide) 2 (Nat.le_of_ble_eq_true rfl) (by decide) (by decide) (by decide) (by decide) ?_
  rintro _ h ⟨rfl, va, vs, gw, hl2, ab2, -, H⟩
  rw [hl] at hl2
  clear ab hl gv
  have ab := ab2
  have hl : vs.length = 76 := hl2
  have gv := gw
  clear ab2 hl2 gw
  refine h_ldcH (F := F_0) (fun b => [.ref b, .int 0]) K D (Nat.le_refl _) H rfl (hw _ (List.mem_of_getElem? (i := 191) rfl)) (satoms hw) (ewx hw) (List.mem_of_getElem? (i := 6) rfl) (vs := [.int 34, .int 125]) (z := 2) ⟨by decide, by decide⟩ (by decide) rfl fbx (fun _ => rfl) d1_160 rfl 8 (by decide) (by decide) (by decide) (by decide) ?_
  intro s nz h lg lh D K H
  try dsimp only [Stc.st, Stc.EL, Stc.vm, Stc.ro] at H
  refine call_v K (hw _ (List.mem_of_getElem? (i := 39) rfl)) (hw _ (List.mem_of_getElem? (i := 40) rfl)) (hw _ (List.mem_of_getElem? (i := 42) rfl)) (hw _ (List.mem_of_getElem? (i := 41) rfl)) (hw _ (List.mem_of_getElem? (i := 23) rfl)) (hw _ (List.mem_of_getElem? (i := 43) rfl)) (H.exa (i := 0) rfl) (ksa1 l Z a0 hw n0 _ 0 z rfl hz _ 0 1 lg _ _ sb va 76 78 vs _ rfl rfl rfl (by rw [hl]; decide) (by rw [hl]; decide) ab ab75 (by rw [hl]; decide) (by decide) gs gv H) d1_162 rfl rfl [.ref lg] [.int _, .ref _] rfl rfl pd19 rfl (fun _ q => notFace_of_selects q) (by decide) 2 (Nat.le_of_ble_eq_true rfl) (by decide) (by decide) (by decide) (by decide) ?_
  rintro _ h ⟨rfl, va, vs, gw, hl2, ab2, -, H⟩
  rw [hl] at hl2
  clear ab hl gv
  have ab := ab2
  have hl : vs.length = 154 := hl2
  have gv := gw
  clear ab2 hl2 gw
  refine call_v K (hw _ (List.mem_of_getElem? (i := 90) rfl)) (hw _ (List.mem_of_getElem? (i := 91) rfl)) (hw _ (List.mem_of_getElem? (i := 93) rfl)) (hw _ (List.mem_of_getElem? (i := 92) rfl)) (hw _ (List.mem_of_getElem? (i := 23) rfl)) (hw _ (List.mem_of_getElem? (i := 94) rfl)) (H.exa (i := 0) rfl) (kts l Z a0 hw n0 _ 0 z rfl hz _ sb va 78 vs _ (by decide) (by rw [hl]; decide) (by rw [hl]; decide) ab H) d1_165 rfl rfl [] [.int _, .ref _] rfl rfl pd20 rfl (fun _ q => notFace_of_selects q) (by decide) 2 (Nat.le_of_ble_eq_true rfl) (by decide) (by decide) (by decide) (by decide) ?_
  rintro _ h ⟨z5, wt, rfl, gst, gwt, H⟩
  clear gs gv ab hl
  refine h_st_a K H (i := 2) rfl (by decide) O (Or.inr ⟨z5, rfl, Ins.self (H.exa (i := 0) rfl)⟩) (q := 5) (by decide) rfl d1_168 rfl gpe (by decide) ?_
  intro h H
  replace H := (H.tail).tail
  replace H := H.trim [(pst, .inl ("java/lang/String", F_0), [.ref pwt, .int 0]), (pwt, .inr .byte, ps)] (by simp [Stc.ro])
  try dsimp only [Stc.st, Stc.EL, Stc.vm, Stc.ro] at H
  clear gst gwt hws abw
  refine go_ok K [(169, .iinc 9 1, 172, 1, 0), (172, .goto (-75), 97, 0, 0)] _ _ _ (by decide +kernel) rfl ?_
  refine go_ok K [(97, .iload 9, 99, 0, 0), (99, .aload_n 0, 100, 0, 0)] _ _ _ (by decide +kernel) rfl ?_
  refine h_get K H (i := 1) (j := 5) rfl rfl rfl (host := "") (Or.inl (hw _ (List.mem_of_getElem? (i := 171) rfl))) Via.refl d1_100 rfl ?_
  refine h_len K H (i := 0) rfl d1_103 rfl 11 rfl ?_
  refine icmp_ge (pc' := 175) (pn := 107) K d1_104 (by decide) (by decide) rfl (fun h104 => ?_) (fun h104 => ?_)
  · exact absurd (by decide) h104
  refine go_ok K [(107, .bipush 100, 109, 100, 0), (109, .aload_n 0, 110, 0, 0)] _ _ _ (by decide +kernel) rfl ?_
  refine h_get K H (i := 1) (j := 4) rfl rfl rfl (host := "") (Or.inl (hw _ (List.mem_of_getElem? (i := 165) rfl))) Via.refl d1_110 rfl ?_
  have E1 := (H.rd (i := 0) rfl).1
  refine call_v K (hw _ (List.mem_of_getElem? (i := 173) rfl)) (hw _ (List.mem_of_getElem? (i := 50) rfl)) (hw _ (List.mem_of_getElem? (i := 52) rfl)) (hw _ (List.mem_of_getElem? (i := 51) rfl)) (hw _ (List.mem_of_getElem? (i := 8) rfl)) (hw _ (List.mem_of_getElem? (i := 53) rfl)) E1 (kln l Z a0 hw n0 z pst _ _ _ (H.sta (i := 0) rfl) hz E1 (rd_fld H (i := 0) rfl (j := 0) rfl rfl) (rd_fld H (i := 0) rfl (j := 1) rfl rfl) (H.rd (i := 1) rfl)) d1_113 rfl rfl [] [.int _] rfl rfl pd8 rfl (fun _ q => notFace_of_selects q) (by decide) 1 (Nat.le_of_ble_eq_true rfl) (by decide) (by decide) (by decide) (by decide) ?_
  rintro _ _ ⟨rfl, rfl⟩
  clear E1
  rw [hps]
  refine go_ok K [(116, .isub, 117, 0, 0), (117, .iload 9, 119, 0, 0), (119, .isub, 120, 0, 0)] _ _ _ (by decide +kernel) rfl ?_
  refine h_ldcH (F := F_0) (fun b => [.ref b, .int 0]) K D (Nat.le_refl _) H rfl (hw _ (List.mem_of_getElem? (i := 174) rfl)) (satoms hw) (ewx hw) (List.mem_of_getElem? (i := 3) rfl) (vs := [.int 44, .int 34, .int 112, .int 97, .int 100, .int 34, .int 58, .int 34, .int 34, .int 125]) (z := 10) ⟨by decide, by decide⟩ (by decide) rfl fbx (fun _ => rfl) d1_120 rfl 40 (by decide) (by decide) (by decide) (by decide) ?_
  intro s nz h la ld D K H
  try dsimp only [Stc.st, Stc.EL, Stc.vm, Stc.ro] at H
  have E1 := (H.rd (i := 0) rfl).1
  refine call_v K (hw _ (List.mem_of_getElem? (i := 173) rfl)) (hw _ (List.mem_of_getElem? (i := 50) rfl)) (hw _ (List.mem_of_getElem? (i := 52) rfl)) (hw _ (List.mem_of_getElem? (i := 51) rfl)) (hw _ (List.mem_of_getElem? (i := 8) rfl)) (hw _ (List.mem_of_getElem? (i := 53) rfl)) E1 (kln l Z a0 hw n0 z la _ _ _ (H.sta (i := 0) rfl) hz E1 (rd_fld H (i := 0) rfl (j := 0) rfl rfl) (rd_fld H (i := 0) rfl (j := 1) rfl rfl) (H.rd (i := 1) rfl)) d1_122 rfl rfl [] [.int _] rfl rfl pd8 rfl (fun _ q => notFace_of_selects q) (by decide) 1 (Nat.le_of_ble_eq_true rfl) (by decide) (by decide) (by decide) (by decide) ?_
  rintro _ _ ⟨rfl, rfl⟩
  clear E1
  refine go_ok K [(125, .isub, 126, 0, 0), (126, .istore 10, 128, 0, 0), (128, .aload_n 0, 129, 0, 0)] _ _ _ (by decide +kernel) rfl ?_
  refine h_get K H (i := 1) (j := 5) rfl rfl rfl (host := "") (Or.inl (hw _ (List.mem_of_getElem? (i := 171) rfl))) Via.refl d1_129 rfl ?_
  refine go_ok K [(132, .iload 9, 134, 0, 0)] _ _ _ (by decide +kernel) rfl ?_
  refine h_new K H F_1 [.null, .int 0, .int 0] (lay_1 hw) (by decide +kernel) (hw _ (List.mem_of_getElem? (i := 21) rfl)) (hw _ (List.mem_of_getElem? (i := 22) rfl)) (hw _ (List.mem_of_getElem? (i := 23) rfl)) d1_134 rfl (by decide) (by decide) ?_
  intro h sb gs H
  refine go_ok K [(137, .dup, 138, 0, 0)] _ _ _ (by decide +kernel) rfl ?_
  refine call_i K rfl (hw _ (List.mem_of_getElem? (i := 24) rfl)) (hw _ (List.mem_of_getElem? (i := 25) rfl)) (hw _ (List.mem_of_getElem? (i := 23) rfl)) (hw _ (List.mem_of_getElem? (i := 26) rfl)) (ksi l Z a0 hw n0 _ 0 z rfl hz _ sb _ gs H) d1_138 rfl rfl [] [.ref _, .int _, .ref _] rfl rfl pd18 rfl (by decide) 3 (Nat.le_of_ble_eq_true rfl) (by decide) (by decide) (by decide) (by decide) ?_
  rintro _ h ⟨rfl, va, gv, H⟩
  have ab := AB.rep 16
  have hl : (List.replicate 16 (Value.int 0)).length = 16 := rfl
  obtain ⟨vs, evs⟩ : ∃ vs : List Value, List.replicate 16 (Value.int 0) = vs := ⟨_, rfl⟩
  rw [evs] at H ab hl
  clear evs
  refine h_ldcH (F := F_0) (fun b => [.ref b, .int 0]) K D (Nat.le_refl _) H rfl (hw _ (List.mem_of_getElem? (i := 175) rfl)) (satoms hw) (ewx hw) (List.mem_of_getElem? (i := 4) rfl) (vs := [.int 44, .int 34, .int 112, .int 97, .int 100, .int 34, .int 58, .int 34]) (z := 8) ⟨by decide, by decide⟩ (by decide) rfl fbx (fun _ => rfl) d1_141 rfl 32 (by decide) (by decide) (by decide) (by decide) ?_
  intro s nz h lb le D K H
  try dsimp only [Stc.st, Stc.EL, Stc.vm, Stc.ro] at H
  refine call_v K (hw _ (List.mem_of_getElem? (i := 39) rfl)) (hw _ (List.mem_of_getElem? (i := 40) rfl)) (hw _ (List.mem_of_getElem? (i := 42) rfl)) (hw _ (List.mem_of_getElem? (i := 41) rfl)) (hw _ (List.mem_of_getElem? (i := 23) rfl)) (hw _ (List.mem_of_getElem? (i := 43) rfl)) (H.exa (i := 0) rfl) (ksa0 l Z a0 hw n0 _ 0 z rfl hz _ 0 1 lb _ _ sb va 0 8 vs _ rfl rfl rfl (by rw [hl]; decide) ab ab61 (by rw [hl]; decide) (by decide) gs gv H) d1_143 rfl rfl [.ref lb] [.int _, .ref _] rfl rfl pd19 rfl (fun _ q => notFace_of_selects q) (by decide) 2 (Nat.le_of_ble_eq_true rfl) (by decide) (by decide) (by decide) (by decide) ?_
  rintro _ h ⟨rfl, vs, hl2, ab2, -, H⟩
  rw [hl] at hl2
  clear ab hl
  have ab := ab2
  have hl := hl2
  clear ab2 hl2
  refine h_ldcH (F := F_0) (fun b => [.ref b, .int 0]) K D (Nat.le_refl _) H rfl (hw _ (List.mem_of_getElem? (i := 176) rfl)) (satoms hw) (ewx hw) (List.mem_of_getElem? (i := 5) rfl) (vs := [.int 46]) (z := 1) ⟨by decide, by decide⟩ (by decide) rfl fbx (fun _ => rfl) d1_146 rfl 4 (by decide) (by decide) (by decide) (by decide) ?_
  intro s nz h lc lf D K H
  try dsimp only [Stc.st, Stc.EL, Stc.vm, Stc.ro] at H
  refine go_ok K [(148, .iconst 0, 149, 0, 0), (149, .iload 10, 151, 0, 0)] _ _ _ (by decide +kernel) rfl ?_
  refine call_s K (hw _ (List.mem_of_getElem? (i := 177) rfl)) (hw _ (List.mem_of_getElem? (i := 158) rfl)) (hw _ (List.mem_of_getElem? (i := 134) rfl)) (hw _ (List.mem_of_getElem? (i := 159) rfl)) (kma l Z a0 hw n0 _ _ 0 67 _ rfl (by decide) (by decide) (by decide)) d1_151 rfl rfl [.int _, .int _] [.ref _, .ref _, .int _, .ref _] rfl rfl pd2 rfl (by decide) 4 (Nat.le_of_ble_eq_true rfl) (by decide) (by decide) (by decide) (by decide) ?_
  rintro _ _ ⟨rfl, rfl⟩
  have E1 := (H.rd (i := 0) rfl).1
  refine call_v K (hw _ (List.mem_of_getElem? (i := 178) rfl)) (hw _ (List.mem_of_getElem? (i := 179) rfl)) (hw _ (List.mem_of_getElem? (i := 181) rfl)) (hw _ (List.mem_of_getElem? (i := 180) rfl)) (hw _ (List.mem_of_getElem? (i := 8) rfl)) (hw _ (List.mem_of_getElem? (i := 182) rfl)) E1 (krp l Z a0 hw n0 _ _ 0 1 lc lf 46 _ 67 _ rfl rfl (by decide) (by decide) (by decide) H) d1_154 rfl rfl [.int _] [.ref _, .int _, .ref _] rfl rfl pd21 rfl (fun _ q => notFace_of_selects q) (by decide) 3 (Nat.le_of_ble_eq_true rfl) (by decide) (by decide) (by decide) (by decide) ?_
  rintro _ h ⟨st, wt, ws, rfl, hws, abw, H⟩
  replace H := (H.front 1 rfl).freeze
  replace H := H.freeze
  try dsimp only [Stc.st, Stc.EL, Stc.vm, Stc.ro] at H
  clear E1
  refine call_v K (hw _ (List.mem_of_getElem? (i := 39) rfl)) (hw _ (List.mem_of_getElem? (i := 40) rfl)) (hw _ (List.mem_of_getElem? (i := 42) rfl)) (hw _ (List.mem_of_getElem? (i := 41) rfl)) (hw _ (List.mem_of_getElem? (i := 23) rfl)) (hw _ (List.mem_of_getElem? (i := 43) rfl)) (H.exa (i := 0) rfl) (ksa1 l Z a0 hw n0 _ 0 z rfl hz _ 0 1 st _ _ sb va 8 75 vs _ rfl rfl (by rw [hws]) (by rw [hl, hws]; decide) (by rw [hl]; decide) ab abw (by rw [hl]; decide) (by rw [hws]; decide) gs gv H) d1_157 rfl rfl [.ref st] [.int _, .ref _] rfl rfl pd19 rfl (fun _ q => notFace_of_selects q) (by decide) 2 (Nat.le_of_ble_eq_true rfl) (by decide) (by decide) (by decide) (by decide) ?_
  rintro _ h ⟨rfl, va, vs, gw, hl2, ab2, -, H⟩
  rw [hl] at hl2
  clear ab hl gv
  have ab := ab2
  have hl : vs.length = 75 := hl2
  have gv := gw
  clear ab2 hl2 gw
  refine h_ldcH (F := F_0) (fun b => [.ref b, .int 0]) K D (Nat.le_refl _) H rfl (hw _ (List.mem_of_getElem? (i := 191) rfl)) (satoms hw) (ewx hw) (List.mem_of_getElem? (i := 6) rfl) (vs := [.int 34, .int 125]) (z := 2) ⟨by decide, by decide⟩ (by decide) rfl fbx (fun _ => rfl) d1_160 rfl 8 (by decide) (by decide) (by decide) (by decide) ?_
  intro s nz h lg lh D K H
  try dsimp only [Stc.st, Stc.EL, Stc.vm, Stc.ro] at H
  refine call_v K (hw _ (List.mem_of_getElem? (i := 39) rfl)) (hw _ (List.mem_of_getElem? (i := 40) rfl)) (hw _ (List.mem_of_getElem? (i := 42) rfl)) (hw _ (List.mem_of_getElem? (i := 41) rfl)) (hw _ (List.mem_of_getElem? (i := 23) rfl)) (hw _ (List.mem_of_getElem? (i := 43) rfl)) (H.exa (i := 0) rfl) (ksa1 l Z a0 hw n0 _ 0 z rfl hz _ 0 1 lg _ _ sb va 75 77 vs _ rfl rfl rfl (by rw [hl]; decide) (by rw [hl]; decide) ab ab75 (by rw [hl]; decide) (by decide) gs gv H) d1_162 rfl rfl [.ref lg] [.int _, .ref _] rfl rfl pd19 rfl (fun _ q => notFace_of_selects q) (by decide) 2 (Nat.le_of_ble_eq_true rfl) (by decide) (by decide) (by decide) (by decide) ?_
  rintro _ h ⟨rfl, va, vs, gw, hl2, ab2, -, H⟩
  rw [hl] at hl2
  clear ab hl gv
  have ab := ab2
  have hl : vs.length = 152 := hl2
  have gv := gw
  clear ab2 hl2 gw
  refine call_v K (hw _ (List.mem_of_getElem? (i := 90) rfl)) (hw _ (List.mem_of_getElem? (i := 91) rfl)) (hw _ (List.mem_of_getElem? (i := 93) rfl)) (hw _ (List.mem_of_getElem? (i := 92) rfl)) (hw _ (List.mem_of_getElem? (i := 23) rfl)) (hw _ (List.mem_of_getElem? (i := 94) rfl)) (H.exa (i := 0) rfl) (kts l Z a0 hw n0 _ 0 z rfl hz _ sb va 77 vs _ (by decide) (by rw [hl]; decide) (by rw [hl]; decide) ab H) d1_165 rfl rfl [] [.int _, .ref _] rfl rfl pd20 rfl (fun _ q => notFace_of_selects q) (by decide) 2 (Nat.le_of_ble_eq_true rfl) (by decide) (by decide) (by decide) (by decide) ?_
  rintro _ h ⟨z6, wt, rfl, gst, gwt, H⟩
  clear gs gv ab hl
  refine h_st_a K H (i := 2) rfl (by decide) O (Or.inr ⟨z6, rfl, Ins.self (H.exa (i := 0) rfl)⟩) (q := 6) (by decide) rfl d1_168 rfl gpe (by decide) ?_
  intro h H
  replace H := (H.tail).tail
  replace H := H.trim [(pst, .inl ("java/lang/String", F_0), [.ref pwt, .int 0]), (pwt, .inr .byte, ps)] (by simp [Stc.ro])
  try dsimp only [Stc.st, Stc.EL, Stc.vm, Stc.ro] at H
  clear gst gwt hws abw
  refine go_ok K [(169, .iinc 9 1, 172, 1, 0), (172, .goto (-75), 97, 0, 0)] _ _ _ (by decide +kernel) rfl ?_
  refine go_ok K [(97, .iload 9, 99, 0, 0), (99, .aload_n 0, 100, 0, 0)] _ _ _ (by decide +kernel) rfl ?_
  refine h_get K H (i := 1) (j := 5) rfl rfl rfl (host := "") (Or.inl (hw _ (List.mem_of_getElem? (i := 171) rfl))) Via.refl d1_100 rfl ?_
  refine h_len K H (i := 0) rfl d1_103 rfl 11 rfl ?_
  refine icmp_ge (pc' := 175) (pn := 107) K d1_104 (by decide) (by decide) rfl (fun h104 => ?_) (fun h104 => ?_)
  · exact absurd (by decide) h104
  refine go_ok K [(107, .bipush 100, 109, 100, 0), (109, .aload_n 0, 110, 0, 0)] _ _ _ (by decide +kernel) rfl ?_
  refine h_get K H (i := 1) (j := 4) rfl rfl rfl (host := "") (Or.inl (hw _ (List.mem_of_getElem? (i := 165) rfl))) Via.refl d1_110 rfl ?_
  have E1 := (H.rd (i := 0) rfl).1
  refine call_v K (hw _ (List.mem_of_getElem? (i := 173) rfl)) (hw _ (List.mem_of_getElem? (i := 50) rfl)) (hw _ (List.mem_of_getElem? (i := 52) rfl)) (hw _ (List.mem_of_getElem? (i := 51) rfl)) (hw _ (List.mem_of_getElem? (i := 8) rfl)) (hw _ (List.mem_of_getElem? (i := 53) rfl)) E1 (kln l Z a0 hw n0 z pst _ _ _ (H.sta (i := 0) rfl) hz E1 (rd_fld H (i := 0) rfl (j := 0) rfl rfl) (rd_fld H (i := 0) rfl (j := 1) rfl rfl) (H.rd (i := 1) rfl)) d1_113 rfl rfl [] [.int _] rfl rfl pd8 rfl (fun _ q => notFace_of_selects q) (by decide) 1 (Nat.le_of_ble_eq_true rfl) (by decide) (by decide) (by decide) (by decide) ?_
  rintro _ _ ⟨rfl, rfl⟩
  clear E1
  rw [hps]
  refine go_ok K [(116, .isub, 117, 0, 0), (117, .iload 9, 119, 0, 0), (119, .isub, 120, 0, 0)] _ _ _ (by decide +kernel) rfl ?_
  refine h_ldcH (F := F_0) (fun b => [.ref b, .int 0]) K D (Nat.le_refl _) H rfl (hw _ (List.mem_of_getElem? (i := 174) rfl)) (satoms hw) (ewx hw) (List.mem_of_getElem? (i := 3) rfl) (vs := [.int 44, .int 34, .int 112, .int 97, .int 100, .int 34, .int 58, .int 34, .int 34, .int 125]) (z := 10) ⟨by decide, by decide⟩ (by decide) rfl fbx (fun _ => rfl) d1_120 rfl 40 (by decide) (by decide) (by decide) (by decide) ?_
  intro s nz h la ld D K H
  try dsimp only [Stc.st, Stc.EL, Stc.vm, Stc.ro] at H
  have E1 := (H.rd (i := 0) rfl).1
  refine call_v K (hw _ (List.mem_of_getElem? (i := 173) rfl)) (hw _ (List.mem_of_getElem? (i := 50) rfl)) (hw _ (List.mem_of_getElem? (i := 52) rfl)) (hw _ (List.mem_of_getElem? (i := 51) rfl)) (hw _ (List.mem_of_getElem? (i := 8) rfl)) (hw _ (List.mem_of_getElem? (i := 53) rfl)) E1 (kln l Z a0 hw n0 z la _ _ _ (H.sta (i := 0) rfl) hz E1 (rd_fld H (i := 0) rfl (j := 0) rfl rfl) (rd_fld H (i := 0) rfl (j := 1) rfl rfl) (H.rd (i := 1) rfl)) d1_122 rfl rfl [] [.int _] rfl rfl pd8 rfl (fun _ q => notFace_of_selects q) (by decide) 1 (Nat.le_of_ble_eq_true rfl) (by decide) (by decide) (by decide) (by decide) ?_
  rintro _ _ ⟨rfl, rfl⟩
  clear E1
  refine go_ok K [(125, .isub, 126, 0, 0), (126, .istore 10, 128, 0, 0), (128, .aload_n 0, 129, 0, 0)] _ _ _ (by decide +kernel) rfl ?_
  refine h_get K H (i := 1) (j := 5) rfl rfl rfl (host := "") (Or.inl (hw _ (List.mem_of_getElem? (i := 171) rfl))) Via.refl d1_129 rfl ?_
  refine go_ok K [(132, .iload 9, 134, 0, 0)] _ _ _ (by decide +kernel) rfl ?_
  refine h_new K H F_1 [.null, .int 0, .int 0] (lay_1 hw) (by decide +kernel) (hw _ (List.mem_of_getElem? (i := 21) rfl)) (hw _ (List.mem_of_getElem? (i := 22) rfl)) (hw _ (List.mem_of_getElem? (i := 23) rfl)) d1_134 rfl (by decide) (by decide) ?_
  intro h sb gs H
  refine go_ok K [(137, .dup, 138, 0, 0)] _ _ _ (by decide +kernel) rfl ?_
  refine call_i K rfl (hw _ (List.mem_of_getElem? (i := 24) rfl)) (hw _ (List.mem_of_getElem? (i := 25) rfl)) (hw _ (List.mem_of_getElem? (i := 23) rfl)) (hw _ (List.mem_of_getElem? (i := 26) rfl)) (ksi l Z a0 hw n0 _ 0 z rfl hz _ sb _ gs H) d1_138 rfl rfl [] [.ref _, .int _, .ref _] rfl rfl pd18 rfl (by decide) 3 (Nat.le_of_ble_eq_true rfl) (by decide) (by decide) (by decide) (by decide) ?_
  rintro _ h ⟨rfl, va, gv, H⟩
  have ab := AB.rep 16
  have hl : (List.replicate 16 (Value.int 0)).length = 16 := rfl
  obtain ⟨vs, evs⟩ : ∃ vs : List Value, List.replicate 16 (Value.int 0) = vs := ⟨_, rfl⟩
  rw [evs] at H ab hl
  clear evs
  refine h_ldcH (F := F_0) (fun b => [.ref b, .int 0]) K D (Nat.le_refl _) H rfl (hw _ (List.mem_of_getElem? (i := 175) rfl)) (satoms hw) (ewx hw) (List.mem_of_getElem? (i := 4) rfl) (vs := [.int 44, .int 34, .int 112, .int 97, .int 100, .int 34, .int 58, .int 34]) (z := 8) ⟨by decide, by decide⟩ (by decide) rfl fbx (fun _ => rfl) d1_141 rfl 32 (by decide) (by decide) (by decide) (by decide) ?_
  intro s nz h lb le D K H
  try dsimp only [Stc.st, Stc.EL, Stc.vm, Stc.ro] at H
  refine call_v K (hw _ (List.mem_of_getElem? (i := 39) rfl)) (hw _ (List.mem_of_getElem? (i := 40) rfl)) (hw _ (List.mem_of_getElem? (i := 42) rfl)) (hw _ (List.mem_of_getElem? (i := 41) rfl)) (hw _ (List.mem_of_getElem? (i := 23) rfl)) (hw _ (List.mem_of_getElem? (i := 43) rfl)) (H.exa (i := 0) rfl) (ksa0 l Z a0 hw n0 _ 0 z rfl hz _ 0 1 lb _ _ sb va 0 8 vs _ rfl rfl rfl (by rw [hl]; decide) ab ab61 (by rw [hl]; decide) (by decide) gs gv H) d1_143 rfl rfl [.ref lb] [.int _, .ref _] rfl rfl pd19 rfl (fun _ q => notFace_of_selects q) (by decide) 2 (Nat.le_of_ble_eq_true rfl) (by decide) (by decide) (by decide) (by decide) ?_
  rintro _ h ⟨rfl, vs, hl2, ab2, -, H⟩
  rw [hl] at hl2
  clear ab hl
  have ab := ab2
  have hl := hl2
  clear ab2 hl2
  refine h_ldcH (F := F_0) (fun b => [.ref b, .int 0]) K D (Nat.le_refl _) H rfl (hw _ (List.mem_of_getElem? (i := 176) rfl)) (satoms hw) (ewx hw) (List.mem_of_getElem? (i := 5) rfl) (vs := [.int 46]) (z := 1) ⟨by decide, by decide⟩ (by decide) rfl fbx (fun _ => rfl) d1_146 rfl 4 (by decide) (by decide) (by decide) (by decide) ?_
  intro s nz h lc lf D K H
  try dsimp only [Stc.st, Stc.EL, Stc.vm, Stc.ro] at H
  refine go_ok K [(148, .iconst 0, 149, 0, 0), (149, .iload 10, 151, 0, 0)] _ _ _ (by decide +kernel) rfl ?_
  refine call_s K (hw _ (List.mem_of_getElem? (i := 177) rfl)) (hw _ (List.mem_of_getElem? (i := 158) rfl)) (hw _ (List.mem_of_getElem? (i := 134) rfl)) (hw _ (List.mem_of_getElem? (i := 159) rfl)) (kma l Z a0 hw n0 _ _ 0 66 _ rfl (by decide) (by decide) (by decide)) d1_151 rfl rfl [.int _, .int _] [.ref _, .ref _, .int _, .ref _] rfl rfl pd2 rfl (by decide) 4 (Nat.le_of_ble_eq_true rfl) (by decide) (by decide) (by decide) (by decide) ?_
  rintro _ _ ⟨rfl, rfl⟩
  have E1 := (H.rd (i := 0) rfl).1
  refine call_v K (hw _ (List.mem_of_getElem? (i := 178) rfl)) (hw _ (List.mem_of_getElem? (i := 179) rfl)) (hw _ (List.mem_of_getElem? (i := 181) rfl)) (hw _ (List.mem_of_getElem? (i := 180) rfl)) (hw _ (List.mem_of_getElem? (i := 8) rfl)) (hw _ (List.mem_of_getElem? (i := 182) rfl)) E1 (krp l Z a0 hw n0 _ _ 0 1 lc lf 46 _ 66 _ rfl rfl (by decide) (by decide) (by decide) H) d1_154 rfl rfl [.int _] [.ref _, .int _, .ref _] rfl rfl pd21 rfl (fun _ q => notFace_of_selects q) (by decide) 3 (Nat.le_of_ble_eq_true rfl) (by decide) (by decide) (by decide) (by decide) ?_
  rintro _ h ⟨st, wt, ws, rfl, hws, abw, H⟩
  replace H := (H.front 1 rfl).freeze
  replace H := H.freeze
  try dsimp only [Stc.st, Stc.EL, Stc.vm, Stc.ro] at H
  clear E1
  refine call_v K (hw _ (List.mem_of_getElem? (i := 39) rfl)) (hw _ (List.mem_of_getElem? (i := 40) rfl)) (hw _ (List.mem_of_getElem? (i := 42) rfl)) (hw _ (List.mem_of_getElem? (i := 41) rfl)) (hw _ (List.mem_of_getElem? (i := 23) rfl)) (hw _ (List.mem_of_getElem? (i := 43) rfl)) (H.exa (i := 0) rfl) (ksa1 l Z a0 hw n0 _ 0 z rfl hz _ 0 1 st _ _ sb va 8 74 vs _ rfl rfl (by rw [hws]) (by rw [hl, hws]; decide) (by rw [hl]; decide) ab abw (by rw [hl]; decide) (by rw [hws]; decide) gs gv H) d1_157 rfl rfl [.ref st] [.int _, .ref _] rfl rfl pd19 rfl (fun _ q => notFace_of_selects q) (by decide) 2 (Nat.le_of_ble_eq_true rfl) (by decide) (by decide) (by decide) (by decide) ?_
  rintro _ h ⟨rfl, va, vs, gw, hl2, ab2, -, H⟩
  rw [hl] at hl2
  clear ab hl gv
  have ab := ab2
  have hl : vs.length = 74 := hl2
  have gv := gw
  clear ab2 hl2 gw
  refine h_ldcH (F := F_0) (fun b => [.ref b, .int 0]) K D (Nat.le_refl _) H rfl (hw _ (List.mem_of_getElem? (i := 191) rfl)) (satoms hw) (ewx hw) (List.mem_of_getElem? (i := 6) rfl) (vs := [.int 34, .int 125]) (z := 2) ⟨by decide, by decide⟩ (by decide) rfl fbx (fun _ => rfl) d1_160 rfl 8 (by decide) (by decide) (by decide) (by decide) ?_
  intro s nz h lg lh D K H
  try dsimp only [Stc.st, Stc.EL, Stc.vm, Stc.ro] at H
  refine call_v K (hw _ (List.mem_of_getElem? (i := 39) rfl)) (hw _ (List.mem_of_getElem? (i := 40) rfl)) (hw _ (List.mem_of_getElem? (i := 42) rfl)) (hw _ (List.mem_of_getElem? (i := 41) rfl)) (hw _ (List.mem_of_getElem? (i := 23) rfl)) (hw _ (List.mem_of_getElem? (i := 43) rfl)) (H.exa (i := 0) rfl) (ksa1 l Z a0 hw n0 _ 0 z rfl hz _ 0 1 lg _ _ sb va 74 76 vs _ rfl rfl rfl (by rw [hl]; decide) (by rw [hl]; decide) ab ab75 (by rw [hl]; decide) (by decide) gs gv H) d1_162 rfl rfl [.ref lg] [.int _, .ref _] rfl rfl pd19 rfl (fun _ q => notFace_of_selects q) (by decide) 2 (Nat.le_of_ble_eq_true rfl) (by decide) (by decide) (by decide) (by decide) ?_
  rintro _ h ⟨rfl, va, vs, gw, hl2, ab2, -, H⟩
  rw [hl] at hl2
  clear ab hl gv
  have ab := ab2
  have hl : vs.length = 150 := hl2
  have gv := gw
  clear ab2 hl2 gw
  refine call_v K (hw _ (List.mem_of_getElem? (i := 90) rfl)) (hw _ (List.mem_of_getElem? (i := 91) rfl)) (hw _ (List.mem_of_getElem? (i := 93) rfl)) (hw _ (List.mem_of_getElem? (i := 92) rfl)) (hw _ (List.mem_of_getElem? (i := 23) rfl)) (hw _ (List.mem_of_getElem? (i := 94) rfl)) (H.exa (i := 0) rfl) (kts l Z a0 hw n0 _ 0 z rfl hz _ sb va 76 vs _ (by decide) (by rw [hl]; decide) (by rw [hl]; decide) ab H) d1_165 rfl rfl [] [.int _, .ref _] rfl rfl pd20 rfl (fun _ q => notFace_of_selects q) (by decide) 2 (Nat.le_of_ble_eq_true rfl) (by decide) (by decide) (by decide) (by decide) ?_
  rintro _ h ⟨z7, wt, rfl, gst, gwt, H⟩
  clear gs gv ab hl
  refine h_st_a K H (i := 2) rfl (by decide) O (Or.inr ⟨z7, rfl, Ins.self (H.exa (i := 0) rfl)⟩) (q := 7) (by decide) rfl d1_168 rfl gpe (by decide) ?_
  intro h H
  replace H := (H.tail).tail
  replace H := H.trim [(pst, .inl ("java/lang/String", F_0), [.ref pwt, .int 0]), (pwt, .inr .byte, ps)] (by simp [Stc.ro])
  try dsimp only [Stc.st, Stc.EL, Stc.vm, Stc.ro] at H
  clear gst gwt hws abw
  refine go_ok K [(169, .iinc 9 1, 172, 1, 0), (172, .goto (-75), 97, 0, 0)] _ _ _ (by decide +kernel) rfl ?_
  refine go_ok K [(97, .iload 9, 99, 0, 0), (99, .aload_n 0, 100, 0, 0)] _ _ _ (by decide +kernel) rfl ?_
  refine h_get K H (i := 1) (j := 5) rfl rfl rfl (host := "") (Or.inl (hw _ (List.mem_of_getElem? (i := 171) rfl))) Via.refl d1_100 rfl ?_
  refine h_len K H (i := 0) rfl d1_103 rfl 11 rfl ?_
  refine icmp_ge (pc' := 175) (pn := 107) K d1_104 (by decide) (by decide) rfl (fun h104 => ?_) (fun h104 => ?_)
  · exact absurd (by decide) h104
  refine go_ok K [(107, .bipush 100, 109, 100, 0), (109, .aload_n 0, 110, 0, 0)] _ _ _ (by decide +kernel) rfl ?_
  refine h_get K H (i := 1) (j := 4) rfl rfl rfl (host := "") (Or.inl (hw _ (List.mem_of_getElem? (i := 165) rfl))) Via.refl d1_110 rfl ?_
  have E1 := (H.rd (i := 0) rfl).1
  refine call_v K (hw _ (List.mem_of_getElem? (i := 173) rfl)) (hw _ (List.mem_of_getElem? (i := 50) rfl)) (hw _ (List.mem_of_getElem? (i := 52) rfl)) (hw _ (List.mem_of_getElem? (i := 51) rfl)) (hw _ (List.mem_of_getElem? (i := 8) rfl)) (hw _ (List.mem_of_getElem? (i := 53) rfl)) E1 (kln l Z a0 hw n0 z pst _ _ _ (H.sta (i := 0) rfl) hz E1 (rd_fld H (i := 0) rfl (j := 0) rfl rfl) (rd_fld H (i := 0) rfl (j := 1) rfl rfl) (H.rd (i := 1) rfl)) d1_113 rfl rfl [] [.int _] rfl rfl pd8 rfl (fun _ q => notFace_of_selects q) (by decide) 1 (Nat.le_of_ble_eq_true rfl) (by decide) (by decide) (by decide) (by decide) ?_
  rintro _ _ ⟨rfl, rfl⟩
  clear E1
  rw [hps]
  refine go_ok K [(116, .isub, 117, 0, 0), (117, .iload 9, 119, 0, 0), (119, .isub, 120, 0, 0)] _ _ _ (by decide +kernel) rfl ?_
  refine h_ldcH (F := F_0) (fun b => [.ref b, .int 0]) K D (Nat.le_refl _) H rfl (hw _ (List.mem_of_getElem? (i := 174) rfl)) (satoms hw) (ewx hw) (List.mem_of_getElem? (i := 3) rfl) (vs := [.int 44, .int 34, .int 112, .int 97, .int 100, .int 34, .int 58, .int 34, .int 34, .int 125]) (z := 10) ⟨by decide, by decide⟩ (by decide) rfl fbx (fun _ => rfl) d1_120 rfl 40 (by decide) (by decide) (by decide) (by decide) ?_
  intro s nz h la ld D K H
  try dsimp only [Stc.st, Stc.EL, Stc.vm, Stc.ro] at H
  have E1 := (H.rd (i := 0) rfl).1
  refine call_v K (hw _ (List.mem_of_getElem? (i := 173) rfl)) (hw _ (List.mem_of_getElem? (i := 50) rfl)) (hw _ (List.mem_of_getElem? (i := 52) rfl)) (hw _ (List.mem_of_getElem? (i := 51) rfl)) (hw _ (List.mem_of_getElem? (i := 8) rfl)) (hw _ (List.mem_of_getElem? (i := 53) rfl)) E1 (kln l Z a0 hw n0 z la _ _ _ (H.sta (i := 0) rfl) hz E1 (rd_fld H (i := 0) rfl (j := 0) rfl rfl) (rd_fld H (i := 0) rfl (j := 1) rfl rfl) (H.rd (i := 1) rfl)) d1_122 rfl rfl [] [.int _] rfl rfl pd8 rfl (fun _ q => notFace_of_selects q) (by decide) 1 (Nat.le_of_ble_eq_true rfl) (by decide) (by decide) (by decide) (by decide) ?_
  rintro _ _ ⟨rfl, rfl⟩
  clear E1
  refine go_ok K [(125, .isub, 126, 0, 0), (126, .istore 10, 128, 0, 0), (128, .aload_n 0, 129, 0, 0)] _ _ _ (by decide +kernel) rfl ?_
  refine h_get K H (i := 1) (j := 5) rfl rfl rfl (host := "") (Or.inl (hw _ (List.mem_of_getElem? (i := 171) rfl))) Via.refl d1_129 rfl ?_
  refine go_ok K [(132, .iload 9, 134, 0, 0)] _ _ _ (by decide +kernel) rfl ?_
  refine h_new K H F_1 [.null, .int 0, .int 0] (lay_1 hw) (by decide +kernel) (hw _ (List.mem_of_getElem? (i := 21) rfl)) (hw _ (List.mem_of_getElem? (i := 22) rfl)) (hw _ (List.mem_of_getElem? (i := 23) rfl)) d1_134 rfl (by decide) (by decide) ?_
  intro h sb gs H
  refine go_ok K [(137, .dup, 138, 0, 0)] _ _ _ (by decide +kernel) rfl ?_
  refine call_i K rfl (hw _ (List.mem_of_getElem? (i := 24) rfl)) (hw _ (List.mem_of_getElem? (i := 25) rfl)) (hw _ (List.mem_of_getElem? (i := 23) rfl)) (hw _ (List.mem_of_getElem? (i := 26) rfl)) (ksi l Z a0 hw n0 _ 0 z rfl hz _ sb _ gs H) d1_138 rfl rfl [] [.ref _, .int _, .ref _] rfl rfl pd18 rfl (by decide) 3 (Nat.le_of_ble_eq_true rfl) (by decide) (by decide) (by decide) (by decide) ?_
  rintro _ h ⟨rfl, va, gv, H⟩
  have ab := AB.rep 16
  have hl : (List.replicate 16 (Value.int 0)).length = 16 := rfl
  obtain ⟨vs, evs⟩ : ∃ vs : List Value, List.replicate 16 (Value.int 0) = vs := ⟨_, rfl⟩
  rw [evs] at H ab hl
  clear evs
  refine h_ldcH (F := F_0) (fun b => [.ref b, .int 0]) K D (Nat.le_refl _) H rfl (hw _ (List.mem_of_getElem? (i := 175) rfl)) (satoms hw) (ewx hw) (List.mem_of_getElem? (i := 4) rfl) (vs := [.int 44, .int 34, .int 112, .int 97, .int 100, .int 34, .int 58, .int 34]) (z := 8) ⟨by decide, by decide⟩ (by decide) rfl fbx (fun _ => rfl) d1_141 rfl 32 (by decide) (by decide) (by decide) (by decide) ?_
  intro s nz h lb le D K H
  try dsimp only [Stc.st, Stc.EL, Stc.vm, Stc.ro] at H
  refine call_v K (hw _ (List.mem_of_getElem? (i := 39) rfl)) (hw _ (List.mem_of_getElem? (i := 40) rfl)) (hw _ (List.mem_of_getElem? (i := 42) rfl)) (hw _ (List.mem_of_getElem? (i := 41) rfl)) (hw _ (List.mem_of_getElem? (i := 23) rfl)) (hw _ (List.mem_of_getElem? (i := 43) rfl)) (H.exa (i := 0) rfl) (ksa0 l Z a0 hw n0 _ 0 z rfl hz _ 0 1 lb _ _ sb va 0 8 vs _ rfl rfl rfl (by rw [hl]; decide) ab ab61 (by rw [hl]; decide) (by decide) gs gv H) d1_143 rfl rfl [.ref lb] [.int _, .ref _] rfl rfl pd19 rfl (fun _ q => notFace_of_selects q) (by decide) 2 (Nat.le_of_ble_eq_true rfl) (by decide) (by decide) (by decide) (by decide) ?_
  rintro _ h ⟨rfl, vs, hl2, ab2, -, H⟩
  rw [hl] at hl2
  clear ab hl
  have ab := ab2
  have hl := hl2
  clear ab2 hl2
  refine h_ldcH (F := F_0) (fun b => [.ref b, .int 0]) K D (Nat.le_refl _) H rfl (hw _ (List.mem_of_getElem? (i := 176) rfl)) (satoms hw) (ewx hw) (List.mem_of_getElem? (i := 5) rfl) (vs := [.int 46]) (z := 1) ⟨by decide, by decide⟩ (by decide) rfl fbx (fun _ => rfl) d1_146 rfl 4 (by decide) (by decide) (by decide) (by decide) ?_
  intro s nz h lc lf D K H
  try dsimp only [Stc.st, Stc.EL, Stc.vm, Stc.ro] at H
  refine go_ok K [(148, .iconst 0, 149, 0, 0), (149, .iload 10, 151, 0, 0)] _ _ _ (by decide +kernel) rfl ?_
  refine call_s K (hw _ (List.mem_of_getElem? (i := 177) rfl)) (hw _ (List.mem_of_getElem? (i := 158) rfl)) (hw _ (List.mem_of_getElem? (i := 134) rfl)) (hw _ (List.mem_of_getElem? (i := 159) rfl)) (kma l Z a0 hw n0 _ _ 0 65 _ rfl (by decide) (by decide) (by decide)) d1_151 rfl rfl [.int _, .int _] [.ref _, .ref _, .int _, .ref _] rfl rfl pd2 rfl (by decide) 4 (Nat.le_of_ble_eq_true rfl) (by decide) (by decide) (by decide) (by decide) ?_
  rintro _ _ ⟨rfl, rfl⟩
  have E1 := (H.rd (i := 0) rfl).1
  refine call_v K (hw _ (List.mem_of_getElem? (i := 178) rfl)) (hw _ (List.mem_of_getElem? (i := 179) rfl)) (hw _ (List.mem_of_getElem? (i := 181) rfl)) (hw _ (List.mem_of_getElem? (i := 180) rfl)) (hw _ (List.mem_of_getElem? (i := 8) rfl)) (hw _ (List.mem_of_getElem? (i := 182) rfl)) E1 (krp l Z a0 hw n0 _ _ 0 1 lc lf 46 _ 65 _ rfl rfl (by decide) (by decide) (by decide) H) d1_154 rfl rfl [.int _] [.ref _, .int _, .ref _] rfl rfl pd21 rfl (fun _ q => notFace_of_selects q) (by decide) 3 (Nat.le_of_ble_eq_true rfl) (by decide) (by decide) (by decide) (by decide) ?_
  rintro _ h ⟨st, wt, ws, rfl, hws, abw, H⟩
  replace H := (H.front 1 rfl).freeze
  replace H := H.freeze
  try dsimp only [Stc.st, Stc.EL, Stc.vm, Stc.ro] at H
  clear E1
  refine call_v K (hw _ (List.mem_of_getElem? (i := 39) rfl)) (hw _ (List.mem_of_getElem? (i := 40) rfl)) (hw _ (List.mem_of_getElem? (i := 42) rfl)) (hw _ (List.mem_of_getElem? (i := 41) rfl)) (hw _ (List.mem_of_getElem? (i := 23) rfl)) (hw _ (List.mem_of_getElem? (i := 43) rfl)) (H.exa (i := 0) rfl) (ksa1 l Z a0 hw n0 _ 0 z rfl hz _ 0 1 st _ _ sb va 8 73 vs _ rfl rfl (by rw [hws]) (by rw [hl, hws]; decide) (by rw [hl]; decide) ab abw (by rw [hl]; decide) (by rw [hws]; decide) gs gv H) d1_157 rfl rfl [.ref st] [.int _, .ref _] rfl rfl pd19 rfl (fun _ q => notFace_of_selects q) (by decide) 2 (Nat.le_of_ble_eq_true rfl) (by decide) (by decide) (by decide) (by decide) ?_
  rintro _ h ⟨rfl, va, vs, gw, hl2, ab2, -, H⟩
  rw [hl] at hl2
  clear ab hl gv
  have ab := ab2
  have hl : vs.length = 73 := hl2
  have gv := gw
  clear ab2 hl2 gw
  refine h_ldcH (F := F_0) (fun b => [.ref b, .int 0]) K D (Nat.le_refl _) H rfl (hw _ (List.mem_of_getElem? (i := 191) rfl)) (satoms hw) (ewx hw) (List.mem_of_getElem? (i := 6) rfl) (vs := [.int 34, .int 125]) (z := 2) ⟨by decide, by decide⟩ (by decide) rfl fbx (fun _ => rfl) d1_160 rfl 8 (by decide) (by decide) (by decide) (by decide) ?_
  intro s nz h lg lh D K H
  try dsimp only [Stc.st, Stc.EL, Stc.vm, Stc.ro] at H
  refine call_v K (hw _ (List.mem_of_getElem? (i := 39) rfl)) (hw _ (List.mem_of_getElem? (i := 40) rfl)) (hw _ (List.mem_of_getElem? (i := 42) rfl)) (hw _ (List.mem_of_getElem? (i := 41) rfl)) (hw _ (List.mem_of_getElem? (i := 23) rfl)) (hw _ (List.mem_of_getElem? (i := 43) rfl)) (H.exa (i := 0) rfl) (ksa1 l Z a0 hw n0 _ 0 z rfl hz _ 0 1 lg _ _ sb va 73 75 vs _ rfl rfl rfl (by rw [hl]; decide) (by rw [hl]; decide) ab ab75 (by rw [hl]; decide) (by decide) gs gv H) d1_162 rfl rfl [.ref lg] [.int _, .ref _] rfl rfl pd19 rfl (fun _ q => notFace_of_selects q) (by decide) 2 (Nat.le_of_ble_eq_true rfl) (by decide) (by decide) (by decide) (by decide) ?_
  rintro _ h ⟨rfl, va, vs, gw, hl2, ab2, -, H⟩
  rw [hl] at hl2
  clear ab hl gv
  have ab := ab2
  have hl : vs.length = 148 := hl2
  have gv := gw
  clear ab2 hl2 gw
  refine call_v K (hw _ (List.mem_of_getElem? (i := 90) rfl)) (hw _ (List.mem_of_getElem? (i := 91) rfl)) (hw _ (List.mem_of_getElem? (i := 93) rfl)) (hw _ (List.mem_of_getElem? (i := 92) rfl)) (hw _ (List.mem_of_getElem? (i := 23) rfl)) (hw _ (List.mem_of_getElem? (i := 94) rfl)) (H.exa (i := 0) rfl) (kts l Z a0 hw n0 _ 0 z rfl hz _ sb va 75 vs _ (by decide) (by rw [hl]; decide) (by rw [hl]; decide) ab H) d1_165 rfl rfl [] [.int _, .ref _] rfl rfl pd20 rfl (fun _ q => notFace_of_selects q) (by decide) 2 (Nat.le_of_ble_eq_true rfl) (by decide) (by decide) (by decide) (by decide) ?_
  rintro _ h ⟨z8, wt, rfl, gst, gwt, H⟩
  clear gs gv ab hl
  refine h_st_a K H (i := 2) rfl (by decide) O (Or.inr ⟨z8, rfl, Ins.self (H.exa (i := 0) rfl)⟩) (q := 8) (by decide) rfl d1_168 rfl gpe (by decide) ?_
  intro h H
  replace H := (H.tail).tail
  replace H := H.trim [(pst, .inl ("java/lang/String", F_0), [.ref pwt, .int 0]), (pwt, .inr .byte, ps)] (by simp [Stc.ro])
  try dsimp only [Stc.st, Stc.EL, Stc.vm, Stc.ro] at H
  clear gst gwt hws abw
  refine go_ok K [(169, .iinc 9 1, 172, 1, 0), (172, .goto (-75), 97, 0, 0)] _ _ _ (by decide +kernel) rfl ?_
  refine go_ok K [(97, .iload 9, 99, 0, 0), (99, .aload_n 0, 100, 0, 0)] _ _ _ (by decide +kernel) rfl ?_
  refine h_get K H (i := 1) (j := 5) rfl rfl rfl (host := "") (Or.inl (hw _ (List.mem_of_getElem? (i := 171) rfl))) Via.refl d1_100 rfl ?_
  refine h_len K H (i := 0) rfl d1_103 rfl 11 rfl ?_
  refine icmp_ge (pc' := 175) (pn := 107) K d1_104 (by decide) (by decide) rfl (fun h104 => ?_) (fun h104 => ?_)
  · exact absurd (by decide) h104
  refine go_ok K [(107, .bipush 100, 109, 100, 0), (109, .aload_n 0, 110, 0, 0)] _ _ _ (by decide +kernel) rfl ?_
  refine h_get K H (i := 1) (j := 4) rfl rfl rfl (host := "") (Or.inl (hw _ (List.mem_of_getElem? (i := 165) rfl))) Via.refl d1_110 rfl ?_
  have E1 := (H.rd (i := 0) rfl).1
  refine call_v K (hw _ (List.mem_of_getElem? (i := 173) rfl)) (hw _ (List.mem_of_getElem? (i := 50) rfl)) (hw _ (List.mem_of_getElem? (i := 52) rfl)) (hw _ (List.mem_of_getElem? (i := 51) rfl)) (hw _ (List.mem_of_getElem? (i := 8) rfl)) (hw _ (List.mem_of_getElem? (i := 53) rfl)) E1 (kln l Z a0 hw n0 z pst _ _ _ (H.sta (i := 0) rfl) hz E1 (rd_fld H (i := 0) rfl (j := 0) rfl rfl) (rd_fld H (i := 0) rfl (j := 1) rfl rfl) (H.rd (i := 1) rfl)) d1_113 rfl rfl [] [.int _] rfl rfl pd8 rfl (fun _ q => notFace_of_selects q) (by decide) 1 (Nat.le_of_ble_eq_true rfl) (by decide) (by decide) (by decide) (by decide) ?_
  rintro _ _ ⟨rfl, rfl⟩
  clear E1
  rw [hps]
  refine go_ok K [(116, .isub, 117, 0, 0), (117, .iload 9, 119, 0, 0), (119, .isub, 120, 0, 0)] _ _ _ (by decide +kernel) rfl ?_
  refine h_ldcH (F := F_0) (fun b => [.ref b, .int 0]) K D (Nat.le_refl _) H rfl (hw _ (List.mem_of_getElem? (i := 174) rfl)) (satoms hw) (ewx hw) (List.mem_of_getElem? (i := 3) rfl) (vs := [.int 44, .int 34, .int 112, .int 97, .int 100, .int 34, .int 58, .int 34, .int 34, .int 125]) (z := 10) ⟨by decide, by decide⟩ (by decide) rfl fbx (fun _ => rfl) d1_120 rfl 40 (by decide) (by decide) (by decide) (by decide) ?_
  intro s nz h la ld D K H
  try dsimp only [Stc.st, Stc.EL, Stc.vm, Stc.ro] at H
  have E1 := (H.rd (i := 0) rfl).1
  refine call_v K (hw _ (List.mem_of_getElem? (i := 173) rfl)) (hw _ (List.mem_of_getElem? (i := 50) rfl)) (hw _ (List.mem_of_getElem? (i := 52) rfl)) (hw _ (List.mem_of_getElem? (i := 51) rfl)) (hw _ (List.mem_of_getElem? (i := 8) rfl)) (hw _ (List.mem_of_getElem? (i := 53) rfl)) E1 (kln l Z a0 hw n0 z la _ _ _ (H.sta (i := 0) rfl) hz E1 (rd_fld H (i := 0) rfl (j := 0) rfl rfl) (rd_fld H (i := 0) rfl (j := 1) rfl rfl) (H.rd (i := 1) rfl)) d1_122 rfl rfl [] [.int _] rfl rfl pd8 rfl (fun _ q => notFace_of_selects q) (by decide) 1 (Nat.le_of_ble_eq_true rfl) (by decide) (by decide) (by decide) (by decide) ?_
  rintro _ _ ⟨rfl, rfl⟩
  clear E1
  refine go_ok K [(125, .isub, 126, 0, 0), (126, .istore 10, 128, 0, 0), (128, .aload_n 0, 129, 0, 0)] _ _ _ (by decide +kernel) rfl ?_
  refine h_get K H (i := 1) (j := 5) rfl rfl rfl (host := "") (Or.inl (hw _ (List.mem_of_getElem? (i := 171) rfl))) Via.refl d1_129 rfl ?_
  refine go_ok K [(132, .iload 9, 134, 0, 0)] _ _ _ (by decide +kernel) rfl ?_
  refine h_new K H F_1 [.null, .int 0, .int 0] (lay_1 hw) (by decide +kernel) (hw _ (List.mem_of_getElem? (i := 21) rfl)) (hw _ (List.mem_of_getElem? (i := 22) rfl)) (hw _ (List.mem_of_getElem? (i := 23) rfl)) d1_134 rfl (by decide) (by decide) ?_
  intro h sb gs H
  refine go_ok K [(137, .dup, 138, 0, 0)] _ _ _ (by decide +kernel) rfl ?_
  refine call_i K rfl (hw _ (List.mem_of_getElem? (i := 24) rfl)) (hw _ (List.mem_of_getElem? (i := 25) rfl)) (hw _ (List.mem_of_getElem? (i := 23) rfl)) (hw _ (List.mem_of_getElem? (i := 26) rfl)) (ksi l Z a0 hw n0 _ 0 z rfl hz _ sb _ gs H) d1_138 rfl rfl [] [.ref _, .int _, .ref _] rfl rfl pd18 rfl (by decide) 3 (Nat.le_of_ble_eq_true rfl) (by decide) (by decide) (by decide) (by decide) ?_
  rintro _ h ⟨rfl, va, gv, H⟩
  have ab := AB.rep 16
  have hl : (List.replicate 16 (Value.int 0)).length = 16 := rfl
  obtain ⟨vs, evs⟩ : ∃ vs : List Value, List.replicate 16 (Value.int 0) = vs := ⟨_, rfl⟩
  rw [evs] at H ab hl
  clear evs
  refine h_ldcH (F := F_0) (fun b => [.ref b, .int 0]) K D (Nat.le_refl _) H rfl (hw _ (List.mem_of_getElem? (i := 175) rfl)) (satoms hw) (ewx hw) (List.mem_of_getElem? (i := 4) rfl) (vs := [.int 44, .int 34, .int 112, .int 97, .int 100, .int 34, .int 58, .int 34]) (z := 8) ⟨by decide, by decide⟩ (by decide) rfl fbx (fun _ => rfl) d1_141 rfl 32 (by decide) (by decide) (by decide) (by decide) ?_
  intro s nz h lb le D K H
  try dsimp only [Stc.st, Stc.EL, Stc.vm, Stc.ro] at H
  refine call_v K (hw _ (List.mem_of_getElem? (i := 39) rfl)) (hw _ (List.mem_of_getElem? (i := 40) rfl)) (hw _ (List.mem_of_getElem? (i := 42) rfl)) (hw _ (List.mem_of_getElem? (i := 41) rfl)) (hw _ (List.mem_of_getElem? (i := 23) rfl)) (hw _ (List.mem_of_getElem? (i := 43) rfl)) (H.exa (i := 0) rfl) (ksa0 l Z a0 hw n0 _ 0 z rfl hz _ 0 1 lb _ _ sb va 0 8 vs _ rfl rfl rfl (by rw [hl]; decide) ab ab61 (by rw [hl]; decide) (by decide) gs gv H) d1_143 rfl rfl [.ref lb] [.int _, .ref _] rfl rfl pd19 rfl (fun _ q => notFace_of_selects q) (by decide) 2 (Nat.le_of_ble_eq_true rfl) (by decide) (by decide) (by decide) (by decide) ?_
  rintro _ h ⟨rfl, vs, hl2, ab2, -, H⟩
  rw [hl] at hl2
  clear ab hl
  have ab := ab2
  have hl := hl2
  clear ab2 hl2
  refine h_ldcH (F := F_0) (fun b => [.ref b, .int 0]) K D (Nat.le_refl _) H rfl (hw _ (List.mem_of_getElem? (i := 176) rfl)) (satoms hw) (ewx hw) (List.mem_of_getElem? (i := 5) rfl) (vs := [.int 46]) (z := 1) ⟨by decide, by decide⟩ (by decide) rfl fbx (fun _ => rfl) d1_146 rfl 4 (by decide) (by decide) (by decide) (by decide) ?_
  intro s nz h lc lf D K H
  try dsimp only [Stc.st, Stc.EL, Stc.vm, Stc.ro] at H
  refine go_ok K [(148, .iconst 0, 149, 0, 0), (149, .iload 10, 151, 0, 0)] _ _ _ (by decide +kernel) rfl ?_
  refine call_s K (hw _ (List.mem_of_getElem? (i := 177) rfl)) (hw _ (List.mem_of_getElem? (i := 158) rfl)) (hw _ (List.mem_of_getElem? (i := 134) rfl)) (hw _ (List.mem_of_getElem? (i := 159) rfl)) (kma l Z a0 hw n0 _ _ 0 64 _ rfl (by decide) (by decide) (by decide)) d1_151 rfl rfl [.int _, .int _] [.ref _, .ref _, .int _, .ref _] rfl rfl pd2 rfl (by decide) 4 (Nat.le_of_ble_eq_true rfl) (by decide) (by decide) (by decide) (by decide) ?_
  rintro _ _ ⟨rfl, rfl⟩
  have E1 := (H.rd (i := 0) rfl).1
  refine call_v K (hw _ (List.mem_of_getElem? (i := 178) rfl)) (hw _ (List.mem_of_getElem? (i := 179) rfl)) (hw _ (List.mem_of_getElem? (i := 181) rfl)) (hw _ (List.mem_of_getElem? (i := 180) rfl)) (hw _ (List.mem_of_getElem? (i := 8) rfl)) (hw _ (List.mem_of_getElem? (i := 182) rfl)) E1 (krp l Z a0 hw n0 _ _ 0 1 lc lf 46 _ 64 _ rfl rfl (by decide) (by decide) (by decide) H) d1_154 rfl rfl [.int _] [.ref _, .int _, .ref _] rfl rfl pd21 rfl (fun _ q => notFace_of_selects q) (by decide) 3 (Nat.le_of_ble_eq_true rfl) (by decide) (by decide) (by decide) (by decide) ?_
  rintro _ h ⟨st, wt, ws, rfl, hws, abw, H⟩
  replace H := (H.front 1 rfl).freeze
  replace H := H.freeze
  try dsimp only [Stc.st, Stc.EL, Stc.vm, Stc.ro] at H
  clear E1
  refine call_v K (hw _ (List.mem_of_getElem? (i := 39) rfl)) (hw _ (List.mem_of_getElem? (i := 40) rfl)) (hw _ (List.mem_of_getElem? (i := 42) rfl)) (hw _ (List.mem_of_getElem? (i := 41) rfl)) (hw _ (List.mem_of_getElem? (i := 23) rfl)) (hw _ (List.mem_of_getElem? (i := 43) rfl)) (H.exa (i := 0) rfl) (ksa1 l Z a0 hw n0 _ 0 z rfl hz _ 0 1 st _ _ sb va 8 72 vs _ rfl rfl (by rw [hws]) (by rw [hl, hws]; decide) (by rw [hl]; decide) ab abw (by rw [hl]; decide) (by rw [hws]; decide) gs gv H) d1_157 rfl rfl [.ref st] [.int _, .ref _] rfl rfl pd19 rfl (fun _ q => notFace_of_selects q) (by decide) 2 (Nat.le_of_ble_eq_true rfl) (by decide) (by decide) (by decide) (by decide) ?_
  rintro _ h ⟨rfl, va, vs, gw, hl2, ab2, -, H⟩
  rw [hl] at hl2
  clear ab hl gv
  have ab := ab2
  have hl : vs.length = 72 := hl2
  have gv := gw
  clear ab2 hl2 gw
  refine h_ldcH (F := F_0) (fun b => [.ref b, .int 0]) K D (Nat.le_refl _) H rfl (hw _ (List.mem_of_getElem? (i := 191) rfl)) (satoms hw) (ewx hw) (List.mem_of_getElem? (i := 6) rfl) (vs := [.int 34, .int 125]) (z := 2) ⟨by decide, by decide⟩ (by decide) rfl fbx (fun _ => rfl) d1_160 rfl 8 (by decide) (by decide) (by decide) (by decide) ?_
  intro s nz h lg lh D K H
  try dsimp only [Stc.st, Stc.EL, Stc.vm, Stc.ro] at H
  refine call_v K (hw _ (List.mem_of_getElem? (i := 39) rfl)) (hw _ (List.mem_of_getElem? (i := 40) rfl)) (hw _ (List.mem_of_getElem? (i := 42) rfl)) (hw _ (List.mem_of_getElem? (i := 41) rfl)) (hw _ (List.mem_of_getElem? (i := 23) rfl)) (hw _ (List.mem_of_getElem? (i := 43) rfl)) (H.exa (i := 0) rfl) (ksa1 l Z a0 hw n0 _ 0 z rfl hz _ 0 1 lg _ _ sb va 72 74 vs _ rfl rfl rfl (by rw [hl]; decide) (by rw [hl]; decide) ab ab75 (by rw [hl]; decide) (by decide) gs gv H) d1_162 rfl rfl [.ref lg] [.int _, .ref _] rfl rfl pd19 rfl (fun _ q => notFace_of_selects q) (by decide) 2 (Nat.le_of_ble_eq_true rfl) (by decide) (by decide) (by decide) (by decide) ?_
  rintro _ h ⟨rfl, va, vs, gw, hl2, ab2, -, H⟩
  rw [hl] at hl2
  clear ab hl gv
  have ab := ab2
  have hl : vs.length = 146 := hl2
  have gv := gw
  clear ab2 hl2 gw
  refine call_v K (hw _ (List.mem_of_getElem? (i := 90) rfl)) (hw _ (List.mem_of_getElem? (i := 91) rfl)) (hw _ (List.mem_of_getElem? (i := 93) rfl)) (hw _ (List.mem_of_getElem? (i := 92) rfl)) (hw _ (List.mem_of_getElem? (i := 23) rfl)) (hw _ (List.mem_of_getElem? (i := 94) rfl)) (H.exa (i := 0) rfl) (kts l Z a0 hw n0 _ 0 z rfl hz _ sb va 74 vs _ (by decide) (by rw [hl]; decide) (by rw [hl]; decide) ab H) d1_165 rfl rfl [] [.int _, .ref _] rfl rfl pd20 rfl (fun _ q => notFace_of_selects q) (by decide) 2 (Nat.le_of_ble_eq_true rfl) (by decide) (by decide) (by decide) (by decide) ?_
  rintro _ h ⟨z9, wt, rfl, gst, gwt, H⟩
  clear gs gv ab hl
  refine h_st_a K H (i := 2) rfl (by decide) O (Or.inr ⟨z9, rfl, Ins.self (H.exa (i := 0) rfl)⟩) (q := 9) (by decide) rfl d1_168 rfl gpe (by decide) ?_
  intro h H
  replace H := (H.tail).tail
  replace H := H.trim [(pst, .inl ("java/lang/String", F_0), [.ref pwt, .int 0]), (pwt, .inr .byte, ps)] (by simp [Stc.ro])
  try dsimp only [Stc.st, Stc.EL, Stc.vm, Stc.ro] at H
  clear gst gwt hws abw
  refine go_ok K [(169, .iinc 9 1, 172, 1, 0), (172, .goto (-75), 97, 0, 0)] _ _ _ (by decide +kernel) rfl ?_
  refine go_ok K [(97, .iload 9, 99, 0, 0), (99, .aload_n 0, 100, 0, 0)] _ _ _ (by decide +kernel) rfl ?_
  refine h_get K H (i := 1) (j := 5) rfl rfl rfl (host := "") (Or.inl (hw _ (List.mem_of_getElem? (i := 171) rfl))) Via.refl d1_100 rfl ?_
  refine h_len K H (i := 0) rfl d1_103 rfl 11 rfl ?_
  refine icmp_ge (pc' := 175) (pn := 107) K d1_104 (by decide) (by decide) rfl (fun h104 => ?_) (fun h104 => ?_)
  · exact absurd (by decide) h104
  refine go_ok K [(107, .bipush 100, 109, 100, 0), (109, .aload_n 0, 110, 0, 0)] _ _ _ (by decide +kernel) rfl ?_
  refine h_get K H (i := 1) (j := 4) rfl rfl rfl (host := "") (Or.inl (hw _ (List.mem_of_getElem? (i := 165) rfl))) Via.refl d1_110 rfl ?_
  have E1 := (H.rd (i := 0) rfl).1
  refine call_v K (hw _ (List.mem_of_getElem? (i := 173) rfl)) (hw _ (List.mem_of_getElem? (i := 50) rfl)) (hw _ (List.mem_of_getElem? (i := 52) rfl)) (hw _ (List.mem_of_getElem? (i := 51) rfl)) (hw _ (List.mem_of_getElem? (i := 8) rfl)) (hw _ (List.mem_of_getElem? (i := 53) rfl)) E1 (kln l Z a0 hw n0 z pst _ _ _ (H.sta (i := 0) rfl) hz E1 (rd_fld H (i := 0) rfl (j := 0) rfl rfl) (rd_fld H (i := 0) rfl (j := 1) rfl rfl) (H.rd (i := 1) rfl)) d1_113 rfl rfl [] [.int _] rfl rfl pd8 rfl (fun _ q => notFace_of_selects q) (by decide) 1 (Nat.le_of_ble_eq_true rfl) (by decide) (by decide) (by decide) (by decide) ?_
  rintro _ _ ⟨rfl, rfl⟩
  clear E1
  rw [hps]
  refine go_ok K [(116, .isub, 117, 0, 0), (117, .iload 9, 119, 0, 0), (119, .isub, 120, 0, 0)] _ _ _ (by decide +kernel) rfl ?_
  refine h_ldcH (F := F_0) (fun b => [.ref b, .int 0]) K D (Nat.le_refl _) H rfl (hw _ (List.mem_of_getElem? (i := 174) rfl)) (satoms hw) (ewx hw) (List.mem_of_getElem? (i := 3) rfl) (vs := [.int 44, .int 34, .int 112, .int 97, .int 100, .int 34, .int 58, .int 34, .int 34, .int 125]) (z := 10) ⟨by decide, by decide⟩ (by decide) rfl fbx (fun _ => rfl) d1_120 rfl 40 (by decide) (by decide) (by decide) (by decide) ?_
  intro s nz h la ld D K H
  try dsimp only [Stc.st, Stc.EL, Stc.vm, Stc.ro] at H
  have E1 := (H.rd (i := 0) rfl).1
  refine call_v K (hw _ (List.mem_of_getElem? (i := 173) rfl)) (hw _ (List.mem_of_getElem? (i := 50) rfl)) (hw _ (List.mem_of_getElem? (i := 52) rfl)) (hw _ (List.mem_of_getElem? (i := 51) rfl)) (hw _ (List.mem_of_getElem? (i := 8) rfl)) (hw _ (List.mem_of_getElem? (i := 53) rfl)) E1 (kln l Z a0 hw n0 z la _ _ _ (H.sta (i := 0) rfl) hz E1 (rd_fld H (i := 0) rfl (j := 0) rfl rfl) (rd_fld H (i := 0) rfl (j := 1) rfl rfl) (H.rd (i := 1) rfl)) d1_122 rfl rfl [] [.int _] rfl rfl pd8 rfl (fun _ q => notFace_of_selects q) (by decide) 1 (Nat.le_of_ble_eq_true rfl) (by decide) (by decide) (by decide) (by decide) ?_
  rintro _ _ ⟨rfl, rfl⟩
  clear E1
  refine go_ok K [(125, .isub, 126, 0, 0), (126, .istore 10, 128, 0, 0), (128, .aload_n 0, 129, 0, 0)] _ _ _ (by decide +kernel) rfl ?_
  refine h_get K H (i := 1) (j := 5) rfl rfl rfl (host := "") (Or.inl (hw _ (List.mem_of_getElem? (i := 171) rfl))) Via.refl d1_129 rfl ?_
  refine go_ok K [(132, .iload 9, 134, 0, 0)] _ _ _ (by decide +kernel) rfl ?_
  refine h_new K H F_1 [.null, .int 0, .int 0] (lay_1 hw) (by decide +kernel) (hw _ (List.mem_of_getElem? (i := 21) rfl)) (hw _ (List.mem_of_getElem? (i := 22) rfl)) (hw _ (List.mem_of_getElem? (i := 23) rfl)) d1_134 rfl (by decide) (by decide) ?_
  intro h sb gs H
  refine go_ok K [(137, .dup, 138, 0, 0)] _ _ _ (by decide +kernel) rfl ?_
  refine call_i K rfl (hw _ (List.mem_of_getElem? (i := 24) rfl)) (hw _ (List.mem_of_getElem? (i := 25) rfl)) (hw _ (List.mem_of_getElem? (i := 23) rfl)) (hw _ (List.mem_of_getElem? (i := 26) rfl)) (ksi l Z a0 hw n0 _ 0 z rfl hz _ sb _ gs H) d1_138 rfl rfl [] [.ref _, .int _, .ref _] rfl rfl pd18 rfl (by decide) 3 (Nat.le_of_ble_eq_true rfl) (by decide) (by decide) (by decide) (by decide) ?_
  rintro _ h ⟨rfl, va, gv, H⟩
  have ab := AB.rep 16
  have hl : (List.replicate 16 (Value.int 0)).length = 16 := rfl
  obtain ⟨vs, evs⟩ : ∃ vs : List Value, List.replicate 16 (Value.int 0) = vs := ⟨_, rfl⟩
  rw [evs] at H ab hl
  clear evs
  refine h_ldcH (F := F_0) (fun b => [.ref b, .int 0]) K D (Nat.le_refl _) H rfl (hw _ (List.mem_of_getElem? (i := 175) rfl)) (satoms hw) (ewx hw) (List.mem_of_getElem? (i := 4) rfl) (vs := [.int 44, .int 34, .int 112, .int 97, .int 100, .int 34, .int 58, .int 34]) (z := 8) ⟨by decide, by decide⟩ (by decide) rfl fbx (fun _ => rfl) d1_141 rfl 32 (by decide) (by decide) (by decide) (by decide) ?_
  intro s nz h lb le D K H
  try dsimp only [Stc.st, Stc.EL, Stc.vm, Stc.ro] at H
  refine call_v K (hw _ (List.mem_of_getElem? (i := 39) rfl)) (hw _ (List.mem_of_getElem? (i := 40) rfl)) (hw _ (List.mem_of_getElem? (i := 42) rfl)) (hw _ (List.mem_of_getElem? (i := 41) rfl)) (hw _ (List.mem_of_getElem? (i := 23) rfl)) (hw _ (List.mem_of_getElem? (i := 43) rfl)) (H.exa (i := 0) rfl) (ksa0 l Z a0 hw n0 _ 0 z rfl hz _ 0 1 lb _ _ sb va 0 8 vs _ rfl rfl rfl (by rw [hl]; decide) ab ab61 (by rw [hl]; decide) (by decide) gs gv H) d1_143 rfl rfl [.ref lb] [.int _, .ref _] rfl rfl pd19 rfl (fun _ q => notFace_of_selects q) (by decide) 2 (Nat.le_of_ble_eq_true rfl) (by decide) (by decide) (by decide) (by decide) ?_
  rintro _ h ⟨rfl, vs, hl2, ab2, -, H⟩
  rw [hl] at hl2
  clear ab hl
  have ab := ab2
  have hl := hl2
  clear ab2 hl2
  refine h_ldcH (F := F_0) (fun b => [.ref b, .int 0]) K D (Nat.le_refl _) H rfl (hw _ (List.mem_of_getElem? (i := 176) rfl)) (satoms hw) (ewx hw) (List.mem_of_getElem? (i := 5) rfl) (vs := [.int 46]) (z := 1) ⟨by decide, by decide⟩ (by decide) rfl fbx (fun _ => rfl) d1_146 rfl 4 (by decide) (by decide) (by decide) (by decide) ?_
  intro s nz h lc lf D K H
  try dsimp only [Stc.st, Stc.EL, Stc.vm, Stc.ro] at H
  refine go_ok K [(148, .iconst 0, 149, 0, 0), (149, .iload 10, 151, 0, 0)] _ _ _ (by decide +kernel) rfl ?_
  refine call_s K (hw _ (List.mem_of_getElem? (i := 177) rfl)) (hw _ (List.mem_of_getElem? (i := 158) rfl)) (hw _ (List.mem_of_getElem? (i := 134) rfl)) (hw _ (List.mem_of_getElem? (i := 159) rfl)) (kma l Z a0 hw n0 _ _ 0 63 _ rfl (by decide) (by decide) (by decide)) d1_151 rfl rfl [.int _, .int _] [.ref _, .ref _, .int _, .ref _] rfl rfl pd2 rfl (by decide) 4 (Nat.le_of_ble_eq_true rfl) (by decide) (by decide) (by decide) (by decide) ?_
  rintro _ _ ⟨rfl, rfl⟩
  have E1 := (H.rd (i := 0) rfl).1
  refine call_v K (hw _ (List.mem_of_getElem? (i := 178) rfl)) (hw _ (List.mem_of_getElem? (i := 179) rfl)) (hw _ (List.mem_of_getElem? (i := 181) rfl)) (hw _ (List.mem_of_getElem? (i := 180) rfl)) (hw _ (List.mem_of_getElem? (i := 8) rfl)) (hw _ (List.mem_of_getElem? (i := 182) rfl)) E1 (krp l Z a0 hw n0 _ _ 0 1 lc lf 46 _ 63 _ rfl rfl (by decide) (by decide) (by decide) H) d1_154 rfl rfl [.int _] [.ref _, .int _, .ref _] rfl rfl pd21 rfl (fun _ q => notFace_of_selects q) (by decide) 3 (Nat.le_of_ble_eq_true rfl) (by decide) (by decide) (by decide) (by decide) ?_
  rintro _ h ⟨st, wt, ws, rfl, hws, abw, H⟩
  replace H := (H.front 1 rfl).freeze
  replace H := H.freeze
  try dsimp only [Stc.st, Stc.EL, Stc.vm, Stc.ro] at H
  clear E1
  refine call_v K (hw _ (List.mem_of_getElem? (i := 39) rfl)) (hw _ (List.mem_of_getElem? (i := 40) rfl)) (hw _ (List.mem_of_getElem? (i := 42) rfl)) (hw _ (List.mem_of_getElem? (i := 41) rfl)) (hw _ (List.mem_of_getElem? (i := 23) rfl)) (hw _ (List.mem_of_getElem? (i := 43) rfl)) (H.exa (i := 0) rfl) (ksa1 l Z a0 hw n0 _ 0 z rfl hz _ 0 1 st _ _ sb va 8 71 vs _ rfl rfl (by rw [hws]) (by rw [hl, hws]; decide) (by rw [hl]; decide) ab abw (by rw [hl]; decide) (by rw [hws]; decide) gs gv H) d1_157 rfl rfl [.ref st] [.int _, .ref _] rfl rfl pd19 rfl (fun _ q => notFace_of_selects q) (by decide) 2 (Nat.le_of_ble_eq_true rfl) (by decide) (by decide) (by decide) (by decide) ?_
  rintro _ h ⟨rfl, va, vs, gw, hl2, ab2, -, H⟩
  rw [hl] at hl2
  clear ab hl gv
  have ab := ab2
  have hl : vs.length = 71 := hl2
  have gv := gw
  clear ab2 hl2 gw
  refine h_ldcH (F := F_0) (fun b => [.ref b, .int 0]) K D (Nat.le_refl _) H rfl (hw _ (List.mem_of_getElem? (i := 191) rfl)) (satoms hw) (ewx hw) (List.mem_of_getElem? (i := 6) rfl) (vs := [.int 34, .int 125]) (z := 2) ⟨by decide, by decide⟩ (by decide) rfl fbx (fun _ => rfl) d1_160 rfl 8 (by decide) (by decide) (by decide) (by decide) ?_
  intro s nz h lg lh D K H
  try dsimp only [Stc.st, Stc.EL, Stc.vm, Stc.ro] at H
  refine call_v K (hw _ (List.mem_of_getElem? (i := 39) rfl)) (hw _ (List.mem_of_getElem? (i := 40) rfl)) (hw _ (List.mem_of_getElem? (i := 42) rfl)) (hw _ (List.mem_of_getElem? (i := 41) rfl)) (hw _ (List.mem_of_getElem? (i := 23) rfl)) (hw _ (List.mem_of_getElem? (i := 43) rfl)) (H.exa (i := 0) rfl) (ksa1 l Z a0 hw n0 _ 0 z rfl hz _ 0 1 lg _ _ sb va 71 73 vs _ rfl rfl rfl (by rw [hl]; decide) (by rw [hl]; decide) ab ab75 (by rw [hl]; decide) (by decide) gs gv H) d1_162 rfl rfl [.ref lg] [.int _, .ref _] rfl rfl pd19 rfl (fun _ q => notFace_of_selects q) (by decide) 2 (Nat.le_of_ble_eq_true rfl) (by decide) (by decide) (by decide) (by decide) ?_
  rintro _ h ⟨rfl, va, vs, gw, hl2, ab2, -, H⟩
  rw [hl] at hl2
  clear ab hl gv
  have ab := ab2
  have hl : vs.length = 144 := hl2
  have gv := gw
  clear ab2 hl2 gw
  refine call_v K (hw _ (List.mem_of_getElem? (i := 90) rfl)) (hw _ (List.mem_of_getElem? (i := 91) rfl)) (hw _ (List.mem_of_getElem? (i := 93) rfl)) (hw _ (List.mem_of_getElem? (i := 92) rfl)) (hw _ (List.mem_of_getElem? (i := 23) rfl)) (hw _ (List.mem_of_getElem? (i := 94) rfl)) (H.exa (i := 0) rfl) (kts l Z a0 hw n0 _ 0 z rfl hz _ sb va 73 vs _ (by decide) (by rw [hl]; decide) (by rw [hl]; decide) ab H) d1_165 rfl rfl [] [.int _, .ref _] rfl rfl pd20 rfl (fun _ q => notFace_of_selects q) (by decide) 2 (Nat.le_of_ble_eq_true rfl) (by decide) (by decide) (by decide) (by decide) ?_
  rintro _ h ⟨z10, wt, rfl, gst, gwt, H⟩
  clear gs gv ab hl
  refine h_st_a K H (i := 2) rfl (by decide) O (Or.inr ⟨z10, rfl, Ins.self (H.exa (i := 0) rfl)⟩) (q := 10) (by decide) rfl d1_168 rfl gpe (by decide) ?_
  intro h H
  replace H := (H.tail).tail
  replace H := H.trim [(pst, .inl ("java/lang/String", F_0), [.ref pwt, .int 0]), (pwt, .inr .byte, ps)] (by simp [Stc.ro])
  try dsimp only [Stc.st, Stc.EL, Stc.vm, Stc.ro] at H
  clear gst gwt hws abw
  refine go_ok K [(169, .iinc 9 1, 172, 1, 0), (172, .goto (-75), 97, 0, 0)] _ _ _ (by decide +kernel) rfl ?_
  refine go_ok K [(97, .iload 9, 99, 0, 0), (99, .aload_n 0, 100, 0, 0)] _ _ _ (by decide +kernel) rfl ?_
  refine h_get K H (i := 1) (j := 5) rfl rfl rfl (host := "") (Or.inl (hw _ (List.mem_of_getElem? (i := 171) rfl))) Via.refl d1_100 rfl ?_
  refine h_len K H (i := 0) rfl d1_103 rfl 11 rfl ?_
  refine icmp_ge (pc' := 175) (pn := 107) K d1_104 (by decide) (by decide) rfl (fun h104 => ?_) (fun h104 => ?_)
  · refine ret_0 K d1_175 (by decide) (by decide) ?_
    exact ⟨rfl, _, _, _, (H.tail).plain [] nilI⟩
  · exact absurd h104 (by decide)
theorem d31_1 : decode prog_6_method_4_code 1 = .ok (.getfield 32, 3) := by decide +kernel
theorem d31_7 : decode prog_6_method_4_code 7 = .ok (.getfield 36, 3) := by decide +kernel
theorem d31_12 : decode prog_6_method_4_code 12 = .ok (.getfield 26, 3) := by decide +kernel
theorem d31_16 : decode prog_6_method_4_code 16 = .ok (.ldiv, 1) := by decide +kernel
theorem d31_18 : decode prog_6_method_4_code 18 = .ok (.lreturn, 1) := by decide +kernel
theorem pl31 : plainFor (⟨"com/example/defer2/defer2/bench/Plan", "dueAt", "(I)J"⟩ : MethodName) = true := plainFor_of_name (by first | (simp [plainName, overriddenIn, x]; done) | decide +kernel)
set_option maxRecDepth 65536 in
set_option maxHeartbeats 40000000 in
theorem kdu (l : Launch) (Z : State) (a0 : Array Value) (hw : ∀ d ∈ tables_1, d.before a0 Z = true) (n0 : Nat) (ss : Stc) (es : List Ent) (pl : Addr) (x1 x2 x3 : Value) (jb jo : Int32) (f0 w0 : Int64) (h : Heap) (hjb : ¬ jb.toInt64 = 0) (H : Hp Z ss h ((pl, .inl ("com/example/defer2/defer2/bench/Plan", F_2), [x1, .int jb, .long f0, .long w0, x2, x3]) :: es)) :
    Con l Z n0 (⟨"com/example/defer2/defer2/bench/Plan", "dueAt", "(I)J"⟩ : MethodName) prog_6_method_4_code 2 (some .long) [] Rm0 #[(.ref pl), (.int jo)] h (fun v h' => v = some (.long (f0 + jo.toInt64 * w0 / jb.toInt64)) ∧ h' = h) := by
  refine Con.of (a0 := a0) [] [] pl31 [.val (.ref pl), .val (.int jo)] (fun m => by first | (simp [entryFrame, mkF, argsToLocals, Value.category, maxLocals]; done) | rfl) nilI nilI ?_
  intro EE nz p e s m below meth c K
  refine go_ok K [(0, .aload_n 0, 1, 0, 0)] _ _ _ (by decide +kernel) rfl ?_
  refine h_get K H (i := 0) (j := 2) rfl rfl rfl (host := "") (Or.inl (hw _ (List.mem_of_getElem? (i := 142) rfl))) Via.refl d31_1 rfl ?_
  refine go_ok K [(4, .iload_n 1, 5, 0, 0), (5, .i2l, 6, 0, 0), (6, .aload_n 0, 7, 0, 0)] _ _ _ (by decide +kernel) rfl ?_
  refine h_get K H (i := 0) (j := 3) rfl rfl rfl (host := "") (Or.inl (hw _ (List.mem_of_getElem? (i := 144) rfl))) Via.refl d31_7 rfl ?_
  refine go_ok K [(10, .lmul, 11, 0, 0), (11, .aload_n 0, 12, 0, 0)] _ _ _ (by decide +kernel) rfl ?_
  refine h_get K H (i := 0) (j := 1) rfl rfl rfl (host := "") (Or.inl (hw _ (List.mem_of_getElem? (i := 139) rfl))) Via.refl d31_12 rfl ?_
  refine go_ok K [(15, .i2l, 16, 0, 0)] _ _ _ (by decide +kernel) rfl ?_
  refine o_ldiv K d31_16 rfl hjb ?_
  refine go_ok K [(17, .ladd, 18, 0, 0)] _ _ _ (by decide +kernel) rfl ?_
  refine ret_j K d31_18 (by decide) (by decide) ?_
  exact ⟨rfl, rfl⟩
theorem own_law {a b N J : Int32} {g w : Int64} (hN : (a &&& 1048575) + 1 = N) (hJ : (b &&& 2147483647) % N = J) (hw : (g &&& 16777215) * 1000 = w) : ¬ N = 0 ∧ ¬ N.toInt64 = 0 ∧ ¬ (J.toInt64 * w / N.toInt64) < 0 ∧ ¬ w < (J.toInt64 * w / N.toInt64) ∧ ¬ (J.toInt64 * w) < (J.toInt64 * w / N.toInt64) * N.toInt64 ∧ (J.toInt64 * w) < (J.toInt64 * w / N.toInt64 + 1) * N.toInt64 := by
  have e1 := Jvm.Kit.i32_mask a 1048575 (k := 20) (by decide) (by decide)
  have one : (1 : Int32).toInt = 1 := by decide
  have n1 : N.toInt = a.toInt % 2 ^ 20 + 1 := by
    rw [← hN, Jvm.Kit.i32_add, e1, one] <;> rw [e1, one] <;> omega
  have n2 : 1 ≤ N.toInt ∧ N.toInt ≤ 1048576 := by omega
  have e2 : 0 ≤ (b &&& 2147483647).toInt := by rw [Jvm.Kit.i32_mask b 2147483647 (k := 31) (by decide) (by decide)]; omega
  have j1 : J.toInt = (b &&& 2147483647).toInt % N.toInt := by rw [← hJ, Jvm.Kit.i32_rem_nonneg e2]
  have j2 : 0 ≤ J.toInt := by rw [j1]; exact Int.emod_nonneg _ (by omega)
  have j3 : J.toInt < N.toInt := by rw [j1]; exact Int.emod_lt_of_pos _ (by omega)
  have w0 := Jvm.Kit.i64_mask g 16777215 (k := 24) (by decide) (by decide)
  have th : (1000 : Int64).toInt = 1000 := by decide
  have w1 : w.toInt = (g.toInt % 2 ^ 24) * 1000 := by
    rw [← hw, Jvm.Kit.i64_mul, w0, th] <;> rw [w0, th] <;> omega
  have w2 : 0 ≤ w.toInt ∧ w.toInt < 2 ^ 34 := by omega
  have m0 : 0 ≤ J.toInt * w.toInt := Int.mul_nonneg j2 w2.1
  have m1 : J.toInt * w.toInt ≤ 1048576 * 2 ^ 34 := Int.mul_le_mul (by omega) (by omega) (by omega) (by decide)
  have nn : (J.toInt64 * w).toInt = J.toInt * w.toInt := by
    rw [Jvm.Kit.i64_mul, Jvm.Kit.i64_of_i32] <;> rw [Jvm.Kit.i64_of_i32] <;> omega
  have qq : (J.toInt64 * w / N.toInt64).toInt = J.toInt * w.toInt / N.toInt := by
    rw [Jvm.Kit.i64_div, nn, Jvm.Kit.i64_of_i32, Int.tdiv_eq_ediv_of_nonneg m0]
    rw [Jvm.Kit.i64_of_i32]; omega
  have q1 : 0 ≤ J.toInt * w.toInt / N.toInt := Int.ediv_nonneg m0 (by omega)
  have q2 : J.toInt * w.toInt / N.toInt ≤ w.toInt := by
    apply Int.ediv_le_of_le_mul (by omega)
    rw [Int.mul_comm w.toInt]; exact Int.mul_le_mul_of_nonneg_right (by omega) w2.1
  have q3 : (J.toInt * w.toInt / N.toInt) * N.toInt ≤ J.toInt * w.toInt := Int.ediv_mul_le _ (by omega)
  have q4 : J.toInt * w.toInt < (J.toInt * w.toInt / N.toInt + 1) * N.toInt := Int.lt_ediv_add_one_mul_self _ (by omega)
  have q5 : 0 ≤ (J.toInt * w.toInt / N.toInt) * N.toInt := Int.mul_nonneg q1 (by omega)
  have q6 : (J.toInt * w.toInt / N.toInt + 1) * N.toInt = (J.toInt * w.toInt / N.toInt) * N.toInt + N.toInt := by rw [Int.add_mul, Int.one_mul]
  have p1 : ((J.toInt64 * w / N.toInt64) * N.toInt64).toInt = (J.toInt * w.toInt / N.toInt) * N.toInt := by
    rw [Jvm.Kit.i64_mul, qq, Jvm.Kit.i64_of_i32] <;> rw [qq, Jvm.Kit.i64_of_i32] <;> omega
  have on : (1 : Int64).toInt = 1 := by decide
  have p0 : (J.toInt64 * w / N.toInt64 + 1).toInt = J.toInt * w.toInt / N.toInt + 1 := by
    rw [Jvm.Kit.i64_add, qq, on] <;> rw [qq, on] <;> omega
  have p2 : ((J.toInt64 * w / N.toInt64 + 1) * N.toInt64).toInt = (J.toInt * w.toInt / N.toInt + 1) * N.toInt := by
    rw [Jvm.Kit.i64_mul, p0, Jvm.Kit.i64_of_i32] <;> rw [p0, Jvm.Kit.i64_of_i32] <;> omega
  have z32 : (0 : Int32).toInt = 0 := by decide
  have z64 : (0 : Int64).toInt = 0 := by decide
  refine ⟨fun q => ?_, fun q => ?_, ?_, ?_, ?_, ?_⟩
  · rw [q, z32] at n2; omega
  · have := congrArg Int64.toInt q
    rw [Jvm.Kit.i64_of_i32, z64] at this; omega
  · rw [Int64.lt_iff_toInt_lt, qq, z64]; omega
  · rw [Int64.lt_iff_toInt_lt, qq]; omega
  · rw [Int64.lt_iff_toInt_lt, p1, nn]; omega
  · rw [Int64.lt_iff_toInt_lt, p2, nn]; exact q4
theorem own_d (f q : Int64) : f + q - f = q := by
  rw [Int64.add_comm, Int64.add_sub_cancel]
theorem pl0 : plainFor x = true := plainFor_of_name (by first | (simp [plainName, overriddenIn, x]; done) | decide +kernel)
set_option maxRecDepth 65536 in
set_option maxHeartbeats 40000000 in
theorem law_ok (l : Launch) (Z : State) (a0 : Array Value) (hw : ∀ d ∈ tables_1, d.before a0 Z = true) (n0 : Nat) (i0 i1 : Int32) (i2 i3 i4 : Int64) (h : Heap) (z : Int32) (hz : ¬ z = 0) (S1 : Sta Z h "java/lang/String" "COMPACT_STRINGS" "Z" (.int z)) (S2 : Sta Z h "com/example/defer2/defer2/bench/Plan" "MAX_DIGITS" "I" (.int 10)) :
    ConH ELx l Z n0 x code maxLocals ret tables_1 room_1 #[(.int i0), (.int i1), (.long i2), (.long i3), (.long i4)] h (fun v _ => v = some (.int 1)) := by
  refine ConH.of (a0 := a0) [(7, 1048575), (8, 2147483647)] [(9, 16777215), (11, 1000)] pl0 [.val (.int i0), .val (.int i1), .val (.long i2), .second, .val (.long i3), .second, .val (.long i4), .second, .unset, .unset, .unset, .unset, .unset, .unset, .unset, .unset, .unset, .unset, .unset, .unset, .unset] (fun m => by first | (simp [entryFrame, mkF, argsToLocals, Value.category, maxLocals]; done) | rfl) (consI (hw _ (List.mem_of_getElem? (i := 0) rfl)) (consI (hw _ (List.mem_of_getElem? (i := 1) rfl)) nilI)) (consI (hw _ (List.mem_of_getElem? (i := 2) rfl)) (consI (hw _ (List.mem_of_getElem? (i := 3) rfl)) nilI)) ?_
  intro EE nz p e s m below meth c HC D K
  have H : Hp Z ⟨[("java/lang/String", "COMPACT_STRINGS", "Z", .int z), ("com/example/defer2/defer2/bench/Plan", "MAX_DIGITS", "I", .int 10)], ELx, s.vm, []⟩ h [] := Hp.nil (consI S1 (consI S2 nilI)) HC nilI
  refine go_ok K [(0, .iload_n 0, 1, 0, 0), (1, .ldc 7, 3, 1048575, 0), (3, .iand, 4, 0, 0), (4, .iconst 1, 5, 1, 0), (5, .iadd, 6, 0, 0), (6, .istore 8, 8, 0, 0), (8, .iload_n 1, 9, 0, 0), (9, .ldc 8, 11, 2147483647, 0), (11, .iand, 12, 0, 0), (12, .iload 8, 14, 0, 0)] _ _ _ (by decide +kernel) rfl ?_
  have LW := own_law (a := i0) (b := i1) (g := i4) rfl rfl rfl
  refine o_irem K at_14 rfl LW.1 ?_
  refine go_ok K [(15, .istore 9, 17, 0, 0), (17, .lload 6, 19, 0, 0), (19, .ldc2_w 9, 22, 0, 16777215), (22, .land, 23, 0, 0), (23, .lstore 10, 25, 0, 0), (25, .lload 10, 27, 0, 0), (27, .ldc2_w 11, 30, 0, 1000), (30, .lmul, 31, 0, 0), (31, .lstore 12, 33, 0, 0)] _ _ _ (by decide +kernel) rfl ?_
  refine h_new K H F_2 [.null, .int 0, .long 0, .long 0, .null, .null] (lay_2 hw) (by decide +kernel) (hw _ (List.mem_of_getElem? (i := 4) rfl)) (hw _ (List.mem_of_getElem? (i := 5) rfl)) (hw _ (List.mem_of_getElem? (i := 6) rfl)) at_33 rfl (by decide) (by decide) ?_
  intro h pl gpl H
  refine go_ok K [(36, .dup, 37, 0, 0)] _ _ _ (by decide +kernel) rfl ?_
  refine h_ldcH (F := F_0) (fun b => [.ref b, .int 0]) K D (Nat.le_refl _) H rfl (hw _ (List.mem_of_getElem? (i := 7) rfl)) (satoms hw) (ewx hw) (List.mem_of_getElem? (i := 7) rfl) (vs := [.int 114]) (z := 1) ⟨by decide, by decide⟩ (by decide) rfl fbx (fun _ => rfl) at_37 rfl 4 (by decide) (by decide) (by decide) (by decide) ?_
  intro s nz h la ld D K H
  try dsimp only [Stc.st, Stc.EL, Stc.vm, Stc.ro] at H
  refine go_ok K [(39, .iload 8, 41, 0, 0), (41, .lload_n 2, 42, 0, 0), (42, .lload 4, 44, 0, 0), (44, .lload 10, 46, 0, 0)] _ _ _ (by decide +kernel) rfl ?_
  refine call_iH K D (Nat.le_refl _) (ewx hw) (show CHv Z ELx s.vm _ from H.2.2.2.1) rfl (hw _ (List.mem_of_getElem? (i := 15) rfl)) (hw _ (List.mem_of_getElem? (i := 16) rfl)) (hw _ (List.mem_of_getElem? (i := 6) rfl)) (hw _ (List.mem_of_getElem? (i := 17) rfl)) (kpi l Z a0 hw n0 z pl la ld _ _ _ _ _ hz gpl (H.sta (i := 0) rfl) (H.sta (i := 1) rfl) (H.2.1 _ (List.mem_cons_self ..)) (H.rd (i := 0) rfl) (H.rd (i := 1) rfl)) at_46 rfl rfl [.ref la, .int _, .long _, .long _, .long _] [.ref pl] rfl rfl pd22 rfl (by decide) 1 (Nat.le_of_ble_eq_true rfl) (by decide) (by decide) (by decide) (by decide) ?_
  rintro _ s nz h ⟨rfl, x1, x2, x3, H⟩ D K
  refine go_ok K [(49, .astore 14, 51, 0, 0), (51, .lload_n 2, 52, 0, 0), (52, .lload 4, 54, 0, 0), (54, .ldc2_w 11, 57, 0, 1000), (57, .lmul, 58, 0, 0), (58, .ladd, 59, 0, 0), (59, .lstore 15, 61, 0, 0), (61, .aload 14, 63, 0, 0), (63, .iload 9, 65, 0, 0)] _ _ _ (by decide +kernel) rfl ?_
  refine call_v K (hw _ (List.mem_of_getElem? (i := 192) rfl)) (hw _ (List.mem_of_getElem? (i := 193) rfl)) (hw _ (List.mem_of_getElem? (i := 195) rfl)) (hw _ (List.mem_of_getElem? (i := 194) rfl)) (hw _ (List.mem_of_getElem? (i := 6) rfl)) (hw _ (List.mem_of_getElem? (i := 196) rfl)) (H.exa (i := 0) rfl) (kdu l Z a0 hw n0 _ _ pl _ _ _ _ _ _ _ _ LW.2.1 H) at_65 rfl rfl [.int _] [] rfl rfl pd23 rfl (fun _ q => notFace_of_selects q) (by decide) 0 (Nat.le_of_ble_eq_true rfl) (by decide) (by decide) (by decide) (by decide) ?_
  rintro _ _ ⟨rfl, rfl⟩
  refine go_ok K [(68, .lload 15, 70, 0, 0), (70, .lsub, 71, 0, 0), (71, .lstore 17, 73, 0, 0), (73, .iload 9, 75, 0, 0), (75, .i2l, 76, 0, 0), (76, .lload 12, 78, 0, 0), (78, .lmul, 79, 0, 0), (79, .lstore 19, 81, 0, 0), (81, .lload 17, 83, 0, 0), (83, .lconst 0, 84, 0, 0), (84, .lcmp, 85, 0, 0)] _ _ _ (by decide +kernel) rfl ?_
  refine lc_lt (pc' := 126) (pn := 88) K at_85 (by decide) (by decide) rfl (fun h85 => ?_) (fun h85 => ?_)
  · rw [own_d] at h85
    exact absurd h85 LW.2.2.1
  · refine go_ok K [(88, .lload 17, 90, 0, 0), (90, .lload 12, 92, 0, 0), (92, .lcmp, 93, 0, 0)] _ _ _ (by decide +kernel) rfl ?_
    refine lc_gt (pc' := 126) (pn := 96) K at_93 (by decide) (by decide) rfl (fun h93 => ?_) (fun h93 => ?_)
    · rw [own_d] at h93
      exact absurd h93 LW.2.2.2.1
    · refine go_ok K [(96, .lload 17, 98, 0, 0), (98, .iload 8, 100, 0, 0), (100, .i2l, 101, 0, 0), (101, .lmul, 102, 0, 0), (102, .lload 19, 104, 0, 0), (104, .lcmp, 105, 0, 0)] _ _ _ (by decide +kernel) rfl ?_
      refine lc_gt (pc' := 126) (pn := 108) K at_105 (by decide) (by decide) rfl (fun h105 => ?_) (fun h105 => ?_)
      · rw [own_d] at h105
        exact absurd h105 LW.2.2.2.2.1
      · refine go_ok K [(108, .lload 19, 110, 0, 0), (110, .lload 17, 112, 0, 0), (112, .lconst 1, 113, 0, 1), (113, .ladd, 114, 0, 0), (114, .iload 8, 116, 0, 0), (116, .i2l, 117, 0, 0), (117, .lmul, 118, 0, 0), (118, .lcmp, 119, 0, 0)] _ _ _ (by decide +kernel) rfl ?_
        refine lc_ge (pc' := 126) (pn := 122) K at_119 (by decide) (by decide) rfl (fun h119 => ?_) (fun h119 => ?_)
        · rw [own_d] at h119
          exact absurd LW.2.2.2.2.2 h119
        · refine go_ok K [(122, .iconst 1, 123, 1, 0), (123, .goto 4, 127, 0, 0)] _ _ _ (by decide +kernel) rfl ?_
          refine ret_z K at_127 (by first | exact Or.inl rfl | exact Or.inr rfl) (by decide) (by decide) ?_
          rfl
theorem own_nz {args : Array Value} {Z : State} {t : Term} {z : Int32} (ev : t.eval args Z none [] Z = some (.int z)) (hq : (Jvm.Cond.not (Jvm.Cond.eq t (Term.int 0))).before args Z = true) : ¬ z = 0 := by
  have hq := Cond.before_iff.mp hq
  have e2 : (Term.int 0).eval args Z none [] Z = some (.int 0) := rfl
  intro q; subst q
  simp [Cond.value, ev, e2] at hq
set_option maxRecDepth 65536 in
set_option maxHeartbeats 40000000 in
theorem comes_1 {Post : Tables → Env → Array Value → State → Outcome → State → Prop} (hpost : ∀ tb e args s v u, (limb_1_1.after args s (.returned v) u = true ∧ limb_1_2.after args s (.returned v) u = true ∧ True) → ReturnedEndW s (.returned v) u (Jvm.fieldLocs frame_1_writes args s ++ Jvm.arrayLocs frame_1_arrays args s ++ Jvm.staticLocs frame_1_statics s) 208 16576 → Post tb e args s (.returned v) u) :
    ArmFor flags0 classFile x code maxLocals ret World_1 tables_1 room_1 Calls_1 rest_1 Pre_1 Post := by
  intro l hfl _ _ p e ha hc hk s m args below hf hA hF happ hP
  obtain ⟨hcalls, hrest, hpre⟩ := hP
  obtain ⟨-, -, -, hnamed, -, -, -, hat⟩ := (Spec.applies_iff hf).mp happ
  obtain ⟨hg, hn⟩ := and_e (Cond.before_iff.mp (show (Jvm.Cond.and given_1 narrow_1).before args s = true from hpre))
  obtain ⟨ga1, gb1⟩ := and_e hg
  obtain ⟨ga2, gb2⟩ := and_e gb1
  obtain ⟨ga3, gb3⟩ := and_e gb2
  obtain ⟨ga4, gb4⟩ := and_e gb3
  obtain ⟨ga5, gb5⟩ := and_e gb4
  obtain ⟨w0, w1, w2, w3, w4, rfl⟩ : ∃ w0 w1 w2 w3 w4 : Value, args = #[w0, w1, w2, w3, w4] := by
    have hs : args.size = 5 := by simpa [Cond.value, given_1] using ga1
    obtain ⟨L⟩ := args
    match L, hs with
    | [w0, w1, w2, w3, w4], _ => exact ⟨w0, w1, w2, w3, w4, rfl⟩
  have hw := fun d (hd : d ∈ tables_1) => atoms_spec (ws := Jvm.Cond.code x code maxLocals ret :: tables_1) hat d (List.mem_cons_of_mem _ hd)
  have hfit : Fit s := fun {y c} hc i hi => by
    obtain ⟨ha, rfl⟩ := Array.getElem?_eq_some_iff.mp hc
    have q := List.all_eq_true.mp ((Array.all_eq_true_iff_forall_mem.mp hF) _ (Array.getElem_mem ha)) i (List.mem_range.mpr hi)
    simpa [Array.getElem?_eq_getElem hi] using q
  obtain ⟨i0, ei0⟩ := is_v ga2
  obtain rfl : w0 = (.int i0) := Option.some.inj ei0
  obtain ⟨i1, ei1⟩ := is_v ga3
  obtain rfl : w1 = (.int i1) := Option.some.inj ei1
  obtain ⟨i2, ei2⟩ := isL_v ga4
  obtain rfl : w2 = (.long i2) := Option.some.inj ei2
  obtain ⟨i3, ei3⟩ := isL_v ga5
  obtain rfl : w3 = (.long i3) := Option.some.inj ei3
  obtain ⟨i4, ei4⟩ := isL_v gb5
  obtain rfl : w4 = (.long i4) := Option.some.inj ei4
  obtain ⟨hsets, hown0⟩ := atoms_of _ (rest_1_c_eq ▸ (show rest_1_c.before _ s = true from hrest))
  have hr0 := Cond.before_iff.mp hown0
  obtain ⟨z, evz⟩ := is_v (Cond.before_iff.mp (hsets _ (List.mem_of_getElem? (i := 1) rfl)))
  have hz := own_nz evz (hsets _ (List.mem_of_getElem? (i := 2) rfl))
  have SC := Sta.start evz (Or.inl (hsets _ (List.mem_of_getElem? (i := 0) rfl)))
  have Em := Cond.eq_int (Cond.before_iff.mpr hn) rfl
  have SM := Sta.start Em (Or.inr ⟨(hw _ (List.mem_of_getElem? (i := 6) rfl)), (hw _ (List.mem_of_getElem? (i := 168) rfl))⟩)
  have hcw := hsets _ (List.mem_of_getElem? (i := 2) rfl)
  have HC := CHv.start (ewx hw) (fun q hq => hcalls.1 q (by simp only [ELx, consts_1, List.mem_cons, List.not_mem_nil, or_false] at hq ⊢; exact hq)) hcw (hw _ (List.mem_of_getElem? (i := 10) rfl)) (hw _ (List.mem_of_getElem? (i := 9) rfl))
  obtain ⟨n, o, h1, h2, h3, _, L, rfl, ⟨rfl, N, -⟩, hq⟩ := law_ok l s _ hw s.heap.size i0 i1 i2 i3 i4 s.heap z hz SC SM s.heap.size (Nat.le_refl _) (Nat.le_refl _) p e ha hc hk s m _ below hf ((Spec.applies_iff_loose hf).mp happ).1 ⟨rfl, State.Warmed39.refl s, rfl, HC⟩ trivial
  refine ⟨n, _, h1, h2, h3, hpost _ _ _ _ _ _ ⟨Cond.after_iff.mpr rfl, Cond.after_iff.mpr (eq_i res_at (Term.int_eval (1)) rfl), trivial⟩ ⟨hq.1, hq.2.1, hq.2.2.1, (hq.2.2.2.sift fun y hy => Or.inr (N y hy)).mono (by decide) (by decide)⟩⟩
theorem main_1_1 : Claimed_1_1 := comes_1 fun _ _ _ _ _ _ h hF => ⟨h.1, hF⟩
theorem main_1_2 : Claimed_1_2 := comes_1 fun _ _ _ _ _ _ h hF => ⟨h.2.1, hF⟩
end Jvm.Pilot.@@N@@
namespace Jvm.Pilot.@@N@@
open Jvm Jvm.ClassFile Sem Op Lib Jvm.Free Jvm.Stand Jvm.Pilot.@@N@@.Jvm.D
/-! MADE BY PROGRAM (witnessworld.py) out of the Statement's table words and the real class files: 24 classes; the members and pool entries that the words name. The judged class is class 1, her method 1. -/
namespace start1
open Jvm.ClassFile
def u (s : String) : CpInfo := .utf8 (stringToUtf16 s)
/-- a pool by its gaps: so many unusable entries, then the entry; so many at the end -/
def gap : Nat → List CpInfo → List CpInfo
  | 0, r => r
  | n + 1, r => .unusable :: gap n r
def poolList (es : List (Nat × CpInfo)) (last : Nat) : List CpInfo := es.foldr (fun e r => gap e.1 (e.2 :: r)) (gap last [])
def pool (es : List (Nat × CpInfo)) (last : Nat) : Array CpInfo := ⟨poolList es last⟩
def fileOf (pool : Array CpInfo) (this : Nat) (attrs : Array Attribute := #[]) (ms : Array MethodInfo := #[]) (fl : Nat := 33) (sup : Nat := 0) (ifs : Array Nat := #[]) (fds : Array FieldInfo := #[]) : ClassFile where
  minorVersion := 0
  majorVersion := 65
  constantPool := pool
  accessFlags := fl
  thisClass := this
  superClass := sup
  interfaces := ifs
  fields := fds
  methods := ms
  attributes := attrs
def plain (name : String) (sup : Option ClassId) : Class where
  name := name
  kind := .ordinary
  loader := none
  accessFlags := 33
  super := sup
  interfaces := #[]
  cf := none
  fields := #[]
  methods := #[]
  instanceTypes := #[]
  staticTypes := #[]
  resolved := #[]
  callSites := []
  init := .initialized
  statics := none
  mirror := none

def pool0 : Array CpInfo := pool [(5, u "<init>"), (0, u "()V"), (1, .class_ 10), (1, u "java/lang/Object")] 113

def k0c0 : Code := { maxStack := 0, maxLocals := 1, code := object_method_1_code, exceptionTable := #[], attributes := #[] }
def k0m0 : Method := { name := "<init>", desc := "()V", sig := { parameters := [], returnType := none }, accessFlags := 1, code := some k0c0 }
/-- java/lang/Object -/
def k0 : Class := { plain "java/lang/Object" none with
  accessFlags := 33
  interfaces := #[]
  cf := some (fileOf pool0 8 #[] #[{ accessFlags := 1, nameIndex := 5, descriptorIndex := 6, attributes := #[] }] 33 0 #[] #[])
  fields := #[]
  methods := #[k0m0]
  instanceTypes := #[]
  staticTypes := #[]
  resolved := Array.replicate 124 none
  statics := none }

def pool1 : Array CpInfo := pool [(2, .class_ 4), (1, u "java/lang/Object"), (0, u "<init>"), (0, u "()V"), (0, .integer 1048575), (0, .integer 2147483647), (0, .long 16777215), (1, .long 1000), (1, .class_ 14), (0, u "com/example/defer2/defer2/bench/Plan"), (0, .string 16), (0, u "r"), (0, .methodref 13 18), (0, .nameAndType 5 19), (0, u "(Ljava/lang/String;IJJJ)V"), (0, .methodref 13 21), (0, .nameAndType 22 23), (0, u "dueAt"), (0, u "(I)J"), (0, .class_ 25), (0, u "com/example/defer2/defer2/bench/PlanDueAtPinLaw"), (2, u "law"), (0, u "(IIJJJ)Z")] 3

def k1m0 : Method := { name := "<init>", desc := "()V", sig := { parameters := [], returnType := none }, accessFlags := 1, code := none }
def k1c1 : Code := { maxStack := 10, maxLocals := 21, code := code, exceptionTable := #[], attributes := #[] }
def k1m1 : Method := { name := "law", desc := "(IIJJJ)Z", sig := { parameters := [.int, .int, .long, .long, .long], returnType := some .boolean }, accessFlags := 9, code := some k1c1 }
/-- com/example/defer2/defer2/bench/PlanDueAtPinLaw -/
def k1 : Class := { plain "com/example/defer2/defer2/bench/PlanDueAtPinLaw" (some 0) with
  accessFlags := 49
  interfaces := #[]
  cf := some (fileOf pool1 24 #[] #[{ accessFlags := 1, nameIndex := 5, descriptorIndex := 6, attributes := #[] }, { accessFlags := 9, nameIndex := 28, descriptorIndex := 29, attributes := #[] }] 49 2 #[] #[])
  fields := #[]
  methods := #[k1m0, k1m1]
  instanceTypes := #[]
  staticTypes := #[]
  resolved := Array.replicate 33 none
  statics := none }

def pool2 : Array CpInfo := pool [(1, .methodref 2 3), (0, .class_ 4), (0, .nameAndType 5 6), (0, u "java/lang/Object"), (0, u "<init>"), (0, u "()V"), (0, .class_ 8), (0, u "java/lang/StringBuilder"), (0, .methodref 7 3), (0, .methodref 7 11), (0, .nameAndType 12 13), (0, u "append"), (0, u "(Ljava/lang/String;)Ljava/lang/StringBuilder;"), (0, .string 15), (0, u "-"), (0, .methodref 7 17), (0, .nameAndType 18 19), (0, u "toString"), (0, u "()Ljava/lang/String;"), (0, .fieldref 21 22), (0, .class_ 23), (0, .nameAndType 24 25), (0, u "com/example/defer2/defer2/bench/Plan"), (0, u "idStart"), (0, u "Ljava/lang/String;"), (0, .fieldref 21 27), (0, .nameAndType 28 29), (0, u "jobs"), (0, u "I"), (0, .long 1000), (1, .fieldref 21 33), (0, .nameAndType 34 35), (0, u "firstDueAt"), (0, u "J"), (0, .fieldref 21 37), (0, .nameAndType 38 35), (0, u "windowMs"), (0, .string 40), (0, u "{\"run\":\""), (0, .string 42), (0, u "\",\"job\":"), (0, .fieldref 21 44), (0, .nameAndType 45 25), (0, u "payloadStart"), (0, .fieldref 21 47), (0, .nameAndType 48 29), (0, u "MAX_DIGITS"), (0, .class_ 50), (0, u "java/lang/String"), (0, .fieldref 21 52), (0, .nameAndType 53 54), (0, u "payloadEnds"), (0, u "[Ljava/lang/String;"), (0, .methodref 49 56), (0, .nameAndType 57 58), (0, u "length"), (0, u "()I"), (0, .string 60), (0, u ",\"pad\":\"\"}"), (0, .string 62), (0, u ",\"pad\":\""), (0, .string 64), (0, u "."), (0, .methodref 66 67), (0, .class_ 68), (0, .nameAndType 69 70), (0, u "java/lang/Math"), (0, u "max"), (0, u "(II)I"), (0, .methodref 49 72), (0, .nameAndType 73 74), (0, u "repeat"), (0, u "(I)Ljava/lang/String;"), (0, .string 76), (0, u "\"}"), (17, u "dueAt"), (0, u "(I)J"), (5, u "PAYLOAD_BYTES"), (2, u "(Ljava/lang/String;IJJJ)V")] 12

def k2c0 : Code := { maxStack := 7, maxLocals := 11, code := prog_6_method_1_code, exceptionTable := #[], attributes := #[] }
def k2m0 : Method := { name := "<init>", desc := "(Ljava/lang/String;IJJJ)V", sig := { parameters := [(.object "java/lang/String"), .int, .long, .long, .long], returnType := none }, accessFlags := 0, code := some k2c0 }
def k2c1 : Code := { maxStack := 6, maxLocals := 2, code := prog_6_method_4_code, exceptionTable := #[], attributes := #[] }
def k2m1 : Method := { name := "dueAt", desc := "(I)J", sig := { parameters := [.int], returnType := some .long }, accessFlags := 0, code := some k2c1 }
/-- com/example/defer2/defer2/bench/Plan -/
def k2 : Class := { plain "com/example/defer2/defer2/bench/Plan" (some 0) with
  accessFlags := 48
  interfaces := #[]
  cf := some (fileOf pool2 21 #[] #[{ accessFlags := 0, nameIndex := 5, descriptorIndex := 104, attributes := #[] }, { accessFlags := 0, nameIndex := 94, descriptorIndex := 95, attributes := #[] }] 48 2 #[] #[{ accessFlags := 26, nameIndex := 101, descriptorIndex := 29, attributes := #[] }, { accessFlags := 26, nameIndex := 48, descriptorIndex := 29, attributes := #[] }, { accessFlags := 18, nameIndex := 24, descriptorIndex := 25, attributes := #[] }, { accessFlags := 18, nameIndex := 28, descriptorIndex := 29, attributes := #[] }, { accessFlags := 18, nameIndex := 34, descriptorIndex := 35, attributes := #[] }, { accessFlags := 18, nameIndex := 38, descriptorIndex := 35, attributes := #[] }, { accessFlags := 18, nameIndex := 45, descriptorIndex := 25, attributes := #[] }, { accessFlags := 18, nameIndex := 53, descriptorIndex := 54, attributes := #[] }])
  fields := #[{ name := "PAYLOAD_BYTES", type := .int, accessFlags := 26, slot := 0, constantValue := 0 }, { name := "MAX_DIGITS", type := .int, accessFlags := 26, slot := 1, constantValue := 0 }, { name := "idStart", type := (.object "java/lang/String"), accessFlags := 18, slot := 0, constantValue := 0 }, { name := "jobs", type := .int, accessFlags := 18, slot := 1, constantValue := 0 }, { name := "firstDueAt", type := .long, accessFlags := 18, slot := 2, constantValue := 0 }, { name := "windowMs", type := .long, accessFlags := 18, slot := 3, constantValue := 0 }, { name := "payloadStart", type := (.object "java/lang/String"), accessFlags := 18, slot := 4, constantValue := 0 }, { name := "payloadEnds", type := (.array (.object "java/lang/String")), accessFlags := 18, slot := 5, constantValue := 0 }]
  methods := #[k2m0, k2m1]
  instanceTypes := #[(.object "java/lang/String"), .int, .long, .long, (.object "java/lang/String"), (.array (.object "java/lang/String"))]
  staticTypes := #[.int, .int]
  resolved := Array.replicate 117 none
  statics := some 0 }

def pool3 : Array CpInfo := pool [(1, .class_ 2), (0, u "java/io/Serializable"), (0, .class_ 4), (0, u "java/lang/Object")] 2

/-- java/io/Serializable -/
def k3 : Class := { plain "java/io/Serializable" (some 0) with
  accessFlags := 1537
  interfaces := #[]
  cf := some (fileOf pool3 1 #[] #[] 1537 3 #[] #[])
  fields := #[]
  methods := #[]
  instanceTypes := #[]
  staticTypes := #[]
  resolved := Array.replicate 7 none
  statics := none }

def pool4 : Array CpInfo := pool [(1, .class_ 2), (0, u "java/lang/Comparable"), (0, .class_ 4), (0, u "java/lang/Object")] 7

/-- java/lang/Comparable -/
def k4 : Class := { plain "java/lang/Comparable" (some 0) with
  accessFlags := 1537
  interfaces := #[]
  cf := some (fileOf pool4 1 #[] #[] 1537 3 #[] #[])
  fields := #[]
  methods := #[]
  instanceTypes := #[]
  staticTypes := #[]
  resolved := Array.replicate 12 none
  statics := none }

def pool5 : Array CpInfo := pool [(2, .class_ 4), (1, u "java/lang/CharSequence"), (42, .class_ 48), (0, u "java/lang/CharSequence$1CodePointIterator"), (10, .class_ 60), (0, u "java/lang/CharSequence$1CharIterator"), (5, .class_ 67), (0, u "java/lang/Object")] 63

/-- java/lang/CharSequence -/
def k5 : Class := { plain "java/lang/CharSequence" (some 0) with
  accessFlags := 1537
  interfaces := #[]
  cf := some (fileOf pool5 2 #[.nestMembers #[47, 59]] #[] 1537 66 #[] #[])
  fields := #[]
  methods := #[]
  instanceTypes := #[]
  staticTypes := #[]
  resolved := Array.replicate 131 none
  statics := none }

def pool6 : Array CpInfo := pool [(1, .class_ 2), (0, u "java/lang/constant/Constable"), (0, .class_ 4), (0, u "java/lang/Object")] 6

/-- java/lang/constant/Constable -/
def k6 : Class := { plain "java/lang/constant/Constable" (some 0) with
  accessFlags := 1537
  interfaces := #[]
  cf := some (fileOf pool6 1 #[] #[] 1537 3 #[] #[])
  fields := #[]
  methods := #[]
  instanceTypes := #[]
  staticTypes := #[]
  resolved := Array.replicate 11 none
  statics := none }

def pool7 : Array CpInfo := pool [(1, .class_ 2), (0, u "java/lang/constant/ConstantDesc"), (0, .class_ 4), (0, u "java/lang/Object")] 32

/-- java/lang/constant/ConstantDesc -/
def k7 : Class := { plain "java/lang/constant/ConstantDesc" (some 0) with
  accessFlags := 1537
  interfaces := #[]
  cf := some (fileOf pool7 1 #[] #[] 1537 3 #[] #[])
  fields := #[]
  methods := #[]
  instanceTypes := #[]
  staticTypes := #[]
  resolved := Array.replicate 37 none
  statics := none }

def pool8 : Array CpInfo := pool [(1, .methodref 2 3), (0, .class_ 4), (0, .nameAndType 5 6), (0, u "java/lang/Object"), (0, u "<init>"), (0, u "()V"), (2, .fieldref 10 11), (0, .class_ 12), (0, .nameAndType 13 14), (0, u "java/lang/String"), (0, u "value"), (0, u "[B"), (0, .fieldref 10 16), (0, .nameAndType 17 18), (0, u "coder"), (0, u "B"), (2, u "hash"), (0, u "I"), (2, u "hashIsZero"), (0, u "Z"), (11, .fieldref 10 39), (0, .nameAndType 40 26), (0, u "COMPACT_STRINGS"), (13, .methodref 55 56), (0, .class_ 57), (0, .nameAndType 58 59), (0, u "java/util/Arrays"), (0, u "copyOfRange"), (0, u "([BII)[B"), (82, u "()Z"), (50, .class_ 195), (1, u "java/lang/System"), (13, .methodref 10 210), (0, .nameAndType 5 211), (0, u "([BB)V"), (0, .methodref 193 213), (0, .nameAndType 214 215), (0, u "arraycopy"), (0, u "(Ljava/lang/Object;ILjava/lang/Object;II)V"), (118, u "()I"), (0, .methodref 10 336), (0, .nameAndType 17 337), (0, u "()B"), (2, u "()[B"), (148, .methodref 10 490), (0, .nameAndType 5 491), (0, u "(Ljava/lang/AbstractStringBuilder;Ljava/lang/Void;)V"), (1, .nameAndType 494 142), (0, u "isLatin1"), (11, .nameAndType 507 334), (0, u "length"), (24, u "getBytes"), (16, .methodref 550 506), (0, .class_ 551), (0, u "java/lang/AbstractStringBuilder"), (0, .methodref 550 553), (0, .nameAndType 554 340), (0, u "getValue"), (20, .class_ 576), (0, u "java/lang/CharSequence"), (22, u "CASE_INSENSITIVE_ORDER"), (0, u "Ljava/util/Comparator;"), (220, u "([BIB)V"), (69, u "repeat"), (0, u "(I)Ljava/lang/String;"), (50, .integer 2147483647), (97, .methodref 55 1042), (0, .nameAndType 1043 211), (0, u "fill"), (3, .methodref 550 493), (53, u "serialPersistentFields"), (0, u "[Ljava/io/ObjectStreamField;"), (0, .class_ 1104), (0, u "java/lang/String$CaseInsensitiveComparator"), (1, .class_ 1107), (0, u "java/io/Serializable"), (0, .class_ 1109), (0, u "java/lang/Comparable"), (0, .class_ 1111), (0, u "java/lang/constant/Constable"), (0, .class_ 1113), (0, u "java/lang/constant/ConstantDesc"), (2, u "serialVersionUID"), (0, u "J"), (3, u "REPL"), (0, u "C"), (2, u "LATIN1"), (1, u "UTF16"), (105, u "(Ljava/lang/StringBuilder;)V")] 217

def k8m0 : Method := { name := "<init>", desc := "()V", sig := { parameters := [], returnType := none }, accessFlags := 1, code := none }
def k8c1 : Code := { maxStack := 3, maxLocals := 2, code := jdk_42_method_53_code, exceptionTable := #[], attributes := #[] }
def k8m1 : Method := { name := "<init>", desc := "(Ljava/lang/StringBuilder;)V", sig := { parameters := [(.object "java/lang/StringBuilder")], returnType := none }, accessFlags := 1, code := some k8c1 }
def k8c2 : Code := { maxStack := 2, maxLocals := 1, code := jdk_42_method_54_code, exceptionTable := #[], attributes := #[] }
def k8m2 : Method := { name := "length", desc := "()I", sig := { parameters := [], returnType := some .int }, accessFlags := 1, code := some k8c2 }
def k8c3 : Code := { maxStack := 5, maxLocals := 5, code := jdk_42_method_145_code, exceptionTable := #[], attributes := #[] }
def k8m3 : Method := { name := "repeat", desc := "(I)Ljava/lang/String;", sig := { parameters := [.int], returnType := some (.object "java/lang/String") }, accessFlags := 1, code := some k8c3 }
def k8c4 : Code := { maxStack := 5, maxLocals := 4, code := jdk_42_method_147_code, exceptionTable := #[], attributes := #[] }
def k8m4 : Method := { name := "getBytes", desc := "([BIB)V", sig := { parameters := [(.array .byte), .int, .byte], returnType := none }, accessFlags := 0, code := some k8c4 }
def k8c5 : Code := { maxStack := 5, maxLocals := 5, code := jdk_42_method_150_code, exceptionTable := #[], attributes := #[] }
def k8m5 : Method := { name := "<init>", desc := "(Ljava/lang/AbstractStringBuilder;Ljava/lang/Void;)V", sig := { parameters := [(.object "java/lang/AbstractStringBuilder"), (.object "java/lang/Void")], returnType := none }, accessFlags := 0, code := some k8c5 }
def k8c6 : Code := { maxStack := 2, maxLocals := 3, code := jdk_42_method_151_code, exceptionTable := #[], attributes := #[] }
def k8m6 : Method := { name := "<init>", desc := "([BB)V", sig := { parameters := [(.array .byte), .byte], returnType := none }, accessFlags := 0, code := some k8c6 }
def k8c7 : Code := { maxStack := 1, maxLocals := 1, code := jdk_42_method_152_code, exceptionTable := #[], attributes := #[] }
def k8m7 : Method := { name := "coder", desc := "()B", sig := { parameters := [], returnType := some .byte }, accessFlags := 0, code := some k8c7 }
/-- java/lang/String -/
def k8 : Class := { plain "java/lang/String" (some 0) with
  accessFlags := 49
  interfaces := #[3, 4, 5, 6, 7]
  cf := some (fileOf pool8 10 #[.nestMembers #[1103]] #[{ accessFlags := 1, nameIndex := 5, descriptorIndex := 6, attributes := #[] }, { accessFlags := 1, nameIndex := 5, descriptorIndex := 1233, attributes := #[] }, { accessFlags := 1, nameIndex := 507, descriptorIndex := 334, attributes := #[] }, { accessFlags := 1, nameIndex := 891, descriptorIndex := 892, attributes := #[] }, { accessFlags := 0, nameIndex := 532, descriptorIndex := 821, attributes := #[] }, { accessFlags := 0, nameIndex := 5, descriptorIndex := 491, attributes := #[] }, { accessFlags := 0, nameIndex := 5, descriptorIndex := 211, attributes := #[] }, { accessFlags := 0, nameIndex := 17, descriptorIndex := 337, attributes := #[] }] 49 2 #[1106, 1108, 575, 1110, 1112] #[{ accessFlags := 18, nameIndex := 13, descriptorIndex := 14, attributes := #[] }, { accessFlags := 18, nameIndex := 17, descriptorIndex := 18, attributes := #[] }, { accessFlags := 2, nameIndex := 21, descriptorIndex := 22, attributes := #[] }, { accessFlags := 2, nameIndex := 25, descriptorIndex := 26, attributes := #[] }, { accessFlags := 26, nameIndex := 1116, descriptorIndex := 1117, attributes := #[] }, { accessFlags := 24, nameIndex := 40, descriptorIndex := 26, attributes := #[] }, { accessFlags := 26, nameIndex := 1101, descriptorIndex := 1102, attributes := #[] }, { accessFlags := 26, nameIndex := 1121, descriptorIndex := 1122, attributes := #[] }, { accessFlags := 25, nameIndex := 599, descriptorIndex := 600, attributes := #[] }, { accessFlags := 24, nameIndex := 1125, descriptorIndex := 18, attributes := #[] }, { accessFlags := 24, nameIndex := 1127, descriptorIndex := 18, attributes := #[] }])
  fields := #[{ name := "value", type := (.array .byte), accessFlags := 18, slot := 0, constantValue := 0 }, { name := "coder", type := .byte, accessFlags := 18, slot := 1, constantValue := 0 }, { name := "hash", type := .int, accessFlags := 2, slot := 2, constantValue := 0 }, { name := "hashIsZero", type := .boolean, accessFlags := 2, slot := 3, constantValue := 0 }, { name := "serialVersionUID", type := .long, accessFlags := 26, slot := 0, constantValue := 0 }, { name := "COMPACT_STRINGS", type := .boolean, accessFlags := 24, slot := 1, constantValue := 0 }, { name := "serialPersistentFields", type := (.array (.object "java/io/ObjectStreamField")), accessFlags := 26, slot := 2, constantValue := 0 }, { name := "REPL", type := .char, accessFlags := 26, slot := 3, constantValue := 0 }, { name := "CASE_INSENSITIVE_ORDER", type := (.object "java/util/Comparator"), accessFlags := 25, slot := 4, constantValue := 0 }, { name := "LATIN1", type := .byte, accessFlags := 24, slot := 5, constantValue := 0 }, { name := "UTF16", type := .byte, accessFlags := 24, slot := 6, constantValue := 0 }]
  methods := #[k8m0, k8m1, k8m2, k8m3, k8m4, k8m5, k8m6, k8m7]
  instanceTypes := #[(.array .byte), .byte, .int, .boolean]
  staticTypes := #[.long, .boolean, (.array (.object "java/io/ObjectStreamField")), .char, (.object "java/util/Comparator"), .byte, .byte]
  resolved := Array.replicate 1451 none
  statics := some 1 }

def pool9 : Array CpInfo := pool [(1, .class_ 2), (0, u "java/lang/Appendable"), (0, .class_ 4), (0, u "java/lang/Object")] 9

/-- java/lang/Appendable -/
def k9 : Class := { plain "java/lang/Appendable" (some 0) with
  accessFlags := 1537
  interfaces := #[]
  cf := some (fileOf pool9 1 #[] #[] 1537 3 #[] #[])
  fields := #[]
  methods := #[]
  instanceTypes := #[]
  staticTypes := #[]
  resolved := Array.replicate 14 none
  statics := none }

def pool10 : Array CpInfo := pool [(1, .class_ 2), (0, u "java/lang/String"), (0, .methodref 4 5), (0, .class_ 6), (0, .nameAndType 7 8), (0, u "java/lang/Object"), (0, u "<init>"), (0, u "()V"), (1, .class_ 12), (1, u "java/lang/AbstractStringBuilder"), (0, u "EMPTYVALUE"), (0, u "[B"), (0, .fieldref 10 16), (0, .nameAndType 17 14), (0, u "value"), (0, .fieldref 1 19), (0, .nameAndType 20 21), (0, u "COMPACT_STRINGS"), (0, u "Z"), (0, .fieldref 10 23), (0, .nameAndType 24 25), (0, u "coder"), (0, u "B"), (6, .methodref 1 33), (0, .nameAndType 34 35), (0, u "length"), (0, u "()I"), (3, .integer 2147483647), (0, .methodref 1 41), (0, .nameAndType 24 42), (0, u "()B"), (2, u "append"), (0, u "(Ljava/lang/String;)Ljava/lang/AbstractStringBuilder;"), (1, .class_ 49), (0, u "java/lang/CharSequence"), (19, u "(Ljava/lang/String;)V"), (5, u "maybeLatin1"), (3, .fieldref 10 80), (0, .nameAndType 81 82), (0, u "count"), (0, u "I"), (2, u "isLatin1"), (0, u "()Z"), (13, .methodref 10 101), (0, .nameAndType 102 103), (0, u "ensureCapacityInternal"), (0, u "(I)V"), (0, .methodref 10 105), (0, .nameAndType 106 107), (0, u "newCapacity"), (0, u "(I)I"), (0, .methodref 109 110), (0, .class_ 111), (0, .nameAndType 112 113), (0, u "java/util/Arrays"), (0, u "copyOf"), (0, u "([BI)[B"), (0, .methodref 115 116), (0, .class_ 117), (0, .nameAndType 118 119), (0, u "jdk/internal/util/ArraysSupport"), (0, u "newLength"), (0, u "(III)I"), (88, .methodref 10 209), (0, .nameAndType 210 211), (0, u "putStringAt"), (0, u "(ILjava/lang/String;)V"), (5, u "inflateIfNeededFor"), (2, .nameAndType 221 222), (0, u "getBytes"), (0, u "([BIB)V"), (174, .methodref 10 398), (0, .nameAndType 217 69), (0, .methodref 1 220), (3, u "()[B"), (40, .class_ 445), (0, u "java/lang/Appendable"), (106, u "getValue")] 56

def k10m0 : Method := { name := "<init>", desc := "()V", sig := { parameters := [], returnType := none }, accessFlags := 0, code := none }
def k10c1 : Code := { maxStack := 2, maxLocals := 2, code := jdk_68_method_2_code, exceptionTable := #[], attributes := #[] }
def k10m1 : Method := { name := "<init>", desc := "(I)V", sig := { parameters := [.int], returnType := none }, accessFlags := 0, code := some k10c1 }
def k10c2 : Code := { maxStack := 1, maxLocals := 1, code := jdk_68_method_6_code, exceptionTable := #[], attributes := #[] }
def k10m2 : Method := { name := "length", desc := "()I", sig := { parameters := [], returnType := some .int }, accessFlags := 1, code := some k10c2 }
def k10c3 : Code := { maxStack := 4, maxLocals := 3, code := jdk_68_method_9_code, exceptionTable := #[], attributes := #[] }
def k10m3 : Method := { name := "ensureCapacityInternal", desc := "(I)V", sig := { parameters := [.int], returnType := none }, accessFlags := 2, code := some k10c3 }
def k10c4 : Code := { maxStack := 5, maxLocals := 6, code := jdk_68_method_10_code, exceptionTable := #[], attributes := #[] }
def k10m4 : Method := { name := "newCapacity", desc := "(I)I", sig := { parameters := [.int], returnType := some .int }, accessFlags := 2, code := some k10c4 }
def k10c5 : Code := { maxStack := 3, maxLocals := 3, code := jdk_68_method_22_code, exceptionTable := #[], attributes := #[] }
def k10m5 : Method := { name := "append", desc := "(Ljava/lang/String;)Ljava/lang/AbstractStringBuilder;", sig := { parameters := [(.object "java/lang/String")], returnType := some (.object "java/lang/AbstractStringBuilder") }, accessFlags := 1, code := some k10c5 }
def k10c6 : Code := { maxStack := 1, maxLocals := 1, code := jdk_68_method_64_code, exceptionTable := #[], attributes := #[] }
def k10m6 : Method := { name := "getValue", desc := "()[B", sig := { parameters := [], returnType := some (.array .byte) }, accessFlags := 16, code := some k10c6 }
def k10c7 : Code := { maxStack := 1, maxLocals := 1, code := jdk_68_method_68_code, exceptionTable := #[], attributes := #[] }
def k10m7 : Method := { name := "isLatin1", desc := "()Z", sig := { parameters := [], returnType := some .boolean }, accessFlags := 16, code := some k10c7 }
def k10c8 : Code := { maxStack := 2, maxLocals := 2, code := jdk_68_method_71_code, exceptionTable := #[], attributes := #[] }
def k10m8 : Method := { name := "inflateIfNeededFor", desc := "(Ljava/lang/String;)V", sig := { parameters := [(.object "java/lang/String")], returnType := none }, accessFlags := 2, code := some k10c8 }
def k10c9 : Code := { maxStack := 4, maxLocals := 3, code := jdk_68_method_73_code, exceptionTable := #[], attributes := #[] }
def k10m9 : Method := { name := "putStringAt", desc := "(ILjava/lang/String;)V", sig := { parameters := [.int, (.object "java/lang/String")], returnType := none }, accessFlags := 2, code := some k10c9 }
/-- java/lang/AbstractStringBuilder -/
def k10 : Class := { plain "java/lang/AbstractStringBuilder" (some 0) with
  accessFlags := 1056
  interfaces := #[9, 5]
  cf := some (fileOf pool10 10 #[] #[{ accessFlags := 0, nameIndex := 7, descriptorIndex := 8, attributes := #[] }, { accessFlags := 0, nameIndex := 7, descriptorIndex := 103, attributes := #[] }, { accessFlags := 1, nameIndex := 34, descriptorIndex := 35, attributes := #[] }, { accessFlags := 2, nameIndex := 102, descriptorIndex := 103, attributes := #[] }, { accessFlags := 2, nameIndex := 106, descriptorIndex := 107, attributes := #[] }, { accessFlags := 1, nameIndex := 45, descriptorIndex := 46, attributes := #[] }, { accessFlags := 16, nameIndex := 552, descriptorIndex := 403, attributes := #[] }, { accessFlags := 16, nameIndex := 85, descriptorIndex := 86, attributes := #[] }, { accessFlags := 2, nameIndex := 217, descriptorIndex := 69, attributes := #[] }, { accessFlags := 2, nameIndex := 210, descriptorIndex := 211, attributes := #[] }] 1056 4 #[444, 48] #[{ accessFlags := 0, nameIndex := 17, descriptorIndex := 14, attributes := #[] }, { accessFlags := 0, nameIndex := 24, descriptorIndex := 25, attributes := #[] }, { accessFlags := 0, nameIndex := 75, descriptorIndex := 21, attributes := #[] }, { accessFlags := 0, nameIndex := 81, descriptorIndex := 82, attributes := #[] }, { accessFlags := 26, nameIndex := 13, descriptorIndex := 14, attributes := #[] }])
  fields := #[{ name := "value", type := (.array .byte), accessFlags := 0, slot := 0, constantValue := 0 }, { name := "coder", type := .byte, accessFlags := 0, slot := 1, constantValue := 0 }, { name := "maybeLatin1", type := .boolean, accessFlags := 0, slot := 2, constantValue := 0 }, { name := "count", type := .int, accessFlags := 0, slot := 3, constantValue := 0 }, { name := "EMPTYVALUE", type := (.array .byte), accessFlags := 26, slot := 0, constantValue := 0 }]
  methods := #[k10m0, k10m1, k10m2, k10m3, k10m4, k10m5, k10m6, k10m7, k10m8, k10m9]
  instanceTypes := #[(.array .byte), .byte, .boolean, .int]
  staticTypes := #[(.array .byte)]
  resolved := Array.replicate 609 none
  statics := none }

def pool11 : Array CpInfo := pool [(1, .methodref 2 3), (0, .class_ 4), (0, .nameAndType 5 6), (0, u "java/lang/AbstractStringBuilder"), (0, u "<init>"), (0, u "(I)V"), (11, .class_ 20), (1, u "java/lang/String"), (3, .class_ 26), (1, u "java/lang/StringBuilder"), (0, u "append"), (0, u "(Ljava/lang/String;)Ljava/lang/StringBuilder;"), (0, .methodref 2 30), (0, .nameAndType 27 31), (0, u "(Ljava/lang/String;)Ljava/lang/AbstractStringBuilder;"), (105, .methodref 18 138), (0, .nameAndType 5 139), (0, u "(Ljava/lang/StringBuilder;)V"), (5, u "()V"), (10, u "()I"), (186, .methodref 2 344), (0, .nameAndType 345 156), (0, u "length"), (3, .class_ 350), (0, u "java/lang/Appendable"), (0, .class_ 352), (0, u "java/io/Serializable"), (0, .class_ 354), (0, u "java/lang/Comparable"), (0, .class_ 356), (0, u "java/lang/CharSequence"), (0, u "serialVersionUID"), (0, u "J"), (40, u "toString"), (0, u "()Ljava/lang/String;")] 21

def k11c0 : Code := { maxStack := 2, maxLocals := 1, code := jdk_67_method_1_code, exceptionTable := #[], attributes := #[] }
def k11m0 : Method := { name := "<init>", desc := "()V", sig := { parameters := [], returnType := none }, accessFlags := 1, code := some k11c0 }
def k11c1 : Code := { maxStack := 2, maxLocals := 2, code := jdk_67_method_7_code, exceptionTable := #[], attributes := #[] }
def k11m1 : Method := { name := "append", desc := "(Ljava/lang/String;)Ljava/lang/StringBuilder;", sig := { parameters := [(.object "java/lang/String")], returnType := some (.object "java/lang/StringBuilder") }, accessFlags := 1, code := some k11c1 }
def k11c2 : Code := { maxStack := 3, maxLocals := 1, code := jdk_67_method_42_code, exceptionTable := #[], attributes := #[] }
def k11m2 : Method := { name := "toString", desc := "()Ljava/lang/String;", sig := { parameters := [], returnType := some (.object "java/lang/String") }, accessFlags := 1, code := some k11c2 }
def k11c3 : Code := { maxStack := 1, maxLocals := 1, code := jdk_67_method_93_code, exceptionTable := #[], attributes := #[] }
def k11m3 : Method := { name := "length", desc := "()I", sig := { parameters := [], returnType := some .int }, accessFlags := 4161, code := some k11c3 }
/-- java/lang/StringBuilder -/
def k11 : Class := { plain "java/lang/StringBuilder" (some 10) with
  accessFlags := 49
  interfaces := #[9, 3, 4, 5]
  cf := some (fileOf pool11 24 #[] #[{ accessFlags := 1, nameIndex := 5, descriptorIndex := 145, attributes := #[] }, { accessFlags := 1, nameIndex := 27, descriptorIndex := 28, attributes := #[] }, { accessFlags := 1, nameIndex := 399, descriptorIndex := 400, attributes := #[] }, { accessFlags := 4161, nameIndex := 345, descriptorIndex := 156, attributes := #[] }] 49 2 #[349, 351, 353, 355] #[{ accessFlags := 24, nameIndex := 357, descriptorIndex := 358, attributes := #[] }])
  fields := #[{ name := "serialVersionUID", type := .long, accessFlags := 24, slot := 0, constantValue := 0 }]
  methods := #[k11m0, k11m1, k11m2, k11m3]
  instanceTypes := #[(.array .byte), .byte, .boolean, .int]
  staticTypes := #[.long]
  resolved := Array.replicate 422 none
  statics := none }

def pool12 : Array CpInfo := pool [(2, .class_ 4), (1, u "java/lang/Object"), (0, u "<init>"), (0, u "()V"), (1, .class_ 10), (1, u "java/lang/System"), (0, u "allowSecurityManager"), (0, u "I"), (16, u "cons"), (0, u "Ljava/io/Console;"), (77, .class_ 110), (1, u "java/lang/System$CallersHolder"), (43, u "initialErrStream"), (0, u "Ljava/io/PrintStream;"), (19, u "security"), (0, u "Ljava/lang/SecurityManager;"), (31, .class_ 209), (0, u "java/lang/System$1"), (7, u "props"), (0, u "Ljava/util/Properties;"), (2, u "lineSeparator"), (0, u "Ljava/lang/String;"), (96, .class_ 321), (1, u "java/lang/System$LoggerFinder"), (5, .class_ 328), (0, u "java/lang/System$Logger"), (67, u "err"), (2, u "out"), (91, u "notSupportedJnuEncoding"), (15, u "in"), (17, u "initialIn"), (0, u "Ljava/io/InputStream;"), (35, u "bootLayer"), (0, u "Ljava/lang/ModuleLayer;"), (99, .class_ 664), (0, u "java/lang/System$2"), (9, u "NEVER"), (2, u "MAYBE"), (49, u "arraycopy"), (0, u "(Ljava/lang/Object;ILjava/lang/Object;II)V"), (72, .class_ 802), (0, u "java/lang/System$Logger$Level")] 31

def k12m0 : Method := { name := "<init>", desc := "()V", sig := { parameters := [], returnType := none }, accessFlags := 2, code := none }
def k12m1 : Method := { name := "arraycopy", desc := "(Ljava/lang/Object;ILjava/lang/Object;II)V", sig := { parameters := [(.object "java/lang/Object"), .int, (.object "java/lang/Object"), .int, .int], returnType := none }, accessFlags := 265, code := none }
/-- java/lang/System -/
def k12 : Class := { plain "java/lang/System" (some 0) with
  accessFlags := 49
  interfaces := #[]
  cf := some (fileOf pool12 8 #[.nestMembers #[319, 327, 801, 108, 663, 208]] #[{ accessFlags := 2, nameIndex := 5, descriptorIndex := 6, attributes := #[] }, { accessFlags := 265, nameIndex := 727, descriptorIndex := 728, attributes := #[] }] 49 2 #[] #[{ accessFlags := 25, nameIndex := 507, descriptorIndex := 526, attributes := #[] }, { accessFlags := 25, nameIndex := 399, descriptorIndex := 155, attributes := #[] }, { accessFlags := 25, nameIndex := 396, descriptorIndex := 155, attributes := #[] }, { accessFlags := 10, nameIndex := 525, descriptorIndex := 526, attributes := #[] }, { accessFlags := 26, nameIndex := 674, descriptorIndex := 12, attributes := #[] }, { accessFlags := 26, nameIndex := 677, descriptorIndex := 12, attributes := #[] }, { accessFlags := 10, nameIndex := 11, descriptorIndex := 12, attributes := #[] }, { accessFlags := 74, nameIndex := 175, descriptorIndex := 176, attributes := #[] }, { accessFlags := 10, nameIndex := 491, descriptorIndex := 222, attributes := #[] }, { accessFlags := 74, nameIndex := 29, descriptorIndex := 30, attributes := #[] }, { accessFlags := 74, nameIndex := 154, descriptorIndex := 155, attributes := #[] }, { accessFlags := 10, nameIndex := 217, descriptorIndex := 218, attributes := #[] }, { accessFlags := 10, nameIndex := 221, descriptorIndex := 222, attributes := #[] }, { accessFlags := 8, nameIndex := 562, descriptorIndex := 563, attributes := #[] }])
  fields := #[{ name := "in", type := (.object "java/io/InputStream"), accessFlags := 25, slot := 0, constantValue := 0 }, { name := "out", type := (.object "java/io/PrintStream"), accessFlags := 25, slot := 1, constantValue := 0 }, { name := "err", type := (.object "java/io/PrintStream"), accessFlags := 25, slot := 2, constantValue := 0 }, { name := "initialIn", type := (.object "java/io/InputStream"), accessFlags := 10, slot := 3, constantValue := 0 }, { name := "NEVER", type := .int, accessFlags := 26, slot := 4, constantValue := 0 }, { name := "MAYBE", type := .int, accessFlags := 26, slot := 5, constantValue := 0 }, { name := "allowSecurityManager", type := .int, accessFlags := 10, slot := 6, constantValue := 0 }, { name := "security", type := (.object "java/lang/SecurityManager"), accessFlags := 74, slot := 7, constantValue := 0 }, { name := "notSupportedJnuEncoding", type := (.object "java/lang/String"), accessFlags := 10, slot := 8, constantValue := 0 }, { name := "cons", type := (.object "java/io/Console"), accessFlags := 74, slot := 9, constantValue := 0 }, { name := "initialErrStream", type := (.object "java/io/PrintStream"), accessFlags := 74, slot := 10, constantValue := 0 }, { name := "props", type := (.object "java/util/Properties"), accessFlags := 10, slot := 11, constantValue := 0 }, { name := "lineSeparator", type := (.object "java/lang/String"), accessFlags := 10, slot := 12, constantValue := 0 }, { name := "bootLayer", type := (.object "java/lang/ModuleLayer"), accessFlags := 8, slot := 13, constantValue := 0 }]
  methods := #[k12m0, k12m1]
  instanceTypes := #[]
  staticTypes := #[(.object "java/io/InputStream"), (.object "java/io/PrintStream"), (.object "java/io/PrintStream"), (.object "java/io/InputStream"), .int, .int, .int, (.object "java/lang/SecurityManager"), (.object "java/lang/String"), (.object "java/io/Console"), (.object "java/io/PrintStream"), (.object "java/util/Properties"), (.object "java/lang/String"), (.object "java/lang/ModuleLayer")]
  resolved := Array.replicate 834 none
  statics := none }

def pool13 : Array CpInfo := pool [(2, .class_ 4), (1, u "java/lang/Object"), (0, u "<init>"), (0, u "()V"), (7, .class_ 16), (1, u "java/util/Arrays"), (57, .class_ 76), (1, u "java/util/Arrays$NaturalOrder"), (36, .class_ 115), (1, u "java/util/Arrays$LegacyMergeSort"), (1, u "Z"), (21, u "copyOfRange"), (10, .methodref 151 152), (0, .class_ 153), (0, .nameAndType 154 155), (0, u "java/lang/System"), (0, u "arraycopy"), (0, u "(Ljava/lang/Object;ILjava/lang/Object;II)V"), (146, u "copyOf"), (1, .methodref 305 306), (0, .class_ 307), (0, .nameAndType 308 309), (0, u "java/lang/Math"), (0, u "min"), (0, u "(II)I"), (29, .methodref 14 340), (0, .nameAndType 341 342), (0, u "copyOfRangeByte"), (0, u "([BII)[B"), (0, .methodref 14 344), (0, .nameAndType 345 346), (0, u "checkLength"), (0, u "(II)V"), (28, .class_ 376), (0, u "java/util/Arrays$ArrayList"), (68, u "$assertionsDisabled"), (269, u "MIN_ARRAY_SORT_GRAN"), (0, u "I"), (2, u "INSERTIONSORT_THRESHOLD"), (120, u "fill"), (9, u "([BB)V"), (18, u "([BI)[B"), (105, .class_ 976), (0, u "java/util/Arrays$ArrayItr")] 52

def k13m0 : Method := { name := "<init>", desc := "()V", sig := { parameters := [], returnType := none }, accessFlags := 2, code := none }
def k13c1 : Code := { maxStack := 3, maxLocals := 4, code := jdk_65_method_109_code, exceptionTable := #[], attributes := #[] }
def k13m1 : Method := { name := "fill", desc := "([BB)V", sig := { parameters := [(.array .byte), .byte], returnType := none }, accessFlags := 9, code := some k13c1 }
def k13c2 : Code := { maxStack := 6, maxLocals := 3, code := jdk_65_method_121_code, exceptionTable := #[], attributes := #[] }
def k13m2 : Method := { name := "copyOf", desc := "([BI)[B", sig := { parameters := [(.array .byte), .int], returnType := some (.array .byte) }, accessFlags := 9, code := some k13c2 }
def k13c3 : Code := { maxStack := 4, maxLocals := 2, code := jdk_65_method_131_code, exceptionTable := #[], attributes := #[] }
def k13m3 : Method := { name := "checkLength", desc := "(II)V", sig := { parameters := [.int, .int], returnType := none }, accessFlags := 10, code := some k13c3 }
def k13c4 : Code := { maxStack := 3, maxLocals := 3, code := jdk_65_method_132_code, exceptionTable := #[], attributes := #[] }
def k13m4 : Method := { name := "copyOfRange", desc := "([BII)[B", sig := { parameters := [(.array .byte), .int, .int], returnType := some (.array .byte) }, accessFlags := 9, code := some k13c4 }
def k13c5 : Code := { maxStack := 6, maxLocals := 5, code := jdk_65_method_133_code, exceptionTable := #[], attributes := #[] }
def k13m5 : Method := { name := "copyOfRangeByte", desc := "([BII)[B", sig := { parameters := [(.array .byte), .int, .int], returnType := some (.array .byte) }, accessFlags := 10, code := some k13c5 }
/-- java/util/Arrays -/
def k13 : Class := { plain "java/util/Arrays" (some 0) with
  accessFlags := 49
  interfaces := #[]
  cf := some (fileOf pool13 14 #[.nestMembers #[975, 375, 113, 74]] #[{ accessFlags := 2, nameIndex := 5, descriptorIndex := 6, attributes := #[] }, { accessFlags := 9, nameIndex := 840, descriptorIndex := 850, attributes := #[] }, { accessFlags := 9, nameIndex := 302, descriptorIndex := 869, attributes := #[] }, { accessFlags := 10, nameIndex := 345, descriptorIndex := 346, attributes := #[] }, { accessFlags := 9, nameIndex := 139, descriptorIndex := 342, attributes := #[] }, { accessFlags := 10, nameIndex := 341, descriptorIndex := 342, attributes := #[] }] 49 2 #[] #[{ accessFlags := 26, nameIndex := 715, descriptorIndex := 716, attributes := #[] }, { accessFlags := 26, nameIndex := 719, descriptorIndex := 716, attributes := #[] }, { accessFlags := 4120, nameIndex := 445, descriptorIndex := 117, attributes := #[] }])
  fields := #[{ name := "MIN_ARRAY_SORT_GRAN", type := .int, accessFlags := 26, slot := 0, constantValue := 0 }, { name := "INSERTIONSORT_THRESHOLD", type := .int, accessFlags := 26, slot := 1, constantValue := 0 }, { name := "$assertionsDisabled", type := .boolean, accessFlags := 4120, slot := 2, constantValue := 0 }]
  methods := #[k13m0, k13m1, k13m2, k13m3, k13m4, k13m5]
  instanceTypes := #[]
  staticTypes := #[.int, .int, .boolean]
  resolved := Array.replicate 1029 none
  statics := none }

def pool14 : Array CpInfo := pool [(1, .class_ 2), (0, u "java/lang/Math"), (1, .class_ 6), (1, u "java/lang/Object"), (0, u "<init>"), (0, u "()V"), (89, .class_ 100), (1, u "java/lang/Math$RandomNumberGeneratorHolder"), (71, u "negativeZeroFloatBits"), (0, u "J"), (2, u "negativeZeroDoubleBits"), (21, u "max"), (2, u "min"), (43, u "$assertionsDisabled"), (0, u "Z"), (88, u "(II)I"), (2, u "twoToTheDoubleScaleDown"), (0, u "D"), (4, u "twoToTheDoubleScaleUp"), (9, u "E"), (3, u "PI"), (2, u "TAU"), (2, u "DEGREES_TO_RADIANS"), (0, u "RADIANS_TO_DEGREES")] 94

def k14m0 : Method := { name := "<init>", desc := "()V", sig := { parameters := [], returnType := none }, accessFlags := 2, code := none }
def k14c1 : Code := { maxStack := 2, maxLocals := 2, code := jdk_29_method_65_code, exceptionTable := #[], attributes := #[] }
def k14m1 : Method := { name := "max", desc := "(II)I", sig := { parameters := [.int, .int], returnType := some .int }, accessFlags := 9, code := some k14c1 }
def k14c2 : Code := { maxStack := 2, maxLocals := 2, code := jdk_29_method_69_code, exceptionTable := #[], attributes := #[] }
def k14m2 : Method := { name := "min", desc := "(II)I", sig := { parameters := [.int, .int], returnType := some .int }, accessFlags := 9, code := some k14c2 }
/-- java/lang/Math -/
def k14 : Class := { plain "java/lang/Math" (some 0) with
  accessFlags := 49
  interfaces := #[]
  cf := some (fileOf pool14 1 #[.nestMembers #[98]] #[{ accessFlags := 2, nameIndex := 7, descriptorIndex := 8, attributes := #[] }, { accessFlags := 9, nameIndex := 198, descriptorIndex := 335, attributes := #[] }, { accessFlags := 9, nameIndex := 201, descriptorIndex := 335, attributes := #[] }] 49 4 #[] #[{ accessFlags := 25, nameIndex := 354, descriptorIndex := 339, attributes := #[] }, { accessFlags := 25, nameIndex := 358, descriptorIndex := 339, attributes := #[] }, { accessFlags := 25, nameIndex := 361, descriptorIndex := 339, attributes := #[] }, { accessFlags := 26, nameIndex := 364, descriptorIndex := 339, attributes := #[] }, { accessFlags := 26, nameIndex := 365, descriptorIndex := 339, attributes := #[] }, { accessFlags := 26, nameIndex := 172, descriptorIndex := 173, attributes := #[] }, { accessFlags := 26, nameIndex := 176, descriptorIndex := 173, attributes := #[] }, { accessFlags := 8, nameIndex := 344, descriptorIndex := 339, attributes := #[] }, { accessFlags := 8, nameIndex := 338, descriptorIndex := 339, attributes := #[] }, { accessFlags := 4120, nameIndex := 245, descriptorIndex := 246, attributes := #[] }])
  fields := #[{ name := "E", type := .double, accessFlags := 25, slot := 0, constantValue := 0 }, { name := "PI", type := .double, accessFlags := 25, slot := 1, constantValue := 0 }, { name := "TAU", type := .double, accessFlags := 25, slot := 2, constantValue := 0 }, { name := "DEGREES_TO_RADIANS", type := .double, accessFlags := 26, slot := 3, constantValue := 0 }, { name := "RADIANS_TO_DEGREES", type := .double, accessFlags := 26, slot := 4, constantValue := 0 }, { name := "negativeZeroFloatBits", type := .long, accessFlags := 26, slot := 5, constantValue := 0 }, { name := "negativeZeroDoubleBits", type := .long, accessFlags := 26, slot := 6, constantValue := 0 }, { name := "twoToTheDoubleScaleUp", type := .double, accessFlags := 8, slot := 7, constantValue := 0 }, { name := "twoToTheDoubleScaleDown", type := .double, accessFlags := 8, slot := 8, constantValue := 0 }, { name := "$assertionsDisabled", type := .boolean, accessFlags := 4120, slot := 9, constantValue := 0 }]
  methods := #[k14m0, k14m1, k14m2]
  instanceTypes := #[]
  staticTypes := #[.double, .double, .double, .double, .double, .long, .long, .double, .double, .boolean]
  resolved := Array.replicate 460 none
  statics := none }

def pool15 : Array CpInfo := pool [(9, u "<init>"), (6, .class_ 18), (1, u "java/lang/Object"), (0, u "()V"), (1, .class_ 23), (1, u "jdk/internal/util/ArraysSupport"), (0, u "LOG2_ARRAY_LONG_INDEX_SCALE"), (0, u "I"), (2, u "U"), (0, u "Ljdk/internal/misc/Unsafe;"), (8, u "BIG_ENDIAN"), (0, u "Z"), (8, u "LOG2_BYTE_BIT_SIZE"), (4, u "LOG2_ARRAY_INT_INDEX_SCALE"), (54, u "JLA"), (0, u "Ljdk/internal/access/JavaLangAccess;"), (11, u "LOG2_ARRAY_BOOLEAN_INDEX_SCALE"), (9, u "LOG2_ARRAY_BYTE_INDEX_SCALE"), (5, u "LOG2_ARRAY_CHAR_INDEX_SCALE"), (5, u "LOG2_ARRAY_SHORT_INDEX_SCALE"), (18, u "LOG2_ARRAY_FLOAT_INDEX_SCALE"), (24, u "LOG2_ARRAY_DOUBLE_INDEX_SCALE"), (6, .methodref 195 196), (0, .class_ 197), (0, .nameAndType 198 199), (0, u "java/lang/Math"), (0, u "max"), (0, u "(II)I"), (0, .integer 2147483639), (76, u "T_BOOLEAN"), (2, u "T_CHAR"), (1, u "T_FLOAT"), (1, u "T_DOUBLE"), (1, u "T_BYTE"), (1, u "T_SHORT"), (1, u "T_INT"), (1, u "T_LONG"), (1, u "SOFT_MAX_ARRAY_LENGTH"), (56, u "newLength"), (0, u "(III)I")] 25

def k15m0 : Method := { name := "<init>", desc := "()V", sig := { parameters := [], returnType := none }, accessFlags := 2, code := none }
def k15c1 : Code := { maxStack := 3, maxLocals := 4, code := jdk_48_method_27_code, exceptionTable := #[], attributes := #[] }
def k15m1 : Method := { name := "newLength", desc := "(III)I", sig := { parameters := [.int, .int, .int], returnType := some .int }, accessFlags := 9, code := some k15c1 }
/-- jdk/internal/util/ArraysSupport -/
def k15 : Class := { plain "jdk/internal/util/ArraysSupport" (some 0) with
  accessFlags := 33
  interfaces := #[]
  cf := some (fileOf pool15 21 #[] #[{ accessFlags := 2, nameIndex := 9, descriptorIndex := 19, attributes := #[] }, { accessFlags := 9, nameIndex := 351, descriptorIndex := 352, attributes := #[] }] 33 16 #[] #[{ accessFlags := 24, nameIndex := 28, descriptorIndex := 29, attributes := #[] }, { accessFlags := 26, nameIndex := 38, descriptorIndex := 39, attributes := #[] }, { accessFlags := 25, nameIndex := 121, descriptorIndex := 25, attributes := #[] }, { accessFlags := 25, nameIndex := 131, descriptorIndex := 25, attributes := #[] }, { accessFlags := 25, nameIndex := 137, descriptorIndex := 25, attributes := #[] }, { accessFlags := 25, nameIndex := 143, descriptorIndex := 25, attributes := #[] }, { accessFlags := 25, nameIndex := 53, descriptorIndex := 25, attributes := #[] }, { accessFlags := 25, nameIndex := 24, descriptorIndex := 25, attributes := #[] }, { accessFlags := 25, nameIndex := 162, descriptorIndex := 25, attributes := #[] }, { accessFlags := 25, nameIndex := 187, descriptorIndex := 25, attributes := #[] }, { accessFlags := 26, nameIndex := 48, descriptorIndex := 25, attributes := #[] }, { accessFlags := 25, nameIndex := 277, descriptorIndex := 25, attributes := #[] }, { accessFlags := 25, nameIndex := 280, descriptorIndex := 25, attributes := #[] }, { accessFlags := 25, nameIndex := 282, descriptorIndex := 25, attributes := #[] }, { accessFlags := 25, nameIndex := 284, descriptorIndex := 25, attributes := #[] }, { accessFlags := 25, nameIndex := 286, descriptorIndex := 25, attributes := #[] }, { accessFlags := 25, nameIndex := 288, descriptorIndex := 25, attributes := #[] }, { accessFlags := 25, nameIndex := 290, descriptorIndex := 25, attributes := #[] }, { accessFlags := 25, nameIndex := 292, descriptorIndex := 25, attributes := #[] }, { accessFlags := 26, nameIndex := 108, descriptorIndex := 109, attributes := #[] }, { accessFlags := 25, nameIndex := 294, descriptorIndex := 25, attributes := #[] }])
  fields := #[{ name := "U", type := (.object "jdk/internal/misc/Unsafe"), accessFlags := 24, slot := 0, constantValue := 0 }, { name := "BIG_ENDIAN", type := .boolean, accessFlags := 26, slot := 1, constantValue := 0 }, { name := "LOG2_ARRAY_BOOLEAN_INDEX_SCALE", type := .int, accessFlags := 25, slot := 2, constantValue := 0 }, { name := "LOG2_ARRAY_BYTE_INDEX_SCALE", type := .int, accessFlags := 25, slot := 3, constantValue := 0 }, { name := "LOG2_ARRAY_CHAR_INDEX_SCALE", type := .int, accessFlags := 25, slot := 4, constantValue := 0 }, { name := "LOG2_ARRAY_SHORT_INDEX_SCALE", type := .int, accessFlags := 25, slot := 5, constantValue := 0 }, { name := "LOG2_ARRAY_INT_INDEX_SCALE", type := .int, accessFlags := 25, slot := 6, constantValue := 0 }, { name := "LOG2_ARRAY_LONG_INDEX_SCALE", type := .int, accessFlags := 25, slot := 7, constantValue := 0 }, { name := "LOG2_ARRAY_FLOAT_INDEX_SCALE", type := .int, accessFlags := 25, slot := 8, constantValue := 0 }, { name := "LOG2_ARRAY_DOUBLE_INDEX_SCALE", type := .int, accessFlags := 25, slot := 9, constantValue := 0 }, { name := "LOG2_BYTE_BIT_SIZE", type := .int, accessFlags := 26, slot := 10, constantValue := 0 }, { name := "T_BOOLEAN", type := .int, accessFlags := 25, slot := 11, constantValue := 0 }, { name := "T_CHAR", type := .int, accessFlags := 25, slot := 12, constantValue := 0 }, { name := "T_FLOAT", type := .int, accessFlags := 25, slot := 13, constantValue := 0 }, { name := "T_DOUBLE", type := .int, accessFlags := 25, slot := 14, constantValue := 0 }, { name := "T_BYTE", type := .int, accessFlags := 25, slot := 15, constantValue := 0 }, { name := "T_SHORT", type := .int, accessFlags := 25, slot := 16, constantValue := 0 }, { name := "T_INT", type := .int, accessFlags := 25, slot := 17, constantValue := 0 }, { name := "T_LONG", type := .int, accessFlags := 25, slot := 18, constantValue := 0 }, { name := "JLA", type := (.object "jdk/internal/access/JavaLangAccess"), accessFlags := 26, slot := 19, constantValue := 0 }, { name := "SOFT_MAX_ARRAY_LENGTH", type := .int, accessFlags := 25, slot := 20, constantValue := 0 }]
  methods := #[k15m0, k15m1]
  instanceTypes := #[]
  staticTypes := #[(.object "jdk/internal/misc/Unsafe"), .boolean, .int, .int, .int, .int, .int, .int, .int, .int, .int, .int, .int, .int, .int, .int, .int, .int, .int, (.object "jdk/internal/access/JavaLangAccess"), .int]
  resolved := Array.replicate 378 none
  statics := none }

def pool16 : Array CpInfo := pool [(4, .class_ 6), (1, u "java/lang/Object"), (0, u "<init>"), (0, u "()V"), (5, .class_ 16), (1, u "java/lang/StringLatin1"), (104, u "$assertionsDisabled"), (0, u "Z"), (98, .class_ 223), (1, u "java/lang/StringLatin1$LinesSpliterator"), (166, .class_ 391), (0, u "java/lang/StringLatin1$CharsSpliterator")] 3

def k16m0 : Method := { name := "<init>", desc := "()V", sig := { parameters := [], returnType := none }, accessFlags := 0, code := none }
/-- java/lang/StringLatin1 -/
def k16 : Class := { plain "java/lang/StringLatin1" (some 0) with
  accessFlags := 48
  interfaces := #[]
  cf := some (fileOf pool16 14 #[.nestMembers #[390, 221]] #[{ accessFlags := 0, nameIndex := 7, descriptorIndex := 8, attributes := #[] }] 48 4 #[] #[{ accessFlags := 4120, nameIndex := 121, descriptorIndex := 122, attributes := #[] }])
  fields := #[{ name := "$assertionsDisabled", type := .boolean, accessFlags := 4120, slot := 0, constantValue := 0 }]
  methods := #[k16m0]
  instanceTypes := #[]
  staticTypes := #[.boolean]
  resolved := Array.replicate 395 none
  statics := none }

def pool17 : Array CpInfo := pool [(2, .class_ 4), (1, u "java/lang/Object"), (0, u "<init>"), (0, u "()V"), (17, .class_ 26), (1, u "jdk/internal/util/Preconditions"), (28, .class_ 56), (0, u "jdk/internal/util/Preconditions$4"), (57, .class_ 115), (0, u "jdk/internal/util/Preconditions$1"), (7, u "SIOOBE_FORMATTER"), (0, u "Ljava/util/function/BiFunction;"), (0, .class_ 126), (0, u "jdk/internal/util/Preconditions$2"), (3, u "AIOOBE_FORMATTER"), (0, .class_ 132), (0, u "jdk/internal/util/Preconditions$3"), (3, u "IOOBE_FORMATTER")] 57

def k17m0 : Method := { name := "<init>", desc := "()V", sig := { parameters := [], returnType := none }, accessFlags := 1, code := none }
/-- jdk/internal/util/Preconditions -/
def k17 : Class := { plain "jdk/internal/util/Preconditions" (some 0) with
  accessFlags := 33
  interfaces := #[]
  cf := some (fileOf pool17 24 #[.nestMembers #[55, 131, 125, 114]] #[{ accessFlags := 1, nameIndex := 5, descriptorIndex := 6, attributes := #[] }] 33 2 #[] #[{ accessFlags := 25, nameIndex := 123, descriptorIndex := 124, attributes := #[] }, { accessFlags := 25, nameIndex := 130, descriptorIndex := 124, attributes := #[] }, { accessFlags := 25, nameIndex := 136, descriptorIndex := 124, attributes := #[] }])
  fields := #[{ name := "SIOOBE_FORMATTER", type := (.object "java/util/function/BiFunction"), accessFlags := 25, slot := 0, constantValue := 0 }, { name := "AIOOBE_FORMATTER", type := (.object "java/util/function/BiFunction"), accessFlags := 25, slot := 1, constantValue := 0 }, { name := "IOOBE_FORMATTER", type := (.object "java/util/function/BiFunction"), accessFlags := 25, slot := 2, constantValue := 0 }]
  methods := #[k17m0]
  instanceTypes := #[]
  staticTypes := #[(.object "java/util/function/BiFunction"), (.object "java/util/function/BiFunction"), (.object "java/util/function/BiFunction")]
  resolved := Array.replicate 194 none
  statics := some 2 }

def pool18 : Array CpInfo := pool [(1, u "java/lang/Cloneable"), (0, .class_ 1), (0, u "java/lang/Object"), (0, .class_ 3)] 3

/-- java/lang/Cloneable -/
def k18 : Class := { plain "java/lang/Cloneable" (some 0) with
  accessFlags := 1537
  interfaces := #[]
  cf := some (fileOf pool18 2 #[] #[] 1537 4 #[] #[])
  fields := #[]
  methods := #[]
  instanceTypes := #[]
  staticTypes := #[]
  resolved := Array.replicate 8 none
  statics := none }

/-- the primitive byte -/
def k19 : Class := { plain "byte" none with kind := .primitive 'B', accessFlags := 0x411 }
/-- [B -/
def k20 : Class := { plain "[B" (some 0) with kind := .array 19 .byte, interfaces := #[18, 3], accessFlags := 1041 }

/-- the primitive int -/
def k21 : Class := { plain "int" none with kind := .primitive 'I', accessFlags := 0x411 }
/-- [I -/
def k22 : Class := { plain "[I" (some 0) with kind := .array 21 .int, interfaces := #[18, 3], accessFlags := 1041 }

/-- [Ljava/lang/String; -/
def k23 : Class := { plain "[Ljava/lang/String;" (some 0) with kind := .array 8 (.object "java/lang/String"), interfaces := #[18, 3], accessFlags := 1041 }

def heap : Heap := #[{ cls := 2, slots := #[.int 0, .int 10], vm := .statics 2 },
  { cls := 8, slots := #[.long 0, .int 1, .null, .int 0, .null, .int 0, .int 0], vm := .statics 8 },
  { cls := 17, slots := #[.null, .null, .null], vm := .statics 17 }]
def classes : Array Class := #[k0, k1, k2, k3, k4, k5, k6, k7, k8, k9, k10, k11, k12, k13, k14, k15, k16, k17, k18, k19, k20, k21, k22, k23]
def interned : List (Array UInt16 × Addr) := []
def slotsUsed : Nat := 12
def theMethod : MethodId := ⟨1, 1⟩
def args0 : Array Value := #[.int 5, .int 7, .long 1, .long 2, .long 3]
def aboutOver (below : List Frame) : State where
  vm := { classes := classes, interned := interned.toArray }
  heap := heap
  slotsUsed := slotsUsed
  threads := #[{ frames := .invoking theMethod args0 :: below }]
def below0 : List Frame := [.native { method := ⟨0, 0⟩, args := #[] }]
def about1 : State := aboutOver below0
def p0 : Program := .bare "" "" ""
def e0 : Env := launch0.env 0 0 0
theorem w_frames : about1.frames = Frame.invoking theMethod args0 :: below0 := rfl
set_option maxRecDepth 65536 in
theorem w_args : argsFit about1.vm theMethod args0 = true := by decide +kernel
set_option maxRecDepth 65536 in
theorem w_heap : heapFits about1 = true := by decide +kernel
set_option maxRecDepth 65536 in
theorem w_runnable : about1.curStatus? = some .runnable := by decide +kernel
set_option maxRecDepth 65536 in
theorem w_alone : about1.alone = true := by decide +kernel
set_option maxRecDepth 65536 in
theorem w_named : about1.methodNamed? x = some theMethod := by decide +kernel
set_option maxRecDepth 65536 in
theorem w_hears : about1.hears theMethod below0 = true := by decide +kernel
set_option maxRecDepth 65536 in
theorem w_ripe : about1.ripe theMethod args0 below0 = true := by decide +kernel
theorem w_running : about1.status = .running := rfl
set_option maxRecDepth 65536 in
theorem w_room : about1.hasRoom e0.platform room_1 = true :=
  launch0.hasRoom_least _ room_1 (by decide +kernel) (by decide +kernel) (by decide +kernel) (by decide +kernel) (by decide +kernel) (by decide +kernel)
theorem allAtoms_all (ts : List Jvm.Cond) (a : Array Jvm.Value) (st : Jvm.State) : (allAtoms ts).before a st = ts.all (fun c => c.before a st) := by
  induction ts with
  | nil => rfl
  | cons c t ih =>
    show (Jvm.Cond.and c (allAtoms t)).before a st = _
    rw [Jvm.Cond.before_and, ih, List.all_cons]
def words1 : List Jvm.Cond := Jvm.Cond.code x code maxLocals ret :: tables_1
/-- a 'code' word, met by the world's own term for the bytes: nothing is compared byte by byte -/
theorem code_word {y : MethodName} {bytes : ByteArray} {mx : Nat} {rt : Option FieldType} {a : Array Value} {s : State} {m : MethodId} {meth : Method} {c : Code} (h1 : s.methodNamed? y = some m) (h2 : s.vm.method? m = some meth) (h3 : meth.code = some c) (h4 : c.code = bytes)
    (h5 : (c.maxLocals == mx && c.exceptionTable.isEmpty && decide (c.maxStack ≤ mostOperands) && decide (meth.sig.returnType = rt) && !meth.locks && decide (parseMethodDescriptor y.desc = some meth.sig)) = true) : (Jvm.Cond.code y bytes mx rt).before a s = true := by
  simp only [Bool.and_eq_true, beq_iff_eq, Bool.not_eq_true', decide_eq_true_eq] at h5
  obtain ⟨⟨⟨⟨⟨g1, g2⟩, g3⟩, g4⟩, g5⟩, g6⟩ := h5
  simp [Cond.before, Cond.holds, Cond.value, h1, h2, h3, h4, g1, g2, g3, g4, g5, g6]
def isCode : Jvm.Cond → Bool
  | .code _ _ _ _ => true
  | _ => false
theorem all_split {L : List Jvm.Cond} {P : Jvm.Cond → Bool} (h1 : L.all (fun c => isCode c || P c) = true) (h2 : ∀ c ∈ L.filter isCode, P c = true) : L.all P = true := by
  refine List.all_eq_true.mpr fun c hc => ?_
  have h := List.all_eq_true.mp h1 c hc
  rcases Bool.eq_false_or_eq_true (isCode c) with hi | hi
  · exact h2 c (List.mem_filter.mpr ⟨hc, hi⟩)
  · simpa [hi] using h
set_option maxRecDepth 65536 in
theorem w_c0 : (Jvm.Cond.code x code maxLocals ret).before args0 about1 = true := code_word (m := ⟨1, 1⟩) (meth := k1m1) (c := k1c1) (by decide +kernel) rfl rfl rfl (by decide +kernel)
set_option maxRecDepth 65536 in
theorem w_c1 : (Jvm.Cond.code ({ cls := "com/example/defer2/defer2/bench/Plan", name := "<init>", desc := "(Ljava/lang/String;IJJJ)V" } : Jvm.MethodName) prog_6_method_1_code (11 : Nat) (Option.none : Option Jvm.ClassFile.FieldType)).before args0 about1 = true := code_word (m := ⟨2, 0⟩) (meth := k2m0) (c := k2c0) (by decide +kernel) rfl rfl rfl (by decide +kernel)
set_option maxRecDepth 65536 in
theorem w_c2 : (Jvm.Cond.code ({ cls := "java/lang/Object", name := "<init>", desc := "()V" } : Jvm.MethodName) object_method_1_code (1 : Nat) (Option.none : Option Jvm.ClassFile.FieldType)).before args0 about1 = true := code_word (m := ⟨0, 0⟩) (meth := k0m0) (c := k0c0) (by decide +kernel) rfl rfl rfl (by decide +kernel)
set_option maxRecDepth 65536 in
theorem w_c3 : (Jvm.Cond.code ({ cls := "java/lang/StringBuilder", name := "<init>", desc := "()V" } : Jvm.MethodName) jdk_67_method_1_code (1 : Nat) (Option.none : Option Jvm.ClassFile.FieldType)).before args0 about1 = true := code_word (m := ⟨11, 0⟩) (meth := k11m0) (c := k11c0) (by decide +kernel) rfl rfl rfl (by decide +kernel)
set_option maxRecDepth 65536 in
theorem w_c4 : (Jvm.Cond.code ({ cls := "java/lang/AbstractStringBuilder", name := "<init>", desc := "(I)V" } : Jvm.MethodName) jdk_68_method_2_code (2 : Nat) (Option.none : Option Jvm.ClassFile.FieldType)).before args0 about1 = true := code_word (m := ⟨10, 1⟩) (meth := k10m1) (c := k10c1) (by decide +kernel) rfl rfl rfl (by decide +kernel)
set_option maxRecDepth 65536 in
theorem w_c5 : (Jvm.Cond.code ({ cls := "java/lang/StringBuilder", name := "append", desc := "(Ljava/lang/String;)Ljava/lang/StringBuilder;" } : Jvm.MethodName) jdk_67_method_7_code (2 : Nat) (Option.some (Jvm.ClassFile.FieldType.object "java/lang/StringBuilder"))).before args0 about1 = true := code_word (m := ⟨11, 1⟩) (meth := k11m1) (c := k11c1) (by decide +kernel) rfl rfl rfl (by decide +kernel)
set_option maxRecDepth 65536 in
theorem w_c6 : (Jvm.Cond.code ({ cls := "java/lang/AbstractStringBuilder", name := "append", desc := "(Ljava/lang/String;)Ljava/lang/AbstractStringBuilder;" } : Jvm.MethodName) jdk_68_method_22_code (3 : Nat) (Option.some (Jvm.ClassFile.FieldType.object "java/lang/AbstractStringBuilder"))).before args0 about1 = true := code_word (m := ⟨10, 5⟩) (meth := k10m5) (c := k10c5) (by decide +kernel) rfl rfl rfl (by decide +kernel)
set_option maxRecDepth 65536 in
theorem w_c7 : (Jvm.Cond.code ({ cls := "java/lang/String", name := "length", desc := "()I" } : Jvm.MethodName) jdk_42_method_54_code (1 : Nat) (Option.some Jvm.ClassFile.FieldType.int)).before args0 about1 = true := code_word (m := ⟨8, 2⟩) (meth := k8m2) (c := k8c2) (by decide +kernel) rfl rfl rfl (by decide +kernel)
set_option maxRecDepth 65536 in
theorem w_c8 : (Jvm.Cond.code ({ cls := "java/lang/String", name := "coder", desc := "()B" } : Jvm.MethodName) jdk_42_method_152_code (1 : Nat) (Option.some Jvm.ClassFile.FieldType.byte)).before args0 about1 = true := code_word (m := ⟨8, 7⟩) (meth := k8m7) (c := k8c7) (by decide +kernel) rfl rfl rfl (by decide +kernel)
set_option maxRecDepth 65536 in
theorem w_c9 : (Jvm.Cond.code ({ cls := "java/lang/AbstractStringBuilder", name := "ensureCapacityInternal", desc := "(I)V" } : Jvm.MethodName) jdk_68_method_9_code (3 : Nat) (Option.none : Option Jvm.ClassFile.FieldType)).before args0 about1 = true := code_word (m := ⟨10, 3⟩) (meth := k10m3) (c := k10c3) (by decide +kernel) rfl rfl rfl (by decide +kernel)
set_option maxRecDepth 65536 in
theorem w_c10 : (Jvm.Cond.code ({ cls := "java/lang/AbstractStringBuilder", name := "putStringAt", desc := "(ILjava/lang/String;)V" } : Jvm.MethodName) jdk_68_method_73_code (3 : Nat) (Option.none : Option Jvm.ClassFile.FieldType)).before args0 about1 = true := code_word (m := ⟨10, 9⟩) (meth := k10m9) (c := k10c9) (by decide +kernel) rfl rfl rfl (by decide +kernel)
set_option maxRecDepth 65536 in
theorem w_c11 : (Jvm.Cond.code ({ cls := "java/lang/AbstractStringBuilder", name := "inflateIfNeededFor", desc := "(Ljava/lang/String;)V" } : Jvm.MethodName) jdk_68_method_71_code (2 : Nat) (Option.none : Option Jvm.ClassFile.FieldType)).before args0 about1 = true := code_word (m := ⟨10, 8⟩) (meth := k10m8) (c := k10c8) (by decide +kernel) rfl rfl rfl (by decide +kernel)
set_option maxRecDepth 65536 in
theorem w_c12 : (Jvm.Cond.code ({ cls := "java/lang/String", name := "getBytes", desc := "([BIB)V" } : Jvm.MethodName) jdk_42_method_147_code (4 : Nat) (Option.none : Option Jvm.ClassFile.FieldType)).before args0 about1 = true := code_word (m := ⟨8, 4⟩) (meth := k8m4) (c := k8c4) (by decide +kernel) rfl rfl rfl (by decide +kernel)
set_option maxRecDepth 65536 in
theorem w_c13 : (Jvm.Cond.code ({ cls := "java/lang/StringBuilder", name := "toString", desc := "()Ljava/lang/String;" } : Jvm.MethodName) jdk_67_method_42_code (1 : Nat) (Option.some (Jvm.ClassFile.FieldType.object "java/lang/String"))).before args0 about1 = true := code_word (m := ⟨11, 2⟩) (meth := k11m2) (c := k11c2) (by decide +kernel) rfl rfl rfl (by decide +kernel)
set_option maxRecDepth 65536 in
theorem w_c14 : (Jvm.Cond.code ({ cls := "java/lang/String", name := "<init>", desc := "(Ljava/lang/StringBuilder;)V" } : Jvm.MethodName) jdk_42_method_53_code (2 : Nat) (Option.none : Option Jvm.ClassFile.FieldType)).before args0 about1 = true := code_word (m := ⟨8, 1⟩) (meth := k8m1) (c := k8c1) (by decide +kernel) rfl rfl rfl (by decide +kernel)
set_option maxRecDepth 65536 in
theorem w_c15 : (Jvm.Cond.code ({ cls := "java/lang/String", name := "<init>", desc := "(Ljava/lang/AbstractStringBuilder;Ljava/lang/Void;)V" } : Jvm.MethodName) jdk_42_method_150_code (5 : Nat) (Option.none : Option Jvm.ClassFile.FieldType)).before args0 about1 = true := code_word (m := ⟨8, 5⟩) (meth := k8m5) (c := k8c5) (by decide +kernel) rfl rfl rfl (by decide +kernel)
set_option maxRecDepth 65536 in
theorem w_c16 : (Jvm.Cond.code ({ cls := "java/lang/AbstractStringBuilder", name := "getValue", desc := "()[B" } : Jvm.MethodName) jdk_68_method_64_code (1 : Nat) (Option.some (Jvm.ClassFile.FieldType.array Jvm.ClassFile.FieldType.byte))).before args0 about1 = true := code_word (m := ⟨10, 6⟩) (meth := k10m6) (c := k10c6) (by decide +kernel) rfl rfl rfl (by decide +kernel)
set_option maxRecDepth 65536 in
theorem w_c17 : (Jvm.Cond.code ({ cls := "java/lang/StringBuilder", name := "length", desc := "()I" } : Jvm.MethodName) jdk_67_method_93_code (1 : Nat) (Option.some Jvm.ClassFile.FieldType.int)).before args0 about1 = true := code_word (m := ⟨11, 3⟩) (meth := k11m3) (c := k11c3) (by decide +kernel) rfl rfl rfl (by decide +kernel)
set_option maxRecDepth 65536 in
theorem w_c18 : (Jvm.Cond.code ({ cls := "java/lang/AbstractStringBuilder", name := "length", desc := "()I" } : Jvm.MethodName) jdk_68_method_6_code (1 : Nat) (Option.some Jvm.ClassFile.FieldType.int)).before args0 about1 = true := code_word (m := ⟨10, 2⟩) (meth := k10m2) (c := k10c2) (by decide +kernel) rfl rfl rfl (by decide +kernel)
set_option maxRecDepth 65536 in
theorem w_c19 : (Jvm.Cond.code ({ cls := "java/lang/AbstractStringBuilder", name := "isLatin1", desc := "()Z" } : Jvm.MethodName) jdk_68_method_68_code (1 : Nat) (Option.some Jvm.ClassFile.FieldType.boolean)).before args0 about1 = true := code_word (m := ⟨10, 7⟩) (meth := k10m7) (c := k10c7) (by decide +kernel) rfl rfl rfl (by decide +kernel)
set_option maxRecDepth 65536 in
theorem w_c20 : (Jvm.Cond.code ({ cls := "java/util/Arrays", name := "copyOfRange", desc := "([BII)[B" } : Jvm.MethodName) jdk_65_method_132_code (3 : Nat) (Option.some (Jvm.ClassFile.FieldType.array Jvm.ClassFile.FieldType.byte))).before args0 about1 = true := code_word (m := ⟨13, 4⟩) (meth := k13m4) (c := k13c4) (by decide +kernel) rfl rfl rfl (by decide +kernel)
set_option maxRecDepth 65536 in
theorem w_c21 : (Jvm.Cond.code ({ cls := "java/util/Arrays", name := "copyOfRangeByte", desc := "([BII)[B" } : Jvm.MethodName) jdk_65_method_133_code (5 : Nat) (Option.some (Jvm.ClassFile.FieldType.array Jvm.ClassFile.FieldType.byte))).before args0 about1 = true := code_word (m := ⟨13, 5⟩) (meth := k13m5) (c := k13c5) (by decide +kernel) rfl rfl rfl (by decide +kernel)
set_option maxRecDepth 65536 in
theorem w_c22 : (Jvm.Cond.code ({ cls := "java/util/Arrays", name := "checkLength", desc := "(II)V" } : Jvm.MethodName) jdk_65_method_131_code (2 : Nat) (Option.none : Option Jvm.ClassFile.FieldType)).before args0 about1 = true := code_word (m := ⟨13, 3⟩) (meth := k13m3) (c := k13c3) (by decide +kernel) rfl rfl rfl (by decide +kernel)
set_option maxRecDepth 65536 in
theorem w_c23 : (Jvm.Cond.code ({ cls := "java/lang/Math", name := "min", desc := "(II)I" } : Jvm.MethodName) jdk_29_method_69_code (2 : Nat) (Option.some Jvm.ClassFile.FieldType.int)).before args0 about1 = true := code_word (m := ⟨14, 2⟩) (meth := k14m2) (c := k14c2) (by decide +kernel) rfl rfl rfl (by decide +kernel)
set_option maxRecDepth 65536 in
theorem w_c24 : (Jvm.Cond.code ({ cls := "java/lang/AbstractStringBuilder", name := "newCapacity", desc := "(I)I" } : Jvm.MethodName) jdk_68_method_10_code (6 : Nat) (Option.some Jvm.ClassFile.FieldType.int)).before args0 about1 = true := code_word (m := ⟨10, 4⟩) (meth := k10m4) (c := k10c4) (by decide +kernel) rfl rfl rfl (by decide +kernel)
set_option maxRecDepth 65536 in
theorem w_c25 : (Jvm.Cond.code ({ cls := "jdk/internal/util/ArraysSupport", name := "newLength", desc := "(III)I" } : Jvm.MethodName) jdk_48_method_27_code (4 : Nat) (Option.some Jvm.ClassFile.FieldType.int)).before args0 about1 = true := code_word (m := ⟨15, 1⟩) (meth := k15m1) (c := k15c1) (by decide +kernel) rfl rfl rfl (by decide +kernel)
set_option maxRecDepth 65536 in
theorem w_c26 : (Jvm.Cond.code ({ cls := "java/lang/Math", name := "max", desc := "(II)I" } : Jvm.MethodName) jdk_29_method_65_code (2 : Nat) (Option.some Jvm.ClassFile.FieldType.int)).before args0 about1 = true := code_word (m := ⟨14, 1⟩) (meth := k14m1) (c := k14c1) (by decide +kernel) rfl rfl rfl (by decide +kernel)
set_option maxRecDepth 65536 in
theorem w_c27 : (Jvm.Cond.code ({ cls := "java/util/Arrays", name := "copyOf", desc := "([BI)[B" } : Jvm.MethodName) jdk_65_method_121_code (3 : Nat) (Option.some (Jvm.ClassFile.FieldType.array Jvm.ClassFile.FieldType.byte))).before args0 about1 = true := code_word (m := ⟨13, 2⟩) (meth := k13m2) (c := k13c2) (by decide +kernel) rfl rfl rfl (by decide +kernel)
set_option maxRecDepth 65536 in
theorem w_c28 : (Jvm.Cond.code ({ cls := "java/lang/String", name := "repeat", desc := "(I)Ljava/lang/String;" } : Jvm.MethodName) jdk_42_method_145_code (5 : Nat) (Option.some (Jvm.ClassFile.FieldType.object "java/lang/String"))).before args0 about1 = true := code_word (m := ⟨8, 3⟩) (meth := k8m3) (c := k8c3) (by decide +kernel) rfl rfl rfl (by decide +kernel)
set_option maxRecDepth 65536 in
theorem w_c29 : (Jvm.Cond.code ({ cls := "java/util/Arrays", name := "fill", desc := "([BB)V" } : Jvm.MethodName) jdk_65_method_109_code (4 : Nat) (Option.none : Option Jvm.ClassFile.FieldType)).before args0 about1 = true := code_word (m := ⟨13, 1⟩) (meth := k13m1) (c := k13c1) (by decide +kernel) rfl rfl rfl (by decide +kernel)
set_option maxRecDepth 65536 in
theorem w_c30 : (Jvm.Cond.code ({ cls := "java/lang/String", name := "<init>", desc := "([BB)V" } : Jvm.MethodName) jdk_42_method_151_code (3 : Nat) (Option.none : Option Jvm.ClassFile.FieldType)).before args0 about1 = true := code_word (m := ⟨8, 6⟩) (meth := k8m6) (c := k8c6) (by decide +kernel) rfl rfl rfl (by decide +kernel)
set_option maxRecDepth 65536 in
theorem w_c31 : (Jvm.Cond.code ({ cls := "com/example/defer2/defer2/bench/Plan", name := "dueAt", desc := "(I)J" } : Jvm.MethodName) prog_6_method_4_code (2 : Nat) (Option.some Jvm.ClassFile.FieldType.long)).before args0 about1 = true := code_word (m := ⟨2, 1⟩) (meth := k2m1) (c := k2c1) (by decide +kernel) rfl rfl rfl (by decide +kernel)
def codes1 : List Jvm.Cond := [Jvm.Cond.code x code maxLocals ret, Jvm.Cond.code ({ cls := "com/example/defer2/defer2/bench/Plan", name := "<init>", desc := "(Ljava/lang/String;IJJJ)V" } : Jvm.MethodName) prog_6_method_1_code (11 : Nat) (Option.none : Option Jvm.ClassFile.FieldType), Jvm.Cond.code ({ cls := "java/lang/Object", name := "<init>", desc := "()V" } : Jvm.MethodName) object_method_1_code (1 : Nat) (Option.none : Option Jvm.ClassFile.FieldType), Jvm.Cond.code ({ cls := "java/lang/StringBuilder", name := "<init>", desc := "()V" } : Jvm.MethodName) jdk_67_method_1_code (1 : Nat) (Option.none : Option Jvm.ClassFile.FieldType), Jvm.Cond.code ({ cls := "java/lang/AbstractStringBuilder", name := "<init>", desc := "(I)V" } : Jvm.MethodName) jdk_68_method_2_code (2 : Nat) (Option.none : Option Jvm.ClassFile.FieldType), Jvm.Cond.code ({ cls := "java/lang/StringBuilder", name := "append", desc := "(Ljava/lang/String;)Ljava/lang/StringBuilder;" } : Jvm.MethodName) jdk_67_method_7_code (2 : Nat) (Option.some (Jvm.ClassFile.FieldType.object "java/lang/StringBuilder")), Jvm.Cond.code ({ cls := "java/lang/AbstractStringBuilder", name := "append", desc := "(Ljava/lang/String;)Ljava/lang/AbstractStringBuilder;" } : Jvm.MethodName) jdk_68_method_22_code (3 : Nat) (Option.some (Jvm.ClassFile.FieldType.object "java/lang/AbstractStringBuilder")), Jvm.Cond.code ({ cls := "java/lang/String", name := "length", desc := "()I" } : Jvm.MethodName) jdk_42_method_54_code (1 : Nat) (Option.some Jvm.ClassFile.FieldType.int), Jvm.Cond.code ({ cls := "java/lang/String", name := "coder", desc := "()B" } : Jvm.MethodName) jdk_42_method_152_code (1 : Nat) (Option.some Jvm.ClassFile.FieldType.byte), Jvm.Cond.code ({ cls := "java/lang/AbstractStringBuilder", name := "ensureCapacityInternal", desc := "(I)V" } : Jvm.MethodName) jdk_68_method_9_code (3 : Nat) (Option.none : Option Jvm.ClassFile.FieldType), Jvm.Cond.code ({ cls := "java/lang/AbstractStringBuilder", name := "putStringAt", desc := "(ILjava/lang/String;)V" } : Jvm.MethodName) jdk_68_method_73_code (3 : Nat) (Option.none : Option Jvm.ClassFile.FieldType), Jvm.Cond.code ({ cls := "java/lang/AbstractStringBuilder", name := "inflateIfNeededFor", desc := "(Ljava/lang/String;)V" } : Jvm.MethodName) jdk_68_method_71_code (2 : Nat) (Option.none : Option Jvm.ClassFile.FieldType), Jvm.Cond.code ({ cls := "java/lang/String", name := "getBytes", desc := "([BIB)V" } : Jvm.MethodName) jdk_42_method_147_code (4 : Nat) (Option.none : Option Jvm.ClassFile.FieldType), Jvm.Cond.code ({ cls := "java/lang/StringBuilder", name := "toString", desc := "()Ljava/lang/String;" } : Jvm.MethodName) jdk_67_method_42_code (1 : Nat) (Option.some (Jvm.ClassFile.FieldType.object "java/lang/String")), Jvm.Cond.code ({ cls := "java/lang/String", name := "<init>", desc := "(Ljava/lang/StringBuilder;)V" } : Jvm.MethodName) jdk_42_method_53_code (2 : Nat) (Option.none : Option Jvm.ClassFile.FieldType), Jvm.Cond.code ({ cls := "java/lang/String", name := "<init>", desc := "(Ljava/lang/AbstractStringBuilder;Ljava/lang/Void;)V" } : Jvm.MethodName) jdk_42_method_150_code (5 : Nat) (Option.none : Option Jvm.ClassFile.FieldType), Jvm.Cond.code ({ cls := "java/lang/AbstractStringBuilder", name := "getValue", desc := "()[B" } : Jvm.MethodName) jdk_68_method_64_code (1 : Nat) (Option.some (Jvm.ClassFile.FieldType.array Jvm.ClassFile.FieldType.byte)), Jvm.Cond.code ({ cls := "java/lang/StringBuilder", name := "length", desc := "()I" } : Jvm.MethodName) jdk_67_method_93_code (1 : Nat) (Option.some Jvm.ClassFile.FieldType.int), Jvm.Cond.code ({ cls := "java/lang/AbstractStringBuilder", name := "length", desc := "()I" } : Jvm.MethodName) jdk_68_method_6_code (1 : Nat) (Option.some Jvm.ClassFile.FieldType.int), Jvm.Cond.code ({ cls := "java/lang/AbstractStringBuilder", name := "isLatin1", desc := "()Z" } : Jvm.MethodName) jdk_68_method_68_code (1 : Nat) (Option.some Jvm.ClassFile.FieldType.boolean), Jvm.Cond.code ({ cls := "java/util/Arrays", name := "copyOfRange", desc := "([BII)[B" } : Jvm.MethodName) jdk_65_method_132_code (3 : Nat) (Option.some (Jvm.ClassFile.FieldType.array Jvm.ClassFile.FieldType.byte)), Jvm.Cond.code ({ cls := "java/util/Arrays", name := "copyOfRangeByte", desc := "([BII)[B" } : Jvm.MethodName) jdk_65_method_133_code (5 : Nat) (Option.some (Jvm.ClassFile.FieldType.array Jvm.ClassFile.FieldType.byte)), Jvm.Cond.code ({ cls := "java/util/Arrays", name := "checkLength", desc := "(II)V" } : Jvm.MethodName) jdk_65_method_131_code (2 : Nat) (Option.none : Option Jvm.ClassFile.FieldType), Jvm.Cond.code ({ cls := "java/lang/Math", name := "min", desc := "(II)I" } : Jvm.MethodName) jdk_29_method_69_code (2 : Nat) (Option.some Jvm.ClassFile.FieldType.int), Jvm.Cond.code ({ cls := "java/lang/AbstractStringBuilder", name := "newCapacity", desc := "(I)I" } : Jvm.MethodName) jdk_68_method_10_code (6 : Nat) (Option.some Jvm.ClassFile.FieldType.int), Jvm.Cond.code ({ cls := "jdk/internal/util/ArraysSupport", name := "newLength", desc := "(III)I" } : Jvm.MethodName) jdk_48_method_27_code (4 : Nat) (Option.some Jvm.ClassFile.FieldType.int), Jvm.Cond.code ({ cls := "java/lang/Math", name := "max", desc := "(II)I" } : Jvm.MethodName) jdk_29_method_65_code (2 : Nat) (Option.some Jvm.ClassFile.FieldType.int), Jvm.Cond.code ({ cls := "java/util/Arrays", name := "copyOf", desc := "([BI)[B" } : Jvm.MethodName) jdk_65_method_121_code (3 : Nat) (Option.some (Jvm.ClassFile.FieldType.array Jvm.ClassFile.FieldType.byte)), Jvm.Cond.code ({ cls := "java/lang/String", name := "repeat", desc := "(I)Ljava/lang/String;" } : Jvm.MethodName) jdk_42_method_145_code (5 : Nat) (Option.some (Jvm.ClassFile.FieldType.object "java/lang/String")), Jvm.Cond.code ({ cls := "java/util/Arrays", name := "fill", desc := "([BB)V" } : Jvm.MethodName) jdk_65_method_109_code (4 : Nat) (Option.none : Option Jvm.ClassFile.FieldType), Jvm.Cond.code ({ cls := "java/lang/String", name := "<init>", desc := "([BB)V" } : Jvm.MethodName) jdk_42_method_151_code (3 : Nat) (Option.none : Option Jvm.ClassFile.FieldType), Jvm.Cond.code ({ cls := "com/example/defer2/defer2/bench/Plan", name := "dueAt", desc := "(I)J" } : Jvm.MethodName) prog_6_method_4_code (2 : Nat) (Option.some Jvm.ClassFile.FieldType.long)]
set_option maxRecDepth 65536 in
theorem codes_eq : words1.filter isCode = codes1 := rfl
theorem w_codes : ∀ c ∈ words1.filter isCode, c.before args0 about1 = true := by
  rw [codes_eq]
  intro c hc
  simp only [codes1, List.mem_cons, List.not_mem_nil, or_false] at hc
  rcases hc with rfl | rfl | rfl | rfl | rfl | rfl | rfl | rfl | rfl | rfl | rfl | rfl | rfl | rfl | rfl | rfl | rfl | rfl | rfl | rfl | rfl | rfl | rfl | rfl | rfl | rfl | rfl | rfl | rfl | rfl | rfl | rfl
  · exact w_c0
  · exact w_c1
  · exact w_c2
  · exact w_c3
  · exact w_c4
  · exact w_c5
  · exact w_c6
  · exact w_c7
  · exact w_c8
  · exact w_c9
  · exact w_c10
  · exact w_c11
  · exact w_c12
  · exact w_c13
  · exact w_c14
  · exact w_c15
  · exact w_c16
  · exact w_c17
  · exact w_c18
  · exact w_c19
  · exact w_c20
  · exact w_c21
  · exact w_c22
  · exact w_c23
  · exact w_c24
  · exact w_c25
  · exact w_c26
  · exact w_c27
  · exact w_c28
  · exact w_c29
  · exact w_c30
  · exact w_c31
set_option maxRecDepth 65536 in
theorem w_t1 : (words1.take 24).all (fun c => isCode c || c.before args0 about1) = true := by decide +kernel
set_option maxRecDepth 65536 in
theorem w_t2 : ((words1.drop 24).take 24).all (fun c => isCode c || c.before args0 about1) = true := by decide +kernel
set_option maxRecDepth 65536 in
theorem w_t3 : (((words1.drop 24).drop 24).take 24).all (fun c => isCode c || c.before args0 about1) = true := by decide +kernel
set_option maxRecDepth 65536 in
theorem w_t4 : ((((words1.drop 24).drop 24).drop 24).take 24).all (fun c => isCode c || c.before args0 about1) = true := by decide +kernel
set_option maxRecDepth 65536 in
theorem w_t5 : (((((words1.drop 24).drop 24).drop 24).drop 24).take 24).all (fun c => isCode c || c.before args0 about1) = true := by decide +kernel
set_option maxRecDepth 65536 in
theorem w_t6 : ((((((words1.drop 24).drop 24).drop 24).drop 24).drop 24).take 24).all (fun c => isCode c || c.before args0 about1) = true := by decide +kernel
set_option maxRecDepth 65536 in
theorem w_t7 : (((((((words1.drop 24).drop 24).drop 24).drop 24).drop 24).drop 24).take 24).all (fun c => isCode c || c.before args0 about1) = true := by decide +kernel
set_option maxRecDepth 65536 in
theorem w_t8 : ((((((((words1.drop 24).drop 24).drop 24).drop 24).drop 24).drop 24).drop 24).take 24).all (fun c => isCode c || c.before args0 about1) = true := by decide +kernel
set_option maxRecDepth 65536 in
theorem w_t9 : ((((((((words1.drop 24).drop 24).drop 24).drop 24).drop 24).drop 24).drop 24).drop 24).all (fun c => isCode c || c.before args0 about1) = true := by decide +kernel
theorem w_tables : (allAtoms (Jvm.Cond.code x code maxLocals ret :: tables_1)).before args0 about1 = true := by
  rw [allAtoms_all]
  show words1.all (fun c => c.before args0 about1) = true
  refine all_split ?_ w_codes
  rw [← List.take_append_drop 24 words1, List.all_append, w_t1, ← List.take_append_drop 24 (words1.drop 24), List.all_append, w_t2, ← List.take_append_drop 24 ((words1.drop 24).drop 24), List.all_append, w_t3, ← List.take_append_drop 24 (((words1.drop 24).drop 24).drop 24), List.all_append, w_t4, ← List.take_append_drop 24 ((((words1.drop 24).drop 24).drop 24).drop 24), List.all_append, w_t5, ← List.take_append_drop 24 (((((words1.drop 24).drop 24).drop 24).drop 24).drop 24), List.all_append, w_t6, ← List.take_append_drop 24 ((((((words1.drop 24).drop 24).drop 24).drop 24).drop 24).drop 24), List.all_append, w_t7, ← List.take_append_drop 24 (((((((words1.drop 24).drop 24).drop 24).drop 24).drop 24).drop 24).drop 24), List.all_append, w_t8, w_t9]
  rfl
set_option maxRecDepth 65536 in
theorem w_rest : rest_1_c.before args0 about1 = true := by decide +kernel
set_option maxRecDepth 65536 in
theorem w_case : (Jvm.Cond.and given_1 narrow_1).before args0 about1 = true := by decide +kernel
set_option maxRecDepth 65536 in
theorem w_consts : constsHeld consts_1 about1 := Jvm.Lit.constsHeldB_iff.mp (by decide +kernel)
theorem w_applies : (headSpec (Jvm.Cond.code x code maxLocals ret :: tables_1) room_1).applies x e0.platform about1 = true :=
  (Spec.applies_iff w_frames).mpr ⟨w_running, w_runnable, w_alone, w_named, w_hears, w_ripe, w_room, w_tables⟩
theorem atStart : AtStart classFile x code maxLocals ret World_1 tables_1 room_1 Calls_1 rest_1 Pre_1 launch0 p0 e0 about1 theMethod args0 below0 :=
  ⟨lists_1, trivial, launch0.admits_env _ _ _, launch0.least_env, fairChoices_fair.cas, fairChoices_fair.clock, w_frames, w_args, w_heap, w_applies, ⟨w_consts, trivial⟩, w_rest, w_case⟩
end start1
theorem witness_1 : WitnessClaimed_1 := ⟨start1.p0, start1.e0, start1.about1, start1.theMethod, start1.args0, start1.below0, start1.atStart⟩
end Jvm.Pilot.@@N@@
